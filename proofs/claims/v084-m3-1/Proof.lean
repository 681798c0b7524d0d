import JvmDerived
import JvmDerived.Pilot.@@N@@Statement
import JvmDerived.Pilot.@@N@@Code
set_option linter.unusedVariables false
set_option linter.unusedSimpArgs false
namespace Jvm.Pilot.@@N@@
open Jvm Jvm.ClassFile Sem Op Lib Jvm.Free Jvm.Stand Jvm.LawKit Jvm.RoadKit Bundle Jvm.Pilot.@@N@@.Jvm.D
/-! own layer: forward walking in continuation style, arrays as functions -/
def own_R (tb : Tables) (e : Env) (below : List Frame) (P : State → Outcome → Prop) (st : State) : Prop := ∃ t o, Steps tb e below st t ∧ P t o
theorem own_fwd {tb : Tables} {e : Env} {below : List Frame} {P : State → Outcome → Prop} {st st' : State} (k : ∀ t, Steps tb e below st' t → Steps tb e below st t) (h : own_R tb e below P st') : own_R tb e below P st := by
  obtain ⟨t, o, h1, h2⟩ := h; exact ⟨t, o, k t h1, h2⟩
theorem own_trn {tb : Tables} {e : Env} {below : List Frame} {P : State → Outcome → Prop} {st st' : State} (k : Steps tb e below st st') (h : own_R tb e below P st') : own_R tb e below P st := own_fwd (fun _ q => k.trans q) h
theorem own_nm {tb : Tables} {e : Env} {below : List Frame} {P : State → Outcome → Prop} {st : State} (h : ∀ P' : State → Outcome → Prop, (∀ t o, P t o → P' t o) → own_R tb e below P' st) : own_R tb e below P st := h P fun _ _ q => q
/-- an array, n long, place i holds f i -/
def own_AV (Z : State) (h : Heap) (a : Addr) (ty : FieldType) (n : Nat) (f : Nat → Value) : Prop := ∃ c : Cell, Arr Z h a c ty ∧ c.slots.size = n ∧ n < 2 ^ 31 ∧ ∀ i, i < n → c.slots[i]? = some (f i)
abbrev own_AI (Z : State) (h : Heap) (a : Addr) (ty : FieldType) (n : Nat) (f : Nat → Int32) : Prop := own_AV Z h a ty n fun i => .int (f i)
abbrev own_AJ (Z : State) (h : Heap) (a : Addr) (n : Nat) (f : Nat → Int64) : Prop := own_AV Z h a .long n fun i => .long (f i)
def own_upd {α : Type} (f : Nat → α) (i : Nat) (x : α) : Nat → α := fun k => if k = i then x else f k
theorem own_upd_hit {α : Type} (f : Nat → α) (i : Nat) (x : α) : own_upd f i x i = x := if_pos rfl
theorem own_upd_miss {α : Type} (f : Nat → α) {i k : Nat} (x : α) (q : k ≠ i) : own_upd f i x k = f k := if_neg q
section Own
variable {p : Program} {l : Launch} {e : Env} {R : Room} {s : State} {m : MethodId} {args : Array Value} {below : List Frame} {meth : Method} {c : Code} {T : State} {locs : List Loc} {cells slots : Nat} {Z : State} {a0 : Array Value} {h h' : Heap} {a b : Addr} {ty : FieldType} {n : Nat} {f : Nat → Value} {v : Value} {sl : Nat}
theorem own_AV.lt (F : own_AV Z h a ty n f) : a < h.size := by obtain ⟨c, A, -⟩ := F; exact A.lt
theorem own_AV.bd (F : own_AV Z h a ty n f) : n < 2 ^ 31 := by obtain ⟨c, A, -, q, -⟩ := F; exact q
theorem own_AV.ext (F : own_AV Z h a ty n f) (E : Ext h h') : own_AV Z h' a ty n f := by obtain ⟨c, A, r⟩ := F; exact ⟨c, A.ext E, r⟩
theorem own_AV.other (F : own_AV Z h b ty n f) (W : Wr h h' a sl v) (q : b ≠ a) : own_AV Z h' b ty n f := by obtain ⟨c, A, r⟩ := F; exact ⟨c, A.other W q, r⟩
theorem own_AV.keep {ws : List Addr} (F : own_AV Z h a ty n f) (K : Keep h h' ws) (q : a ∉ ws) : own_AV Z h' a ty n f := by obtain ⟨c, A, r⟩ := F; exact ⟨c, ⟨K.2.1 a c A.1 q, A.2⟩, r⟩
theorem own_AV.cong {f' : Nat → Value} (F : own_AV Z h a ty n f) (q : ∀ i, i < n → f' i = f i) : own_AV Z h a ty n f' := by obtain ⟨c, A, r1, r2, r3⟩ := F; exact ⟨c, A, r1, r2, fun i hi => by rw [q i hi]; exact r3 i hi⟩
theorem own_clamp {j : Int32} {i : Nat} (hj : j.toInt = (i : Int)) : j.toNatClampNeg = i ∧ ¬ j < 0 := by
  have q0 : (0 : Int32).toInt = 0 := rfl
  exact ⟨by unfold Int32.toNatClampNeg; omega, by rw [Int32.lt_iff_toInt_lt]; omega⟩
theorem own_inb {cl : Cell} {j : Int32} {i : Nat} (hj : j.toInt = (i : Int)) (S : cl.slots.size = n) (hi : i < n) : ¬ (j < 0 ∨ cl.slots.size ≤ j.toNatClampNeg) := by
  obtain ⟨q1, q2⟩ := own_clamp hj
  rw [q1]; rintro (q | q)
  · exact q2 q
  · omega
theorem own_AV.new {k : ClassId} {z : Int32} (A : Arr Z h a (newA k ty z) ty) (hz : z.toInt = (n : Int)) : own_AV Z h a ty n (fun _ => defaultValue ty) := by
  obtain ⟨q1, q2⟩ := own_clamp hz
  have hb := z.toInt_lt
  refine ⟨_, A, by rw [sz_new]; exact q1, by omega, fun i hi => ?_⟩
  simp [newA, q1, hi]
theorem own_ldI (X : Stand p l e R s m args below meth c T locs cells slots) (hx : p.tables.exec = Jvm.exec) (hZ : Z.Warmed39 s.vm) (eT : T.heap = h) (F : own_AV Z h a .int n f) {j : Int32} (i : Nat) (hj : j.toInt = (i : Int)) (hi : i < n) {g : JFrame} (hg : g.method = m) {rest : List Value} (hs : g.stack = .int j :: .ref a :: rest) (hd : decode c.code g.pc = .ok (.iaload, 1)) :
    ∀ t, Steps p.tables e below (T.setTop { g with pc := g.pc + 1, stack := f i :: rest }) t → Steps p.tables e below (T.setTop g) t := fun t k => by
  obtain ⟨cl, A, S, -, H⟩ := F
  exact X.iaload hx (by rw [eT]; exact A.1) (State.isArrayOf_alike hZ.alike A.2.1) A.2.2 (own_inb hj S hi) (by rw [(own_clamp hj).1]; exact H i hi) hg hs hd t k
theorem own_ldS (X : Stand p l e R s m args below meth c T locs cells slots) (hx : p.tables.exec = Jvm.exec) (hZ : Z.Warmed39 s.vm) (eT : T.heap = h) (F : own_AV Z h a .short n f) {j : Int32} (i : Nat) (hj : j.toInt = (i : Int)) (hi : i < n) {g : JFrame} (hg : g.method = m) {rest : List Value} (hs : g.stack = .int j :: .ref a :: rest) (hd : decode c.code g.pc = .ok (.saload, 1)) :
    ∀ t, Steps p.tables e below (T.setTop { g with pc := g.pc + 1, stack := f i :: rest }) t → Steps p.tables e below (T.setTop g) t := fun t k => by
  obtain ⟨cl, A, S, -, H⟩ := F
  exact X.saload hx (by rw [eT]; exact A.1) (State.isArrayOf_alike hZ.alike A.2.1) A.2.2 (own_inb hj S hi) (by rw [(own_clamp hj).1]; exact H i hi) hg hs hd t k
theorem own_ldC (X : Stand p l e R s m args below meth c T locs cells slots) (hx : p.tables.exec = Jvm.exec) (hZ : Z.Warmed39 s.vm) (eT : T.heap = h) (F : own_AV Z h a .char n f) {j : Int32} (i : Nat) (hj : j.toInt = (i : Int)) (hi : i < n) {g : JFrame} (hg : g.method = m) {rest : List Value} (hs : g.stack = .int j :: .ref a :: rest) (hd : decode c.code g.pc = .ok (.caload, 1)) :
    ∀ t, Steps p.tables e below (T.setTop { g with pc := g.pc + 1, stack := f i :: rest }) t → Steps p.tables e below (T.setTop g) t := fun t k => by
  obtain ⟨cl, A, S, -, H⟩ := F
  exact X.caload hx (by rw [eT]; exact A.1) (State.isArrayOf_alike hZ.alike A.2.1) A.2.2 (own_inb hj S hi) (by rw [(own_clamp hj).1]; exact H i hi) hg hs hd t k
theorem own_ldJ (X : Stand p l e R s m args below meth c T locs cells slots) (hx : p.tables.exec = Jvm.exec) (hZ : Z.Warmed39 s.vm) (eT : T.heap = h) (F : own_AV Z h a .long n f) {j : Int32} (i : Nat) (hj : j.toInt = (i : Int)) (hi : i < n) {g : JFrame} (hg : g.method = m) {rest : List Value} (hs : g.stack = .int j :: .ref a :: rest) (hd : decode c.code g.pc = .ok (.laload, 1)) :
    ∀ t, Steps p.tables e below (T.setTop { g with pc := g.pc + 1, stack := f i :: rest }) t → Steps p.tables e below (T.setTop g) t := fun t k => by
  obtain ⟨cl, A, S, -, H⟩ := F
  exact X.laload hx (by rw [eT]; exact A.1) (State.isArrayOf_alike hZ.alike A.2.1) A.2.2 (own_inb hj S hi) (by rw [(own_clamp hj).1]; exact H i hi) hg hs hd t k
theorem own_len (X : Stand p l e R s m args below meth c T locs cells slots) (hx : p.tables.exec = Jvm.exec) (hZ : Z.Warmed39 s.vm) (eT : T.heap = h) (F : own_AV Z h a ty n f) (z : Int32) (hz : z.toInt = (n : Int)) {g : JFrame} (hg : g.method = m) {rest : List Value} (hs : g.stack = .ref a :: rest) (hd : decode c.code g.pc = .ok (.arraylength, 1)) :
    ∀ t, Steps p.tables e below (T.setTop { g with pc := g.pc + 1, stack := .int z :: rest }) t → Steps p.tables e below (T.setTop g) t := fun t k => by
  obtain ⟨cl, A, S, q, H⟩ := F
  have e1 : cl.slots.size.toInt32 = z := by
    rw [S]; apply Int32.toInt_inj.mp; rw [hz]; exact len_toInt q
  refine X.arraylength hx (by rw [eT]; exact A.1) (State.isArrayOf_alike hZ.alike A.2.1) hg hs hd t ?_
  rw [e1]; exact k
theorem own_AV.set {h' : Heap} {cl : Cell} {j : Int32} {i : Nat} {w : Value} (A : Arr Z h a cl ty) (S : cl.slots.size = n) (q : n < 2 ^ 31) (H : ∀ i, i < n → cl.slots[i]? = some (f i)) (hj : j.toInt = (i : Int)) (hi : i < n) (W : Wr h h' a j.toNatClampNeg w) : own_AV Z h' a ty n (own_upd f i w) := by
  rw [(own_clamp hj).1] at W
  refine ⟨_, A.same W, by rw [sz_set]; exact S, q, fun k hk => ?_⟩
  by_cases e : k = i
  · subst e; rw [own_upd_hit]; simp [Cell.setSlot, S, hi]
  · rw [own_upd_miss _ _ e]; simp only [Cell.setSlot]; rw [Array.getElem?_setIfInBounds_ne (Ne.symm e)]; exact H k hk
theorem own_stI {g0 : Nat → Int32} (X : Stand p l e R s m args below meth c T locs cells slots) (hx : p.tables.exec = Jvm.exec) (hZ : Z.Warmed39 s.vm) (eT : T.heap = h) (F : own_AI Z h a .int n g0) {j x : Int32} (i : Nat) (hj : j.toInt = (i : Int)) (hi : i < n) {g : JFrame} (hg : g.method = m) {rest : List Value} (hs : g.stack = .int x :: .int j :: .ref a :: rest) (hd : decode c.code g.pc = .ok (.iastore, 1)) :
    ∃ T' h', Stand p l e R s m args below meth c T' (locs ++ [⟨a, j.toNatClampNeg⟩]) cells slots ∧ T'.heap = h' ∧ Wr h h' a j.toNatClampNeg (.int x) ∧ own_AI Z h' a .int n (own_upd g0 i x) ∧ ∀ t, Steps p.tables e below (T'.setTop { g with pc := g.pc + 1, stack := rest }) t → Steps p.tables e below (T.setTop g) t := by
  obtain ⟨cl, A, S, q, H⟩ := F
  obtain ⟨T', h', X', e', W, st⟩ := stI X hx hZ eT A (own_inb hj S hi) hg hs hd
  exact ⟨T', h', X', e', W, (own_AV.set A S q H hj hi W).cong fun k _ => by simp only [own_upd]; split <;> rfl, st⟩
theorem own_stS {g0 : Nat → Int32} (X : Stand p l e R s m args below meth c T locs cells slots) (hx : p.tables.exec = Jvm.exec) (hZ : Z.Warmed39 s.vm) (eT : T.heap = h) (F : own_AI Z h a .short n g0) {j x : Int32} (i : Nat) (hj : j.toInt = (i : Int)) (hi : i < n) {g : JFrame} (hg : g.method = m) {rest : List Value} (hs : g.stack = .int x :: .int j :: .ref a :: rest) (hd : decode c.code g.pc = .ok (.sastore, 1)) :
    ∃ T' h', Stand p l e R s m args below meth c T' (locs ++ [⟨a, j.toNatClampNeg⟩]) cells slots ∧ T'.heap = h' ∧ Wr h h' a j.toNatClampNeg (.int (nar .short x)) ∧ own_AI Z h' a .short n (own_upd g0 i (nar .short x)) ∧ ∀ t, Steps p.tables e below (T'.setTop { g with pc := g.pc + 1, stack := rest }) t → Steps p.tables e below (T.setTop g) t := by
  obtain ⟨cl, A, S, q, H⟩ := F
  obtain ⟨T', h', X', e', W, st⟩ := stS X hx hZ eT A (own_inb hj S hi) hg hs hd
  exact ⟨T', h', X', e', W, (own_AV.set A S q H hj hi W).cong fun k _ => by simp only [own_upd]; split <;> rfl, st⟩
theorem own_stC {g0 : Nat → Int32} (X : Stand p l e R s m args below meth c T locs cells slots) (hx : p.tables.exec = Jvm.exec) (hZ : Z.Warmed39 s.vm) (eT : T.heap = h) (F : own_AI Z h a .char n g0) {j x : Int32} (i : Nat) (hj : j.toInt = (i : Int)) (hi : i < n) {g : JFrame} (hg : g.method = m) {rest : List Value} (hs : g.stack = .int x :: .int j :: .ref a :: rest) (hd : decode c.code g.pc = .ok (.castore, 1)) :
    ∃ T' h', Stand p l e R s m args below meth c T' (locs ++ [⟨a, j.toNatClampNeg⟩]) cells slots ∧ T'.heap = h' ∧ Wr h h' a j.toNatClampNeg (.int (nar .char x)) ∧ own_AI Z h' a .char n (own_upd g0 i (nar .char x)) ∧ ∀ t, Steps p.tables e below (T'.setTop { g with pc := g.pc + 1, stack := rest }) t → Steps p.tables e below (T.setTop g) t := by
  obtain ⟨cl, A, S, q, H⟩ := F
  obtain ⟨T', h', X', e', W, st⟩ := stC X hx hZ eT A (own_inb hj S hi) hg hs hd
  exact ⟨T', h', X', e', W, (own_AV.set A S q H hj hi W).cong fun k _ => by simp only [own_upd]; split <;> rfl, st⟩
theorem own_stJ {g0 : Nat → Int64} (X : Stand p l e R s m args below meth c T locs cells slots) (hx : p.tables.exec = Jvm.exec) (hZ : Z.Warmed39 s.vm) (eT : T.heap = h) (F : own_AJ Z h a n g0) {j : Int32} {x : Int64} (i : Nat) (hj : j.toInt = (i : Int)) (hi : i < n) {g : JFrame} (hg : g.method = m) {rest : List Value} (hs : g.stack = .long x :: .int j :: .ref a :: rest) (hd : decode c.code g.pc = .ok (.lastore, 1)) :
    ∃ T' h', Stand p l e R s m args below meth c T' (locs ++ [⟨a, j.toNatClampNeg⟩]) cells slots ∧ T'.heap = h' ∧ Wr h h' a j.toNatClampNeg (.long x) ∧ own_AJ Z h' a n (own_upd g0 i x) ∧ ∀ t, Steps p.tables e below (T'.setTop { g with pc := g.pc + 1, stack := rest }) t → Steps p.tables e below (T.setTop g) t := by
  obtain ⟨cl, A, S, q, H⟩ := F
  obtain ⟨T', h', X', e', W, st⟩ := stJ X hx hZ eT A (own_inb hj S hi) hg hs hd
  exact ⟨T', h', X', e', W, (own_AV.set A S q H hj hi W).cong fun k _ => by simp only [own_upd]; split <;> rfl, st⟩
theorem own_newA (X : Stand p l e R s m args below meth c T locs cells slots) (hx : p.tables.exec = Jvm.exec) (hZ : Z.Warmed39 s.vm) {aty : ArrayType} (w : (Cond.arrayClass (newarray.typeOf aty)).before a0 Z = true) (eT : T.heap = h) {z : Int32} (hz : z.toInt = (n : Int)) {cap : Nat} (hcap : n ≤ cap) {g : JFrame} (hg : g.method = m) (hd : decode c.code g.pc = .ok (.newarray aty, 2)) {rest : List Value} (hs : g.stack = .int z :: rest)
    (hb : cap * 8 ≤ 536870912) (hc : cells + 1 ≤ R.cells) (hl : slots + cap ≤ R.slots) {ad : String} (had : "[" ++ (newarray.typeOf aty).toString = ad) :
    ∃ T' h' b, b = h.size ∧ Stand p l e R s m args below meth c T' locs (cells + 1) (slots + cap) ∧ T'.heap = h' ∧ Ext h h' ∧ own_AV Z h' b (newarray.typeOf aty) n (fun _ => defaultValue (newarray.typeOf aty)) ∧ Exa Z h' b ad ∧
      ∀ t, Steps p.tables e below (T'.setTop { g with pc := g.pc + 2, stack := .ref b :: rest }) t → Steps p.tables e below (T.setTop g) t := by
  obtain ⟨q1, q2⟩ := own_clamp hz
  obtain ⟨T', h', k, X', e', E, A, Ea, st⟩ := newPE X hx hZ w eT hg hd hs q2 (by rw [q1]; exact hcap) hb hc hl had
  exact ⟨T', h', _, rfl, X', e', E, own_AV.new A hz, Ea, st⟩
end Own
def own_two {α : Type} (x y : α) : Nat → α
  | 0 => x
  | _ => y
theorem own_two_0 {α : Type} (x y : α) : own_two x y 0 = x := rfl
theorem own_two_1 {α : Type} (x y : α) : own_two x y 1 = y := rfl
theorem own_nlt {i n : Nat} (hi : i < n) (hn : n < 2 ^ 31) : i.toInt32 < n.toInt32 := by
  rw [Int32.lt_iff_toInt_lt, len_toInt hn, len_toInt (by omega)]; omega
theorem own_nge {i n : Nat} (hi : n ≤ i) (hn : i < 2 ^ 31) : ¬ i.toInt32 < n.toInt32 := by
  rw [Int32.lt_iff_toInt_lt, len_toInt hn, len_toInt (by omega)]; omega
theorem own_nsucc {i : Nat} (hn : i + 1 < 2 ^ 31) : i.toInt32 + (1 : Int32) = (i + 1).toInt32 := by
  have e1 : (1 : Int32).toInt = 1 := rfl
  have h1 := c_iadd i.toInt32 1
  have h2 := rng32 (i.toInt32 + 1)
  rw [← Int32.toInt_inj, len_toInt hn]
  rw [len_toInt (by omega), e1] at h1
  omega
theorem own_and3 (x : Int32) : (x &&& (3 : Int32)) = 0 ∨ (x &&& (3 : Int32)) = 1 ∨ (x &&& (3 : Int32)) = 2 ∨ (x &&& (3 : Int32)) = 3 := by
  have h := c_mask x 3 2 (by decide) (by decide)
  have e : ((2 ^ 2 : Nat) : Int) = 4 := by decide
  rw [e] at h
  have e0 : (0 : Int32).toInt = 0 := rfl
  have e1 : (1 : Int32).toInt = 1 := rfl
  have e2 : (2 : Int32).toInt = 2 := rfl
  have e3 : (3 : Int32).toInt = 3 := rfl
  simp only [← Int32.toInt_inj]
  omega
theorem own_getD {f : Nat → Value} {n k : Nat} {d : Value} (hk : k < n) : ((List.range n).map f).getD k d = f k := by
  simp [List.getD, hk]
theorem own_AV.arv {Z : State} {h : Heap} {a : Addr} {ty : FieldType} {n : Nat} {f : Nat → Value} (F : own_AV Z h a ty n f) (q : ∀ i, i < n → fits ty (f i) = true) : ∃ k, Arv Z h a k ty n.toInt32 ((List.range n).map f) (defaultValue ty) := by
  obtain ⟨c, A, S, b, H⟩ := F
  obtain ⟨e1, e2⟩ := own_clamp (len_toInt b)
  refine ⟨c.cls, c, A, rfl, by rw [S, e1], e2, fun k hk => ?_, fun k hk => ?_⟩
  · rw [S] at hk; rw [own_getD hk]; exact H k hk
  · rw [S] at hk; rw [own_getD hk]; exact q k hk
theorem own_cp {p : Program} {l : Launch} {e : Env} {R : Room} {s : State} {m : MethodId} {args : Array Value} {below : List Frame} {meth : Method} {c : Code} {T : State} {locs : List Loc} {cells slots : Nat} {Z : State} {a0 : Array Value} {h : Heap} {a b : Addr} {ty : FieldType} {n N : Nat} {f g : Nat → Value}
    (X : Stand p l e R s m args below meth c T locs cells slots) (hx : p.tables.exec = Jvm.exec) (hZ : Z.Warmed39 s.vm) {own : String} {index : Nat} (hown : s.vm.findClass own = some m.cls)
    (w1 : (Cond.methodLink own index Jvm.Stand.acN).before a0 Z = true) (w2 : (Cond.native Jvm.Stand.acN).before a0 Z = true) (w3 : (Cond.static Jvm.Stand.acN).before a0 Z = true) (w4 : (Cond.initialized "java/lang/System").before a0 Z = true) (eT : T.heap = h)
    (A : own_AV Z h a ty n f) (B : own_AV Z h b ty N g) (hp : refKind ty = false) (fa : ∀ i, i < n → fits ty (f i) = true) (fb : ∀ i, i < N → fits ty (g i) = true) {sp dp nn : Int32} (s0 d0 m0 : Nat) (es : sp.toInt = (s0 : Int)) (ed : dp.toInt = (d0 : Int)) (em : nn.toInt = (m0 : Int)) (h4 : s0 + m0 ≤ n) (h5 : d0 + m0 ≤ N)
    {n0 : Nat} (Nf : Fr n0 locs) (ge : n0 ≤ b) {fr : JFrame} (hg : fr.method = m) (hsize : fr.locals.size = c.maxLocals) {rest : List Value} (hs : fr.stack = .int nn :: .int dp :: .ref b :: .int sp :: .ref a :: rest) (hd : decode c.code fr.pc = .ok (.invokestatic index, 3))
    (hf : 1 ≤ R.frames) {W : Nat} (hW : 2 * fr.monitorRoom + (rest.map fun v => v.category).sum ≤ W) (hlo : W + (nativeFrameWords "java/lang/System" "arraycopy" 5 + 11) ≤ R.locals) :
    ∃ T' h' L, Stand p l e R s m args below meth c T' L cells slots ∧ T'.heap = h' ∧ Fr n0 L ∧ Keep h h' [b] ∧ own_AV Z h' b ty N (fun i => if d0 ≤ i ∧ i < d0 + m0 then f (s0 + (i - d0)) else g i) ∧
      ∀ t, Steps p.tables e below (T'.setTop { fr with pc := fr.pc + 3, stack := rest }) t → Steps p.tables e below (T.setTop fr) t := by
  have bA := A.bd
  have bB := B.bd
  obtain ⟨k, VA⟩ := A.arv fa
  obtain ⟨k', VB⟩ := B.arv fb
  obtain ⟨s1, s2⟩ := own_clamp es
  obtain ⟨d1, d2⟩ := own_clamp ed
  obtain ⟨m1, m2⟩ := own_clamp em
  obtain ⟨a1, a2⟩ := own_clamp (len_toInt bA)
  obtain ⟨b1, b2⟩ := own_clamp (len_toInt bB)
  obtain ⟨T', h', L, X', e', N', K, V, st⟩ := cpA X hx hZ hown w1 w2 w3 w4 eT VA VB (Or.inl ⟨rfl, hp⟩) s2 d2 m2 (by rw [s1, m1, a1]; exact h4) (by rw [d1, m1, b1]; exact h5) rfl (by rw [d1, m1]; simpa using h5) Nf ge hg hsize hs hd hf hW hlo
  refine ⟨T', h', L, X', e', N', K, ?_, st⟩
  obtain ⟨cl, Ar, -, S, -, H, -⟩ := V
  refine ⟨cl, Ar, by rw [S, b1], bB, fun i hi => ?_⟩
  rw [H i (by rw [S, b1]; exact hi)]
  congr 1
  rw [d1, m1, s1]
  simp only [List.getD, List.append_assoc]
  by_cases c1 : i < d0
  · rw [if_neg (by omega)]
    rw [List.getElem?_append_left (by simp; omega)]
    simp [List.getElem?_take, c1, hi]
  · rw [List.getElem?_append_right (by simp; omega)]
    simp only [List.length_take, List.length_map, List.length_range]
    rw [Nat.min_eq_left (by omega : d0 ≤ N)]
    by_cases c2 : i < d0 + m0
    · rw [if_pos ⟨by omega, c2⟩]
      rw [List.getElem?_append_left (by simp; omega)]
      have q : i - d0 < m0 := by omega
      have q' : s0 + (i - d0) < n := by omega
      simp [q, List.getD, q']
    · rw [if_neg (by omega)]
      rw [List.getElem?_append_right (by simp; omega)]
      simp only [List.length_map, List.length_range, List.getElem?_drop]
      rw [show d0 + m0 + (i - d0 - m0) = i by omega]
      simp [hi]
theorem own_cloneJ {p : Program} {l : Launch} {e : Env} {R : Room} {s : State} {m : MethodId} {args : Array Value} {below : List Frame} {meth : Method} {c : Code} {T : State} {locs : List Loc} {cells slots : Nat} {Z : State} {a0 : Array Value} {h : Heap} {a : Addr} {n : Nat} {f : Nat → Int64}
    (X : Stand p l e R s m args below meth c T locs cells slots) (hx : p.tables.exec = Jvm.exec) (hZ : Z.Warmed39 s.vm) {own : String} {index : Nat} (hown : s.vm.findClass own = some m.cls)
    (w1 : (Cond.methodLink own index ⟨"[J", "clone", "()Ljava/lang/Object;"⟩).before a0 Z = true) (w2 : (Cond.sameMethod "[J" "java/lang/Object" "clone" "()Ljava/lang/Object;").before a0 Z = true) (w3 : (Cond.native ⟨"java/lang/Object", "clone", "()Ljava/lang/Object;"⟩).before a0 Z = true)
    (w4 : (Cond.instanceMethod ⟨"java/lang/Object", "clone", "()Ljava/lang/Object;"⟩).before a0 Z = true) (w5 : (Cond.selects "[J" ⟨"[J", "clone", "()Ljava/lang/Object;"⟩ ⟨"java/lang/Object", "clone", "()Ljava/lang/Object;"⟩).before a0 Z = true) (w6 : (Cond.castable "[J" "java/lang/Cloneable").before a0 Z = true)
    (eT : T.heap = h) (F : own_AJ Z h a n f) (E : Exa Z h a "[J") {g : JFrame} (hg : g.method = m) (hsize : g.locals.size = c.maxLocals) {rest : List Value} (hs : g.stack = .ref a :: rest) (hd : decode c.code g.pc = .ok (.invokevirtual index, 3))
    (hf : 1 ≤ R.frames) {W cap : Nat} (hW : 2 * g.monitorRoom + (rest.map fun v => v.category).sum ≤ W) (hl : W + 14 ≤ R.locals) (hcap : n ≤ cap) (hc : cells + 1 ≤ R.cells) (hsl : slots + cap ≤ R.slots) :
    ∃ T' h' b, b = h.size ∧ Stand p l e R s m args below meth c T' locs (cells + 1) (slots + cap) ∧ T'.heap = h' ∧ Ext h h' ∧ own_AJ Z h' b n f ∧ Exa Z h' b "[J" ∧
      ∀ t, Steps p.tables e below (T'.setTop { g with pc := g.pc + 3, stack := .ref b :: rest }) t → Steps p.tables e below (T.setTop g) t := by
  obtain ⟨cl, A, S, q, H⟩ := F
  have FC : FitC Z cl := fitC_of A fun i hi v hv => by rw [H i (by omega)] at hv; cases hv; rfl
  obtain ⟨T', h', X', e', E', A', Ea, st⟩ := cloneA X hx hZ hown w1 w2 w3 w4 w5 w6 eT A E FC hg hsize hs hd hf hW hl (by omega) hc hsl
  exact ⟨T', h', _, rfl, X', e', E', ⟨_, A', S, q, H⟩, Ea, st⟩
open Jvm.Free.XT Jvm.Free.JP Jvm.Free.JM
def own_tb (x : Int64) (i : Nat) : Bool := x.toBitVec.toNat.testBit i
theorem own_i0 : (0 : Int32).toInt = 0 := rfl
theorem own_i1 : (1 : Int32).toInt = 1 := rfl
theorem own_ush (x k : Int32) (kn P : Nat) {n : Nat} (hk : k.toBitVec.toNat % 32 = kn) (h0 : 0 < kn) (hP : 2 ^ kn = P) (h : x.toInt = (n : Int)) : (ushr x k).toInt = ((n / P : Nat) : Int) := by
  have q := c_iushr x k kn hk h0
  have r := rng32 x
  have e : (ushr x k).toInt = x.toInt % 4294967296 / ((2 ^ kn : Nat) : Int) := q
  rw [e, h, Int.emod_eq_of_lt (by omega) (by omega), hP]
  rfl
theorem own_nlzP {x : Int32} {n : Nat} (h : x.toInt = (n : Int)) (h0 : 0 < n) : ∃ t : Nat, t < 32 ∧ 2 ^ t ≤ n ∧ n < 2 ^ (t + 1) ∧ (Integer_numberOfLeadingZeros_I.val x).toInt = 31 - (t : Int) := by
  have hp : (0 : Int32) < x := by rw [Int32.lt_iff_toInt_lt, own_i0, h]; omega
  have hr := rng32 x
  unfold Integer_numberOfLeadingZeros_I.val
  rw [if_pos hp]
  by_cases c0 : x < 65536
  · have d0 := c0
    rw [Int32.lt_iff_toInt_lt, h, show (65536 : Int32).toInt = 65536 from rfl] at d0
    rw [if_pos c0]
    by_cases c1 : x < 256
    · have d1 := c1
      rw [Int32.lt_iff_toInt_lt, h, show (256 : Int32).toInt = 256 from rfl] at d1
      rw [if_pos c1]
      by_cases c2 : x < 16
      · have d2 := c2
        rw [Int32.lt_iff_toInt_lt, h, show (16 : Int32).toInt = 16 from rfl] at d2
        rw [if_pos c2]
        by_cases c3 : x < 4
        · have d3 := c3
          rw [Int32.lt_iff_toInt_lt, h, show (4 : Int32).toInt = 4 from rfl] at d3
          rw [if_pos c3]
          have uu := own_ush x 1 1 2 (by decide) (by decide) (by decide) h
          have cs : ((31 : Int32)).toInt = 31 := by decide
          have sb := c_isub ((31 : Int32)) (ushr x 1)
          have rg := rng32 (((31 : Int32)) - (ushr x 1))
          rw [cs, uu] at sb
          by_cases q : n < 2
          · exact ⟨0, by decide, by omega, by omega, by omega⟩
          · exact ⟨1, by decide, by omega, by omega, by omega⟩
        · have d3 := c3
          rw [Int32.lt_iff_toInt_lt, h, show (4 : Int32).toInt = 4 from rfl] at d3
          rw [if_neg c3]
          have h2_ := own_ush x 2 2 4 (by decide) (by decide) (by decide) h
          have uu := own_ush (ushr x 2) 1 1 2 (by decide) (by decide) (by decide) h2_
          have cs : (((31 : Int32) + (-2))).toInt = 29 := by decide
          have sb := c_isub (((31 : Int32) + (-2))) (ushr (ushr x 2) 1)
          have rg := rng32 ((((31 : Int32) + (-2))) - (ushr (ushr x 2) 1))
          rw [cs, uu] at sb
          by_cases q : n < 8
          · exact ⟨2, by decide, by omega, by omega, by omega⟩
          · exact ⟨3, by decide, by omega, by omega, by omega⟩
      · have d2 := c2
        rw [Int32.lt_iff_toInt_lt, h, show (16 : Int32).toInt = 16 from rfl] at d2
        rw [if_neg c2]
        have h4_ := own_ush x 4 4 16 (by decide) (by decide) (by decide) h
        by_cases c3 : (ushr x 4) < 4
        · have d3 := c3
          rw [Int32.lt_iff_toInt_lt, h4_, show (4 : Int32).toInt = 4 from rfl] at d3
          rw [if_pos c3]
          have uu := own_ush (ushr x 4) 1 1 2 (by decide) (by decide) (by decide) h4_
          have cs : (((31 : Int32) + (-4))).toInt = 27 := by decide
          have sb := c_isub (((31 : Int32) + (-4))) (ushr (ushr x 4) 1)
          have rg := rng32 ((((31 : Int32) + (-4))) - (ushr (ushr x 4) 1))
          rw [cs, uu] at sb
          by_cases q : n < 32
          · exact ⟨4, by decide, by omega, by omega, by omega⟩
          · exact ⟨5, by decide, by omega, by omega, by omega⟩
        · have d3 := c3
          rw [Int32.lt_iff_toInt_lt, h4_, show (4 : Int32).toInt = 4 from rfl] at d3
          rw [if_neg c3]
          have h2_ := own_ush (ushr x 4) 2 2 4 (by decide) (by decide) (by decide) h4_
          have uu := own_ush (ushr (ushr x 4) 2) 1 1 2 (by decide) (by decide) (by decide) h2_
          have cs : ((((31 : Int32) + (-4)) + (-2))).toInt = 25 := by decide
          have sb := c_isub ((((31 : Int32) + (-4)) + (-2))) (ushr (ushr (ushr x 4) 2) 1)
          have rg := rng32 (((((31 : Int32) + (-4)) + (-2))) - (ushr (ushr (ushr x 4) 2) 1))
          rw [cs, uu] at sb
          by_cases q : n < 128
          · exact ⟨6, by decide, by omega, by omega, by omega⟩
          · exact ⟨7, by decide, by omega, by omega, by omega⟩
    · have d1 := c1
      rw [Int32.lt_iff_toInt_lt, h, show (256 : Int32).toInt = 256 from rfl] at d1
      rw [if_neg c1]
      have h8_ := own_ush x 8 8 256 (by decide) (by decide) (by decide) h
      by_cases c2 : (ushr x 8) < 16
      · have d2 := c2
        rw [Int32.lt_iff_toInt_lt, h8_, show (16 : Int32).toInt = 16 from rfl] at d2
        rw [if_pos c2]
        by_cases c3 : (ushr x 8) < 4
        · have d3 := c3
          rw [Int32.lt_iff_toInt_lt, h8_, show (4 : Int32).toInt = 4 from rfl] at d3
          rw [if_pos c3]
          have uu := own_ush (ushr x 8) 1 1 2 (by decide) (by decide) (by decide) h8_
          have cs : (((31 : Int32) + (-8))).toInt = 23 := by decide
          have sb := c_isub (((31 : Int32) + (-8))) (ushr (ushr x 8) 1)
          have rg := rng32 ((((31 : Int32) + (-8))) - (ushr (ushr x 8) 1))
          rw [cs, uu] at sb
          by_cases q : n < 512
          · exact ⟨8, by decide, by omega, by omega, by omega⟩
          · exact ⟨9, by decide, by omega, by omega, by omega⟩
        · have d3 := c3
          rw [Int32.lt_iff_toInt_lt, h8_, show (4 : Int32).toInt = 4 from rfl] at d3
          rw [if_neg c3]
          have h2_ := own_ush (ushr x 8) 2 2 4 (by decide) (by decide) (by decide) h8_
          have uu := own_ush (ushr (ushr x 8) 2) 1 1 2 (by decide) (by decide) (by decide) h2_
          have cs : ((((31 : Int32) + (-8)) + (-2))).toInt = 21 := by decide
          have sb := c_isub ((((31 : Int32) + (-8)) + (-2))) (ushr (ushr (ushr x 8) 2) 1)
          have rg := rng32 (((((31 : Int32) + (-8)) + (-2))) - (ushr (ushr (ushr x 8) 2) 1))
          rw [cs, uu] at sb
          by_cases q : n < 2048
          · exact ⟨10, by decide, by omega, by omega, by omega⟩
          · exact ⟨11, by decide, by omega, by omega, by omega⟩
      · have d2 := c2
        rw [Int32.lt_iff_toInt_lt, h8_, show (16 : Int32).toInt = 16 from rfl] at d2
        rw [if_neg c2]
        have h4_ := own_ush (ushr x 8) 4 4 16 (by decide) (by decide) (by decide) h8_
        by_cases c3 : (ushr (ushr x 8) 4) < 4
        · have d3 := c3
          rw [Int32.lt_iff_toInt_lt, h4_, show (4 : Int32).toInt = 4 from rfl] at d3
          rw [if_pos c3]
          have uu := own_ush (ushr (ushr x 8) 4) 1 1 2 (by decide) (by decide) (by decide) h4_
          have cs : ((((31 : Int32) + (-8)) + (-4))).toInt = 19 := by decide
          have sb := c_isub ((((31 : Int32) + (-8)) + (-4))) (ushr (ushr (ushr x 8) 4) 1)
          have rg := rng32 (((((31 : Int32) + (-8)) + (-4))) - (ushr (ushr (ushr x 8) 4) 1))
          rw [cs, uu] at sb
          by_cases q : n < 8192
          · exact ⟨12, by decide, by omega, by omega, by omega⟩
          · exact ⟨13, by decide, by omega, by omega, by omega⟩
        · have d3 := c3
          rw [Int32.lt_iff_toInt_lt, h4_, show (4 : Int32).toInt = 4 from rfl] at d3
          rw [if_neg c3]
          have h2_ := own_ush (ushr (ushr x 8) 4) 2 2 4 (by decide) (by decide) (by decide) h4_
          have uu := own_ush (ushr (ushr (ushr x 8) 4) 2) 1 1 2 (by decide) (by decide) (by decide) h2_
          have cs : (((((31 : Int32) + (-8)) + (-4)) + (-2))).toInt = 17 := by decide
          have sb := c_isub (((((31 : Int32) + (-8)) + (-4)) + (-2))) (ushr (ushr (ushr (ushr x 8) 4) 2) 1)
          have rg := rng32 ((((((31 : Int32) + (-8)) + (-4)) + (-2))) - (ushr (ushr (ushr (ushr x 8) 4) 2) 1))
          rw [cs, uu] at sb
          by_cases q : n < 32768
          · exact ⟨14, by decide, by omega, by omega, by omega⟩
          · exact ⟨15, by decide, by omega, by omega, by omega⟩
  · have d0 := c0
    rw [Int32.lt_iff_toInt_lt, h, show (65536 : Int32).toInt = 65536 from rfl] at d0
    rw [if_neg c0]
    have h16_ := own_ush x 16 16 65536 (by decide) (by decide) (by decide) h
    by_cases c1 : (ushr x 16) < 256
    · have d1 := c1
      rw [Int32.lt_iff_toInt_lt, h16_, show (256 : Int32).toInt = 256 from rfl] at d1
      rw [if_pos c1]
      by_cases c2 : (ushr x 16) < 16
      · have d2 := c2
        rw [Int32.lt_iff_toInt_lt, h16_, show (16 : Int32).toInt = 16 from rfl] at d2
        rw [if_pos c2]
        by_cases c3 : (ushr x 16) < 4
        · have d3 := c3
          rw [Int32.lt_iff_toInt_lt, h16_, show (4 : Int32).toInt = 4 from rfl] at d3
          rw [if_pos c3]
          have uu := own_ush (ushr x 16) 1 1 2 (by decide) (by decide) (by decide) h16_
          have cs : (((31 : Int32) + (-16))).toInt = 15 := by decide
          have sb := c_isub (((31 : Int32) + (-16))) (ushr (ushr x 16) 1)
          have rg := rng32 ((((31 : Int32) + (-16))) - (ushr (ushr x 16) 1))
          rw [cs, uu] at sb
          by_cases q : n < 131072
          · exact ⟨16, by decide, by omega, by omega, by omega⟩
          · exact ⟨17, by decide, by omega, by omega, by omega⟩
        · have d3 := c3
          rw [Int32.lt_iff_toInt_lt, h16_, show (4 : Int32).toInt = 4 from rfl] at d3
          rw [if_neg c3]
          have h2_ := own_ush (ushr x 16) 2 2 4 (by decide) (by decide) (by decide) h16_
          have uu := own_ush (ushr (ushr x 16) 2) 1 1 2 (by decide) (by decide) (by decide) h2_
          have cs : ((((31 : Int32) + (-16)) + (-2))).toInt = 13 := by decide
          have sb := c_isub ((((31 : Int32) + (-16)) + (-2))) (ushr (ushr (ushr x 16) 2) 1)
          have rg := rng32 (((((31 : Int32) + (-16)) + (-2))) - (ushr (ushr (ushr x 16) 2) 1))
          rw [cs, uu] at sb
          by_cases q : n < 524288
          · exact ⟨18, by decide, by omega, by omega, by omega⟩
          · exact ⟨19, by decide, by omega, by omega, by omega⟩
      · have d2 := c2
        rw [Int32.lt_iff_toInt_lt, h16_, show (16 : Int32).toInt = 16 from rfl] at d2
        rw [if_neg c2]
        have h4_ := own_ush (ushr x 16) 4 4 16 (by decide) (by decide) (by decide) h16_
        by_cases c3 : (ushr (ushr x 16) 4) < 4
        · have d3 := c3
          rw [Int32.lt_iff_toInt_lt, h4_, show (4 : Int32).toInt = 4 from rfl] at d3
          rw [if_pos c3]
          have uu := own_ush (ushr (ushr x 16) 4) 1 1 2 (by decide) (by decide) (by decide) h4_
          have cs : ((((31 : Int32) + (-16)) + (-4))).toInt = 11 := by decide
          have sb := c_isub ((((31 : Int32) + (-16)) + (-4))) (ushr (ushr (ushr x 16) 4) 1)
          have rg := rng32 (((((31 : Int32) + (-16)) + (-4))) - (ushr (ushr (ushr x 16) 4) 1))
          rw [cs, uu] at sb
          by_cases q : n < 2097152
          · exact ⟨20, by decide, by omega, by omega, by omega⟩
          · exact ⟨21, by decide, by omega, by omega, by omega⟩
        · have d3 := c3
          rw [Int32.lt_iff_toInt_lt, h4_, show (4 : Int32).toInt = 4 from rfl] at d3
          rw [if_neg c3]
          have h2_ := own_ush (ushr (ushr x 16) 4) 2 2 4 (by decide) (by decide) (by decide) h4_
          have uu := own_ush (ushr (ushr (ushr x 16) 4) 2) 1 1 2 (by decide) (by decide) (by decide) h2_
          have cs : (((((31 : Int32) + (-16)) + (-4)) + (-2))).toInt = 9 := by decide
          have sb := c_isub (((((31 : Int32) + (-16)) + (-4)) + (-2))) (ushr (ushr (ushr (ushr x 16) 4) 2) 1)
          have rg := rng32 ((((((31 : Int32) + (-16)) + (-4)) + (-2))) - (ushr (ushr (ushr (ushr x 16) 4) 2) 1))
          rw [cs, uu] at sb
          by_cases q : n < 8388608
          · exact ⟨22, by decide, by omega, by omega, by omega⟩
          · exact ⟨23, by decide, by omega, by omega, by omega⟩
    · have d1 := c1
      rw [Int32.lt_iff_toInt_lt, h16_, show (256 : Int32).toInt = 256 from rfl] at d1
      rw [if_neg c1]
      have h8_ := own_ush (ushr x 16) 8 8 256 (by decide) (by decide) (by decide) h16_
      by_cases c2 : (ushr (ushr x 16) 8) < 16
      · have d2 := c2
        rw [Int32.lt_iff_toInt_lt, h8_, show (16 : Int32).toInt = 16 from rfl] at d2
        rw [if_pos c2]
        by_cases c3 : (ushr (ushr x 16) 8) < 4
        · have d3 := c3
          rw [Int32.lt_iff_toInt_lt, h8_, show (4 : Int32).toInt = 4 from rfl] at d3
          rw [if_pos c3]
          have uu := own_ush (ushr (ushr x 16) 8) 1 1 2 (by decide) (by decide) (by decide) h8_
          have cs : ((((31 : Int32) + (-16)) + (-8))).toInt = 7 := by decide
          have sb := c_isub ((((31 : Int32) + (-16)) + (-8))) (ushr (ushr (ushr x 16) 8) 1)
          have rg := rng32 (((((31 : Int32) + (-16)) + (-8))) - (ushr (ushr (ushr x 16) 8) 1))
          rw [cs, uu] at sb
          by_cases q : n < 33554432
          · exact ⟨24, by decide, by omega, by omega, by omega⟩
          · exact ⟨25, by decide, by omega, by omega, by omega⟩
        · have d3 := c3
          rw [Int32.lt_iff_toInt_lt, h8_, show (4 : Int32).toInt = 4 from rfl] at d3
          rw [if_neg c3]
          have h2_ := own_ush (ushr (ushr x 16) 8) 2 2 4 (by decide) (by decide) (by decide) h8_
          have uu := own_ush (ushr (ushr (ushr x 16) 8) 2) 1 1 2 (by decide) (by decide) (by decide) h2_
          have cs : (((((31 : Int32) + (-16)) + (-8)) + (-2))).toInt = 5 := by decide
          have sb := c_isub (((((31 : Int32) + (-16)) + (-8)) + (-2))) (ushr (ushr (ushr (ushr x 16) 8) 2) 1)
          have rg := rng32 ((((((31 : Int32) + (-16)) + (-8)) + (-2))) - (ushr (ushr (ushr (ushr x 16) 8) 2) 1))
          rw [cs, uu] at sb
          by_cases q : n < 134217728
          · exact ⟨26, by decide, by omega, by omega, by omega⟩
          · exact ⟨27, by decide, by omega, by omega, by omega⟩
      · have d2 := c2
        rw [Int32.lt_iff_toInt_lt, h8_, show (16 : Int32).toInt = 16 from rfl] at d2
        rw [if_neg c2]
        have h4_ := own_ush (ushr (ushr x 16) 8) 4 4 16 (by decide) (by decide) (by decide) h8_
        by_cases c3 : (ushr (ushr (ushr x 16) 8) 4) < 4
        · have d3 := c3
          rw [Int32.lt_iff_toInt_lt, h4_, show (4 : Int32).toInt = 4 from rfl] at d3
          rw [if_pos c3]
          have uu := own_ush (ushr (ushr (ushr x 16) 8) 4) 1 1 2 (by decide) (by decide) (by decide) h4_
          have cs : (((((31 : Int32) + (-16)) + (-8)) + (-4))).toInt = 3 := by decide
          have sb := c_isub (((((31 : Int32) + (-16)) + (-8)) + (-4))) (ushr (ushr (ushr (ushr x 16) 8) 4) 1)
          have rg := rng32 ((((((31 : Int32) + (-16)) + (-8)) + (-4))) - (ushr (ushr (ushr (ushr x 16) 8) 4) 1))
          rw [cs, uu] at sb
          by_cases q : n < 536870912
          · exact ⟨28, by decide, by omega, by omega, by omega⟩
          · exact ⟨29, by decide, by omega, by omega, by omega⟩
        · have d3 := c3
          rw [Int32.lt_iff_toInt_lt, h4_, show (4 : Int32).toInt = 4 from rfl] at d3
          rw [if_neg c3]
          have h2_ := own_ush (ushr (ushr (ushr x 16) 8) 4) 2 2 4 (by decide) (by decide) (by decide) h4_
          have uu := own_ush (ushr (ushr (ushr (ushr x 16) 8) 4) 2) 1 1 2 (by decide) (by decide) (by decide) h2_
          have cs : ((((((31 : Int32) + (-16)) + (-8)) + (-4)) + (-2))).toInt = 1 := by decide
          have sb := c_isub ((((((31 : Int32) + (-16)) + (-8)) + (-4)) + (-2))) (ushr (ushr (ushr (ushr (ushr x 16) 8) 4) 2) 1)
          have rg := rng32 (((((((31 : Int32) + (-16)) + (-8)) + (-4)) + (-2))) - (ushr (ushr (ushr (ushr (ushr x 16) 8) 4) 2) 1))
          rw [cs, uu] at sb
          by_cases q : n < 2147483648
          · exact ⟨30, by decide, by omega, by omega, by omega⟩
          · exact ⟨31, by decide, by omega, by omega, by omega⟩
theorem own_nlz32 {x : Int32} (h0 : 0 < x.toBitVec.toNat) : ∃ t : Nat, t < 32 ∧ 2 ^ t ≤ x.toBitVec.toNat ∧ x.toBitVec.toNat < 2 ^ (t + 1) ∧ (Integer_numberOfLeadingZeros_I.val x).toInt = 31 - (t : Int) := by
  have lt := x.toBitVec.isLt
  by_cases c : x.toBitVec.toNat < 2147483648
  · have e : x.toInt = (x.toBitVec.toNat : Int) := by
      show x.toBitVec.toInt = _
      rw [BitVec.toInt_eq_toNat_cond, if_pos (by omega)]
    exact own_nlzP e h0
  · have e : x.toInt = (x.toBitVec.toNat : Int) - 4294967296 := by
      show x.toBitVec.toInt = _
      rw [BitVec.toInt_eq_toNat_cond, if_neg (by omega)]; rfl
    refine ⟨31, by decide, by omega, by omega, ?_⟩
    have n1 : ¬ (0 : Int32) < x := by rw [Int32.lt_iff_toInt_lt, own_i0, e]; omega
    have n2 : ¬ x = 0 := fun q => by rw [q] at h0; exact absurd h0 (by decide)
    unfold Integer_numberOfLeadingZeros_I.val
    rw [if_neg n1]
    first | (rw [if_neg n2]; rfl) | (simp [n2]; done)
theorem own_nlz64 {a : Int64} (h0 : 0 < a.toBitVec.toNat) : ∃ t : Nat, t < 64 ∧ 2 ^ t ≤ a.toBitVec.toNat ∧ a.toBitVec.toNat < 2 ^ (t + 1) ∧ (Long_numberOfLeadingZeros_J.val a).toInt = 63 - (t : Int) := by
  have lt := a.toBitVec.isLt
  have hi := high32 a
  have lo := low32 a
  have hl := low32 (ushrL a 32)
  rw [hi, Nat.mod_eq_of_lt (by omega)] at hl
  unfold Long_numberOfLeadingZeros_J.val
  by_cases c : (Int64.toInt32 (ushrL a 32)) = 0
  · rw [if_pos c]
    rw [c] at hl
    have z : a.toBitVec.toNat / 2 ^ 32 = 0 := hl.symm.trans (by rfl)
    rw [Nat.mod_eq_of_lt (by omega)] at lo
    obtain ⟨t, t1, t2, t3, t4⟩ := own_nlz32 (x := a.toInt32) (by rw [lo]; exact h0)
    rw [lo] at t2 t3
    refine ⟨t, by omega, t2, t3, ?_⟩
    have q := c_iadd 32 (Integer_numberOfLeadingZeros_I.val a.toInt32)
    have r := rng32 ((32 : Int32) + Integer_numberOfLeadingZeros_I.val a.toInt32)
    have e32 : (32 : Int32).toInt = 32 := rfl
    rw [e32, t4] at q
    omega
  · rw [if_neg c]
    have nz : 0 < (Int64.toInt32 (ushrL a 32)).toBitVec.toNat := Nat.pos_of_ne_zero fun q => c (Int32.toBitVec_inj.mp (BitVec.eq_of_toNat_eq (by rw [q]; rfl)))
    obtain ⟨t, t1, t2, t3, t4⟩ := own_nlz32 nz
    rw [hl] at t2 t3
    refine ⟨32 + t, by omega, ?_, ?_, by rw [t4]; omega⟩
    · rw [Nat.pow_add, Nat.mul_comm]
      exact (Nat.le_div_iff_mul_le (by decide)).mp t2
    · rw [show 32 + t + 1 = 32 + (t + 1) from rfl, Nat.pow_add, Nat.mul_comm]
      exact (Nat.div_lt_iff_lt_mul (by decide)).mp t3
theorem own_tb_top {n t : Nat} (h1 : 2 ^ t ≤ n) (h2 : n < 2 ^ (t + 1)) : n.testBit t = true ∧ ∀ j, t < j → n.testBit j = false := by
  refine ⟨?_, fun j hj => Nat.testBit_lt_two_pow (Nat.lt_of_lt_of_le h2 (Nat.pow_le_pow_right (by decide) hj))⟩
  have e : n / 2 ^ t = 1 := by
    have hp := Nat.two_pow_pos t
    rw [Nat.pow_succ] at h2
    exact Nat.div_eq_of_lt_le (by omega) (by omega)
  simp [Nat.testBit_eq_decide_div_mod_eq, e]
theorem own_tb_or (x y : Int64) (i : Nat) : own_tb (x ||| y) i = (own_tb x i || own_tb y i) := by
  unfold own_tb; rw [Int64.toBitVec_or, BitVec.toNat_or, Nat.testBit_or]
theorem own_tb_and (x y : Int64) (i : Nat) : own_tb (x &&& y) i = (own_tb x i && own_tb y i) := by
  unfold own_tb; rw [Int64.toBitVec_and, BitVec.toNat_and, Nat.testBit_and]
theorem own_tb_not (y : Int64) {i : Nat} (hi : i < 64) : own_tb (y ^^^ (-1 : Int64)) i = !own_tb y i := by
  unfold own_tb
  rw [Int64.toBitVec_xor, BitVec.toNat_xor, Nat.testBit_xor]
  have : ∀ j : Fin 64, (-1 : Int64).toBitVec.toNat.testBit j.1 = true := by decide
  rw [this ⟨i, hi⟩, Bool.xor_true]
theorem own_tb_ge (x : Int64) {i : Nat} (hi : 64 ≤ i) : own_tb x i = false := Nat.testBit_lt_two_pow (Nat.lt_of_lt_of_le x.toBitVec.isLt (Nat.pow_le_pow_right (by decide) hi))
theorem own_tb_zero (i : Nat) : own_tb (0 : Int64) i = false := by unfold own_tb; exact Nat.zero_testBit i
theorem own_zero_iff (x : Int64) : x = 0 ↔ ∀ i, i < 64 → own_tb x i = false := by
  constructor
  · rintro rfl i _; exact own_tb_zero i
  · intro h
    apply Int64.toBitVec_inj.mp
    apply BitVec.eq_of_toNat_eq
    apply Nat.eq_of_testBit_eq
    intro i
    rcases Nat.lt_or_ge i 64 with q | q
    · exact (h i q).trans (own_tb_zero i).symm
    · exact (own_tb_ge x q).trans (own_tb_zero i).symm
theorem own_pos_of {x : Int64} (h : ¬ x = 0) : 0 < x.toBitVec.toNat := Nat.pos_of_ne_zero fun q => h (Int64.toBitVec_inj.mp (BitVec.eq_of_toNat_eq (by rw [q]; rfl)))
theorem own_shl1 : ∀ k : Fin 64, ((1 : Int64) <<< (Int64.ofInt k.1)).toBitVec.toNat = 2 ^ k.1 := by decide
theorem own_tb_one {x : Int32} {n : Nat} (h : x.toInt = (n : Int)) (i : Nat) : own_tb ((1 : Int64) <<< (x &&& 0x3f).toInt64) i = decide (i = n % 64) := by
  have h1 := c_mask x 0x3f 6 (by decide) (by decide)
  have e : ((2 ^ 6 : Nat) : Int) = 64 := by decide
  rw [e, h] at h1
  have h2 := c_i2l (x &&& 0x3f)
  have hk : n % 64 < 64 := Nat.mod_lt _ (by decide)
  have q := own_shl1 ⟨n % 64, hk⟩
  have e2 : (x &&& 0x3f).toInt64 = Int64.ofInt ((n % 64 : Nat) : Int) := by
    rw [← Int64.toInt_inj, h2, h1, Int64.toInt_ofInt_of_le (by omega) (by omega)]; omega
  unfold own_tb
  rw [e2, q, Nat.testBit_two_pow]
  by_cases c : i = n % 64
  · simp [c]
  · simp [c, Ne.symm c]
theorem own_clear {n t : Nat} (h : Low n t) (j : Nat) : (n.testBit j && (n - 1).testBit j) = (n.testBit j && !decide (j = t)) := by
  obtain ⟨q, hq⟩ : ∃ q, n / 2 ^ t = 2 * q + 1 := ⟨n / 2 ^ t / 2, by have := h.2; omega⟩
  have hp := Nat.two_pow_pos t
  have e1 : n = 2 ^ t * (2 * q + 1) + 0 := by have := Nat.div_add_mod n (2 ^ t); rw [h.1, hq] at this; exact this.symm
  have e2 : n - 1 = 2 ^ t * (2 * q) + (2 ^ t - 1) := by rw [e1, Nat.mul_add]; omega
  by_cases a : j < t
  · rw [h.below a]; rfl
  · rw [e2, Nat.testBit_two_pow_mul_add _ (by omega), if_neg a]
    by_cases b : j = t
    · subst b; simp
    · obtain ⟨d, hd⟩ : ∃ d, j - t = d + 1 := ⟨j - t - 1, by omega⟩
      have e3 : n.testBit j = q.testBit d := by
        conv => lhs; rw [e1]
        rw [Nat.testBit_two_pow_mul_add _ hp, if_neg a, hd, Nat.testBit_succ, show (2 * q + 1) / 2 = q from by omega]
      rw [e3, hd, Nat.testBit_succ, show 2 * q / 2 = q from by omega]
      simp [b]
theorem own_tb_clear {x : Int64} {t : Nat} (h : Low x.toBitVec.toNat t) (i : Nat) : own_tb (x &&& (x - (1 : Int64))) i = (own_tb x i && !decide (i = t)) := by
  rw [own_tb_and]
  have hp : 0 < x.toBitVec.toNat := Nat.pos_of_ne_zero fun e => by have := h.at; rw [e] at this; simp at this
  have e1 : (x - (1 : Int64)).toBitVec.toNat = x.toBitVec.toNat - 1 := by
    have := x.toBitVec.isLt
    rw [Int64.toBitVec_sub, BitVec.toNat_sub]; show (2 ^ 64 - 1 + x.toBitVec.toNat) % 2 ^ 64 = _; omega
  unfold own_tb
  rw [e1]; exact own_clear h i
def own_Inv (M H : Nat) (fm fh : Nat → Int64) (S : Nat → Bool) : Prop :=
  (∀ w i, w < M → i < 64 → own_tb (fm w) i = S (64 * w + i)) ∧ (∀ n, 64 * M ≤ n → S n = false) ∧ (∀ v i, v < H → i < 64 → own_tb (fh v) i = (decide (64 * v + i < M) && !decide (fm (64 * v + i) = 0))) ∧ H = (M + 63) / 64
def own_gr (f : Nat → Int64) (n : Nat) : Nat → Int64 := fun i => if i < n then f i else 0
theorem own_Inv.zero (M H : Nat) (hH : H = (M + 63) / 64) : own_Inv M H (fun _ => (0 : Int64)) (fun _ => (0 : Int64)) (fun _ => false) :=
  ⟨fun w i _ _ => own_tb_zero i, fun _ _ => rfl, fun v i _ _ => by rw [own_tb_zero]; simp, hH⟩
theorem own_Inv.grow {M H M' H' : Nat} {fm fh : Nat → Int64} {S : Nat → Bool} (I : own_Inv M H fm fh S) (hM : M ≤ M') (hH' : H' = (M' + 63) / 64) : own_Inv M' H' (own_gr fm M) (own_gr fh H) S := by
  obtain ⟨i1, i2, i3, i4⟩ := I
  refine ⟨fun w i hw hi => ?_, fun n hn => i2 n (by omega), fun v i hv hi => ?_, hH'⟩
  · unfold own_gr
    by_cases c : w < M
    · rw [if_pos c]; exact i1 w i c hi
    · rw [if_neg c, own_tb_zero, i2 _ (by omega)]
  · unfold own_gr
    by_cases c : v < H
    · rw [if_pos c, i3 v i c hi]
      by_cases d : 64 * v + i < M
      · rw [if_pos d]; simp [d, show 64 * v + i < M' from by omega]
      · rw [if_neg d]; simp [d]
    · rw [if_neg c, own_tb_zero, if_neg (by omega)]; simp
theorem own_Inv.add {M H n : Nat} {fm fh : Nat → Int64} {S : Nat → Bool} {X1 X2 : Int64} (I : own_Inv M H fm fh S) (hn : n / 64 < M) (h1 : ∀ i, own_tb X1 i = decide (i = n % 64)) (h2 : ∀ i, own_tb X2 i = decide (i = n / 64 % 64)) :
    own_Inv M H (own_upd fm (n / 64) (fm (n / 64) ||| X1)) (own_upd fh (n / 64 / 64) (fh (n / 64 / 64) ||| X2)) (fun k => S k || decide (k = n)) := by
  obtain ⟨i1, i2, i3, i4⟩ := I
  have nz : ¬ (fm (n / 64) ||| X1) = 0 := fun q => by
    have := (own_zero_iff _).mp q (n % 64) (by omega)
    rw [own_tb_or, h1] at this
    simp at this
  refine ⟨fun w i hw hi => ?_, fun k hk => ?_, fun v i hv hi => ?_, i4⟩
  · by_cases c : w = n / 64
    · subst c
      rw [own_upd_hit, own_tb_or, h1, i1 _ i hw hi]
      have e : (64 * (n / 64) + i = n) ↔ (i = n % 64) := by omega
      simp only [e]
    · rw [own_upd_miss _ _ c, i1 w i hw hi]
      have e : ¬ (64 * w + i = n) := by omega
      simp [e]
  · have e : ¬ (k = n) := by omega
    simp [e, i2 k hk]
  · by_cases c : 64 * v + i = n / 64
    · have ev : v = n / 64 / 64 := by omega
      have ei : i = n / 64 % 64 := by omega
      rw [c, own_upd_hit, ← ev, own_upd_hit, own_tb_or, h2]
      simp [ei.symm, nz, hn]
    · rw [own_upd_miss _ _ c]
      by_cases d : v = n / 64 / 64
      · have ei : ¬ i = n / 64 % 64 := by omega
        rw [← d, own_upd_hit, own_tb_or, h2, i3 v i hv hi]
        simp [ei]
      · rw [own_upd_miss _ _ d]; exact i3 v i hv hi
theorem own_Inv.rem0 {M H n : Nat} {fm fh : Nat → Int64} {S : Nat → Bool} {X1 : Int64} (I : own_Inv M H fm fh S) (hn : n / 64 < M) (h1 : ∀ i, own_tb X1 i = decide (i = n % 64)) (hz : ¬ (fm (n / 64) &&& (X1 ^^^ (-1 : Int64))) = 0) :
    own_Inv M H (own_upd fm (n / 64) (fm (n / 64) &&& (X1 ^^^ (-1 : Int64)))) fh (fun k => S k && !decide (k = n)) := by
  obtain ⟨i1, i2, i3, i4⟩ := I
  have nz : ¬ fm (n / 64) = 0 := fun q => hz (by
    rw [own_zero_iff]; intro i hi; rw [own_tb_and, q, own_tb_zero]; rfl)
  refine ⟨fun w i hw hi => ?_, fun k hk => by show (S k && !decide (k = n)) = false; rw [i2 k hk]; rfl, fun v i hv hi => ?_, i4⟩
  · by_cases c : w = n / 64
    · subst c
      rw [own_upd_hit, own_tb_and, own_tb_not _ hi, h1, i1 _ i hw hi]
      have e : (64 * (n / 64) + i = n) ↔ (i = n % 64) := by omega
      simp only [e]
    · rw [own_upd_miss _ _ c, i1 w i hw hi]
      have e : ¬ (64 * w + i = n) := by omega
      simp [e]
  · rw [i3 v i hv hi]
    by_cases c : 64 * v + i = n / 64
    · rw [c, own_upd_hit]
      generalize (fm (n / 64) &&& (X1 ^^^ (-1 : Int64))) = Y at hz ⊢
      simp [nz, hz]
    · rw [own_upd_miss _ _ c]
theorem own_Inv.rem1 {M H n : Nat} {fm fh : Nat → Int64} {S : Nat → Bool} {X1 X2 : Int64} (I : own_Inv M H fm fh S) (hn : n / 64 < M) (h1 : ∀ i, own_tb X1 i = decide (i = n % 64)) (h2 : ∀ i, own_tb X2 i = decide (i = n / 64 % 64)) (hz : (fm (n / 64) &&& (X1 ^^^ (-1 : Int64))) = 0) :
    own_Inv M H (own_upd fm (n / 64) (fm (n / 64) &&& (X1 ^^^ (-1 : Int64)))) (own_upd fh (n / 64 / 64) (fh (n / 64 / 64) &&& (X2 ^^^ (-1 : Int64)))) (fun k => S k && !decide (k = n)) := by
  obtain ⟨i1, i2, i3, i4⟩ := I
  refine ⟨fun w i hw hi => ?_, fun k hk => by show (S k && !decide (k = n)) = false; rw [i2 k hk]; rfl, fun v i hv hi => ?_, i4⟩
  · by_cases c : w = n / 64
    · subst c
      rw [own_upd_hit, own_tb_and, own_tb_not _ hi, h1, i1 _ i hw hi]
      have e : (64 * (n / 64) + i = n) ↔ (i = n % 64) := by omega
      simp only [e]
    · rw [own_upd_miss _ _ c, i1 w i hw hi]
      have e : ¬ (64 * w + i = n) := by omega
      simp [e]
  · by_cases c : 64 * v + i = n / 64
    · have ev : v = n / 64 / 64 := by omega
      have ei : i = n / 64 % 64 := by omega
      rw [c, own_upd_hit, ← ev, own_upd_hit, own_tb_and, own_tb_not _ hi, h2, hz]
      simp [ei.symm]
    · rw [own_upd_miss _ _ c]
      by_cases d : v = n / 64 / 64
      · have ei : ¬ i = n / 64 % 64 := by omega
        rw [← d, own_upd_hit, own_tb_and, own_tb_not _ hi, h2, i3 v i hv hi]
        simp [ei]
      · rw [own_upd_miss _ _ d]; exact i3 v i hv hi
theorem own_Inv.has {M H n : Nat} {fm fh : Nat → Int64} {S : Nat → Bool} (I : own_Inv M H fm fh S) (hs : S n = true) : n / 64 < M ∧ ¬ fm (n / 64) = 0 ∧ n / 64 / 64 < H ∧ ¬ fh (n / 64 / 64) = 0 := by
  obtain ⟨i1, i2, i3, i4⟩ := I
  have hn : n / 64 < M := by
    rcases Nat.lt_or_ge n (64 * M) with q | q
    · omega
    · rw [i2 n q] at hs; cases hs
  have nz : ¬ fm (n / 64) = 0 := fun q => by
    have a := i1 (n / 64) (n % 64) hn (by omega)
    rw [q, own_tb_zero, show 64 * (n / 64) + n % 64 = n by omega, hs] at a
    cases a
  have hv : n / 64 / 64 < H := by omega
  refine ⟨hn, nz, hv, fun q => ?_⟩
  have a := i3 (n / 64 / 64) (n / 64 % 64) hv (by omega)
  rw [q, own_tb_zero, show 64 * (n / 64 / 64) + n / 64 % 64 = n / 64 by omega] at a
  simp [hn, nz] at a
theorem own_Inv.word {M H : Nat} {fm fh : Nat → Int64} {S : Nat → Bool} (I : own_Inv M H fm fh S) {v t : Nat} (hv : v < H) (ht : t < 64) (hb : own_tb (fh v) t = true) : 64 * v + t < M ∧ ¬ fm (64 * v + t) = 0 := by
  rw [I.2.2.1 v t hv ht] at hb
  simpa using hb
theorem own_Inv.noword {M H : Nat} {fm fh : Nat → Int64} {S : Nat → Bool} (I : own_Inv M H fm fh S) {w : Nat} (hw : w < M) (hb : own_tb (fh (w / 64)) (w % 64) = false) : fm w = 0 := by
  obtain ⟨i1, i2, i3, i4⟩ := I
  have a := i3 (w / 64) (w % 64) (by omega) (by omega)
  rw [hb, show 64 * (w / 64) + w % 64 = w by omega] at a
  simpa [hw] using a
theorem own_Inv.low {M H : Nat} {fm fh : Nat → Int64} {S : Nat → Bool} (I : own_Inv M H fm fh S) {v t u : Nat} (hv : v < H) (h0 : ∀ v', v' < v → fh v' = 0) (ht : Low (fh v).toBitVec.toNat t) (hu : Low (fm (64 * v + t)).toBitVec.toNat u) :
    S (64 * (64 * v + t) + u) = true ∧ ∀ k, k < 64 * (64 * v + t) + u → S k = false := by
  have t64 : t < 64 := ht.lt (fh v).toBitVec.isLt
  have u64 : u < 64 := hu.lt (fm (64 * v + t)).toBitVec.isLt
  obtain ⟨wM, wz⟩ := I.word hv t64 ht.at
  refine ⟨by rw [← I.1 _ u wM u64]; exact hu.at, fun k hk => ?_⟩
  rcases Nat.lt_or_ge k (64 * M) with q | q
  · have a := I.1 (k / 64) (k % 64) (by omega) (by omega)
    rw [show 64 * (k / 64) + k % 64 = k by omega] at a
    rw [← a]
    rcases Nat.lt_or_ge (k / 64) (64 * v + t) with c | c
    · have z : fm (k / 64) = 0 := by
        refine I.noword (by omega) ?_
        rcases Nat.lt_or_ge (k / 64 / 64) v with d | d
        · rw [h0 _ d, own_tb_zero]
        · have e : k / 64 / 64 = v := by omega
          rw [e]; exact ht.below (by omega)
      rw [z, own_tb_zero]
    · have e : k / 64 = 64 * v + t := by omega
      rw [e]; exact hu.below (by omega)
  · exact I.2.1 k q
theorem own_Inv.high {M H : Nat} {fm fh : Nat → Int64} {S : Nat → Bool} (I : own_Inv M H fm fh S) {v t u : Nat} (hv : v < H) (h0 : ∀ v', v < v' → v' < H → fh v' = 0) (t64 : t < 64) (u64 : u < 64) (ht : own_tb (fh v) t = true ∧ ∀ j, t < j → own_tb (fh v) j = false) (hu : own_tb (fm (64 * v + t)) u = true ∧ ∀ j, u < j → own_tb (fm (64 * v + t)) j = false) :
    S (64 * (64 * v + t) + u) = true ∧ ∀ k, 64 * (64 * v + t) + u < k → S k = false := by
  obtain ⟨wM, wz⟩ := I.word hv t64 ht.1
  refine ⟨by rw [← I.1 _ u wM u64]; exact hu.1, fun k hk => ?_⟩
  rcases Nat.lt_or_ge k (64 * M) with q | q
  · have a := I.1 (k / 64) (k % 64) (by omega) (by omega)
    rw [show 64 * (k / 64) + k % 64 = k by omega] at a
    rw [← a]
    rcases Nat.lt_or_ge (64 * v + t) (k / 64) with c | c
    · have z : fm (k / 64) = 0 := by
        refine I.noword (by omega) ?_
        rcases Nat.lt_or_ge v (k / 64 / 64) with d | d
        · rw [h0 _ d (by have := I.2.2.2; omega), own_tb_zero]
        · have e : k / 64 / 64 = v := by omega
          rw [e]; exact ht.2 _ (by omega)
      rw [z, own_tb_zero]
    · have e : k / 64 = 64 * v + t := by omega
      rw [e]; exact hu.2 _ (by omega)
  · exact I.2.1 k q
theorem own_addn {a b : Int32} {i j : Nat} (ha : a.toInt = (i : Int)) (hb : b.toInt = (j : Int)) (h : i + j < 2 ^ 31) : (a + b).toInt = ((i + j : Nat) : Int) := by
  have a1 := c_iadd a b
  have r := rng32 (a + b)
  omega
theorem own_predn {a : Int32} {i : Nat} (ha : a.toInt = ((i + 1 : Nat) : Int)) : (a - (1 : Int32)).toInt = (i : Int) := by
  have a1 := c_isub a 1
  have r := rng32 (a - 1); have r' := rng32 a
  rw [own_i1] at a1
  omega
theorem own_sh6 {a : Int32} {i : Nat} (ha : a.toInt = (i : Int)) : ((a.toUInt32 >>> ((6 : Int32) &&& 31).toUInt32).toInt32).toInt = ((i / 64 : Nat) : Int) := own_ush a 6 6 64 (by decide) (by decide) (by decide) ha
theorem own_comb {a b : Int32} {x t : Nat} (ha : a.toInt = (x : Int)) (hb : b.toInt = (t : Int)) (ht : t < 64) (hx : x < 1048576) : ((a <<< ((6 : Int32) &&& 31)) ||| b).toInt = ((64 * x + t : Nat) : Int) := by
  have s := c_ishl a 6 6 (by decide)
  have r := rng32 (a <<< ((6 : Int32) &&& 31))
  have e : ((2 ^ 6 : Nat) : Int) = 64 := by decide
  rw [e, ha] at s
  have q : (a <<< ((6 : Int32) &&& 31)).toInt = 64 * x := by omega
  have o := c_or (a <<< ((6 : Int32) &&& 31)) b 6 (by decide) 64 (by decide) (by omega) (by omega) (by omega)
  have r2 := rng32 ((a <<< ((6 : Int32) &&& 31)) ||| b)
  omega
theorem own_ofNat {t : Nat} (h : t < 64) : (Int32.ofNat t).toInt = (t : Int) := len_toInt (by omega)
theorem own_ntz {x : Int64} (h : ¬ x = 0) : ∃ t, Low x.toBitVec.toNat t ∧ t < 64 ∧ (Long_numberOfTrailingZeros_J.val x).toInt = (t : Int) := by
  obtain ⟨t, ht⟩ := low_ex x.toBitVec.toNat (by have := own_pos_of h; omega)
  have t64 : t < 64 := ht.lt x.toBitVec.isLt
  exact ⟨t, ht, t64, by rw [ntz64 ht]; exact own_ofNat t64⟩
theorem own_nlz {x : Int64} (h : ¬ x = 0) : ∃ t, t < 64 ∧ (own_tb x t = true ∧ ∀ j, t < j → own_tb x j = false) ∧ ((63 : Int32) - Long_numberOfLeadingZeros_J.val x).toInt = (t : Int) := by
  obtain ⟨t, t1, t2, t3, t4⟩ := own_nlz64 (own_pos_of h)
  refine ⟨t, t1, own_tb_top t2 t3, ?_⟩
  have a1 := c_isub 63 (Long_numberOfLeadingZeros_J.val x)
  have r := rng32 ((63 : Int32) - Long_numberOfLeadingZeros_J.val x)
  rw [t4, show (63 : Int32).toInt = 63 from rfl] at a1
  omega
def own_RK (eA eB th cnt : Nat) : Prop := (th ≤ eA ∧ cnt = 0) ∨ (eA < th ∧ th ≤ eB ∧ cnt = 1) ∨ (eB < th ∧ cnt = 2)
def own_RB (x : Int64) (w th eA eB : Nat) : Prop := ∀ i, i < 64 → (own_tb x i = true ↔ ((64 * w + i = eA ∨ 64 * w + i = eB) ∧ th ≤ 64 * w + i))
def own_RG (g : Nat → Int32) (th eA eB : Nat) : Prop := (eA < th → (g 0).toInt = (eA : Int)) ∧ (eB < th → (g 1).toInt = (eB : Int))
theorem own_step {x : Int64} {w th eA eB cnt t : Nat} (hAB : eA < eB) (hw : 64 * w ≤ th) (hx : own_RB x w th eA eB) (rk : own_RK eA eB th cnt) (lo : Low x.toBitVec.toNat t) (ht : t < 64) {g : Nat → Int32} (rg : own_RG g th eA eB) {zv : Int32} (hz : zv.toInt = ((64 * w + t : Nat) : Int)) :
    cnt < 2 ∧ th ≤ 64 * w + t ∧ own_RB (x &&& (x - (1 : Int64))) w (64 * w + t + 1) eA eB ∧ own_RK eA eB (64 * w + t + 1) (cnt + 1) ∧ own_RG (own_upd g cnt zv) (64 * w + t + 1) eA eB := by
  obtain ⟨he, hth⟩ := (hx t ht).mp lo.at
  have nob : ∀ i, i < t → own_tb x i = false := fun i hi => lo.below hi
  have hA : th ≤ eA → 64 * w + t ≤ eA := fun q => by
    rcases Nat.lt_or_ge eA (64 * w + t) with c | c
    · have a := (hx (eA - 64 * w) (by omega)).mpr ⟨Or.inl (by omega), by omega⟩
      rw [nob _ (by omega)] at a; cases a
    · exact c
  have hcase : (64 * w + t = eA ∧ cnt = 0) ∨ (64 * w + t = eB ∧ cnt = 1) := by
    unfold own_RK at rk; omega
  refine ⟨by omega, hth, fun i hi => ?_, by unfold own_RK at rk ⊢; omega, ?_⟩
  · rw [own_tb_clear lo i]
    constructor
    · intro q
      simp at q
      obtain ⟨q1, q2⟩ := q
      obtain ⟨a, b⟩ := (hx i hi).mp q1
      refine ⟨a, ?_⟩
      rcases Nat.lt_or_ge i t with c | c
      · rw [nob i c] at q1; cases q1
      · omega
    · intro q
      have a := (hx i hi).mpr ⟨q.1, by omega⟩
      have b : ¬ i = t := by omega
      simp [a, b]
  · rcases hcase with ⟨c1, c2⟩ | ⟨c1, c2⟩
    · rw [c2]
      exact ⟨fun _ => by rw [own_upd_hit, hz, c1], fun q => by omega⟩
    · rw [c2]
      exact ⟨fun _ => by rw [own_upd_miss _ _ (by decide)]; exact rg.1 (by unfold own_RK at rk; omega), fun _ => by rw [own_upd_hit, hz, c1]⟩
theorem own_fin {w th eA eB cnt : Nat} (hAB : eA < eB) (hw : 64 * w ≤ th) (hx : own_RB 0 w th eA eB) (rk : own_RK eA eB th cnt) {g : Nat → Int32} (rg : own_RG g th eA eB) (h2 : th ≤ 64 * w + 64) : own_RK eA eB (64 * (w + 1)) cnt ∧ own_RG g (64 * (w + 1)) eA eB := by
  have hA : th ≤ eA → 64 * w + 64 ≤ eA := fun q => by
    rcases Nat.lt_or_ge eA (64 * w + 64) with c | c
    · have a := (hx (eA - 64 * w) (by omega)).mpr ⟨Or.inl (by omega), by omega⟩
      rw [own_tb_zero] at a; cases a
    · exact c
  have hB : th ≤ eB → 64 * w + 64 ≤ eB := fun q => by
    rcases Nat.lt_or_ge eB (64 * w + 64) with c | c
    · have a := (hx (eB - 64 * w) (by omega)).mpr ⟨Or.inr (by omega), by omega⟩
      rw [own_tb_zero] at a; cases a
    · exact c
  refine ⟨by unfold own_RK at rk ⊢; omega, fun q => rg.1 (by omega), fun q => rg.2 (by omega)⟩
theorem own_begin {M H w eA eB : Nat} {fm fh : Nat → Int64} {S : Nat → Bool} (I : own_Inv M H fm fh S) (hS : ∀ k, S k = (decide (k = eA) || decide (k = eB))) (hw : w < M) : own_RB (fm w) w (64 * w) eA eB := by
  intro i hi
  rw [I.1 w i hw hi, hS]
  simp
theorem own_out {M H eA eB : Nat} {fm fh : Nat → Int64} {S : Nat → Bool} (I : own_Inv M H fm fh S) (hAB : eA < eB) (hS : ∀ k, S k = (decide (k = eA) || decide (k = eB))) {g : Nat → Int32} (rg : own_RG g (64 * M) eA eB) : (g 0).toInt = (eA : Int) ∧ (g 1).toInt = (eB : Int) := by
  have b : eB < 64 * M := by
    rcases Nat.lt_or_ge eB (64 * M) with c | c
    · exact c
    · have a := I.2.1 eB c; rw [hS] at a; simp at a
  exact ⟨rg.1 (by omega), rg.2 b⟩
theorem own_S3 (na nb nc g eA eB k : Nat) (h : (g = na ∧ eA = nb ∧ eB = nc) ∨ (g = nb ∧ eA = na ∧ eB = nc) ∨ (g = nc ∧ eA = na ∧ eB = nb)) (hab : na < nb) (hbc : nb < nc) : ((((false || decide (k = na)) || decide (k = nb)) || decide (k = nc)) && !decide (k = g)) = (decide (k = eA) || decide (k = eB)) := by
  rw [Bool.eq_iff_iff]
  simp
  omega
theorem own_lowest {S : Nat → Bool} {eA eB r : Nat} (hS : ∀ k, S k = (decide (k = eA) || decide (k = eB))) (hAB : eA < eB) (h1 : S r = true) (h2 : ∀ k, k < r → S k = false) {zr v : Int32} (hz : zr.toInt = (r : Int)) (hv : v.toInt = (eA : Int)) : zr = v := by
  have a := h1
  rw [hS] at a
  simp at a
  have b : ¬ eA < r := fun q => by have c := h2 _ q; rw [hS] at c; simp at c
  rw [← Int32.toInt_inj]; omega
theorem own_highest {S : Nat → Bool} {eA eB r : Nat} (hS : ∀ k, S k = (decide (k = eA) || decide (k = eB))) (hAB : eA < eB) (h1 : S r = true) (h2 : ∀ k, r < k → S k = false) {zr v : Int32} (hz : zr.toInt = (r : Int)) (hv : v.toInt = (eB : Int)) : zr = v := by
  have a := h1
  rw [hS] at a
  simp at a
  have b : ¬ r < eB := fun q => by have c := h2 _ q; rw [hS] at c; simp at c
  rw [← Int32.toInt_inj]; omega
theorem own_room (x : Int32) : ∃ r : Nat, ((1 : Int32) + (x &&& (16383 : Int32))).toInt = (r : Int) ∧ r ≤ 16384 := by
  have h := c_mask x 16383 14 (by decide) (by decide)
  have e : ((2 ^ 14 : Nat) : Int) = 16384 := by decide
  rw [e] at h
  have a := c_iadd 1 (x &&& (16383 : Int32))
  have r := rng32 ((1 : Int32) + (x &&& (16383 : Int32)))
  rw [own_i1] at a
  exact ⟨((1 : Int32) + (x &&& (16383 : Int32))).toInt.toNat, by omega, by omega⟩
theorem own_place (x : Int32) : ∃ r : Nat, (x &&& (8191 : Int32)).toInt = (r : Int) ∧ r < 8192 := by
  have h := c_mask x 8191 13 (by decide) (by decide)
  have e : ((2 ^ 13 : Nat) : Int) = 8192 := by decide
  rw [e] at h
  exact ⟨(x &&& (8191 : Int32)).toInt.toNat, by omega, by omega⟩
theorem own_next (v x : Int32) (n B : Nat) (hv : v.toInt = (n : Int)) (hB : n < B) (h2 : B < 100000) : ∃ r : Nat, ((v + (1 : Int32)) + (x &&& (8191 : Int32))).toInt = (r : Int) ∧ n < r ∧ r < B + 8192 := by
  have h := c_mask x 8191 13 (by decide) (by decide)
  have e : ((2 ^ 13 : Nat) : Int) = 8192 := by decide
  rw [e] at h
  have a := c_iadd v 1
  have r := rng32 (v + (1 : Int32))
  have a2 := c_iadd (v + (1 : Int32)) (x &&& (8191 : Int32))
  have r2 := rng32 ((v + (1 : Int32)) + (x &&& (8191 : Int32)))
  rw [own_i1] at a
  exact ⟨((v + (1 : Int32)) + (x &&& (8191 : Int32))).toInt.toNat, by omega, by omega, by omega⟩
theorem own_w3 (x : Int32) : ((x &&& (2147483647 : Int32)) % (3 : Int32)) = 0 ∨ ((x &&& (2147483647 : Int32)) % (3 : Int32)) = 1 ∨ ((x &&& (2147483647 : Int32)) % (3 : Int32)) = 2 := by
  have h := (c_andS x 2147483647).2.2 (by decide)
  have h2 := (c_irem (x &&& (2147483647 : Int32)) 3 3 rfl).1 h
  simp only [← Int32.toInt_inj, own_i0, own_i1, show (2 : Int32).toInt = 2 from rfl]
  omega
theorem own_m1 : (-1 : Int32).toInt = -1 := by decide
theorem own_decn {z : Int32} {i : Nat} (h : z.toInt = (i : Int)) (h0 : 0 < i) : (z + (-1 : Int32)).toInt = ((i - 1 : Nat) : Int) := by
  have a := c_iadd z (-1)
  have r := rng32 (z + (-1 : Int32)); have r' := rng32 z
  rw [own_m1] at a
  omega
theorem own_tabT {Z s : State} {a0 args : Array Value} (hZ : Z.Warmed39 s.vm) (hw : ∀ d ∈ tables_1, d.before a0 Z = true) : Jvm.Free.JP.Long_numberOfTrailingZeros_J.tab.before args s = true := by
  have i1 : Jvm.Free.JP.Integer_numberOfTrailingZeros_I.tab.before args s = true := by
    refine Jvm.Free.XT.unparts (c := .code Jvm.Free.JP.Integer_numberOfTrailingZeros_I.yN Jvm.Free.JP.Integer_numberOfTrailingZeros_I.yB 2 (some .int)) (Ls := .initialized Jvm.Free.JP.Integer_numberOfTrailingZeros_I.yN.cls :: Jvm.Free.JP.Integer_numberOfTrailingZeros_I.site) ?_ ?_
    · exact mvT hZ (hw _ (List.mem_of_getElem? (i := 45) rfl))
    · intro w hm
      simp only [Jvm.Free.JP.Integer_numberOfTrailingZeros_I.site, List.mem_cons, List.not_mem_nil, or_false] at hm
      rcases hm with rfl | rfl
      · exact mvT hZ (hw _ (List.mem_of_getElem? (i := 44) rfl))
      · exact mvT hZ (hw _ (List.mem_of_getElem? (i := 46) rfl))
  refine Jvm.Free.XT.unparts (c := .code Jvm.Free.JP.Long_numberOfTrailingZeros_J.yN Jvm.Free.JP.Long_numberOfTrailingZeros_J.yB 3 (some .int)) (Ls := .initialized Jvm.Free.JP.Long_numberOfTrailingZeros_J.yN.cls :: Jvm.Free.JP.Long_numberOfTrailingZeros_J.site) ?_ ?_
  · exact mvT hZ (hw _ (List.mem_of_getElem? (i := 41) rfl))
  · intro w hm
    simp only [Jvm.Free.JP.Long_numberOfTrailingZeros_J.site, Jvm.Free.XT.staticW, List.cons_append, List.nil_append, List.mem_cons, List.not_mem_nil, or_false] at hm
    rcases hm with rfl | rfl | rfl | rfl
    · exact mvT hZ (hw _ (List.mem_of_getElem? (i := 40) rfl))
    · exact i1
    · exact mvT hZ (hw _ (List.mem_of_getElem? (i := 42) rfl))
    · exact mvT hZ (hw _ (List.mem_of_getElem? (i := 43) rfl))
theorem own_tabL {Z s : State} {a0 args : Array Value} (hZ : Z.Warmed39 s.vm) (hw : ∀ d ∈ tables_1, d.before a0 Z = true) : Jvm.Free.JP.Long_numberOfLeadingZeros_J.tab.before args s = true := by
  have i1 : Jvm.Free.JP.Integer_numberOfLeadingZeros_I.tab.before args s = true := by
    refine Jvm.Free.XT.unparts (c := .code Jvm.Free.JP.Integer_numberOfLeadingZeros_I.yN Jvm.Free.JP.Integer_numberOfLeadingZeros_I.yB 2 (some .int)) (Ls := .initialized Jvm.Free.JP.Integer_numberOfLeadingZeros_I.yN.cls :: Jvm.Free.JP.Integer_numberOfLeadingZeros_I.site) ?_ ?_
    · exact mvT hZ (hw _ (List.mem_of_getElem? (i := 57) rfl))
    · intro w hm
      simp only [Jvm.Free.JP.Integer_numberOfLeadingZeros_I.site, List.mem_cons, List.not_mem_nil, or_false] at hm
      rcases hm with rfl | rfl
      · exact mvT hZ (hw _ (List.mem_of_getElem? (i := 44) rfl))
      · exact mvT hZ (hw _ (List.mem_of_getElem? (i := 46) rfl))
  refine Jvm.Free.XT.unparts (c := .code Jvm.Free.JP.Long_numberOfLeadingZeros_J.yN Jvm.Free.JP.Long_numberOfLeadingZeros_J.yB 3 (some .int)) (Ls := .initialized Jvm.Free.JP.Long_numberOfLeadingZeros_J.yN.cls :: Jvm.Free.JP.Long_numberOfLeadingZeros_J.site) ?_ ?_
  · exact mvT hZ (hw _ (List.mem_of_getElem? (i := 54) rfl))
  · intro w hm
    simp only [Jvm.Free.JP.Long_numberOfLeadingZeros_J.site, Jvm.Free.XT.staticW, List.cons_append, List.nil_append, List.mem_cons, List.not_mem_nil, or_false] at hm
    rcases hm with rfl | rfl | rfl | rfl
    · exact mvT hZ (hw _ (List.mem_of_getElem? (i := 40) rfl))
    · exact i1
    · exact mvT hZ (hw _ (List.mem_of_getElem? (i := 55) rfl))
    · exact mvT hZ (hw _ (List.mem_of_getElem? (i := 56) rfl))
theorem own_d13_0 : decode jdk_29_method_65_code 0 = .ok (.iload_n 0, 1) := by decide +kernel
theorem own_d13_1 : decode jdk_29_method_65_code 1 = .ok (.iload_n 1, 1) := by decide +kernel
theorem own_d13_2 : decode jdk_29_method_65_code 2 = .ok (.if_icmp .lt 7, 3) := by decide +kernel
theorem own_d13_5 : decode jdk_29_method_65_code 5 = .ok (.iload_n 0, 1) := by decide +kernel
theorem own_d13_6 : decode jdk_29_method_65_code 6 = .ok (.goto 4, 3) := by decide +kernel
theorem own_d13_9 : decode jdk_29_method_65_code 9 = .ok (.iload_n 1, 1) := by decide +kernel
theorem own_d13_10 : decode jdk_29_method_65_code 10 = .ok (.ireturn, 1) := by decide +kernel
theorem own_ef13 (m : MethodId) (p1 : Int32) (p2 : Int32) : entryFrame m #[(.int p1), (.int p2)] 2 = mkF m 0 #[.val (.int p1), .val (.int p2)] [] := by first | (simp [entryFrame, mkF, argsToLocals, Value.category]; done) | rfl
def own_Q13 (Z : State) (p1 p2 : Int32) (h0 : Heap) (n0 : Nat) (v : Option Value) (h : Heap) (L : List Loc) : Prop := v = some (.int (if p1 < p2 then p2 else p1)) ∧ Fr n0 L ∧ h = h0
set_option maxRecDepth 65536 in
set_option maxHeartbeats 40000000 in
theorem own_rm13 (l : Launch) (Z : State) (a0 : Array Value) (hw : ∀ d ∈ tables_1, d.before a0 Z = true) (ws : List Jvm.Cond) (p1 p2 : Int32) (h0 : Heap) (n0 : Nat) (Z0 : n0 ≤ h0.size) :
    MetFree l (⟨"java/lang/Math", "max", "(II)I"⟩ : MethodName) (head1 (Jvm.Cond.code (⟨"java/lang/Math", "max", "(II)I"⟩ : MethodName) jdk_29_method_65_code 2 (some .int) :: ws) ({ frames := 0, cells := 0, slots := 0, locals := 0 } : Room)) (fun a U => a = #[(.int p1), (.int p2)] ∧ Z.Warmed39 U.vm ∧ U.heap = h0) (fun _ _ _ _ _ => True) (fun _ U o U' => ∃ v L, o = .returned v ∧ own_Q13 Z p1 p2 h0 n0 v U'.heap L ∧ FrameEnd U o U' L ({ frames := 0, cells := 0, slots := 0, locals := 0 } : Room).cells ({ frames := 0, cells := 0, slots := 0, locals := 0 } : Room).slots) := by
  refine MetFree.of_bodySF (Jvm.Free.JP.mathPlain rfl (by decide +kernel)) hisR ?_
  intro p e s m args below meth c s₁ Bd hml0 hP hK
  obtain ⟨rfl, hZ, hh⟩ := hP
  have hx := Bd.exec
  have hby := Bd.bytes
  have hml : c.maxLocals = 2 := hml0
  have hown : s.vm.findClass "java/lang/Math" = some m.cls := findClass_of_methodNamed Bd.named
  have hnm := (name_of_methodNamed Bd.named Bd.method).1
  have X0 : Stand p l e ({ frames := 0, cells := 0, slots := 0, locals := 0 } : Room) s m #[(.int p1), (.int p2)] below meth c s₁ [] 0 0 := Stand.of_body Bd
  have e0 : s₁.heap = h0 := by rw [← hh, Bd.state]; rfl
  have N0 := Fr.nil n0
  refine own_nm (st := s₁.setTop (entryFrame m #[(.int p1), (.int p2)] 2)) fun P fin => ?_
  refine own_fwd (fun tt kt => castTop (own_ef13 m p1 p2) kt) ?_
  show own_R p.tables e below P (s₁.setTop (mkF m 0 #[.val (.int p1), .val (.int p2)] []))
  refine own_fwd (fun tt kt => XS.iloadN X0.here hx rfl (hb hby own_d13_0) rfl kt) ?_
  show own_R p.tables e below P (s₁.setTop (mkF m 1 #[.val (.int p1), .val (.int p2)] [(.int p1)]))
  refine own_fwd (fun tt kt => XS.iloadN X0.here hx rfl (hb hby own_d13_1) rfl kt) ?_
  show own_R p.tables e below P (s₁.setTop (mkF m 2 #[.val (.int p1), .val (.int p2)] [(.int p2), (.int p1)]))
  by_cases hc1 : p1 < p2
  · refine own_fwd (fun tt kt => XS.icmpYes X0.here hx rfl (pc0 := 2) (pc' := 9) rfl (hb hby own_d13_2) rfl (tlt hc1).1 (by decide) (by decide) kt) ?_
    show own_R p.tables e below P (s₁.setTop (mkF m 9 #[.val (.int p1), .val (.int p2)] []))
    refine own_fwd (fun tt kt => XS.iloadN X0.here hx rfl (hb hby own_d13_9) rfl kt) ?_
    show own_R p.tables e below P (s₁.setTop (mkF m 10 #[.val (.int p1), .val (.int p2)] [(.int p2)]))
    obtain ⟨fs2, hr2, hrun2, hended2, hW2, hsame2⟩ := X0.leave (v := some (.int p2)) (fun h => by rw [Bd.returns] at h; cases h)
    refine ⟨_, _, X0.ireturnOut hx (w := p2) Bd.returns rfl (by simp) (hb hby own_d13_10) hr2, fin _ _ ⟨hrun2, hended2, _, _, rfl, ?_, ⟨_, rfl⟩, hW2, hsame2.mono (by decide) (by decide)⟩⟩
    show own_Q13 Z p1 p2 h0 n0 _ s₁.heap _
    rw [e0]
    exact ⟨by rw [if_pos hc1], N0, rfl⟩
  · refine own_fwd (fun tt kt => XS.icmpNo X0.here hx rfl (hb hby own_d13_2) rfl (flt hc1).1 kt) ?_
    show own_R p.tables e below P (s₁.setTop (mkF m 5 #[.val (.int p1), .val (.int p2)] []))
    refine own_fwd (fun tt kt => XS.iloadN X0.here hx rfl (hb hby own_d13_5) rfl kt) ?_
    show own_R p.tables e below P (s₁.setTop (mkF m 6 #[.val (.int p1), .val (.int p2)] [(.int p1)]))
    refine own_fwd (fun tt kt => XS.goto X0.here hx rfl (pc0 := 6) (pc' := 10) rfl (hb hby own_d13_6) (by decide) (by decide) kt) ?_
    show own_R p.tables e below P (s₁.setTop (mkF m 10 #[.val (.int p1), .val (.int p2)] [(.int p1)]))
    obtain ⟨fs3, hr3, hrun3, hended3, hW3, hsame3⟩ := X0.leave (v := some (.int p1)) (fun h => by rw [Bd.returns] at h; cases h)
    refine ⟨_, _, X0.ireturnOut hx (w := p1) Bd.returns rfl (by simp) (hb hby own_d13_10) hr3, fin _ _ ⟨hrun3, hended3, _, _, rfl, ?_, ⟨_, rfl⟩, hW3, hsame3.mono (by decide) (by decide)⟩⟩
    show own_Q13 Z p1 p2 h0 n0 _ s₁.heap _
    rw [e0]
    exact ⟨by rw [if_neg hc1], N0, rfl⟩
theorem own_d15_0 : decode jdk_29_method_69_code 0 = .ok (.iload_n 0, 1) := by decide +kernel
theorem own_d15_1 : decode jdk_29_method_69_code 1 = .ok (.iload_n 1, 1) := by decide +kernel
theorem own_d15_2 : decode jdk_29_method_69_code 2 = .ok (.if_icmp .gt 7, 3) := by decide +kernel
theorem own_d15_5 : decode jdk_29_method_69_code 5 = .ok (.iload_n 0, 1) := by decide +kernel
theorem own_d15_6 : decode jdk_29_method_69_code 6 = .ok (.goto 4, 3) := by decide +kernel
theorem own_d15_9 : decode jdk_29_method_69_code 9 = .ok (.iload_n 1, 1) := by decide +kernel
theorem own_d15_10 : decode jdk_29_method_69_code 10 = .ok (.ireturn, 1) := by decide +kernel
theorem own_ef15 (m : MethodId) (p1 : Int32) (p2 : Int32) : entryFrame m #[(.int p1), (.int p2)] 2 = mkF m 0 #[.val (.int p1), .val (.int p2)] [] := by first | (simp [entryFrame, mkF, argsToLocals, Value.category]; done) | rfl
def own_Q15 (Z : State) (p1 p2 : Int32) (h0 : Heap) (n0 : Nat) (v : Option Value) (h : Heap) (L : List Loc) : Prop := v = some (.int (if p2 < p1 then p2 else p1)) ∧ Fr n0 L ∧ h = h0
set_option maxRecDepth 65536 in
set_option maxHeartbeats 40000000 in
theorem own_rm15 (l : Launch) (Z : State) (a0 : Array Value) (hw : ∀ d ∈ tables_1, d.before a0 Z = true) (ws : List Jvm.Cond) (p1 p2 : Int32) (h0 : Heap) (n0 : Nat) (Z0 : n0 ≤ h0.size) :
    MetFree l (⟨"java/lang/Math", "min", "(II)I"⟩ : MethodName) (head1 (Jvm.Cond.code (⟨"java/lang/Math", "min", "(II)I"⟩ : MethodName) jdk_29_method_69_code 2 (some .int) :: ws) ({ frames := 0, cells := 0, slots := 0, locals := 0 } : Room)) (fun a U => a = #[(.int p1), (.int p2)] ∧ Z.Warmed39 U.vm ∧ U.heap = h0) (fun _ _ _ _ _ => True) (fun _ U o U' => ∃ v L, o = .returned v ∧ own_Q15 Z p1 p2 h0 n0 v U'.heap L ∧ FrameEnd U o U' L ({ frames := 0, cells := 0, slots := 0, locals := 0 } : Room).cells ({ frames := 0, cells := 0, slots := 0, locals := 0 } : Room).slots) := by
  refine MetFree.of_bodySF (Jvm.Free.JP.mathPlain rfl (by decide +kernel)) hisR ?_
  intro p e s m args below meth c s₁ Bd hml0 hP hK
  obtain ⟨rfl, hZ, hh⟩ := hP
  have hx := Bd.exec
  have hby := Bd.bytes
  have hml : c.maxLocals = 2 := hml0
  have hown : s.vm.findClass "java/lang/Math" = some m.cls := findClass_of_methodNamed Bd.named
  have hnm := (name_of_methodNamed Bd.named Bd.method).1
  have X0 : Stand p l e ({ frames := 0, cells := 0, slots := 0, locals := 0 } : Room) s m #[(.int p1), (.int p2)] below meth c s₁ [] 0 0 := Stand.of_body Bd
  have e0 : s₁.heap = h0 := by rw [← hh, Bd.state]; rfl
  have N0 := Fr.nil n0
  refine own_nm (st := s₁.setTop (entryFrame m #[(.int p1), (.int p2)] 2)) fun P fin => ?_
  refine own_fwd (fun tt kt => castTop (own_ef15 m p1 p2) kt) ?_
  show own_R p.tables e below P (s₁.setTop (mkF m 0 #[.val (.int p1), .val (.int p2)] []))
  refine own_fwd (fun tt kt => XS.iloadN X0.here hx rfl (hb hby own_d15_0) rfl kt) ?_
  show own_R p.tables e below P (s₁.setTop (mkF m 1 #[.val (.int p1), .val (.int p2)] [(.int p1)]))
  refine own_fwd (fun tt kt => XS.iloadN X0.here hx rfl (hb hby own_d15_1) rfl kt) ?_
  show own_R p.tables e below P (s₁.setTop (mkF m 2 #[.val (.int p1), .val (.int p2)] [(.int p2), (.int p1)]))
  by_cases hc4 : p2 < p1
  · refine own_fwd (fun tt kt => XS.icmpYes X0.here hx rfl (pc0 := 2) (pc' := 9) rfl (hb hby own_d15_2) rfl (tlt hc4).2.2.1 (by decide) (by decide) kt) ?_
    show own_R p.tables e below P (s₁.setTop (mkF m 9 #[.val (.int p1), .val (.int p2)] []))
    refine own_fwd (fun tt kt => XS.iloadN X0.here hx rfl (hb hby own_d15_9) rfl kt) ?_
    show own_R p.tables e below P (s₁.setTop (mkF m 10 #[.val (.int p1), .val (.int p2)] [(.int p2)]))
    obtain ⟨fs5, hr5, hrun5, hended5, hW5, hsame5⟩ := X0.leave (v := some (.int p2)) (fun h => by rw [Bd.returns] at h; cases h)
    refine ⟨_, _, X0.ireturnOut hx (w := p2) Bd.returns rfl (by simp) (hb hby own_d15_10) hr5, fin _ _ ⟨hrun5, hended5, _, _, rfl, ?_, ⟨_, rfl⟩, hW5, hsame5.mono (by decide) (by decide)⟩⟩
    show own_Q15 Z p1 p2 h0 n0 _ s₁.heap _
    rw [e0]
    exact ⟨by rw [if_pos hc4], N0, rfl⟩
  · refine own_fwd (fun tt kt => XS.icmpNo X0.here hx rfl (hb hby own_d15_2) rfl (flt hc4).2.2.1 kt) ?_
    show own_R p.tables e below P (s₁.setTop (mkF m 5 #[.val (.int p1), .val (.int p2)] []))
    refine own_fwd (fun tt kt => XS.iloadN X0.here hx rfl (hb hby own_d15_5) rfl kt) ?_
    show own_R p.tables e below P (s₁.setTop (mkF m 6 #[.val (.int p1), .val (.int p2)] [(.int p1)]))
    refine own_fwd (fun tt kt => XS.goto X0.here hx rfl (pc0 := 6) (pc' := 10) rfl (hb hby own_d15_6) (by decide) (by decide) kt) ?_
    show own_R p.tables e below P (s₁.setTop (mkF m 10 #[.val (.int p1), .val (.int p2)] [(.int p1)]))
    obtain ⟨fs6, hr6, hrun6, hended6, hW6, hsame6⟩ := X0.leave (v := some (.int p1)) (fun h => by rw [Bd.returns] at h; cases h)
    refine ⟨_, _, X0.ireturnOut hx (w := p1) Bd.returns rfl (by simp) (hb hby own_d15_10) hr6, fin _ _ ⟨hrun6, hended6, _, _, rfl, ?_, ⟨_, rfl⟩, hW6, hsame6.mono (by decide) (by decide)⟩⟩
    show own_Q15 Z p1 p2 h0 n0 _ s₁.heap _
    rw [e0]
    exact ⟨by rw [if_neg hc4], N0, rfl⟩
theorem own_d14_0 : decode jdk_65_method_124_code 0 = .ok (.iload_n 1, 1) := by decide +kernel
theorem own_d14_1 : decode jdk_65_method_124_code 1 = .ok (.aload_n 0, 1) := by decide +kernel
theorem own_d14_2 : decode jdk_65_method_124_code 2 = .ok (.arraylength, 1) := by decide +kernel
theorem own_d14_3 : decode jdk_65_method_124_code 3 = .ok (.if_icmp .ne 11, 3) := by decide +kernel
theorem own_d14_6 : decode jdk_65_method_124_code 6 = .ok (.aload_n 0, 1) := by decide +kernel
theorem own_d14_7 : decode jdk_65_method_124_code 7 = .ok (.invokevirtual 319, 3) := by decide +kernel
theorem own_d14_10 : decode jdk_65_method_124_code 10 = .ok (.checkcast 320, 3) := by decide +kernel
theorem own_d14_13 : decode jdk_65_method_124_code 13 = .ok (.areturn, 1) := by decide +kernel
theorem own_d14_14 : decode jdk_65_method_124_code 14 = .ok (.iload_n 1, 1) := by decide +kernel
theorem own_d14_15 : decode jdk_65_method_124_code 15 = .ok (.newarray .long, 2) := by decide +kernel
theorem own_d14_17 : decode jdk_65_method_124_code 17 = .ok (.astore_n 2, 1) := by decide +kernel
theorem own_d14_18 : decode jdk_65_method_124_code 18 = .ok (.aload_n 0, 1) := by decide +kernel
theorem own_d14_19 : decode jdk_65_method_124_code 19 = .ok (.iconst 0, 1) := by decide +kernel
theorem own_d14_20 : decode jdk_65_method_124_code 20 = .ok (.aload_n 2, 1) := by decide +kernel
theorem own_d14_21 : decode jdk_65_method_124_code 21 = .ok (.iconst 0, 1) := by decide +kernel
theorem own_d14_22 : decode jdk_65_method_124_code 22 = .ok (.aload_n 0, 1) := by decide +kernel
theorem own_d14_23 : decode jdk_65_method_124_code 23 = .ok (.arraylength, 1) := by decide +kernel
theorem own_d14_24 : decode jdk_65_method_124_code 24 = .ok (.iload_n 1, 1) := by decide +kernel
theorem own_d14_25 : decode jdk_65_method_124_code 25 = .ok (.invokestatic 304, 3) := by decide +kernel
theorem own_d14_28 : decode jdk_65_method_124_code 28 = .ok (.invokestatic 150, 3) := by decide +kernel
theorem own_d14_31 : decode jdk_65_method_124_code 31 = .ok (.aload_n 2, 1) := by decide +kernel
theorem own_d14_32 : decode jdk_65_method_124_code 32 = .ok (.areturn, 1) := by decide +kernel
theorem own_pn0 : plainName "java/util/Arrays" = true := by first | (simp [plainName, overriddenIn]; done) | decide +kernel
theorem own_pd0 : parseMethodDescriptor "(II)I" = some ⟨[.int, .int], some .int⟩ := by decide +kernel
theorem own_efcp510 (m : MethodId) (a1 : Addr) (p1 : Int32) : entryFrame m #[(.ref a1), (.int p1)] 3 = mkF m 0 #[.val (.ref a1), .val (.int p1), .unset] [] := by first | (simp [entryFrame, mkF, argsToLocals, Value.category]; done) | rfl
def own_Qcp510 (Z : State) (a1 : Addr) (p1 : Int32) (f : Nat → Int64) (n n' : Nat) (h0 : Heap) (n0 : Nat) (v : Option Value) (h : Heap) (L : List Loc) : Prop := ∃ b, v = some (.ref b) ∧ Fr n0 L ∧ n0 ≤ b ∧ h0.size ≤ b ∧ Keep h0 h [] ∧ own_AJ Z h b n' (own_gr f n) ∧ Exa Z h b "[J"
set_option maxRecDepth 65536 in
set_option maxHeartbeats 40000000 in
theorem own_rmcp510 (l : Launch) (Z : State) (a0 : Array Value) (hw : ∀ d ∈ tables_1, d.before a0 Z = true) (ws : List Jvm.Cond) (a1 : Addr) (p1 : Int32) (f : Nat → Int64) (n n' : Nat) (h0 : Heap) (n0 : Nat) (Z0 : n0 ≤ h0.size) (pA : own_AJ Z h0 a1 n f) (pE : Exa Z h0 a1 "[J") (hp : p1.toInt = (n' : Int)) (hnn : n ≤ n') (hcap : n' ≤ 510) :
    MetFree l (⟨"java/util/Arrays", "copyOf", "([JI)[J"⟩ : MethodName) (head1 (Jvm.Cond.code (⟨"java/util/Arrays", "copyOf", "([JI)[J"⟩ : MethodName) jdk_65_method_124_code 3 (some (.array .long)) :: ws) ({ frames := 1, cells := 1, slots := 510, locals := 40 } : Room)) (fun a U => a = #[(.ref a1), (.int p1)] ∧ Z.Warmed39 U.vm ∧ U.heap = h0) (fun _ _ _ _ _ => True) (fun _ U o U' => ∃ v L, o = .returned v ∧ own_Qcp510 Z a1 p1 f n n' h0 n0 v U'.heap L ∧ FrameEnd U o U' L ({ frames := 1, cells := 1, slots := 510, locals := 40 } : Room).cells ({ frames := 1, cells := 1, slots := 510, locals := 40 } : Room).slots) := by
  refine MetFree.of_bodySF (plainFor_of_name own_pn0) hisR ?_
  intro p e s m args below meth c s₁ Bd hml0 hP hK
  obtain ⟨rfl, hZ, hh⟩ := hP
  have hx := Bd.exec
  have hby := Bd.bytes
  have hml : c.maxLocals = 3 := hml0
  have hown : s.vm.findClass "java/util/Arrays" = some m.cls := findClass_of_methodNamed Bd.named
  have hnm := (name_of_methodNamed Bd.named Bd.method).1
  have X0 : Stand p l e ({ frames := 1, cells := 1, slots := 510, locals := 40 } : Room) s m #[(.ref a1), (.int p1)] below meth c s₁ [] 0 0 := Stand.of_body Bd
  have e0 : s₁.heap = h0 := by rw [← hh, Bd.state]; rfl
  have N0 := Fr.nil n0
  refine own_nm (st := s₁.setTop (entryFrame m #[(.ref a1), (.int p1)] 3)) fun P fin => ?_
  refine own_fwd (fun tt kt => castTop (own_efcp510 m a1 p1) kt) ?_
  show own_R p.tables e below P (s₁.setTop (mkF m 0 #[.val (.ref a1), .val (.int p1), .unset] []))
  have K0 := Keep.refl h0 []
  refine own_fwd (fun tt kt => XS.iloadN X0.here hx rfl (hb hby own_d14_0) rfl kt) ?_
  show own_R p.tables e below P (s₁.setTop (mkF m 1 #[.val (.ref a1), .val (.int p1), .unset] [(.int p1)]))
  refine own_fwd (fun tt kt => XS.aloadN X0.here hx rfl (hb hby own_d14_1) rfl rfl kt) ?_
  show own_R p.tables e below P (s₁.setTop (mkF m 2 #[.val (.ref a1), .val (.int p1), .unset] [(.ref a1), (.int p1)]))
  refine own_fwd (own_len X0 hx hZ e0 pA n.toInt32 (len_toInt pA.bd) (g := (mkF m 2 #[.val (.ref a1), .val (.int p1), .unset] [(.ref a1), (.int p1)])) rfl rfl (hb hby own_d14_2)) ?_
  show own_R p.tables e below P (s₁.setTop (mkF m 3 #[.val (.ref a1), .val (.int p1), .unset] [(.int n.toInt32), (.int p1)]))
  by_cases hc7 : p1 = n.toInt32
  · refine own_fwd (fun tt kt => XS.icmpNo X0.here hx rfl (hb hby own_d14_3) rfl (teq hc7).2 kt) ?_
    show own_R p.tables e below P (s₁.setTop (mkF m 6 #[.val (.ref a1), .val (.int p1), .unset] []))
    have ln : n.toInt32.toInt = (n : Int) := len_toInt pA.bd
    have en : n' = n := by have q := hc7; rw [← Int32.toInt_inj, hp, ln] at q; omega
    refine own_fwd (fun tt kt => XS.aloadN X0.here hx rfl (hb hby own_d14_6) rfl rfl kt) ?_
    show own_R p.tables e below P (s₁.setTop (mkF m 7 #[.val (.ref a1), .val (.int p1), .unset] [(.ref a1)]))
    obtain ⟨T8, h8, b8, g8, X8, e8, E8, A8_, B8, st8⟩ := own_cloneJ X0 hx hZ hown (hw _ (List.mem_of_getElem? (i := 79) rfl)) (hw _ (List.mem_of_getElem? (i := 80) rfl)) (hw _ (List.mem_of_getElem? (i := 84) rfl)) (hw _ (List.mem_of_getElem? (i := 82) rfl)) (hw _ (List.mem_of_getElem? (i := 83) rfl)) (hw _ (List.mem_of_getElem? (i := 85) rfl)) e0 pA pE (g := (mkF m 7 #[.val (.ref a1), .val (.int p1), .unset] [(.ref a1)])) rfl (by rw [hml]; rfl) rfl (hb hby own_d14_7) (by decide) (W := 0) (cap := 510) (by show 2 * 0 + _ ≤ _; exact Nat.le_of_eq rfl) (by decide) (by omega) (by decide) (by decide)
    have ne8_a1 : a1 ≠ b8 := Nat.ne_of_lt (by rw [g8]; exact pA.lt)
    have ge_b8 : n0 ≤ b8 := by rw [g8]; exact Z0
    have sz_b8 : h0.size ≤ b8 := by rw [g8]; exact (Nat.le_refl h0.size)
    have pA_x8 := pA.ext E8
    have pE_x8 := pE.ext E8
    have Z8 : n0 ≤ h8.size := Nat.le_trans Z0 E8.1
    have K8 := K0.ext E8
    have Y8 : h0.size ≤ h8.size := Nat.le_trans (Nat.le_refl h0.size) E8.1
    refine own_fwd st8 ?_
    show own_R p.tables e below P (T8.setTop (mkF m 10 #[.val (.ref a1), .val (.int p1), .unset] [(.ref b8)]))
    obtain ⟨T9, X9, e9, st9⟩ := castY X8 hx hZ hown (hw _ (List.mem_of_getElem? (i := 86) rfl)) e8 (Ins.self B8) (g := (mkF m 10 #[.val (.ref a1), .val (.int p1), .unset] [(.ref b8)])) rfl rfl (hb hby own_d14_10)
    refine own_fwd st9 ?_
    show own_R p.tables e below P (T9.setTop (mkF m 13 #[.val (.ref a1), .val (.int p1), .unset] [(.ref b8)]))
    obtain ⟨fs10, hr10, hrun10, hended10, hW10, hsame10⟩ := X9.leave (v := some (.ref b8)) (fun h => by rw [Bd.returns] at h; cases h)
    have An : own_AJ Z h8 b8 n' (own_gr f n) := by rw [en]; exact A8_.cong fun i hi => by rw [own_gr, if_pos hi]
    refine ⟨_, _, X9.areturnOut hx rfl Bd.returns rfl (hb hby own_d14_13) hr10, fin _ _ ⟨hrun10, hended10, _, _, rfl, ?_, ⟨_, rfl⟩, hW10, hsame10.mono (by decide) (by decide)⟩⟩
    show own_Qcp510 Z a1 p1 f n n' h0 n0 _ T9.heap _
    rw [e9]
    exact ⟨b8, rfl, N0, ge_b8, sz_b8, K8, An, B8⟩
  · refine own_fwd (fun tt kt => XS.icmpYes X0.here hx rfl (pc0 := 3) (pc' := 14) rfl (hb hby own_d14_3) rfl (feq hc7).2 (by decide) (by decide) kt) ?_
    show own_R p.tables e below P (s₁.setTop (mkF m 14 #[.val (.ref a1), .val (.int p1), .unset] []))
    have ln : n.toInt32.toInt = (n : Int) := len_toInt pA.bd
    refine own_fwd (fun tt kt => XS.iloadN X0.here hx rfl (hb hby own_d14_14) rfl kt) ?_
    show own_R p.tables e below P (s₁.setTop (mkF m 15 #[.val (.ref a1), .val (.int p1), .unset] [(.int p1)]))
    obtain ⟨T11, h11, b11, g11, X11, e11, E11, A11, B11, st11⟩ := own_newA (n := n') X0 hx hZ (hw _ (List.mem_of_getElem? (i := 9) rfl)) e0 (z := p1) hp (cap := 510) hcap (g := (mkF m 15 #[.val (.ref a1), .val (.int p1), .unset] [(.int p1)])) rfl (hb hby own_d14_15) rfl (by decide) (by decide) (by decide) (ad := "[J") (by decide)
    have ne11_a1 : a1 ≠ b11 := Nat.ne_of_lt (by rw [g11]; exact pA.lt)
    have ge_b11 : n0 ≤ b11 := by rw [g11]; exact Z0
    have sz_b11 : h0.size ≤ b11 := by rw [g11]; exact (Nat.le_refl h0.size)
    have pA_x11 := pA.ext E11
    have pE_x11 := pE.ext E11
    have A11_ : own_AJ Z h11 b11 n' (fun _ => (0 : Int64)) := A11
    have Z11 : n0 ≤ h11.size := Nat.le_trans Z0 E11.1
    have K11 := K0.ext E11
    have Y11 : h0.size ≤ h11.size := Nat.le_trans (Nat.le_refl h0.size) E11.1
    refine own_fwd st11 ?_
    show own_R p.tables e below P (T11.setTop (mkF m 17 #[.val (.ref a1), .val (.int p1), .unset] [(.ref b11)]))
    refine own_fwd (fun tt kt => XS.astoreN X11.here hx rfl (hb hby own_d14_17) rfl rfl (l' := #[.val (.ref a1), .val (.int p1), .val (.ref b11)]) rfl kt) ?_
    show own_R p.tables e below P (T11.setTop (mkF m 18 #[.val (.ref a1), .val (.int p1), .val (.ref b11)] []))
    refine own_fwd (fun tt kt => XS.aloadN X11.here hx rfl (hb hby own_d14_18) rfl rfl kt) ?_
    show own_R p.tables e below P (T11.setTop (mkF m 19 #[.val (.ref a1), .val (.int p1), .val (.ref b11)] [(.ref a1)]))
    refine own_fwd (fun tt kt => XS.iconst X11.here hx rfl (hb hby own_d14_19) kt) ?_
    show own_R p.tables e below P (T11.setTop (mkF m 20 #[.val (.ref a1), .val (.int p1), .val (.ref b11)] [(.int (0 : Int32)), (.ref a1)]))
    refine own_fwd (fun tt kt => XS.aloadN X11.here hx rfl (hb hby own_d14_20) rfl rfl kt) ?_
    show own_R p.tables e below P (T11.setTop (mkF m 21 #[.val (.ref a1), .val (.int p1), .val (.ref b11)] [(.ref b11), (.int (0 : Int32)), (.ref a1)]))
    refine own_fwd (fun tt kt => XS.iconst X11.here hx rfl (hb hby own_d14_21) kt) ?_
    show own_R p.tables e below P (T11.setTop (mkF m 22 #[.val (.ref a1), .val (.int p1), .val (.ref b11)] [(.int (0 : Int32)), (.ref b11), (.int (0 : Int32)), (.ref a1)]))
    refine own_fwd (fun tt kt => XS.aloadN X11.here hx rfl (hb hby own_d14_22) rfl rfl kt) ?_
    show own_R p.tables e below P (T11.setTop (mkF m 23 #[.val (.ref a1), .val (.int p1), .val (.ref b11)] [(.ref a1), (.int (0 : Int32)), (.ref b11), (.int (0 : Int32)), (.ref a1)]))
    refine own_fwd (own_len X11 hx hZ e11 pA_x11 n.toInt32 (len_toInt pA.bd) (g := (mkF m 23 #[.val (.ref a1), .val (.int p1), .val (.ref b11)] [(.ref a1), (.int (0 : Int32)), (.ref b11), (.int (0 : Int32)), (.ref a1)])) rfl rfl (hb hby own_d14_23)) ?_
    show own_R p.tables e below P (T11.setTop (mkF m 24 #[.val (.ref a1), .val (.int p1), .val (.ref b11)] [(.int n.toInt32), (.int (0 : Int32)), (.ref b11), (.int (0 : Int32)), (.ref a1)]))
    refine own_fwd (fun tt kt => XS.iloadN X11.here hx rfl (hb hby own_d14_24) rfl kt) ?_
    show own_R p.tables e below P (T11.setTop (mkF m 25 #[.val (.ref a1), .val (.int p1), .val (.ref b11)] [(.int p1), (.int n.toInt32), (.int (0 : Int32)), (.ref b11), (.int (0 : Int32)), (.ref a1)]))
    obtain ⟨_, _, ⟨T12, L12, k12, n12⟩, -, X12, ⟨Lc12, hQ12, l12, y12, z12⟩, st12⟩ := Jvm.LawKit.callS X11 hx (y := (⟨"java/lang/Math", "min", "(II)I"⟩ : MethodName)) hown (mvT hZ (hw _ (List.mem_of_getElem? (i := 72) rfl))) (mvT hZ (hw _ (List.mem_of_getElem? (i := 73) rfl))) (mvT hZ (hw _ (List.mem_of_getElem? (i := 66) rfl))) (mvT hZ (hw _ (List.mem_of_getElem? (i := 74) rfl))) (by decide) (backOf (W := 4) (own_rm15 l Z a0 hw [] n.toInt32 p1 h11 n0 Z11 ) hZ (hw _ (List.mem_of_getElem? (i := 74) rfl)) (hw _ (List.mem_of_getElem? (i := 66) rfl)) (by decide) (by decide)) (g := (mkF m 25 #[.val (.ref a1), .val (.int p1), .val (.ref b11)] [(.int p1), (.int n.toInt32), (.int (0 : Int32)), (.ref b11), (.int (0 : Int32)), (.ref a1)])) rfl (by rw [hml]; rfl) (argsL := [(.int n.toInt32), (.int p1)]) (rest := [(.int (0 : Int32)), (.ref b11), (.int (0 : Int32)), (.ref a1)]) (lenOf own_pd0 rfl) rfl (by show 2 * 0 + _ ≤ _; exact Nat.le_of_eq rfl) (hb hby own_d14_25) (fun _ _ => ⟨rfl, e11, (by decide : 1 + 0 ≤ _), (by decide : 510 + 0 ≤ _)⟩)
    dsimp only [Pt.U, Pt.locs, Pt.cells, Pt.slots] at X12 l12 y12 z12 st12 hQ12
    rw [l12, (show k12 = 1 from y12), (show n12 = 510 from z12)] at X12
    obtain ⟨h12, e12⟩ : ∃ z, T12.heap = z := ⟨_, rfl⟩
    rw [e12] at hQ12
    obtain ⟨hq12, N12q, q12⟩ := hQ12
    rw [q12] at e12
    rw [hq12] at st12
    have N12 := Fr.app N0 N12q
    have mq12 : (if p1 < n.toInt32 then p1 else n.toInt32) = n.toInt32 := by rw [if_neg]; rw [Int32.lt_iff_toInt_lt, hp, ln]; omega
    rw [mq12] at st12
    refine own_fwd st12 ?_
    show own_R p.tables e below P (T12.setTop (mkF m 28 #[.val (.ref a1), .val (.int p1), .val (.ref b11)] [(.int n.toInt32), (.int (0 : Int32)), (.ref b11), (.int (0 : Int32)), (.ref a1)]))
    obtain ⟨T13, h13, Lc13, X13, e13, N13, K13, A13_, st13⟩ := own_cp X12 hx hZ hown (hw _ (List.mem_of_getElem? (i := 75) rfl)) (hw _ (List.mem_of_getElem? (i := 78) rfl)) (hw _ (List.mem_of_getElem? (i := 76) rfl)) (hw _ (List.mem_of_getElem? (i := 77) rfl)) e12 pA_x11 A11_ rfl (fun i _ => rfl) (fun i _ => rfl) (sp := (0 : Int32)) (dp := (0 : Int32)) (nn := n.toInt32) 0 0 n own_i0 own_i0 (len_toInt pA.bd) (by omega) (by omega) N12 ge_b11 (fr := (mkF m 28 #[.val (.ref a1), .val (.int p1), .val (.ref b11)] [(.int n.toInt32), (.int (0 : Int32)), (.ref b11), (.int (0 : Int32)), (.ref a1)])) rfl (by rw [hml]; rfl) rfl (hb hby own_d14_28) (by decide) (W := 0) (by show 2 * 0 + _ ≤ _; exact Nat.le_of_eq rfl) (by decide)
    have B13_ : own_AJ Z h13 b11 n' (own_gr f n) := A13_.cong fun i _ => by
      unfold own_gr
      by_cases c : i < n
      · rw [if_pos c, if_pos (by omega)]; simp
      · rw [if_neg c, if_neg (by omega)]
    have pA_x13 := pA_x11.keep K13 (ninS ne11_a1 nin0)
    have pE_x13 := pE_x11.keep K13
    have B11_x13 := B11.keep K13
    have Z13 : n0 ≤ h13.size := Nat.le_trans Z11 K13.1
    have KK13 := K11.trans K13 (allS (Or.inr sz_b11) all0)
    have Y13 : h0.size ≤ h13.size := Nat.le_trans Y11 K13.1
    refine own_fwd st13 ?_
    show own_R p.tables e below P (T13.setTop (mkF m 31 #[.val (.ref a1), .val (.int p1), .val (.ref b11)] []))
    refine own_fwd (fun tt kt => XS.aloadN X13.here hx rfl (hb hby own_d14_31) rfl rfl kt) ?_
    show own_R p.tables e below P (T13.setTop (mkF m 32 #[.val (.ref a1), .val (.int p1), .val (.ref b11)] [(.ref b11)]))
    obtain ⟨fs14, hr14, hrun14, hended14, hW14, hsame14⟩ := X13.leave (v := some (.ref b11)) (fun h => by rw [Bd.returns] at h; cases h)
    refine ⟨_, _, X13.areturnOut hx rfl Bd.returns rfl (hb hby own_d14_32) hr14, fin _ _ ⟨hrun14, hended14, _, _, rfl, ?_, ⟨_, rfl⟩, hW14, hsame14.mono (by decide) (by decide)⟩⟩
    show own_Qcp510 Z a1 p1 f n n' h0 n0 _ T13.heap _
    rw [e13]
    exact ⟨b11, rfl, N13, ge_b11, sz_b11, KK13, B13_, B11_x13⟩
theorem own_efcp8 (m : MethodId) (a1 : Addr) (p1 : Int32) : entryFrame m #[(.ref a1), (.int p1)] 3 = mkF m 0 #[.val (.ref a1), .val (.int p1), .unset] [] := by first | (simp [entryFrame, mkF, argsToLocals, Value.category]; done) | rfl
def own_Qcp8 (Z : State) (a1 : Addr) (p1 : Int32) (f : Nat → Int64) (n n' : Nat) (h0 : Heap) (n0 : Nat) (v : Option Value) (h : Heap) (L : List Loc) : Prop := ∃ b, v = some (.ref b) ∧ Fr n0 L ∧ n0 ≤ b ∧ h0.size ≤ b ∧ Keep h0 h [] ∧ own_AJ Z h b n' (own_gr f n) ∧ Exa Z h b "[J"
set_option maxRecDepth 65536 in
set_option maxHeartbeats 40000000 in
theorem own_rmcp8 (l : Launch) (Z : State) (a0 : Array Value) (hw : ∀ d ∈ tables_1, d.before a0 Z = true) (ws : List Jvm.Cond) (a1 : Addr) (p1 : Int32) (f : Nat → Int64) (n n' : Nat) (h0 : Heap) (n0 : Nat) (Z0 : n0 ≤ h0.size) (pA : own_AJ Z h0 a1 n f) (pE : Exa Z h0 a1 "[J") (hp : p1.toInt = (n' : Int)) (hnn : n ≤ n') (hcap : n' ≤ 8) :
    MetFree l (⟨"java/util/Arrays", "copyOf", "([JI)[J"⟩ : MethodName) (head1 (Jvm.Cond.code (⟨"java/util/Arrays", "copyOf", "([JI)[J"⟩ : MethodName) jdk_65_method_124_code 3 (some (.array .long)) :: ws) ({ frames := 1, cells := 1, slots := 8, locals := 40 } : Room)) (fun a U => a = #[(.ref a1), (.int p1)] ∧ Z.Warmed39 U.vm ∧ U.heap = h0) (fun _ _ _ _ _ => True) (fun _ U o U' => ∃ v L, o = .returned v ∧ own_Qcp8 Z a1 p1 f n n' h0 n0 v U'.heap L ∧ FrameEnd U o U' L ({ frames := 1, cells := 1, slots := 8, locals := 40 } : Room).cells ({ frames := 1, cells := 1, slots := 8, locals := 40 } : Room).slots) := by
  refine MetFree.of_bodySF (plainFor_of_name own_pn0) hisR ?_
  intro p e s m args below meth c s₁ Bd hml0 hP hK
  obtain ⟨rfl, hZ, hh⟩ := hP
  have hx := Bd.exec
  have hby := Bd.bytes
  have hml : c.maxLocals = 3 := hml0
  have hown : s.vm.findClass "java/util/Arrays" = some m.cls := findClass_of_methodNamed Bd.named
  have hnm := (name_of_methodNamed Bd.named Bd.method).1
  have X0 : Stand p l e ({ frames := 1, cells := 1, slots := 8, locals := 40 } : Room) s m #[(.ref a1), (.int p1)] below meth c s₁ [] 0 0 := Stand.of_body Bd
  have e0 : s₁.heap = h0 := by rw [← hh, Bd.state]; rfl
  have N0 := Fr.nil n0
  refine own_nm (st := s₁.setTop (entryFrame m #[(.ref a1), (.int p1)] 3)) fun P fin => ?_
  refine own_fwd (fun tt kt => castTop (own_efcp8 m a1 p1) kt) ?_
  show own_R p.tables e below P (s₁.setTop (mkF m 0 #[.val (.ref a1), .val (.int p1), .unset] []))
  have K0 := Keep.refl h0 []
  refine own_fwd (fun tt kt => XS.iloadN X0.here hx rfl (hb hby own_d14_0) rfl kt) ?_
  show own_R p.tables e below P (s₁.setTop (mkF m 1 #[.val (.ref a1), .val (.int p1), .unset] [(.int p1)]))
  refine own_fwd (fun tt kt => XS.aloadN X0.here hx rfl (hb hby own_d14_1) rfl rfl kt) ?_
  show own_R p.tables e below P (s₁.setTop (mkF m 2 #[.val (.ref a1), .val (.int p1), .unset] [(.ref a1), (.int p1)]))
  refine own_fwd (own_len X0 hx hZ e0 pA n.toInt32 (len_toInt pA.bd) (g := (mkF m 2 #[.val (.ref a1), .val (.int p1), .unset] [(.ref a1), (.int p1)])) rfl rfl (hb hby own_d14_2)) ?_
  show own_R p.tables e below P (s₁.setTop (mkF m 3 #[.val (.ref a1), .val (.int p1), .unset] [(.int n.toInt32), (.int p1)]))
  by_cases hc15 : p1 = n.toInt32
  · refine own_fwd (fun tt kt => XS.icmpNo X0.here hx rfl (hb hby own_d14_3) rfl (teq hc15).2 kt) ?_
    show own_R p.tables e below P (s₁.setTop (mkF m 6 #[.val (.ref a1), .val (.int p1), .unset] []))
    have ln : n.toInt32.toInt = (n : Int) := len_toInt pA.bd
    have en : n' = n := by have q := hc15; rw [← Int32.toInt_inj, hp, ln] at q; omega
    refine own_fwd (fun tt kt => XS.aloadN X0.here hx rfl (hb hby own_d14_6) rfl rfl kt) ?_
    show own_R p.tables e below P (s₁.setTop (mkF m 7 #[.val (.ref a1), .val (.int p1), .unset] [(.ref a1)]))
    obtain ⟨T16, h16, b16, g16, X16, e16, E16, A16_, B16, st16⟩ := own_cloneJ X0 hx hZ hown (hw _ (List.mem_of_getElem? (i := 79) rfl)) (hw _ (List.mem_of_getElem? (i := 80) rfl)) (hw _ (List.mem_of_getElem? (i := 84) rfl)) (hw _ (List.mem_of_getElem? (i := 82) rfl)) (hw _ (List.mem_of_getElem? (i := 83) rfl)) (hw _ (List.mem_of_getElem? (i := 85) rfl)) e0 pA pE (g := (mkF m 7 #[.val (.ref a1), .val (.int p1), .unset] [(.ref a1)])) rfl (by rw [hml]; rfl) rfl (hb hby own_d14_7) (by decide) (W := 0) (cap := 8) (by show 2 * 0 + _ ≤ _; exact Nat.le_of_eq rfl) (by decide) (by omega) (by decide) (by decide)
    have ne16_a1 : a1 ≠ b16 := Nat.ne_of_lt (by rw [g16]; exact pA.lt)
    have ge_b16 : n0 ≤ b16 := by rw [g16]; exact Z0
    have sz_b16 : h0.size ≤ b16 := by rw [g16]; exact (Nat.le_refl h0.size)
    have pA_x16 := pA.ext E16
    have pE_x16 := pE.ext E16
    have Z16 : n0 ≤ h16.size := Nat.le_trans Z0 E16.1
    have K16 := K0.ext E16
    have Y16 : h0.size ≤ h16.size := Nat.le_trans (Nat.le_refl h0.size) E16.1
    refine own_fwd st16 ?_
    show own_R p.tables e below P (T16.setTop (mkF m 10 #[.val (.ref a1), .val (.int p1), .unset] [(.ref b16)]))
    obtain ⟨T17, X17, e17, st17⟩ := castY X16 hx hZ hown (hw _ (List.mem_of_getElem? (i := 86) rfl)) e16 (Ins.self B16) (g := (mkF m 10 #[.val (.ref a1), .val (.int p1), .unset] [(.ref b16)])) rfl rfl (hb hby own_d14_10)
    refine own_fwd st17 ?_
    show own_R p.tables e below P (T17.setTop (mkF m 13 #[.val (.ref a1), .val (.int p1), .unset] [(.ref b16)]))
    obtain ⟨fs18, hr18, hrun18, hended18, hW18, hsame18⟩ := X17.leave (v := some (.ref b16)) (fun h => by rw [Bd.returns] at h; cases h)
    have An : own_AJ Z h16 b16 n' (own_gr f n) := by rw [en]; exact A16_.cong fun i hi => by rw [own_gr, if_pos hi]
    refine ⟨_, _, X17.areturnOut hx rfl Bd.returns rfl (hb hby own_d14_13) hr18, fin _ _ ⟨hrun18, hended18, _, _, rfl, ?_, ⟨_, rfl⟩, hW18, hsame18.mono (by decide) (by decide)⟩⟩
    show own_Qcp8 Z a1 p1 f n n' h0 n0 _ T17.heap _
    rw [e17]
    exact ⟨b16, rfl, N0, ge_b16, sz_b16, K16, An, B16⟩
  · refine own_fwd (fun tt kt => XS.icmpYes X0.here hx rfl (pc0 := 3) (pc' := 14) rfl (hb hby own_d14_3) rfl (feq hc15).2 (by decide) (by decide) kt) ?_
    show own_R p.tables e below P (s₁.setTop (mkF m 14 #[.val (.ref a1), .val (.int p1), .unset] []))
    have ln : n.toInt32.toInt = (n : Int) := len_toInt pA.bd
    refine own_fwd (fun tt kt => XS.iloadN X0.here hx rfl (hb hby own_d14_14) rfl kt) ?_
    show own_R p.tables e below P (s₁.setTop (mkF m 15 #[.val (.ref a1), .val (.int p1), .unset] [(.int p1)]))
    obtain ⟨T19, h19, b19, g19, X19, e19, E19, A19, B19, st19⟩ := own_newA (n := n') X0 hx hZ (hw _ (List.mem_of_getElem? (i := 9) rfl)) e0 (z := p1) hp (cap := 8) hcap (g := (mkF m 15 #[.val (.ref a1), .val (.int p1), .unset] [(.int p1)])) rfl (hb hby own_d14_15) rfl (by decide) (by decide) (by decide) (ad := "[J") (by decide)
    have ne19_a1 : a1 ≠ b19 := Nat.ne_of_lt (by rw [g19]; exact pA.lt)
    have ge_b19 : n0 ≤ b19 := by rw [g19]; exact Z0
    have sz_b19 : h0.size ≤ b19 := by rw [g19]; exact (Nat.le_refl h0.size)
    have pA_x19 := pA.ext E19
    have pE_x19 := pE.ext E19
    have A19_ : own_AJ Z h19 b19 n' (fun _ => (0 : Int64)) := A19
    have Z19 : n0 ≤ h19.size := Nat.le_trans Z0 E19.1
    have K19 := K0.ext E19
    have Y19 : h0.size ≤ h19.size := Nat.le_trans (Nat.le_refl h0.size) E19.1
    refine own_fwd st19 ?_
    show own_R p.tables e below P (T19.setTop (mkF m 17 #[.val (.ref a1), .val (.int p1), .unset] [(.ref b19)]))
    refine own_fwd (fun tt kt => XS.astoreN X19.here hx rfl (hb hby own_d14_17) rfl rfl (l' := #[.val (.ref a1), .val (.int p1), .val (.ref b19)]) rfl kt) ?_
    show own_R p.tables e below P (T19.setTop (mkF m 18 #[.val (.ref a1), .val (.int p1), .val (.ref b19)] []))
    refine own_fwd (fun tt kt => XS.aloadN X19.here hx rfl (hb hby own_d14_18) rfl rfl kt) ?_
    show own_R p.tables e below P (T19.setTop (mkF m 19 #[.val (.ref a1), .val (.int p1), .val (.ref b19)] [(.ref a1)]))
    refine own_fwd (fun tt kt => XS.iconst X19.here hx rfl (hb hby own_d14_19) kt) ?_
    show own_R p.tables e below P (T19.setTop (mkF m 20 #[.val (.ref a1), .val (.int p1), .val (.ref b19)] [(.int (0 : Int32)), (.ref a1)]))
    refine own_fwd (fun tt kt => XS.aloadN X19.here hx rfl (hb hby own_d14_20) rfl rfl kt) ?_
    show own_R p.tables e below P (T19.setTop (mkF m 21 #[.val (.ref a1), .val (.int p1), .val (.ref b19)] [(.ref b19), (.int (0 : Int32)), (.ref a1)]))
    refine own_fwd (fun tt kt => XS.iconst X19.here hx rfl (hb hby own_d14_21) kt) ?_
    show own_R p.tables e below P (T19.setTop (mkF m 22 #[.val (.ref a1), .val (.int p1), .val (.ref b19)] [(.int (0 : Int32)), (.ref b19), (.int (0 : Int32)), (.ref a1)]))
    refine own_fwd (fun tt kt => XS.aloadN X19.here hx rfl (hb hby own_d14_22) rfl rfl kt) ?_
    show own_R p.tables e below P (T19.setTop (mkF m 23 #[.val (.ref a1), .val (.int p1), .val (.ref b19)] [(.ref a1), (.int (0 : Int32)), (.ref b19), (.int (0 : Int32)), (.ref a1)]))
    refine own_fwd (own_len X19 hx hZ e19 pA_x19 n.toInt32 (len_toInt pA.bd) (g := (mkF m 23 #[.val (.ref a1), .val (.int p1), .val (.ref b19)] [(.ref a1), (.int (0 : Int32)), (.ref b19), (.int (0 : Int32)), (.ref a1)])) rfl rfl (hb hby own_d14_23)) ?_
    show own_R p.tables e below P (T19.setTop (mkF m 24 #[.val (.ref a1), .val (.int p1), .val (.ref b19)] [(.int n.toInt32), (.int (0 : Int32)), (.ref b19), (.int (0 : Int32)), (.ref a1)]))
    refine own_fwd (fun tt kt => XS.iloadN X19.here hx rfl (hb hby own_d14_24) rfl kt) ?_
    show own_R p.tables e below P (T19.setTop (mkF m 25 #[.val (.ref a1), .val (.int p1), .val (.ref b19)] [(.int p1), (.int n.toInt32), (.int (0 : Int32)), (.ref b19), (.int (0 : Int32)), (.ref a1)]))
    obtain ⟨_, _, ⟨T20, L20, k20, n20⟩, -, X20, ⟨Lc20, hQ20, l20, y20, z20⟩, st20⟩ := Jvm.LawKit.callS X19 hx (y := (⟨"java/lang/Math", "min", "(II)I"⟩ : MethodName)) hown (mvT hZ (hw _ (List.mem_of_getElem? (i := 72) rfl))) (mvT hZ (hw _ (List.mem_of_getElem? (i := 73) rfl))) (mvT hZ (hw _ (List.mem_of_getElem? (i := 66) rfl))) (mvT hZ (hw _ (List.mem_of_getElem? (i := 74) rfl))) (by decide) (backOf (W := 4) (own_rm15 l Z a0 hw [] n.toInt32 p1 h19 n0 Z19 ) hZ (hw _ (List.mem_of_getElem? (i := 74) rfl)) (hw _ (List.mem_of_getElem? (i := 66) rfl)) (by decide) (by decide)) (g := (mkF m 25 #[.val (.ref a1), .val (.int p1), .val (.ref b19)] [(.int p1), (.int n.toInt32), (.int (0 : Int32)), (.ref b19), (.int (0 : Int32)), (.ref a1)])) rfl (by rw [hml]; rfl) (argsL := [(.int n.toInt32), (.int p1)]) (rest := [(.int (0 : Int32)), (.ref b19), (.int (0 : Int32)), (.ref a1)]) (lenOf own_pd0 rfl) rfl (by show 2 * 0 + _ ≤ _; exact Nat.le_of_eq rfl) (hb hby own_d14_25) (fun _ _ => ⟨rfl, e19, (by decide : 1 + 0 ≤ _), (by decide : 8 + 0 ≤ _)⟩)
    dsimp only [Pt.U, Pt.locs, Pt.cells, Pt.slots] at X20 l20 y20 z20 st20 hQ20
    rw [l20, (show k20 = 1 from y20), (show n20 = 8 from z20)] at X20
    obtain ⟨h20, e20⟩ : ∃ z, T20.heap = z := ⟨_, rfl⟩
    rw [e20] at hQ20
    obtain ⟨hq20, N20q, q20⟩ := hQ20
    rw [q20] at e20
    rw [hq20] at st20
    have N20 := Fr.app N0 N20q
    have mq20 : (if p1 < n.toInt32 then p1 else n.toInt32) = n.toInt32 := by rw [if_neg]; rw [Int32.lt_iff_toInt_lt, hp, ln]; omega
    rw [mq20] at st20
    refine own_fwd st20 ?_
    show own_R p.tables e below P (T20.setTop (mkF m 28 #[.val (.ref a1), .val (.int p1), .val (.ref b19)] [(.int n.toInt32), (.int (0 : Int32)), (.ref b19), (.int (0 : Int32)), (.ref a1)]))
    obtain ⟨T21, h21, Lc21, X21, e21, N21, K21, A21_, st21⟩ := own_cp X20 hx hZ hown (hw _ (List.mem_of_getElem? (i := 75) rfl)) (hw _ (List.mem_of_getElem? (i := 78) rfl)) (hw _ (List.mem_of_getElem? (i := 76) rfl)) (hw _ (List.mem_of_getElem? (i := 77) rfl)) e20 pA_x19 A19_ rfl (fun i _ => rfl) (fun i _ => rfl) (sp := (0 : Int32)) (dp := (0 : Int32)) (nn := n.toInt32) 0 0 n own_i0 own_i0 (len_toInt pA.bd) (by omega) (by omega) N20 ge_b19 (fr := (mkF m 28 #[.val (.ref a1), .val (.int p1), .val (.ref b19)] [(.int n.toInt32), (.int (0 : Int32)), (.ref b19), (.int (0 : Int32)), (.ref a1)])) rfl (by rw [hml]; rfl) rfl (hb hby own_d14_28) (by decide) (W := 0) (by show 2 * 0 + _ ≤ _; exact Nat.le_of_eq rfl) (by decide)
    have B21_ : own_AJ Z h21 b19 n' (own_gr f n) := A21_.cong fun i _ => by
      unfold own_gr
      by_cases c : i < n
      · rw [if_pos c, if_pos (by omega)]; simp
      · rw [if_neg c, if_neg (by omega)]
    have pA_x21 := pA_x19.keep K21 (ninS ne19_a1 nin0)
    have pE_x21 := pE_x19.keep K21
    have B19_x21 := B19.keep K21
    have Z21 : n0 ≤ h21.size := Nat.le_trans Z19 K21.1
    have KK21 := K19.trans K21 (allS (Or.inr sz_b19) all0)
    have Y21 : h0.size ≤ h21.size := Nat.le_trans Y19 K21.1
    refine own_fwd st21 ?_
    show own_R p.tables e below P (T21.setTop (mkF m 31 #[.val (.ref a1), .val (.int p1), .val (.ref b19)] []))
    refine own_fwd (fun tt kt => XS.aloadN X21.here hx rfl (hb hby own_d14_31) rfl rfl kt) ?_
    show own_R p.tables e below P (T21.setTop (mkF m 32 #[.val (.ref a1), .val (.int p1), .val (.ref b19)] [(.ref b19)]))
    obtain ⟨fs22, hr22, hrun22, hended22, hW22, hsame22⟩ := X21.leave (v := some (.ref b19)) (fun h => by rw [Bd.returns] at h; cases h)
    refine ⟨_, _, X21.areturnOut hx rfl Bd.returns rfl (hb hby own_d14_32) hr22, fin _ _ ⟨hrun22, hended22, _, _, rfl, ?_, ⟨_, rfl⟩, hW22, hsame22.mono (by decide) (by decide)⟩⟩
    show own_Qcp8 Z a1 p1 f n n' h0 n0 _ T21.heap _
    rw [e21]
    exact ⟨b19, rfl, N21, ge_b19, sz_b19, KK21, B21_, B19_x21⟩
theorem own_efcp766 (m : MethodId) (a1 : Addr) (p1 : Int32) : entryFrame m #[(.ref a1), (.int p1)] 3 = mkF m 0 #[.val (.ref a1), .val (.int p1), .unset] [] := by first | (simp [entryFrame, mkF, argsToLocals, Value.category]; done) | rfl
def own_Qcp766 (Z : State) (a1 : Addr) (p1 : Int32) (f : Nat → Int64) (n n' : Nat) (h0 : Heap) (n0 : Nat) (v : Option Value) (h : Heap) (L : List Loc) : Prop := ∃ b, v = some (.ref b) ∧ Fr n0 L ∧ n0 ≤ b ∧ h0.size ≤ b ∧ Keep h0 h [] ∧ own_AJ Z h b n' (own_gr f n) ∧ Exa Z h b "[J"
set_option maxRecDepth 65536 in
set_option maxHeartbeats 40000000 in
theorem own_rmcp766 (l : Launch) (Z : State) (a0 : Array Value) (hw : ∀ d ∈ tables_1, d.before a0 Z = true) (ws : List Jvm.Cond) (a1 : Addr) (p1 : Int32) (f : Nat → Int64) (n n' : Nat) (h0 : Heap) (n0 : Nat) (Z0 : n0 ≤ h0.size) (pA : own_AJ Z h0 a1 n f) (pE : Exa Z h0 a1 "[J") (hp : p1.toInt = (n' : Int)) (hnn : n ≤ n') (hcap : n' ≤ 766) :
    MetFree l (⟨"java/util/Arrays", "copyOf", "([JI)[J"⟩ : MethodName) (head1 (Jvm.Cond.code (⟨"java/util/Arrays", "copyOf", "([JI)[J"⟩ : MethodName) jdk_65_method_124_code 3 (some (.array .long)) :: ws) ({ frames := 1, cells := 1, slots := 766, locals := 40 } : Room)) (fun a U => a = #[(.ref a1), (.int p1)] ∧ Z.Warmed39 U.vm ∧ U.heap = h0) (fun _ _ _ _ _ => True) (fun _ U o U' => ∃ v L, o = .returned v ∧ own_Qcp766 Z a1 p1 f n n' h0 n0 v U'.heap L ∧ FrameEnd U o U' L ({ frames := 1, cells := 1, slots := 766, locals := 40 } : Room).cells ({ frames := 1, cells := 1, slots := 766, locals := 40 } : Room).slots) := by
  refine MetFree.of_bodySF (plainFor_of_name own_pn0) hisR ?_
  intro p e s m args below meth c s₁ Bd hml0 hP hK
  obtain ⟨rfl, hZ, hh⟩ := hP
  have hx := Bd.exec
  have hby := Bd.bytes
  have hml : c.maxLocals = 3 := hml0
  have hown : s.vm.findClass "java/util/Arrays" = some m.cls := findClass_of_methodNamed Bd.named
  have hnm := (name_of_methodNamed Bd.named Bd.method).1
  have X0 : Stand p l e ({ frames := 1, cells := 1, slots := 766, locals := 40 } : Room) s m #[(.ref a1), (.int p1)] below meth c s₁ [] 0 0 := Stand.of_body Bd
  have e0 : s₁.heap = h0 := by rw [← hh, Bd.state]; rfl
  have N0 := Fr.nil n0
  refine own_nm (st := s₁.setTop (entryFrame m #[(.ref a1), (.int p1)] 3)) fun P fin => ?_
  refine own_fwd (fun tt kt => castTop (own_efcp766 m a1 p1) kt) ?_
  show own_R p.tables e below P (s₁.setTop (mkF m 0 #[.val (.ref a1), .val (.int p1), .unset] []))
  have K0 := Keep.refl h0 []
  refine own_fwd (fun tt kt => XS.iloadN X0.here hx rfl (hb hby own_d14_0) rfl kt) ?_
  show own_R p.tables e below P (s₁.setTop (mkF m 1 #[.val (.ref a1), .val (.int p1), .unset] [(.int p1)]))
  refine own_fwd (fun tt kt => XS.aloadN X0.here hx rfl (hb hby own_d14_1) rfl rfl kt) ?_
  show own_R p.tables e below P (s₁.setTop (mkF m 2 #[.val (.ref a1), .val (.int p1), .unset] [(.ref a1), (.int p1)]))
  refine own_fwd (own_len X0 hx hZ e0 pA n.toInt32 (len_toInt pA.bd) (g := (mkF m 2 #[.val (.ref a1), .val (.int p1), .unset] [(.ref a1), (.int p1)])) rfl rfl (hb hby own_d14_2)) ?_
  show own_R p.tables e below P (s₁.setTop (mkF m 3 #[.val (.ref a1), .val (.int p1), .unset] [(.int n.toInt32), (.int p1)]))
  by_cases hc23 : p1 = n.toInt32
  · refine own_fwd (fun tt kt => XS.icmpNo X0.here hx rfl (hb hby own_d14_3) rfl (teq hc23).2 kt) ?_
    show own_R p.tables e below P (s₁.setTop (mkF m 6 #[.val (.ref a1), .val (.int p1), .unset] []))
    have ln : n.toInt32.toInt = (n : Int) := len_toInt pA.bd
    have en : n' = n := by have q := hc23; rw [← Int32.toInt_inj, hp, ln] at q; omega
    refine own_fwd (fun tt kt => XS.aloadN X0.here hx rfl (hb hby own_d14_6) rfl rfl kt) ?_
    show own_R p.tables e below P (s₁.setTop (mkF m 7 #[.val (.ref a1), .val (.int p1), .unset] [(.ref a1)]))
    obtain ⟨T24, h24, b24, g24, X24, e24, E24, A24_, B24, st24⟩ := own_cloneJ X0 hx hZ hown (hw _ (List.mem_of_getElem? (i := 79) rfl)) (hw _ (List.mem_of_getElem? (i := 80) rfl)) (hw _ (List.mem_of_getElem? (i := 84) rfl)) (hw _ (List.mem_of_getElem? (i := 82) rfl)) (hw _ (List.mem_of_getElem? (i := 83) rfl)) (hw _ (List.mem_of_getElem? (i := 85) rfl)) e0 pA pE (g := (mkF m 7 #[.val (.ref a1), .val (.int p1), .unset] [(.ref a1)])) rfl (by rw [hml]; rfl) rfl (hb hby own_d14_7) (by decide) (W := 0) (cap := 766) (by show 2 * 0 + _ ≤ _; exact Nat.le_of_eq rfl) (by decide) (by omega) (by decide) (by decide)
    have ne24_a1 : a1 ≠ b24 := Nat.ne_of_lt (by rw [g24]; exact pA.lt)
    have ge_b24 : n0 ≤ b24 := by rw [g24]; exact Z0
    have sz_b24 : h0.size ≤ b24 := by rw [g24]; exact (Nat.le_refl h0.size)
    have pA_x24 := pA.ext E24
    have pE_x24 := pE.ext E24
    have Z24 : n0 ≤ h24.size := Nat.le_trans Z0 E24.1
    have K24 := K0.ext E24
    have Y24 : h0.size ≤ h24.size := Nat.le_trans (Nat.le_refl h0.size) E24.1
    refine own_fwd st24 ?_
    show own_R p.tables e below P (T24.setTop (mkF m 10 #[.val (.ref a1), .val (.int p1), .unset] [(.ref b24)]))
    obtain ⟨T25, X25, e25, st25⟩ := castY X24 hx hZ hown (hw _ (List.mem_of_getElem? (i := 86) rfl)) e24 (Ins.self B24) (g := (mkF m 10 #[.val (.ref a1), .val (.int p1), .unset] [(.ref b24)])) rfl rfl (hb hby own_d14_10)
    refine own_fwd st25 ?_
    show own_R p.tables e below P (T25.setTop (mkF m 13 #[.val (.ref a1), .val (.int p1), .unset] [(.ref b24)]))
    obtain ⟨fs26, hr26, hrun26, hended26, hW26, hsame26⟩ := X25.leave (v := some (.ref b24)) (fun h => by rw [Bd.returns] at h; cases h)
    have An : own_AJ Z h24 b24 n' (own_gr f n) := by rw [en]; exact A24_.cong fun i hi => by rw [own_gr, if_pos hi]
    refine ⟨_, _, X25.areturnOut hx rfl Bd.returns rfl (hb hby own_d14_13) hr26, fin _ _ ⟨hrun26, hended26, _, _, rfl, ?_, ⟨_, rfl⟩, hW26, hsame26.mono (by decide) (by decide)⟩⟩
    show own_Qcp766 Z a1 p1 f n n' h0 n0 _ T25.heap _
    rw [e25]
    exact ⟨b24, rfl, N0, ge_b24, sz_b24, K24, An, B24⟩
  · refine own_fwd (fun tt kt => XS.icmpYes X0.here hx rfl (pc0 := 3) (pc' := 14) rfl (hb hby own_d14_3) rfl (feq hc23).2 (by decide) (by decide) kt) ?_
    show own_R p.tables e below P (s₁.setTop (mkF m 14 #[.val (.ref a1), .val (.int p1), .unset] []))
    have ln : n.toInt32.toInt = (n : Int) := len_toInt pA.bd
    refine own_fwd (fun tt kt => XS.iloadN X0.here hx rfl (hb hby own_d14_14) rfl kt) ?_
    show own_R p.tables e below P (s₁.setTop (mkF m 15 #[.val (.ref a1), .val (.int p1), .unset] [(.int p1)]))
    obtain ⟨T27, h27, b27, g27, X27, e27, E27, A27, B27, st27⟩ := own_newA (n := n') X0 hx hZ (hw _ (List.mem_of_getElem? (i := 9) rfl)) e0 (z := p1) hp (cap := 766) hcap (g := (mkF m 15 #[.val (.ref a1), .val (.int p1), .unset] [(.int p1)])) rfl (hb hby own_d14_15) rfl (by decide) (by decide) (by decide) (ad := "[J") (by decide)
    have ne27_a1 : a1 ≠ b27 := Nat.ne_of_lt (by rw [g27]; exact pA.lt)
    have ge_b27 : n0 ≤ b27 := by rw [g27]; exact Z0
    have sz_b27 : h0.size ≤ b27 := by rw [g27]; exact (Nat.le_refl h0.size)
    have pA_x27 := pA.ext E27
    have pE_x27 := pE.ext E27
    have A27_ : own_AJ Z h27 b27 n' (fun _ => (0 : Int64)) := A27
    have Z27 : n0 ≤ h27.size := Nat.le_trans Z0 E27.1
    have K27 := K0.ext E27
    have Y27 : h0.size ≤ h27.size := Nat.le_trans (Nat.le_refl h0.size) E27.1
    refine own_fwd st27 ?_
    show own_R p.tables e below P (T27.setTop (mkF m 17 #[.val (.ref a1), .val (.int p1), .unset] [(.ref b27)]))
    refine own_fwd (fun tt kt => XS.astoreN X27.here hx rfl (hb hby own_d14_17) rfl rfl (l' := #[.val (.ref a1), .val (.int p1), .val (.ref b27)]) rfl kt) ?_
    show own_R p.tables e below P (T27.setTop (mkF m 18 #[.val (.ref a1), .val (.int p1), .val (.ref b27)] []))
    refine own_fwd (fun tt kt => XS.aloadN X27.here hx rfl (hb hby own_d14_18) rfl rfl kt) ?_
    show own_R p.tables e below P (T27.setTop (mkF m 19 #[.val (.ref a1), .val (.int p1), .val (.ref b27)] [(.ref a1)]))
    refine own_fwd (fun tt kt => XS.iconst X27.here hx rfl (hb hby own_d14_19) kt) ?_
    show own_R p.tables e below P (T27.setTop (mkF m 20 #[.val (.ref a1), .val (.int p1), .val (.ref b27)] [(.int (0 : Int32)), (.ref a1)]))
    refine own_fwd (fun tt kt => XS.aloadN X27.here hx rfl (hb hby own_d14_20) rfl rfl kt) ?_
    show own_R p.tables e below P (T27.setTop (mkF m 21 #[.val (.ref a1), .val (.int p1), .val (.ref b27)] [(.ref b27), (.int (0 : Int32)), (.ref a1)]))
    refine own_fwd (fun tt kt => XS.iconst X27.here hx rfl (hb hby own_d14_21) kt) ?_
    show own_R p.tables e below P (T27.setTop (mkF m 22 #[.val (.ref a1), .val (.int p1), .val (.ref b27)] [(.int (0 : Int32)), (.ref b27), (.int (0 : Int32)), (.ref a1)]))
    refine own_fwd (fun tt kt => XS.aloadN X27.here hx rfl (hb hby own_d14_22) rfl rfl kt) ?_
    show own_R p.tables e below P (T27.setTop (mkF m 23 #[.val (.ref a1), .val (.int p1), .val (.ref b27)] [(.ref a1), (.int (0 : Int32)), (.ref b27), (.int (0 : Int32)), (.ref a1)]))
    refine own_fwd (own_len X27 hx hZ e27 pA_x27 n.toInt32 (len_toInt pA.bd) (g := (mkF m 23 #[.val (.ref a1), .val (.int p1), .val (.ref b27)] [(.ref a1), (.int (0 : Int32)), (.ref b27), (.int (0 : Int32)), (.ref a1)])) rfl rfl (hb hby own_d14_23)) ?_
    show own_R p.tables e below P (T27.setTop (mkF m 24 #[.val (.ref a1), .val (.int p1), .val (.ref b27)] [(.int n.toInt32), (.int (0 : Int32)), (.ref b27), (.int (0 : Int32)), (.ref a1)]))
    refine own_fwd (fun tt kt => XS.iloadN X27.here hx rfl (hb hby own_d14_24) rfl kt) ?_
    show own_R p.tables e below P (T27.setTop (mkF m 25 #[.val (.ref a1), .val (.int p1), .val (.ref b27)] [(.int p1), (.int n.toInt32), (.int (0 : Int32)), (.ref b27), (.int (0 : Int32)), (.ref a1)]))
    obtain ⟨_, _, ⟨T28, L28, k28, n28⟩, -, X28, ⟨Lc28, hQ28, l28, y28, z28⟩, st28⟩ := Jvm.LawKit.callS X27 hx (y := (⟨"java/lang/Math", "min", "(II)I"⟩ : MethodName)) hown (mvT hZ (hw _ (List.mem_of_getElem? (i := 72) rfl))) (mvT hZ (hw _ (List.mem_of_getElem? (i := 73) rfl))) (mvT hZ (hw _ (List.mem_of_getElem? (i := 66) rfl))) (mvT hZ (hw _ (List.mem_of_getElem? (i := 74) rfl))) (by decide) (backOf (W := 4) (own_rm15 l Z a0 hw [] n.toInt32 p1 h27 n0 Z27 ) hZ (hw _ (List.mem_of_getElem? (i := 74) rfl)) (hw _ (List.mem_of_getElem? (i := 66) rfl)) (by decide) (by decide)) (g := (mkF m 25 #[.val (.ref a1), .val (.int p1), .val (.ref b27)] [(.int p1), (.int n.toInt32), (.int (0 : Int32)), (.ref b27), (.int (0 : Int32)), (.ref a1)])) rfl (by rw [hml]; rfl) (argsL := [(.int n.toInt32), (.int p1)]) (rest := [(.int (0 : Int32)), (.ref b27), (.int (0 : Int32)), (.ref a1)]) (lenOf own_pd0 rfl) rfl (by show 2 * 0 + _ ≤ _; exact Nat.le_of_eq rfl) (hb hby own_d14_25) (fun _ _ => ⟨rfl, e27, (by decide : 1 + 0 ≤ _), (by decide : 766 + 0 ≤ _)⟩)
    dsimp only [Pt.U, Pt.locs, Pt.cells, Pt.slots] at X28 l28 y28 z28 st28 hQ28
    rw [l28, (show k28 = 1 from y28), (show n28 = 766 from z28)] at X28
    obtain ⟨h28, e28⟩ : ∃ z, T28.heap = z := ⟨_, rfl⟩
    rw [e28] at hQ28
    obtain ⟨hq28, N28q, q28⟩ := hQ28
    rw [q28] at e28
    rw [hq28] at st28
    have N28 := Fr.app N0 N28q
    have mq28 : (if p1 < n.toInt32 then p1 else n.toInt32) = n.toInt32 := by rw [if_neg]; rw [Int32.lt_iff_toInt_lt, hp, ln]; omega
    rw [mq28] at st28
    refine own_fwd st28 ?_
    show own_R p.tables e below P (T28.setTop (mkF m 28 #[.val (.ref a1), .val (.int p1), .val (.ref b27)] [(.int n.toInt32), (.int (0 : Int32)), (.ref b27), (.int (0 : Int32)), (.ref a1)]))
    obtain ⟨T29, h29, Lc29, X29, e29, N29, K29, A29_, st29⟩ := own_cp X28 hx hZ hown (hw _ (List.mem_of_getElem? (i := 75) rfl)) (hw _ (List.mem_of_getElem? (i := 78) rfl)) (hw _ (List.mem_of_getElem? (i := 76) rfl)) (hw _ (List.mem_of_getElem? (i := 77) rfl)) e28 pA_x27 A27_ rfl (fun i _ => rfl) (fun i _ => rfl) (sp := (0 : Int32)) (dp := (0 : Int32)) (nn := n.toInt32) 0 0 n own_i0 own_i0 (len_toInt pA.bd) (by omega) (by omega) N28 ge_b27 (fr := (mkF m 28 #[.val (.ref a1), .val (.int p1), .val (.ref b27)] [(.int n.toInt32), (.int (0 : Int32)), (.ref b27), (.int (0 : Int32)), (.ref a1)])) rfl (by rw [hml]; rfl) rfl (hb hby own_d14_28) (by decide) (W := 0) (by show 2 * 0 + _ ≤ _; exact Nat.le_of_eq rfl) (by decide)
    have B29_ : own_AJ Z h29 b27 n' (own_gr f n) := A29_.cong fun i _ => by
      unfold own_gr
      by_cases c : i < n
      · rw [if_pos c, if_pos (by omega)]; simp
      · rw [if_neg c, if_neg (by omega)]
    have pA_x29 := pA_x27.keep K29 (ninS ne27_a1 nin0)
    have pE_x29 := pE_x27.keep K29
    have B27_x29 := B27.keep K29
    have Z29 : n0 ≤ h29.size := Nat.le_trans Z27 K29.1
    have KK29 := K27.trans K29 (allS (Or.inr sz_b27) all0)
    have Y29 : h0.size ≤ h29.size := Nat.le_trans Y27 K29.1
    refine own_fwd st29 ?_
    show own_R p.tables e below P (T29.setTop (mkF m 31 #[.val (.ref a1), .val (.int p1), .val (.ref b27)] []))
    refine own_fwd (fun tt kt => XS.aloadN X29.here hx rfl (hb hby own_d14_31) rfl rfl kt) ?_
    show own_R p.tables e below P (T29.setTop (mkF m 32 #[.val (.ref a1), .val (.int p1), .val (.ref b27)] [(.ref b27)]))
    obtain ⟨fs30, hr30, hrun30, hended30, hW30, hsame30⟩ := X29.leave (v := some (.ref b27)) (fun h => by rw [Bd.returns] at h; cases h)
    refine ⟨_, _, X29.areturnOut hx rfl Bd.returns rfl (hb hby own_d14_32) hr30, fin _ _ ⟨hrun30, hended30, _, _, rfl, ?_, ⟨_, rfl⟩, hW30, hsame30.mono (by decide) (by decide)⟩⟩
    show own_Qcp766 Z a1 p1 f n n' h0 n0 _ T29.heap _
    rw [e29]
    exact ⟨b27, rfl, N29, ge_b27, sz_b27, KK29, B29_, B27_x29⟩
theorem own_efcp12 (m : MethodId) (a1 : Addr) (p1 : Int32) : entryFrame m #[(.ref a1), (.int p1)] 3 = mkF m 0 #[.val (.ref a1), .val (.int p1), .unset] [] := by first | (simp [entryFrame, mkF, argsToLocals, Value.category]; done) | rfl
def own_Qcp12 (Z : State) (a1 : Addr) (p1 : Int32) (f : Nat → Int64) (n n' : Nat) (h0 : Heap) (n0 : Nat) (v : Option Value) (h : Heap) (L : List Loc) : Prop := ∃ b, v = some (.ref b) ∧ Fr n0 L ∧ n0 ≤ b ∧ h0.size ≤ b ∧ Keep h0 h [] ∧ own_AJ Z h b n' (own_gr f n) ∧ Exa Z h b "[J"
set_option maxRecDepth 65536 in
set_option maxHeartbeats 40000000 in
theorem own_rmcp12 (l : Launch) (Z : State) (a0 : Array Value) (hw : ∀ d ∈ tables_1, d.before a0 Z = true) (ws : List Jvm.Cond) (a1 : Addr) (p1 : Int32) (f : Nat → Int64) (n n' : Nat) (h0 : Heap) (n0 : Nat) (Z0 : n0 ≤ h0.size) (pA : own_AJ Z h0 a1 n f) (pE : Exa Z h0 a1 "[J") (hp : p1.toInt = (n' : Int)) (hnn : n ≤ n') (hcap : n' ≤ 12) :
    MetFree l (⟨"java/util/Arrays", "copyOf", "([JI)[J"⟩ : MethodName) (head1 (Jvm.Cond.code (⟨"java/util/Arrays", "copyOf", "([JI)[J"⟩ : MethodName) jdk_65_method_124_code 3 (some (.array .long)) :: ws) ({ frames := 1, cells := 1, slots := 12, locals := 40 } : Room)) (fun a U => a = #[(.ref a1), (.int p1)] ∧ Z.Warmed39 U.vm ∧ U.heap = h0) (fun _ _ _ _ _ => True) (fun _ U o U' => ∃ v L, o = .returned v ∧ own_Qcp12 Z a1 p1 f n n' h0 n0 v U'.heap L ∧ FrameEnd U o U' L ({ frames := 1, cells := 1, slots := 12, locals := 40 } : Room).cells ({ frames := 1, cells := 1, slots := 12, locals := 40 } : Room).slots) := by
  refine MetFree.of_bodySF (plainFor_of_name own_pn0) hisR ?_
  intro p e s m args below meth c s₁ Bd hml0 hP hK
  obtain ⟨rfl, hZ, hh⟩ := hP
  have hx := Bd.exec
  have hby := Bd.bytes
  have hml : c.maxLocals = 3 := hml0
  have hown : s.vm.findClass "java/util/Arrays" = some m.cls := findClass_of_methodNamed Bd.named
  have hnm := (name_of_methodNamed Bd.named Bd.method).1
  have X0 : Stand p l e ({ frames := 1, cells := 1, slots := 12, locals := 40 } : Room) s m #[(.ref a1), (.int p1)] below meth c s₁ [] 0 0 := Stand.of_body Bd
  have e0 : s₁.heap = h0 := by rw [← hh, Bd.state]; rfl
  have N0 := Fr.nil n0
  refine own_nm (st := s₁.setTop (entryFrame m #[(.ref a1), (.int p1)] 3)) fun P fin => ?_
  refine own_fwd (fun tt kt => castTop (own_efcp12 m a1 p1) kt) ?_
  show own_R p.tables e below P (s₁.setTop (mkF m 0 #[.val (.ref a1), .val (.int p1), .unset] []))
  have K0 := Keep.refl h0 []
  refine own_fwd (fun tt kt => XS.iloadN X0.here hx rfl (hb hby own_d14_0) rfl kt) ?_
  show own_R p.tables e below P (s₁.setTop (mkF m 1 #[.val (.ref a1), .val (.int p1), .unset] [(.int p1)]))
  refine own_fwd (fun tt kt => XS.aloadN X0.here hx rfl (hb hby own_d14_1) rfl rfl kt) ?_
  show own_R p.tables e below P (s₁.setTop (mkF m 2 #[.val (.ref a1), .val (.int p1), .unset] [(.ref a1), (.int p1)]))
  refine own_fwd (own_len X0 hx hZ e0 pA n.toInt32 (len_toInt pA.bd) (g := (mkF m 2 #[.val (.ref a1), .val (.int p1), .unset] [(.ref a1), (.int p1)])) rfl rfl (hb hby own_d14_2)) ?_
  show own_R p.tables e below P (s₁.setTop (mkF m 3 #[.val (.ref a1), .val (.int p1), .unset] [(.int n.toInt32), (.int p1)]))
  by_cases hc31 : p1 = n.toInt32
  · refine own_fwd (fun tt kt => XS.icmpNo X0.here hx rfl (hb hby own_d14_3) rfl (teq hc31).2 kt) ?_
    show own_R p.tables e below P (s₁.setTop (mkF m 6 #[.val (.ref a1), .val (.int p1), .unset] []))
    have ln : n.toInt32.toInt = (n : Int) := len_toInt pA.bd
    have en : n' = n := by have q := hc31; rw [← Int32.toInt_inj, hp, ln] at q; omega
    refine own_fwd (fun tt kt => XS.aloadN X0.here hx rfl (hb hby own_d14_6) rfl rfl kt) ?_
    show own_R p.tables e below P (s₁.setTop (mkF m 7 #[.val (.ref a1), .val (.int p1), .unset] [(.ref a1)]))
    obtain ⟨T32, h32, b32, g32, X32, e32, E32, A32_, B32, st32⟩ := own_cloneJ X0 hx hZ hown (hw _ (List.mem_of_getElem? (i := 79) rfl)) (hw _ (List.mem_of_getElem? (i := 80) rfl)) (hw _ (List.mem_of_getElem? (i := 84) rfl)) (hw _ (List.mem_of_getElem? (i := 82) rfl)) (hw _ (List.mem_of_getElem? (i := 83) rfl)) (hw _ (List.mem_of_getElem? (i := 85) rfl)) e0 pA pE (g := (mkF m 7 #[.val (.ref a1), .val (.int p1), .unset] [(.ref a1)])) rfl (by rw [hml]; rfl) rfl (hb hby own_d14_7) (by decide) (W := 0) (cap := 12) (by show 2 * 0 + _ ≤ _; exact Nat.le_of_eq rfl) (by decide) (by omega) (by decide) (by decide)
    have ne32_a1 : a1 ≠ b32 := Nat.ne_of_lt (by rw [g32]; exact pA.lt)
    have ge_b32 : n0 ≤ b32 := by rw [g32]; exact Z0
    have sz_b32 : h0.size ≤ b32 := by rw [g32]; exact (Nat.le_refl h0.size)
    have pA_x32 := pA.ext E32
    have pE_x32 := pE.ext E32
    have Z32 : n0 ≤ h32.size := Nat.le_trans Z0 E32.1
    have K32 := K0.ext E32
    have Y32 : h0.size ≤ h32.size := Nat.le_trans (Nat.le_refl h0.size) E32.1
    refine own_fwd st32 ?_
    show own_R p.tables e below P (T32.setTop (mkF m 10 #[.val (.ref a1), .val (.int p1), .unset] [(.ref b32)]))
    obtain ⟨T33, X33, e33, st33⟩ := castY X32 hx hZ hown (hw _ (List.mem_of_getElem? (i := 86) rfl)) e32 (Ins.self B32) (g := (mkF m 10 #[.val (.ref a1), .val (.int p1), .unset] [(.ref b32)])) rfl rfl (hb hby own_d14_10)
    refine own_fwd st33 ?_
    show own_R p.tables e below P (T33.setTop (mkF m 13 #[.val (.ref a1), .val (.int p1), .unset] [(.ref b32)]))
    obtain ⟨fs34, hr34, hrun34, hended34, hW34, hsame34⟩ := X33.leave (v := some (.ref b32)) (fun h => by rw [Bd.returns] at h; cases h)
    have An : own_AJ Z h32 b32 n' (own_gr f n) := by rw [en]; exact A32_.cong fun i hi => by rw [own_gr, if_pos hi]
    refine ⟨_, _, X33.areturnOut hx rfl Bd.returns rfl (hb hby own_d14_13) hr34, fin _ _ ⟨hrun34, hended34, _, _, rfl, ?_, ⟨_, rfl⟩, hW34, hsame34.mono (by decide) (by decide)⟩⟩
    show own_Qcp12 Z a1 p1 f n n' h0 n0 _ T33.heap _
    rw [e33]
    exact ⟨b32, rfl, N0, ge_b32, sz_b32, K32, An, B32⟩
  · refine own_fwd (fun tt kt => XS.icmpYes X0.here hx rfl (pc0 := 3) (pc' := 14) rfl (hb hby own_d14_3) rfl (feq hc31).2 (by decide) (by decide) kt) ?_
    show own_R p.tables e below P (s₁.setTop (mkF m 14 #[.val (.ref a1), .val (.int p1), .unset] []))
    have ln : n.toInt32.toInt = (n : Int) := len_toInt pA.bd
    refine own_fwd (fun tt kt => XS.iloadN X0.here hx rfl (hb hby own_d14_14) rfl kt) ?_
    show own_R p.tables e below P (s₁.setTop (mkF m 15 #[.val (.ref a1), .val (.int p1), .unset] [(.int p1)]))
    obtain ⟨T35, h35, b35, g35, X35, e35, E35, A35, B35, st35⟩ := own_newA (n := n') X0 hx hZ (hw _ (List.mem_of_getElem? (i := 9) rfl)) e0 (z := p1) hp (cap := 12) hcap (g := (mkF m 15 #[.val (.ref a1), .val (.int p1), .unset] [(.int p1)])) rfl (hb hby own_d14_15) rfl (by decide) (by decide) (by decide) (ad := "[J") (by decide)
    have ne35_a1 : a1 ≠ b35 := Nat.ne_of_lt (by rw [g35]; exact pA.lt)
    have ge_b35 : n0 ≤ b35 := by rw [g35]; exact Z0
    have sz_b35 : h0.size ≤ b35 := by rw [g35]; exact (Nat.le_refl h0.size)
    have pA_x35 := pA.ext E35
    have pE_x35 := pE.ext E35
    have A35_ : own_AJ Z h35 b35 n' (fun _ => (0 : Int64)) := A35
    have Z35 : n0 ≤ h35.size := Nat.le_trans Z0 E35.1
    have K35 := K0.ext E35
    have Y35 : h0.size ≤ h35.size := Nat.le_trans (Nat.le_refl h0.size) E35.1
    refine own_fwd st35 ?_
    show own_R p.tables e below P (T35.setTop (mkF m 17 #[.val (.ref a1), .val (.int p1), .unset] [(.ref b35)]))
    refine own_fwd (fun tt kt => XS.astoreN X35.here hx rfl (hb hby own_d14_17) rfl rfl (l' := #[.val (.ref a1), .val (.int p1), .val (.ref b35)]) rfl kt) ?_
    show own_R p.tables e below P (T35.setTop (mkF m 18 #[.val (.ref a1), .val (.int p1), .val (.ref b35)] []))
    refine own_fwd (fun tt kt => XS.aloadN X35.here hx rfl (hb hby own_d14_18) rfl rfl kt) ?_
    show own_R p.tables e below P (T35.setTop (mkF m 19 #[.val (.ref a1), .val (.int p1), .val (.ref b35)] [(.ref a1)]))
    refine own_fwd (fun tt kt => XS.iconst X35.here hx rfl (hb hby own_d14_19) kt) ?_
    show own_R p.tables e below P (T35.setTop (mkF m 20 #[.val (.ref a1), .val (.int p1), .val (.ref b35)] [(.int (0 : Int32)), (.ref a1)]))
    refine own_fwd (fun tt kt => XS.aloadN X35.here hx rfl (hb hby own_d14_20) rfl rfl kt) ?_
    show own_R p.tables e below P (T35.setTop (mkF m 21 #[.val (.ref a1), .val (.int p1), .val (.ref b35)] [(.ref b35), (.int (0 : Int32)), (.ref a1)]))
    refine own_fwd (fun tt kt => XS.iconst X35.here hx rfl (hb hby own_d14_21) kt) ?_
    show own_R p.tables e below P (T35.setTop (mkF m 22 #[.val (.ref a1), .val (.int p1), .val (.ref b35)] [(.int (0 : Int32)), (.ref b35), (.int (0 : Int32)), (.ref a1)]))
    refine own_fwd (fun tt kt => XS.aloadN X35.here hx rfl (hb hby own_d14_22) rfl rfl kt) ?_
    show own_R p.tables e below P (T35.setTop (mkF m 23 #[.val (.ref a1), .val (.int p1), .val (.ref b35)] [(.ref a1), (.int (0 : Int32)), (.ref b35), (.int (0 : Int32)), (.ref a1)]))
    refine own_fwd (own_len X35 hx hZ e35 pA_x35 n.toInt32 (len_toInt pA.bd) (g := (mkF m 23 #[.val (.ref a1), .val (.int p1), .val (.ref b35)] [(.ref a1), (.int (0 : Int32)), (.ref b35), (.int (0 : Int32)), (.ref a1)])) rfl rfl (hb hby own_d14_23)) ?_
    show own_R p.tables e below P (T35.setTop (mkF m 24 #[.val (.ref a1), .val (.int p1), .val (.ref b35)] [(.int n.toInt32), (.int (0 : Int32)), (.ref b35), (.int (0 : Int32)), (.ref a1)]))
    refine own_fwd (fun tt kt => XS.iloadN X35.here hx rfl (hb hby own_d14_24) rfl kt) ?_
    show own_R p.tables e below P (T35.setTop (mkF m 25 #[.val (.ref a1), .val (.int p1), .val (.ref b35)] [(.int p1), (.int n.toInt32), (.int (0 : Int32)), (.ref b35), (.int (0 : Int32)), (.ref a1)]))
    obtain ⟨_, _, ⟨T36, L36, k36, n36⟩, -, X36, ⟨Lc36, hQ36, l36, y36, z36⟩, st36⟩ := Jvm.LawKit.callS X35 hx (y := (⟨"java/lang/Math", "min", "(II)I"⟩ : MethodName)) hown (mvT hZ (hw _ (List.mem_of_getElem? (i := 72) rfl))) (mvT hZ (hw _ (List.mem_of_getElem? (i := 73) rfl))) (mvT hZ (hw _ (List.mem_of_getElem? (i := 66) rfl))) (mvT hZ (hw _ (List.mem_of_getElem? (i := 74) rfl))) (by decide) (backOf (W := 4) (own_rm15 l Z a0 hw [] n.toInt32 p1 h35 n0 Z35 ) hZ (hw _ (List.mem_of_getElem? (i := 74) rfl)) (hw _ (List.mem_of_getElem? (i := 66) rfl)) (by decide) (by decide)) (g := (mkF m 25 #[.val (.ref a1), .val (.int p1), .val (.ref b35)] [(.int p1), (.int n.toInt32), (.int (0 : Int32)), (.ref b35), (.int (0 : Int32)), (.ref a1)])) rfl (by rw [hml]; rfl) (argsL := [(.int n.toInt32), (.int p1)]) (rest := [(.int (0 : Int32)), (.ref b35), (.int (0 : Int32)), (.ref a1)]) (lenOf own_pd0 rfl) rfl (by show 2 * 0 + _ ≤ _; exact Nat.le_of_eq rfl) (hb hby own_d14_25) (fun _ _ => ⟨rfl, e35, (by decide : 1 + 0 ≤ _), (by decide : 12 + 0 ≤ _)⟩)
    dsimp only [Pt.U, Pt.locs, Pt.cells, Pt.slots] at X36 l36 y36 z36 st36 hQ36
    rw [l36, (show k36 = 1 from y36), (show n36 = 12 from z36)] at X36
    obtain ⟨h36, e36⟩ : ∃ z, T36.heap = z := ⟨_, rfl⟩
    rw [e36] at hQ36
    obtain ⟨hq36, N36q, q36⟩ := hQ36
    rw [q36] at e36
    rw [hq36] at st36
    have N36 := Fr.app N0 N36q
    have mq36 : (if p1 < n.toInt32 then p1 else n.toInt32) = n.toInt32 := by rw [if_neg]; rw [Int32.lt_iff_toInt_lt, hp, ln]; omega
    rw [mq36] at st36
    refine own_fwd st36 ?_
    show own_R p.tables e below P (T36.setTop (mkF m 28 #[.val (.ref a1), .val (.int p1), .val (.ref b35)] [(.int n.toInt32), (.int (0 : Int32)), (.ref b35), (.int (0 : Int32)), (.ref a1)]))
    obtain ⟨T37, h37, Lc37, X37, e37, N37, K37, A37_, st37⟩ := own_cp X36 hx hZ hown (hw _ (List.mem_of_getElem? (i := 75) rfl)) (hw _ (List.mem_of_getElem? (i := 78) rfl)) (hw _ (List.mem_of_getElem? (i := 76) rfl)) (hw _ (List.mem_of_getElem? (i := 77) rfl)) e36 pA_x35 A35_ rfl (fun i _ => rfl) (fun i _ => rfl) (sp := (0 : Int32)) (dp := (0 : Int32)) (nn := n.toInt32) 0 0 n own_i0 own_i0 (len_toInt pA.bd) (by omega) (by omega) N36 ge_b35 (fr := (mkF m 28 #[.val (.ref a1), .val (.int p1), .val (.ref b35)] [(.int n.toInt32), (.int (0 : Int32)), (.ref b35), (.int (0 : Int32)), (.ref a1)])) rfl (by rw [hml]; rfl) rfl (hb hby own_d14_28) (by decide) (W := 0) (by show 2 * 0 + _ ≤ _; exact Nat.le_of_eq rfl) (by decide)
    have B37_ : own_AJ Z h37 b35 n' (own_gr f n) := A37_.cong fun i _ => by
      unfold own_gr
      by_cases c : i < n
      · rw [if_pos c, if_pos (by omega)]; simp
      · rw [if_neg c, if_neg (by omega)]
    have pA_x37 := pA_x35.keep K37 (ninS ne35_a1 nin0)
    have pE_x37 := pE_x35.keep K37
    have B35_x37 := B35.keep K37
    have Z37 : n0 ≤ h37.size := Nat.le_trans Z35 K37.1
    have KK37 := K35.trans K37 (allS (Or.inr sz_b35) all0)
    have Y37 : h0.size ≤ h37.size := Nat.le_trans Y35 K37.1
    refine own_fwd st37 ?_
    show own_R p.tables e below P (T37.setTop (mkF m 31 #[.val (.ref a1), .val (.int p1), .val (.ref b35)] []))
    refine own_fwd (fun tt kt => XS.aloadN X37.here hx rfl (hb hby own_d14_31) rfl rfl kt) ?_
    show own_R p.tables e below P (T37.setTop (mkF m 32 #[.val (.ref a1), .val (.int p1), .val (.ref b35)] [(.ref b35)]))
    obtain ⟨fs38, hr38, hrun38, hended38, hW38, hsame38⟩ := X37.leave (v := some (.ref b35)) (fun h => by rw [Bd.returns] at h; cases h)
    refine ⟨_, _, X37.areturnOut hx rfl Bd.returns rfl (hb hby own_d14_32) hr38, fin _ _ ⟨hrun38, hended38, _, _, rfl, ?_, ⟨_, rfl⟩, hW38, hsame38.mono (by decide) (by decide)⟩⟩
    show own_Qcp12 Z a1 p1 f n n' h0 n0 _ T37.heap _
    rw [e37]
    exact ⟨b35, rfl, N37, ge_b35, sz_b35, KK37, B37_, B35_x37⟩
theorem own_d1_0 : decode prog_129_method_2_code 0 = .ok (.aload_n 0, 1) := by decide +kernel
theorem own_d1_1 : decode prog_129_method_2_code 1 = .ok (.invokespecial 9, 3) := by decide +kernel
theorem own_d1_4 : decode prog_129_method_2_code 4 = .ok (.aload_n 0, 1) := by decide +kernel
theorem own_d1_5 : decode prog_129_method_2_code 5 = .ok (.iload_n 1, 1) := by decide +kernel
theorem own_d1_6 : decode prog_129_method_2_code 6 = .ok (.bipush 64, 2) := by decide +kernel
theorem own_d1_8 : decode prog_129_method_2_code 8 = .ok (.iadd, 1) := by decide +kernel
theorem own_d1_9 : decode prog_129_method_2_code 9 = .ok (.iconst 1, 1) := by decide +kernel
theorem own_d1_10 : decode prog_129_method_2_code 10 = .ok (.isub, 1) := by decide +kernel
theorem own_d1_11 : decode prog_129_method_2_code 11 = .ok (.bipush 6, 2) := by decide +kernel
theorem own_d1_13 : decode prog_129_method_2_code 13 = .ok (.iushr, 1) := by decide +kernel
theorem own_d1_14 : decode prog_129_method_2_code 14 = .ok (.newarray .long, 2) := by decide +kernel
theorem own_d1_16 : decode prog_129_method_2_code 16 = .ok (.putfield 14, 3) := by decide +kernel
theorem own_d1_19 : decode prog_129_method_2_code 19 = .ok (.aload_n 0, 1) := by decide +kernel
theorem own_d1_20 : decode prog_129_method_2_code 20 = .ok (.aload_n 0, 1) := by decide +kernel
theorem own_d1_21 : decode prog_129_method_2_code 21 = .ok (.getfield 14, 3) := by decide +kernel
theorem own_d1_24 : decode prog_129_method_2_code 24 = .ok (.arraylength, 1) := by decide +kernel
theorem own_d1_25 : decode prog_129_method_2_code 25 = .ok (.bipush 64, 2) := by decide +kernel
theorem own_d1_27 : decode prog_129_method_2_code 27 = .ok (.iadd, 1) := by decide +kernel
theorem own_d1_28 : decode prog_129_method_2_code 28 = .ok (.iconst 1, 1) := by decide +kernel
theorem own_d1_29 : decode prog_129_method_2_code 29 = .ok (.isub, 1) := by decide +kernel
theorem own_d1_30 : decode prog_129_method_2_code 30 = .ok (.bipush 6, 2) := by decide +kernel
theorem own_d1_32 : decode prog_129_method_2_code 32 = .ok (.iushr, 1) := by decide +kernel
theorem own_d1_33 : decode prog_129_method_2_code 33 = .ok (.newarray .long, 2) := by decide +kernel
theorem own_d1_35 : decode prog_129_method_2_code 35 = .ok (.putfield 18, 3) := by decide +kernel
theorem own_d1_38 : decode prog_129_method_2_code 38 = .ok (.return_, 1) := by decide +kernel
theorem own_pn1 : plainName "com/example/ramp99/ramp99/service/replay/NumberSet" = true := by first | (simp [plainName, overriddenIn]; done) | decide +kernel
theorem own_ef1 (m : MethodId) (a1 : Addr) (p1 : Int32) : entryFrame m #[(.ref a1), (.int p1)] 2 = mkF m 0 #[.val (.ref a1), .val (.int p1)] [] := by first | (simp [entryFrame, mkF, argsToLocals, Value.category]; done) | rfl
def own_Q1 (Z : State) (a1 : Addr) (p1 : Int32) (r : Nat) (h0 : Heap) (n0 : Nat) (v : Option Value) (h : Heap) (L : List Loc) : Prop := v = none ∧ Fr n0 L ∧ Keep h0 h [a1] ∧ ∃ (mB hB : Addr) (M1 H1 : Nat), n0 ≤ mB ∧ n0 ≤ hB ∧ h0.size ≤ mB ∧ h0.size ≤ hB ∧ mB ≠ hB ∧ own_Inv M1 H1 (fun _ => (0 : Int64)) (fun _ => (0 : Int64)) (fun _ => false) ∧ M1 ≤ 1000 ∧ Exa Z h a1 "com/example/ramp99/ramp99/service/replay/NumberSet" ∧ Fld Z h a1 "com/example/ramp99/ramp99/service/replay/NumberSet" "members" "[J" (.ref mB) ∧ Fld Z h a1 "com/example/ramp99/ramp99/service/replay/NumberSet" "holding" "[J" (.ref hB) ∧ Fld Z h a1 "com/example/ramp99/ramp99/service/replay/NumberSet" "size" "I" (.int (0 : Int32)) ∧ own_AJ Z h mB M1 (fun _ => (0 : Int64)) ∧ own_AJ Z h hB H1 (fun _ => (0 : Int64)) ∧ Exa Z h mB "[J" ∧ Exa Z h hB "[J"
set_option maxRecDepth 65536 in
set_option maxHeartbeats 40000000 in
theorem own_rm1 (l : Launch) (Z : State) (a0 : Array Value) (hw : ∀ d ∈ tables_1, d.before a0 Z = true) (ws : List Jvm.Cond) (a1 : Addr) (p1 : Int32) (r : Nat) (h0 : Heap) (n0 : Nat) (Z0 : n0 ≤ h0.size) (pE : Exa Z h0 a1 "com/example/ramp99/ramp99/service/replay/NumberSet") (pF1 : Fld Z h0 a1 "com/example/ramp99/ramp99/service/replay/NumberSet" "members" "[J" .null) (pF2 : Fld Z h0 a1 "com/example/ramp99/ramp99/service/replay/NumberSet" "holding" "[J" .null) (pF3 : Fld Z h0 a1 "com/example/ramp99/ramp99/service/replay/NumberSet" "size" "I" (.int (0 : Int32))) (pg : n0 ≤ a1) (hp : p1.toInt = (r : Int)) (br : r ≤ 16384) :
    MetFree l (⟨"com/example/ramp99/ramp99/service/replay/NumberSet", "<init>", "(I)V"⟩ : MethodName) (head1 (Jvm.Cond.code (⟨"com/example/ramp99/ramp99/service/replay/NumberSet", "<init>", "(I)V"⟩ : MethodName) prog_129_method_2_code 2 none :: ws) ({ frames := 1, cells := 2, slots := 260, locals := 12 } : Room)) (fun a U => a = #[(.ref a1), (.int p1)] ∧ Z.Warmed39 U.vm ∧ U.heap = h0) (fun _ _ _ _ _ => True) (fun _ U o U' => ∃ v L, o = .returned v ∧ own_Q1 Z a1 p1 r h0 n0 v U'.heap L ∧ FrameEnd U o U' L ({ frames := 1, cells := 2, slots := 260, locals := 12 } : Room).cells ({ frames := 1, cells := 2, slots := 260, locals := 12 } : Room).slots) := by
  refine MetFree.of_bodySF (plainFor_of_name own_pn1) hisR ?_
  intro p e s m args below meth c s₁ Bd hml0 hP hK
  obtain ⟨rfl, hZ, hh⟩ := hP
  have hx := Bd.exec
  have hby := Bd.bytes
  have hml : c.maxLocals = 2 := hml0
  have hown : s.vm.findClass "com/example/ramp99/ramp99/service/replay/NumberSet" = some m.cls := findClass_of_methodNamed Bd.named
  have hnm := (name_of_methodNamed Bd.named Bd.method).1
  have X0 : Stand p l e ({ frames := 1, cells := 2, slots := 260, locals := 12 } : Room) s m #[(.ref a1), (.int p1)] below meth c s₁ [] 0 0 := Stand.of_body Bd
  have e0 : s₁.heap = h0 := by rw [← hh, Bd.state]; rfl
  have N0 := Fr.nil n0
  refine own_nm (st := s₁.setTop (entryFrame m #[(.ref a1), (.int p1)] 2)) fun P fin => ?_
  refine own_fwd (fun tt kt => castTop (own_ef1 m a1 p1) kt) ?_
  show own_R p.tables e below P (s₁.setTop (mkF m 0 #[.val (.ref a1), .val (.int p1)] []))
  have K0 := Keep.refl h0 [a1]
  have i64 : (64 : Int32).toInt = ((64 : Nat) : Int) := rfl
  have m1 := own_sh6 (own_predn (i := r + 63) (own_addn (i := r) (j := 64) hp i64 (by omega)))
  refine own_fwd (fun tt kt => XS.aloadN X0.here hx rfl (hb hby own_d1_0) rfl rfl kt) ?_
  show own_R p.tables e below P (s₁.setTop (mkF m 1 #[.val (.ref a1), .val (.int p1)] [(.ref a1)]))
  obtain ⟨T39, X39, e39, st39⟩ := initO X0 hx hZ hown (hw _ (List.mem_of_getElem? (i := 6) rfl)) (hw _ (List.mem_of_getElem? (i := 7) rfl)) (hw _ (List.mem_of_getElem? (i := 8) rfl)) e0 (g := (mkF m 1 #[.val (.ref a1), .val (.int p1)] [(.ref a1)])) rfl (by rw [hml]; rfl) rfl (hb hby own_d1_1) (by decide) (W := 0) (by show 2 * 0 + _ ≤ _; exact Nat.le_of_eq rfl) (by decide)
  refine own_fwd st39 ?_
  show own_R p.tables e below P (T39.setTop (mkF m 4 #[.val (.ref a1), .val (.int p1)] []))
  refine own_fwd (fun tt kt => XS.aloadN X39.here hx rfl (hb hby own_d1_4) rfl rfl kt) ?_
  show own_R p.tables e below P (T39.setTop (mkF m 5 #[.val (.ref a1), .val (.int p1)] [(.ref a1)]))
  refine own_fwd (fun tt kt => XS.iloadN X39.here hx rfl (hb hby own_d1_5) rfl kt) ?_
  show own_R p.tables e below P (T39.setTop (mkF m 6 #[.val (.ref a1), .val (.int p1)] [(.int p1), (.ref a1)]))
  refine own_fwd (fun tt kt => XS.bipush X39.here hx rfl (hb hby own_d1_6) kt) ?_
  show own_R p.tables e below P (T39.setTop (mkF m 8 #[.val (.ref a1), .val (.int p1)] [(.int (64 : Int32)), (.int p1), (.ref a1)]))
  refine own_fwd (fun tt kt => XS.iadd X39.here hx rfl (hb hby own_d1_8) rfl kt) ?_
  show own_R p.tables e below P (T39.setTop (mkF m 9 #[.val (.ref a1), .val (.int p1)] [(.int (p1 + (64 : Int32))), (.ref a1)]))
  refine own_fwd (fun tt kt => XS.iconst X39.here hx rfl (hb hby own_d1_9) kt) ?_
  show own_R p.tables e below P (T39.setTop (mkF m 10 #[.val (.ref a1), .val (.int p1)] [(.int (1 : Int32)), (.int (p1 + (64 : Int32))), (.ref a1)]))
  refine own_fwd (fun tt kt => XS.isub X39.here hx rfl (hb hby own_d1_10) rfl kt) ?_
  show own_R p.tables e below P (T39.setTop (mkF m 11 #[.val (.ref a1), .val (.int p1)] [(.int ((p1 + (64 : Int32)) - (1 : Int32))), (.ref a1)]))
  refine own_fwd (fun tt kt => XS.bipush X39.here hx rfl (hb hby own_d1_11) kt) ?_
  show own_R p.tables e below P (T39.setTop (mkF m 13 #[.val (.ref a1), .val (.int p1)] [(.int (6 : Int32)), (.int ((p1 + (64 : Int32)) - (1 : Int32))), (.ref a1)]))
  refine own_fwd (fun tt kt => XS.iushr X39.here hx rfl (hb hby own_d1_13) rfl kt) ?_
  show own_R p.tables e below P (T39.setTop (mkF m 14 #[.val (.ref a1), .val (.int p1)] [(.int ((((p1 + (64 : Int32)) - (1 : Int32)).toUInt32 >>> ((6 : Int32) &&& 31).toUInt32).toInt32)), (.ref a1)]))
  obtain ⟨T40, h40, b40, g40, X40, e40, E40, A40, B40, st40⟩ := own_newA (n := ((r + 63) / 64)) X39 hx hZ (hw _ (List.mem_of_getElem? (i := 9) rfl)) e39 (z := ((((p1 + (64 : Int32)) - (1 : Int32)).toUInt32 >>> ((6 : Int32) &&& 31).toUInt32).toInt32)) m1 (cap := 256) (by omega) (g := (mkF m 14 #[.val (.ref a1), .val (.int p1)] [(.int ((((p1 + (64 : Int32)) - (1 : Int32)).toUInt32 >>> ((6 : Int32) &&& 31).toUInt32).toInt32)), (.ref a1)])) rfl (hb hby own_d1_14) rfl (by decide) (by decide) (by decide) (ad := "[J") (by decide)
  have ne40_a1 : a1 ≠ b40 := Nat.ne_of_lt (by rw [g40]; exact pE.lt)
  have ge_b40 : n0 ≤ b40 := by rw [g40]; exact Z0
  have sz_b40 : h0.size ≤ b40 := by rw [g40]; exact (Nat.le_refl h0.size)
  have pE_x40 := pE.ext E40
  have pF1_x40 := pF1.ext E40
  have pF2_x40 := pF2.ext E40
  have pF3_x40 := pF3.ext E40
  have A40_ : own_AJ Z h40 b40 ((r + 63) / 64) (fun _ => (0 : Int64)) := A40
  have Z40 : n0 ≤ h40.size := Nat.le_trans Z0 E40.1
  have K40 := K0.ext E40
  have Y40 : h0.size ≤ h40.size := Nat.le_trans (Nat.le_refl h0.size) E40.1
  refine own_fwd st40 ?_
  show own_R p.tables e below P (T40.setTop (mkF m 16 #[.val (.ref a1), .val (.int p1)] [(.ref b40), (.ref a1)]))
  obtain ⟨T41, h41, X41, e41, W41, st41⟩ := putF X40 hx hZ hown (host := "") (Or.inl (hw _ (List.mem_of_getElem? (i := 10) rfl))) Via.refl e40 pF1_x40 pE_x40 (Or.inl (hw _ (List.mem_of_getElem? (i := 11) rfl))) (hw _ (List.mem_of_getElem? (i := 1) rfl)) (ty := (.array .long)) (by decide) rfl rfl (g := (mkF m 16 #[.val (.ref a1), .val (.int p1)] [(.ref b40), (.ref a1)])) rfl rfl (hb hby own_d1_16)
  have F41_ := pF1_x40.same W41
  have pE_x41 := pE_x40.wr W41
  have pF2_x41 := pF2_x40.other W41 (Or.inr (slot_ne (Or.inl (hw _ (List.mem_of_getElem? (i := 13) rfl))) (Or.inl (hw _ (List.mem_of_getElem? (i := 11) rfl))) (by decide) (t := (.array .long)) (t' := (.array .long)) (by decide) (by decide)))
  have pF3_x41 := pF3_x40.other W41 (Or.inr (slot_ne (Or.inl (hw _ (List.mem_of_getElem? (i := 20) rfl))) (Or.inl (hw _ (List.mem_of_getElem? (i := 11) rfl))) (by decide) (t := .int) (t' := (.array .long)) (by decide) (by decide)))
  have A40__x41 := A40_.other W41 (Ne.symm ne40_a1)
  have B40_x41 := B40.wr W41
  have N41 := Fr.snoc X41 N0 pg
  have Z41 : n0 ≤ h41.size := by rw [W41.size]; exact Z40
  have K41 := K40.wr W41 (Or.inl (List.mem_of_getElem? (i := 0) rfl))
  have Y41 : h0.size ≤ h41.size := by rw [W41.size]; exact Y40
  refine own_fwd st41 ?_
  show own_R p.tables e below P (T41.setTop (mkF m 19 #[.val (.ref a1), .val (.int p1)] []))
  refine own_fwd (fun tt kt => XS.aloadN X41.here hx rfl (hb hby own_d1_19) rfl rfl kt) ?_
  show own_R p.tables e below P (T41.setTop (mkF m 20 #[.val (.ref a1), .val (.int p1)] [(.ref a1)]))
  refine own_fwd (fun tt kt => XS.aloadN X41.here hx rfl (hb hby own_d1_20) rfl rfl kt) ?_
  show own_R p.tables e below P (T41.setTop (mkF m 21 #[.val (.ref a1), .val (.int p1)] [(.ref a1), (.ref a1)]))
  obtain ⟨T42, X42, e42, st42⟩ := getF X41 hx hZ hown (host := "") (Or.inl (hw _ (List.mem_of_getElem? (i := 10) rfl))) Via.refl e41 F41_ (g := (mkF m 21 #[.val (.ref a1), .val (.int p1)] [(.ref a1), (.ref a1)])) rfl rfl (hb hby own_d1_21)
  refine own_fwd st42 ?_
  show own_R p.tables e below P (T42.setTop (mkF m 24 #[.val (.ref a1), .val (.int p1)] [(.ref b40), (.ref a1)]))
  refine own_fwd (own_len X42 hx hZ e42 A40__x41 ((r + 63) / 64).toInt32 (len_toInt (by omega)) (g := (mkF m 24 #[.val (.ref a1), .val (.int p1)] [(.ref b40), (.ref a1)])) rfl rfl (hb hby own_d1_24)) ?_
  show own_R p.tables e below P (T42.setTop (mkF m 25 #[.val (.ref a1), .val (.int p1)] [(.int ((r + 63) / 64).toInt32), (.ref a1)]))
  refine own_fwd (fun tt kt => XS.bipush X42.here hx rfl (hb hby own_d1_25) kt) ?_
  show own_R p.tables e below P (T42.setTop (mkF m 27 #[.val (.ref a1), .val (.int p1)] [(.int (64 : Int32)), (.int ((r + 63) / 64).toInt32), (.ref a1)]))
  refine own_fwd (fun tt kt => XS.iadd X42.here hx rfl (hb hby own_d1_27) rfl kt) ?_
  show own_R p.tables e below P (T42.setTop (mkF m 28 #[.val (.ref a1), .val (.int p1)] [(.int (((r + 63) / 64).toInt32 + (64 : Int32))), (.ref a1)]))
  refine own_fwd (fun tt kt => XS.iconst X42.here hx rfl (hb hby own_d1_28) kt) ?_
  show own_R p.tables e below P (T42.setTop (mkF m 29 #[.val (.ref a1), .val (.int p1)] [(.int (1 : Int32)), (.int (((r + 63) / 64).toInt32 + (64 : Int32))), (.ref a1)]))
  refine own_fwd (fun tt kt => XS.isub X42.here hx rfl (hb hby own_d1_29) rfl kt) ?_
  show own_R p.tables e below P (T42.setTop (mkF m 30 #[.val (.ref a1), .val (.int p1)] [(.int ((((r + 63) / 64).toInt32 + (64 : Int32)) - (1 : Int32))), (.ref a1)]))
  refine own_fwd (fun tt kt => XS.bipush X42.here hx rfl (hb hby own_d1_30) kt) ?_
  show own_R p.tables e below P (T42.setTop (mkF m 32 #[.val (.ref a1), .val (.int p1)] [(.int (6 : Int32)), (.int ((((r + 63) / 64).toInt32 + (64 : Int32)) - (1 : Int32))), (.ref a1)]))
  refine own_fwd (fun tt kt => XS.iushr X42.here hx rfl (hb hby own_d1_32) rfl kt) ?_
  show own_R p.tables e below P (T42.setTop (mkF m 33 #[.val (.ref a1), .val (.int p1)] [(.int ((((((r + 63) / 64).toInt32 + (64 : Int32)) - (1 : Int32)).toUInt32 >>> ((6 : Int32) &&& 31).toUInt32).toInt32)), (.ref a1)]))
  obtain ⟨T43, h43, b43, g43, X43, e43, E43, A43, B43, st43⟩ := own_newA (n := (((r + 63) / 64 + 63) / 64)) X42 hx hZ (hw _ (List.mem_of_getElem? (i := 9) rfl)) e42 (z := ((((((r + 63) / 64).toInt32 + (64 : Int32)) - (1 : Int32)).toUInt32 >>> ((6 : Int32) &&& 31).toUInt32).toInt32)) (own_sh6 (own_predn (i := (r + 63) / 64 + 63) (own_addn (i := (r + 63) / 64) (j := 64) (len_toInt (by omega)) i64 (by omega)))) (cap := 4) (by omega) (g := (mkF m 33 #[.val (.ref a1), .val (.int p1)] [(.int ((((((r + 63) / 64).toInt32 + (64 : Int32)) - (1 : Int32)).toUInt32 >>> ((6 : Int32) &&& 31).toUInt32).toInt32)), (.ref a1)])) rfl (hb hby own_d1_33) rfl (by decide) (by decide) (by decide) (ad := "[J") (by decide)
  have ne43_a1 : a1 ≠ b43 := Nat.ne_of_lt (by rw [g43]; exact pE_x41.lt)
  have ne43_b40 : b40 ≠ b43 := Nat.ne_of_lt (by rw [g43]; exact A40__x41.lt)
  have ge_b43 : n0 ≤ b43 := by rw [g43]; exact Z41
  have sz_b43 : h0.size ≤ b43 := by rw [g43]; exact Y41
  have pE_x43 := pE_x41.ext E43
  have F41__x43 := F41_.ext E43
  have pF2_x43 := pF2_x41.ext E43
  have pF3_x43 := pF3_x41.ext E43
  have A40__x43 := A40__x41.ext E43
  have B40_x43 := B40_x41.ext E43
  have A43_ : own_AJ Z h43 b43 (((r + 63) / 64 + 63) / 64) (fun _ => (0 : Int64)) := A43
  have Z43 : n0 ≤ h43.size := Nat.le_trans Z41 E43.1
  have K43 := K41.ext E43
  have Y43 : h0.size ≤ h43.size := Nat.le_trans Y41 E43.1
  refine own_fwd st43 ?_
  show own_R p.tables e below P (T43.setTop (mkF m 35 #[.val (.ref a1), .val (.int p1)] [(.ref b43), (.ref a1)]))
  obtain ⟨T44, h44, X44, e44, W44, st44⟩ := putF X43 hx hZ hown (host := "") (Or.inl (hw _ (List.mem_of_getElem? (i := 12) rfl))) Via.refl e43 pF2_x43 pE_x43 (Or.inl (hw _ (List.mem_of_getElem? (i := 13) rfl))) (hw _ (List.mem_of_getElem? (i := 1) rfl)) (ty := (.array .long)) (by decide) rfl rfl (g := (mkF m 35 #[.val (.ref a1), .val (.int p1)] [(.ref b43), (.ref a1)])) rfl rfl (hb hby own_d1_35)
  have F44_ := pF2_x43.same W44
  have pE_x44 := pE_x43.wr W44
  have F41__x44 := F41__x43.other W44 (Or.inr (slot_ne (Or.inl (hw _ (List.mem_of_getElem? (i := 11) rfl))) (Or.inl (hw _ (List.mem_of_getElem? (i := 13) rfl))) (by decide) (t := (.array .long)) (t' := (.array .long)) (by decide) (by decide)))
  have pF3_x44 := pF3_x43.other W44 (Or.inr (slot_ne (Or.inl (hw _ (List.mem_of_getElem? (i := 20) rfl))) (Or.inl (hw _ (List.mem_of_getElem? (i := 13) rfl))) (by decide) (t := .int) (t' := (.array .long)) (by decide) (by decide)))
  have A40__x44 := A40__x43.other W44 (Ne.symm ne40_a1)
  have B40_x44 := B40_x43.wr W44
  have A43__x44 := A43_.other W44 (Ne.symm ne43_a1)
  have B43_x44 := B43.wr W44
  have N44 := Fr.snoc X44 N41 pg
  have Z44 : n0 ≤ h44.size := by rw [W44.size]; exact Z43
  have K44 := K43.wr W44 (Or.inl (List.mem_of_getElem? (i := 0) rfl))
  have Y44 : h0.size ≤ h44.size := by rw [W44.size]; exact Y43
  refine own_fwd st44 ?_
  show own_R p.tables e below P (T44.setTop (mkF m 38 #[.val (.ref a1), .val (.int p1)] []))
  obtain ⟨fs45, hr45, hrun45, hended45, hW45, hsame45⟩ := X44.leave (v := none) (fun _ => rfl)
  refine ⟨_, _, X44.returnOut hx Bd.returns (hb hby own_d1_38) hr45, fin _ _ ⟨hrun45, hended45, _, _, rfl, ?_, ⟨_, rfl⟩, hW45, hsame45.mono (by decide) (by decide)⟩⟩
  show own_Q1 Z a1 p1 r h0 n0 _ T44.heap _
  rw [e44]
  exact ⟨rfl, N44, K44, b40, b43, (r + 63) / 64, ((r + 63) / 64 + 63) / 64, ge_b40, ge_b43, sz_b40, sz_b43, ne43_b40, own_Inv.zero _ _ rfl, by omega, pE_x44, F41__x44, F44_, pF3_x44, A40__x44, A43__x44, B40_x44, B43_x44⟩
theorem own_d3_0 : decode prog_129_method_5_code 0 = .ok (.iload_n 1, 1) := by decide +kernel
theorem own_d3_1 : decode prog_129_method_5_code 1 = .ok (.bipush 6, 2) := by decide +kernel
theorem own_d3_3 : decode prog_129_method_5_code 3 = .ok (.iushr, 1) := by decide +kernel
theorem own_d3_4 : decode prog_129_method_5_code 4 = .ok (.istore_n 2, 1) := by decide +kernel
theorem own_d3_5 : decode prog_129_method_5_code 5 = .ok (.iload_n 2, 1) := by decide +kernel
theorem own_d3_6 : decode prog_129_method_5_code 6 = .ok (.aload_n 0, 1) := by decide +kernel
theorem own_d3_7 : decode prog_129_method_5_code 7 = .ok (.getfield 14, 3) := by decide +kernel
theorem own_d3_10 : decode prog_129_method_5_code 10 = .ok (.arraylength, 1) := by decide +kernel
theorem own_d3_11 : decode prog_129_method_5_code 11 = .ok (.if_icmp .lt 49, 3) := by decide +kernel
theorem own_d3_14 : decode prog_129_method_5_code 14 = .ok (.aload_n 0, 1) := by decide +kernel
theorem own_d3_15 : decode prog_129_method_5_code 15 = .ok (.aload_n 0, 1) := by decide +kernel
theorem own_d3_16 : decode prog_129_method_5_code 16 = .ok (.getfield 14, 3) := by decide +kernel
theorem own_d3_19 : decode prog_129_method_5_code 19 = .ok (.iconst 2, 1) := by decide +kernel
theorem own_d3_20 : decode prog_129_method_5_code 20 = .ok (.aload_n 0, 1) := by decide +kernel
theorem own_d3_21 : decode prog_129_method_5_code 21 = .ok (.getfield 14, 3) := by decide +kernel
theorem own_d3_24 : decode prog_129_method_5_code 24 = .ok (.arraylength, 1) := by decide +kernel
theorem own_d3_25 : decode prog_129_method_5_code 25 = .ok (.imul, 1) := by decide +kernel
theorem own_d3_26 : decode prog_129_method_5_code 26 = .ok (.iload_n 2, 1) := by decide +kernel
theorem own_d3_27 : decode prog_129_method_5_code 27 = .ok (.iconst 1, 1) := by decide +kernel
theorem own_d3_28 : decode prog_129_method_5_code 28 = .ok (.iadd, 1) := by decide +kernel
theorem own_d3_29 : decode prog_129_method_5_code 29 = .ok (.invokestatic 25, 3) := by decide +kernel
theorem own_d3_32 : decode prog_129_method_5_code 32 = .ok (.invokestatic 31, 3) := by decide +kernel
theorem own_d3_35 : decode prog_129_method_5_code 35 = .ok (.putfield 14, 3) := by decide +kernel
theorem own_d3_38 : decode prog_129_method_5_code 38 = .ok (.aload_n 0, 1) := by decide +kernel
theorem own_d3_39 : decode prog_129_method_5_code 39 = .ok (.aload_n 0, 1) := by decide +kernel
theorem own_d3_40 : decode prog_129_method_5_code 40 = .ok (.getfield 18, 3) := by decide +kernel
theorem own_d3_43 : decode prog_129_method_5_code 43 = .ok (.aload_n 0, 1) := by decide +kernel
theorem own_d3_44 : decode prog_129_method_5_code 44 = .ok (.getfield 14, 3) := by decide +kernel
theorem own_d3_47 : decode prog_129_method_5_code 47 = .ok (.arraylength, 1) := by decide +kernel
theorem own_d3_48 : decode prog_129_method_5_code 48 = .ok (.bipush 63, 2) := by decide +kernel
theorem own_d3_50 : decode prog_129_method_5_code 50 = .ok (.iadd, 1) := by decide +kernel
theorem own_d3_51 : decode prog_129_method_5_code 51 = .ok (.bipush 6, 2) := by decide +kernel
theorem own_d3_53 : decode prog_129_method_5_code 53 = .ok (.iushr, 1) := by decide +kernel
theorem own_d3_54 : decode prog_129_method_5_code 54 = .ok (.invokestatic 31, 3) := by decide +kernel
theorem own_d3_57 : decode prog_129_method_5_code 57 = .ok (.putfield 18, 3) := by decide +kernel
theorem own_d3_60 : decode prog_129_method_5_code 60 = .ok (.aload_n 0, 1) := by decide +kernel
theorem own_d3_61 : decode prog_129_method_5_code 61 = .ok (.getfield 14, 3) := by decide +kernel
theorem own_d3_64 : decode prog_129_method_5_code 64 = .ok (.iload_n 2, 1) := by decide +kernel
theorem own_d3_65 : decode prog_129_method_5_code 65 = .ok (.dup2, 1) := by decide +kernel
theorem own_d3_66 : decode prog_129_method_5_code 66 = .ok (.laload, 1) := by decide +kernel
theorem own_d3_67 : decode prog_129_method_5_code 67 = .ok (.lconst 1, 1) := by decide +kernel
theorem own_d3_68 : decode prog_129_method_5_code 68 = .ok (.iload_n 1, 1) := by decide +kernel
theorem own_d3_69 : decode prog_129_method_5_code 69 = .ok (.lshl, 1) := by decide +kernel
theorem own_d3_70 : decode prog_129_method_5_code 70 = .ok (.lor, 1) := by decide +kernel
theorem own_d3_71 : decode prog_129_method_5_code 71 = .ok (.lastore, 1) := by decide +kernel
theorem own_d3_72 : decode prog_129_method_5_code 72 = .ok (.aload_n 0, 1) := by decide +kernel
theorem own_d3_73 : decode prog_129_method_5_code 73 = .ok (.getfield 18, 3) := by decide +kernel
theorem own_d3_76 : decode prog_129_method_5_code 76 = .ok (.iload_n 2, 1) := by decide +kernel
theorem own_d3_77 : decode prog_129_method_5_code 77 = .ok (.bipush 6, 2) := by decide +kernel
theorem own_d3_79 : decode prog_129_method_5_code 79 = .ok (.iushr, 1) := by decide +kernel
theorem own_d3_80 : decode prog_129_method_5_code 80 = .ok (.dup2, 1) := by decide +kernel
theorem own_d3_81 : decode prog_129_method_5_code 81 = .ok (.laload, 1) := by decide +kernel
theorem own_d3_82 : decode prog_129_method_5_code 82 = .ok (.lconst 1, 1) := by decide +kernel
theorem own_d3_83 : decode prog_129_method_5_code 83 = .ok (.iload_n 2, 1) := by decide +kernel
theorem own_d3_84 : decode prog_129_method_5_code 84 = .ok (.lshl, 1) := by decide +kernel
theorem own_d3_85 : decode prog_129_method_5_code 85 = .ok (.lor, 1) := by decide +kernel
theorem own_d3_86 : decode prog_129_method_5_code 86 = .ok (.lastore, 1) := by decide +kernel
theorem own_d3_87 : decode prog_129_method_5_code 87 = .ok (.aload_n 0, 1) := by decide +kernel
theorem own_d3_88 : decode prog_129_method_5_code 88 = .ok (.dup, 1) := by decide +kernel
theorem own_d3_89 : decode prog_129_method_5_code 89 = .ok (.getfield 21, 3) := by decide +kernel
theorem own_d3_92 : decode prog_129_method_5_code 92 = .ok (.iconst 1, 1) := by decide +kernel
theorem own_d3_93 : decode prog_129_method_5_code 93 = .ok (.iadd, 1) := by decide +kernel
theorem own_d3_94 : decode prog_129_method_5_code 94 = .ok (.putfield 21, 3) := by decide +kernel
theorem own_d3_97 : decode prog_129_method_5_code 97 = .ok (.return_, 1) := by decide +kernel
theorem own_pd1 : parseMethodDescriptor "([JI)[J" = some ⟨[(.array .long), .int], some (.array .long)⟩ := by decide +kernel
theorem own_efa1 (m : MethodId) (a1 : Addr) (p1 : Int32) : entryFrame m #[(.ref a1), (.int p1)] 3 = mkF m 0 #[.val (.ref a1), .val (.int p1), .unset] [] := by first | (simp [entryFrame, mkF, argsToLocals, Value.category]; done) | rfl
def own_Qa1 (Z : State) (a1 mA hA : Addr) (z : Int32) (fm fh : Nat → Int64) (M H : Nat) (S : Nat → Bool) (p1 : Int32) (n : Nat) (h0 : Heap) (n0 : Nat) (v : Option Value) (h : Heap) (L : List Loc) : Prop := v = none ∧ Fr n0 L ∧ Keep h0 h [a1, mA, hA] ∧ ∃ (mB hB : Addr) (M1 H1 : Nat) (fm1 fh1 : Nat → Int64), n0 ≤ mB ∧ n0 ≤ hB ∧ a1 ≠ mB ∧ a1 ≠ hB ∧ mB ≠ hB ∧ (mB = mA ∨ h0.size ≤ mB) ∧ (hB = hA ∨ h0.size ≤ hB) ∧ own_Inv M1 H1 fm1 fh1 (fun k => S k || decide (k = n)) ∧ M1 ≤ 1000 ∧ Exa Z h a1 "com/example/ramp99/ramp99/service/replay/NumberSet" ∧ Fld Z h a1 "com/example/ramp99/ramp99/service/replay/NumberSet" "members" "[J" (.ref mB) ∧ Fld Z h a1 "com/example/ramp99/ramp99/service/replay/NumberSet" "holding" "[J" (.ref hB) ∧ Fld Z h a1 "com/example/ramp99/ramp99/service/replay/NumberSet" "size" "I" (.int (z + (1 : Int32))) ∧ own_AJ Z h mB M1 fm1 ∧ own_AJ Z h hB H1 fh1 ∧ Exa Z h mB "[J" ∧ Exa Z h hB "[J"
set_option maxRecDepth 65536 in
set_option maxHeartbeats 40000000 in
theorem own_rma1 (l : Launch) (Z : State) (a0 : Array Value) (hw : ∀ d ∈ tables_1, d.before a0 Z = true) (ws : List Jvm.Cond) (a1 mA hA : Addr) (z : Int32) (fm fh : Nat → Int64) (M H : Nat) (S : Nat → Bool) (p1 : Int32) (n : Nat) (h0 : Heap) (n0 : Nat) (Z0 : n0 ≤ h0.size) (pE : Exa Z h0 a1 "com/example/ramp99/ramp99/service/replay/NumberSet") (pF1 : Fld Z h0 a1 "com/example/ramp99/ramp99/service/replay/NumberSet" "members" "[J" (.ref mA)) (pF2 : Fld Z h0 a1 "com/example/ramp99/ramp99/service/replay/NumberSet" "holding" "[J" (.ref hA)) (pF3 : Fld Z h0 a1 "com/example/ramp99/ramp99/service/replay/NumberSet" "size" "I" (.int z)) (pM : own_AJ Z h0 mA M fm) (pH : own_AJ Z h0 hA H fh) (pEm : Exa Z h0 mA "[J") (pEh : Exa Z h0 hA "[J") (pg : n0 ≤ a1) (pgm : n0 ≤ mA) (pgh : n0 ≤ hA) (n1 : a1 ≠ mA) (n2 : a1 ≠ hA) (n3 : mA ≠ hA) (pI : own_Inv M H fm fh S) (bM : M ≤ 1000) (hp : p1.toInt = (n : Int)) (bn : n < 16384) :
    MetFree l (⟨"com/example/ramp99/ramp99/service/replay/NumberSet", "add", "(I)V"⟩ : MethodName) (head1 (Jvm.Cond.code (⟨"com/example/ramp99/ramp99/service/replay/NumberSet", "add", "(I)V"⟩ : MethodName) prog_129_method_5_code 3 none :: ws) ({ frames := 2, cells := 2, slots := 518, locals := 55 } : Room)) (fun a U => a = #[(.ref a1), (.int p1)] ∧ Z.Warmed39 U.vm ∧ U.heap = h0) (fun _ _ _ _ _ => True) (fun _ U o U' => ∃ v L, o = .returned v ∧ own_Qa1 Z a1 mA hA z fm fh M H S p1 n h0 n0 v U'.heap L ∧ FrameEnd U o U' L ({ frames := 2, cells := 2, slots := 518, locals := 55 } : Room).cells ({ frames := 2, cells := 2, slots := 518, locals := 55 } : Room).slots) := by
  refine MetFree.of_bodySF (plainFor_of_name own_pn1) hisR ?_
  intro p e s m args below meth c s₁ Bd hml0 hP hK
  obtain ⟨rfl, hZ, hh⟩ := hP
  have hx := Bd.exec
  have hby := Bd.bytes
  have hml : c.maxLocals = 3 := hml0
  have hown : s.vm.findClass "com/example/ramp99/ramp99/service/replay/NumberSet" = some m.cls := findClass_of_methodNamed Bd.named
  have hnm := (name_of_methodNamed Bd.named Bd.method).1
  have X0 : Stand p l e ({ frames := 2, cells := 2, slots := 518, locals := 55 } : Room) s m #[(.ref a1), (.int p1)] below meth c s₁ [] 0 0 := Stand.of_body Bd
  have e0 : s₁.heap = h0 := by rw [← hh, Bd.state]; rfl
  have N0 := Fr.nil n0
  refine own_nm (st := s₁.setTop (entryFrame m #[(.ref a1), (.int p1)] 3)) fun P fin => ?_
  refine own_fwd (fun tt kt => castTop (own_efa1 m a1 p1) kt) ?_
  show own_R p.tables e below P (s₁.setTop (mkF m 0 #[.val (.ref a1), .val (.int p1), .unset] []))
  have K0 := Keep.refl h0 [a1, mA, hA]
  have hw6 := own_sh6 hp
  have H4 := pI.2.2.2
  refine own_fwd (fun tt kt => XS.iloadN X0.here hx rfl (hb hby own_d3_0) rfl kt) ?_
  show own_R p.tables e below P (s₁.setTop (mkF m 1 #[.val (.ref a1), .val (.int p1), .unset] [(.int p1)]))
  refine own_fwd (fun tt kt => XS.bipush X0.here hx rfl (hb hby own_d3_1) kt) ?_
  show own_R p.tables e below P (s₁.setTop (mkF m 3 #[.val (.ref a1), .val (.int p1), .unset] [(.int (6 : Int32)), (.int p1)]))
  refine own_fwd (fun tt kt => XS.iushr X0.here hx rfl (hb hby own_d3_3) rfl kt) ?_
  show own_R p.tables e below P (s₁.setTop (mkF m 4 #[.val (.ref a1), .val (.int p1), .unset] [(.int ((p1.toUInt32 >>> ((6 : Int32) &&& 31).toUInt32).toInt32))]))
  obtain ⟨wv, hg_wv⟩ : ∃ z, ((p1.toUInt32 >>> ((6 : Int32) &&& 31).toUInt32).toInt32) = z := ⟨_, rfl⟩
  rw [hg_wv]
  show own_R p.tables e below P (s₁.setTop (mkF m 4 #[.val (.ref a1), .val (.int p1), .unset] [(.int wv)]))
  rw [hg_wv] at hw6
  have lM : M.toInt32.toInt = (M : Int) := len_toInt pM.bd
  refine own_fwd (fun tt kt => XS.istoreN X0.here hx rfl (hb hby own_d3_4) rfl (l' := #[.val (.ref a1), .val (.int p1), .val (.int wv)]) rfl kt) ?_
  show own_R p.tables e below P (s₁.setTop (mkF m 5 #[.val (.ref a1), .val (.int p1), .val (.int wv)] []))
  refine own_fwd (fun tt kt => XS.iloadN X0.here hx rfl (hb hby own_d3_5) rfl kt) ?_
  show own_R p.tables e below P (s₁.setTop (mkF m 6 #[.val (.ref a1), .val (.int p1), .val (.int wv)] [(.int wv)]))
  refine own_fwd (fun tt kt => XS.aloadN X0.here hx rfl (hb hby own_d3_6) rfl rfl kt) ?_
  show own_R p.tables e below P (s₁.setTop (mkF m 7 #[.val (.ref a1), .val (.int p1), .val (.int wv)] [(.ref a1), (.int wv)]))
  obtain ⟨T46, X46, e46, st46⟩ := getF X0 hx hZ hown (host := "") (Or.inl (hw _ (List.mem_of_getElem? (i := 10) rfl))) Via.refl e0 pF1 (g := (mkF m 7 #[.val (.ref a1), .val (.int p1), .val (.int wv)] [(.ref a1), (.int wv)])) rfl rfl (hb hby own_d3_7)
  refine own_fwd st46 ?_
  show own_R p.tables e below P (T46.setTop (mkF m 10 #[.val (.ref a1), .val (.int p1), .val (.int wv)] [(.ref mA), (.int wv)]))
  refine own_fwd (own_len X46 hx hZ e46 pM M.toInt32 (len_toInt pM.bd) (g := (mkF m 10 #[.val (.ref a1), .val (.int p1), .val (.int wv)] [(.ref mA), (.int wv)])) rfl rfl (hb hby own_d3_10)) ?_
  show own_R p.tables e below P (T46.setTop (mkF m 11 #[.val (.ref a1), .val (.int p1), .val (.int wv)] [(.int M.toInt32), (.int wv)]))
  by_cases hc47 : wv < M.toInt32
  · refine own_fwd (fun tt kt => XS.icmpYes X46.here hx rfl (pc0 := 11) (pc' := 60) rfl (hb hby own_d3_11) rfl (tlt hc47).1 (by decide) (by decide) kt) ?_
    show own_R p.tables e below P (T46.setTop (mkF m 60 #[.val (.ref a1), .val (.int p1), .val (.int wv)] []))
    have hcw := hc47
    rw [Int32.lt_iff_toInt_lt, hw6, lM] at hcw
    have I0 := pI
    have hnM : n / 64 < M := by omega
    refine own_fwd (fun tt kt => XS.aloadN X46.here hx rfl (hb hby own_d3_60) rfl rfl kt) ?_
    show own_R p.tables e below P (T46.setTop (mkF m 61 #[.val (.ref a1), .val (.int p1), .val (.int wv)] [(.ref a1)]))
    obtain ⟨T48, X48, e48, st48⟩ := getF X46 hx hZ hown (host := "") (Or.inl (hw _ (List.mem_of_getElem? (i := 10) rfl))) Via.refl e46 pF1 (g := (mkF m 61 #[.val (.ref a1), .val (.int p1), .val (.int wv)] [(.ref a1)])) rfl rfl (hb hby own_d3_61)
    refine own_fwd st48 ?_
    show own_R p.tables e below P (T48.setTop (mkF m 64 #[.val (.ref a1), .val (.int p1), .val (.int wv)] [(.ref mA)]))
    refine own_fwd (fun tt kt => XS.iloadN X48.here hx rfl (hb hby own_d3_64) rfl kt) ?_
    show own_R p.tables e below P (T48.setTop (mkF m 65 #[.val (.ref a1), .val (.int p1), .val (.int wv)] [(.int wv), (.ref mA)]))
    refine own_fwd (fun tt kt => XT.dup2 X48.here hx rfl (hb hby own_d3_65) rfl rfl rfl kt) ?_
    show own_R p.tables e below P (T48.setTop (mkF m 66 #[.val (.ref a1), .val (.int p1), .val (.int wv)] [(.int wv), (.ref mA), (.int wv), (.ref mA)]))
    refine own_fwd (own_ldJ X48 hx hZ e48 pM (j := wv) (n / 64) hw6 hnM (g := (mkF m 66 #[.val (.ref a1), .val (.int p1), .val (.int wv)] [(.int wv), (.ref mA), (.int wv), (.ref mA)])) rfl rfl (hb hby own_d3_66)) ?_
    show own_R p.tables e below P (T48.setTop (mkF m 67 #[.val (.ref a1), .val (.int p1), .val (.int wv)] [(.long (fm (n / 64))), (.int wv), (.ref mA)]))
    refine own_fwd (fun tt kt => XS.lconst X48.here hx rfl (hb hby own_d3_67) kt) ?_
    show own_R p.tables e below P (T48.setTop (mkF m 68 #[.val (.ref a1), .val (.int p1), .val (.int wv)] [(.long (1 : Int64)), (.long (fm (n / 64))), (.int wv), (.ref mA)]))
    refine own_fwd (fun tt kt => XS.iloadN X48.here hx rfl (hb hby own_d3_68) rfl kt) ?_
    show own_R p.tables e below P (T48.setTop (mkF m 69 #[.val (.ref a1), .val (.int p1), .val (.int wv)] [(.int p1), (.long (1 : Int64)), (.long (fm (n / 64))), (.int wv), (.ref mA)]))
    refine own_fwd (fun tt kt => XS.lshl X48.here hx rfl (hb hby own_d3_69) rfl kt) ?_
    show own_R p.tables e below P (T48.setTop (mkF m 70 #[.val (.ref a1), .val (.int p1), .val (.int wv)] [(.long ((1 : Int64) <<< (p1 &&& 0x3f).toInt64)), (.long (fm (n / 64))), (.int wv), (.ref mA)]))
    refine own_fwd (fun tt kt => XS.lor X48.here hx rfl (hb hby own_d3_70) rfl kt) ?_
    show own_R p.tables e below P (T48.setTop (mkF m 71 #[.val (.ref a1), .val (.int p1), .val (.int wv)] [(.long ((fm (n / 64)) ||| ((1 : Int64) <<< (p1 &&& 0x3f).toInt64))), (.int wv), (.ref mA)]))
    obtain ⟨T49, h49, X49, e49, W49, A49_, st49⟩ := own_stJ X48 hx hZ e48 pM (j := wv) (n / 64) hw6 hnM (g := (mkF m 71 #[.val (.ref a1), .val (.int p1), .val (.int wv)] [(.long ((fm (n / 64)) ||| ((1 : Int64) <<< (p1 &&& 0x3f).toInt64))), (.int wv), (.ref mA)])) rfl rfl (hb hby own_d3_71)
    have pE_x49 := pE.wr W49
    have pF1_x49 := pF1.other W49 (Or.inl n1)
    have pF2_x49 := pF2.other W49 (Or.inl n1)
    have pF3_x49 := pF3.other W49 (Or.inl n1)
    have pH_x49 := pH.other W49 (Ne.symm n3)
    have pEm_x49 := pEm.wr W49
    have pEh_x49 := pEh.wr W49
    have N49 := Fr.snoc X49 N0 pgm
    have Z49 : n0 ≤ h49.size := by rw [W49.size]; exact Z0
    have K49 := K0.wr W49 (Or.inl (List.mem_of_getElem? (i := 1) rfl))
    have Y49 : h0.size ≤ h49.size := by rw [W49.size]; exact (Nat.le_refl h0.size)
    refine own_fwd st49 ?_
    show own_R p.tables e below P (T49.setTop (mkF m 72 #[.val (.ref a1), .val (.int p1), .val (.int wv)] []))
    refine own_fwd (fun tt kt => XS.aloadN X49.here hx rfl (hb hby own_d3_72) rfl rfl kt) ?_
    show own_R p.tables e below P (T49.setTop (mkF m 73 #[.val (.ref a1), .val (.int p1), .val (.int wv)] [(.ref a1)]))
    obtain ⟨T50, X50, e50, st50⟩ := getF X49 hx hZ hown (host := "") (Or.inl (hw _ (List.mem_of_getElem? (i := 12) rfl))) Via.refl e49 pF2_x49 (g := (mkF m 73 #[.val (.ref a1), .val (.int p1), .val (.int wv)] [(.ref a1)])) rfl rfl (hb hby own_d3_73)
    refine own_fwd st50 ?_
    show own_R p.tables e below P (T50.setTop (mkF m 76 #[.val (.ref a1), .val (.int p1), .val (.int wv)] [(.ref hA)]))
    refine own_fwd (fun tt kt => XS.iloadN X50.here hx rfl (hb hby own_d3_76) rfl kt) ?_
    show own_R p.tables e below P (T50.setTop (mkF m 77 #[.val (.ref a1), .val (.int p1), .val (.int wv)] [(.int wv), (.ref hA)]))
    refine own_fwd (fun tt kt => XS.bipush X50.here hx rfl (hb hby own_d3_77) kt) ?_
    show own_R p.tables e below P (T50.setTop (mkF m 79 #[.val (.ref a1), .val (.int p1), .val (.int wv)] [(.int (6 : Int32)), (.int wv), (.ref hA)]))
    refine own_fwd (fun tt kt => XS.iushr X50.here hx rfl (hb hby own_d3_79) rfl kt) ?_
    show own_R p.tables e below P (T50.setTop (mkF m 80 #[.val (.ref a1), .val (.int p1), .val (.int wv)] [(.int ((wv.toUInt32 >>> ((6 : Int32) &&& 31).toUInt32).toInt32)), (.ref hA)]))
    refine own_fwd (fun tt kt => XT.dup2 X50.here hx rfl (hb hby own_d3_80) rfl rfl rfl kt) ?_
    show own_R p.tables e below P (T50.setTop (mkF m 81 #[.val (.ref a1), .val (.int p1), .val (.int wv)] [(.int ((wv.toUInt32 >>> ((6 : Int32) &&& 31).toUInt32).toInt32)), (.ref hA), (.int ((wv.toUInt32 >>> ((6 : Int32) &&& 31).toUInt32).toInt32)), (.ref hA)]))
    refine own_fwd (own_ldJ X50 hx hZ e50 pH_x49 (j := ((wv.toUInt32 >>> ((6 : Int32) &&& 31).toUInt32).toInt32)) (n / 64 / 64) (own_sh6 hw6) (by omega) (g := (mkF m 81 #[.val (.ref a1), .val (.int p1), .val (.int wv)] [(.int ((wv.toUInt32 >>> ((6 : Int32) &&& 31).toUInt32).toInt32)), (.ref hA), (.int ((wv.toUInt32 >>> ((6 : Int32) &&& 31).toUInt32).toInt32)), (.ref hA)])) rfl rfl (hb hby own_d3_81)) ?_
    show own_R p.tables e below P (T50.setTop (mkF m 82 #[.val (.ref a1), .val (.int p1), .val (.int wv)] [(.long (fh (n / 64 / 64))), (.int ((wv.toUInt32 >>> ((6 : Int32) &&& 31).toUInt32).toInt32)), (.ref hA)]))
    refine own_fwd (fun tt kt => XS.lconst X50.here hx rfl (hb hby own_d3_82) kt) ?_
    show own_R p.tables e below P (T50.setTop (mkF m 83 #[.val (.ref a1), .val (.int p1), .val (.int wv)] [(.long (1 : Int64)), (.long (fh (n / 64 / 64))), (.int ((wv.toUInt32 >>> ((6 : Int32) &&& 31).toUInt32).toInt32)), (.ref hA)]))
    refine own_fwd (fun tt kt => XS.iloadN X50.here hx rfl (hb hby own_d3_83) rfl kt) ?_
    show own_R p.tables e below P (T50.setTop (mkF m 84 #[.val (.ref a1), .val (.int p1), .val (.int wv)] [(.int wv), (.long (1 : Int64)), (.long (fh (n / 64 / 64))), (.int ((wv.toUInt32 >>> ((6 : Int32) &&& 31).toUInt32).toInt32)), (.ref hA)]))
    refine own_fwd (fun tt kt => XS.lshl X50.here hx rfl (hb hby own_d3_84) rfl kt) ?_
    show own_R p.tables e below P (T50.setTop (mkF m 85 #[.val (.ref a1), .val (.int p1), .val (.int wv)] [(.long ((1 : Int64) <<< (wv &&& 0x3f).toInt64)), (.long (fh (n / 64 / 64))), (.int ((wv.toUInt32 >>> ((6 : Int32) &&& 31).toUInt32).toInt32)), (.ref hA)]))
    refine own_fwd (fun tt kt => XS.lor X50.here hx rfl (hb hby own_d3_85) rfl kt) ?_
    show own_R p.tables e below P (T50.setTop (mkF m 86 #[.val (.ref a1), .val (.int p1), .val (.int wv)] [(.long ((fh (n / 64 / 64)) ||| ((1 : Int64) <<< (wv &&& 0x3f).toInt64))), (.int ((wv.toUInt32 >>> ((6 : Int32) &&& 31).toUInt32).toInt32)), (.ref hA)]))
    obtain ⟨T51, h51, X51, e51, W51, A51_, st51⟩ := own_stJ X50 hx hZ e50 pH_x49 (j := ((wv.toUInt32 >>> ((6 : Int32) &&& 31).toUInt32).toInt32)) (n / 64 / 64) (own_sh6 hw6) (by omega) (g := (mkF m 86 #[.val (.ref a1), .val (.int p1), .val (.int wv)] [(.long ((fh (n / 64 / 64)) ||| ((1 : Int64) <<< (wv &&& 0x3f).toInt64))), (.int ((wv.toUInt32 >>> ((6 : Int32) &&& 31).toUInt32).toInt32)), (.ref hA)])) rfl rfl (hb hby own_d3_86)
    have pE_x51 := pE_x49.wr W51
    have pF1_x51 := pF1_x49.other W51 (Or.inl n2)
    have pF2_x51 := pF2_x49.other W51 (Or.inl n2)
    have pF3_x51 := pF3_x49.other W51 (Or.inl n2)
    have A49__x51 := A49_.other W51 n3
    have pEm_x51 := pEm_x49.wr W51
    have pEh_x51 := pEh_x49.wr W51
    have N51 := Fr.snoc X51 N49 pgh
    have Z51 : n0 ≤ h51.size := by rw [W51.size]; exact Z49
    have K51 := K49.wr W51 (Or.inl (List.mem_of_getElem? (i := 2) rfl))
    have Y51 : h0.size ≤ h51.size := by rw [W51.size]; exact Y49
    refine own_fwd st51 ?_
    show own_R p.tables e below P (T51.setTop (mkF m 87 #[.val (.ref a1), .val (.int p1), .val (.int wv)] []))
    refine own_fwd (fun tt kt => XS.aloadN X51.here hx rfl (hb hby own_d3_87) rfl rfl kt) ?_
    show own_R p.tables e below P (T51.setTop (mkF m 88 #[.val (.ref a1), .val (.int p1), .val (.int wv)] [(.ref a1)]))
    refine own_fwd (fun tt kt => XS.dup X51.here hx rfl (hb hby own_d3_88) rfl rfl kt) ?_
    show own_R p.tables e below P (T51.setTop (mkF m 89 #[.val (.ref a1), .val (.int p1), .val (.int wv)] [(.ref a1), (.ref a1)]))
    obtain ⟨T52, X52, e52, st52⟩ := getF X51 hx hZ hown (host := "") (Or.inl (hw _ (List.mem_of_getElem? (i := 19) rfl))) Via.refl e51 pF3_x51 (g := (mkF m 89 #[.val (.ref a1), .val (.int p1), .val (.int wv)] [(.ref a1), (.ref a1)])) rfl rfl (hb hby own_d3_89)
    refine own_fwd st52 ?_
    show own_R p.tables e below P (T52.setTop (mkF m 92 #[.val (.ref a1), .val (.int p1), .val (.int wv)] [(.int z), (.ref a1)]))
    refine own_fwd (fun tt kt => XS.iconst X52.here hx rfl (hb hby own_d3_92) kt) ?_
    show own_R p.tables e below P (T52.setTop (mkF m 93 #[.val (.ref a1), .val (.int p1), .val (.int wv)] [(.int (1 : Int32)), (.int z), (.ref a1)]))
    refine own_fwd (fun tt kt => XS.iadd X52.here hx rfl (hb hby own_d3_93) rfl kt) ?_
    show own_R p.tables e below P (T52.setTop (mkF m 94 #[.val (.ref a1), .val (.int p1), .val (.int wv)] [(.int (z + (1 : Int32))), (.ref a1)]))
    obtain ⟨T53, h53, X53, e53, W53, st53⟩ := putF X52 hx hZ hown (host := "") (Or.inl (hw _ (List.mem_of_getElem? (i := 19) rfl))) Via.refl e52 pF3_x51 pE_x51 (Or.inl (hw _ (List.mem_of_getElem? (i := 20) rfl))) (hw _ (List.mem_of_getElem? (i := 1) rfl)) (ty := .int) (by decide) rfl rfl (g := (mkF m 94 #[.val (.ref a1), .val (.int p1), .val (.int wv)] [(.int (z + (1 : Int32))), (.ref a1)])) rfl rfl (hb hby own_d3_94)
    have F53_ := pF3_x51.same W53
    have pE_x53 := pE_x51.wr W53
    have pF1_x53 := pF1_x51.other W53 (Or.inr (slot_ne (Or.inl (hw _ (List.mem_of_getElem? (i := 11) rfl))) (Or.inl (hw _ (List.mem_of_getElem? (i := 20) rfl))) (by decide) (t := (.array .long)) (t' := .int) (by decide) (by decide)))
    have pF2_x53 := pF2_x51.other W53 (Or.inr (slot_ne (Or.inl (hw _ (List.mem_of_getElem? (i := 13) rfl))) (Or.inl (hw _ (List.mem_of_getElem? (i := 20) rfl))) (by decide) (t := (.array .long)) (t' := .int) (by decide) (by decide)))
    have A49__x53 := A49__x51.other W53 (Ne.symm n1)
    have A51__x53 := A51_.other W53 (Ne.symm n2)
    have pEm_x53 := pEm_x51.wr W53
    have pEh_x53 := pEh_x51.wr W53
    have N53 := Fr.snoc X53 N51 pg
    have Z53 : n0 ≤ h53.size := by rw [W53.size]; exact Z51
    have K53 := K51.wr W53 (Or.inl (List.mem_of_getElem? (i := 0) rfl))
    have Y53 : h0.size ≤ h53.size := by rw [W53.size]; exact Y51
    refine own_fwd st53 ?_
    show own_R p.tables e below P (T53.setTop (mkF m 97 #[.val (.ref a1), .val (.int p1), .val (.int wv)] []))
    obtain ⟨fs54, hr54, hrun54, hended54, hW54, hsame54⟩ := X53.leave (v := none) (fun _ => rfl)
    refine ⟨_, _, X53.returnOut hx Bd.returns (hb hby own_d3_97) hr54, fin _ _ ⟨hrun54, hended54, _, _, rfl, ?_, ⟨_, rfl⟩, hW54, hsame54.mono (by decide) (by decide)⟩⟩
    show own_Qa1 Z a1 mA hA z fm fh M H S p1 n h0 n0 _ T53.heap _
    rw [e53]
    exact ⟨rfl, N53, K53, mA, hA, M, H, _, _, pgm, pgh, n1, n2, n3, Or.inl rfl, Or.inl rfl, I0.add hnM (own_tb_one hp) (own_tb_one hw6), by omega, pE_x53, pF1_x53, pF2_x53, F53_, A49__x53, A51__x53, pEm_x53, pEh_x53⟩
  · refine own_fwd (fun tt kt => XS.icmpNo X46.here hx rfl (hb hby own_d3_11) rfl (flt hc47).1 kt) ?_
    show own_R p.tables e below P (T46.setTop (mkF m 14 #[.val (.ref a1), .val (.int p1), .val (.int wv)] []))
    have hcw := hc47
    rw [Int32.lt_iff_toInt_lt, hw6, lM] at hcw
    refine own_fwd (fun tt kt => XS.aloadN X46.here hx rfl (hb hby own_d3_14) rfl rfl kt) ?_
    show own_R p.tables e below P (T46.setTop (mkF m 15 #[.val (.ref a1), .val (.int p1), .val (.int wv)] [(.ref a1)]))
    refine own_fwd (fun tt kt => XS.aloadN X46.here hx rfl (hb hby own_d3_15) rfl rfl kt) ?_
    show own_R p.tables e below P (T46.setTop (mkF m 16 #[.val (.ref a1), .val (.int p1), .val (.int wv)] [(.ref a1), (.ref a1)]))
    obtain ⟨T55, X55, e55, st55⟩ := getF X46 hx hZ hown (host := "") (Or.inl (hw _ (List.mem_of_getElem? (i := 10) rfl))) Via.refl e46 pF1 (g := (mkF m 16 #[.val (.ref a1), .val (.int p1), .val (.int wv)] [(.ref a1), (.ref a1)])) rfl rfl (hb hby own_d3_16)
    refine own_fwd st55 ?_
    show own_R p.tables e below P (T55.setTop (mkF m 19 #[.val (.ref a1), .val (.int p1), .val (.int wv)] [(.ref mA), (.ref a1)]))
    refine own_fwd (fun tt kt => XS.iconst X55.here hx rfl (hb hby own_d3_19) kt) ?_
    show own_R p.tables e below P (T55.setTop (mkF m 20 #[.val (.ref a1), .val (.int p1), .val (.int wv)] [(.int (2 : Int32)), (.ref mA), (.ref a1)]))
    refine own_fwd (fun tt kt => XS.aloadN X55.here hx rfl (hb hby own_d3_20) rfl rfl kt) ?_
    show own_R p.tables e below P (T55.setTop (mkF m 21 #[.val (.ref a1), .val (.int p1), .val (.int wv)] [(.ref a1), (.int (2 : Int32)), (.ref mA), (.ref a1)]))
    obtain ⟨T56, X56, e56, st56⟩ := getF X55 hx hZ hown (host := "") (Or.inl (hw _ (List.mem_of_getElem? (i := 10) rfl))) Via.refl e55 pF1 (g := (mkF m 21 #[.val (.ref a1), .val (.int p1), .val (.int wv)] [(.ref a1), (.int (2 : Int32)), (.ref mA), (.ref a1)])) rfl rfl (hb hby own_d3_21)
    refine own_fwd st56 ?_
    show own_R p.tables e below P (T56.setTop (mkF m 24 #[.val (.ref a1), .val (.int p1), .val (.int wv)] [(.ref mA), (.int (2 : Int32)), (.ref mA), (.ref a1)]))
    refine own_fwd (own_len X56 hx hZ e56 pM M.toInt32 (len_toInt pM.bd) (g := (mkF m 24 #[.val (.ref a1), .val (.int p1), .val (.int wv)] [(.ref mA), (.int (2 : Int32)), (.ref mA), (.ref a1)])) rfl rfl (hb hby own_d3_24)) ?_
    show own_R p.tables e below P (T56.setTop (mkF m 25 #[.val (.ref a1), .val (.int p1), .val (.int wv)] [(.int M.toInt32), (.int (2 : Int32)), (.ref mA), (.ref a1)]))
    refine own_fwd (fun tt kt => XS.imul X56.here hx rfl (hb hby own_d3_25) rfl kt) ?_
    show own_R p.tables e below P (T56.setTop (mkF m 26 #[.val (.ref a1), .val (.int p1), .val (.int wv)] [(.int ((2 : Int32) * M.toInt32)), (.ref mA), (.ref a1)]))
    refine own_fwd (fun tt kt => XS.iloadN X56.here hx rfl (hb hby own_d3_26) rfl kt) ?_
    show own_R p.tables e below P (T56.setTop (mkF m 27 #[.val (.ref a1), .val (.int p1), .val (.int wv)] [(.int wv), (.int ((2 : Int32) * M.toInt32)), (.ref mA), (.ref a1)]))
    refine own_fwd (fun tt kt => XS.iconst X56.here hx rfl (hb hby own_d3_27) kt) ?_
    show own_R p.tables e below P (T56.setTop (mkF m 28 #[.val (.ref a1), .val (.int p1), .val (.int wv)] [(.int (1 : Int32)), (.int wv), (.int ((2 : Int32) * M.toInt32)), (.ref mA), (.ref a1)]))
    refine own_fwd (fun tt kt => XS.iadd X56.here hx rfl (hb hby own_d3_28) rfl kt) ?_
    show own_R p.tables e below P (T56.setTop (mkF m 29 #[.val (.ref a1), .val (.int p1), .val (.int wv)] [(.int (wv + (1 : Int32))), (.int ((2 : Int32) * M.toInt32)), (.ref mA), (.ref a1)]))
    obtain ⟨_, _, ⟨T57, L57, k57, n57⟩, -, X57, ⟨Lc57, hQ57, l57, y57, z57⟩, st57⟩ := Jvm.LawKit.callS X56 hx (y := (⟨"java/lang/Math", "max", "(II)I"⟩ : MethodName)) hown (mvT hZ (hw _ (List.mem_of_getElem? (i := 64) rfl))) (mvT hZ (hw _ (List.mem_of_getElem? (i := 65) rfl))) (mvT hZ (hw _ (List.mem_of_getElem? (i := 66) rfl))) (mvT hZ (hw _ (List.mem_of_getElem? (i := 67) rfl))) (by decide) (backOf (W := 2) (own_rm13 l Z a0 hw [] ((2 : Int32) * M.toInt32) (wv + (1 : Int32)) h0 n0 Z0 ) hZ (hw _ (List.mem_of_getElem? (i := 67) rfl)) (hw _ (List.mem_of_getElem? (i := 66) rfl)) (by decide) (by decide)) (g := (mkF m 29 #[.val (.ref a1), .val (.int p1), .val (.int wv)] [(.int (wv + (1 : Int32))), (.int ((2 : Int32) * M.toInt32)), (.ref mA), (.ref a1)])) rfl (by rw [hml]; rfl) (argsL := [(.int ((2 : Int32) * M.toInt32)), (.int (wv + (1 : Int32)))]) (rest := [(.ref mA), (.ref a1)]) (lenOf own_pd0 rfl) rfl (by show 2 * 0 + _ ≤ _; exact Nat.le_of_eq rfl) (hb hby own_d3_29) (fun _ _ => ⟨rfl, e56, (by decide : 0 + 0 ≤ _), (by decide : 0 + 0 ≤ _)⟩)
    dsimp only [Pt.U, Pt.locs, Pt.cells, Pt.slots] at X57 l57 y57 z57 st57 hQ57
    rw [l57, (show k57 = 0 from y57), (show n57 = 0 from z57)] at X57
    obtain ⟨h57, e57⟩ : ∃ z, T57.heap = z := ⟨_, rfl⟩
    rw [e57] at hQ57
    obtain ⟨hq57, N57q, q57⟩ := hQ57
    rw [q57] at e57
    rw [hq57] at st57
    have N57 := Fr.app N0 N57q
    refine own_fwd st57 ?_
    show own_R p.tables e below P (T57.setTop (mkF m 32 #[.val (.ref a1), .val (.int p1), .val (.int wv)] [(.int (if ((2 : Int32) * M.toInt32) < (wv + (1 : Int32)) then (wv + (1 : Int32)) else ((2 : Int32) * M.toInt32))), (.ref mA), (.ref a1)]))
    obtain ⟨mx, hmx⟩ : ∃ q, (if ((2 : Int32) * M.toInt32) < (wv + (1 : Int32)) then (wv + (1 : Int32)) else ((2 : Int32) * M.toInt32)) = q := ⟨_, rfl⟩
    rw [hmx]
    show own_R p.tables e below P (T57.setTop (mkF m 32 #[.val (.ref a1), .val (.int p1), .val (.int wv)] [(.int mx), (.ref mA), (.ref a1)]))
    obtain ⟨M', hM', bM1, bM2, bM3⟩ : ∃ M' : Nat, mx.toInt = (M' : Int) ∧ M < M' ∧ n / 64 < M' ∧ M' ≤ 510 := by
      have a1 := c_imul 2 M.toInt32
      have r1 := rng32 ((2 : Int32) * M.toInt32)
      rw [lM, show (2 : Int32).toInt = 2 from rfl] at a1
      have a2 := own_addn (j := 1) hw6 own_i1 (by omega)
      rw [← hmx]
      split <;> rename_i q <;> rw [Int32.lt_iff_toInt_lt] at q
      · exact ⟨n / 64 + 1, a2, by omega, by omega, by omega⟩
      · exact ⟨2 * M, by omega, by omega, by omega, by omega⟩
    obtain ⟨_, _, ⟨T58, L58, k58, n58⟩, -, X58, ⟨Lc58, hQ58, l58, y58, z58⟩, st58⟩ := Jvm.LawKit.callS X57 hx (y := (⟨"java/util/Arrays", "copyOf", "([JI)[J"⟩ : MethodName)) hown (mvT hZ (hw _ (List.mem_of_getElem? (i := 68) rfl))) (mvT hZ (hw _ (List.mem_of_getElem? (i := 69) rfl))) (mvT hZ (hw _ (List.mem_of_getElem? (i := 70) rfl))) (mvT hZ (hw _ (List.mem_of_getElem? (i := 71) rfl))) (by decide) (backOf (W := 1) (own_rmcp510 l Z a0 hw [] mA mx fm M M' h0 n0 Z0 pM pEm hM' (by omega) (by omega)) hZ (hw _ (List.mem_of_getElem? (i := 71) rfl)) (hw _ (List.mem_of_getElem? (i := 70) rfl)) (by decide) (by decide)) (g := (mkF m 32 #[.val (.ref a1), .val (.int p1), .val (.int wv)] [(.int mx), (.ref mA), (.ref a1)])) rfl (by rw [hml]; rfl) (argsL := [(.ref mA), (.int mx)]) (rest := [(.ref a1)]) (lenOf own_pd1 rfl) rfl (by show 2 * 0 + _ ≤ _; exact Nat.le_of_eq rfl) (hb hby own_d3_32) (fun _ _ => ⟨rfl, e57, (by decide : 0 + 1 ≤ _), (by decide : 0 + 510 ≤ _)⟩)
    dsimp only [Pt.U, Pt.locs, Pt.cells, Pt.slots] at X58 l58 y58 z58 st58 hQ58
    rw [l58, (show k58 = 1 from y58), (show n58 = 510 from z58)] at X58
    obtain ⟨h58, e58⟩ : ∃ z, T58.heap = z := ⟨_, rfl⟩
    rw [e58] at hQ58
    obtain ⟨o58, hq58, N58q, ge_o58, sz_o58, K58, A58_, B58_⟩ := hQ58
    rw [hq58] at st58
    have N58 := Fr.app N57 N58q
    have ne58_a1 : a1 ≠ o58 := Nat.ne_of_lt (Nat.lt_of_lt_of_le pE.lt sz_o58)
    have ne58_mA : mA ≠ o58 := Nat.ne_of_lt (Nat.lt_of_lt_of_le pM.lt sz_o58)
    have ne58_hA : hA ≠ o58 := Nat.ne_of_lt (Nat.lt_of_lt_of_le pH.lt sz_o58)
    have sz0_o58 : h0.size ≤ o58 := Nat.le_trans (Nat.le_refl h0.size) sz_o58
    have sz_o58 := sz0_o58
    have pE_x58 := pE.keep K58
    have pF1_x58 := pF1.keep K58 nin0
    have pF2_x58 := pF2.keep K58 nin0
    have pF3_x58 := pF3.keep K58 nin0
    have pM_x58 := pM.keep K58 nin0
    have pH_x58 := pH.keep K58 nin0
    have pEm_x58 := pEm.keep K58
    have pEh_x58 := pEh.keep K58
    have Z58 : n0 ≤ h58.size := Nat.le_trans Z0 K58.1
    have KK58 := K0.trans K58 all0
    have Y58 : h0.size ≤ h58.size := Nat.le_trans (Nat.le_refl h0.size) K58.1
    refine own_fwd st58 ?_
    show own_R p.tables e below P (T58.setTop (mkF m 35 #[.val (.ref a1), .val (.int p1), .val (.int wv)] [(.ref o58), (.ref a1)]))
    obtain ⟨T59, h59, X59, e59, W59, st59⟩ := putF X58 hx hZ hown (host := "") (Or.inl (hw _ (List.mem_of_getElem? (i := 10) rfl))) Via.refl e58 pF1_x58 pE_x58 (Or.inl (hw _ (List.mem_of_getElem? (i := 11) rfl))) (hw _ (List.mem_of_getElem? (i := 1) rfl)) (ty := (.array .long)) (by decide) rfl rfl (g := (mkF m 35 #[.val (.ref a1), .val (.int p1), .val (.int wv)] [(.ref o58), (.ref a1)])) rfl rfl (hb hby own_d3_35)
    have F59_ := pF1_x58.same W59
    have pE_x59 := pE_x58.wr W59
    have pF2_x59 := pF2_x58.other W59 (Or.inr (slot_ne (Or.inl (hw _ (List.mem_of_getElem? (i := 13) rfl))) (Or.inl (hw _ (List.mem_of_getElem? (i := 11) rfl))) (by decide) (t := (.array .long)) (t' := (.array .long)) (by decide) (by decide)))
    have pF3_x59 := pF3_x58.other W59 (Or.inr (slot_ne (Or.inl (hw _ (List.mem_of_getElem? (i := 20) rfl))) (Or.inl (hw _ (List.mem_of_getElem? (i := 11) rfl))) (by decide) (t := .int) (t' := (.array .long)) (by decide) (by decide)))
    have pM_x59 := pM_x58.other W59 (Ne.symm n1)
    have pH_x59 := pH_x58.other W59 (Ne.symm n2)
    have pEm_x59 := pEm_x58.wr W59
    have pEh_x59 := pEh_x58.wr W59
    have A58__x59 := A58_.other W59 (Ne.symm ne58_a1)
    have B58__x59 := B58_.wr W59
    have N59 := Fr.snoc X59 N58 pg
    have Z59 : n0 ≤ h59.size := by rw [W59.size]; exact Z58
    have K59 := KK58.wr W59 (Or.inl (List.mem_of_getElem? (i := 0) rfl))
    have Y59 : h0.size ≤ h59.size := by rw [W59.size]; exact Y58
    refine own_fwd st59 ?_
    show own_R p.tables e below P (T59.setTop (mkF m 38 #[.val (.ref a1), .val (.int p1), .val (.int wv)] []))
    refine own_fwd (fun tt kt => XS.aloadN X59.here hx rfl (hb hby own_d3_38) rfl rfl kt) ?_
    show own_R p.tables e below P (T59.setTop (mkF m 39 #[.val (.ref a1), .val (.int p1), .val (.int wv)] [(.ref a1)]))
    refine own_fwd (fun tt kt => XS.aloadN X59.here hx rfl (hb hby own_d3_39) rfl rfl kt) ?_
    show own_R p.tables e below P (T59.setTop (mkF m 40 #[.val (.ref a1), .val (.int p1), .val (.int wv)] [(.ref a1), (.ref a1)]))
    obtain ⟨T60, X60, e60, st60⟩ := getF X59 hx hZ hown (host := "") (Or.inl (hw _ (List.mem_of_getElem? (i := 12) rfl))) Via.refl e59 pF2_x59 (g := (mkF m 40 #[.val (.ref a1), .val (.int p1), .val (.int wv)] [(.ref a1), (.ref a1)])) rfl rfl (hb hby own_d3_40)
    refine own_fwd st60 ?_
    show own_R p.tables e below P (T60.setTop (mkF m 43 #[.val (.ref a1), .val (.int p1), .val (.int wv)] [(.ref hA), (.ref a1)]))
    refine own_fwd (fun tt kt => XS.aloadN X60.here hx rfl (hb hby own_d3_43) rfl rfl kt) ?_
    show own_R p.tables e below P (T60.setTop (mkF m 44 #[.val (.ref a1), .val (.int p1), .val (.int wv)] [(.ref a1), (.ref hA), (.ref a1)]))
    obtain ⟨T61, X61, e61, st61⟩ := getF X60 hx hZ hown (host := "") (Or.inl (hw _ (List.mem_of_getElem? (i := 10) rfl))) Via.refl e60 F59_ (g := (mkF m 44 #[.val (.ref a1), .val (.int p1), .val (.int wv)] [(.ref a1), (.ref hA), (.ref a1)])) rfl rfl (hb hby own_d3_44)
    refine own_fwd st61 ?_
    show own_R p.tables e below P (T61.setTop (mkF m 47 #[.val (.ref a1), .val (.int p1), .val (.int wv)] [(.ref o58), (.ref hA), (.ref a1)]))
    refine own_fwd (own_len X61 hx hZ e61 A58__x59 M'.toInt32 (len_toInt (by omega)) (g := (mkF m 47 #[.val (.ref a1), .val (.int p1), .val (.int wv)] [(.ref o58), (.ref hA), (.ref a1)])) rfl rfl (hb hby own_d3_47)) ?_
    show own_R p.tables e below P (T61.setTop (mkF m 48 #[.val (.ref a1), .val (.int p1), .val (.int wv)] [(.int M'.toInt32), (.ref hA), (.ref a1)]))
    refine own_fwd (fun tt kt => XS.bipush X61.here hx rfl (hb hby own_d3_48) kt) ?_
    show own_R p.tables e below P (T61.setTop (mkF m 50 #[.val (.ref a1), .val (.int p1), .val (.int wv)] [(.int (63 : Int32)), (.int M'.toInt32), (.ref hA), (.ref a1)]))
    refine own_fwd (fun tt kt => XS.iadd X61.here hx rfl (hb hby own_d3_50) rfl kt) ?_
    show own_R p.tables e below P (T61.setTop (mkF m 51 #[.val (.ref a1), .val (.int p1), .val (.int wv)] [(.int (M'.toInt32 + (63 : Int32))), (.ref hA), (.ref a1)]))
    refine own_fwd (fun tt kt => XS.bipush X61.here hx rfl (hb hby own_d3_51) kt) ?_
    show own_R p.tables e below P (T61.setTop (mkF m 53 #[.val (.ref a1), .val (.int p1), .val (.int wv)] [(.int (6 : Int32)), (.int (M'.toInt32 + (63 : Int32))), (.ref hA), (.ref a1)]))
    refine own_fwd (fun tt kt => XS.iushr X61.here hx rfl (hb hby own_d3_53) rfl kt) ?_
    show own_R p.tables e below P (T61.setTop (mkF m 54 #[.val (.ref a1), .val (.int p1), .val (.int wv)] [(.int (((M'.toInt32 + (63 : Int32)).toUInt32 >>> ((6 : Int32) &&& 31).toUInt32).toInt32)), (.ref hA), (.ref a1)]))
    obtain ⟨_, _, ⟨T62, L62, k62, n62⟩, -, X62, ⟨Lc62, hQ62, l62, y62, z62⟩, st62⟩ := Jvm.LawKit.callS X61 hx (y := (⟨"java/util/Arrays", "copyOf", "([JI)[J"⟩ : MethodName)) hown (mvT hZ (hw _ (List.mem_of_getElem? (i := 68) rfl))) (mvT hZ (hw _ (List.mem_of_getElem? (i := 69) rfl))) (mvT hZ (hw _ (List.mem_of_getElem? (i := 70) rfl))) (mvT hZ (hw _ (List.mem_of_getElem? (i := 71) rfl))) (by decide) (backOf (W := 1) (own_rmcp8 l Z a0 hw [] hA (((M'.toInt32 + (63 : Int32)).toUInt32 >>> ((6 : Int32) &&& 31).toUInt32).toInt32) fh H ((M' + 63) / 64) h59 n0 Z59 pH_x59 pEh_x59 (own_sh6 (own_addn (i := M') (j := 63) (len_toInt (by omega)) rfl (by omega))) (by omega) (by omega)) hZ (hw _ (List.mem_of_getElem? (i := 71) rfl)) (hw _ (List.mem_of_getElem? (i := 70) rfl)) (by decide) (by decide)) (g := (mkF m 54 #[.val (.ref a1), .val (.int p1), .val (.int wv)] [(.int (((M'.toInt32 + (63 : Int32)).toUInt32 >>> ((6 : Int32) &&& 31).toUInt32).toInt32)), (.ref hA), (.ref a1)])) rfl (by rw [hml]; rfl) (argsL := [(.ref hA), (.int (((M'.toInt32 + (63 : Int32)).toUInt32 >>> ((6 : Int32) &&& 31).toUInt32).toInt32))]) (rest := [(.ref a1)]) (lenOf own_pd1 rfl) rfl (by show 2 * 0 + _ ≤ _; exact Nat.le_of_eq rfl) (hb hby own_d3_54) (fun _ _ => ⟨rfl, e61, (by decide : 1 + 1 ≤ _), (by decide : 510 + 8 ≤ _)⟩)
    dsimp only [Pt.U, Pt.locs, Pt.cells, Pt.slots] at X62 l62 y62 z62 st62 hQ62
    rw [l62, (show k62 = 2 from y62), (show n62 = 518 from z62)] at X62
    obtain ⟨h62, e62⟩ : ∃ z, T62.heap = z := ⟨_, rfl⟩
    rw [e62] at hQ62
    obtain ⟨o62, hq62, N62q, ge_o62, sz_o62, K62, A62_, B62_⟩ := hQ62
    rw [hq62] at st62
    have N62 := Fr.app N59 N62q
    have ne62_a1 : a1 ≠ o62 := Nat.ne_of_lt (Nat.lt_of_lt_of_le pE_x59.lt sz_o62)
    have ne62_mA : mA ≠ o62 := Nat.ne_of_lt (Nat.lt_of_lt_of_le pM_x59.lt sz_o62)
    have ne62_hA : hA ≠ o62 := Nat.ne_of_lt (Nat.lt_of_lt_of_le pH_x59.lt sz_o62)
    have ne62_o58 : o58 ≠ o62 := Nat.ne_of_lt (Nat.lt_of_lt_of_le A58__x59.lt sz_o62)
    have sz0_o62 : h0.size ≤ o62 := Nat.le_trans Y59 sz_o62
    have sz_o62 := sz0_o62
    have pE_x62 := pE_x59.keep K62
    have F59__x62 := F59_.keep K62 nin0
    have pF2_x62 := pF2_x59.keep K62 nin0
    have pF3_x62 := pF3_x59.keep K62 nin0
    have pM_x62 := pM_x59.keep K62 nin0
    have pH_x62 := pH_x59.keep K62 nin0
    have pEm_x62 := pEm_x59.keep K62
    have pEh_x62 := pEh_x59.keep K62
    have A58__x62 := A58__x59.keep K62 nin0
    have B58__x62 := B58__x59.keep K62
    have Z62 : n0 ≤ h62.size := Nat.le_trans Z59 K62.1
    have KK62 := K59.trans K62 all0
    have Y62 : h0.size ≤ h62.size := Nat.le_trans Y59 K62.1
    refine own_fwd st62 ?_
    show own_R p.tables e below P (T62.setTop (mkF m 57 #[.val (.ref a1), .val (.int p1), .val (.int wv)] [(.ref o62), (.ref a1)]))
    obtain ⟨T63, h63, X63, e63, W63, st63⟩ := putF X62 hx hZ hown (host := "") (Or.inl (hw _ (List.mem_of_getElem? (i := 12) rfl))) Via.refl e62 pF2_x62 pE_x62 (Or.inl (hw _ (List.mem_of_getElem? (i := 13) rfl))) (hw _ (List.mem_of_getElem? (i := 1) rfl)) (ty := (.array .long)) (by decide) rfl rfl (g := (mkF m 57 #[.val (.ref a1), .val (.int p1), .val (.int wv)] [(.ref o62), (.ref a1)])) rfl rfl (hb hby own_d3_57)
    have F63_ := pF2_x62.same W63
    have pE_x63 := pE_x62.wr W63
    have F59__x63 := F59__x62.other W63 (Or.inr (slot_ne (Or.inl (hw _ (List.mem_of_getElem? (i := 11) rfl))) (Or.inl (hw _ (List.mem_of_getElem? (i := 13) rfl))) (by decide) (t := (.array .long)) (t' := (.array .long)) (by decide) (by decide)))
    have pF3_x63 := pF3_x62.other W63 (Or.inr (slot_ne (Or.inl (hw _ (List.mem_of_getElem? (i := 20) rfl))) (Or.inl (hw _ (List.mem_of_getElem? (i := 13) rfl))) (by decide) (t := .int) (t' := (.array .long)) (by decide) (by decide)))
    have pM_x63 := pM_x62.other W63 (Ne.symm n1)
    have pH_x63 := pH_x62.other W63 (Ne.symm n2)
    have pEm_x63 := pEm_x62.wr W63
    have pEh_x63 := pEh_x62.wr W63
    have A58__x63 := A58__x62.other W63 (Ne.symm ne58_a1)
    have B58__x63 := B58__x62.wr W63
    have A62__x63 := A62_.other W63 (Ne.symm ne62_a1)
    have B62__x63 := B62_.wr W63
    have N63 := Fr.snoc X63 N62 pg
    have Z63 : n0 ≤ h63.size := by rw [W63.size]; exact Z62
    have K63 := KK62.wr W63 (Or.inl (List.mem_of_getElem? (i := 0) rfl))
    have Y63 : h0.size ≤ h63.size := by rw [W63.size]; exact Y62
    refine own_fwd st63 ?_
    show own_R p.tables e below P (T63.setTop (mkF m 60 #[.val (.ref a1), .val (.int p1), .val (.int wv)] []))
    have I0 := pI.grow (M' := M') (by omega) rfl
    have hnM : n / 64 < M' := bM2
    refine own_fwd (fun tt kt => XS.aloadN X63.here hx rfl (hb hby own_d3_60) rfl rfl kt) ?_
    show own_R p.tables e below P (T63.setTop (mkF m 61 #[.val (.ref a1), .val (.int p1), .val (.int wv)] [(.ref a1)]))
    obtain ⟨T64, X64, e64, st64⟩ := getF X63 hx hZ hown (host := "") (Or.inl (hw _ (List.mem_of_getElem? (i := 10) rfl))) Via.refl e63 F59__x63 (g := (mkF m 61 #[.val (.ref a1), .val (.int p1), .val (.int wv)] [(.ref a1)])) rfl rfl (hb hby own_d3_61)
    refine own_fwd st64 ?_
    show own_R p.tables e below P (T64.setTop (mkF m 64 #[.val (.ref a1), .val (.int p1), .val (.int wv)] [(.ref o58)]))
    refine own_fwd (fun tt kt => XS.iloadN X64.here hx rfl (hb hby own_d3_64) rfl kt) ?_
    show own_R p.tables e below P (T64.setTop (mkF m 65 #[.val (.ref a1), .val (.int p1), .val (.int wv)] [(.int wv), (.ref o58)]))
    refine own_fwd (fun tt kt => XT.dup2 X64.here hx rfl (hb hby own_d3_65) rfl rfl rfl kt) ?_
    show own_R p.tables e below P (T64.setTop (mkF m 66 #[.val (.ref a1), .val (.int p1), .val (.int wv)] [(.int wv), (.ref o58), (.int wv), (.ref o58)]))
    refine own_fwd (own_ldJ X64 hx hZ e64 A58__x63 (j := wv) (n / 64) hw6 hnM (g := (mkF m 66 #[.val (.ref a1), .val (.int p1), .val (.int wv)] [(.int wv), (.ref o58), (.int wv), (.ref o58)])) rfl rfl (hb hby own_d3_66)) ?_
    show own_R p.tables e below P (T64.setTop (mkF m 67 #[.val (.ref a1), .val (.int p1), .val (.int wv)] [(.long ((own_gr fm M) (n / 64))), (.int wv), (.ref o58)]))
    refine own_fwd (fun tt kt => XS.lconst X64.here hx rfl (hb hby own_d3_67) kt) ?_
    show own_R p.tables e below P (T64.setTop (mkF m 68 #[.val (.ref a1), .val (.int p1), .val (.int wv)] [(.long (1 : Int64)), (.long ((own_gr fm M) (n / 64))), (.int wv), (.ref o58)]))
    refine own_fwd (fun tt kt => XS.iloadN X64.here hx rfl (hb hby own_d3_68) rfl kt) ?_
    show own_R p.tables e below P (T64.setTop (mkF m 69 #[.val (.ref a1), .val (.int p1), .val (.int wv)] [(.int p1), (.long (1 : Int64)), (.long ((own_gr fm M) (n / 64))), (.int wv), (.ref o58)]))
    refine own_fwd (fun tt kt => XS.lshl X64.here hx rfl (hb hby own_d3_69) rfl kt) ?_
    show own_R p.tables e below P (T64.setTop (mkF m 70 #[.val (.ref a1), .val (.int p1), .val (.int wv)] [(.long ((1 : Int64) <<< (p1 &&& 0x3f).toInt64)), (.long ((own_gr fm M) (n / 64))), (.int wv), (.ref o58)]))
    refine own_fwd (fun tt kt => XS.lor X64.here hx rfl (hb hby own_d3_70) rfl kt) ?_
    show own_R p.tables e below P (T64.setTop (mkF m 71 #[.val (.ref a1), .val (.int p1), .val (.int wv)] [(.long (((own_gr fm M) (n / 64)) ||| ((1 : Int64) <<< (p1 &&& 0x3f).toInt64))), (.int wv), (.ref o58)]))
    obtain ⟨T65, h65, X65, e65, W65, A65_, st65⟩ := own_stJ X64 hx hZ e64 A58__x63 (j := wv) (n / 64) hw6 hnM (g := (mkF m 71 #[.val (.ref a1), .val (.int p1), .val (.int wv)] [(.long (((own_gr fm M) (n / 64)) ||| ((1 : Int64) <<< (p1 &&& 0x3f).toInt64))), (.int wv), (.ref o58)])) rfl rfl (hb hby own_d3_71)
    have pE_x65 := pE_x63.wr W65
    have F59__x65 := F59__x63.other W65 (Or.inl ne58_a1)
    have F63__x65 := F63_.other W65 (Or.inl ne58_a1)
    have pF3_x65 := pF3_x63.other W65 (Or.inl ne58_a1)
    have pM_x65 := pM_x63.other W65 ne58_mA
    have pH_x65 := pH_x63.other W65 ne58_hA
    have pEm_x65 := pEm_x63.wr W65
    have pEh_x65 := pEh_x63.wr W65
    have B58__x65 := B58__x63.wr W65
    have A62__x65 := A62__x63.other W65 (Ne.symm ne62_o58)
    have B62__x65 := B62__x63.wr W65
    have N65 := Fr.snoc X65 N63 ge_o58
    have Z65 : n0 ≤ h65.size := by rw [W65.size]; exact Z63
    have K65 := K63.wr W65 (Or.inr sz_o58)
    have Y65 : h0.size ≤ h65.size := by rw [W65.size]; exact Y63
    refine own_fwd st65 ?_
    show own_R p.tables e below P (T65.setTop (mkF m 72 #[.val (.ref a1), .val (.int p1), .val (.int wv)] []))
    refine own_fwd (fun tt kt => XS.aloadN X65.here hx rfl (hb hby own_d3_72) rfl rfl kt) ?_
    show own_R p.tables e below P (T65.setTop (mkF m 73 #[.val (.ref a1), .val (.int p1), .val (.int wv)] [(.ref a1)]))
    obtain ⟨T66, X66, e66, st66⟩ := getF X65 hx hZ hown (host := "") (Or.inl (hw _ (List.mem_of_getElem? (i := 12) rfl))) Via.refl e65 F63__x65 (g := (mkF m 73 #[.val (.ref a1), .val (.int p1), .val (.int wv)] [(.ref a1)])) rfl rfl (hb hby own_d3_73)
    refine own_fwd st66 ?_
    show own_R p.tables e below P (T66.setTop (mkF m 76 #[.val (.ref a1), .val (.int p1), .val (.int wv)] [(.ref o62)]))
    refine own_fwd (fun tt kt => XS.iloadN X66.here hx rfl (hb hby own_d3_76) rfl kt) ?_
    show own_R p.tables e below P (T66.setTop (mkF m 77 #[.val (.ref a1), .val (.int p1), .val (.int wv)] [(.int wv), (.ref o62)]))
    refine own_fwd (fun tt kt => XS.bipush X66.here hx rfl (hb hby own_d3_77) kt) ?_
    show own_R p.tables e below P (T66.setTop (mkF m 79 #[.val (.ref a1), .val (.int p1), .val (.int wv)] [(.int (6 : Int32)), (.int wv), (.ref o62)]))
    refine own_fwd (fun tt kt => XS.iushr X66.here hx rfl (hb hby own_d3_79) rfl kt) ?_
    show own_R p.tables e below P (T66.setTop (mkF m 80 #[.val (.ref a1), .val (.int p1), .val (.int wv)] [(.int ((wv.toUInt32 >>> ((6 : Int32) &&& 31).toUInt32).toInt32)), (.ref o62)]))
    refine own_fwd (fun tt kt => XT.dup2 X66.here hx rfl (hb hby own_d3_80) rfl rfl rfl kt) ?_
    show own_R p.tables e below P (T66.setTop (mkF m 81 #[.val (.ref a1), .val (.int p1), .val (.int wv)] [(.int ((wv.toUInt32 >>> ((6 : Int32) &&& 31).toUInt32).toInt32)), (.ref o62), (.int ((wv.toUInt32 >>> ((6 : Int32) &&& 31).toUInt32).toInt32)), (.ref o62)]))
    refine own_fwd (own_ldJ X66 hx hZ e66 A62__x65 (j := ((wv.toUInt32 >>> ((6 : Int32) &&& 31).toUInt32).toInt32)) (n / 64 / 64) (own_sh6 hw6) (by omega) (g := (mkF m 81 #[.val (.ref a1), .val (.int p1), .val (.int wv)] [(.int ((wv.toUInt32 >>> ((6 : Int32) &&& 31).toUInt32).toInt32)), (.ref o62), (.int ((wv.toUInt32 >>> ((6 : Int32) &&& 31).toUInt32).toInt32)), (.ref o62)])) rfl rfl (hb hby own_d3_81)) ?_
    show own_R p.tables e below P (T66.setTop (mkF m 82 #[.val (.ref a1), .val (.int p1), .val (.int wv)] [(.long ((own_gr fh H) (n / 64 / 64))), (.int ((wv.toUInt32 >>> ((6 : Int32) &&& 31).toUInt32).toInt32)), (.ref o62)]))
    refine own_fwd (fun tt kt => XS.lconst X66.here hx rfl (hb hby own_d3_82) kt) ?_
    show own_R p.tables e below P (T66.setTop (mkF m 83 #[.val (.ref a1), .val (.int p1), .val (.int wv)] [(.long (1 : Int64)), (.long ((own_gr fh H) (n / 64 / 64))), (.int ((wv.toUInt32 >>> ((6 : Int32) &&& 31).toUInt32).toInt32)), (.ref o62)]))
    refine own_fwd (fun tt kt => XS.iloadN X66.here hx rfl (hb hby own_d3_83) rfl kt) ?_
    show own_R p.tables e below P (T66.setTop (mkF m 84 #[.val (.ref a1), .val (.int p1), .val (.int wv)] [(.int wv), (.long (1 : Int64)), (.long ((own_gr fh H) (n / 64 / 64))), (.int ((wv.toUInt32 >>> ((6 : Int32) &&& 31).toUInt32).toInt32)), (.ref o62)]))
    refine own_fwd (fun tt kt => XS.lshl X66.here hx rfl (hb hby own_d3_84) rfl kt) ?_
    show own_R p.tables e below P (T66.setTop (mkF m 85 #[.val (.ref a1), .val (.int p1), .val (.int wv)] [(.long ((1 : Int64) <<< (wv &&& 0x3f).toInt64)), (.long ((own_gr fh H) (n / 64 / 64))), (.int ((wv.toUInt32 >>> ((6 : Int32) &&& 31).toUInt32).toInt32)), (.ref o62)]))
    refine own_fwd (fun tt kt => XS.lor X66.here hx rfl (hb hby own_d3_85) rfl kt) ?_
    show own_R p.tables e below P (T66.setTop (mkF m 86 #[.val (.ref a1), .val (.int p1), .val (.int wv)] [(.long (((own_gr fh H) (n / 64 / 64)) ||| ((1 : Int64) <<< (wv &&& 0x3f).toInt64))), (.int ((wv.toUInt32 >>> ((6 : Int32) &&& 31).toUInt32).toInt32)), (.ref o62)]))
    obtain ⟨T67, h67, X67, e67, W67, A67_, st67⟩ := own_stJ X66 hx hZ e66 A62__x65 (j := ((wv.toUInt32 >>> ((6 : Int32) &&& 31).toUInt32).toInt32)) (n / 64 / 64) (own_sh6 hw6) (by omega) (g := (mkF m 86 #[.val (.ref a1), .val (.int p1), .val (.int wv)] [(.long (((own_gr fh H) (n / 64 / 64)) ||| ((1 : Int64) <<< (wv &&& 0x3f).toInt64))), (.int ((wv.toUInt32 >>> ((6 : Int32) &&& 31).toUInt32).toInt32)), (.ref o62)])) rfl rfl (hb hby own_d3_86)
    have pE_x67 := pE_x65.wr W67
    have F59__x67 := F59__x65.other W67 (Or.inl ne62_a1)
    have F63__x67 := F63__x65.other W67 (Or.inl ne62_a1)
    have pF3_x67 := pF3_x65.other W67 (Or.inl ne62_a1)
    have pM_x67 := pM_x65.other W67 ne62_mA
    have pH_x67 := pH_x65.other W67 ne62_hA
    have pEm_x67 := pEm_x65.wr W67
    have pEh_x67 := pEh_x65.wr W67
    have A65__x67 := A65_.other W67 ne62_o58
    have B58__x67 := B58__x65.wr W67
    have B62__x67 := B62__x65.wr W67
    have N67 := Fr.snoc X67 N65 ge_o62
    have Z67 : n0 ≤ h67.size := by rw [W67.size]; exact Z65
    have K67 := K65.wr W67 (Or.inr sz_o62)
    have Y67 : h0.size ≤ h67.size := by rw [W67.size]; exact Y65
    refine own_fwd st67 ?_
    show own_R p.tables e below P (T67.setTop (mkF m 87 #[.val (.ref a1), .val (.int p1), .val (.int wv)] []))
    refine own_fwd (fun tt kt => XS.aloadN X67.here hx rfl (hb hby own_d3_87) rfl rfl kt) ?_
    show own_R p.tables e below P (T67.setTop (mkF m 88 #[.val (.ref a1), .val (.int p1), .val (.int wv)] [(.ref a1)]))
    refine own_fwd (fun tt kt => XS.dup X67.here hx rfl (hb hby own_d3_88) rfl rfl kt) ?_
    show own_R p.tables e below P (T67.setTop (mkF m 89 #[.val (.ref a1), .val (.int p1), .val (.int wv)] [(.ref a1), (.ref a1)]))
    obtain ⟨T68, X68, e68, st68⟩ := getF X67 hx hZ hown (host := "") (Or.inl (hw _ (List.mem_of_getElem? (i := 19) rfl))) Via.refl e67 pF3_x67 (g := (mkF m 89 #[.val (.ref a1), .val (.int p1), .val (.int wv)] [(.ref a1), (.ref a1)])) rfl rfl (hb hby own_d3_89)
    refine own_fwd st68 ?_
    show own_R p.tables e below P (T68.setTop (mkF m 92 #[.val (.ref a1), .val (.int p1), .val (.int wv)] [(.int z), (.ref a1)]))
    refine own_fwd (fun tt kt => XS.iconst X68.here hx rfl (hb hby own_d3_92) kt) ?_
    show own_R p.tables e below P (T68.setTop (mkF m 93 #[.val (.ref a1), .val (.int p1), .val (.int wv)] [(.int (1 : Int32)), (.int z), (.ref a1)]))
    refine own_fwd (fun tt kt => XS.iadd X68.here hx rfl (hb hby own_d3_93) rfl kt) ?_
    show own_R p.tables e below P (T68.setTop (mkF m 94 #[.val (.ref a1), .val (.int p1), .val (.int wv)] [(.int (z + (1 : Int32))), (.ref a1)]))
    obtain ⟨T69, h69, X69, e69, W69, st69⟩ := putF X68 hx hZ hown (host := "") (Or.inl (hw _ (List.mem_of_getElem? (i := 19) rfl))) Via.refl e68 pF3_x67 pE_x67 (Or.inl (hw _ (List.mem_of_getElem? (i := 20) rfl))) (hw _ (List.mem_of_getElem? (i := 1) rfl)) (ty := .int) (by decide) rfl rfl (g := (mkF m 94 #[.val (.ref a1), .val (.int p1), .val (.int wv)] [(.int (z + (1 : Int32))), (.ref a1)])) rfl rfl (hb hby own_d3_94)
    have F69_ := pF3_x67.same W69
    have pE_x69 := pE_x67.wr W69
    have F59__x69 := F59__x67.other W69 (Or.inr (slot_ne (Or.inl (hw _ (List.mem_of_getElem? (i := 11) rfl))) (Or.inl (hw _ (List.mem_of_getElem? (i := 20) rfl))) (by decide) (t := (.array .long)) (t' := .int) (by decide) (by decide)))
    have F63__x69 := F63__x67.other W69 (Or.inr (slot_ne (Or.inl (hw _ (List.mem_of_getElem? (i := 13) rfl))) (Or.inl (hw _ (List.mem_of_getElem? (i := 20) rfl))) (by decide) (t := (.array .long)) (t' := .int) (by decide) (by decide)))
    have pM_x69 := pM_x67.other W69 (Ne.symm n1)
    have pH_x69 := pH_x67.other W69 (Ne.symm n2)
    have pEm_x69 := pEm_x67.wr W69
    have pEh_x69 := pEh_x67.wr W69
    have A65__x69 := A65__x67.other W69 (Ne.symm ne58_a1)
    have B58__x69 := B58__x67.wr W69
    have A67__x69 := A67_.other W69 (Ne.symm ne62_a1)
    have B62__x69 := B62__x67.wr W69
    have N69 := Fr.snoc X69 N67 pg
    have Z69 : n0 ≤ h69.size := by rw [W69.size]; exact Z67
    have K69 := K67.wr W69 (Or.inl (List.mem_of_getElem? (i := 0) rfl))
    have Y69 : h0.size ≤ h69.size := by rw [W69.size]; exact Y67
    refine own_fwd st69 ?_
    show own_R p.tables e below P (T69.setTop (mkF m 97 #[.val (.ref a1), .val (.int p1), .val (.int wv)] []))
    obtain ⟨fs70, hr70, hrun70, hended70, hW70, hsame70⟩ := X69.leave (v := none) (fun _ => rfl)
    refine ⟨_, _, X69.returnOut hx Bd.returns (hb hby own_d3_97) hr70, fin _ _ ⟨hrun70, hended70, _, _, rfl, ?_, ⟨_, rfl⟩, hW70, hsame70.mono (by decide) (by decide)⟩⟩
    show own_Qa1 Z a1 mA hA z fm fh M H S p1 n h0 n0 _ T69.heap _
    rw [e69]
    exact ⟨rfl, N69, K69, o58, o62, M', ((M' + 63) / 64), _, _, ge_o58, ge_o62, ne58_a1, ne62_a1, ne62_o58, Or.inr sz_o58, Or.inr sz_o62, I0.add hnM (own_tb_one hp) (own_tb_one hw6), by omega, pE_x69, F59__x69, F63__x69, F69_, A65__x69, A67__x69, B58__x69, B62__x69⟩
theorem own_efa2 (m : MethodId) (a1 : Addr) (p1 : Int32) : entryFrame m #[(.ref a1), (.int p1)] 3 = mkF m 0 #[.val (.ref a1), .val (.int p1), .unset] [] := by first | (simp [entryFrame, mkF, argsToLocals, Value.category]; done) | rfl
def own_Qa2 (Z : State) (a1 mA hA : Addr) (z : Int32) (fm fh : Nat → Int64) (M H : Nat) (S : Nat → Bool) (p1 : Int32) (n : Nat) (h0 : Heap) (n0 : Nat) (v : Option Value) (h : Heap) (L : List Loc) : Prop := v = none ∧ Fr n0 L ∧ Keep h0 h [a1, mA, hA] ∧ ∃ (mB hB : Addr) (M1 H1 : Nat) (fm1 fh1 : Nat → Int64), n0 ≤ mB ∧ n0 ≤ hB ∧ a1 ≠ mB ∧ a1 ≠ hB ∧ mB ≠ hB ∧ (mB = mA ∨ h0.size ≤ mB) ∧ (hB = hA ∨ h0.size ≤ hB) ∧ own_Inv M1 H1 fm1 fh1 (fun k => S k || decide (k = n)) ∧ M1 ≤ 1000 ∧ Exa Z h a1 "com/example/ramp99/ramp99/service/replay/NumberSet" ∧ Fld Z h a1 "com/example/ramp99/ramp99/service/replay/NumberSet" "members" "[J" (.ref mB) ∧ Fld Z h a1 "com/example/ramp99/ramp99/service/replay/NumberSet" "holding" "[J" (.ref hB) ∧ Fld Z h a1 "com/example/ramp99/ramp99/service/replay/NumberSet" "size" "I" (.int (z + (1 : Int32))) ∧ own_AJ Z h mB M1 fm1 ∧ own_AJ Z h hB H1 fh1 ∧ Exa Z h mB "[J" ∧ Exa Z h hB "[J"
set_option maxRecDepth 65536 in
set_option maxHeartbeats 40000000 in
theorem own_rma2 (l : Launch) (Z : State) (a0 : Array Value) (hw : ∀ d ∈ tables_1, d.before a0 Z = true) (ws : List Jvm.Cond) (a1 mA hA : Addr) (z : Int32) (fm fh : Nat → Int64) (M H : Nat) (S : Nat → Bool) (p1 : Int32) (n : Nat) (h0 : Heap) (n0 : Nat) (Z0 : n0 ≤ h0.size) (pE : Exa Z h0 a1 "com/example/ramp99/ramp99/service/replay/NumberSet") (pF1 : Fld Z h0 a1 "com/example/ramp99/ramp99/service/replay/NumberSet" "members" "[J" (.ref mA)) (pF2 : Fld Z h0 a1 "com/example/ramp99/ramp99/service/replay/NumberSet" "holding" "[J" (.ref hA)) (pF3 : Fld Z h0 a1 "com/example/ramp99/ramp99/service/replay/NumberSet" "size" "I" (.int z)) (pM : own_AJ Z h0 mA M fm) (pH : own_AJ Z h0 hA H fh) (pEm : Exa Z h0 mA "[J") (pEh : Exa Z h0 hA "[J") (pg : n0 ≤ a1) (pgm : n0 ≤ mA) (pgh : n0 ≤ hA) (n1 : a1 ≠ mA) (n2 : a1 ≠ hA) (n3 : mA ≠ hA) (pI : own_Inv M H fm fh S) (bM : M ≤ 1000) (hp : p1.toInt = (n : Int)) (bn : n < 24576) :
    MetFree l (⟨"com/example/ramp99/ramp99/service/replay/NumberSet", "add", "(I)V"⟩ : MethodName) (head1 (Jvm.Cond.code (⟨"com/example/ramp99/ramp99/service/replay/NumberSet", "add", "(I)V"⟩ : MethodName) prog_129_method_5_code 3 none :: ws) ({ frames := 2, cells := 2, slots := 778, locals := 55 } : Room)) (fun a U => a = #[(.ref a1), (.int p1)] ∧ Z.Warmed39 U.vm ∧ U.heap = h0) (fun _ _ _ _ _ => True) (fun _ U o U' => ∃ v L, o = .returned v ∧ own_Qa2 Z a1 mA hA z fm fh M H S p1 n h0 n0 v U'.heap L ∧ FrameEnd U o U' L ({ frames := 2, cells := 2, slots := 778, locals := 55 } : Room).cells ({ frames := 2, cells := 2, slots := 778, locals := 55 } : Room).slots) := by
  refine MetFree.of_bodySF (plainFor_of_name own_pn1) hisR ?_
  intro p e s m args below meth c s₁ Bd hml0 hP hK
  obtain ⟨rfl, hZ, hh⟩ := hP
  have hx := Bd.exec
  have hby := Bd.bytes
  have hml : c.maxLocals = 3 := hml0
  have hown : s.vm.findClass "com/example/ramp99/ramp99/service/replay/NumberSet" = some m.cls := findClass_of_methodNamed Bd.named
  have hnm := (name_of_methodNamed Bd.named Bd.method).1
  have X0 : Stand p l e ({ frames := 2, cells := 2, slots := 778, locals := 55 } : Room) s m #[(.ref a1), (.int p1)] below meth c s₁ [] 0 0 := Stand.of_body Bd
  have e0 : s₁.heap = h0 := by rw [← hh, Bd.state]; rfl
  have N0 := Fr.nil n0
  refine own_nm (st := s₁.setTop (entryFrame m #[(.ref a1), (.int p1)] 3)) fun P fin => ?_
  refine own_fwd (fun tt kt => castTop (own_efa2 m a1 p1) kt) ?_
  show own_R p.tables e below P (s₁.setTop (mkF m 0 #[.val (.ref a1), .val (.int p1), .unset] []))
  have K0 := Keep.refl h0 [a1, mA, hA]
  have hw6 := own_sh6 hp
  have H4 := pI.2.2.2
  refine own_fwd (fun tt kt => XS.iloadN X0.here hx rfl (hb hby own_d3_0) rfl kt) ?_
  show own_R p.tables e below P (s₁.setTop (mkF m 1 #[.val (.ref a1), .val (.int p1), .unset] [(.int p1)]))
  refine own_fwd (fun tt kt => XS.bipush X0.here hx rfl (hb hby own_d3_1) kt) ?_
  show own_R p.tables e below P (s₁.setTop (mkF m 3 #[.val (.ref a1), .val (.int p1), .unset] [(.int (6 : Int32)), (.int p1)]))
  refine own_fwd (fun tt kt => XS.iushr X0.here hx rfl (hb hby own_d3_3) rfl kt) ?_
  show own_R p.tables e below P (s₁.setTop (mkF m 4 #[.val (.ref a1), .val (.int p1), .unset] [(.int ((p1.toUInt32 >>> ((6 : Int32) &&& 31).toUInt32).toInt32))]))
  obtain ⟨wv, hg_wv⟩ : ∃ z, ((p1.toUInt32 >>> ((6 : Int32) &&& 31).toUInt32).toInt32) = z := ⟨_, rfl⟩
  rw [hg_wv]
  show own_R p.tables e below P (s₁.setTop (mkF m 4 #[.val (.ref a1), .val (.int p1), .unset] [(.int wv)]))
  rw [hg_wv] at hw6
  have lM : M.toInt32.toInt = (M : Int) := len_toInt pM.bd
  refine own_fwd (fun tt kt => XS.istoreN X0.here hx rfl (hb hby own_d3_4) rfl (l' := #[.val (.ref a1), .val (.int p1), .val (.int wv)]) rfl kt) ?_
  show own_R p.tables e below P (s₁.setTop (mkF m 5 #[.val (.ref a1), .val (.int p1), .val (.int wv)] []))
  refine own_fwd (fun tt kt => XS.iloadN X0.here hx rfl (hb hby own_d3_5) rfl kt) ?_
  show own_R p.tables e below P (s₁.setTop (mkF m 6 #[.val (.ref a1), .val (.int p1), .val (.int wv)] [(.int wv)]))
  refine own_fwd (fun tt kt => XS.aloadN X0.here hx rfl (hb hby own_d3_6) rfl rfl kt) ?_
  show own_R p.tables e below P (s₁.setTop (mkF m 7 #[.val (.ref a1), .val (.int p1), .val (.int wv)] [(.ref a1), (.int wv)]))
  obtain ⟨T71, X71, e71, st71⟩ := getF X0 hx hZ hown (host := "") (Or.inl (hw _ (List.mem_of_getElem? (i := 10) rfl))) Via.refl e0 pF1 (g := (mkF m 7 #[.val (.ref a1), .val (.int p1), .val (.int wv)] [(.ref a1), (.int wv)])) rfl rfl (hb hby own_d3_7)
  refine own_fwd st71 ?_
  show own_R p.tables e below P (T71.setTop (mkF m 10 #[.val (.ref a1), .val (.int p1), .val (.int wv)] [(.ref mA), (.int wv)]))
  refine own_fwd (own_len X71 hx hZ e71 pM M.toInt32 (len_toInt pM.bd) (g := (mkF m 10 #[.val (.ref a1), .val (.int p1), .val (.int wv)] [(.ref mA), (.int wv)])) rfl rfl (hb hby own_d3_10)) ?_
  show own_R p.tables e below P (T71.setTop (mkF m 11 #[.val (.ref a1), .val (.int p1), .val (.int wv)] [(.int M.toInt32), (.int wv)]))
  by_cases hc72 : wv < M.toInt32
  · refine own_fwd (fun tt kt => XS.icmpYes X71.here hx rfl (pc0 := 11) (pc' := 60) rfl (hb hby own_d3_11) rfl (tlt hc72).1 (by decide) (by decide) kt) ?_
    show own_R p.tables e below P (T71.setTop (mkF m 60 #[.val (.ref a1), .val (.int p1), .val (.int wv)] []))
    have hcw := hc72
    rw [Int32.lt_iff_toInt_lt, hw6, lM] at hcw
    have I0 := pI
    have hnM : n / 64 < M := by omega
    refine own_fwd (fun tt kt => XS.aloadN X71.here hx rfl (hb hby own_d3_60) rfl rfl kt) ?_
    show own_R p.tables e below P (T71.setTop (mkF m 61 #[.val (.ref a1), .val (.int p1), .val (.int wv)] [(.ref a1)]))
    obtain ⟨T73, X73, e73, st73⟩ := getF X71 hx hZ hown (host := "") (Or.inl (hw _ (List.mem_of_getElem? (i := 10) rfl))) Via.refl e71 pF1 (g := (mkF m 61 #[.val (.ref a1), .val (.int p1), .val (.int wv)] [(.ref a1)])) rfl rfl (hb hby own_d3_61)
    refine own_fwd st73 ?_
    show own_R p.tables e below P (T73.setTop (mkF m 64 #[.val (.ref a1), .val (.int p1), .val (.int wv)] [(.ref mA)]))
    refine own_fwd (fun tt kt => XS.iloadN X73.here hx rfl (hb hby own_d3_64) rfl kt) ?_
    show own_R p.tables e below P (T73.setTop (mkF m 65 #[.val (.ref a1), .val (.int p1), .val (.int wv)] [(.int wv), (.ref mA)]))
    refine own_fwd (fun tt kt => XT.dup2 X73.here hx rfl (hb hby own_d3_65) rfl rfl rfl kt) ?_
    show own_R p.tables e below P (T73.setTop (mkF m 66 #[.val (.ref a1), .val (.int p1), .val (.int wv)] [(.int wv), (.ref mA), (.int wv), (.ref mA)]))
    refine own_fwd (own_ldJ X73 hx hZ e73 pM (j := wv) (n / 64) hw6 hnM (g := (mkF m 66 #[.val (.ref a1), .val (.int p1), .val (.int wv)] [(.int wv), (.ref mA), (.int wv), (.ref mA)])) rfl rfl (hb hby own_d3_66)) ?_
    show own_R p.tables e below P (T73.setTop (mkF m 67 #[.val (.ref a1), .val (.int p1), .val (.int wv)] [(.long (fm (n / 64))), (.int wv), (.ref mA)]))
    refine own_fwd (fun tt kt => XS.lconst X73.here hx rfl (hb hby own_d3_67) kt) ?_
    show own_R p.tables e below P (T73.setTop (mkF m 68 #[.val (.ref a1), .val (.int p1), .val (.int wv)] [(.long (1 : Int64)), (.long (fm (n / 64))), (.int wv), (.ref mA)]))
    refine own_fwd (fun tt kt => XS.iloadN X73.here hx rfl (hb hby own_d3_68) rfl kt) ?_
    show own_R p.tables e below P (T73.setTop (mkF m 69 #[.val (.ref a1), .val (.int p1), .val (.int wv)] [(.int p1), (.long (1 : Int64)), (.long (fm (n / 64))), (.int wv), (.ref mA)]))
    refine own_fwd (fun tt kt => XS.lshl X73.here hx rfl (hb hby own_d3_69) rfl kt) ?_
    show own_R p.tables e below P (T73.setTop (mkF m 70 #[.val (.ref a1), .val (.int p1), .val (.int wv)] [(.long ((1 : Int64) <<< (p1 &&& 0x3f).toInt64)), (.long (fm (n / 64))), (.int wv), (.ref mA)]))
    refine own_fwd (fun tt kt => XS.lor X73.here hx rfl (hb hby own_d3_70) rfl kt) ?_
    show own_R p.tables e below P (T73.setTop (mkF m 71 #[.val (.ref a1), .val (.int p1), .val (.int wv)] [(.long ((fm (n / 64)) ||| ((1 : Int64) <<< (p1 &&& 0x3f).toInt64))), (.int wv), (.ref mA)]))
    obtain ⟨T74, h74, X74, e74, W74, A74_, st74⟩ := own_stJ X73 hx hZ e73 pM (j := wv) (n / 64) hw6 hnM (g := (mkF m 71 #[.val (.ref a1), .val (.int p1), .val (.int wv)] [(.long ((fm (n / 64)) ||| ((1 : Int64) <<< (p1 &&& 0x3f).toInt64))), (.int wv), (.ref mA)])) rfl rfl (hb hby own_d3_71)
    have pE_x74 := pE.wr W74
    have pF1_x74 := pF1.other W74 (Or.inl n1)
    have pF2_x74 := pF2.other W74 (Or.inl n1)
    have pF3_x74 := pF3.other W74 (Or.inl n1)
    have pH_x74 := pH.other W74 (Ne.symm n3)
    have pEm_x74 := pEm.wr W74
    have pEh_x74 := pEh.wr W74
    have N74 := Fr.snoc X74 N0 pgm
    have Z74 : n0 ≤ h74.size := by rw [W74.size]; exact Z0
    have K74 := K0.wr W74 (Or.inl (List.mem_of_getElem? (i := 1) rfl))
    have Y74 : h0.size ≤ h74.size := by rw [W74.size]; exact (Nat.le_refl h0.size)
    refine own_fwd st74 ?_
    show own_R p.tables e below P (T74.setTop (mkF m 72 #[.val (.ref a1), .val (.int p1), .val (.int wv)] []))
    refine own_fwd (fun tt kt => XS.aloadN X74.here hx rfl (hb hby own_d3_72) rfl rfl kt) ?_
    show own_R p.tables e below P (T74.setTop (mkF m 73 #[.val (.ref a1), .val (.int p1), .val (.int wv)] [(.ref a1)]))
    obtain ⟨T75, X75, e75, st75⟩ := getF X74 hx hZ hown (host := "") (Or.inl (hw _ (List.mem_of_getElem? (i := 12) rfl))) Via.refl e74 pF2_x74 (g := (mkF m 73 #[.val (.ref a1), .val (.int p1), .val (.int wv)] [(.ref a1)])) rfl rfl (hb hby own_d3_73)
    refine own_fwd st75 ?_
    show own_R p.tables e below P (T75.setTop (mkF m 76 #[.val (.ref a1), .val (.int p1), .val (.int wv)] [(.ref hA)]))
    refine own_fwd (fun tt kt => XS.iloadN X75.here hx rfl (hb hby own_d3_76) rfl kt) ?_
    show own_R p.tables e below P (T75.setTop (mkF m 77 #[.val (.ref a1), .val (.int p1), .val (.int wv)] [(.int wv), (.ref hA)]))
    refine own_fwd (fun tt kt => XS.bipush X75.here hx rfl (hb hby own_d3_77) kt) ?_
    show own_R p.tables e below P (T75.setTop (mkF m 79 #[.val (.ref a1), .val (.int p1), .val (.int wv)] [(.int (6 : Int32)), (.int wv), (.ref hA)]))
    refine own_fwd (fun tt kt => XS.iushr X75.here hx rfl (hb hby own_d3_79) rfl kt) ?_
    show own_R p.tables e below P (T75.setTop (mkF m 80 #[.val (.ref a1), .val (.int p1), .val (.int wv)] [(.int ((wv.toUInt32 >>> ((6 : Int32) &&& 31).toUInt32).toInt32)), (.ref hA)]))
    refine own_fwd (fun tt kt => XT.dup2 X75.here hx rfl (hb hby own_d3_80) rfl rfl rfl kt) ?_
    show own_R p.tables e below P (T75.setTop (mkF m 81 #[.val (.ref a1), .val (.int p1), .val (.int wv)] [(.int ((wv.toUInt32 >>> ((6 : Int32) &&& 31).toUInt32).toInt32)), (.ref hA), (.int ((wv.toUInt32 >>> ((6 : Int32) &&& 31).toUInt32).toInt32)), (.ref hA)]))
    refine own_fwd (own_ldJ X75 hx hZ e75 pH_x74 (j := ((wv.toUInt32 >>> ((6 : Int32) &&& 31).toUInt32).toInt32)) (n / 64 / 64) (own_sh6 hw6) (by omega) (g := (mkF m 81 #[.val (.ref a1), .val (.int p1), .val (.int wv)] [(.int ((wv.toUInt32 >>> ((6 : Int32) &&& 31).toUInt32).toInt32)), (.ref hA), (.int ((wv.toUInt32 >>> ((6 : Int32) &&& 31).toUInt32).toInt32)), (.ref hA)])) rfl rfl (hb hby own_d3_81)) ?_
    show own_R p.tables e below P (T75.setTop (mkF m 82 #[.val (.ref a1), .val (.int p1), .val (.int wv)] [(.long (fh (n / 64 / 64))), (.int ((wv.toUInt32 >>> ((6 : Int32) &&& 31).toUInt32).toInt32)), (.ref hA)]))
    refine own_fwd (fun tt kt => XS.lconst X75.here hx rfl (hb hby own_d3_82) kt) ?_
    show own_R p.tables e below P (T75.setTop (mkF m 83 #[.val (.ref a1), .val (.int p1), .val (.int wv)] [(.long (1 : Int64)), (.long (fh (n / 64 / 64))), (.int ((wv.toUInt32 >>> ((6 : Int32) &&& 31).toUInt32).toInt32)), (.ref hA)]))
    refine own_fwd (fun tt kt => XS.iloadN X75.here hx rfl (hb hby own_d3_83) rfl kt) ?_
    show own_R p.tables e below P (T75.setTop (mkF m 84 #[.val (.ref a1), .val (.int p1), .val (.int wv)] [(.int wv), (.long (1 : Int64)), (.long (fh (n / 64 / 64))), (.int ((wv.toUInt32 >>> ((6 : Int32) &&& 31).toUInt32).toInt32)), (.ref hA)]))
    refine own_fwd (fun tt kt => XS.lshl X75.here hx rfl (hb hby own_d3_84) rfl kt) ?_
    show own_R p.tables e below P (T75.setTop (mkF m 85 #[.val (.ref a1), .val (.int p1), .val (.int wv)] [(.long ((1 : Int64) <<< (wv &&& 0x3f).toInt64)), (.long (fh (n / 64 / 64))), (.int ((wv.toUInt32 >>> ((6 : Int32) &&& 31).toUInt32).toInt32)), (.ref hA)]))
    refine own_fwd (fun tt kt => XS.lor X75.here hx rfl (hb hby own_d3_85) rfl kt) ?_
    show own_R p.tables e below P (T75.setTop (mkF m 86 #[.val (.ref a1), .val (.int p1), .val (.int wv)] [(.long ((fh (n / 64 / 64)) ||| ((1 : Int64) <<< (wv &&& 0x3f).toInt64))), (.int ((wv.toUInt32 >>> ((6 : Int32) &&& 31).toUInt32).toInt32)), (.ref hA)]))
    obtain ⟨T76, h76, X76, e76, W76, A76_, st76⟩ := own_stJ X75 hx hZ e75 pH_x74 (j := ((wv.toUInt32 >>> ((6 : Int32) &&& 31).toUInt32).toInt32)) (n / 64 / 64) (own_sh6 hw6) (by omega) (g := (mkF m 86 #[.val (.ref a1), .val (.int p1), .val (.int wv)] [(.long ((fh (n / 64 / 64)) ||| ((1 : Int64) <<< (wv &&& 0x3f).toInt64))), (.int ((wv.toUInt32 >>> ((6 : Int32) &&& 31).toUInt32).toInt32)), (.ref hA)])) rfl rfl (hb hby own_d3_86)
    have pE_x76 := pE_x74.wr W76
    have pF1_x76 := pF1_x74.other W76 (Or.inl n2)
    have pF2_x76 := pF2_x74.other W76 (Or.inl n2)
    have pF3_x76 := pF3_x74.other W76 (Or.inl n2)
    have A74__x76 := A74_.other W76 n3
    have pEm_x76 := pEm_x74.wr W76
    have pEh_x76 := pEh_x74.wr W76
    have N76 := Fr.snoc X76 N74 pgh
    have Z76 : n0 ≤ h76.size := by rw [W76.size]; exact Z74
    have K76 := K74.wr W76 (Or.inl (List.mem_of_getElem? (i := 2) rfl))
    have Y76 : h0.size ≤ h76.size := by rw [W76.size]; exact Y74
    refine own_fwd st76 ?_
    show own_R p.tables e below P (T76.setTop (mkF m 87 #[.val (.ref a1), .val (.int p1), .val (.int wv)] []))
    refine own_fwd (fun tt kt => XS.aloadN X76.here hx rfl (hb hby own_d3_87) rfl rfl kt) ?_
    show own_R p.tables e below P (T76.setTop (mkF m 88 #[.val (.ref a1), .val (.int p1), .val (.int wv)] [(.ref a1)]))
    refine own_fwd (fun tt kt => XS.dup X76.here hx rfl (hb hby own_d3_88) rfl rfl kt) ?_
    show own_R p.tables e below P (T76.setTop (mkF m 89 #[.val (.ref a1), .val (.int p1), .val (.int wv)] [(.ref a1), (.ref a1)]))
    obtain ⟨T77, X77, e77, st77⟩ := getF X76 hx hZ hown (host := "") (Or.inl (hw _ (List.mem_of_getElem? (i := 19) rfl))) Via.refl e76 pF3_x76 (g := (mkF m 89 #[.val (.ref a1), .val (.int p1), .val (.int wv)] [(.ref a1), (.ref a1)])) rfl rfl (hb hby own_d3_89)
    refine own_fwd st77 ?_
    show own_R p.tables e below P (T77.setTop (mkF m 92 #[.val (.ref a1), .val (.int p1), .val (.int wv)] [(.int z), (.ref a1)]))
    refine own_fwd (fun tt kt => XS.iconst X77.here hx rfl (hb hby own_d3_92) kt) ?_
    show own_R p.tables e below P (T77.setTop (mkF m 93 #[.val (.ref a1), .val (.int p1), .val (.int wv)] [(.int (1 : Int32)), (.int z), (.ref a1)]))
    refine own_fwd (fun tt kt => XS.iadd X77.here hx rfl (hb hby own_d3_93) rfl kt) ?_
    show own_R p.tables e below P (T77.setTop (mkF m 94 #[.val (.ref a1), .val (.int p1), .val (.int wv)] [(.int (z + (1 : Int32))), (.ref a1)]))
    obtain ⟨T78, h78, X78, e78, W78, st78⟩ := putF X77 hx hZ hown (host := "") (Or.inl (hw _ (List.mem_of_getElem? (i := 19) rfl))) Via.refl e77 pF3_x76 pE_x76 (Or.inl (hw _ (List.mem_of_getElem? (i := 20) rfl))) (hw _ (List.mem_of_getElem? (i := 1) rfl)) (ty := .int) (by decide) rfl rfl (g := (mkF m 94 #[.val (.ref a1), .val (.int p1), .val (.int wv)] [(.int (z + (1 : Int32))), (.ref a1)])) rfl rfl (hb hby own_d3_94)
    have F78_ := pF3_x76.same W78
    have pE_x78 := pE_x76.wr W78
    have pF1_x78 := pF1_x76.other W78 (Or.inr (slot_ne (Or.inl (hw _ (List.mem_of_getElem? (i := 11) rfl))) (Or.inl (hw _ (List.mem_of_getElem? (i := 20) rfl))) (by decide) (t := (.array .long)) (t' := .int) (by decide) (by decide)))
    have pF2_x78 := pF2_x76.other W78 (Or.inr (slot_ne (Or.inl (hw _ (List.mem_of_getElem? (i := 13) rfl))) (Or.inl (hw _ (List.mem_of_getElem? (i := 20) rfl))) (by decide) (t := (.array .long)) (t' := .int) (by decide) (by decide)))
    have A74__x78 := A74__x76.other W78 (Ne.symm n1)
    have A76__x78 := A76_.other W78 (Ne.symm n2)
    have pEm_x78 := pEm_x76.wr W78
    have pEh_x78 := pEh_x76.wr W78
    have N78 := Fr.snoc X78 N76 pg
    have Z78 : n0 ≤ h78.size := by rw [W78.size]; exact Z76
    have K78 := K76.wr W78 (Or.inl (List.mem_of_getElem? (i := 0) rfl))
    have Y78 : h0.size ≤ h78.size := by rw [W78.size]; exact Y76
    refine own_fwd st78 ?_
    show own_R p.tables e below P (T78.setTop (mkF m 97 #[.val (.ref a1), .val (.int p1), .val (.int wv)] []))
    obtain ⟨fs79, hr79, hrun79, hended79, hW79, hsame79⟩ := X78.leave (v := none) (fun _ => rfl)
    refine ⟨_, _, X78.returnOut hx Bd.returns (hb hby own_d3_97) hr79, fin _ _ ⟨hrun79, hended79, _, _, rfl, ?_, ⟨_, rfl⟩, hW79, hsame79.mono (by decide) (by decide)⟩⟩
    show own_Qa2 Z a1 mA hA z fm fh M H S p1 n h0 n0 _ T78.heap _
    rw [e78]
    exact ⟨rfl, N78, K78, mA, hA, M, H, _, _, pgm, pgh, n1, n2, n3, Or.inl rfl, Or.inl rfl, I0.add hnM (own_tb_one hp) (own_tb_one hw6), by omega, pE_x78, pF1_x78, pF2_x78, F78_, A74__x78, A76__x78, pEm_x78, pEh_x78⟩
  · refine own_fwd (fun tt kt => XS.icmpNo X71.here hx rfl (hb hby own_d3_11) rfl (flt hc72).1 kt) ?_
    show own_R p.tables e below P (T71.setTop (mkF m 14 #[.val (.ref a1), .val (.int p1), .val (.int wv)] []))
    have hcw := hc72
    rw [Int32.lt_iff_toInt_lt, hw6, lM] at hcw
    refine own_fwd (fun tt kt => XS.aloadN X71.here hx rfl (hb hby own_d3_14) rfl rfl kt) ?_
    show own_R p.tables e below P (T71.setTop (mkF m 15 #[.val (.ref a1), .val (.int p1), .val (.int wv)] [(.ref a1)]))
    refine own_fwd (fun tt kt => XS.aloadN X71.here hx rfl (hb hby own_d3_15) rfl rfl kt) ?_
    show own_R p.tables e below P (T71.setTop (mkF m 16 #[.val (.ref a1), .val (.int p1), .val (.int wv)] [(.ref a1), (.ref a1)]))
    obtain ⟨T80, X80, e80, st80⟩ := getF X71 hx hZ hown (host := "") (Or.inl (hw _ (List.mem_of_getElem? (i := 10) rfl))) Via.refl e71 pF1 (g := (mkF m 16 #[.val (.ref a1), .val (.int p1), .val (.int wv)] [(.ref a1), (.ref a1)])) rfl rfl (hb hby own_d3_16)
    refine own_fwd st80 ?_
    show own_R p.tables e below P (T80.setTop (mkF m 19 #[.val (.ref a1), .val (.int p1), .val (.int wv)] [(.ref mA), (.ref a1)]))
    refine own_fwd (fun tt kt => XS.iconst X80.here hx rfl (hb hby own_d3_19) kt) ?_
    show own_R p.tables e below P (T80.setTop (mkF m 20 #[.val (.ref a1), .val (.int p1), .val (.int wv)] [(.int (2 : Int32)), (.ref mA), (.ref a1)]))
    refine own_fwd (fun tt kt => XS.aloadN X80.here hx rfl (hb hby own_d3_20) rfl rfl kt) ?_
    show own_R p.tables e below P (T80.setTop (mkF m 21 #[.val (.ref a1), .val (.int p1), .val (.int wv)] [(.ref a1), (.int (2 : Int32)), (.ref mA), (.ref a1)]))
    obtain ⟨T81, X81, e81, st81⟩ := getF X80 hx hZ hown (host := "") (Or.inl (hw _ (List.mem_of_getElem? (i := 10) rfl))) Via.refl e80 pF1 (g := (mkF m 21 #[.val (.ref a1), .val (.int p1), .val (.int wv)] [(.ref a1), (.int (2 : Int32)), (.ref mA), (.ref a1)])) rfl rfl (hb hby own_d3_21)
    refine own_fwd st81 ?_
    show own_R p.tables e below P (T81.setTop (mkF m 24 #[.val (.ref a1), .val (.int p1), .val (.int wv)] [(.ref mA), (.int (2 : Int32)), (.ref mA), (.ref a1)]))
    refine own_fwd (own_len X81 hx hZ e81 pM M.toInt32 (len_toInt pM.bd) (g := (mkF m 24 #[.val (.ref a1), .val (.int p1), .val (.int wv)] [(.ref mA), (.int (2 : Int32)), (.ref mA), (.ref a1)])) rfl rfl (hb hby own_d3_24)) ?_
    show own_R p.tables e below P (T81.setTop (mkF m 25 #[.val (.ref a1), .val (.int p1), .val (.int wv)] [(.int M.toInt32), (.int (2 : Int32)), (.ref mA), (.ref a1)]))
    refine own_fwd (fun tt kt => XS.imul X81.here hx rfl (hb hby own_d3_25) rfl kt) ?_
    show own_R p.tables e below P (T81.setTop (mkF m 26 #[.val (.ref a1), .val (.int p1), .val (.int wv)] [(.int ((2 : Int32) * M.toInt32)), (.ref mA), (.ref a1)]))
    refine own_fwd (fun tt kt => XS.iloadN X81.here hx rfl (hb hby own_d3_26) rfl kt) ?_
    show own_R p.tables e below P (T81.setTop (mkF m 27 #[.val (.ref a1), .val (.int p1), .val (.int wv)] [(.int wv), (.int ((2 : Int32) * M.toInt32)), (.ref mA), (.ref a1)]))
    refine own_fwd (fun tt kt => XS.iconst X81.here hx rfl (hb hby own_d3_27) kt) ?_
    show own_R p.tables e below P (T81.setTop (mkF m 28 #[.val (.ref a1), .val (.int p1), .val (.int wv)] [(.int (1 : Int32)), (.int wv), (.int ((2 : Int32) * M.toInt32)), (.ref mA), (.ref a1)]))
    refine own_fwd (fun tt kt => XS.iadd X81.here hx rfl (hb hby own_d3_28) rfl kt) ?_
    show own_R p.tables e below P (T81.setTop (mkF m 29 #[.val (.ref a1), .val (.int p1), .val (.int wv)] [(.int (wv + (1 : Int32))), (.int ((2 : Int32) * M.toInt32)), (.ref mA), (.ref a1)]))
    obtain ⟨_, _, ⟨T82, L82, k82, n82⟩, -, X82, ⟨Lc82, hQ82, l82, y82, z82⟩, st82⟩ := Jvm.LawKit.callS X81 hx (y := (⟨"java/lang/Math", "max", "(II)I"⟩ : MethodName)) hown (mvT hZ (hw _ (List.mem_of_getElem? (i := 64) rfl))) (mvT hZ (hw _ (List.mem_of_getElem? (i := 65) rfl))) (mvT hZ (hw _ (List.mem_of_getElem? (i := 66) rfl))) (mvT hZ (hw _ (List.mem_of_getElem? (i := 67) rfl))) (by decide) (backOf (W := 2) (own_rm13 l Z a0 hw [] ((2 : Int32) * M.toInt32) (wv + (1 : Int32)) h0 n0 Z0 ) hZ (hw _ (List.mem_of_getElem? (i := 67) rfl)) (hw _ (List.mem_of_getElem? (i := 66) rfl)) (by decide) (by decide)) (g := (mkF m 29 #[.val (.ref a1), .val (.int p1), .val (.int wv)] [(.int (wv + (1 : Int32))), (.int ((2 : Int32) * M.toInt32)), (.ref mA), (.ref a1)])) rfl (by rw [hml]; rfl) (argsL := [(.int ((2 : Int32) * M.toInt32)), (.int (wv + (1 : Int32)))]) (rest := [(.ref mA), (.ref a1)]) (lenOf own_pd0 rfl) rfl (by show 2 * 0 + _ ≤ _; exact Nat.le_of_eq rfl) (hb hby own_d3_29) (fun _ _ => ⟨rfl, e81, (by decide : 0 + 0 ≤ _), (by decide : 0 + 0 ≤ _)⟩)
    dsimp only [Pt.U, Pt.locs, Pt.cells, Pt.slots] at X82 l82 y82 z82 st82 hQ82
    rw [l82, (show k82 = 0 from y82), (show n82 = 0 from z82)] at X82
    obtain ⟨h82, e82⟩ : ∃ z, T82.heap = z := ⟨_, rfl⟩
    rw [e82] at hQ82
    obtain ⟨hq82, N82q, q82⟩ := hQ82
    rw [q82] at e82
    rw [hq82] at st82
    have N82 := Fr.app N0 N82q
    refine own_fwd st82 ?_
    show own_R p.tables e below P (T82.setTop (mkF m 32 #[.val (.ref a1), .val (.int p1), .val (.int wv)] [(.int (if ((2 : Int32) * M.toInt32) < (wv + (1 : Int32)) then (wv + (1 : Int32)) else ((2 : Int32) * M.toInt32))), (.ref mA), (.ref a1)]))
    obtain ⟨mx, hmx⟩ : ∃ q, (if ((2 : Int32) * M.toInt32) < (wv + (1 : Int32)) then (wv + (1 : Int32)) else ((2 : Int32) * M.toInt32)) = q := ⟨_, rfl⟩
    rw [hmx]
    show own_R p.tables e below P (T82.setTop (mkF m 32 #[.val (.ref a1), .val (.int p1), .val (.int wv)] [(.int mx), (.ref mA), (.ref a1)]))
    obtain ⟨M', hM', bM1, bM2, bM3⟩ : ∃ M' : Nat, mx.toInt = (M' : Int) ∧ M < M' ∧ n / 64 < M' ∧ M' ≤ 766 := by
      have a1 := c_imul 2 M.toInt32
      have r1 := rng32 ((2 : Int32) * M.toInt32)
      rw [lM, show (2 : Int32).toInt = 2 from rfl] at a1
      have a2 := own_addn (j := 1) hw6 own_i1 (by omega)
      rw [← hmx]
      split <;> rename_i q <;> rw [Int32.lt_iff_toInt_lt] at q
      · exact ⟨n / 64 + 1, a2, by omega, by omega, by omega⟩
      · exact ⟨2 * M, by omega, by omega, by omega, by omega⟩
    obtain ⟨_, _, ⟨T83, L83, k83, n83⟩, -, X83, ⟨Lc83, hQ83, l83, y83, z83⟩, st83⟩ := Jvm.LawKit.callS X82 hx (y := (⟨"java/util/Arrays", "copyOf", "([JI)[J"⟩ : MethodName)) hown (mvT hZ (hw _ (List.mem_of_getElem? (i := 68) rfl))) (mvT hZ (hw _ (List.mem_of_getElem? (i := 69) rfl))) (mvT hZ (hw _ (List.mem_of_getElem? (i := 70) rfl))) (mvT hZ (hw _ (List.mem_of_getElem? (i := 71) rfl))) (by decide) (backOf (W := 1) (own_rmcp766 l Z a0 hw [] mA mx fm M M' h0 n0 Z0 pM pEm hM' (by omega) (by omega)) hZ (hw _ (List.mem_of_getElem? (i := 71) rfl)) (hw _ (List.mem_of_getElem? (i := 70) rfl)) (by decide) (by decide)) (g := (mkF m 32 #[.val (.ref a1), .val (.int p1), .val (.int wv)] [(.int mx), (.ref mA), (.ref a1)])) rfl (by rw [hml]; rfl) (argsL := [(.ref mA), (.int mx)]) (rest := [(.ref a1)]) (lenOf own_pd1 rfl) rfl (by show 2 * 0 + _ ≤ _; exact Nat.le_of_eq rfl) (hb hby own_d3_32) (fun _ _ => ⟨rfl, e82, (by decide : 0 + 1 ≤ _), (by decide : 0 + 766 ≤ _)⟩)
    dsimp only [Pt.U, Pt.locs, Pt.cells, Pt.slots] at X83 l83 y83 z83 st83 hQ83
    rw [l83, (show k83 = 1 from y83), (show n83 = 766 from z83)] at X83
    obtain ⟨h83, e83⟩ : ∃ z, T83.heap = z := ⟨_, rfl⟩
    rw [e83] at hQ83
    obtain ⟨o83, hq83, N83q, ge_o83, sz_o83, K83, A83_, B83_⟩ := hQ83
    rw [hq83] at st83
    have N83 := Fr.app N82 N83q
    have ne83_a1 : a1 ≠ o83 := Nat.ne_of_lt (Nat.lt_of_lt_of_le pE.lt sz_o83)
    have ne83_mA : mA ≠ o83 := Nat.ne_of_lt (Nat.lt_of_lt_of_le pM.lt sz_o83)
    have ne83_hA : hA ≠ o83 := Nat.ne_of_lt (Nat.lt_of_lt_of_le pH.lt sz_o83)
    have sz0_o83 : h0.size ≤ o83 := Nat.le_trans (Nat.le_refl h0.size) sz_o83
    have sz_o83 := sz0_o83
    have pE_x83 := pE.keep K83
    have pF1_x83 := pF1.keep K83 nin0
    have pF2_x83 := pF2.keep K83 nin0
    have pF3_x83 := pF3.keep K83 nin0
    have pM_x83 := pM.keep K83 nin0
    have pH_x83 := pH.keep K83 nin0
    have pEm_x83 := pEm.keep K83
    have pEh_x83 := pEh.keep K83
    have Z83 : n0 ≤ h83.size := Nat.le_trans Z0 K83.1
    have KK83 := K0.trans K83 all0
    have Y83 : h0.size ≤ h83.size := Nat.le_trans (Nat.le_refl h0.size) K83.1
    refine own_fwd st83 ?_
    show own_R p.tables e below P (T83.setTop (mkF m 35 #[.val (.ref a1), .val (.int p1), .val (.int wv)] [(.ref o83), (.ref a1)]))
    obtain ⟨T84, h84, X84, e84, W84, st84⟩ := putF X83 hx hZ hown (host := "") (Or.inl (hw _ (List.mem_of_getElem? (i := 10) rfl))) Via.refl e83 pF1_x83 pE_x83 (Or.inl (hw _ (List.mem_of_getElem? (i := 11) rfl))) (hw _ (List.mem_of_getElem? (i := 1) rfl)) (ty := (.array .long)) (by decide) rfl rfl (g := (mkF m 35 #[.val (.ref a1), .val (.int p1), .val (.int wv)] [(.ref o83), (.ref a1)])) rfl rfl (hb hby own_d3_35)
    have F84_ := pF1_x83.same W84
    have pE_x84 := pE_x83.wr W84
    have pF2_x84 := pF2_x83.other W84 (Or.inr (slot_ne (Or.inl (hw _ (List.mem_of_getElem? (i := 13) rfl))) (Or.inl (hw _ (List.mem_of_getElem? (i := 11) rfl))) (by decide) (t := (.array .long)) (t' := (.array .long)) (by decide) (by decide)))
    have pF3_x84 := pF3_x83.other W84 (Or.inr (slot_ne (Or.inl (hw _ (List.mem_of_getElem? (i := 20) rfl))) (Or.inl (hw _ (List.mem_of_getElem? (i := 11) rfl))) (by decide) (t := .int) (t' := (.array .long)) (by decide) (by decide)))
    have pM_x84 := pM_x83.other W84 (Ne.symm n1)
    have pH_x84 := pH_x83.other W84 (Ne.symm n2)
    have pEm_x84 := pEm_x83.wr W84
    have pEh_x84 := pEh_x83.wr W84
    have A83__x84 := A83_.other W84 (Ne.symm ne83_a1)
    have B83__x84 := B83_.wr W84
    have N84 := Fr.snoc X84 N83 pg
    have Z84 : n0 ≤ h84.size := by rw [W84.size]; exact Z83
    have K84 := KK83.wr W84 (Or.inl (List.mem_of_getElem? (i := 0) rfl))
    have Y84 : h0.size ≤ h84.size := by rw [W84.size]; exact Y83
    refine own_fwd st84 ?_
    show own_R p.tables e below P (T84.setTop (mkF m 38 #[.val (.ref a1), .val (.int p1), .val (.int wv)] []))
    refine own_fwd (fun tt kt => XS.aloadN X84.here hx rfl (hb hby own_d3_38) rfl rfl kt) ?_
    show own_R p.tables e below P (T84.setTop (mkF m 39 #[.val (.ref a1), .val (.int p1), .val (.int wv)] [(.ref a1)]))
    refine own_fwd (fun tt kt => XS.aloadN X84.here hx rfl (hb hby own_d3_39) rfl rfl kt) ?_
    show own_R p.tables e below P (T84.setTop (mkF m 40 #[.val (.ref a1), .val (.int p1), .val (.int wv)] [(.ref a1), (.ref a1)]))
    obtain ⟨T85, X85, e85, st85⟩ := getF X84 hx hZ hown (host := "") (Or.inl (hw _ (List.mem_of_getElem? (i := 12) rfl))) Via.refl e84 pF2_x84 (g := (mkF m 40 #[.val (.ref a1), .val (.int p1), .val (.int wv)] [(.ref a1), (.ref a1)])) rfl rfl (hb hby own_d3_40)
    refine own_fwd st85 ?_
    show own_R p.tables e below P (T85.setTop (mkF m 43 #[.val (.ref a1), .val (.int p1), .val (.int wv)] [(.ref hA), (.ref a1)]))
    refine own_fwd (fun tt kt => XS.aloadN X85.here hx rfl (hb hby own_d3_43) rfl rfl kt) ?_
    show own_R p.tables e below P (T85.setTop (mkF m 44 #[.val (.ref a1), .val (.int p1), .val (.int wv)] [(.ref a1), (.ref hA), (.ref a1)]))
    obtain ⟨T86, X86, e86, st86⟩ := getF X85 hx hZ hown (host := "") (Or.inl (hw _ (List.mem_of_getElem? (i := 10) rfl))) Via.refl e85 F84_ (g := (mkF m 44 #[.val (.ref a1), .val (.int p1), .val (.int wv)] [(.ref a1), (.ref hA), (.ref a1)])) rfl rfl (hb hby own_d3_44)
    refine own_fwd st86 ?_
    show own_R p.tables e below P (T86.setTop (mkF m 47 #[.val (.ref a1), .val (.int p1), .val (.int wv)] [(.ref o83), (.ref hA), (.ref a1)]))
    refine own_fwd (own_len X86 hx hZ e86 A83__x84 M'.toInt32 (len_toInt (by omega)) (g := (mkF m 47 #[.val (.ref a1), .val (.int p1), .val (.int wv)] [(.ref o83), (.ref hA), (.ref a1)])) rfl rfl (hb hby own_d3_47)) ?_
    show own_R p.tables e below P (T86.setTop (mkF m 48 #[.val (.ref a1), .val (.int p1), .val (.int wv)] [(.int M'.toInt32), (.ref hA), (.ref a1)]))
    refine own_fwd (fun tt kt => XS.bipush X86.here hx rfl (hb hby own_d3_48) kt) ?_
    show own_R p.tables e below P (T86.setTop (mkF m 50 #[.val (.ref a1), .val (.int p1), .val (.int wv)] [(.int (63 : Int32)), (.int M'.toInt32), (.ref hA), (.ref a1)]))
    refine own_fwd (fun tt kt => XS.iadd X86.here hx rfl (hb hby own_d3_50) rfl kt) ?_
    show own_R p.tables e below P (T86.setTop (mkF m 51 #[.val (.ref a1), .val (.int p1), .val (.int wv)] [(.int (M'.toInt32 + (63 : Int32))), (.ref hA), (.ref a1)]))
    refine own_fwd (fun tt kt => XS.bipush X86.here hx rfl (hb hby own_d3_51) kt) ?_
    show own_R p.tables e below P (T86.setTop (mkF m 53 #[.val (.ref a1), .val (.int p1), .val (.int wv)] [(.int (6 : Int32)), (.int (M'.toInt32 + (63 : Int32))), (.ref hA), (.ref a1)]))
    refine own_fwd (fun tt kt => XS.iushr X86.here hx rfl (hb hby own_d3_53) rfl kt) ?_
    show own_R p.tables e below P (T86.setTop (mkF m 54 #[.val (.ref a1), .val (.int p1), .val (.int wv)] [(.int (((M'.toInt32 + (63 : Int32)).toUInt32 >>> ((6 : Int32) &&& 31).toUInt32).toInt32)), (.ref hA), (.ref a1)]))
    obtain ⟨_, _, ⟨T87, L87, k87, n87⟩, -, X87, ⟨Lc87, hQ87, l87, y87, z87⟩, st87⟩ := Jvm.LawKit.callS X86 hx (y := (⟨"java/util/Arrays", "copyOf", "([JI)[J"⟩ : MethodName)) hown (mvT hZ (hw _ (List.mem_of_getElem? (i := 68) rfl))) (mvT hZ (hw _ (List.mem_of_getElem? (i := 69) rfl))) (mvT hZ (hw _ (List.mem_of_getElem? (i := 70) rfl))) (mvT hZ (hw _ (List.mem_of_getElem? (i := 71) rfl))) (by decide) (backOf (W := 1) (own_rmcp12 l Z a0 hw [] hA (((M'.toInt32 + (63 : Int32)).toUInt32 >>> ((6 : Int32) &&& 31).toUInt32).toInt32) fh H ((M' + 63) / 64) h84 n0 Z84 pH_x84 pEh_x84 (own_sh6 (own_addn (i := M') (j := 63) (len_toInt (by omega)) rfl (by omega))) (by omega) (by omega)) hZ (hw _ (List.mem_of_getElem? (i := 71) rfl)) (hw _ (List.mem_of_getElem? (i := 70) rfl)) (by decide) (by decide)) (g := (mkF m 54 #[.val (.ref a1), .val (.int p1), .val (.int wv)] [(.int (((M'.toInt32 + (63 : Int32)).toUInt32 >>> ((6 : Int32) &&& 31).toUInt32).toInt32)), (.ref hA), (.ref a1)])) rfl (by rw [hml]; rfl) (argsL := [(.ref hA), (.int (((M'.toInt32 + (63 : Int32)).toUInt32 >>> ((6 : Int32) &&& 31).toUInt32).toInt32))]) (rest := [(.ref a1)]) (lenOf own_pd1 rfl) rfl (by show 2 * 0 + _ ≤ _; exact Nat.le_of_eq rfl) (hb hby own_d3_54) (fun _ _ => ⟨rfl, e86, (by decide : 1 + 1 ≤ _), (by decide : 766 + 12 ≤ _)⟩)
    dsimp only [Pt.U, Pt.locs, Pt.cells, Pt.slots] at X87 l87 y87 z87 st87 hQ87
    rw [l87, (show k87 = 2 from y87), (show n87 = 778 from z87)] at X87
    obtain ⟨h87, e87⟩ : ∃ z, T87.heap = z := ⟨_, rfl⟩
    rw [e87] at hQ87
    obtain ⟨o87, hq87, N87q, ge_o87, sz_o87, K87, A87_, B87_⟩ := hQ87
    rw [hq87] at st87
    have N87 := Fr.app N84 N87q
    have ne87_a1 : a1 ≠ o87 := Nat.ne_of_lt (Nat.lt_of_lt_of_le pE_x84.lt sz_o87)
    have ne87_mA : mA ≠ o87 := Nat.ne_of_lt (Nat.lt_of_lt_of_le pM_x84.lt sz_o87)
    have ne87_hA : hA ≠ o87 := Nat.ne_of_lt (Nat.lt_of_lt_of_le pH_x84.lt sz_o87)
    have ne87_o83 : o83 ≠ o87 := Nat.ne_of_lt (Nat.lt_of_lt_of_le A83__x84.lt sz_o87)
    have sz0_o87 : h0.size ≤ o87 := Nat.le_trans Y84 sz_o87
    have sz_o87 := sz0_o87
    have pE_x87 := pE_x84.keep K87
    have F84__x87 := F84_.keep K87 nin0
    have pF2_x87 := pF2_x84.keep K87 nin0
    have pF3_x87 := pF3_x84.keep K87 nin0
    have pM_x87 := pM_x84.keep K87 nin0
    have pH_x87 := pH_x84.keep K87 nin0
    have pEm_x87 := pEm_x84.keep K87
    have pEh_x87 := pEh_x84.keep K87
    have A83__x87 := A83__x84.keep K87 nin0
    have B83__x87 := B83__x84.keep K87
    have Z87 : n0 ≤ h87.size := Nat.le_trans Z84 K87.1
    have KK87 := K84.trans K87 all0
    have Y87 : h0.size ≤ h87.size := Nat.le_trans Y84 K87.1
    refine own_fwd st87 ?_
    show own_R p.tables e below P (T87.setTop (mkF m 57 #[.val (.ref a1), .val (.int p1), .val (.int wv)] [(.ref o87), (.ref a1)]))
    obtain ⟨T88, h88, X88, e88, W88, st88⟩ := putF X87 hx hZ hown (host := "") (Or.inl (hw _ (List.mem_of_getElem? (i := 12) rfl))) Via.refl e87 pF2_x87 pE_x87 (Or.inl (hw _ (List.mem_of_getElem? (i := 13) rfl))) (hw _ (List.mem_of_getElem? (i := 1) rfl)) (ty := (.array .long)) (by decide) rfl rfl (g := (mkF m 57 #[.val (.ref a1), .val (.int p1), .val (.int wv)] [(.ref o87), (.ref a1)])) rfl rfl (hb hby own_d3_57)
    have F88_ := pF2_x87.same W88
    have pE_x88 := pE_x87.wr W88
    have F84__x88 := F84__x87.other W88 (Or.inr (slot_ne (Or.inl (hw _ (List.mem_of_getElem? (i := 11) rfl))) (Or.inl (hw _ (List.mem_of_getElem? (i := 13) rfl))) (by decide) (t := (.array .long)) (t' := (.array .long)) (by decide) (by decide)))
    have pF3_x88 := pF3_x87.other W88 (Or.inr (slot_ne (Or.inl (hw _ (List.mem_of_getElem? (i := 20) rfl))) (Or.inl (hw _ (List.mem_of_getElem? (i := 13) rfl))) (by decide) (t := .int) (t' := (.array .long)) (by decide) (by decide)))
    have pM_x88 := pM_x87.other W88 (Ne.symm n1)
    have pH_x88 := pH_x87.other W88 (Ne.symm n2)
    have pEm_x88 := pEm_x87.wr W88
    have pEh_x88 := pEh_x87.wr W88
    have A83__x88 := A83__x87.other W88 (Ne.symm ne83_a1)
    have B83__x88 := B83__x87.wr W88
    have A87__x88 := A87_.other W88 (Ne.symm ne87_a1)
    have B87__x88 := B87_.wr W88
    have N88 := Fr.snoc X88 N87 pg
    have Z88 : n0 ≤ h88.size := by rw [W88.size]; exact Z87
    have K88 := KK87.wr W88 (Or.inl (List.mem_of_getElem? (i := 0) rfl))
    have Y88 : h0.size ≤ h88.size := by rw [W88.size]; exact Y87
    refine own_fwd st88 ?_
    show own_R p.tables e below P (T88.setTop (mkF m 60 #[.val (.ref a1), .val (.int p1), .val (.int wv)] []))
    have I0 := pI.grow (M' := M') (by omega) rfl
    have hnM : n / 64 < M' := bM2
    refine own_fwd (fun tt kt => XS.aloadN X88.here hx rfl (hb hby own_d3_60) rfl rfl kt) ?_
    show own_R p.tables e below P (T88.setTop (mkF m 61 #[.val (.ref a1), .val (.int p1), .val (.int wv)] [(.ref a1)]))
    obtain ⟨T89, X89, e89, st89⟩ := getF X88 hx hZ hown (host := "") (Or.inl (hw _ (List.mem_of_getElem? (i := 10) rfl))) Via.refl e88 F84__x88 (g := (mkF m 61 #[.val (.ref a1), .val (.int p1), .val (.int wv)] [(.ref a1)])) rfl rfl (hb hby own_d3_61)
    refine own_fwd st89 ?_
    show own_R p.tables e below P (T89.setTop (mkF m 64 #[.val (.ref a1), .val (.int p1), .val (.int wv)] [(.ref o83)]))
    refine own_fwd (fun tt kt => XS.iloadN X89.here hx rfl (hb hby own_d3_64) rfl kt) ?_
    show own_R p.tables e below P (T89.setTop (mkF m 65 #[.val (.ref a1), .val (.int p1), .val (.int wv)] [(.int wv), (.ref o83)]))
    refine own_fwd (fun tt kt => XT.dup2 X89.here hx rfl (hb hby own_d3_65) rfl rfl rfl kt) ?_
    show own_R p.tables e below P (T89.setTop (mkF m 66 #[.val (.ref a1), .val (.int p1), .val (.int wv)] [(.int wv), (.ref o83), (.int wv), (.ref o83)]))
    refine own_fwd (own_ldJ X89 hx hZ e89 A83__x88 (j := wv) (n / 64) hw6 hnM (g := (mkF m 66 #[.val (.ref a1), .val (.int p1), .val (.int wv)] [(.int wv), (.ref o83), (.int wv), (.ref o83)])) rfl rfl (hb hby own_d3_66)) ?_
    show own_R p.tables e below P (T89.setTop (mkF m 67 #[.val (.ref a1), .val (.int p1), .val (.int wv)] [(.long ((own_gr fm M) (n / 64))), (.int wv), (.ref o83)]))
    refine own_fwd (fun tt kt => XS.lconst X89.here hx rfl (hb hby own_d3_67) kt) ?_
    show own_R p.tables e below P (T89.setTop (mkF m 68 #[.val (.ref a1), .val (.int p1), .val (.int wv)] [(.long (1 : Int64)), (.long ((own_gr fm M) (n / 64))), (.int wv), (.ref o83)]))
    refine own_fwd (fun tt kt => XS.iloadN X89.here hx rfl (hb hby own_d3_68) rfl kt) ?_
    show own_R p.tables e below P (T89.setTop (mkF m 69 #[.val (.ref a1), .val (.int p1), .val (.int wv)] [(.int p1), (.long (1 : Int64)), (.long ((own_gr fm M) (n / 64))), (.int wv), (.ref o83)]))
    refine own_fwd (fun tt kt => XS.lshl X89.here hx rfl (hb hby own_d3_69) rfl kt) ?_
    show own_R p.tables e below P (T89.setTop (mkF m 70 #[.val (.ref a1), .val (.int p1), .val (.int wv)] [(.long ((1 : Int64) <<< (p1 &&& 0x3f).toInt64)), (.long ((own_gr fm M) (n / 64))), (.int wv), (.ref o83)]))
    refine own_fwd (fun tt kt => XS.lor X89.here hx rfl (hb hby own_d3_70) rfl kt) ?_
    show own_R p.tables e below P (T89.setTop (mkF m 71 #[.val (.ref a1), .val (.int p1), .val (.int wv)] [(.long (((own_gr fm M) (n / 64)) ||| ((1 : Int64) <<< (p1 &&& 0x3f).toInt64))), (.int wv), (.ref o83)]))
    obtain ⟨T90, h90, X90, e90, W90, A90_, st90⟩ := own_stJ X89 hx hZ e89 A83__x88 (j := wv) (n / 64) hw6 hnM (g := (mkF m 71 #[.val (.ref a1), .val (.int p1), .val (.int wv)] [(.long (((own_gr fm M) (n / 64)) ||| ((1 : Int64) <<< (p1 &&& 0x3f).toInt64))), (.int wv), (.ref o83)])) rfl rfl (hb hby own_d3_71)
    have pE_x90 := pE_x88.wr W90
    have F84__x90 := F84__x88.other W90 (Or.inl ne83_a1)
    have F88__x90 := F88_.other W90 (Or.inl ne83_a1)
    have pF3_x90 := pF3_x88.other W90 (Or.inl ne83_a1)
    have pM_x90 := pM_x88.other W90 ne83_mA
    have pH_x90 := pH_x88.other W90 ne83_hA
    have pEm_x90 := pEm_x88.wr W90
    have pEh_x90 := pEh_x88.wr W90
    have B83__x90 := B83__x88.wr W90
    have A87__x90 := A87__x88.other W90 (Ne.symm ne87_o83)
    have B87__x90 := B87__x88.wr W90
    have N90 := Fr.snoc X90 N88 ge_o83
    have Z90 : n0 ≤ h90.size := by rw [W90.size]; exact Z88
    have K90 := K88.wr W90 (Or.inr sz_o83)
    have Y90 : h0.size ≤ h90.size := by rw [W90.size]; exact Y88
    refine own_fwd st90 ?_
    show own_R p.tables e below P (T90.setTop (mkF m 72 #[.val (.ref a1), .val (.int p1), .val (.int wv)] []))
    refine own_fwd (fun tt kt => XS.aloadN X90.here hx rfl (hb hby own_d3_72) rfl rfl kt) ?_
    show own_R p.tables e below P (T90.setTop (mkF m 73 #[.val (.ref a1), .val (.int p1), .val (.int wv)] [(.ref a1)]))
    obtain ⟨T91, X91, e91, st91⟩ := getF X90 hx hZ hown (host := "") (Or.inl (hw _ (List.mem_of_getElem? (i := 12) rfl))) Via.refl e90 F88__x90 (g := (mkF m 73 #[.val (.ref a1), .val (.int p1), .val (.int wv)] [(.ref a1)])) rfl rfl (hb hby own_d3_73)
    refine own_fwd st91 ?_
    show own_R p.tables e below P (T91.setTop (mkF m 76 #[.val (.ref a1), .val (.int p1), .val (.int wv)] [(.ref o87)]))
    refine own_fwd (fun tt kt => XS.iloadN X91.here hx rfl (hb hby own_d3_76) rfl kt) ?_
    show own_R p.tables e below P (T91.setTop (mkF m 77 #[.val (.ref a1), .val (.int p1), .val (.int wv)] [(.int wv), (.ref o87)]))
    refine own_fwd (fun tt kt => XS.bipush X91.here hx rfl (hb hby own_d3_77) kt) ?_
    show own_R p.tables e below P (T91.setTop (mkF m 79 #[.val (.ref a1), .val (.int p1), .val (.int wv)] [(.int (6 : Int32)), (.int wv), (.ref o87)]))
    refine own_fwd (fun tt kt => XS.iushr X91.here hx rfl (hb hby own_d3_79) rfl kt) ?_
    show own_R p.tables e below P (T91.setTop (mkF m 80 #[.val (.ref a1), .val (.int p1), .val (.int wv)] [(.int ((wv.toUInt32 >>> ((6 : Int32) &&& 31).toUInt32).toInt32)), (.ref o87)]))
    refine own_fwd (fun tt kt => XT.dup2 X91.here hx rfl (hb hby own_d3_80) rfl rfl rfl kt) ?_
    show own_R p.tables e below P (T91.setTop (mkF m 81 #[.val (.ref a1), .val (.int p1), .val (.int wv)] [(.int ((wv.toUInt32 >>> ((6 : Int32) &&& 31).toUInt32).toInt32)), (.ref o87), (.int ((wv.toUInt32 >>> ((6 : Int32) &&& 31).toUInt32).toInt32)), (.ref o87)]))
    refine own_fwd (own_ldJ X91 hx hZ e91 A87__x90 (j := ((wv.toUInt32 >>> ((6 : Int32) &&& 31).toUInt32).toInt32)) (n / 64 / 64) (own_sh6 hw6) (by omega) (g := (mkF m 81 #[.val (.ref a1), .val (.int p1), .val (.int wv)] [(.int ((wv.toUInt32 >>> ((6 : Int32) &&& 31).toUInt32).toInt32)), (.ref o87), (.int ((wv.toUInt32 >>> ((6 : Int32) &&& 31).toUInt32).toInt32)), (.ref o87)])) rfl rfl (hb hby own_d3_81)) ?_
    show own_R p.tables e below P (T91.setTop (mkF m 82 #[.val (.ref a1), .val (.int p1), .val (.int wv)] [(.long ((own_gr fh H) (n / 64 / 64))), (.int ((wv.toUInt32 >>> ((6 : Int32) &&& 31).toUInt32).toInt32)), (.ref o87)]))
    refine own_fwd (fun tt kt => XS.lconst X91.here hx rfl (hb hby own_d3_82) kt) ?_
    show own_R p.tables e below P (T91.setTop (mkF m 83 #[.val (.ref a1), .val (.int p1), .val (.int wv)] [(.long (1 : Int64)), (.long ((own_gr fh H) (n / 64 / 64))), (.int ((wv.toUInt32 >>> ((6 : Int32) &&& 31).toUInt32).toInt32)), (.ref o87)]))
    refine own_fwd (fun tt kt => XS.iloadN X91.here hx rfl (hb hby own_d3_83) rfl kt) ?_
    show own_R p.tables e below P (T91.setTop (mkF m 84 #[.val (.ref a1), .val (.int p1), .val (.int wv)] [(.int wv), (.long (1 : Int64)), (.long ((own_gr fh H) (n / 64 / 64))), (.int ((wv.toUInt32 >>> ((6 : Int32) &&& 31).toUInt32).toInt32)), (.ref o87)]))
    refine own_fwd (fun tt kt => XS.lshl X91.here hx rfl (hb hby own_d3_84) rfl kt) ?_
    show own_R p.tables e below P (T91.setTop (mkF m 85 #[.val (.ref a1), .val (.int p1), .val (.int wv)] [(.long ((1 : Int64) <<< (wv &&& 0x3f).toInt64)), (.long ((own_gr fh H) (n / 64 / 64))), (.int ((wv.toUInt32 >>> ((6 : Int32) &&& 31).toUInt32).toInt32)), (.ref o87)]))
    refine own_fwd (fun tt kt => XS.lor X91.here hx rfl (hb hby own_d3_85) rfl kt) ?_
    show own_R p.tables e below P (T91.setTop (mkF m 86 #[.val (.ref a1), .val (.int p1), .val (.int wv)] [(.long (((own_gr fh H) (n / 64 / 64)) ||| ((1 : Int64) <<< (wv &&& 0x3f).toInt64))), (.int ((wv.toUInt32 >>> ((6 : Int32) &&& 31).toUInt32).toInt32)), (.ref o87)]))
    obtain ⟨T92, h92, X92, e92, W92, A92_, st92⟩ := own_stJ X91 hx hZ e91 A87__x90 (j := ((wv.toUInt32 >>> ((6 : Int32) &&& 31).toUInt32).toInt32)) (n / 64 / 64) (own_sh6 hw6) (by omega) (g := (mkF m 86 #[.val (.ref a1), .val (.int p1), .val (.int wv)] [(.long (((own_gr fh H) (n / 64 / 64)) ||| ((1 : Int64) <<< (wv &&& 0x3f).toInt64))), (.int ((wv.toUInt32 >>> ((6 : Int32) &&& 31).toUInt32).toInt32)), (.ref o87)])) rfl rfl (hb hby own_d3_86)
    have pE_x92 := pE_x90.wr W92
    have F84__x92 := F84__x90.other W92 (Or.inl ne87_a1)
    have F88__x92 := F88__x90.other W92 (Or.inl ne87_a1)
    have pF3_x92 := pF3_x90.other W92 (Or.inl ne87_a1)
    have pM_x92 := pM_x90.other W92 ne87_mA
    have pH_x92 := pH_x90.other W92 ne87_hA
    have pEm_x92 := pEm_x90.wr W92
    have pEh_x92 := pEh_x90.wr W92
    have A90__x92 := A90_.other W92 ne87_o83
    have B83__x92 := B83__x90.wr W92
    have B87__x92 := B87__x90.wr W92
    have N92 := Fr.snoc X92 N90 ge_o87
    have Z92 : n0 ≤ h92.size := by rw [W92.size]; exact Z90
    have K92 := K90.wr W92 (Or.inr sz_o87)
    have Y92 : h0.size ≤ h92.size := by rw [W92.size]; exact Y90
    refine own_fwd st92 ?_
    show own_R p.tables e below P (T92.setTop (mkF m 87 #[.val (.ref a1), .val (.int p1), .val (.int wv)] []))
    refine own_fwd (fun tt kt => XS.aloadN X92.here hx rfl (hb hby own_d3_87) rfl rfl kt) ?_
    show own_R p.tables e below P (T92.setTop (mkF m 88 #[.val (.ref a1), .val (.int p1), .val (.int wv)] [(.ref a1)]))
    refine own_fwd (fun tt kt => XS.dup X92.here hx rfl (hb hby own_d3_88) rfl rfl kt) ?_
    show own_R p.tables e below P (T92.setTop (mkF m 89 #[.val (.ref a1), .val (.int p1), .val (.int wv)] [(.ref a1), (.ref a1)]))
    obtain ⟨T93, X93, e93, st93⟩ := getF X92 hx hZ hown (host := "") (Or.inl (hw _ (List.mem_of_getElem? (i := 19) rfl))) Via.refl e92 pF3_x92 (g := (mkF m 89 #[.val (.ref a1), .val (.int p1), .val (.int wv)] [(.ref a1), (.ref a1)])) rfl rfl (hb hby own_d3_89)
    refine own_fwd st93 ?_
    show own_R p.tables e below P (T93.setTop (mkF m 92 #[.val (.ref a1), .val (.int p1), .val (.int wv)] [(.int z), (.ref a1)]))
    refine own_fwd (fun tt kt => XS.iconst X93.here hx rfl (hb hby own_d3_92) kt) ?_
    show own_R p.tables e below P (T93.setTop (mkF m 93 #[.val (.ref a1), .val (.int p1), .val (.int wv)] [(.int (1 : Int32)), (.int z), (.ref a1)]))
    refine own_fwd (fun tt kt => XS.iadd X93.here hx rfl (hb hby own_d3_93) rfl kt) ?_
    show own_R p.tables e below P (T93.setTop (mkF m 94 #[.val (.ref a1), .val (.int p1), .val (.int wv)] [(.int (z + (1 : Int32))), (.ref a1)]))
    obtain ⟨T94, h94, X94, e94, W94, st94⟩ := putF X93 hx hZ hown (host := "") (Or.inl (hw _ (List.mem_of_getElem? (i := 19) rfl))) Via.refl e93 pF3_x92 pE_x92 (Or.inl (hw _ (List.mem_of_getElem? (i := 20) rfl))) (hw _ (List.mem_of_getElem? (i := 1) rfl)) (ty := .int) (by decide) rfl rfl (g := (mkF m 94 #[.val (.ref a1), .val (.int p1), .val (.int wv)] [(.int (z + (1 : Int32))), (.ref a1)])) rfl rfl (hb hby own_d3_94)
    have F94_ := pF3_x92.same W94
    have pE_x94 := pE_x92.wr W94
    have F84__x94 := F84__x92.other W94 (Or.inr (slot_ne (Or.inl (hw _ (List.mem_of_getElem? (i := 11) rfl))) (Or.inl (hw _ (List.mem_of_getElem? (i := 20) rfl))) (by decide) (t := (.array .long)) (t' := .int) (by decide) (by decide)))
    have F88__x94 := F88__x92.other W94 (Or.inr (slot_ne (Or.inl (hw _ (List.mem_of_getElem? (i := 13) rfl))) (Or.inl (hw _ (List.mem_of_getElem? (i := 20) rfl))) (by decide) (t := (.array .long)) (t' := .int) (by decide) (by decide)))
    have pM_x94 := pM_x92.other W94 (Ne.symm n1)
    have pH_x94 := pH_x92.other W94 (Ne.symm n2)
    have pEm_x94 := pEm_x92.wr W94
    have pEh_x94 := pEh_x92.wr W94
    have A90__x94 := A90__x92.other W94 (Ne.symm ne83_a1)
    have B83__x94 := B83__x92.wr W94
    have A92__x94 := A92_.other W94 (Ne.symm ne87_a1)
    have B87__x94 := B87__x92.wr W94
    have N94 := Fr.snoc X94 N92 pg
    have Z94 : n0 ≤ h94.size := by rw [W94.size]; exact Z92
    have K94 := K92.wr W94 (Or.inl (List.mem_of_getElem? (i := 0) rfl))
    have Y94 : h0.size ≤ h94.size := by rw [W94.size]; exact Y92
    refine own_fwd st94 ?_
    show own_R p.tables e below P (T94.setTop (mkF m 97 #[.val (.ref a1), .val (.int p1), .val (.int wv)] []))
    obtain ⟨fs95, hr95, hrun95, hended95, hW95, hsame95⟩ := X94.leave (v := none) (fun _ => rfl)
    refine ⟨_, _, X94.returnOut hx Bd.returns (hb hby own_d3_97) hr95, fin _ _ ⟨hrun95, hended95, _, _, rfl, ?_, ⟨_, rfl⟩, hW95, hsame95.mono (by decide) (by decide)⟩⟩
    show own_Qa2 Z a1 mA hA z fm fh M H S p1 n h0 n0 _ T94.heap _
    rw [e94]
    exact ⟨rfl, N94, K94, o83, o87, M', ((M' + 63) / 64), _, _, ge_o83, ge_o87, ne83_a1, ne87_a1, ne87_o83, Or.inr sz_o83, Or.inr sz_o87, I0.add hnM (own_tb_one hp) (own_tb_one hw6), by omega, pE_x94, F84__x94, F88__x94, F94_, A90__x94, A92__x94, B83__x94, B87__x94⟩
theorem own_d4_0 : decode prog_129_method_6_code 0 = .ok (.iload_n 1, 1) := by decide +kernel
theorem own_d4_1 : decode prog_129_method_6_code 1 = .ok (.bipush 6, 2) := by decide +kernel
theorem own_d4_3 : decode prog_129_method_6_code 3 = .ok (.iushr, 1) := by decide +kernel
theorem own_d4_4 : decode prog_129_method_6_code 4 = .ok (.istore_n 2, 1) := by decide +kernel
theorem own_d4_5 : decode prog_129_method_6_code 5 = .ok (.aload_n 0, 1) := by decide +kernel
theorem own_d4_6 : decode prog_129_method_6_code 6 = .ok (.getfield 14, 3) := by decide +kernel
theorem own_d4_9 : decode prog_129_method_6_code 9 = .ok (.iload_n 2, 1) := by decide +kernel
theorem own_d4_10 : decode prog_129_method_6_code 10 = .ok (.dup2, 1) := by decide +kernel
theorem own_d4_11 : decode prog_129_method_6_code 11 = .ok (.laload, 1) := by decide +kernel
theorem own_d4_12 : decode prog_129_method_6_code 12 = .ok (.lconst 1, 1) := by decide +kernel
theorem own_d4_13 : decode prog_129_method_6_code 13 = .ok (.iload_n 1, 1) := by decide +kernel
theorem own_d4_14 : decode prog_129_method_6_code 14 = .ok (.lshl, 1) := by decide +kernel
theorem own_d4_15 : decode prog_129_method_6_code 15 = .ok (.ldc2_w 37, 3) := by decide +kernel
theorem own_d4_18 : decode prog_129_method_6_code 18 = .ok (.lxor, 1) := by decide +kernel
theorem own_d4_19 : decode prog_129_method_6_code 19 = .ok (.land, 1) := by decide +kernel
theorem own_d4_20 : decode prog_129_method_6_code 20 = .ok (.lastore, 1) := by decide +kernel
theorem own_d4_21 : decode prog_129_method_6_code 21 = .ok (.aload_n 0, 1) := by decide +kernel
theorem own_d4_22 : decode prog_129_method_6_code 22 = .ok (.getfield 14, 3) := by decide +kernel
theorem own_d4_25 : decode prog_129_method_6_code 25 = .ok (.iload_n 2, 1) := by decide +kernel
theorem own_d4_26 : decode prog_129_method_6_code 26 = .ok (.laload, 1) := by decide +kernel
theorem own_d4_27 : decode prog_129_method_6_code 27 = .ok (.lconst 0, 1) := by decide +kernel
theorem own_d4_28 : decode prog_129_method_6_code 28 = .ok (.lcmp, 1) := by decide +kernel
theorem own_d4_29 : decode prog_129_method_6_code 29 = .ok (.ifCond .ne 22, 3) := by decide +kernel
theorem own_d4_32 : decode prog_129_method_6_code 32 = .ok (.aload_n 0, 1) := by decide +kernel
theorem own_d4_33 : decode prog_129_method_6_code 33 = .ok (.getfield 18, 3) := by decide +kernel
theorem own_d4_36 : decode prog_129_method_6_code 36 = .ok (.iload_n 2, 1) := by decide +kernel
theorem own_d4_37 : decode prog_129_method_6_code 37 = .ok (.bipush 6, 2) := by decide +kernel
theorem own_d4_39 : decode prog_129_method_6_code 39 = .ok (.iushr, 1) := by decide +kernel
theorem own_d4_40 : decode prog_129_method_6_code 40 = .ok (.dup2, 1) := by decide +kernel
theorem own_d4_41 : decode prog_129_method_6_code 41 = .ok (.laload, 1) := by decide +kernel
theorem own_d4_42 : decode prog_129_method_6_code 42 = .ok (.lconst 1, 1) := by decide +kernel
theorem own_d4_43 : decode prog_129_method_6_code 43 = .ok (.iload_n 2, 1) := by decide +kernel
theorem own_d4_44 : decode prog_129_method_6_code 44 = .ok (.lshl, 1) := by decide +kernel
theorem own_d4_45 : decode prog_129_method_6_code 45 = .ok (.ldc2_w 37, 3) := by decide +kernel
theorem own_d4_48 : decode prog_129_method_6_code 48 = .ok (.lxor, 1) := by decide +kernel
theorem own_d4_49 : decode prog_129_method_6_code 49 = .ok (.land, 1) := by decide +kernel
theorem own_d4_50 : decode prog_129_method_6_code 50 = .ok (.lastore, 1) := by decide +kernel
theorem own_d4_51 : decode prog_129_method_6_code 51 = .ok (.aload_n 0, 1) := by decide +kernel
theorem own_d4_52 : decode prog_129_method_6_code 52 = .ok (.dup, 1) := by decide +kernel
theorem own_d4_53 : decode prog_129_method_6_code 53 = .ok (.getfield 21, 3) := by decide +kernel
theorem own_d4_56 : decode prog_129_method_6_code 56 = .ok (.iconst 1, 1) := by decide +kernel
theorem own_d4_57 : decode prog_129_method_6_code 57 = .ok (.isub, 1) := by decide +kernel
theorem own_d4_58 : decode prog_129_method_6_code 58 = .ok (.putfield 21, 3) := by decide +kernel
theorem own_d4_61 : decode prog_129_method_6_code 61 = .ok (.return_, 1) := by decide +kernel
theorem own_ef4 (m : MethodId) (a1 : Addr) (p1 : Int32) : entryFrame m #[(.ref a1), (.int p1)] 3 = mkF m 0 #[.val (.ref a1), .val (.int p1), .unset] [] := by first | (simp [entryFrame, mkF, argsToLocals, Value.category]; done) | rfl
def own_Q4 (Z : State) (a1 mA hA : Addr) (z : Int32) (fm fh : Nat → Int64) (M H : Nat) (S : Nat → Bool) (p1 : Int32) (n : Nat) (h0 : Heap) (n0 : Nat) (v : Option Value) (h : Heap) (L : List Loc) : Prop := v = none ∧ Fr n0 L ∧ Keep h0 h [a1, mA, hA] ∧ ∃ (mB hB : Addr) (M1 H1 : Nat) (fm1 fh1 : Nat → Int64), n0 ≤ mB ∧ n0 ≤ hB ∧ a1 ≠ mB ∧ a1 ≠ hB ∧ mB ≠ hB ∧ (mB = mA ∨ h0.size ≤ mB) ∧ (hB = hA ∨ h0.size ≤ hB) ∧ own_Inv M1 H1 fm1 fh1 (fun k => S k && !decide (k = n)) ∧ M1 ≤ 1000 ∧ Exa Z h a1 "com/example/ramp99/ramp99/service/replay/NumberSet" ∧ Fld Z h a1 "com/example/ramp99/ramp99/service/replay/NumberSet" "members" "[J" (.ref mB) ∧ Fld Z h a1 "com/example/ramp99/ramp99/service/replay/NumberSet" "holding" "[J" (.ref hB) ∧ Fld Z h a1 "com/example/ramp99/ramp99/service/replay/NumberSet" "size" "I" (.int (z - (1 : Int32))) ∧ own_AJ Z h mB M1 fm1 ∧ own_AJ Z h hB H1 fh1 ∧ Exa Z h mB "[J" ∧ Exa Z h hB "[J"
set_option maxRecDepth 65536 in
set_option maxHeartbeats 40000000 in
theorem own_rm4 (l : Launch) (Z : State) (a0 : Array Value) (hw : ∀ d ∈ tables_1, d.before a0 Z = true) (ws : List Jvm.Cond) (a1 mA hA : Addr) (z : Int32) (fm fh : Nat → Int64) (M H : Nat) (S : Nat → Bool) (p1 : Int32) (n : Nat) (h0 : Heap) (n0 : Nat) (Z0 : n0 ≤ h0.size) (pE : Exa Z h0 a1 "com/example/ramp99/ramp99/service/replay/NumberSet") (pF1 : Fld Z h0 a1 "com/example/ramp99/ramp99/service/replay/NumberSet" "members" "[J" (.ref mA)) (pF2 : Fld Z h0 a1 "com/example/ramp99/ramp99/service/replay/NumberSet" "holding" "[J" (.ref hA)) (pF3 : Fld Z h0 a1 "com/example/ramp99/ramp99/service/replay/NumberSet" "size" "I" (.int z)) (pM : own_AJ Z h0 mA M fm) (pH : own_AJ Z h0 hA H fh) (pEm : Exa Z h0 mA "[J") (pEh : Exa Z h0 hA "[J") (pg : n0 ≤ a1) (pgm : n0 ≤ mA) (pgh : n0 ≤ hA) (n1 : a1 ≠ mA) (n2 : a1 ≠ hA) (n3 : mA ≠ hA) (pI : own_Inv M H fm fh S) (bM : M ≤ 1000) (hp : p1.toInt = (n : Int)) (hin : S n = true) :
    MetFree l (⟨"com/example/ramp99/ramp99/service/replay/NumberSet", "remove", "(I)V"⟩ : MethodName) (head1 (Jvm.Cond.code (⟨"com/example/ramp99/ramp99/service/replay/NumberSet", "remove", "(I)V"⟩ : MethodName) prog_129_method_6_code 3 none :: ws) ({ frames := 0, cells := 0, slots := 0, locals := 0 } : Room)) (fun a U => a = #[(.ref a1), (.int p1)] ∧ Z.Warmed39 U.vm ∧ U.heap = h0) (fun _ _ _ _ _ => True) (fun _ U o U' => ∃ v L, o = .returned v ∧ own_Q4 Z a1 mA hA z fm fh M H S p1 n h0 n0 v U'.heap L ∧ FrameEnd U o U' L ({ frames := 0, cells := 0, slots := 0, locals := 0 } : Room).cells ({ frames := 0, cells := 0, slots := 0, locals := 0 } : Room).slots) := by
  refine MetFree.of_bodySF (plainFor_of_name own_pn1) hisR ?_
  intro p e s m args below meth c s₁ Bd hml0 hP hK
  obtain ⟨rfl, hZ, hh⟩ := hP
  have hx := Bd.exec
  have hby := Bd.bytes
  have hml : c.maxLocals = 3 := hml0
  have hown : s.vm.findClass "com/example/ramp99/ramp99/service/replay/NumberSet" = some m.cls := findClass_of_methodNamed Bd.named
  have hnm := (name_of_methodNamed Bd.named Bd.method).1
  have X0 : Stand p l e ({ frames := 0, cells := 0, slots := 0, locals := 0 } : Room) s m #[(.ref a1), (.int p1)] below meth c s₁ [] 0 0 := Stand.of_body Bd
  have e0 : s₁.heap = h0 := by rw [← hh, Bd.state]; rfl
  have N0 := Fr.nil n0
  refine own_nm (st := s₁.setTop (entryFrame m #[(.ref a1), (.int p1)] 3)) fun P fin => ?_
  refine own_fwd (fun tt kt => castTop (own_ef4 m a1 p1) kt) ?_
  show own_R p.tables e below P (s₁.setTop (mkF m 0 #[.val (.ref a1), .val (.int p1), .unset] []))
  have K0 := Keep.refl h0 [a1, mA, hA]
  have hw6 := own_sh6 hp
  obtain ⟨hnM, -, hvH, -⟩ := pI.has hin
  refine own_fwd (fun tt kt => XS.iloadN X0.here hx rfl (hb hby own_d4_0) rfl kt) ?_
  show own_R p.tables e below P (s₁.setTop (mkF m 1 #[.val (.ref a1), .val (.int p1), .unset] [(.int p1)]))
  refine own_fwd (fun tt kt => XS.bipush X0.here hx rfl (hb hby own_d4_1) kt) ?_
  show own_R p.tables e below P (s₁.setTop (mkF m 3 #[.val (.ref a1), .val (.int p1), .unset] [(.int (6 : Int32)), (.int p1)]))
  refine own_fwd (fun tt kt => XS.iushr X0.here hx rfl (hb hby own_d4_3) rfl kt) ?_
  show own_R p.tables e below P (s₁.setTop (mkF m 4 #[.val (.ref a1), .val (.int p1), .unset] [(.int ((p1.toUInt32 >>> ((6 : Int32) &&& 31).toUInt32).toInt32))]))
  obtain ⟨wv, hg_wv⟩ : ∃ z, ((p1.toUInt32 >>> ((6 : Int32) &&& 31).toUInt32).toInt32) = z := ⟨_, rfl⟩
  rw [hg_wv]
  show own_R p.tables e below P (s₁.setTop (mkF m 4 #[.val (.ref a1), .val (.int p1), .unset] [(.int wv)]))
  rw [hg_wv] at hw6
  refine own_fwd (fun tt kt => XS.istoreN X0.here hx rfl (hb hby own_d4_4) rfl (l' := #[.val (.ref a1), .val (.int p1), .val (.int wv)]) rfl kt) ?_
  show own_R p.tables e below P (s₁.setTop (mkF m 5 #[.val (.ref a1), .val (.int p1), .val (.int wv)] []))
  refine own_fwd (fun tt kt => XS.aloadN X0.here hx rfl (hb hby own_d4_5) rfl rfl kt) ?_
  show own_R p.tables e below P (s₁.setTop (mkF m 6 #[.val (.ref a1), .val (.int p1), .val (.int wv)] [(.ref a1)]))
  obtain ⟨T96, X96, e96, st96⟩ := getF X0 hx hZ hown (host := "") (Or.inl (hw _ (List.mem_of_getElem? (i := 10) rfl))) Via.refl e0 pF1 (g := (mkF m 6 #[.val (.ref a1), .val (.int p1), .val (.int wv)] [(.ref a1)])) rfl rfl (hb hby own_d4_6)
  refine own_fwd st96 ?_
  show own_R p.tables e below P (T96.setTop (mkF m 9 #[.val (.ref a1), .val (.int p1), .val (.int wv)] [(.ref mA)]))
  refine own_fwd (fun tt kt => XS.iloadN X96.here hx rfl (hb hby own_d4_9) rfl kt) ?_
  show own_R p.tables e below P (T96.setTop (mkF m 10 #[.val (.ref a1), .val (.int p1), .val (.int wv)] [(.int wv), (.ref mA)]))
  refine own_fwd (fun tt kt => XT.dup2 X96.here hx rfl (hb hby own_d4_10) rfl rfl rfl kt) ?_
  show own_R p.tables e below P (T96.setTop (mkF m 11 #[.val (.ref a1), .val (.int p1), .val (.int wv)] [(.int wv), (.ref mA), (.int wv), (.ref mA)]))
  refine own_fwd (own_ldJ X96 hx hZ e96 pM (j := wv) (n / 64) hw6 hnM (g := (mkF m 11 #[.val (.ref a1), .val (.int p1), .val (.int wv)] [(.int wv), (.ref mA), (.int wv), (.ref mA)])) rfl rfl (hb hby own_d4_11)) ?_
  show own_R p.tables e below P (T96.setTop (mkF m 12 #[.val (.ref a1), .val (.int p1), .val (.int wv)] [(.long (fm (n / 64))), (.int wv), (.ref mA)]))
  refine own_fwd (fun tt kt => XS.lconst X96.here hx rfl (hb hby own_d4_12) kt) ?_
  show own_R p.tables e below P (T96.setTop (mkF m 13 #[.val (.ref a1), .val (.int p1), .val (.int wv)] [(.long (1 : Int64)), (.long (fm (n / 64))), (.int wv), (.ref mA)]))
  refine own_fwd (fun tt kt => XS.iloadN X96.here hx rfl (hb hby own_d4_13) rfl kt) ?_
  show own_R p.tables e below P (T96.setTop (mkF m 14 #[.val (.ref a1), .val (.int p1), .val (.int wv)] [(.int p1), (.long (1 : Int64)), (.long (fm (n / 64))), (.int wv), (.ref mA)]))
  refine own_fwd (fun tt kt => XS.lshl X96.here hx rfl (hb hby own_d4_14) rfl kt) ?_
  show own_R p.tables e below P (T96.setTop (mkF m 15 #[.val (.ref a1), .val (.int p1), .val (.int wv)] [(.long ((1 : Int64) <<< (p1 &&& 0x3f).toInt64)), (.long (fm (n / 64))), (.int wv), (.ref mA)]))
  refine own_fwd (fun tt kt => X96.ldc2Long hx hown (mvT hZ (hw _ (List.mem_of_getElem? (i := 27) rfl))) (g := (mkF m 15 #[.val (.ref a1), .val (.int p1), .val (.int wv)] [(.long ((1 : Int64) <<< (p1 &&& 0x3f).toInt64)), (.long (fm (n / 64))), (.int wv), (.ref mA)])) rfl (hb hby own_d4_15) tt kt) ?_
  show own_R p.tables e below P (T96.setTop (mkF m 18 #[.val (.ref a1), .val (.int p1), .val (.int wv)] [(.long (-1 : Int64)), (.long ((1 : Int64) <<< (p1 &&& 0x3f).toInt64)), (.long (fm (n / 64))), (.int wv), (.ref mA)]))
  refine own_fwd (fun tt kt => XS.lxor X96.here hx rfl (hb hby own_d4_18) rfl kt) ?_
  show own_R p.tables e below P (T96.setTop (mkF m 19 #[.val (.ref a1), .val (.int p1), .val (.int wv)] [(.long (((1 : Int64) <<< (p1 &&& 0x3f).toInt64) ^^^ (-1 : Int64))), (.long (fm (n / 64))), (.int wv), (.ref mA)]))
  refine own_fwd (fun tt kt => XS.land X96.here hx rfl (hb hby own_d4_19) rfl kt) ?_
  show own_R p.tables e below P (T96.setTop (mkF m 20 #[.val (.ref a1), .val (.int p1), .val (.int wv)] [(.long ((fm (n / 64)) &&& (((1 : Int64) <<< (p1 &&& 0x3f).toInt64) ^^^ (-1 : Int64)))), (.int wv), (.ref mA)]))
  obtain ⟨T97, h97, X97, e97, W97, A97_, st97⟩ := own_stJ X96 hx hZ e96 pM (j := wv) (n / 64) hw6 hnM (g := (mkF m 20 #[.val (.ref a1), .val (.int p1), .val (.int wv)] [(.long ((fm (n / 64)) &&& (((1 : Int64) <<< (p1 &&& 0x3f).toInt64) ^^^ (-1 : Int64)))), (.int wv), (.ref mA)])) rfl rfl (hb hby own_d4_20)
  have pE_x97 := pE.wr W97
  have pF1_x97 := pF1.other W97 (Or.inl n1)
  have pF2_x97 := pF2.other W97 (Or.inl n1)
  have pF3_x97 := pF3.other W97 (Or.inl n1)
  have pH_x97 := pH.other W97 (Ne.symm n3)
  have pEm_x97 := pEm.wr W97
  have pEh_x97 := pEh.wr W97
  have N97 := Fr.snoc X97 N0 pgm
  have Z97 : n0 ≤ h97.size := by rw [W97.size]; exact Z0
  have K97 := K0.wr W97 (Or.inl (List.mem_of_getElem? (i := 1) rfl))
  have Y97 : h0.size ≤ h97.size := by rw [W97.size]; exact (Nat.le_refl h0.size)
  refine own_fwd st97 ?_
  show own_R p.tables e below P (T97.setTop (mkF m 21 #[.val (.ref a1), .val (.int p1), .val (.int wv)] []))
  refine own_fwd (fun tt kt => XS.aloadN X97.here hx rfl (hb hby own_d4_21) rfl rfl kt) ?_
  show own_R p.tables e below P (T97.setTop (mkF m 22 #[.val (.ref a1), .val (.int p1), .val (.int wv)] [(.ref a1)]))
  obtain ⟨T98, X98, e98, st98⟩ := getF X97 hx hZ hown (host := "") (Or.inl (hw _ (List.mem_of_getElem? (i := 10) rfl))) Via.refl e97 pF1_x97 (g := (mkF m 22 #[.val (.ref a1), .val (.int p1), .val (.int wv)] [(.ref a1)])) rfl rfl (hb hby own_d4_22)
  refine own_fwd st98 ?_
  show own_R p.tables e below P (T98.setTop (mkF m 25 #[.val (.ref a1), .val (.int p1), .val (.int wv)] [(.ref mA)]))
  refine own_fwd (fun tt kt => XS.iloadN X98.here hx rfl (hb hby own_d4_25) rfl kt) ?_
  show own_R p.tables e below P (T98.setTop (mkF m 26 #[.val (.ref a1), .val (.int p1), .val (.int wv)] [(.int wv), (.ref mA)]))
  refine own_fwd (own_ldJ X98 hx hZ e98 A97_ (j := wv) (n / 64) hw6 hnM (g := (mkF m 26 #[.val (.ref a1), .val (.int p1), .val (.int wv)] [(.int wv), (.ref mA)])) rfl rfl (hb hby own_d4_26)) ?_
  show own_R p.tables e below P (T98.setTop (mkF m 27 #[.val (.ref a1), .val (.int p1), .val (.int wv)] [(.long ((own_upd fm (n / 64) ((fm (n / 64)) &&& (((1 : Int64) <<< (p1 &&& 0x3f).toInt64) ^^^ (-1 : Int64)))) (n / 64)))]))
  have hv99 : ((own_upd fm (n / 64) ((fm (n / 64)) &&& (((1 : Int64) <<< (p1 &&& 0x3f).toInt64) ^^^ (-1 : Int64)))) (n / 64)) = (fm (n / 64) &&& (((1 : Int64) <<< (p1 &&& 0x3f).toInt64) ^^^ (-1 : Int64))) := own_upd_hit _ _ _
  rw [hv99]
  show own_R p.tables e below P (T98.setTop (mkF m 27 #[.val (.ref a1), .val (.int p1), .val (.int wv)] [(.long (fm (n / 64) &&& (((1 : Int64) <<< (p1 &&& 0x3f).toInt64) ^^^ (-1 : Int64))))]))
  refine own_fwd (fun tt kt => XS.lconst X98.here hx rfl (hb hby own_d4_27) kt) ?_
  show own_R p.tables e below P (T98.setTop (mkF m 28 #[.val (.ref a1), .val (.int p1), .val (.int wv)] [(.long (0 : Int64)), (.long (fm (n / 64) &&& (((1 : Int64) <<< (p1 &&& 0x3f).toInt64) ^^^ (-1 : Int64))))]))
  refine own_fwd (fun tt kt => XS.lcmp X98.here hx rfl (hb hby own_d4_28) rfl kt) ?_
  show own_R p.tables e below P (T98.setTop (mkF m 29 #[.val (.ref a1), .val (.int p1), .val (.int wv)] [(.int (lcmpW (fm (n / 64) &&& (((1 : Int64) <<< (p1 &&& 0x3f).toInt64) ^^^ (-1 : Int64))) (0 : Int64)))]))
  by_cases hc100 : (lcmpW (fm (n / 64) &&& (((1 : Int64) <<< (p1 &&& 0x3f).toInt64) ^^^ (-1 : Int64))) (0 : Int64)) = (0 : Int32)
  · refine own_fwd (fun tt kt => XS.ifNo X98.here hx rfl (hb hby own_d4_29) rfl ((if0 _ _).trans (teq hc100).2) kt) ?_
    show own_R p.tables e below P (T98.setTop (mkF m 32 #[.val (.ref a1), .val (.int p1), .val (.int wv)] []))
    refine own_fwd (fun tt kt => XS.aloadN X98.here hx rfl (hb hby own_d4_32) rfl rfl kt) ?_
    show own_R p.tables e below P (T98.setTop (mkF m 33 #[.val (.ref a1), .val (.int p1), .val (.int wv)] [(.ref a1)]))
    obtain ⟨T101, X101, e101, st101⟩ := getF X98 hx hZ hown (host := "") (Or.inl (hw _ (List.mem_of_getElem? (i := 12) rfl))) Via.refl e98 pF2_x97 (g := (mkF m 33 #[.val (.ref a1), .val (.int p1), .val (.int wv)] [(.ref a1)])) rfl rfl (hb hby own_d4_33)
    refine own_fwd st101 ?_
    show own_R p.tables e below P (T101.setTop (mkF m 36 #[.val (.ref a1), .val (.int p1), .val (.int wv)] [(.ref hA)]))
    refine own_fwd (fun tt kt => XS.iloadN X101.here hx rfl (hb hby own_d4_36) rfl kt) ?_
    show own_R p.tables e below P (T101.setTop (mkF m 37 #[.val (.ref a1), .val (.int p1), .val (.int wv)] [(.int wv), (.ref hA)]))
    refine own_fwd (fun tt kt => XS.bipush X101.here hx rfl (hb hby own_d4_37) kt) ?_
    show own_R p.tables e below P (T101.setTop (mkF m 39 #[.val (.ref a1), .val (.int p1), .val (.int wv)] [(.int (6 : Int32)), (.int wv), (.ref hA)]))
    refine own_fwd (fun tt kt => XS.iushr X101.here hx rfl (hb hby own_d4_39) rfl kt) ?_
    show own_R p.tables e below P (T101.setTop (mkF m 40 #[.val (.ref a1), .val (.int p1), .val (.int wv)] [(.int ((wv.toUInt32 >>> ((6 : Int32) &&& 31).toUInt32).toInt32)), (.ref hA)]))
    refine own_fwd (fun tt kt => XT.dup2 X101.here hx rfl (hb hby own_d4_40) rfl rfl rfl kt) ?_
    show own_R p.tables e below P (T101.setTop (mkF m 41 #[.val (.ref a1), .val (.int p1), .val (.int wv)] [(.int ((wv.toUInt32 >>> ((6 : Int32) &&& 31).toUInt32).toInt32)), (.ref hA), (.int ((wv.toUInt32 >>> ((6 : Int32) &&& 31).toUInt32).toInt32)), (.ref hA)]))
    refine own_fwd (own_ldJ X101 hx hZ e101 pH_x97 (j := ((wv.toUInt32 >>> ((6 : Int32) &&& 31).toUInt32).toInt32)) (n / 64 / 64) (own_sh6 hw6) hvH (g := (mkF m 41 #[.val (.ref a1), .val (.int p1), .val (.int wv)] [(.int ((wv.toUInt32 >>> ((6 : Int32) &&& 31).toUInt32).toInt32)), (.ref hA), (.int ((wv.toUInt32 >>> ((6 : Int32) &&& 31).toUInt32).toInt32)), (.ref hA)])) rfl rfl (hb hby own_d4_41)) ?_
    show own_R p.tables e below P (T101.setTop (mkF m 42 #[.val (.ref a1), .val (.int p1), .val (.int wv)] [(.long (fh (n / 64 / 64))), (.int ((wv.toUInt32 >>> ((6 : Int32) &&& 31).toUInt32).toInt32)), (.ref hA)]))
    refine own_fwd (fun tt kt => XS.lconst X101.here hx rfl (hb hby own_d4_42) kt) ?_
    show own_R p.tables e below P (T101.setTop (mkF m 43 #[.val (.ref a1), .val (.int p1), .val (.int wv)] [(.long (1 : Int64)), (.long (fh (n / 64 / 64))), (.int ((wv.toUInt32 >>> ((6 : Int32) &&& 31).toUInt32).toInt32)), (.ref hA)]))
    refine own_fwd (fun tt kt => XS.iloadN X101.here hx rfl (hb hby own_d4_43) rfl kt) ?_
    show own_R p.tables e below P (T101.setTop (mkF m 44 #[.val (.ref a1), .val (.int p1), .val (.int wv)] [(.int wv), (.long (1 : Int64)), (.long (fh (n / 64 / 64))), (.int ((wv.toUInt32 >>> ((6 : Int32) &&& 31).toUInt32).toInt32)), (.ref hA)]))
    refine own_fwd (fun tt kt => XS.lshl X101.here hx rfl (hb hby own_d4_44) rfl kt) ?_
    show own_R p.tables e below P (T101.setTop (mkF m 45 #[.val (.ref a1), .val (.int p1), .val (.int wv)] [(.long ((1 : Int64) <<< (wv &&& 0x3f).toInt64)), (.long (fh (n / 64 / 64))), (.int ((wv.toUInt32 >>> ((6 : Int32) &&& 31).toUInt32).toInt32)), (.ref hA)]))
    refine own_fwd (fun tt kt => X101.ldc2Long hx hown (mvT hZ (hw _ (List.mem_of_getElem? (i := 27) rfl))) (g := (mkF m 45 #[.val (.ref a1), .val (.int p1), .val (.int wv)] [(.long ((1 : Int64) <<< (wv &&& 0x3f).toInt64)), (.long (fh (n / 64 / 64))), (.int ((wv.toUInt32 >>> ((6 : Int32) &&& 31).toUInt32).toInt32)), (.ref hA)])) rfl (hb hby own_d4_45) tt kt) ?_
    show own_R p.tables e below P (T101.setTop (mkF m 48 #[.val (.ref a1), .val (.int p1), .val (.int wv)] [(.long (-1 : Int64)), (.long ((1 : Int64) <<< (wv &&& 0x3f).toInt64)), (.long (fh (n / 64 / 64))), (.int ((wv.toUInt32 >>> ((6 : Int32) &&& 31).toUInt32).toInt32)), (.ref hA)]))
    refine own_fwd (fun tt kt => XS.lxor X101.here hx rfl (hb hby own_d4_48) rfl kt) ?_
    show own_R p.tables e below P (T101.setTop (mkF m 49 #[.val (.ref a1), .val (.int p1), .val (.int wv)] [(.long (((1 : Int64) <<< (wv &&& 0x3f).toInt64) ^^^ (-1 : Int64))), (.long (fh (n / 64 / 64))), (.int ((wv.toUInt32 >>> ((6 : Int32) &&& 31).toUInt32).toInt32)), (.ref hA)]))
    refine own_fwd (fun tt kt => XS.land X101.here hx rfl (hb hby own_d4_49) rfl kt) ?_
    show own_R p.tables e below P (T101.setTop (mkF m 50 #[.val (.ref a1), .val (.int p1), .val (.int wv)] [(.long ((fh (n / 64 / 64)) &&& (((1 : Int64) <<< (wv &&& 0x3f).toInt64) ^^^ (-1 : Int64)))), (.int ((wv.toUInt32 >>> ((6 : Int32) &&& 31).toUInt32).toInt32)), (.ref hA)]))
    obtain ⟨T102, h102, X102, e102, W102, A102_, st102⟩ := own_stJ X101 hx hZ e101 pH_x97 (j := ((wv.toUInt32 >>> ((6 : Int32) &&& 31).toUInt32).toInt32)) (n / 64 / 64) (own_sh6 hw6) hvH (g := (mkF m 50 #[.val (.ref a1), .val (.int p1), .val (.int wv)] [(.long ((fh (n / 64 / 64)) &&& (((1 : Int64) <<< (wv &&& 0x3f).toInt64) ^^^ (-1 : Int64)))), (.int ((wv.toUInt32 >>> ((6 : Int32) &&& 31).toUInt32).toInt32)), (.ref hA)])) rfl rfl (hb hby own_d4_50)
    have pE_x102 := pE_x97.wr W102
    have pF1_x102 := pF1_x97.other W102 (Or.inl n2)
    have pF2_x102 := pF2_x97.other W102 (Or.inl n2)
    have pF3_x102 := pF3_x97.other W102 (Or.inl n2)
    have A97__x102 := A97_.other W102 n3
    have pEm_x102 := pEm_x97.wr W102
    have pEh_x102 := pEh_x97.wr W102
    have N102 := Fr.snoc X102 N97 pgh
    have Z102 : n0 ≤ h102.size := by rw [W102.size]; exact Z97
    have K102 := K97.wr W102 (Or.inl (List.mem_of_getElem? (i := 2) rfl))
    have Y102 : h0.size ≤ h102.size := by rw [W102.size]; exact Y97
    refine own_fwd st102 ?_
    show own_R p.tables e below P (T102.setTop (mkF m 51 #[.val (.ref a1), .val (.int p1), .val (.int wv)] []))
    refine own_fwd (fun tt kt => XS.aloadN X102.here hx rfl (hb hby own_d4_51) rfl rfl kt) ?_
    show own_R p.tables e below P (T102.setTop (mkF m 52 #[.val (.ref a1), .val (.int p1), .val (.int wv)] [(.ref a1)]))
    refine own_fwd (fun tt kt => XS.dup X102.here hx rfl (hb hby own_d4_52) rfl rfl kt) ?_
    show own_R p.tables e below P (T102.setTop (mkF m 53 #[.val (.ref a1), .val (.int p1), .val (.int wv)] [(.ref a1), (.ref a1)]))
    obtain ⟨T103, X103, e103, st103⟩ := getF X102 hx hZ hown (host := "") (Or.inl (hw _ (List.mem_of_getElem? (i := 19) rfl))) Via.refl e102 pF3_x102 (g := (mkF m 53 #[.val (.ref a1), .val (.int p1), .val (.int wv)] [(.ref a1), (.ref a1)])) rfl rfl (hb hby own_d4_53)
    refine own_fwd st103 ?_
    show own_R p.tables e below P (T103.setTop (mkF m 56 #[.val (.ref a1), .val (.int p1), .val (.int wv)] [(.int z), (.ref a1)]))
    refine own_fwd (fun tt kt => XS.iconst X103.here hx rfl (hb hby own_d4_56) kt) ?_
    show own_R p.tables e below P (T103.setTop (mkF m 57 #[.val (.ref a1), .val (.int p1), .val (.int wv)] [(.int (1 : Int32)), (.int z), (.ref a1)]))
    refine own_fwd (fun tt kt => XS.isub X103.here hx rfl (hb hby own_d4_57) rfl kt) ?_
    show own_R p.tables e below P (T103.setTop (mkF m 58 #[.val (.ref a1), .val (.int p1), .val (.int wv)] [(.int (z - (1 : Int32))), (.ref a1)]))
    obtain ⟨T104, h104, X104, e104, W104, st104⟩ := putF X103 hx hZ hown (host := "") (Or.inl (hw _ (List.mem_of_getElem? (i := 19) rfl))) Via.refl e103 pF3_x102 pE_x102 (Or.inl (hw _ (List.mem_of_getElem? (i := 20) rfl))) (hw _ (List.mem_of_getElem? (i := 1) rfl)) (ty := .int) (by decide) rfl rfl (g := (mkF m 58 #[.val (.ref a1), .val (.int p1), .val (.int wv)] [(.int (z - (1 : Int32))), (.ref a1)])) rfl rfl (hb hby own_d4_58)
    have F104_ := pF3_x102.same W104
    have pE_x104 := pE_x102.wr W104
    have pF1_x104 := pF1_x102.other W104 (Or.inr (slot_ne (Or.inl (hw _ (List.mem_of_getElem? (i := 11) rfl))) (Or.inl (hw _ (List.mem_of_getElem? (i := 20) rfl))) (by decide) (t := (.array .long)) (t' := .int) (by decide) (by decide)))
    have pF2_x104 := pF2_x102.other W104 (Or.inr (slot_ne (Or.inl (hw _ (List.mem_of_getElem? (i := 13) rfl))) (Or.inl (hw _ (List.mem_of_getElem? (i := 20) rfl))) (by decide) (t := (.array .long)) (t' := .int) (by decide) (by decide)))
    have A97__x104 := A97__x102.other W104 (Ne.symm n1)
    have A102__x104 := A102_.other W104 (Ne.symm n2)
    have pEm_x104 := pEm_x102.wr W104
    have pEh_x104 := pEh_x102.wr W104
    have N104 := Fr.snoc X104 N102 pg
    have Z104 : n0 ≤ h104.size := by rw [W104.size]; exact Z102
    have K104 := K102.wr W104 (Or.inl (List.mem_of_getElem? (i := 0) rfl))
    have Y104 : h0.size ≤ h104.size := by rw [W104.size]; exact Y102
    refine own_fwd st104 ?_
    show own_R p.tables e below P (T104.setTop (mkF m 61 #[.val (.ref a1), .val (.int p1), .val (.int wv)] []))
    obtain ⟨fs105, hr105, hrun105, hended105, hW105, hsame105⟩ := X104.leave (v := none) (fun _ => rfl)
    refine ⟨_, _, X104.returnOut hx Bd.returns (hb hby own_d4_61) hr105, fin _ _ ⟨hrun105, hended105, _, _, rfl, ?_, ⟨_, rfl⟩, hW105, hsame105.mono (by decide) (by decide)⟩⟩
    show own_Q4 Z a1 mA hA z fm fh M H S p1 n h0 n0 _ T104.heap _
    rw [e104]
    exact ⟨rfl, N104, K104, mA, hA, M, H, _, _, pgm, pgh, n1, n2, n3, Or.inl rfl, Or.inl rfl, pI.rem1 hnM (own_tb_one hp) (own_tb_one hw6) ((lw_eq _ _).mp hc100), by omega, pE_x104, pF1_x104, pF2_x104, F104_, A97__x104, A102__x104, pEm_x104, pEh_x104⟩
  · refine own_fwd (fun tt kt => XS.ifYes X98.here hx rfl (pc0 := 29) (pc' := 51) rfl (hb hby own_d4_29) rfl ((if0 _ _).trans (feq hc100).2) (by decide) (by decide) kt) ?_
    show own_R p.tables e below P (T98.setTop (mkF m 51 #[.val (.ref a1), .val (.int p1), .val (.int wv)] []))
    refine own_fwd (fun tt kt => XS.aloadN X98.here hx rfl (hb hby own_d4_51) rfl rfl kt) ?_
    show own_R p.tables e below P (T98.setTop (mkF m 52 #[.val (.ref a1), .val (.int p1), .val (.int wv)] [(.ref a1)]))
    refine own_fwd (fun tt kt => XS.dup X98.here hx rfl (hb hby own_d4_52) rfl rfl kt) ?_
    show own_R p.tables e below P (T98.setTop (mkF m 53 #[.val (.ref a1), .val (.int p1), .val (.int wv)] [(.ref a1), (.ref a1)]))
    obtain ⟨T106, X106, e106, st106⟩ := getF X98 hx hZ hown (host := "") (Or.inl (hw _ (List.mem_of_getElem? (i := 19) rfl))) Via.refl e98 pF3_x97 (g := (mkF m 53 #[.val (.ref a1), .val (.int p1), .val (.int wv)] [(.ref a1), (.ref a1)])) rfl rfl (hb hby own_d4_53)
    refine own_fwd st106 ?_
    show own_R p.tables e below P (T106.setTop (mkF m 56 #[.val (.ref a1), .val (.int p1), .val (.int wv)] [(.int z), (.ref a1)]))
    refine own_fwd (fun tt kt => XS.iconst X106.here hx rfl (hb hby own_d4_56) kt) ?_
    show own_R p.tables e below P (T106.setTop (mkF m 57 #[.val (.ref a1), .val (.int p1), .val (.int wv)] [(.int (1 : Int32)), (.int z), (.ref a1)]))
    refine own_fwd (fun tt kt => XS.isub X106.here hx rfl (hb hby own_d4_57) rfl kt) ?_
    show own_R p.tables e below P (T106.setTop (mkF m 58 #[.val (.ref a1), .val (.int p1), .val (.int wv)] [(.int (z - (1 : Int32))), (.ref a1)]))
    obtain ⟨T107, h107, X107, e107, W107, st107⟩ := putF X106 hx hZ hown (host := "") (Or.inl (hw _ (List.mem_of_getElem? (i := 19) rfl))) Via.refl e106 pF3_x97 pE_x97 (Or.inl (hw _ (List.mem_of_getElem? (i := 20) rfl))) (hw _ (List.mem_of_getElem? (i := 1) rfl)) (ty := .int) (by decide) rfl rfl (g := (mkF m 58 #[.val (.ref a1), .val (.int p1), .val (.int wv)] [(.int (z - (1 : Int32))), (.ref a1)])) rfl rfl (hb hby own_d4_58)
    have F107_ := pF3_x97.same W107
    have pE_x107 := pE_x97.wr W107
    have pF1_x107 := pF1_x97.other W107 (Or.inr (slot_ne (Or.inl (hw _ (List.mem_of_getElem? (i := 11) rfl))) (Or.inl (hw _ (List.mem_of_getElem? (i := 20) rfl))) (by decide) (t := (.array .long)) (t' := .int) (by decide) (by decide)))
    have pF2_x107 := pF2_x97.other W107 (Or.inr (slot_ne (Or.inl (hw _ (List.mem_of_getElem? (i := 13) rfl))) (Or.inl (hw _ (List.mem_of_getElem? (i := 20) rfl))) (by decide) (t := (.array .long)) (t' := .int) (by decide) (by decide)))
    have A97__x107 := A97_.other W107 (Ne.symm n1)
    have pH_x107 := pH_x97.other W107 (Ne.symm n2)
    have pEm_x107 := pEm_x97.wr W107
    have pEh_x107 := pEh_x97.wr W107
    have N107 := Fr.snoc X107 N97 pg
    have Z107 : n0 ≤ h107.size := by rw [W107.size]; exact Z97
    have K107 := K97.wr W107 (Or.inl (List.mem_of_getElem? (i := 0) rfl))
    have Y107 : h0.size ≤ h107.size := by rw [W107.size]; exact Y97
    refine own_fwd st107 ?_
    show own_R p.tables e below P (T107.setTop (mkF m 61 #[.val (.ref a1), .val (.int p1), .val (.int wv)] []))
    obtain ⟨fs108, hr108, hrun108, hended108, hW108, hsame108⟩ := X107.leave (v := none) (fun _ => rfl)
    refine ⟨_, _, X107.returnOut hx Bd.returns (hb hby own_d4_61) hr108, fin _ _ ⟨hrun108, hended108, _, _, rfl, ?_, ⟨_, rfl⟩, hW108, hsame108.mono (by decide) (by decide)⟩⟩
    show own_Q4 Z a1 mA hA z fm fh M H S p1 n h0 n0 _ T107.heap _
    rw [e107]
    exact ⟨rfl, N107, K107, mA, hA, M, H, _, _, pgm, pgh, n1, n2, n3, Or.inl rfl, Or.inl rfl, pI.rem0 hnM (own_tb_one hp) (fun q => hc100 ((lw_eq _ _).mpr q)), by omega, pE_x107, pF1_x107, pF2_x107, F107_, A97__x107, pH_x107, pEm_x107, pEh_x107⟩
theorem own_d5_0 : decode prog_129_method_3_code 0 = .ok (.aload_n 0, 1) := by decide +kernel
theorem own_d5_1 : decode prog_129_method_3_code 1 = .ok (.getfield 21, 3) := by decide +kernel
theorem own_d5_4 : decode prog_129_method_3_code 4 = .ok (.ireturn, 1) := by decide +kernel
theorem own_ef5 (m : MethodId) (a1 : Addr) : entryFrame m #[(.ref a1)] 1 = mkF m 0 #[.val (.ref a1)] [] := by first | (simp [entryFrame, mkF, argsToLocals, Value.category]; done) | rfl
def own_Q5 (Z : State) (a1 : Addr) (z : Int32) (h0 : Heap) (n0 : Nat) (v : Option Value) (h : Heap) (L : List Loc) : Prop := v = some (.int z) ∧ Fr n0 L ∧ h = h0
set_option maxRecDepth 65536 in
set_option maxHeartbeats 40000000 in
theorem own_rm5 (l : Launch) (Z : State) (a0 : Array Value) (hw : ∀ d ∈ tables_1, d.before a0 Z = true) (ws : List Jvm.Cond) (a1 : Addr) (z : Int32) (h0 : Heap) (n0 : Nat) (Z0 : n0 ≤ h0.size) (pF3 : Fld Z h0 a1 "com/example/ramp99/ramp99/service/replay/NumberSet" "size" "I" (.int z)) :
    MetFree l (⟨"com/example/ramp99/ramp99/service/replay/NumberSet", "size", "()I"⟩ : MethodName) (head1 (Jvm.Cond.code (⟨"com/example/ramp99/ramp99/service/replay/NumberSet", "size", "()I"⟩ : MethodName) prog_129_method_3_code 1 (some .int) :: ws) ({ frames := 0, cells := 0, slots := 0, locals := 0 } : Room)) (fun a U => a = #[(.ref a1)] ∧ Z.Warmed39 U.vm ∧ U.heap = h0) (fun _ _ _ _ _ => True) (fun _ U o U' => ∃ v L, o = .returned v ∧ own_Q5 Z a1 z h0 n0 v U'.heap L ∧ FrameEnd U o U' L ({ frames := 0, cells := 0, slots := 0, locals := 0 } : Room).cells ({ frames := 0, cells := 0, slots := 0, locals := 0 } : Room).slots) := by
  refine MetFree.of_bodySF (plainFor_of_name own_pn1) hisR ?_
  intro p e s m args below meth c s₁ Bd hml0 hP hK
  obtain ⟨rfl, hZ, hh⟩ := hP
  have hx := Bd.exec
  have hby := Bd.bytes
  have hml : c.maxLocals = 1 := hml0
  have hown : s.vm.findClass "com/example/ramp99/ramp99/service/replay/NumberSet" = some m.cls := findClass_of_methodNamed Bd.named
  have hnm := (name_of_methodNamed Bd.named Bd.method).1
  have X0 : Stand p l e ({ frames := 0, cells := 0, slots := 0, locals := 0 } : Room) s m #[(.ref a1)] below meth c s₁ [] 0 0 := Stand.of_body Bd
  have e0 : s₁.heap = h0 := by rw [← hh, Bd.state]; rfl
  have N0 := Fr.nil n0
  refine own_nm (st := s₁.setTop (entryFrame m #[(.ref a1)] 1)) fun P fin => ?_
  refine own_fwd (fun tt kt => castTop (own_ef5 m a1) kt) ?_
  show own_R p.tables e below P (s₁.setTop (mkF m 0 #[.val (.ref a1)] []))
  refine own_fwd (fun tt kt => XS.aloadN X0.here hx rfl (hb hby own_d5_0) rfl rfl kt) ?_
  show own_R p.tables e below P (s₁.setTop (mkF m 1 #[.val (.ref a1)] [(.ref a1)]))
  obtain ⟨T109, X109, e109, st109⟩ := getF X0 hx hZ hown (host := "") (Or.inl (hw _ (List.mem_of_getElem? (i := 19) rfl))) Via.refl e0 pF3 (g := (mkF m 1 #[.val (.ref a1)] [(.ref a1)])) rfl rfl (hb hby own_d5_1)
  refine own_fwd st109 ?_
  show own_R p.tables e below P (T109.setTop (mkF m 4 #[.val (.ref a1)] [(.int z)]))
  obtain ⟨fs110, hr110, hrun110, hended110, hW110, hsame110⟩ := X109.leave (v := some (.int z)) (fun h => by rw [Bd.returns] at h; cases h)
  refine ⟨_, _, X109.ireturnOut hx (w := z) Bd.returns rfl (by simp) (hb hby own_d5_4) hr110, fin _ _ ⟨hrun110, hended110, _, _, rfl, ?_, ⟨_, rfl⟩, hW110, hsame110.mono (by decide) (by decide)⟩⟩
  show own_Q5 Z a1 z h0 n0 _ T109.heap _
  rw [e109]
  exact ⟨rfl, N0, rfl⟩
theorem own_d6_0 : decode prog_129_method_8_code 0 = .ok (.iconst 0, 1) := by decide +kernel
theorem own_d6_1 : decode prog_129_method_8_code 1 = .ok (.istore_n 1, 1) := by decide +kernel
theorem own_d6_2 : decode prog_129_method_8_code 2 = .ok (.aload_n 0, 1) := by decide +kernel
theorem own_d6_3 : decode prog_129_method_8_code 3 = .ok (.getfield 18, 3) := by decide +kernel
theorem own_d6_6 : decode prog_129_method_8_code 6 = .ok (.iload_n 1, 1) := by decide +kernel
theorem own_d6_7 : decode prog_129_method_8_code 7 = .ok (.laload, 1) := by decide +kernel
theorem own_d6_8 : decode prog_129_method_8_code 8 = .ok (.lconst 0, 1) := by decide +kernel
theorem own_d6_9 : decode prog_129_method_8_code 9 = .ok (.lcmp, 1) := by decide +kernel
theorem own_d6_10 : decode prog_129_method_8_code 10 = .ok (.ifCond .ne 9, 3) := by decide +kernel
theorem own_d6_13 : decode prog_129_method_8_code 13 = .ok (.iinc 1 1, 3) := by decide +kernel
theorem own_d6_16 : decode prog_129_method_8_code 16 = .ok (.goto (-14), 3) := by decide +kernel
theorem own_d6_19 : decode prog_129_method_8_code 19 = .ok (.iload_n 1, 1) := by decide +kernel
theorem own_d6_20 : decode prog_129_method_8_code 20 = .ok (.bipush 6, 2) := by decide +kernel
theorem own_d6_22 : decode prog_129_method_8_code 22 = .ok (.ishl, 1) := by decide +kernel
theorem own_d6_23 : decode prog_129_method_8_code 23 = .ok (.aload_n 0, 1) := by decide +kernel
theorem own_d6_24 : decode prog_129_method_8_code 24 = .ok (.getfield 18, 3) := by decide +kernel
theorem own_d6_27 : decode prog_129_method_8_code 27 = .ok (.iload_n 1, 1) := by decide +kernel
theorem own_d6_28 : decode prog_129_method_8_code 28 = .ok (.laload, 1) := by decide +kernel
theorem own_d6_29 : decode prog_129_method_8_code 29 = .ok (.invokestatic 43, 3) := by decide +kernel
theorem own_d6_32 : decode prog_129_method_8_code 32 = .ok (.ior, 1) := by decide +kernel
theorem own_d6_33 : decode prog_129_method_8_code 33 = .ok (.istore_n 2, 1) := by decide +kernel
theorem own_d6_34 : decode prog_129_method_8_code 34 = .ok (.iload_n 2, 1) := by decide +kernel
theorem own_d6_35 : decode prog_129_method_8_code 35 = .ok (.bipush 6, 2) := by decide +kernel
theorem own_d6_37 : decode prog_129_method_8_code 37 = .ok (.ishl, 1) := by decide +kernel
theorem own_d6_38 : decode prog_129_method_8_code 38 = .ok (.aload_n 0, 1) := by decide +kernel
theorem own_d6_39 : decode prog_129_method_8_code 39 = .ok (.getfield 14, 3) := by decide +kernel
theorem own_d6_42 : decode prog_129_method_8_code 42 = .ok (.iload_n 2, 1) := by decide +kernel
theorem own_d6_43 : decode prog_129_method_8_code 43 = .ok (.laload, 1) := by decide +kernel
theorem own_d6_44 : decode prog_129_method_8_code 44 = .ok (.invokestatic 43, 3) := by decide +kernel
theorem own_d6_47 : decode prog_129_method_8_code 47 = .ok (.ior, 1) := by decide +kernel
theorem own_d6_48 : decode prog_129_method_8_code 48 = .ok (.ireturn, 1) := by decide +kernel
theorem own_pd2 : parseMethodDescriptor "(J)I" = some ⟨[.long], some .int⟩ := by decide +kernel
theorem own_ef6 (m : MethodId) (a1 : Addr) : entryFrame m #[(.ref a1)] 3 = mkF m 0 #[.val (.ref a1), .unset, .unset] [] := by first | (simp [entryFrame, mkF, argsToLocals, Value.category]; done) | rfl
def own_Q6 (Z : State) (a1 mA hA : Addr) (z : Int32) (fm fh : Nat → Int64) (M H : Nat) (S : Nat → Bool) (e0_ : Nat) (h0 : Heap) (n0 : Nat) (v : Option Value) (h : Heap) (L : List Loc) : Prop := ∃ (r : Nat) (zr : Int32), v = some (.int zr) ∧ zr.toInt = (r : Int) ∧ S r = true ∧ (∀ k, k < r → S k = false) ∧ Fr n0 L ∧ h = h0
set_option maxRecDepth 65536 in
set_option maxHeartbeats 40000000 in
theorem own_rm6 (l : Launch) (Z : State) (a0 : Array Value) (hw : ∀ d ∈ tables_1, d.before a0 Z = true) (ws : List Jvm.Cond) (a1 mA hA : Addr) (z : Int32) (fm fh : Nat → Int64) (M H : Nat) (S : Nat → Bool) (e0_ : Nat) (h0 : Heap) (n0 : Nat) (Z0 : n0 ≤ h0.size) (pE : Exa Z h0 a1 "com/example/ramp99/ramp99/service/replay/NumberSet") (pF1 : Fld Z h0 a1 "com/example/ramp99/ramp99/service/replay/NumberSet" "members" "[J" (.ref mA)) (pF2 : Fld Z h0 a1 "com/example/ramp99/ramp99/service/replay/NumberSet" "holding" "[J" (.ref hA)) (pF3 : Fld Z h0 a1 "com/example/ramp99/ramp99/service/replay/NumberSet" "size" "I" (.int z)) (pM : own_AJ Z h0 mA M fm) (pH : own_AJ Z h0 hA H fh) (pEm : Exa Z h0 mA "[J") (pEh : Exa Z h0 hA "[J") (pg : n0 ≤ a1) (pgm : n0 ≤ mA) (pgh : n0 ≤ hA) (n1 : a1 ≠ mA) (n2 : a1 ≠ hA) (n3 : mA ≠ hA) (pI : own_Inv M H fm fh S) (bM : M ≤ 1000) (hin : S e0_ = true) :
    MetFree l (⟨"com/example/ramp99/ramp99/service/replay/NumberSet", "lowest", "()I"⟩ : MethodName) (head1 (Jvm.Cond.code (⟨"com/example/ramp99/ramp99/service/replay/NumberSet", "lowest", "()I"⟩ : MethodName) prog_129_method_8_code 3 (some .int) :: ws) ({ frames := 2, cells := 0, slots := 0, locals := 29 } : Room)) (fun a U => a = #[(.ref a1)] ∧ Z.Warmed39 U.vm ∧ U.heap = h0) (fun _ _ _ _ _ => True) (fun _ U o U' => ∃ v L, o = .returned v ∧ own_Q6 Z a1 mA hA z fm fh M H S e0_ h0 n0 v U'.heap L ∧ FrameEnd U o U' L ({ frames := 2, cells := 0, slots := 0, locals := 29 } : Room).cells ({ frames := 2, cells := 0, slots := 0, locals := 29 } : Room).slots) := by
  refine MetFree.of_bodySF (plainFor_of_name own_pn1) hisR ?_
  intro p e s m args below meth c s₁ Bd hml0 hP hK
  obtain ⟨rfl, hZ, hh⟩ := hP
  have hx := Bd.exec
  have hby := Bd.bytes
  have hml : c.maxLocals = 3 := hml0
  have hown : s.vm.findClass "com/example/ramp99/ramp99/service/replay/NumberSet" = some m.cls := findClass_of_methodNamed Bd.named
  have hnm := (name_of_methodNamed Bd.named Bd.method).1
  have X0 : Stand p l e ({ frames := 2, cells := 0, slots := 0, locals := 29 } : Room) s m #[(.ref a1)] below meth c s₁ [] 0 0 := Stand.of_body Bd
  have e0 : s₁.heap = h0 := by rw [← hh, Bd.state]; rfl
  have N0 := Fr.nil n0
  refine own_nm (st := s₁.setTop (entryFrame m #[(.ref a1)] 3)) fun P fin => ?_
  refine own_fwd (fun tt kt => castTop (own_ef6 m a1) kt) ?_
  show own_R p.tables e below P (s₁.setTop (mkF m 0 #[.val (.ref a1), .unset, .unset] []))
  obtain ⟨-, -, hvH, hvz⟩ := pI.has hin
  have H4 := pI.2.2.2
  have loop : ∀ (k vi : Nat) (zi : Int32) (T : State) (X : Stand p l e ({ frames := 2, cells := 0, slots := 0, locals := 29 } : Room) s m #[(.ref a1)] below meth c T [] 0 0) (eT : T.heap = h0), vi + k = e0_ / 64 / 64 → vi < H → zi.toInt = (vi : Int) → (∀ v', v' < vi → fh v' = 0) → own_R p.tables e below P (T.setTop (mkF m 2 #[.val (.ref a1), .val (.int zi), .unset] [])) := by
    intro k
    induction k with
    | zero =>
      intro vi zi T X eT b1 b2 hzi h0_
      have ev : vi = e0_ / 64 / 64 := by omega
      have hvv : ¬ fh vi = 0 := by rw [ev]; exact hvz
      refine own_fwd (fun tt kt => XS.aloadN X.here hx rfl (hb hby own_d6_2) rfl rfl kt) ?_
      show own_R p.tables e below P (T.setTop (mkF m 3 #[.val (.ref a1), .val (.int zi), .unset] [(.ref a1)]))
      obtain ⟨T111, X111, e111, st111⟩ := getF X hx hZ hown (host := "") (Or.inl (hw _ (List.mem_of_getElem? (i := 12) rfl))) Via.refl eT pF2 (g := (mkF m 3 #[.val (.ref a1), .val (.int zi), .unset] [(.ref a1)])) rfl rfl (hb hby own_d6_3)
      refine own_fwd st111 ?_
      show own_R p.tables e below P (T111.setTop (mkF m 6 #[.val (.ref a1), .val (.int zi), .unset] [(.ref hA)]))
      refine own_fwd (fun tt kt => XS.iloadN X111.here hx rfl (hb hby own_d6_6) rfl kt) ?_
      show own_R p.tables e below P (T111.setTop (mkF m 7 #[.val (.ref a1), .val (.int zi), .unset] [(.int zi), (.ref hA)]))
      refine own_fwd (own_ldJ X111 hx hZ e111 pH (j := zi) vi hzi b2 (g := (mkF m 7 #[.val (.ref a1), .val (.int zi), .unset] [(.int zi), (.ref hA)])) rfl rfl (hb hby own_d6_7)) ?_
      show own_R p.tables e below P (T111.setTop (mkF m 8 #[.val (.ref a1), .val (.int zi), .unset] [(.long (fh vi))]))
      refine own_fwd (fun tt kt => XS.lconst X111.here hx rfl (hb hby own_d6_8) kt) ?_
      show own_R p.tables e below P (T111.setTop (mkF m 9 #[.val (.ref a1), .val (.int zi), .unset] [(.long (0 : Int64)), (.long (fh vi))]))
      refine own_fwd (fun tt kt => XS.lcmp X111.here hx rfl (hb hby own_d6_9) rfl kt) ?_
      show own_R p.tables e below P (T111.setTop (mkF m 10 #[.val (.ref a1), .val (.int zi), .unset] [(.int (lcmpW (fh vi) (0 : Int64)))]))
      have hc112 : ¬ ((lcmpW (fh vi) (0 : Int64)) = (0 : Int32)) := fun q => hvv ((lw_eq _ _).mp q)
      refine own_fwd (fun tt kt => XS.ifYes X111.here hx rfl (pc0 := 10) (pc' := 19) rfl (hb hby own_d6_10) rfl ((if0 _ _).trans (feq hc112).2) (by decide) (by decide) kt) ?_
      show own_R p.tables e below P (T111.setTop (mkF m 19 #[.val (.ref a1), .val (.int zi), .unset] []))
      have hnz : ¬ fh vi = 0 := hvv
      refine own_fwd (fun tt kt => XS.iloadN X111.here hx rfl (hb hby own_d6_19) rfl kt) ?_
      show own_R p.tables e below P (T111.setTop (mkF m 20 #[.val (.ref a1), .val (.int zi), .unset] [(.int zi)]))
      refine own_fwd (fun tt kt => XS.bipush X111.here hx rfl (hb hby own_d6_20) kt) ?_
      show own_R p.tables e below P (T111.setTop (mkF m 22 #[.val (.ref a1), .val (.int zi), .unset] [(.int (6 : Int32)), (.int zi)]))
      refine own_fwd (fun tt kt => XS.ishl X111.here hx rfl (hb hby own_d6_22) rfl kt) ?_
      show own_R p.tables e below P (T111.setTop (mkF m 23 #[.val (.ref a1), .val (.int zi), .unset] [(.int (zi <<< ((6 : Int32) &&& 31)))]))
      refine own_fwd (fun tt kt => XS.aloadN X111.here hx rfl (hb hby own_d6_23) rfl rfl kt) ?_
      show own_R p.tables e below P (T111.setTop (mkF m 24 #[.val (.ref a1), .val (.int zi), .unset] [(.ref a1), (.int (zi <<< ((6 : Int32) &&& 31)))]))
      obtain ⟨T113, X113, e113, st113⟩ := getF X111 hx hZ hown (host := "") (Or.inl (hw _ (List.mem_of_getElem? (i := 12) rfl))) Via.refl e111 pF2 (g := (mkF m 24 #[.val (.ref a1), .val (.int zi), .unset] [(.ref a1), (.int (zi <<< ((6 : Int32) &&& 31)))])) rfl rfl (hb hby own_d6_24)
      refine own_fwd st113 ?_
      show own_R p.tables e below P (T113.setTop (mkF m 27 #[.val (.ref a1), .val (.int zi), .unset] [(.ref hA), (.int (zi <<< ((6 : Int32) &&& 31)))]))
      refine own_fwd (fun tt kt => XS.iloadN X113.here hx rfl (hb hby own_d6_27) rfl kt) ?_
      show own_R p.tables e below P (T113.setTop (mkF m 28 #[.val (.ref a1), .val (.int zi), .unset] [(.int zi), (.ref hA), (.int (zi <<< ((6 : Int32) &&& 31)))]))
      refine own_fwd (own_ldJ X113 hx hZ e113 pH (j := zi) vi hzi b2 (g := (mkF m 28 #[.val (.ref a1), .val (.int zi), .unset] [(.int zi), (.ref hA), (.int (zi <<< ((6 : Int32) &&& 31)))])) rfl rfl (hb hby own_d6_28)) ?_
      show own_R p.tables e below P (T113.setTop (mkF m 29 #[.val (.ref a1), .val (.int zi), .unset] [(.long (fh vi)), (.int (zi <<< ((6 : Int32) &&& 31)))]))
      obtain ⟨_, _, ⟨T114, L114, k114, n114⟩, -, X114, ⟨hE114, l114, y114, z114⟩, st114⟩ := Jvm.LawKit.callS X113 hx (y := (⟨"java/lang/Long", "numberOfTrailingZeros", "(J)I"⟩ : MethodName)) hown (mvT hZ (hw _ (List.mem_of_getElem? (i := 38) rfl))) (mvT hZ (hw _ (List.mem_of_getElem? (i := 39) rfl))) (mvT hZ (hw _ (List.mem_of_getElem? (i := 40) rfl))) (mvT hZ (hw _ (List.mem_of_getElem? (i := 41) rfl))) (by decide) (Jvm.Free.JP.Long_numberOfTrailingZeros_J.pays (W := 1) (fh vi) (own_tabT hZ hw) (by decide) (by decide)) (g := (mkF m 29 #[.val (.ref a1), .val (.int zi), .unset] [(.long (fh vi)), (.int (zi <<< ((6 : Int32) &&& 31)))])) rfl (by rw [hml]; rfl) (argsL := [(.long (fh vi))]) (rest := [(.int (zi <<< ((6 : Int32) &&& 31)))]) (lenOf own_pd2 rfl) rfl (by show 2 * 0 + _ ≤ _; exact Nat.le_of_eq rfl) (hb hby own_d6_29) (fun _ _ => ⟨(by decide : 0 + 0 ≤ _), (by decide : 0 + 0 ≤ _), rfl, trivial⟩)
      dsimp only [Pt.U, Pt.locs, Pt.cells, Pt.slots] at X114 l114 y114 z114 st114 hE114
      rw [l114, (show k114 = 0 from y114), (show n114 = 0 from z114)] at X114
      obtain ⟨hq114, he114⟩ := hE114
      have e114 : T114.heap = h0 := he114.trans e113
      obtain ⟨t114, low114, lt114, vt114⟩ := own_ntz hnz
      obtain ⟨zv114, hzv114⟩ : ∃ z, Jvm.Free.JP.Long_numberOfTrailingZeros_J.val (fh vi) = z := ⟨_, rfl⟩
      rw [hzv114] at hq114 vt114
      rw [hq114] at st114
      have N114 := Fr.app N0 (Fr.nil n0)
      refine own_fwd st114 ?_
      show own_R p.tables e below P (T114.setTop (mkF m 32 #[.val (.ref a1), .val (.int zi), .unset] [(.int zv114), (.int (zi <<< ((6 : Int32) &&& 31)))]))
      obtain ⟨wM, wz⟩ := pI.word b2 lt114 low114.at
      have hcm := own_comb hzi vt114 lt114 (by omega)
      refine own_fwd (fun tt kt => XS.ior X114.here hx rfl (hb hby own_d6_32) rfl kt) ?_
      show own_R p.tables e below P (T114.setTop (mkF m 33 #[.val (.ref a1), .val (.int zi), .unset] [(.int ((zi <<< ((6 : Int32) &&& 31)) ||| zv114))]))
      refine own_fwd (fun tt kt => XS.istoreN X114.here hx rfl (hb hby own_d6_33) rfl (l' := #[.val (.ref a1), .val (.int zi), .val (.int ((zi <<< ((6 : Int32) &&& 31)) ||| zv114))]) rfl kt) ?_
      show own_R p.tables e below P (T114.setTop (mkF m 34 #[.val (.ref a1), .val (.int zi), .val (.int ((zi <<< ((6 : Int32) &&& 31)) ||| zv114))] []))
      refine own_fwd (fun tt kt => XS.iloadN X114.here hx rfl (hb hby own_d6_34) rfl kt) ?_
      show own_R p.tables e below P (T114.setTop (mkF m 35 #[.val (.ref a1), .val (.int zi), .val (.int ((zi <<< ((6 : Int32) &&& 31)) ||| zv114))] [(.int ((zi <<< ((6 : Int32) &&& 31)) ||| zv114))]))
      refine own_fwd (fun tt kt => XS.bipush X114.here hx rfl (hb hby own_d6_35) kt) ?_
      show own_R p.tables e below P (T114.setTop (mkF m 37 #[.val (.ref a1), .val (.int zi), .val (.int ((zi <<< ((6 : Int32) &&& 31)) ||| zv114))] [(.int (6 : Int32)), (.int ((zi <<< ((6 : Int32) &&& 31)) ||| zv114))]))
      refine own_fwd (fun tt kt => XS.ishl X114.here hx rfl (hb hby own_d6_37) rfl kt) ?_
      show own_R p.tables e below P (T114.setTop (mkF m 38 #[.val (.ref a1), .val (.int zi), .val (.int ((zi <<< ((6 : Int32) &&& 31)) ||| zv114))] [(.int (((zi <<< ((6 : Int32) &&& 31)) ||| zv114) <<< ((6 : Int32) &&& 31)))]))
      refine own_fwd (fun tt kt => XS.aloadN X114.here hx rfl (hb hby own_d6_38) rfl rfl kt) ?_
      show own_R p.tables e below P (T114.setTop (mkF m 39 #[.val (.ref a1), .val (.int zi), .val (.int ((zi <<< ((6 : Int32) &&& 31)) ||| zv114))] [(.ref a1), (.int (((zi <<< ((6 : Int32) &&& 31)) ||| zv114) <<< ((6 : Int32) &&& 31)))]))
      obtain ⟨T115, X115, e115, st115⟩ := getF X114 hx hZ hown (host := "") (Or.inl (hw _ (List.mem_of_getElem? (i := 10) rfl))) Via.refl e114 pF1 (g := (mkF m 39 #[.val (.ref a1), .val (.int zi), .val (.int ((zi <<< ((6 : Int32) &&& 31)) ||| zv114))] [(.ref a1), (.int (((zi <<< ((6 : Int32) &&& 31)) ||| zv114) <<< ((6 : Int32) &&& 31)))])) rfl rfl (hb hby own_d6_39)
      refine own_fwd st115 ?_
      show own_R p.tables e below P (T115.setTop (mkF m 42 #[.val (.ref a1), .val (.int zi), .val (.int ((zi <<< ((6 : Int32) &&& 31)) ||| zv114))] [(.ref mA), (.int (((zi <<< ((6 : Int32) &&& 31)) ||| zv114) <<< ((6 : Int32) &&& 31)))]))
      refine own_fwd (fun tt kt => XS.iloadN X115.here hx rfl (hb hby own_d6_42) rfl kt) ?_
      show own_R p.tables e below P (T115.setTop (mkF m 43 #[.val (.ref a1), .val (.int zi), .val (.int ((zi <<< ((6 : Int32) &&& 31)) ||| zv114))] [(.int ((zi <<< ((6 : Int32) &&& 31)) ||| zv114)), (.ref mA), (.int (((zi <<< ((6 : Int32) &&& 31)) ||| zv114) <<< ((6 : Int32) &&& 31)))]))
      refine own_fwd (own_ldJ X115 hx hZ e115 pM (j := ((zi <<< ((6 : Int32) &&& 31)) ||| zv114)) (64 * vi + t114) hcm wM (g := (mkF m 43 #[.val (.ref a1), .val (.int zi), .val (.int ((zi <<< ((6 : Int32) &&& 31)) ||| zv114))] [(.int ((zi <<< ((6 : Int32) &&& 31)) ||| zv114)), (.ref mA), (.int (((zi <<< ((6 : Int32) &&& 31)) ||| zv114) <<< ((6 : Int32) &&& 31)))])) rfl rfl (hb hby own_d6_43)) ?_
      show own_R p.tables e below P (T115.setTop (mkF m 44 #[.val (.ref a1), .val (.int zi), .val (.int ((zi <<< ((6 : Int32) &&& 31)) ||| zv114))] [(.long (fm (64 * vi + t114))), (.int (((zi <<< ((6 : Int32) &&& 31)) ||| zv114) <<< ((6 : Int32) &&& 31)))]))
      obtain ⟨_, _, ⟨T116, L116, k116, n116⟩, -, X116, ⟨hE116, l116, y116, z116⟩, st116⟩ := Jvm.LawKit.callS X115 hx (y := (⟨"java/lang/Long", "numberOfTrailingZeros", "(J)I"⟩ : MethodName)) hown (mvT hZ (hw _ (List.mem_of_getElem? (i := 38) rfl))) (mvT hZ (hw _ (List.mem_of_getElem? (i := 39) rfl))) (mvT hZ (hw _ (List.mem_of_getElem? (i := 40) rfl))) (mvT hZ (hw _ (List.mem_of_getElem? (i := 41) rfl))) (by decide) (Jvm.Free.JP.Long_numberOfTrailingZeros_J.pays (W := 1) (fm (64 * vi + t114)) (own_tabT hZ hw) (by decide) (by decide)) (g := (mkF m 44 #[.val (.ref a1), .val (.int zi), .val (.int ((zi <<< ((6 : Int32) &&& 31)) ||| zv114))] [(.long (fm (64 * vi + t114))), (.int (((zi <<< ((6 : Int32) &&& 31)) ||| zv114) <<< ((6 : Int32) &&& 31)))])) rfl (by rw [hml]; rfl) (argsL := [(.long (fm (64 * vi + t114)))]) (rest := [(.int (((zi <<< ((6 : Int32) &&& 31)) ||| zv114) <<< ((6 : Int32) &&& 31)))]) (lenOf own_pd2 rfl) rfl (by show 2 * 0 + _ ≤ _; exact Nat.le_of_eq rfl) (hb hby own_d6_44) (fun _ _ => ⟨(by decide : 0 + 0 ≤ _), (by decide : 0 + 0 ≤ _), rfl, trivial⟩)
      dsimp only [Pt.U, Pt.locs, Pt.cells, Pt.slots] at X116 l116 y116 z116 st116 hE116
      rw [l116, (show k116 = 0 from y116), (show n116 = 0 from z116)] at X116
      obtain ⟨hq116, he116⟩ := hE116
      have e116 : T116.heap = h0 := he116.trans e115
      obtain ⟨t116, low116, lt116, vt116⟩ := own_ntz wz
      obtain ⟨zv116, hzv116⟩ : ∃ z, Jvm.Free.JP.Long_numberOfTrailingZeros_J.val (fm (64 * vi + t114)) = z := ⟨_, rfl⟩
      rw [hzv116] at hq116 vt116
      rw [hq116] at st116
      have N116 := Fr.app N114 (Fr.nil n0)
      refine own_fwd st116 ?_
      show own_R p.tables e below P (T116.setTop (mkF m 47 #[.val (.ref a1), .val (.int zi), .val (.int ((zi <<< ((6 : Int32) &&& 31)) ||| zv114))] [(.int zv116), (.int (((zi <<< ((6 : Int32) &&& 31)) ||| zv114) <<< ((6 : Int32) &&& 31)))]))
      refine own_fwd (fun tt kt => XS.ior X116.here hx rfl (hb hby own_d6_47) rfl kt) ?_
      show own_R p.tables e below P (T116.setTop (mkF m 48 #[.val (.ref a1), .val (.int zi), .val (.int ((zi <<< ((6 : Int32) &&& 31)) ||| zv114))] [(.int ((((zi <<< ((6 : Int32) &&& 31)) ||| zv114) <<< ((6 : Int32) &&& 31)) ||| zv116))]))
      obtain ⟨fs117, hr117, hrun117, hended117, hW117, hsame117⟩ := X116.leave (v := some (.int ((((zi <<< ((6 : Int32) &&& 31)) ||| zv114) <<< ((6 : Int32) &&& 31)) ||| zv116))) (fun h => by rw [Bd.returns] at h; cases h)
      refine ⟨_, _, X116.ireturnOut hx (w := ((((zi <<< ((6 : Int32) &&& 31)) ||| zv114) <<< ((6 : Int32) &&& 31)) ||| zv116)) Bd.returns rfl (by simp) (hb hby own_d6_48) hr117, fin _ _ ⟨hrun117, hended117, _, _, rfl, ?_, ⟨_, rfl⟩, hW117, hsame117.mono (by decide) (by decide)⟩⟩
      show own_Q6 Z a1 mA hA z fm fh M H S e0_ h0 n0 _ T116.heap _
      rw [e116]
      exact ⟨64 * (64 * vi + t114) + t116, _, rfl, own_comb hcm vt116 lt116 (by omega), (pI.low b2 h0_ low114 low116).1, (pI.low b2 h0_ low114 low116).2, N116, rfl⟩
    | succ k ih =>
      intro vi zi T X eT b1 b2 hzi h0_
      refine own_fwd (fun tt kt => XS.aloadN X.here hx rfl (hb hby own_d6_2) rfl rfl kt) ?_
      show own_R p.tables e below P (T.setTop (mkF m 3 #[.val (.ref a1), .val (.int zi), .unset] [(.ref a1)]))
      obtain ⟨T118, X118, e118, st118⟩ := getF X hx hZ hown (host := "") (Or.inl (hw _ (List.mem_of_getElem? (i := 12) rfl))) Via.refl eT pF2 (g := (mkF m 3 #[.val (.ref a1), .val (.int zi), .unset] [(.ref a1)])) rfl rfl (hb hby own_d6_3)
      refine own_fwd st118 ?_
      show own_R p.tables e below P (T118.setTop (mkF m 6 #[.val (.ref a1), .val (.int zi), .unset] [(.ref hA)]))
      refine own_fwd (fun tt kt => XS.iloadN X118.here hx rfl (hb hby own_d6_6) rfl kt) ?_
      show own_R p.tables e below P (T118.setTop (mkF m 7 #[.val (.ref a1), .val (.int zi), .unset] [(.int zi), (.ref hA)]))
      refine own_fwd (own_ldJ X118 hx hZ e118 pH (j := zi) vi hzi b2 (g := (mkF m 7 #[.val (.ref a1), .val (.int zi), .unset] [(.int zi), (.ref hA)])) rfl rfl (hb hby own_d6_7)) ?_
      show own_R p.tables e below P (T118.setTop (mkF m 8 #[.val (.ref a1), .val (.int zi), .unset] [(.long (fh vi))]))
      refine own_fwd (fun tt kt => XS.lconst X118.here hx rfl (hb hby own_d6_8) kt) ?_
      show own_R p.tables e below P (T118.setTop (mkF m 9 #[.val (.ref a1), .val (.int zi), .unset] [(.long (0 : Int64)), (.long (fh vi))]))
      refine own_fwd (fun tt kt => XS.lcmp X118.here hx rfl (hb hby own_d6_9) rfl kt) ?_
      show own_R p.tables e below P (T118.setTop (mkF m 10 #[.val (.ref a1), .val (.int zi), .unset] [(.int (lcmpW (fh vi) (0 : Int64)))]))
      by_cases hc119 : (lcmpW (fh vi) (0 : Int64)) = (0 : Int32)
      · refine own_fwd (fun tt kt => XS.ifNo X118.here hx rfl (hb hby own_d6_10) rfl ((if0 _ _).trans (teq hc119).2) kt) ?_
        show own_R p.tables e below P (T118.setTop (mkF m 13 #[.val (.ref a1), .val (.int zi), .unset] []))
        refine own_fwd (fun tt kt => XS.iinc X118.here hx rfl (hb hby own_d6_13) rfl (l' := #[.val (.ref a1), .val (.int (zi + (1 : Int32))), .unset]) rfl kt) ?_
        show own_R p.tables e below P (T118.setTop (mkF m 16 #[.val (.ref a1), .val (.int (zi + (1 : Int32))), .unset] []))
        refine own_fwd (fun tt kt => XS.goto X118.here hx rfl (pc0 := 16) (pc' := 2) rfl (hb hby own_d6_16) (by decide) (by decide) kt) ?_
        show own_R p.tables e below P (T118.setTop (mkF m 2 #[.val (.ref a1), .val (.int (zi + (1 : Int32))), .unset] []))
        exact ih (vi + 1) _ _ X118 e118 (by omega) (by omega) (own_addn (j := 1) hzi own_i1 (by omega)) (fun v' hv' => by
          rcases (by omega : v' < vi ∨ v' = vi) with q | q
          · exact h0_ v' q
          · rw [q]; exact (lw_eq _ _).mp hc119)
      · refine own_fwd (fun tt kt => XS.ifYes X118.here hx rfl (pc0 := 10) (pc' := 19) rfl (hb hby own_d6_10) rfl ((if0 _ _).trans (feq hc119).2) (by decide) (by decide) kt) ?_
        show own_R p.tables e below P (T118.setTop (mkF m 19 #[.val (.ref a1), .val (.int zi), .unset] []))
        have hnz : ¬ fh vi = 0 := fun q => hc119 ((lw_eq _ _).mpr q)
        refine own_fwd (fun tt kt => XS.iloadN X118.here hx rfl (hb hby own_d6_19) rfl kt) ?_
        show own_R p.tables e below P (T118.setTop (mkF m 20 #[.val (.ref a1), .val (.int zi), .unset] [(.int zi)]))
        refine own_fwd (fun tt kt => XS.bipush X118.here hx rfl (hb hby own_d6_20) kt) ?_
        show own_R p.tables e below P (T118.setTop (mkF m 22 #[.val (.ref a1), .val (.int zi), .unset] [(.int (6 : Int32)), (.int zi)]))
        refine own_fwd (fun tt kt => XS.ishl X118.here hx rfl (hb hby own_d6_22) rfl kt) ?_
        show own_R p.tables e below P (T118.setTop (mkF m 23 #[.val (.ref a1), .val (.int zi), .unset] [(.int (zi <<< ((6 : Int32) &&& 31)))]))
        refine own_fwd (fun tt kt => XS.aloadN X118.here hx rfl (hb hby own_d6_23) rfl rfl kt) ?_
        show own_R p.tables e below P (T118.setTop (mkF m 24 #[.val (.ref a1), .val (.int zi), .unset] [(.ref a1), (.int (zi <<< ((6 : Int32) &&& 31)))]))
        obtain ⟨T120, X120, e120, st120⟩ := getF X118 hx hZ hown (host := "") (Or.inl (hw _ (List.mem_of_getElem? (i := 12) rfl))) Via.refl e118 pF2 (g := (mkF m 24 #[.val (.ref a1), .val (.int zi), .unset] [(.ref a1), (.int (zi <<< ((6 : Int32) &&& 31)))])) rfl rfl (hb hby own_d6_24)
        refine own_fwd st120 ?_
        show own_R p.tables e below P (T120.setTop (mkF m 27 #[.val (.ref a1), .val (.int zi), .unset] [(.ref hA), (.int (zi <<< ((6 : Int32) &&& 31)))]))
        refine own_fwd (fun tt kt => XS.iloadN X120.here hx rfl (hb hby own_d6_27) rfl kt) ?_
        show own_R p.tables e below P (T120.setTop (mkF m 28 #[.val (.ref a1), .val (.int zi), .unset] [(.int zi), (.ref hA), (.int (zi <<< ((6 : Int32) &&& 31)))]))
        refine own_fwd (own_ldJ X120 hx hZ e120 pH (j := zi) vi hzi b2 (g := (mkF m 28 #[.val (.ref a1), .val (.int zi), .unset] [(.int zi), (.ref hA), (.int (zi <<< ((6 : Int32) &&& 31)))])) rfl rfl (hb hby own_d6_28)) ?_
        show own_R p.tables e below P (T120.setTop (mkF m 29 #[.val (.ref a1), .val (.int zi), .unset] [(.long (fh vi)), (.int (zi <<< ((6 : Int32) &&& 31)))]))
        obtain ⟨_, _, ⟨T121, L121, k121, n121⟩, -, X121, ⟨hE121, l121, y121, z121⟩, st121⟩ := Jvm.LawKit.callS X120 hx (y := (⟨"java/lang/Long", "numberOfTrailingZeros", "(J)I"⟩ : MethodName)) hown (mvT hZ (hw _ (List.mem_of_getElem? (i := 38) rfl))) (mvT hZ (hw _ (List.mem_of_getElem? (i := 39) rfl))) (mvT hZ (hw _ (List.mem_of_getElem? (i := 40) rfl))) (mvT hZ (hw _ (List.mem_of_getElem? (i := 41) rfl))) (by decide) (Jvm.Free.JP.Long_numberOfTrailingZeros_J.pays (W := 1) (fh vi) (own_tabT hZ hw) (by decide) (by decide)) (g := (mkF m 29 #[.val (.ref a1), .val (.int zi), .unset] [(.long (fh vi)), (.int (zi <<< ((6 : Int32) &&& 31)))])) rfl (by rw [hml]; rfl) (argsL := [(.long (fh vi))]) (rest := [(.int (zi <<< ((6 : Int32) &&& 31)))]) (lenOf own_pd2 rfl) rfl (by show 2 * 0 + _ ≤ _; exact Nat.le_of_eq rfl) (hb hby own_d6_29) (fun _ _ => ⟨(by decide : 0 + 0 ≤ _), (by decide : 0 + 0 ≤ _), rfl, trivial⟩)
        dsimp only [Pt.U, Pt.locs, Pt.cells, Pt.slots] at X121 l121 y121 z121 st121 hE121
        rw [l121, (show k121 = 0 from y121), (show n121 = 0 from z121)] at X121
        obtain ⟨hq121, he121⟩ := hE121
        have e121 : T121.heap = h0 := he121.trans e120
        obtain ⟨t121, low121, lt121, vt121⟩ := own_ntz hnz
        obtain ⟨zv121, hzv121⟩ : ∃ z, Jvm.Free.JP.Long_numberOfTrailingZeros_J.val (fh vi) = z := ⟨_, rfl⟩
        rw [hzv121] at hq121 vt121
        rw [hq121] at st121
        have N121 := Fr.app N0 (Fr.nil n0)
        refine own_fwd st121 ?_
        show own_R p.tables e below P (T121.setTop (mkF m 32 #[.val (.ref a1), .val (.int zi), .unset] [(.int zv121), (.int (zi <<< ((6 : Int32) &&& 31)))]))
        obtain ⟨wM, wz⟩ := pI.word b2 lt121 low121.at
        have hcm := own_comb hzi vt121 lt121 (by omega)
        refine own_fwd (fun tt kt => XS.ior X121.here hx rfl (hb hby own_d6_32) rfl kt) ?_
        show own_R p.tables e below P (T121.setTop (mkF m 33 #[.val (.ref a1), .val (.int zi), .unset] [(.int ((zi <<< ((6 : Int32) &&& 31)) ||| zv121))]))
        refine own_fwd (fun tt kt => XS.istoreN X121.here hx rfl (hb hby own_d6_33) rfl (l' := #[.val (.ref a1), .val (.int zi), .val (.int ((zi <<< ((6 : Int32) &&& 31)) ||| zv121))]) rfl kt) ?_
        show own_R p.tables e below P (T121.setTop (mkF m 34 #[.val (.ref a1), .val (.int zi), .val (.int ((zi <<< ((6 : Int32) &&& 31)) ||| zv121))] []))
        refine own_fwd (fun tt kt => XS.iloadN X121.here hx rfl (hb hby own_d6_34) rfl kt) ?_
        show own_R p.tables e below P (T121.setTop (mkF m 35 #[.val (.ref a1), .val (.int zi), .val (.int ((zi <<< ((6 : Int32) &&& 31)) ||| zv121))] [(.int ((zi <<< ((6 : Int32) &&& 31)) ||| zv121))]))
        refine own_fwd (fun tt kt => XS.bipush X121.here hx rfl (hb hby own_d6_35) kt) ?_
        show own_R p.tables e below P (T121.setTop (mkF m 37 #[.val (.ref a1), .val (.int zi), .val (.int ((zi <<< ((6 : Int32) &&& 31)) ||| zv121))] [(.int (6 : Int32)), (.int ((zi <<< ((6 : Int32) &&& 31)) ||| zv121))]))
        refine own_fwd (fun tt kt => XS.ishl X121.here hx rfl (hb hby own_d6_37) rfl kt) ?_
        show own_R p.tables e below P (T121.setTop (mkF m 38 #[.val (.ref a1), .val (.int zi), .val (.int ((zi <<< ((6 : Int32) &&& 31)) ||| zv121))] [(.int (((zi <<< ((6 : Int32) &&& 31)) ||| zv121) <<< ((6 : Int32) &&& 31)))]))
        refine own_fwd (fun tt kt => XS.aloadN X121.here hx rfl (hb hby own_d6_38) rfl rfl kt) ?_
        show own_R p.tables e below P (T121.setTop (mkF m 39 #[.val (.ref a1), .val (.int zi), .val (.int ((zi <<< ((6 : Int32) &&& 31)) ||| zv121))] [(.ref a1), (.int (((zi <<< ((6 : Int32) &&& 31)) ||| zv121) <<< ((6 : Int32) &&& 31)))]))
        obtain ⟨T122, X122, e122, st122⟩ := getF X121 hx hZ hown (host := "") (Or.inl (hw _ (List.mem_of_getElem? (i := 10) rfl))) Via.refl e121 pF1 (g := (mkF m 39 #[.val (.ref a1), .val (.int zi), .val (.int ((zi <<< ((6 : Int32) &&& 31)) ||| zv121))] [(.ref a1), (.int (((zi <<< ((6 : Int32) &&& 31)) ||| zv121) <<< ((6 : Int32) &&& 31)))])) rfl rfl (hb hby own_d6_39)
        refine own_fwd st122 ?_
        show own_R p.tables e below P (T122.setTop (mkF m 42 #[.val (.ref a1), .val (.int zi), .val (.int ((zi <<< ((6 : Int32) &&& 31)) ||| zv121))] [(.ref mA), (.int (((zi <<< ((6 : Int32) &&& 31)) ||| zv121) <<< ((6 : Int32) &&& 31)))]))
        refine own_fwd (fun tt kt => XS.iloadN X122.here hx rfl (hb hby own_d6_42) rfl kt) ?_
        show own_R p.tables e below P (T122.setTop (mkF m 43 #[.val (.ref a1), .val (.int zi), .val (.int ((zi <<< ((6 : Int32) &&& 31)) ||| zv121))] [(.int ((zi <<< ((6 : Int32) &&& 31)) ||| zv121)), (.ref mA), (.int (((zi <<< ((6 : Int32) &&& 31)) ||| zv121) <<< ((6 : Int32) &&& 31)))]))
        refine own_fwd (own_ldJ X122 hx hZ e122 pM (j := ((zi <<< ((6 : Int32) &&& 31)) ||| zv121)) (64 * vi + t121) hcm wM (g := (mkF m 43 #[.val (.ref a1), .val (.int zi), .val (.int ((zi <<< ((6 : Int32) &&& 31)) ||| zv121))] [(.int ((zi <<< ((6 : Int32) &&& 31)) ||| zv121)), (.ref mA), (.int (((zi <<< ((6 : Int32) &&& 31)) ||| zv121) <<< ((6 : Int32) &&& 31)))])) rfl rfl (hb hby own_d6_43)) ?_
        show own_R p.tables e below P (T122.setTop (mkF m 44 #[.val (.ref a1), .val (.int zi), .val (.int ((zi <<< ((6 : Int32) &&& 31)) ||| zv121))] [(.long (fm (64 * vi + t121))), (.int (((zi <<< ((6 : Int32) &&& 31)) ||| zv121) <<< ((6 : Int32) &&& 31)))]))
        obtain ⟨_, _, ⟨T123, L123, k123, n123⟩, -, X123, ⟨hE123, l123, y123, z123⟩, st123⟩ := Jvm.LawKit.callS X122 hx (y := (⟨"java/lang/Long", "numberOfTrailingZeros", "(J)I"⟩ : MethodName)) hown (mvT hZ (hw _ (List.mem_of_getElem? (i := 38) rfl))) (mvT hZ (hw _ (List.mem_of_getElem? (i := 39) rfl))) (mvT hZ (hw _ (List.mem_of_getElem? (i := 40) rfl))) (mvT hZ (hw _ (List.mem_of_getElem? (i := 41) rfl))) (by decide) (Jvm.Free.JP.Long_numberOfTrailingZeros_J.pays (W := 1) (fm (64 * vi + t121)) (own_tabT hZ hw) (by decide) (by decide)) (g := (mkF m 44 #[.val (.ref a1), .val (.int zi), .val (.int ((zi <<< ((6 : Int32) &&& 31)) ||| zv121))] [(.long (fm (64 * vi + t121))), (.int (((zi <<< ((6 : Int32) &&& 31)) ||| zv121) <<< ((6 : Int32) &&& 31)))])) rfl (by rw [hml]; rfl) (argsL := [(.long (fm (64 * vi + t121)))]) (rest := [(.int (((zi <<< ((6 : Int32) &&& 31)) ||| zv121) <<< ((6 : Int32) &&& 31)))]) (lenOf own_pd2 rfl) rfl (by show 2 * 0 + _ ≤ _; exact Nat.le_of_eq rfl) (hb hby own_d6_44) (fun _ _ => ⟨(by decide : 0 + 0 ≤ _), (by decide : 0 + 0 ≤ _), rfl, trivial⟩)
        dsimp only [Pt.U, Pt.locs, Pt.cells, Pt.slots] at X123 l123 y123 z123 st123 hE123
        rw [l123, (show k123 = 0 from y123), (show n123 = 0 from z123)] at X123
        obtain ⟨hq123, he123⟩ := hE123
        have e123 : T123.heap = h0 := he123.trans e122
        obtain ⟨t123, low123, lt123, vt123⟩ := own_ntz wz
        obtain ⟨zv123, hzv123⟩ : ∃ z, Jvm.Free.JP.Long_numberOfTrailingZeros_J.val (fm (64 * vi + t121)) = z := ⟨_, rfl⟩
        rw [hzv123] at hq123 vt123
        rw [hq123] at st123
        have N123 := Fr.app N121 (Fr.nil n0)
        refine own_fwd st123 ?_
        show own_R p.tables e below P (T123.setTop (mkF m 47 #[.val (.ref a1), .val (.int zi), .val (.int ((zi <<< ((6 : Int32) &&& 31)) ||| zv121))] [(.int zv123), (.int (((zi <<< ((6 : Int32) &&& 31)) ||| zv121) <<< ((6 : Int32) &&& 31)))]))
        refine own_fwd (fun tt kt => XS.ior X123.here hx rfl (hb hby own_d6_47) rfl kt) ?_
        show own_R p.tables e below P (T123.setTop (mkF m 48 #[.val (.ref a1), .val (.int zi), .val (.int ((zi <<< ((6 : Int32) &&& 31)) ||| zv121))] [(.int ((((zi <<< ((6 : Int32) &&& 31)) ||| zv121) <<< ((6 : Int32) &&& 31)) ||| zv123))]))
        obtain ⟨fs124, hr124, hrun124, hended124, hW124, hsame124⟩ := X123.leave (v := some (.int ((((zi <<< ((6 : Int32) &&& 31)) ||| zv121) <<< ((6 : Int32) &&& 31)) ||| zv123))) (fun h => by rw [Bd.returns] at h; cases h)
        refine ⟨_, _, X123.ireturnOut hx (w := ((((zi <<< ((6 : Int32) &&& 31)) ||| zv121) <<< ((6 : Int32) &&& 31)) ||| zv123)) Bd.returns rfl (by simp) (hb hby own_d6_48) hr124, fin _ _ ⟨hrun124, hended124, _, _, rfl, ?_, ⟨_, rfl⟩, hW124, hsame124.mono (by decide) (by decide)⟩⟩
        show own_Q6 Z a1 mA hA z fm fh M H S e0_ h0 n0 _ T123.heap _
        rw [e123]
        exact ⟨64 * (64 * vi + t121) + t123, _, rfl, own_comb hcm vt123 lt123 (by omega), (pI.low b2 h0_ low121 low123).1, (pI.low b2 h0_ low121 low123).2, N123, rfl⟩
  refine own_fwd (fun tt kt => XS.iconst X0.here hx rfl (hb hby own_d6_0) kt) ?_
  show own_R p.tables e below P (s₁.setTop (mkF m 1 #[.val (.ref a1), .unset, .unset] [(.int (0 : Int32))]))
  refine own_fwd (fun tt kt => XS.istoreN X0.here hx rfl (hb hby own_d6_1) rfl (l' := #[.val (.ref a1), .val (.int (0 : Int32)), .unset]) rfl kt) ?_
  show own_R p.tables e below P (s₁.setTop (mkF m 2 #[.val (.ref a1), .val (.int (0 : Int32)), .unset] []))
  exact loop (e0_ / 64 / 64) 0 _ _ X0 e0 (by omega) (by omega) rfl (fun v' hv' => absurd hv' (by omega))
theorem own_d9_0 : decode prog_129_method_9_code 0 = .ok (.aload_n 0, 1) := by decide +kernel
theorem own_d9_1 : decode prog_129_method_9_code 1 = .ok (.getfield 18, 3) := by decide +kernel
theorem own_d9_4 : decode prog_129_method_9_code 4 = .ok (.arraylength, 1) := by decide +kernel
theorem own_d9_5 : decode prog_129_method_9_code 5 = .ok (.iconst 1, 1) := by decide +kernel
theorem own_d9_6 : decode prog_129_method_9_code 6 = .ok (.isub, 1) := by decide +kernel
theorem own_d9_7 : decode prog_129_method_9_code 7 = .ok (.istore_n 1, 1) := by decide +kernel
theorem own_d9_8 : decode prog_129_method_9_code 8 = .ok (.aload_n 0, 1) := by decide +kernel
theorem own_d9_9 : decode prog_129_method_9_code 9 = .ok (.getfield 18, 3) := by decide +kernel
theorem own_d9_12 : decode prog_129_method_9_code 12 = .ok (.iload_n 1, 1) := by decide +kernel
theorem own_d9_13 : decode prog_129_method_9_code 13 = .ok (.laload, 1) := by decide +kernel
theorem own_d9_14 : decode prog_129_method_9_code 14 = .ok (.lconst 0, 1) := by decide +kernel
theorem own_d9_15 : decode prog_129_method_9_code 15 = .ok (.lcmp, 1) := by decide +kernel
theorem own_d9_16 : decode prog_129_method_9_code 16 = .ok (.ifCond .ne 9, 3) := by decide +kernel
theorem own_d9_19 : decode prog_129_method_9_code 19 = .ok (.iinc 1 (-1), 3) := by decide +kernel
theorem own_d9_22 : decode prog_129_method_9_code 22 = .ok (.goto (-14), 3) := by decide +kernel
theorem own_d9_25 : decode prog_129_method_9_code 25 = .ok (.iload_n 1, 1) := by decide +kernel
theorem own_d9_26 : decode prog_129_method_9_code 26 = .ok (.bipush 6, 2) := by decide +kernel
theorem own_d9_28 : decode prog_129_method_9_code 28 = .ok (.ishl, 1) := by decide +kernel
theorem own_d9_29 : decode prog_129_method_9_code 29 = .ok (.bipush 63, 2) := by decide +kernel
theorem own_d9_31 : decode prog_129_method_9_code 31 = .ok (.aload_n 0, 1) := by decide +kernel
theorem own_d9_32 : decode prog_129_method_9_code 32 = .ok (.getfield 18, 3) := by decide +kernel
theorem own_d9_35 : decode prog_129_method_9_code 35 = .ok (.iload_n 1, 1) := by decide +kernel
theorem own_d9_36 : decode prog_129_method_9_code 36 = .ok (.laload, 1) := by decide +kernel
theorem own_d9_37 : decode prog_129_method_9_code 37 = .ok (.invokestatic 47, 3) := by decide +kernel
theorem own_d9_40 : decode prog_129_method_9_code 40 = .ok (.isub, 1) := by decide +kernel
theorem own_d9_41 : decode prog_129_method_9_code 41 = .ok (.ior, 1) := by decide +kernel
theorem own_d9_42 : decode prog_129_method_9_code 42 = .ok (.istore_n 2, 1) := by decide +kernel
theorem own_d9_43 : decode prog_129_method_9_code 43 = .ok (.iload_n 2, 1) := by decide +kernel
theorem own_d9_44 : decode prog_129_method_9_code 44 = .ok (.bipush 6, 2) := by decide +kernel
theorem own_d9_46 : decode prog_129_method_9_code 46 = .ok (.ishl, 1) := by decide +kernel
theorem own_d9_47 : decode prog_129_method_9_code 47 = .ok (.bipush 63, 2) := by decide +kernel
theorem own_d9_49 : decode prog_129_method_9_code 49 = .ok (.aload_n 0, 1) := by decide +kernel
theorem own_d9_50 : decode prog_129_method_9_code 50 = .ok (.getfield 14, 3) := by decide +kernel
theorem own_d9_53 : decode prog_129_method_9_code 53 = .ok (.iload_n 2, 1) := by decide +kernel
theorem own_d9_54 : decode prog_129_method_9_code 54 = .ok (.laload, 1) := by decide +kernel
theorem own_d9_55 : decode prog_129_method_9_code 55 = .ok (.invokestatic 47, 3) := by decide +kernel
theorem own_d9_58 : decode prog_129_method_9_code 58 = .ok (.isub, 1) := by decide +kernel
theorem own_d9_59 : decode prog_129_method_9_code 59 = .ok (.ior, 1) := by decide +kernel
theorem own_d9_60 : decode prog_129_method_9_code 60 = .ok (.ireturn, 1) := by decide +kernel
theorem own_ef9 (m : MethodId) (a1 : Addr) : entryFrame m #[(.ref a1)] 3 = mkF m 0 #[.val (.ref a1), .unset, .unset] [] := by first | (simp [entryFrame, mkF, argsToLocals, Value.category]; done) | rfl
def own_Q9 (Z : State) (a1 mA hA : Addr) (z : Int32) (fm fh : Nat → Int64) (M H : Nat) (S : Nat → Bool) (e0_ : Nat) (h0 : Heap) (n0 : Nat) (v : Option Value) (h : Heap) (L : List Loc) : Prop := ∃ (r : Nat) (zr : Int32), v = some (.int zr) ∧ zr.toInt = (r : Int) ∧ S r = true ∧ (∀ k, r < k → S k = false) ∧ Fr n0 L ∧ h = h0
set_option maxRecDepth 65536 in
set_option maxHeartbeats 40000000 in
theorem own_rm9 (l : Launch) (Z : State) (a0 : Array Value) (hw : ∀ d ∈ tables_1, d.before a0 Z = true) (ws : List Jvm.Cond) (a1 mA hA : Addr) (z : Int32) (fm fh : Nat → Int64) (M H : Nat) (S : Nat → Bool) (e0_ : Nat) (h0 : Heap) (n0 : Nat) (Z0 : n0 ≤ h0.size) (pE : Exa Z h0 a1 "com/example/ramp99/ramp99/service/replay/NumberSet") (pF1 : Fld Z h0 a1 "com/example/ramp99/ramp99/service/replay/NumberSet" "members" "[J" (.ref mA)) (pF2 : Fld Z h0 a1 "com/example/ramp99/ramp99/service/replay/NumberSet" "holding" "[J" (.ref hA)) (pF3 : Fld Z h0 a1 "com/example/ramp99/ramp99/service/replay/NumberSet" "size" "I" (.int z)) (pM : own_AJ Z h0 mA M fm) (pH : own_AJ Z h0 hA H fh) (pEm : Exa Z h0 mA "[J") (pEh : Exa Z h0 hA "[J") (pg : n0 ≤ a1) (pgm : n0 ≤ mA) (pgh : n0 ≤ hA) (n1 : a1 ≠ mA) (n2 : a1 ≠ hA) (n3 : mA ≠ hA) (pI : own_Inv M H fm fh S) (bM : M ≤ 1000) (hin : S e0_ = true) :
    MetFree l (⟨"com/example/ramp99/ramp99/service/replay/NumberSet", "highest", "()I"⟩ : MethodName) (head1 (Jvm.Cond.code (⟨"com/example/ramp99/ramp99/service/replay/NumberSet", "highest", "()I"⟩ : MethodName) prog_129_method_9_code 3 (some .int) :: ws) ({ frames := 2, cells := 0, slots := 0, locals := 30 } : Room)) (fun a U => a = #[(.ref a1)] ∧ Z.Warmed39 U.vm ∧ U.heap = h0) (fun _ _ _ _ _ => True) (fun _ U o U' => ∃ v L, o = .returned v ∧ own_Q9 Z a1 mA hA z fm fh M H S e0_ h0 n0 v U'.heap L ∧ FrameEnd U o U' L ({ frames := 2, cells := 0, slots := 0, locals := 30 } : Room).cells ({ frames := 2, cells := 0, slots := 0, locals := 30 } : Room).slots) := by
  refine MetFree.of_bodySF (plainFor_of_name own_pn1) hisR ?_
  intro p e s m args below meth c s₁ Bd hml0 hP hK
  obtain ⟨rfl, hZ, hh⟩ := hP
  have hx := Bd.exec
  have hby := Bd.bytes
  have hml : c.maxLocals = 3 := hml0
  have hown : s.vm.findClass "com/example/ramp99/ramp99/service/replay/NumberSet" = some m.cls := findClass_of_methodNamed Bd.named
  have hnm := (name_of_methodNamed Bd.named Bd.method).1
  have X0 : Stand p l e ({ frames := 2, cells := 0, slots := 0, locals := 30 } : Room) s m #[(.ref a1)] below meth c s₁ [] 0 0 := Stand.of_body Bd
  have e0 : s₁.heap = h0 := by rw [← hh, Bd.state]; rfl
  have N0 := Fr.nil n0
  refine own_nm (st := s₁.setTop (entryFrame m #[(.ref a1)] 3)) fun P fin => ?_
  refine own_fwd (fun tt kt => castTop (own_ef9 m a1) kt) ?_
  show own_R p.tables e below P (s₁.setTop (mkF m 0 #[.val (.ref a1), .unset, .unset] []))
  obtain ⟨-, -, hvH, hvz⟩ := pI.has hin
  have H4 := pI.2.2.2
  have loop : ∀ (k vi : Nat) (zi : Int32) (T : State) (X : Stand p l e ({ frames := 2, cells := 0, slots := 0, locals := 30 } : Room) s m #[(.ref a1)] below meth c T [] 0 0) (eT : T.heap = h0), e0_ / 64 / 64 + k = vi → vi < H → zi.toInt = (vi : Int) → (∀ v', vi < v' → v' < H → fh v' = 0) → own_R p.tables e below P (T.setTop (mkF m 8 #[.val (.ref a1), .val (.int zi), .unset] [])) := by
    intro k
    induction k with
    | zero =>
      intro vi zi T X eT b1 b2 hzi h0_
      have ev : vi = e0_ / 64 / 64 := by omega
      have hvv : ¬ fh vi = 0 := by rw [ev]; exact hvz
      refine own_fwd (fun tt kt => XS.aloadN X.here hx rfl (hb hby own_d9_8) rfl rfl kt) ?_
      show own_R p.tables e below P (T.setTop (mkF m 9 #[.val (.ref a1), .val (.int zi), .unset] [(.ref a1)]))
      obtain ⟨T125, X125, e125, st125⟩ := getF X hx hZ hown (host := "") (Or.inl (hw _ (List.mem_of_getElem? (i := 12) rfl))) Via.refl eT pF2 (g := (mkF m 9 #[.val (.ref a1), .val (.int zi), .unset] [(.ref a1)])) rfl rfl (hb hby own_d9_9)
      refine own_fwd st125 ?_
      show own_R p.tables e below P (T125.setTop (mkF m 12 #[.val (.ref a1), .val (.int zi), .unset] [(.ref hA)]))
      refine own_fwd (fun tt kt => XS.iloadN X125.here hx rfl (hb hby own_d9_12) rfl kt) ?_
      show own_R p.tables e below P (T125.setTop (mkF m 13 #[.val (.ref a1), .val (.int zi), .unset] [(.int zi), (.ref hA)]))
      refine own_fwd (own_ldJ X125 hx hZ e125 pH (j := zi) vi hzi b2 (g := (mkF m 13 #[.val (.ref a1), .val (.int zi), .unset] [(.int zi), (.ref hA)])) rfl rfl (hb hby own_d9_13)) ?_
      show own_R p.tables e below P (T125.setTop (mkF m 14 #[.val (.ref a1), .val (.int zi), .unset] [(.long (fh vi))]))
      refine own_fwd (fun tt kt => XS.lconst X125.here hx rfl (hb hby own_d9_14) kt) ?_
      show own_R p.tables e below P (T125.setTop (mkF m 15 #[.val (.ref a1), .val (.int zi), .unset] [(.long (0 : Int64)), (.long (fh vi))]))
      refine own_fwd (fun tt kt => XS.lcmp X125.here hx rfl (hb hby own_d9_15) rfl kt) ?_
      show own_R p.tables e below P (T125.setTop (mkF m 16 #[.val (.ref a1), .val (.int zi), .unset] [(.int (lcmpW (fh vi) (0 : Int64)))]))
      have hc126 : ¬ ((lcmpW (fh vi) (0 : Int64)) = (0 : Int32)) := fun q => hvv ((lw_eq _ _).mp q)
      refine own_fwd (fun tt kt => XS.ifYes X125.here hx rfl (pc0 := 16) (pc' := 25) rfl (hb hby own_d9_16) rfl ((if0 _ _).trans (feq hc126).2) (by decide) (by decide) kt) ?_
      show own_R p.tables e below P (T125.setTop (mkF m 25 #[.val (.ref a1), .val (.int zi), .unset] []))
      have hnz : ¬ fh vi = 0 := hvv
      refine own_fwd (fun tt kt => XS.iloadN X125.here hx rfl (hb hby own_d9_25) rfl kt) ?_
      show own_R p.tables e below P (T125.setTop (mkF m 26 #[.val (.ref a1), .val (.int zi), .unset] [(.int zi)]))
      refine own_fwd (fun tt kt => XS.bipush X125.here hx rfl (hb hby own_d9_26) kt) ?_
      show own_R p.tables e below P (T125.setTop (mkF m 28 #[.val (.ref a1), .val (.int zi), .unset] [(.int (6 : Int32)), (.int zi)]))
      refine own_fwd (fun tt kt => XS.ishl X125.here hx rfl (hb hby own_d9_28) rfl kt) ?_
      show own_R p.tables e below P (T125.setTop (mkF m 29 #[.val (.ref a1), .val (.int zi), .unset] [(.int (zi <<< ((6 : Int32) &&& 31)))]))
      refine own_fwd (fun tt kt => XS.bipush X125.here hx rfl (hb hby own_d9_29) kt) ?_
      show own_R p.tables e below P (T125.setTop (mkF m 31 #[.val (.ref a1), .val (.int zi), .unset] [(.int (63 : Int32)), (.int (zi <<< ((6 : Int32) &&& 31)))]))
      refine own_fwd (fun tt kt => XS.aloadN X125.here hx rfl (hb hby own_d9_31) rfl rfl kt) ?_
      show own_R p.tables e below P (T125.setTop (mkF m 32 #[.val (.ref a1), .val (.int zi), .unset] [(.ref a1), (.int (63 : Int32)), (.int (zi <<< ((6 : Int32) &&& 31)))]))
      obtain ⟨T127, X127, e127, st127⟩ := getF X125 hx hZ hown (host := "") (Or.inl (hw _ (List.mem_of_getElem? (i := 12) rfl))) Via.refl e125 pF2 (g := (mkF m 32 #[.val (.ref a1), .val (.int zi), .unset] [(.ref a1), (.int (63 : Int32)), (.int (zi <<< ((6 : Int32) &&& 31)))])) rfl rfl (hb hby own_d9_32)
      refine own_fwd st127 ?_
      show own_R p.tables e below P (T127.setTop (mkF m 35 #[.val (.ref a1), .val (.int zi), .unset] [(.ref hA), (.int (63 : Int32)), (.int (zi <<< ((6 : Int32) &&& 31)))]))
      refine own_fwd (fun tt kt => XS.iloadN X127.here hx rfl (hb hby own_d9_35) rfl kt) ?_
      show own_R p.tables e below P (T127.setTop (mkF m 36 #[.val (.ref a1), .val (.int zi), .unset] [(.int zi), (.ref hA), (.int (63 : Int32)), (.int (zi <<< ((6 : Int32) &&& 31)))]))
      refine own_fwd (own_ldJ X127 hx hZ e127 pH (j := zi) vi hzi b2 (g := (mkF m 36 #[.val (.ref a1), .val (.int zi), .unset] [(.int zi), (.ref hA), (.int (63 : Int32)), (.int (zi <<< ((6 : Int32) &&& 31)))])) rfl rfl (hb hby own_d9_36)) ?_
      show own_R p.tables e below P (T127.setTop (mkF m 37 #[.val (.ref a1), .val (.int zi), .unset] [(.long (fh vi)), (.int (63 : Int32)), (.int (zi <<< ((6 : Int32) &&& 31)))]))
      obtain ⟨_, _, ⟨T128, L128, k128, n128⟩, -, X128, ⟨hE128, l128, y128, z128⟩, st128⟩ := Jvm.LawKit.callS X127 hx (y := (⟨"java/lang/Long", "numberOfLeadingZeros", "(J)I"⟩ : MethodName)) hown (mvT hZ (hw _ (List.mem_of_getElem? (i := 52) rfl))) (mvT hZ (hw _ (List.mem_of_getElem? (i := 53) rfl))) (mvT hZ (hw _ (List.mem_of_getElem? (i := 40) rfl))) (mvT hZ (hw _ (List.mem_of_getElem? (i := 54) rfl))) (by decide) (Jvm.Free.JP.Long_numberOfLeadingZeros_J.pays (W := 2) (fh vi) (own_tabL hZ hw) (by decide) (by decide)) (g := (mkF m 37 #[.val (.ref a1), .val (.int zi), .unset] [(.long (fh vi)), (.int (63 : Int32)), (.int (zi <<< ((6 : Int32) &&& 31)))])) rfl (by rw [hml]; rfl) (argsL := [(.long (fh vi))]) (rest := [(.int (63 : Int32)), (.int (zi <<< ((6 : Int32) &&& 31)))]) (lenOf own_pd2 rfl) rfl (by show 2 * 0 + _ ≤ _; exact Nat.le_of_eq rfl) (hb hby own_d9_37) (fun _ _ => ⟨(by decide : 0 + 0 ≤ _), (by decide : 0 + 0 ≤ _), rfl, trivial⟩)
      dsimp only [Pt.U, Pt.locs, Pt.cells, Pt.slots] at X128 l128 y128 z128 st128 hE128
      rw [l128, (show k128 = 0 from y128), (show n128 = 0 from z128)] at X128
      obtain ⟨hq128, he128⟩ := hE128
      have e128 : T128.heap = h0 := he128.trans e127
      obtain ⟨t128, lt128, top128, vt128⟩ := own_nlz hnz
      obtain ⟨zv128, hzv128⟩ : ∃ z, Jvm.Free.JP.Long_numberOfLeadingZeros_J.val (fh vi) = z := ⟨_, rfl⟩
      rw [hzv128] at hq128 vt128
      rw [hq128] at st128
      have N128 := Fr.app N0 (Fr.nil n0)
      refine own_fwd st128 ?_
      show own_R p.tables e below P (T128.setTop (mkF m 40 #[.val (.ref a1), .val (.int zi), .unset] [(.int zv128), (.int (63 : Int32)), (.int (zi <<< ((6 : Int32) &&& 31)))]))
      obtain ⟨wM, wz⟩ := pI.word b2 lt128 top128.1
      have hcm := own_comb hzi vt128 lt128 (by omega)
      refine own_fwd (fun tt kt => XS.isub X128.here hx rfl (hb hby own_d9_40) rfl kt) ?_
      show own_R p.tables e below P (T128.setTop (mkF m 41 #[.val (.ref a1), .val (.int zi), .unset] [(.int ((63 : Int32) - zv128)), (.int (zi <<< ((6 : Int32) &&& 31)))]))
      refine own_fwd (fun tt kt => XS.ior X128.here hx rfl (hb hby own_d9_41) rfl kt) ?_
      show own_R p.tables e below P (T128.setTop (mkF m 42 #[.val (.ref a1), .val (.int zi), .unset] [(.int ((zi <<< ((6 : Int32) &&& 31)) ||| ((63 : Int32) - zv128)))]))
      refine own_fwd (fun tt kt => XS.istoreN X128.here hx rfl (hb hby own_d9_42) rfl (l' := #[.val (.ref a1), .val (.int zi), .val (.int ((zi <<< ((6 : Int32) &&& 31)) ||| ((63 : Int32) - zv128)))]) rfl kt) ?_
      show own_R p.tables e below P (T128.setTop (mkF m 43 #[.val (.ref a1), .val (.int zi), .val (.int ((zi <<< ((6 : Int32) &&& 31)) ||| ((63 : Int32) - zv128)))] []))
      refine own_fwd (fun tt kt => XS.iloadN X128.here hx rfl (hb hby own_d9_43) rfl kt) ?_
      show own_R p.tables e below P (T128.setTop (mkF m 44 #[.val (.ref a1), .val (.int zi), .val (.int ((zi <<< ((6 : Int32) &&& 31)) ||| ((63 : Int32) - zv128)))] [(.int ((zi <<< ((6 : Int32) &&& 31)) ||| ((63 : Int32) - zv128)))]))
      refine own_fwd (fun tt kt => XS.bipush X128.here hx rfl (hb hby own_d9_44) kt) ?_
      show own_R p.tables e below P (T128.setTop (mkF m 46 #[.val (.ref a1), .val (.int zi), .val (.int ((zi <<< ((6 : Int32) &&& 31)) ||| ((63 : Int32) - zv128)))] [(.int (6 : Int32)), (.int ((zi <<< ((6 : Int32) &&& 31)) ||| ((63 : Int32) - zv128)))]))
      refine own_fwd (fun tt kt => XS.ishl X128.here hx rfl (hb hby own_d9_46) rfl kt) ?_
      show own_R p.tables e below P (T128.setTop (mkF m 47 #[.val (.ref a1), .val (.int zi), .val (.int ((zi <<< ((6 : Int32) &&& 31)) ||| ((63 : Int32) - zv128)))] [(.int (((zi <<< ((6 : Int32) &&& 31)) ||| ((63 : Int32) - zv128)) <<< ((6 : Int32) &&& 31)))]))
      refine own_fwd (fun tt kt => XS.bipush X128.here hx rfl (hb hby own_d9_47) kt) ?_
      show own_R p.tables e below P (T128.setTop (mkF m 49 #[.val (.ref a1), .val (.int zi), .val (.int ((zi <<< ((6 : Int32) &&& 31)) ||| ((63 : Int32) - zv128)))] [(.int (63 : Int32)), (.int (((zi <<< ((6 : Int32) &&& 31)) ||| ((63 : Int32) - zv128)) <<< ((6 : Int32) &&& 31)))]))
      refine own_fwd (fun tt kt => XS.aloadN X128.here hx rfl (hb hby own_d9_49) rfl rfl kt) ?_
      show own_R p.tables e below P (T128.setTop (mkF m 50 #[.val (.ref a1), .val (.int zi), .val (.int ((zi <<< ((6 : Int32) &&& 31)) ||| ((63 : Int32) - zv128)))] [(.ref a1), (.int (63 : Int32)), (.int (((zi <<< ((6 : Int32) &&& 31)) ||| ((63 : Int32) - zv128)) <<< ((6 : Int32) &&& 31)))]))
      obtain ⟨T129, X129, e129, st129⟩ := getF X128 hx hZ hown (host := "") (Or.inl (hw _ (List.mem_of_getElem? (i := 10) rfl))) Via.refl e128 pF1 (g := (mkF m 50 #[.val (.ref a1), .val (.int zi), .val (.int ((zi <<< ((6 : Int32) &&& 31)) ||| ((63 : Int32) - zv128)))] [(.ref a1), (.int (63 : Int32)), (.int (((zi <<< ((6 : Int32) &&& 31)) ||| ((63 : Int32) - zv128)) <<< ((6 : Int32) &&& 31)))])) rfl rfl (hb hby own_d9_50)
      refine own_fwd st129 ?_
      show own_R p.tables e below P (T129.setTop (mkF m 53 #[.val (.ref a1), .val (.int zi), .val (.int ((zi <<< ((6 : Int32) &&& 31)) ||| ((63 : Int32) - zv128)))] [(.ref mA), (.int (63 : Int32)), (.int (((zi <<< ((6 : Int32) &&& 31)) ||| ((63 : Int32) - zv128)) <<< ((6 : Int32) &&& 31)))]))
      refine own_fwd (fun tt kt => XS.iloadN X129.here hx rfl (hb hby own_d9_53) rfl kt) ?_
      show own_R p.tables e below P (T129.setTop (mkF m 54 #[.val (.ref a1), .val (.int zi), .val (.int ((zi <<< ((6 : Int32) &&& 31)) ||| ((63 : Int32) - zv128)))] [(.int ((zi <<< ((6 : Int32) &&& 31)) ||| ((63 : Int32) - zv128))), (.ref mA), (.int (63 : Int32)), (.int (((zi <<< ((6 : Int32) &&& 31)) ||| ((63 : Int32) - zv128)) <<< ((6 : Int32) &&& 31)))]))
      refine own_fwd (own_ldJ X129 hx hZ e129 pM (j := ((zi <<< ((6 : Int32) &&& 31)) ||| ((63 : Int32) - zv128))) (64 * vi + t128) hcm wM (g := (mkF m 54 #[.val (.ref a1), .val (.int zi), .val (.int ((zi <<< ((6 : Int32) &&& 31)) ||| ((63 : Int32) - zv128)))] [(.int ((zi <<< ((6 : Int32) &&& 31)) ||| ((63 : Int32) - zv128))), (.ref mA), (.int (63 : Int32)), (.int (((zi <<< ((6 : Int32) &&& 31)) ||| ((63 : Int32) - zv128)) <<< ((6 : Int32) &&& 31)))])) rfl rfl (hb hby own_d9_54)) ?_
      show own_R p.tables e below P (T129.setTop (mkF m 55 #[.val (.ref a1), .val (.int zi), .val (.int ((zi <<< ((6 : Int32) &&& 31)) ||| ((63 : Int32) - zv128)))] [(.long (fm (64 * vi + t128))), (.int (63 : Int32)), (.int (((zi <<< ((6 : Int32) &&& 31)) ||| ((63 : Int32) - zv128)) <<< ((6 : Int32) &&& 31)))]))
      obtain ⟨_, _, ⟨T130, L130, k130, n130⟩, -, X130, ⟨hE130, l130, y130, z130⟩, st130⟩ := Jvm.LawKit.callS X129 hx (y := (⟨"java/lang/Long", "numberOfLeadingZeros", "(J)I"⟩ : MethodName)) hown (mvT hZ (hw _ (List.mem_of_getElem? (i := 52) rfl))) (mvT hZ (hw _ (List.mem_of_getElem? (i := 53) rfl))) (mvT hZ (hw _ (List.mem_of_getElem? (i := 40) rfl))) (mvT hZ (hw _ (List.mem_of_getElem? (i := 54) rfl))) (by decide) (Jvm.Free.JP.Long_numberOfLeadingZeros_J.pays (W := 2) (fm (64 * vi + t128)) (own_tabL hZ hw) (by decide) (by decide)) (g := (mkF m 55 #[.val (.ref a1), .val (.int zi), .val (.int ((zi <<< ((6 : Int32) &&& 31)) ||| ((63 : Int32) - zv128)))] [(.long (fm (64 * vi + t128))), (.int (63 : Int32)), (.int (((zi <<< ((6 : Int32) &&& 31)) ||| ((63 : Int32) - zv128)) <<< ((6 : Int32) &&& 31)))])) rfl (by rw [hml]; rfl) (argsL := [(.long (fm (64 * vi + t128)))]) (rest := [(.int (63 : Int32)), (.int (((zi <<< ((6 : Int32) &&& 31)) ||| ((63 : Int32) - zv128)) <<< ((6 : Int32) &&& 31)))]) (lenOf own_pd2 rfl) rfl (by show 2 * 0 + _ ≤ _; exact Nat.le_of_eq rfl) (hb hby own_d9_55) (fun _ _ => ⟨(by decide : 0 + 0 ≤ _), (by decide : 0 + 0 ≤ _), rfl, trivial⟩)
      dsimp only [Pt.U, Pt.locs, Pt.cells, Pt.slots] at X130 l130 y130 z130 st130 hE130
      rw [l130, (show k130 = 0 from y130), (show n130 = 0 from z130)] at X130
      obtain ⟨hq130, he130⟩ := hE130
      have e130 : T130.heap = h0 := he130.trans e129
      obtain ⟨t130, lt130, top130, vt130⟩ := own_nlz wz
      obtain ⟨zv130, hzv130⟩ : ∃ z, Jvm.Free.JP.Long_numberOfLeadingZeros_J.val (fm (64 * vi + t128)) = z := ⟨_, rfl⟩
      rw [hzv130] at hq130 vt130
      rw [hq130] at st130
      have N130 := Fr.app N128 (Fr.nil n0)
      refine own_fwd st130 ?_
      show own_R p.tables e below P (T130.setTop (mkF m 58 #[.val (.ref a1), .val (.int zi), .val (.int ((zi <<< ((6 : Int32) &&& 31)) ||| ((63 : Int32) - zv128)))] [(.int zv130), (.int (63 : Int32)), (.int (((zi <<< ((6 : Int32) &&& 31)) ||| ((63 : Int32) - zv128)) <<< ((6 : Int32) &&& 31)))]))
      refine own_fwd (fun tt kt => XS.isub X130.here hx rfl (hb hby own_d9_58) rfl kt) ?_
      show own_R p.tables e below P (T130.setTop (mkF m 59 #[.val (.ref a1), .val (.int zi), .val (.int ((zi <<< ((6 : Int32) &&& 31)) ||| ((63 : Int32) - zv128)))] [(.int ((63 : Int32) - zv130)), (.int (((zi <<< ((6 : Int32) &&& 31)) ||| ((63 : Int32) - zv128)) <<< ((6 : Int32) &&& 31)))]))
      refine own_fwd (fun tt kt => XS.ior X130.here hx rfl (hb hby own_d9_59) rfl kt) ?_
      show own_R p.tables e below P (T130.setTop (mkF m 60 #[.val (.ref a1), .val (.int zi), .val (.int ((zi <<< ((6 : Int32) &&& 31)) ||| ((63 : Int32) - zv128)))] [(.int ((((zi <<< ((6 : Int32) &&& 31)) ||| ((63 : Int32) - zv128)) <<< ((6 : Int32) &&& 31)) ||| ((63 : Int32) - zv130)))]))
      obtain ⟨fs131, hr131, hrun131, hended131, hW131, hsame131⟩ := X130.leave (v := some (.int ((((zi <<< ((6 : Int32) &&& 31)) ||| ((63 : Int32) - zv128)) <<< ((6 : Int32) &&& 31)) ||| ((63 : Int32) - zv130)))) (fun h => by rw [Bd.returns] at h; cases h)
      refine ⟨_, _, X130.ireturnOut hx (w := ((((zi <<< ((6 : Int32) &&& 31)) ||| ((63 : Int32) - zv128)) <<< ((6 : Int32) &&& 31)) ||| ((63 : Int32) - zv130))) Bd.returns rfl (by simp) (hb hby own_d9_60) hr131, fin _ _ ⟨hrun131, hended131, _, _, rfl, ?_, ⟨_, rfl⟩, hW131, hsame131.mono (by decide) (by decide)⟩⟩
      show own_Q9 Z a1 mA hA z fm fh M H S e0_ h0 n0 _ T130.heap _
      rw [e130]
      exact ⟨64 * (64 * vi + t128) + t130, _, rfl, own_comb hcm vt130 lt130 (by omega), (pI.high b2 h0_ lt128 lt130 top128 top130).1, (pI.high b2 h0_ lt128 lt130 top128 top130).2, N130, rfl⟩
    | succ k ih =>
      intro vi zi T X eT b1 b2 hzi h0_
      refine own_fwd (fun tt kt => XS.aloadN X.here hx rfl (hb hby own_d9_8) rfl rfl kt) ?_
      show own_R p.tables e below P (T.setTop (mkF m 9 #[.val (.ref a1), .val (.int zi), .unset] [(.ref a1)]))
      obtain ⟨T132, X132, e132, st132⟩ := getF X hx hZ hown (host := "") (Or.inl (hw _ (List.mem_of_getElem? (i := 12) rfl))) Via.refl eT pF2 (g := (mkF m 9 #[.val (.ref a1), .val (.int zi), .unset] [(.ref a1)])) rfl rfl (hb hby own_d9_9)
      refine own_fwd st132 ?_
      show own_R p.tables e below P (T132.setTop (mkF m 12 #[.val (.ref a1), .val (.int zi), .unset] [(.ref hA)]))
      refine own_fwd (fun tt kt => XS.iloadN X132.here hx rfl (hb hby own_d9_12) rfl kt) ?_
      show own_R p.tables e below P (T132.setTop (mkF m 13 #[.val (.ref a1), .val (.int zi), .unset] [(.int zi), (.ref hA)]))
      refine own_fwd (own_ldJ X132 hx hZ e132 pH (j := zi) vi hzi b2 (g := (mkF m 13 #[.val (.ref a1), .val (.int zi), .unset] [(.int zi), (.ref hA)])) rfl rfl (hb hby own_d9_13)) ?_
      show own_R p.tables e below P (T132.setTop (mkF m 14 #[.val (.ref a1), .val (.int zi), .unset] [(.long (fh vi))]))
      refine own_fwd (fun tt kt => XS.lconst X132.here hx rfl (hb hby own_d9_14) kt) ?_
      show own_R p.tables e below P (T132.setTop (mkF m 15 #[.val (.ref a1), .val (.int zi), .unset] [(.long (0 : Int64)), (.long (fh vi))]))
      refine own_fwd (fun tt kt => XS.lcmp X132.here hx rfl (hb hby own_d9_15) rfl kt) ?_
      show own_R p.tables e below P (T132.setTop (mkF m 16 #[.val (.ref a1), .val (.int zi), .unset] [(.int (lcmpW (fh vi) (0 : Int64)))]))
      by_cases hc133 : (lcmpW (fh vi) (0 : Int64)) = (0 : Int32)
      · refine own_fwd (fun tt kt => XS.ifNo X132.here hx rfl (hb hby own_d9_16) rfl ((if0 _ _).trans (teq hc133).2) kt) ?_
        show own_R p.tables e below P (T132.setTop (mkF m 19 #[.val (.ref a1), .val (.int zi), .unset] []))
        refine own_fwd (fun tt kt => XS.iinc X132.here hx rfl (hb hby own_d9_19) rfl (l' := #[.val (.ref a1), .val (.int (zi + (-1 : Int32))), .unset]) rfl kt) ?_
        show own_R p.tables e below P (T132.setTop (mkF m 22 #[.val (.ref a1), .val (.int (zi + (-1 : Int32))), .unset] []))
        refine own_fwd (fun tt kt => XS.goto X132.here hx rfl (pc0 := 22) (pc' := 8) rfl (hb hby own_d9_22) (by decide) (by decide) kt) ?_
        show own_R p.tables e below P (T132.setTop (mkF m 8 #[.val (.ref a1), .val (.int (zi + (-1 : Int32))), .unset] []))
        exact ih (vi - 1) _ _ X132 e132 (by omega) (by omega) (own_decn hzi (by omega)) (fun v' hv' hH => by
          rcases (by omega : vi < v' ∨ v' = vi) with q | q
          · exact h0_ v' q hH
          · rw [q]; exact (lw_eq _ _).mp hc133)
      · refine own_fwd (fun tt kt => XS.ifYes X132.here hx rfl (pc0 := 16) (pc' := 25) rfl (hb hby own_d9_16) rfl ((if0 _ _).trans (feq hc133).2) (by decide) (by decide) kt) ?_
        show own_R p.tables e below P (T132.setTop (mkF m 25 #[.val (.ref a1), .val (.int zi), .unset] []))
        have hnz : ¬ fh vi = 0 := fun q => hc133 ((lw_eq _ _).mpr q)
        refine own_fwd (fun tt kt => XS.iloadN X132.here hx rfl (hb hby own_d9_25) rfl kt) ?_
        show own_R p.tables e below P (T132.setTop (mkF m 26 #[.val (.ref a1), .val (.int zi), .unset] [(.int zi)]))
        refine own_fwd (fun tt kt => XS.bipush X132.here hx rfl (hb hby own_d9_26) kt) ?_
        show own_R p.tables e below P (T132.setTop (mkF m 28 #[.val (.ref a1), .val (.int zi), .unset] [(.int (6 : Int32)), (.int zi)]))
        refine own_fwd (fun tt kt => XS.ishl X132.here hx rfl (hb hby own_d9_28) rfl kt) ?_
        show own_R p.tables e below P (T132.setTop (mkF m 29 #[.val (.ref a1), .val (.int zi), .unset] [(.int (zi <<< ((6 : Int32) &&& 31)))]))
        refine own_fwd (fun tt kt => XS.bipush X132.here hx rfl (hb hby own_d9_29) kt) ?_
        show own_R p.tables e below P (T132.setTop (mkF m 31 #[.val (.ref a1), .val (.int zi), .unset] [(.int (63 : Int32)), (.int (zi <<< ((6 : Int32) &&& 31)))]))
        refine own_fwd (fun tt kt => XS.aloadN X132.here hx rfl (hb hby own_d9_31) rfl rfl kt) ?_
        show own_R p.tables e below P (T132.setTop (mkF m 32 #[.val (.ref a1), .val (.int zi), .unset] [(.ref a1), (.int (63 : Int32)), (.int (zi <<< ((6 : Int32) &&& 31)))]))
        obtain ⟨T134, X134, e134, st134⟩ := getF X132 hx hZ hown (host := "") (Or.inl (hw _ (List.mem_of_getElem? (i := 12) rfl))) Via.refl e132 pF2 (g := (mkF m 32 #[.val (.ref a1), .val (.int zi), .unset] [(.ref a1), (.int (63 : Int32)), (.int (zi <<< ((6 : Int32) &&& 31)))])) rfl rfl (hb hby own_d9_32)
        refine own_fwd st134 ?_
        show own_R p.tables e below P (T134.setTop (mkF m 35 #[.val (.ref a1), .val (.int zi), .unset] [(.ref hA), (.int (63 : Int32)), (.int (zi <<< ((6 : Int32) &&& 31)))]))
        refine own_fwd (fun tt kt => XS.iloadN X134.here hx rfl (hb hby own_d9_35) rfl kt) ?_
        show own_R p.tables e below P (T134.setTop (mkF m 36 #[.val (.ref a1), .val (.int zi), .unset] [(.int zi), (.ref hA), (.int (63 : Int32)), (.int (zi <<< ((6 : Int32) &&& 31)))]))
        refine own_fwd (own_ldJ X134 hx hZ e134 pH (j := zi) vi hzi b2 (g := (mkF m 36 #[.val (.ref a1), .val (.int zi), .unset] [(.int zi), (.ref hA), (.int (63 : Int32)), (.int (zi <<< ((6 : Int32) &&& 31)))])) rfl rfl (hb hby own_d9_36)) ?_
        show own_R p.tables e below P (T134.setTop (mkF m 37 #[.val (.ref a1), .val (.int zi), .unset] [(.long (fh vi)), (.int (63 : Int32)), (.int (zi <<< ((6 : Int32) &&& 31)))]))
        obtain ⟨_, _, ⟨T135, L135, k135, n135⟩, -, X135, ⟨hE135, l135, y135, z135⟩, st135⟩ := Jvm.LawKit.callS X134 hx (y := (⟨"java/lang/Long", "numberOfLeadingZeros", "(J)I"⟩ : MethodName)) hown (mvT hZ (hw _ (List.mem_of_getElem? (i := 52) rfl))) (mvT hZ (hw _ (List.mem_of_getElem? (i := 53) rfl))) (mvT hZ (hw _ (List.mem_of_getElem? (i := 40) rfl))) (mvT hZ (hw _ (List.mem_of_getElem? (i := 54) rfl))) (by decide) (Jvm.Free.JP.Long_numberOfLeadingZeros_J.pays (W := 2) (fh vi) (own_tabL hZ hw) (by decide) (by decide)) (g := (mkF m 37 #[.val (.ref a1), .val (.int zi), .unset] [(.long (fh vi)), (.int (63 : Int32)), (.int (zi <<< ((6 : Int32) &&& 31)))])) rfl (by rw [hml]; rfl) (argsL := [(.long (fh vi))]) (rest := [(.int (63 : Int32)), (.int (zi <<< ((6 : Int32) &&& 31)))]) (lenOf own_pd2 rfl) rfl (by show 2 * 0 + _ ≤ _; exact Nat.le_of_eq rfl) (hb hby own_d9_37) (fun _ _ => ⟨(by decide : 0 + 0 ≤ _), (by decide : 0 + 0 ≤ _), rfl, trivial⟩)
        dsimp only [Pt.U, Pt.locs, Pt.cells, Pt.slots] at X135 l135 y135 z135 st135 hE135
        rw [l135, (show k135 = 0 from y135), (show n135 = 0 from z135)] at X135
        obtain ⟨hq135, he135⟩ := hE135
        have e135 : T135.heap = h0 := he135.trans e134
        obtain ⟨t135, lt135, top135, vt135⟩ := own_nlz hnz
        obtain ⟨zv135, hzv135⟩ : ∃ z, Jvm.Free.JP.Long_numberOfLeadingZeros_J.val (fh vi) = z := ⟨_, rfl⟩
        rw [hzv135] at hq135 vt135
        rw [hq135] at st135
        have N135 := Fr.app N0 (Fr.nil n0)
        refine own_fwd st135 ?_
        show own_R p.tables e below P (T135.setTop (mkF m 40 #[.val (.ref a1), .val (.int zi), .unset] [(.int zv135), (.int (63 : Int32)), (.int (zi <<< ((6 : Int32) &&& 31)))]))
        obtain ⟨wM, wz⟩ := pI.word b2 lt135 top135.1
        have hcm := own_comb hzi vt135 lt135 (by omega)
        refine own_fwd (fun tt kt => XS.isub X135.here hx rfl (hb hby own_d9_40) rfl kt) ?_
        show own_R p.tables e below P (T135.setTop (mkF m 41 #[.val (.ref a1), .val (.int zi), .unset] [(.int ((63 : Int32) - zv135)), (.int (zi <<< ((6 : Int32) &&& 31)))]))
        refine own_fwd (fun tt kt => XS.ior X135.here hx rfl (hb hby own_d9_41) rfl kt) ?_
        show own_R p.tables e below P (T135.setTop (mkF m 42 #[.val (.ref a1), .val (.int zi), .unset] [(.int ((zi <<< ((6 : Int32) &&& 31)) ||| ((63 : Int32) - zv135)))]))
        refine own_fwd (fun tt kt => XS.istoreN X135.here hx rfl (hb hby own_d9_42) rfl (l' := #[.val (.ref a1), .val (.int zi), .val (.int ((zi <<< ((6 : Int32) &&& 31)) ||| ((63 : Int32) - zv135)))]) rfl kt) ?_
        show own_R p.tables e below P (T135.setTop (mkF m 43 #[.val (.ref a1), .val (.int zi), .val (.int ((zi <<< ((6 : Int32) &&& 31)) ||| ((63 : Int32) - zv135)))] []))
        refine own_fwd (fun tt kt => XS.iloadN X135.here hx rfl (hb hby own_d9_43) rfl kt) ?_
        show own_R p.tables e below P (T135.setTop (mkF m 44 #[.val (.ref a1), .val (.int zi), .val (.int ((zi <<< ((6 : Int32) &&& 31)) ||| ((63 : Int32) - zv135)))] [(.int ((zi <<< ((6 : Int32) &&& 31)) ||| ((63 : Int32) - zv135)))]))
        refine own_fwd (fun tt kt => XS.bipush X135.here hx rfl (hb hby own_d9_44) kt) ?_
        show own_R p.tables e below P (T135.setTop (mkF m 46 #[.val (.ref a1), .val (.int zi), .val (.int ((zi <<< ((6 : Int32) &&& 31)) ||| ((63 : Int32) - zv135)))] [(.int (6 : Int32)), (.int ((zi <<< ((6 : Int32) &&& 31)) ||| ((63 : Int32) - zv135)))]))
        refine own_fwd (fun tt kt => XS.ishl X135.here hx rfl (hb hby own_d9_46) rfl kt) ?_
        show own_R p.tables e below P (T135.setTop (mkF m 47 #[.val (.ref a1), .val (.int zi), .val (.int ((zi <<< ((6 : Int32) &&& 31)) ||| ((63 : Int32) - zv135)))] [(.int (((zi <<< ((6 : Int32) &&& 31)) ||| ((63 : Int32) - zv135)) <<< ((6 : Int32) &&& 31)))]))
        refine own_fwd (fun tt kt => XS.bipush X135.here hx rfl (hb hby own_d9_47) kt) ?_
        show own_R p.tables e below P (T135.setTop (mkF m 49 #[.val (.ref a1), .val (.int zi), .val (.int ((zi <<< ((6 : Int32) &&& 31)) ||| ((63 : Int32) - zv135)))] [(.int (63 : Int32)), (.int (((zi <<< ((6 : Int32) &&& 31)) ||| ((63 : Int32) - zv135)) <<< ((6 : Int32) &&& 31)))]))
        refine own_fwd (fun tt kt => XS.aloadN X135.here hx rfl (hb hby own_d9_49) rfl rfl kt) ?_
        show own_R p.tables e below P (T135.setTop (mkF m 50 #[.val (.ref a1), .val (.int zi), .val (.int ((zi <<< ((6 : Int32) &&& 31)) ||| ((63 : Int32) - zv135)))] [(.ref a1), (.int (63 : Int32)), (.int (((zi <<< ((6 : Int32) &&& 31)) ||| ((63 : Int32) - zv135)) <<< ((6 : Int32) &&& 31)))]))
        obtain ⟨T136, X136, e136, st136⟩ := getF X135 hx hZ hown (host := "") (Or.inl (hw _ (List.mem_of_getElem? (i := 10) rfl))) Via.refl e135 pF1 (g := (mkF m 50 #[.val (.ref a1), .val (.int zi), .val (.int ((zi <<< ((6 : Int32) &&& 31)) ||| ((63 : Int32) - zv135)))] [(.ref a1), (.int (63 : Int32)), (.int (((zi <<< ((6 : Int32) &&& 31)) ||| ((63 : Int32) - zv135)) <<< ((6 : Int32) &&& 31)))])) rfl rfl (hb hby own_d9_50)
        refine own_fwd st136 ?_
        show own_R p.tables e below P (T136.setTop (mkF m 53 #[.val (.ref a1), .val (.int zi), .val (.int ((zi <<< ((6 : Int32) &&& 31)) ||| ((63 : Int32) - zv135)))] [(.ref mA), (.int (63 : Int32)), (.int (((zi <<< ((6 : Int32) &&& 31)) ||| ((63 : Int32) - zv135)) <<< ((6 : Int32) &&& 31)))]))
        refine own_fwd (fun tt kt => XS.iloadN X136.here hx rfl (hb hby own_d9_53) rfl kt) ?_
        show own_R p.tables e below P (T136.setTop (mkF m 54 #[.val (.ref a1), .val (.int zi), .val (.int ((zi <<< ((6 : Int32) &&& 31)) ||| ((63 : Int32) - zv135)))] [(.int ((zi <<< ((6 : Int32) &&& 31)) ||| ((63 : Int32) - zv135))), (.ref mA), (.int (63 : Int32)), (.int (((zi <<< ((6 : Int32) &&& 31)) ||| ((63 : Int32) - zv135)) <<< ((6 : Int32) &&& 31)))]))
        refine own_fwd (own_ldJ X136 hx hZ e136 pM (j := ((zi <<< ((6 : Int32) &&& 31)) ||| ((63 : Int32) - zv135))) (64 * vi + t135) hcm wM (g := (mkF m 54 #[.val (.ref a1), .val (.int zi), .val (.int ((zi <<< ((6 : Int32) &&& 31)) ||| ((63 : Int32) - zv135)))] [(.int ((zi <<< ((6 : Int32) &&& 31)) ||| ((63 : Int32) - zv135))), (.ref mA), (.int (63 : Int32)), (.int (((zi <<< ((6 : Int32) &&& 31)) ||| ((63 : Int32) - zv135)) <<< ((6 : Int32) &&& 31)))])) rfl rfl (hb hby own_d9_54)) ?_
        show own_R p.tables e below P (T136.setTop (mkF m 55 #[.val (.ref a1), .val (.int zi), .val (.int ((zi <<< ((6 : Int32) &&& 31)) ||| ((63 : Int32) - zv135)))] [(.long (fm (64 * vi + t135))), (.int (63 : Int32)), (.int (((zi <<< ((6 : Int32) &&& 31)) ||| ((63 : Int32) - zv135)) <<< ((6 : Int32) &&& 31)))]))
        obtain ⟨_, _, ⟨T137, L137, k137, n137⟩, -, X137, ⟨hE137, l137, y137, z137⟩, st137⟩ := Jvm.LawKit.callS X136 hx (y := (⟨"java/lang/Long", "numberOfLeadingZeros", "(J)I"⟩ : MethodName)) hown (mvT hZ (hw _ (List.mem_of_getElem? (i := 52) rfl))) (mvT hZ (hw _ (List.mem_of_getElem? (i := 53) rfl))) (mvT hZ (hw _ (List.mem_of_getElem? (i := 40) rfl))) (mvT hZ (hw _ (List.mem_of_getElem? (i := 54) rfl))) (by decide) (Jvm.Free.JP.Long_numberOfLeadingZeros_J.pays (W := 2) (fm (64 * vi + t135)) (own_tabL hZ hw) (by decide) (by decide)) (g := (mkF m 55 #[.val (.ref a1), .val (.int zi), .val (.int ((zi <<< ((6 : Int32) &&& 31)) ||| ((63 : Int32) - zv135)))] [(.long (fm (64 * vi + t135))), (.int (63 : Int32)), (.int (((zi <<< ((6 : Int32) &&& 31)) ||| ((63 : Int32) - zv135)) <<< ((6 : Int32) &&& 31)))])) rfl (by rw [hml]; rfl) (argsL := [(.long (fm (64 * vi + t135)))]) (rest := [(.int (63 : Int32)), (.int (((zi <<< ((6 : Int32) &&& 31)) ||| ((63 : Int32) - zv135)) <<< ((6 : Int32) &&& 31)))]) (lenOf own_pd2 rfl) rfl (by show 2 * 0 + _ ≤ _; exact Nat.le_of_eq rfl) (hb hby own_d9_55) (fun _ _ => ⟨(by decide : 0 + 0 ≤ _), (by decide : 0 + 0 ≤ _), rfl, trivial⟩)
        dsimp only [Pt.U, Pt.locs, Pt.cells, Pt.slots] at X137 l137 y137 z137 st137 hE137
        rw [l137, (show k137 = 0 from y137), (show n137 = 0 from z137)] at X137
        obtain ⟨hq137, he137⟩ := hE137
        have e137 : T137.heap = h0 := he137.trans e136
        obtain ⟨t137, lt137, top137, vt137⟩ := own_nlz wz
        obtain ⟨zv137, hzv137⟩ : ∃ z, Jvm.Free.JP.Long_numberOfLeadingZeros_J.val (fm (64 * vi + t135)) = z := ⟨_, rfl⟩
        rw [hzv137] at hq137 vt137
        rw [hq137] at st137
        have N137 := Fr.app N135 (Fr.nil n0)
        refine own_fwd st137 ?_
        show own_R p.tables e below P (T137.setTop (mkF m 58 #[.val (.ref a1), .val (.int zi), .val (.int ((zi <<< ((6 : Int32) &&& 31)) ||| ((63 : Int32) - zv135)))] [(.int zv137), (.int (63 : Int32)), (.int (((zi <<< ((6 : Int32) &&& 31)) ||| ((63 : Int32) - zv135)) <<< ((6 : Int32) &&& 31)))]))
        refine own_fwd (fun tt kt => XS.isub X137.here hx rfl (hb hby own_d9_58) rfl kt) ?_
        show own_R p.tables e below P (T137.setTop (mkF m 59 #[.val (.ref a1), .val (.int zi), .val (.int ((zi <<< ((6 : Int32) &&& 31)) ||| ((63 : Int32) - zv135)))] [(.int ((63 : Int32) - zv137)), (.int (((zi <<< ((6 : Int32) &&& 31)) ||| ((63 : Int32) - zv135)) <<< ((6 : Int32) &&& 31)))]))
        refine own_fwd (fun tt kt => XS.ior X137.here hx rfl (hb hby own_d9_59) rfl kt) ?_
        show own_R p.tables e below P (T137.setTop (mkF m 60 #[.val (.ref a1), .val (.int zi), .val (.int ((zi <<< ((6 : Int32) &&& 31)) ||| ((63 : Int32) - zv135)))] [(.int ((((zi <<< ((6 : Int32) &&& 31)) ||| ((63 : Int32) - zv135)) <<< ((6 : Int32) &&& 31)) ||| ((63 : Int32) - zv137)))]))
        obtain ⟨fs138, hr138, hrun138, hended138, hW138, hsame138⟩ := X137.leave (v := some (.int ((((zi <<< ((6 : Int32) &&& 31)) ||| ((63 : Int32) - zv135)) <<< ((6 : Int32) &&& 31)) ||| ((63 : Int32) - zv137)))) (fun h => by rw [Bd.returns] at h; cases h)
        refine ⟨_, _, X137.ireturnOut hx (w := ((((zi <<< ((6 : Int32) &&& 31)) ||| ((63 : Int32) - zv135)) <<< ((6 : Int32) &&& 31)) ||| ((63 : Int32) - zv137))) Bd.returns rfl (by simp) (hb hby own_d9_60) hr138, fin _ _ ⟨hrun138, hended138, _, _, rfl, ?_, ⟨_, rfl⟩, hW138, hsame138.mono (by decide) (by decide)⟩⟩
        show own_Q9 Z a1 mA hA z fm fh M H S e0_ h0 n0 _ T137.heap _
        rw [e137]
        exact ⟨64 * (64 * vi + t135) + t137, _, rfl, own_comb hcm vt137 lt137 (by omega), (pI.high b2 h0_ lt135 lt137 top135 top137).1, (pI.high b2 h0_ lt135 lt137 top135 top137).2, N137, rfl⟩
  refine own_fwd (fun tt kt => XS.aloadN X0.here hx rfl (hb hby own_d9_0) rfl rfl kt) ?_
  show own_R p.tables e below P (s₁.setTop (mkF m 1 #[.val (.ref a1), .unset, .unset] [(.ref a1)]))
  obtain ⟨T139, X139, e139, st139⟩ := getF X0 hx hZ hown (host := "") (Or.inl (hw _ (List.mem_of_getElem? (i := 12) rfl))) Via.refl e0 pF2 (g := (mkF m 1 #[.val (.ref a1), .unset, .unset] [(.ref a1)])) rfl rfl (hb hby own_d9_1)
  refine own_fwd st139 ?_
  show own_R p.tables e below P (T139.setTop (mkF m 4 #[.val (.ref a1), .unset, .unset] [(.ref hA)]))
  refine own_fwd (own_len X139 hx hZ e139 pH H.toInt32 (len_toInt pH.bd) (g := (mkF m 4 #[.val (.ref a1), .unset, .unset] [(.ref hA)])) rfl rfl (hb hby own_d9_4)) ?_
  show own_R p.tables e below P (T139.setTop (mkF m 5 #[.val (.ref a1), .unset, .unset] [(.int H.toInt32)]))
  refine own_fwd (fun tt kt => XS.iconst X139.here hx rfl (hb hby own_d9_5) kt) ?_
  show own_R p.tables e below P (T139.setTop (mkF m 6 #[.val (.ref a1), .unset, .unset] [(.int (1 : Int32)), (.int H.toInt32)]))
  refine own_fwd (fun tt kt => XS.isub X139.here hx rfl (hb hby own_d9_6) rfl kt) ?_
  show own_R p.tables e below P (T139.setTop (mkF m 7 #[.val (.ref a1), .unset, .unset] [(.int (H.toInt32 - (1 : Int32)))]))
  refine own_fwd (fun tt kt => XS.istoreN X139.here hx rfl (hb hby own_d9_7) rfl (l' := #[.val (.ref a1), .val (.int (H.toInt32 - (1 : Int32))), .unset]) rfl kt) ?_
  show own_R p.tables e below P (T139.setTop (mkF m 8 #[.val (.ref a1), .val (.int (H.toInt32 - (1 : Int32))), .unset] []))
  have hl1 : H.toInt32.toInt = ((H - 1 + 1 : Nat) : Int) := by rw [len_toInt pH.bd]; omega
  have hl2 := own_predn hl1
  obtain ⟨zh, hg_zh⟩ : ∃ z, (H.toInt32 - (1 : Int32)) = z := ⟨_, rfl⟩
  rw [hg_zh]
  show own_R p.tables e below P (T139.setTop (mkF m 8 #[.val (.ref a1), .val (.int zh), .unset] []))
  rw [hg_zh] at hl2
  exact loop (H - 1 - e0_ / 64 / 64) (H - 1) zh _ X139 e139 (by omega) (by omega) hl2 (fun v' hv' hH => absurd hH (by omega))
theorem own_d12_0 : decode prog_129_method_10_code 0 = .ok (.aload_n 0, 1) := by decide +kernel
theorem own_d12_1 : decode prog_129_method_10_code 1 = .ok (.getfield 21, 3) := by decide +kernel
theorem own_d12_4 : decode prog_129_method_10_code 4 = .ok (.newarray .int, 2) := by decide +kernel
theorem own_d12_6 : decode prog_129_method_10_code 6 = .ok (.astore_n 1, 1) := by decide +kernel
theorem own_d12_7 : decode prog_129_method_10_code 7 = .ok (.iconst 0, 1) := by decide +kernel
theorem own_d12_8 : decode prog_129_method_10_code 8 = .ok (.istore_n 2, 1) := by decide +kernel
theorem own_d12_9 : decode prog_129_method_10_code 9 = .ok (.iconst 0, 1) := by decide +kernel
theorem own_d12_10 : decode prog_129_method_10_code 10 = .ok (.istore_n 3, 1) := by decide +kernel
theorem own_d12_11 : decode prog_129_method_10_code 11 = .ok (.iload_n 3, 1) := by decide +kernel
theorem own_d12_12 : decode prog_129_method_10_code 12 = .ok (.aload_n 0, 1) := by decide +kernel
theorem own_d12_13 : decode prog_129_method_10_code 13 = .ok (.getfield 14, 3) := by decide +kernel
theorem own_d12_16 : decode prog_129_method_10_code 16 = .ok (.arraylength, 1) := by decide +kernel
theorem own_d12_17 : decode prog_129_method_10_code 17 = .ok (.if_icmp .ge 52, 3) := by decide +kernel
theorem own_d12_20 : decode prog_129_method_10_code 20 = .ok (.aload_n 0, 1) := by decide +kernel
theorem own_d12_21 : decode prog_129_method_10_code 21 = .ok (.getfield 14, 3) := by decide +kernel
theorem own_d12_24 : decode prog_129_method_10_code 24 = .ok (.iload_n 3, 1) := by decide +kernel
theorem own_d12_25 : decode prog_129_method_10_code 25 = .ok (.laload, 1) := by decide +kernel
theorem own_d12_26 : decode prog_129_method_10_code 26 = .ok (.lstore 4, 2) := by decide +kernel
theorem own_d12_28 : decode prog_129_method_10_code 28 = .ok (.lload 4, 2) := by decide +kernel
theorem own_d12_30 : decode prog_129_method_10_code 30 = .ok (.lconst 0, 1) := by decide +kernel
theorem own_d12_31 : decode prog_129_method_10_code 31 = .ok (.lcmp, 1) := by decide +kernel
theorem own_d12_32 : decode prog_129_method_10_code 32 = .ok (.ifCond .eq 31, 3) := by decide +kernel
theorem own_d12_35 : decode prog_129_method_10_code 35 = .ok (.aload_n 1, 1) := by decide +kernel
theorem own_d12_36 : decode prog_129_method_10_code 36 = .ok (.iload_n 2, 1) := by decide +kernel
theorem own_d12_37 : decode prog_129_method_10_code 37 = .ok (.iinc 2 1, 3) := by decide +kernel
theorem own_d12_40 : decode prog_129_method_10_code 40 = .ok (.iload_n 3, 1) := by decide +kernel
theorem own_d12_41 : decode prog_129_method_10_code 41 = .ok (.bipush 6, 2) := by decide +kernel
theorem own_d12_43 : decode prog_129_method_10_code 43 = .ok (.ishl, 1) := by decide +kernel
theorem own_d12_44 : decode prog_129_method_10_code 44 = .ok (.lload 4, 2) := by decide +kernel
theorem own_d12_46 : decode prog_129_method_10_code 46 = .ok (.invokestatic 43, 3) := by decide +kernel
theorem own_d12_49 : decode prog_129_method_10_code 49 = .ok (.ior, 1) := by decide +kernel
theorem own_d12_50 : decode prog_129_method_10_code 50 = .ok (.iastore, 1) := by decide +kernel
theorem own_d12_51 : decode prog_129_method_10_code 51 = .ok (.lload 4, 2) := by decide +kernel
theorem own_d12_53 : decode prog_129_method_10_code 53 = .ok (.lload 4, 2) := by decide +kernel
theorem own_d12_55 : decode prog_129_method_10_code 55 = .ok (.lconst 1, 1) := by decide +kernel
theorem own_d12_56 : decode prog_129_method_10_code 56 = .ok (.lsub, 1) := by decide +kernel
theorem own_d12_57 : decode prog_129_method_10_code 57 = .ok (.land, 1) := by decide +kernel
theorem own_d12_58 : decode prog_129_method_10_code 58 = .ok (.lstore 4, 2) := by decide +kernel
theorem own_d12_60 : decode prog_129_method_10_code 60 = .ok (.goto (-32), 3) := by decide +kernel
theorem own_d12_63 : decode prog_129_method_10_code 63 = .ok (.iinc 3 1, 3) := by decide +kernel
theorem own_d12_66 : decode prog_129_method_10_code 66 = .ok (.goto (-55), 3) := by decide +kernel
theorem own_d12_69 : decode prog_129_method_10_code 69 = .ok (.aload_n 1, 1) := by decide +kernel
theorem own_d12_70 : decode prog_129_method_10_code 70 = .ok (.areturn, 1) := by decide +kernel
theorem own_ef12 (m : MethodId) (a1 : Addr) : entryFrame m #[(.ref a1)] 6 = mkF m 0 #[.val (.ref a1), .unset, .unset, .unset, .unset, .unset] [] := by first | (simp [entryFrame, mkF, argsToLocals, Value.category]; done) | rfl
def own_Q12 (Z : State) (a1 mA hA : Addr) (fm fh : Nat → Int64) (M H : Nat) (S : Nat → Bool) (eA eB : Nat) (h0 : Heap) (n0 : Nat) (v : Option Value) (h : Heap) (L : List Loc) : Prop := ∃ (b : Addr) (g : Nat → Int32), v = some (.ref b) ∧ Fr n0 L ∧ n0 ≤ b ∧ h0.size ≤ b ∧ Keep h0 h [] ∧ own_AI Z h b .int 2 g ∧ (g 0).toInt = (eA : Int) ∧ (g 1).toInt = (eB : Int)
set_option maxRecDepth 65536 in
set_option maxHeartbeats 40000000 in
theorem own_rm12 (l : Launch) (Z : State) (a0 : Array Value) (hw : ∀ d ∈ tables_1, d.before a0 Z = true) (ws : List Jvm.Cond) (a1 mA hA : Addr) (fm fh : Nat → Int64) (M H : Nat) (S : Nat → Bool) (eA eB : Nat) (h0 : Heap) (n0 : Nat) (Z0 : n0 ≤ h0.size) (pE : Exa Z h0 a1 "com/example/ramp99/ramp99/service/replay/NumberSet") (pF1 : Fld Z h0 a1 "com/example/ramp99/ramp99/service/replay/NumberSet" "members" "[J" (.ref mA)) (pF2 : Fld Z h0 a1 "com/example/ramp99/ramp99/service/replay/NumberSet" "holding" "[J" (.ref hA)) (pF3 : Fld Z h0 a1 "com/example/ramp99/ramp99/service/replay/NumberSet" "size" "I" (.int (2 : Int32))) (pM : own_AJ Z h0 mA M fm) (pH : own_AJ Z h0 hA H fh) (pEm : Exa Z h0 mA "[J") (pEh : Exa Z h0 hA "[J") (pg : n0 ≤ a1) (pgm : n0 ≤ mA) (pgh : n0 ≤ hA) (n1 : a1 ≠ mA) (n2 : a1 ≠ hA) (n3 : mA ≠ hA) (pI : own_Inv M H fm fh S) (bM : M ≤ 1000) (hAB : eA < eB) (hS : ∀ k, S k = (decide (k = eA) || decide (k = eB))) :
    MetFree l (⟨"com/example/ramp99/ramp99/service/replay/NumberSet", "toArray", "()[I"⟩ : MethodName) (head1 (Jvm.Cond.code (⟨"com/example/ramp99/ramp99/service/replay/NumberSet", "toArray", "()[I"⟩ : MethodName) prog_129_method_10_code 6 (some (.array .int)) :: ws) ({ frames := 2, cells := 1, slots := 2, locals := 31 } : Room)) (fun a U => a = #[(.ref a1)] ∧ Z.Warmed39 U.vm ∧ U.heap = h0) (fun _ _ _ _ _ => True) (fun _ U o U' => ∃ v L, o = .returned v ∧ own_Q12 Z a1 mA hA fm fh M H S eA eB h0 n0 v U'.heap L ∧ FrameEnd U o U' L ({ frames := 2, cells := 1, slots := 2, locals := 31 } : Room).cells ({ frames := 2, cells := 1, slots := 2, locals := 31 } : Room).slots) := by
  refine MetFree.of_bodySF (plainFor_of_name own_pn1) hisR ?_
  intro p e s m args below meth c s₁ Bd hml0 hP hK
  obtain ⟨rfl, hZ, hh⟩ := hP
  have hx := Bd.exec
  have hby := Bd.bytes
  have hml : c.maxLocals = 6 := hml0
  have hown : s.vm.findClass "com/example/ramp99/ramp99/service/replay/NumberSet" = some m.cls := findClass_of_methodNamed Bd.named
  have hnm := (name_of_methodNamed Bd.named Bd.method).1
  have X0 : Stand p l e ({ frames := 2, cells := 1, slots := 2, locals := 31 } : Room) s m #[(.ref a1)] below meth c s₁ [] 0 0 := Stand.of_body Bd
  have e0 : s₁.heap = h0 := by rw [← hh, Bd.state]; rfl
  have N0 := Fr.nil n0
  refine own_nm (st := s₁.setTop (entryFrame m #[(.ref a1)] 6)) fun P fin => ?_
  refine own_fwd (fun tt kt => castTop (own_ef12 m a1) kt) ?_
  show own_R p.tables e below P (s₁.setTop (mkF m 0 #[.val (.ref a1), .unset, .unset, .unset, .unset, .unset] []))
  have K0 := Keep.refl h0 []
  refine own_fwd (fun tt kt => XS.aloadN X0.here hx rfl (hb hby own_d12_0) rfl rfl kt) ?_
  show own_R p.tables e below P (s₁.setTop (mkF m 1 #[.val (.ref a1), .unset, .unset, .unset, .unset, .unset] [(.ref a1)]))
  obtain ⟨T140, X140, e140, st140⟩ := getF X0 hx hZ hown (host := "") (Or.inl (hw _ (List.mem_of_getElem? (i := 19) rfl))) Via.refl e0 pF3 (g := (mkF m 1 #[.val (.ref a1), .unset, .unset, .unset, .unset, .unset] [(.ref a1)])) rfl rfl (hb hby own_d12_1)
  refine own_fwd st140 ?_
  show own_R p.tables e below P (T140.setTop (mkF m 4 #[.val (.ref a1), .unset, .unset, .unset, .unset, .unset] [(.int (2 : Int32))]))
  obtain ⟨T141, h141, b141, g141, X141, e141, E141, A141, B141, st141⟩ := own_newA (n := 2) X140 hx hZ (hw _ (List.mem_of_getElem? (i := 63) rfl)) e140 (z := (2 : Int32)) (by decide) (cap := 2) (by decide) (g := (mkF m 4 #[.val (.ref a1), .unset, .unset, .unset, .unset, .unset] [(.int (2 : Int32))])) rfl (hb hby own_d12_4) rfl (by decide) (by decide) (by decide) (ad := "[I") (by decide)
  have ne141_a1 : a1 ≠ b141 := Nat.ne_of_lt (by rw [g141]; exact pE.lt)
  have ne141_mA : mA ≠ b141 := Nat.ne_of_lt (by rw [g141]; exact pM.lt)
  have ne141_hA : hA ≠ b141 := Nat.ne_of_lt (by rw [g141]; exact pH.lt)
  have ge_b141 : n0 ≤ b141 := by rw [g141]; exact Z0
  have sz_b141 : h0.size ≤ b141 := by rw [g141]; exact (Nat.le_refl h0.size)
  have pE_x141 := pE.ext E141
  have pF1_x141 := pF1.ext E141
  have pF2_x141 := pF2.ext E141
  have pF3_x141 := pF3.ext E141
  have pM_x141 := pM.ext E141
  have pH_x141 := pH.ext E141
  have pEm_x141 := pEm.ext E141
  have pEh_x141 := pEh.ext E141
  have A141_ : own_AI Z h141 b141 .int 2 (fun _ => (0 : Int32)) := A141
  have Z141 : n0 ≤ h141.size := Nat.le_trans Z0 E141.1
  have K141 := K0.ext E141
  have Y141 : h0.size ≤ h141.size := Nat.le_trans (Nat.le_refl h0.size) E141.1
  refine own_fwd st141 ?_
  show own_R p.tables e below P (T141.setTop (mkF m 6 #[.val (.ref a1), .unset, .unset, .unset, .unset, .unset] [(.ref b141)]))
  refine own_fwd (fun tt kt => XS.astoreN X141.here hx rfl (hb hby own_d12_6) rfl rfl (l' := #[.val (.ref a1), .val (.ref b141), .unset, .unset, .unset, .unset]) rfl kt) ?_
  show own_R p.tables e below P (T141.setTop (mkF m 7 #[.val (.ref a1), .val (.ref b141), .unset, .unset, .unset, .unset] []))
  refine own_fwd (fun tt kt => XS.iconst X141.here hx rfl (hb hby own_d12_7) kt) ?_
  show own_R p.tables e below P (T141.setTop (mkF m 8 #[.val (.ref a1), .val (.ref b141), .unset, .unset, .unset, .unset] [(.int (0 : Int32))]))
  refine own_fwd (fun tt kt => XS.istoreN X141.here hx rfl (hb hby own_d12_8) rfl (l' := #[.val (.ref a1), .val (.ref b141), .val (.int (0 : Int32)), .unset, .unset, .unset]) rfl kt) ?_
  show own_R p.tables e below P (T141.setTop (mkF m 9 #[.val (.ref a1), .val (.ref b141), .val (.int (0 : Int32)), .unset, .unset, .unset] []))
  refine own_fwd (fun tt kt => XS.iconst X141.here hx rfl (hb hby own_d12_9) kt) ?_
  show own_R p.tables e below P (T141.setTop (mkF m 10 #[.val (.ref a1), .val (.ref b141), .val (.int (0 : Int32)), .unset, .unset, .unset] [(.int (0 : Int32))]))
  refine own_fwd (fun tt kt => XS.istoreN X141.here hx rfl (hb hby own_d12_10) rfl (l' := #[.val (.ref a1), .val (.ref b141), .val (.int (0 : Int32)), .val (.int (0 : Int32)), .unset, .unset]) rfl kt) ?_
  show own_R p.tables e below P (T141.setTop (mkF m 11 #[.val (.ref a1), .val (.ref b141), .val (.int (0 : Int32)), .val (.int (0 : Int32)), .unset, .unset] []))
  have outer : ∀ (k wi cnt : Nat) (zw zc : Int32) (g : Nat → Int32) (sA sB : Slot) (T : State) (h : Heap) (locs : List Loc) (X : Stand p l e ({ frames := 2, cells := 1, slots := 2, locals := 31 } : Room) s m #[(.ref a1)] below meth c T locs 1 2) (eT : T.heap = h) (N : Fr n0 locs) (Zs : n0 ≤ h.size) (Y : h0.size ≤ h.size) (Kp : Keep h0 h []) (gF : Fld Z h a1 "com/example/ramp99/ramp99/service/replay/NumberSet" "members" "[J" (.ref mA)) (gM : own_AJ Z h mA M fm) (gB : own_AI Z h b141 .int 2 g), (sA = .unset ∧ sB = .unset ∨ ∃ x : Int64, sA = .val (.long x) ∧ sB = .second) → wi + k = M → zw.toInt = (wi : Int) → zc.toInt = (cnt : Int) → own_RK eA eB (64 * wi) cnt → own_RG g (64 * wi) eA eB → own_R p.tables e below P (T.setTop (mkF m 11 #[.val (.ref a1), .val (.ref b141), .val (.int zc), .val (.int zw), sA, sB] [])) := by
    intro k
    induction k with
    | zero =>
      intro wi cnt zw zc g sA sB T h locs X eT N Zs Y Kp gF gM gB hs b1 hzw hzc rk rg
      have rgM : own_RG g (64 * M) eA eB := by rw [show M = wi by omega]; exact rg
      have o2 := own_out pI hAB hS rgM
      refine own_fwd (fun tt kt => XS.iloadN X.here hx rfl (hb hby own_d12_11) rfl kt) ?_
      show own_R p.tables e below P (T.setTop (mkF m 12 #[.val (.ref a1), .val (.ref b141), .val (.int zc), .val (.int zw), sA, sB] [(.int zw)]))
      refine own_fwd (fun tt kt => XS.aloadN X.here hx rfl (hb hby own_d12_12) rfl rfl kt) ?_
      show own_R p.tables e below P (T.setTop (mkF m 13 #[.val (.ref a1), .val (.ref b141), .val (.int zc), .val (.int zw), sA, sB] [(.ref a1), (.int zw)]))
      obtain ⟨T142, X142, e142, st142⟩ := getF X hx hZ hown (host := "") (Or.inl (hw _ (List.mem_of_getElem? (i := 10) rfl))) Via.refl eT gF (g := (mkF m 13 #[.val (.ref a1), .val (.ref b141), .val (.int zc), .val (.int zw), sA, sB] [(.ref a1), (.int zw)])) rfl rfl (hb hby own_d12_13)
      refine own_fwd st142 ?_
      show own_R p.tables e below P (T142.setTop (mkF m 16 #[.val (.ref a1), .val (.ref b141), .val (.int zc), .val (.int zw), sA, sB] [(.ref mA), (.int zw)]))
      refine own_fwd (own_len X142 hx hZ e142 gM M.toInt32 (len_toInt pM.bd) (g := (mkF m 16 #[.val (.ref a1), .val (.ref b141), .val (.int zc), .val (.int zw), sA, sB] [(.ref mA), (.int zw)])) rfl rfl (hb hby own_d12_16)) ?_
      show own_R p.tables e below P (T142.setTop (mkF m 17 #[.val (.ref a1), .val (.ref b141), .val (.int zc), .val (.int zw), sA, sB] [(.int M.toInt32), (.int zw)]))
      have hc143 : ¬ (zw < M.toInt32) := by rw [Int32.lt_iff_toInt_lt, hzw, len_toInt pM.bd]; omega
      refine own_fwd (fun tt kt => XS.icmpYes X142.here hx rfl (pc0 := 17) (pc' := 69) rfl (hb hby own_d12_17) rfl (flt hc143).2.1 (by decide) (by decide) kt) ?_
      show own_R p.tables e below P (T142.setTop (mkF m 69 #[.val (.ref a1), .val (.ref b141), .val (.int zc), .val (.int zw), sA, sB] []))
      refine own_fwd (fun tt kt => XS.aloadN X142.here hx rfl (hb hby own_d12_69) rfl rfl kt) ?_
      show own_R p.tables e below P (T142.setTop (mkF m 70 #[.val (.ref a1), .val (.ref b141), .val (.int zc), .val (.int zw), sA, sB] [(.ref b141)]))
      obtain ⟨fs144, hr144, hrun144, hended144, hW144, hsame144⟩ := X142.leave (v := some (.ref b141)) (fun h => by rw [Bd.returns] at h; cases h)
      refine ⟨_, _, X142.areturnOut hx rfl Bd.returns rfl (hb hby own_d12_70) hr144, fin _ _ ⟨hrun144, hended144, _, _, rfl, ?_, ⟨_, rfl⟩, hW144, hsame144.mono (by decide) (by decide)⟩⟩
      show own_Q12 Z a1 mA hA fm fh M H S eA eB h0 n0 _ T142.heap _
      rw [e142]
      exact ⟨b141, g, rfl, N, ge_b141, sz_b141, Kp, gB, o2.1, o2.2⟩
    | succ k ih =>
      intro wi cnt zw zc g sA sB T h locs X eT N Zs Y Kp gF gM gB hs b1 hzw hzc rk rg
      have hbM : wi < M := by omega
      have inner : ∀ (j th cnt : Nat) (x : Int64) (zc : Int32) (g : Nat → Int32) (T : State) (h : Heap) (locs : List Loc) (X : Stand p l e ({ frames := 2, cells := 1, slots := 2, locals := 31 } : Room) s m #[(.ref a1)] below meth c T locs 1 2) (eT : T.heap = h) (N : Fr n0 locs) (Zs : n0 ≤ h.size) (Y : h0.size ≤ h.size) (Kp : Keep h0 h []) (gF : Fld Z h a1 "com/example/ramp99/ramp99/service/replay/NumberSet" "members" "[J" (.ref mA)) (gM : own_AJ Z h mA M fm) (gB : own_AI Z h b141 .int 2 g), 64 * wi ≤ th → th ≤ 64 * wi + 64 → j + cnt = 2 → zc.toInt = (cnt : Int) → own_RB x wi th eA eB → own_RK eA eB th cnt → own_RG g th eA eB → own_R p.tables e below P (T.setTop (mkF m 28 #[.val (.ref a1), .val (.ref b141), .val (.int zc), .val (.int zw), .val (.long x), .second] [])) := by
        intro j
        induction j with
        | zero =>
          intro th cnt x zc g T h locs X eT N Zs Y Kp gF gM gB c1 c2 c3 hzc rb rk rg
          refine own_fwd (fun tt kt => XS.lload X.here hx rfl (hb hby own_d12_28) rfl kt) ?_
          show own_R p.tables e below P (T.setTop (mkF m 30 #[.val (.ref a1), .val (.ref b141), .val (.int zc), .val (.int zw), .val (.long x), .second] [(.long x)]))
          refine own_fwd (fun tt kt => XS.lconst X.here hx rfl (hb hby own_d12_30) kt) ?_
          show own_R p.tables e below P (T.setTop (mkF m 31 #[.val (.ref a1), .val (.ref b141), .val (.int zc), .val (.int zw), .val (.long x), .second] [(.long (0 : Int64)), (.long x)]))
          refine own_fwd (fun tt kt => XS.lcmp X.here hx rfl (hb hby own_d12_31) rfl kt) ?_
          show own_R p.tables e below P (T.setTop (mkF m 32 #[.val (.ref a1), .val (.ref b141), .val (.int zc), .val (.int zw), .val (.long x), .second] [(.int (lcmpW x (0 : Int64)))]))
          by_cases hc145 : (lcmpW x (0 : Int64)) = (0 : Int32)
          · refine own_fwd (fun tt kt => XS.ifYes X.here hx rfl (pc0 := 32) (pc' := 63) rfl (hb hby own_d12_32) rfl ((if0 _ _).trans (teq hc145).1) (by decide) (by decide) kt) ?_
            show own_R p.tables e below P (T.setTop (mkF m 63 #[.val (.ref a1), .val (.ref b141), .val (.int zc), .val (.int zw), .val (.long x), .second] []))
            have x0 : x = 0 := (lw_eq _ _).mp hc145
            have rb0 : own_RB 0 wi th eA eB := by rw [← x0]; exact rb
            have f2 := own_fin hAB c1 rb0 rk rg c2
            refine own_fwd (fun tt kt => XS.iinc X.here hx rfl (hb hby own_d12_63) rfl (l' := #[.val (.ref a1), .val (.ref b141), .val (.int zc), .val (.int (zw + (1 : Int32))), .val (.long x), .second]) rfl kt) ?_
            show own_R p.tables e below P (T.setTop (mkF m 66 #[.val (.ref a1), .val (.ref b141), .val (.int zc), .val (.int (zw + (1 : Int32))), .val (.long x), .second] []))
            refine own_fwd (fun tt kt => XS.goto X.here hx rfl (pc0 := 66) (pc' := 11) rfl (hb hby own_d12_66) (by decide) (by decide) kt) ?_
            show own_R p.tables e below P (T.setTop (mkF m 11 #[.val (.ref a1), .val (.ref b141), .val (.int zc), .val (.int (zw + (1 : Int32))), .val (.long x), .second] []))
            exact ih (wi + 1) cnt _ _ _ _ _ _ _ _ X eT N Zs Y Kp gF gM gB (Or.inr ⟨x, rfl, rfl⟩) (by omega) (own_addn (j := 1) hzw own_i1 (by omega)) hzc f2.1 f2.2
          · refine own_fwd (fun tt kt => XS.ifNo X.here hx rfl (hb hby own_d12_32) rfl ((if0 _ _).trans (feq hc145).1) kt) ?_
            show own_R p.tables e below P (T.setTop (mkF m 35 #[.val (.ref a1), .val (.ref b141), .val (.int zc), .val (.int zw), .val (.long x), .second] []))
            refine own_fwd (fun tt kt => XS.aloadN X.here hx rfl (hb hby own_d12_35) rfl rfl kt) ?_
            show own_R p.tables e below P (T.setTop (mkF m 36 #[.val (.ref a1), .val (.ref b141), .val (.int zc), .val (.int zw), .val (.long x), .second] [(.ref b141)]))
            refine own_fwd (fun tt kt => XS.iloadN X.here hx rfl (hb hby own_d12_36) rfl kt) ?_
            show own_R p.tables e below P (T.setTop (mkF m 37 #[.val (.ref a1), .val (.ref b141), .val (.int zc), .val (.int zw), .val (.long x), .second] [(.int zc), (.ref b141)]))
            refine own_fwd (fun tt kt => XS.iinc X.here hx rfl (hb hby own_d12_37) rfl (l' := #[.val (.ref a1), .val (.ref b141), .val (.int (zc + (1 : Int32))), .val (.int zw), .val (.long x), .second]) rfl kt) ?_
            show own_R p.tables e below P (T.setTop (mkF m 40 #[.val (.ref a1), .val (.ref b141), .val (.int (zc + (1 : Int32))), .val (.int zw), .val (.long x), .second] [(.int zc), (.ref b141)]))
            refine own_fwd (fun tt kt => XS.iloadN X.here hx rfl (hb hby own_d12_40) rfl kt) ?_
            show own_R p.tables e below P (T.setTop (mkF m 41 #[.val (.ref a1), .val (.ref b141), .val (.int (zc + (1 : Int32))), .val (.int zw), .val (.long x), .second] [(.int zw), (.int zc), (.ref b141)]))
            refine own_fwd (fun tt kt => XS.bipush X.here hx rfl (hb hby own_d12_41) kt) ?_
            show own_R p.tables e below P (T.setTop (mkF m 43 #[.val (.ref a1), .val (.ref b141), .val (.int (zc + (1 : Int32))), .val (.int zw), .val (.long x), .second] [(.int (6 : Int32)), (.int zw), (.int zc), (.ref b141)]))
            refine own_fwd (fun tt kt => XS.ishl X.here hx rfl (hb hby own_d12_43) rfl kt) ?_
            show own_R p.tables e below P (T.setTop (mkF m 44 #[.val (.ref a1), .val (.ref b141), .val (.int (zc + (1 : Int32))), .val (.int zw), .val (.long x), .second] [(.int (zw <<< ((6 : Int32) &&& 31))), (.int zc), (.ref b141)]))
            refine own_fwd (fun tt kt => XS.lload X.here hx rfl (hb hby own_d12_44) rfl kt) ?_
            show own_R p.tables e below P (T.setTop (mkF m 46 #[.val (.ref a1), .val (.ref b141), .val (.int (zc + (1 : Int32))), .val (.int zw), .val (.long x), .second] [(.long x), (.int (zw <<< ((6 : Int32) &&& 31))), (.int zc), (.ref b141)]))
            obtain ⟨_, _, ⟨T146, L146, k146, n146⟩, -, X146, ⟨hE146, l146, y146, z146⟩, st146⟩ := Jvm.LawKit.callS X hx (y := (⟨"java/lang/Long", "numberOfTrailingZeros", "(J)I"⟩ : MethodName)) hown (mvT hZ (hw _ (List.mem_of_getElem? (i := 38) rfl))) (mvT hZ (hw _ (List.mem_of_getElem? (i := 39) rfl))) (mvT hZ (hw _ (List.mem_of_getElem? (i := 40) rfl))) (mvT hZ (hw _ (List.mem_of_getElem? (i := 41) rfl))) (by decide) (Jvm.Free.JP.Long_numberOfTrailingZeros_J.pays (W := 3) x (own_tabT hZ hw) (by decide) (by decide)) (g := (mkF m 46 #[.val (.ref a1), .val (.ref b141), .val (.int (zc + (1 : Int32))), .val (.int zw), .val (.long x), .second] [(.long x), (.int (zw <<< ((6 : Int32) &&& 31))), (.int zc), (.ref b141)])) rfl (by rw [hml]; rfl) (argsL := [(.long x)]) (rest := [(.int (zw <<< ((6 : Int32) &&& 31))), (.int zc), (.ref b141)]) (lenOf own_pd2 rfl) rfl (by show 2 * 0 + _ ≤ _; exact Nat.le_of_eq rfl) (hb hby own_d12_46) (fun _ _ => ⟨(by decide : 1 + 0 ≤ _), (by decide : 2 + 0 ≤ _), rfl, trivial⟩)
            dsimp only [Pt.U, Pt.locs, Pt.cells, Pt.slots] at X146 l146 y146 z146 st146 hE146
            rw [l146, (show k146 = 1 from y146), (show n146 = 2 from z146)] at X146
            obtain ⟨hq146, he146⟩ := hE146
            have e146 : T146.heap = h := he146.trans eT
            obtain ⟨t146, low146, lt146, vt146⟩ := own_ntz fun q => hc145 ((lw_eq _ _).mpr q)
            obtain ⟨zv146, hzv146⟩ : ∃ z, Jvm.Free.JP.Long_numberOfTrailingZeros_J.val x = z := ⟨_, rfl⟩
            rw [hzv146] at hq146 vt146
            rw [hq146] at st146
            have N146 := Fr.app N (Fr.nil n0)
            refine own_fwd st146 ?_
            show own_R p.tables e below P (T146.setTop (mkF m 49 #[.val (.ref a1), .val (.ref b141), .val (.int (zc + (1 : Int32))), .val (.int zw), .val (.long x), .second] [(.int zv146), (.int (zw <<< ((6 : Int32) &&& 31))), (.int zc), (.ref b141)]))
            obtain ⟨cl, thl, rb2, rk2, rg2⟩ := own_step hAB c1 rb rk low146 lt146 rg (own_comb hzw vt146 lt146 (by omega))
            exact absurd cl (by omega)
        | succ j ihj =>
          intro th cnt x zc g T h locs X eT N Zs Y Kp gF gM gB c1 c2 c3 hzc rb rk rg
          refine own_fwd (fun tt kt => XS.lload X.here hx rfl (hb hby own_d12_28) rfl kt) ?_
          show own_R p.tables e below P (T.setTop (mkF m 30 #[.val (.ref a1), .val (.ref b141), .val (.int zc), .val (.int zw), .val (.long x), .second] [(.long x)]))
          refine own_fwd (fun tt kt => XS.lconst X.here hx rfl (hb hby own_d12_30) kt) ?_
          show own_R p.tables e below P (T.setTop (mkF m 31 #[.val (.ref a1), .val (.ref b141), .val (.int zc), .val (.int zw), .val (.long x), .second] [(.long (0 : Int64)), (.long x)]))
          refine own_fwd (fun tt kt => XS.lcmp X.here hx rfl (hb hby own_d12_31) rfl kt) ?_
          show own_R p.tables e below P (T.setTop (mkF m 32 #[.val (.ref a1), .val (.ref b141), .val (.int zc), .val (.int zw), .val (.long x), .second] [(.int (lcmpW x (0 : Int64)))]))
          by_cases hc147 : (lcmpW x (0 : Int64)) = (0 : Int32)
          · refine own_fwd (fun tt kt => XS.ifYes X.here hx rfl (pc0 := 32) (pc' := 63) rfl (hb hby own_d12_32) rfl ((if0 _ _).trans (teq hc147).1) (by decide) (by decide) kt) ?_
            show own_R p.tables e below P (T.setTop (mkF m 63 #[.val (.ref a1), .val (.ref b141), .val (.int zc), .val (.int zw), .val (.long x), .second] []))
            have x0 : x = 0 := (lw_eq _ _).mp hc147
            have rb0 : own_RB 0 wi th eA eB := by rw [← x0]; exact rb
            have f2 := own_fin hAB c1 rb0 rk rg c2
            refine own_fwd (fun tt kt => XS.iinc X.here hx rfl (hb hby own_d12_63) rfl (l' := #[.val (.ref a1), .val (.ref b141), .val (.int zc), .val (.int (zw + (1 : Int32))), .val (.long x), .second]) rfl kt) ?_
            show own_R p.tables e below P (T.setTop (mkF m 66 #[.val (.ref a1), .val (.ref b141), .val (.int zc), .val (.int (zw + (1 : Int32))), .val (.long x), .second] []))
            refine own_fwd (fun tt kt => XS.goto X.here hx rfl (pc0 := 66) (pc' := 11) rfl (hb hby own_d12_66) (by decide) (by decide) kt) ?_
            show own_R p.tables e below P (T.setTop (mkF m 11 #[.val (.ref a1), .val (.ref b141), .val (.int zc), .val (.int (zw + (1 : Int32))), .val (.long x), .second] []))
            exact ih (wi + 1) cnt _ _ _ _ _ _ _ _ X eT N Zs Y Kp gF gM gB (Or.inr ⟨x, rfl, rfl⟩) (by omega) (own_addn (j := 1) hzw own_i1 (by omega)) hzc f2.1 f2.2
          · refine own_fwd (fun tt kt => XS.ifNo X.here hx rfl (hb hby own_d12_32) rfl ((if0 _ _).trans (feq hc147).1) kt) ?_
            show own_R p.tables e below P (T.setTop (mkF m 35 #[.val (.ref a1), .val (.ref b141), .val (.int zc), .val (.int zw), .val (.long x), .second] []))
            refine own_fwd (fun tt kt => XS.aloadN X.here hx rfl (hb hby own_d12_35) rfl rfl kt) ?_
            show own_R p.tables e below P (T.setTop (mkF m 36 #[.val (.ref a1), .val (.ref b141), .val (.int zc), .val (.int zw), .val (.long x), .second] [(.ref b141)]))
            refine own_fwd (fun tt kt => XS.iloadN X.here hx rfl (hb hby own_d12_36) rfl kt) ?_
            show own_R p.tables e below P (T.setTop (mkF m 37 #[.val (.ref a1), .val (.ref b141), .val (.int zc), .val (.int zw), .val (.long x), .second] [(.int zc), (.ref b141)]))
            refine own_fwd (fun tt kt => XS.iinc X.here hx rfl (hb hby own_d12_37) rfl (l' := #[.val (.ref a1), .val (.ref b141), .val (.int (zc + (1 : Int32))), .val (.int zw), .val (.long x), .second]) rfl kt) ?_
            show own_R p.tables e below P (T.setTop (mkF m 40 #[.val (.ref a1), .val (.ref b141), .val (.int (zc + (1 : Int32))), .val (.int zw), .val (.long x), .second] [(.int zc), (.ref b141)]))
            refine own_fwd (fun tt kt => XS.iloadN X.here hx rfl (hb hby own_d12_40) rfl kt) ?_
            show own_R p.tables e below P (T.setTop (mkF m 41 #[.val (.ref a1), .val (.ref b141), .val (.int (zc + (1 : Int32))), .val (.int zw), .val (.long x), .second] [(.int zw), (.int zc), (.ref b141)]))
            refine own_fwd (fun tt kt => XS.bipush X.here hx rfl (hb hby own_d12_41) kt) ?_
            show own_R p.tables e below P (T.setTop (mkF m 43 #[.val (.ref a1), .val (.ref b141), .val (.int (zc + (1 : Int32))), .val (.int zw), .val (.long x), .second] [(.int (6 : Int32)), (.int zw), (.int zc), (.ref b141)]))
            refine own_fwd (fun tt kt => XS.ishl X.here hx rfl (hb hby own_d12_43) rfl kt) ?_
            show own_R p.tables e below P (T.setTop (mkF m 44 #[.val (.ref a1), .val (.ref b141), .val (.int (zc + (1 : Int32))), .val (.int zw), .val (.long x), .second] [(.int (zw <<< ((6 : Int32) &&& 31))), (.int zc), (.ref b141)]))
            refine own_fwd (fun tt kt => XS.lload X.here hx rfl (hb hby own_d12_44) rfl kt) ?_
            show own_R p.tables e below P (T.setTop (mkF m 46 #[.val (.ref a1), .val (.ref b141), .val (.int (zc + (1 : Int32))), .val (.int zw), .val (.long x), .second] [(.long x), (.int (zw <<< ((6 : Int32) &&& 31))), (.int zc), (.ref b141)]))
            obtain ⟨_, _, ⟨T148, L148, k148, n148⟩, -, X148, ⟨hE148, l148, y148, z148⟩, st148⟩ := Jvm.LawKit.callS X hx (y := (⟨"java/lang/Long", "numberOfTrailingZeros", "(J)I"⟩ : MethodName)) hown (mvT hZ (hw _ (List.mem_of_getElem? (i := 38) rfl))) (mvT hZ (hw _ (List.mem_of_getElem? (i := 39) rfl))) (mvT hZ (hw _ (List.mem_of_getElem? (i := 40) rfl))) (mvT hZ (hw _ (List.mem_of_getElem? (i := 41) rfl))) (by decide) (Jvm.Free.JP.Long_numberOfTrailingZeros_J.pays (W := 3) x (own_tabT hZ hw) (by decide) (by decide)) (g := (mkF m 46 #[.val (.ref a1), .val (.ref b141), .val (.int (zc + (1 : Int32))), .val (.int zw), .val (.long x), .second] [(.long x), (.int (zw <<< ((6 : Int32) &&& 31))), (.int zc), (.ref b141)])) rfl (by rw [hml]; rfl) (argsL := [(.long x)]) (rest := [(.int (zw <<< ((6 : Int32) &&& 31))), (.int zc), (.ref b141)]) (lenOf own_pd2 rfl) rfl (by show 2 * 0 + _ ≤ _; exact Nat.le_of_eq rfl) (hb hby own_d12_46) (fun _ _ => ⟨(by decide : 1 + 0 ≤ _), (by decide : 2 + 0 ≤ _), rfl, trivial⟩)
            dsimp only [Pt.U, Pt.locs, Pt.cells, Pt.slots] at X148 l148 y148 z148 st148 hE148
            rw [l148, (show k148 = 1 from y148), (show n148 = 2 from z148)] at X148
            obtain ⟨hq148, he148⟩ := hE148
            have e148 : T148.heap = h := he148.trans eT
            obtain ⟨t148, low148, lt148, vt148⟩ := own_ntz fun q => hc147 ((lw_eq _ _).mpr q)
            obtain ⟨zv148, hzv148⟩ : ∃ z, Jvm.Free.JP.Long_numberOfTrailingZeros_J.val x = z := ⟨_, rfl⟩
            rw [hzv148] at hq148 vt148
            rw [hq148] at st148
            have N148 := Fr.app N (Fr.nil n0)
            refine own_fwd st148 ?_
            show own_R p.tables e below P (T148.setTop (mkF m 49 #[.val (.ref a1), .val (.ref b141), .val (.int (zc + (1 : Int32))), .val (.int zw), .val (.long x), .second] [(.int zv148), (.int (zw <<< ((6 : Int32) &&& 31))), (.int zc), (.ref b141)]))
            obtain ⟨cl, thl, rb2, rk2, rg2⟩ := own_step hAB c1 rb rk low148 lt148 rg (own_comb hzw vt148 lt148 (by omega))
            refine own_fwd (fun tt kt => XS.ior X148.here hx rfl (hb hby own_d12_49) rfl kt) ?_
            show own_R p.tables e below P (T148.setTop (mkF m 50 #[.val (.ref a1), .val (.ref b141), .val (.int (zc + (1 : Int32))), .val (.int zw), .val (.long x), .second] [(.int ((zw <<< ((6 : Int32) &&& 31)) ||| zv148)), (.int zc), (.ref b141)]))
            obtain ⟨T149, h149, X149, e149, W149, A149_, st149⟩ := own_stI X148 hx hZ e148 gB (j := zc) cnt hzc cl (g := (mkF m 50 #[.val (.ref a1), .val (.ref b141), .val (.int (zc + (1 : Int32))), .val (.int zw), .val (.long x), .second] [(.int ((zw <<< ((6 : Int32) &&& 31)) ||| zv148)), (.int zc), (.ref b141)])) rfl rfl (hb hby own_d12_50)
            have gF_x149 := gF.other W149 (Or.inl ne141_a1)
            have gM_x149 := gM.other W149 ne141_mA
            have N149 := Fr.snoc X149 N148 ge_b141
            have Z149 : n0 ≤ h149.size := by rw [W149.size]; exact Zs
            have K149 := Kp.wr W149 (Or.inr sz_b141)
            have Y149 : h0.size ≤ h149.size := by rw [W149.size]; exact Y
            refine own_fwd st149 ?_
            show own_R p.tables e below P (T149.setTop (mkF m 51 #[.val (.ref a1), .val (.ref b141), .val (.int (zc + (1 : Int32))), .val (.int zw), .val (.long x), .second] []))
            refine own_fwd (fun tt kt => XS.lload X149.here hx rfl (hb hby own_d12_51) rfl kt) ?_
            show own_R p.tables e below P (T149.setTop (mkF m 53 #[.val (.ref a1), .val (.ref b141), .val (.int (zc + (1 : Int32))), .val (.int zw), .val (.long x), .second] [(.long x)]))
            refine own_fwd (fun tt kt => XS.lload X149.here hx rfl (hb hby own_d12_53) rfl kt) ?_
            show own_R p.tables e below P (T149.setTop (mkF m 55 #[.val (.ref a1), .val (.ref b141), .val (.int (zc + (1 : Int32))), .val (.int zw), .val (.long x), .second] [(.long x), (.long x)]))
            refine own_fwd (fun tt kt => XS.lconst X149.here hx rfl (hb hby own_d12_55) kt) ?_
            show own_R p.tables e below P (T149.setTop (mkF m 56 #[.val (.ref a1), .val (.ref b141), .val (.int (zc + (1 : Int32))), .val (.int zw), .val (.long x), .second] [(.long (1 : Int64)), (.long x), (.long x)]))
            refine own_fwd (fun tt kt => XS.lsub X149.here hx rfl (hb hby own_d12_56) rfl kt) ?_
            show own_R p.tables e below P (T149.setTop (mkF m 57 #[.val (.ref a1), .val (.ref b141), .val (.int (zc + (1 : Int32))), .val (.int zw), .val (.long x), .second] [(.long (x - (1 : Int64))), (.long x)]))
            refine own_fwd (fun tt kt => XS.land X149.here hx rfl (hb hby own_d12_57) rfl kt) ?_
            show own_R p.tables e below P (T149.setTop (mkF m 58 #[.val (.ref a1), .val (.ref b141), .val (.int (zc + (1 : Int32))), .val (.int zw), .val (.long x), .second] [(.long (x &&& (x - (1 : Int64))))]))
            refine own_fwd (fun tt kt => XS.lstore X149.here hx rfl (hb hby own_d12_58) rfl (l' := #[.val (.ref a1), .val (.ref b141), .val (.int (zc + (1 : Int32))), .val (.int zw), .val (.long (x &&& (x - (1 : Int64)))), .second]) rfl kt) ?_
            show own_R p.tables e below P (T149.setTop (mkF m 60 #[.val (.ref a1), .val (.ref b141), .val (.int (zc + (1 : Int32))), .val (.int zw), .val (.long (x &&& (x - (1 : Int64)))), .second] []))
            refine own_fwd (fun tt kt => XS.goto X149.here hx rfl (pc0 := 60) (pc' := 28) rfl (hb hby own_d12_60) (by decide) (by decide) kt) ?_
            show own_R p.tables e below P (T149.setTop (mkF m 28 #[.val (.ref a1), .val (.ref b141), .val (.int (zc + (1 : Int32))), .val (.int zw), .val (.long (x &&& (x - (1 : Int64)))), .second] []))
            exact ihj (64 * wi + t148 + 1) (cnt + 1) _ _ _ _ _ _ X149 e149 N149 Z149 Y149 K149 gF_x149 gM_x149 A149_ (by omega) (by omega) (by omega) (own_addn (j := 1) hzc own_i1 (by omega)) rb2 rk2 rg2
      refine own_fwd (fun tt kt => XS.iloadN X.here hx rfl (hb hby own_d12_11) rfl kt) ?_
      show own_R p.tables e below P (T.setTop (mkF m 12 #[.val (.ref a1), .val (.ref b141), .val (.int zc), .val (.int zw), sA, sB] [(.int zw)]))
      refine own_fwd (fun tt kt => XS.aloadN X.here hx rfl (hb hby own_d12_12) rfl rfl kt) ?_
      show own_R p.tables e below P (T.setTop (mkF m 13 #[.val (.ref a1), .val (.ref b141), .val (.int zc), .val (.int zw), sA, sB] [(.ref a1), (.int zw)]))
      obtain ⟨T150, X150, e150, st150⟩ := getF X hx hZ hown (host := "") (Or.inl (hw _ (List.mem_of_getElem? (i := 10) rfl))) Via.refl eT gF (g := (mkF m 13 #[.val (.ref a1), .val (.ref b141), .val (.int zc), .val (.int zw), sA, sB] [(.ref a1), (.int zw)])) rfl rfl (hb hby own_d12_13)
      refine own_fwd st150 ?_
      show own_R p.tables e below P (T150.setTop (mkF m 16 #[.val (.ref a1), .val (.ref b141), .val (.int zc), .val (.int zw), sA, sB] [(.ref mA), (.int zw)]))
      refine own_fwd (own_len X150 hx hZ e150 gM M.toInt32 (len_toInt pM.bd) (g := (mkF m 16 #[.val (.ref a1), .val (.ref b141), .val (.int zc), .val (.int zw), sA, sB] [(.ref mA), (.int zw)])) rfl rfl (hb hby own_d12_16)) ?_
      show own_R p.tables e below P (T150.setTop (mkF m 17 #[.val (.ref a1), .val (.ref b141), .val (.int zc), .val (.int zw), sA, sB] [(.int M.toInt32), (.int zw)]))
      have hc151 : zw < M.toInt32 := by rw [Int32.lt_iff_toInt_lt, hzw, len_toInt pM.bd]; omega
      refine own_fwd (fun tt kt => XS.icmpNo X150.here hx rfl (hb hby own_d12_17) rfl (tlt hc151).2.1 kt) ?_
      show own_R p.tables e below P (T150.setTop (mkF m 20 #[.val (.ref a1), .val (.ref b141), .val (.int zc), .val (.int zw), sA, sB] []))
      refine own_fwd (fun tt kt => XS.aloadN X150.here hx rfl (hb hby own_d12_20) rfl rfl kt) ?_
      show own_R p.tables e below P (T150.setTop (mkF m 21 #[.val (.ref a1), .val (.ref b141), .val (.int zc), .val (.int zw), sA, sB] [(.ref a1)]))
      obtain ⟨T152, X152, e152, st152⟩ := getF X150 hx hZ hown (host := "") (Or.inl (hw _ (List.mem_of_getElem? (i := 10) rfl))) Via.refl e150 gF (g := (mkF m 21 #[.val (.ref a1), .val (.ref b141), .val (.int zc), .val (.int zw), sA, sB] [(.ref a1)])) rfl rfl (hb hby own_d12_21)
      refine own_fwd st152 ?_
      show own_R p.tables e below P (T152.setTop (mkF m 24 #[.val (.ref a1), .val (.ref b141), .val (.int zc), .val (.int zw), sA, sB] [(.ref mA)]))
      refine own_fwd (fun tt kt => XS.iloadN X152.here hx rfl (hb hby own_d12_24) rfl kt) ?_
      show own_R p.tables e below P (T152.setTop (mkF m 25 #[.val (.ref a1), .val (.ref b141), .val (.int zc), .val (.int zw), sA, sB] [(.int zw), (.ref mA)]))
      refine own_fwd (own_ldJ X152 hx hZ e152 gM (j := zw) wi hzw hbM (g := (mkF m 25 #[.val (.ref a1), .val (.ref b141), .val (.int zc), .val (.int zw), sA, sB] [(.int zw), (.ref mA)])) rfl rfl (hb hby own_d12_25)) ?_
      show own_R p.tables e below P (T152.setTop (mkF m 26 #[.val (.ref a1), .val (.ref b141), .val (.int zc), .val (.int zw), sA, sB] [(.long (fm wi))]))
      rcases hs with ⟨q1, q2⟩ | ⟨x0, q1, q2⟩
      · rw [q1, q2]
        show own_R p.tables e below P (T152.setTop (mkF m 26 #[.val (.ref a1), .val (.ref b141), .val (.int zc), .val (.int zw), .unset, .unset] [(.long (fm wi))]))
        refine own_fwd (fun tt kt => XS.lstore X152.here hx rfl (hb hby own_d12_26) rfl (l' := #[.val (.ref a1), .val (.ref b141), .val (.int zc), .val (.int zw), .val (.long (fm wi)), .second]) rfl kt) ?_
        show own_R p.tables e below P (T152.setTop (mkF m 28 #[.val (.ref a1), .val (.ref b141), .val (.int zc), .val (.int zw), .val (.long (fm wi)), .second] []))
        exact inner (2 - cnt) (64 * wi) cnt _ _ _ _ _ _ X152 e152 N Zs Y Kp gF gM gB (Nat.le_refl _) (by omega) (by unfold own_RK at rk; omega) hzc (own_begin pI hS hbM) rk rg
      · rw [q1, q2]
        show own_R p.tables e below P (T152.setTop (mkF m 26 #[.val (.ref a1), .val (.ref b141), .val (.int zc), .val (.int zw), .val (.long x0), .second] [(.long (fm wi))]))
        refine own_fwd (fun tt kt => XS.lstore X152.here hx rfl (hb hby own_d12_26) rfl (l' := #[.val (.ref a1), .val (.ref b141), .val (.int zc), .val (.int zw), .val (.long (fm wi)), .second]) rfl kt) ?_
        show own_R p.tables e below P (T152.setTop (mkF m 28 #[.val (.ref a1), .val (.ref b141), .val (.int zc), .val (.int zw), .val (.long (fm wi)), .second] []))
        exact inner (2 - cnt) (64 * wi) cnt _ _ _ _ _ _ X152 e152 N Zs Y Kp gF gM gB (Nat.le_refl _) (by omega) (by unfold own_RK at rk; omega) hzc (own_begin pI hS hbM) rk rg
  exact outer M 0 0 _ _ _ _ _ _ _ _ X141 e141 N0 Z141 Y141 K141 pF1_x141 pM_x141 A141_ (Or.inl ⟨rfl, rfl⟩) (by omega) rfl rfl (Or.inl ⟨by omega, rfl⟩) ⟨fun q => absurd q (by omega), fun q => absurd q (by omega)⟩
theorem own_pn2 : plainName "com/example/ramp99/ramp99/service/replay/NumberSetRemovePinLaw" = true := by first | (simp [plainName, overriddenIn]; done) | decide +kernel
theorem own_pd3 : parseMethodDescriptor "(I)V" = some ⟨[.int], none⟩ := by decide +kernel
theorem own_pd4 : parseMethodDescriptor "()I" = some ⟨[], some .int⟩ := by decide +kernel
theorem own_pd5 : parseMethodDescriptor "()[I" = some ⟨[], some (.array .int)⟩ := by decide +kernel
theorem own_eflaw (m : MethodId) (p0 : Int32) (p1 : Int32) (p2 : Int32) (p3 : Int32) (p4 : Int32) : entryFrame m #[(.int p0), (.int p1), (.int p2), (.int p3), (.int p4)] maxLocals = mkF m 0 #[.val (.int p0), .val (.int p1), .val (.int p2), .val (.int p3), .val (.int p4), .unset, .unset, .unset, .unset, .unset, .unset, .unset, .unset, .unset, .unset] [] := by first | (simp [entryFrame, mkF, argsToLocals, Value.category, maxLocals]; done) | rfl
def own_Qlaw (Z : State) (p0 p1 p2 p3 p4 : Int32) (h0 : Heap) (n0 : Nat) (v : Option Value) (h : Heap) (L : List Loc) : Prop := v = some (.int 1) ∧ Fr n0 L
set_option maxRecDepth 65536 in
set_option maxHeartbeats 40000000 in
theorem own_rmlaw (l : Launch) (Z : State) (a0 : Array Value) (hw : ∀ d ∈ tables_1, d.before a0 Z = true) (ws : List Jvm.Cond) (p0 p1 p2 p3 p4 : Int32) (h0 : Heap) (n0 : Nat) (Z0 : n0 ≤ h0.size) :
    MetFree l x (head1 (Jvm.Cond.code x code maxLocals ret :: ws) room_1) (fun a U => a = #[(.int p0), (.int p1), (.int p2), (.int p3), (.int p4)] ∧ Z.Warmed39 U.vm ∧ U.heap = h0) (fun _ _ _ _ _ => True) (fun _ U o U' => ∃ v L, o = .returned v ∧ own_Qlaw Z p0 p1 p2 p3 p4 h0 n0 v U'.heap L ∧ FrameEnd U o U' L 32 2176) := by
  refine MetFree.of_bodySF (plainFor_of_name own_pn2) hisR ?_
  intro p e s m args below meth c s₁ Bd hml0 hP hK
  obtain ⟨rfl, hZ, hh⟩ := hP
  have hx := Bd.exec
  have hby := Bd.bytes
  have hml : c.maxLocals = 15 := hml0
  have hown : s.vm.findClass "com/example/ramp99/ramp99/service/replay/NumberSetRemovePinLaw" = some m.cls := findClass_of_methodNamed Bd.named
  have hnm := (name_of_methodNamed Bd.named Bd.method).1
  have X0 : Stand p l e room_1 s m #[(.int p0), (.int p1), (.int p2), (.int p3), (.int p4)] below meth c s₁ [] 0 0 := Stand.of_body Bd
  have e0 : s₁.heap = h0 := by rw [← hh, Bd.state]; rfl
  have N0 := Fr.nil n0
  refine own_nm (st := s₁.setTop (entryFrame m #[(.int p0), (.int p1), (.int p2), (.int p3), (.int p4)] maxLocals)) fun P fin => ?_
  refine own_fwd (fun tt kt => castTop (own_eflaw m p0 p1 p2 p3 p4) kt) ?_
  show own_R p.tables e below P (s₁.setTop (mkF m 0 #[.val (.int p0), .val (.int p1), .val (.int p2), .val (.int p3), .val (.int p4), .unset, .unset, .unset, .unset, .unset, .unset, .unset, .unset, .unset, .unset] []))
  refine own_fwd (fun tt kt => XS.iconst X0.here hx rfl (hb hby at_0) kt) ?_
  show own_R p.tables e below P (s₁.setTop (mkF m 1 #[.val (.int p0), .val (.int p1), .val (.int p2), .val (.int p3), .val (.int p4), .unset, .unset, .unset, .unset, .unset, .unset, .unset, .unset, .unset, .unset] [(.int (1 : Int32))]))
  refine own_fwd (fun tt kt => XS.iloadN X0.here hx rfl (hb hby at_1) rfl kt) ?_
  show own_R p.tables e below P (s₁.setTop (mkF m 2 #[.val (.int p0), .val (.int p1), .val (.int p2), .val (.int p3), .val (.int p4), .unset, .unset, .unset, .unset, .unset, .unset, .unset, .unset, .unset, .unset] [(.int p0), (.int (1 : Int32))]))
  refine own_fwd (fun tt kt => XS.sipush X0.here hx rfl (hb hby at_2) kt) ?_
  show own_R p.tables e below P (s₁.setTop (mkF m 5 #[.val (.int p0), .val (.int p1), .val (.int p2), .val (.int p3), .val (.int p4), .unset, .unset, .unset, .unset, .unset, .unset, .unset, .unset, .unset, .unset] [(.int (16383 : Int32)), (.int p0), (.int (1 : Int32))]))
  refine own_fwd (fun tt kt => XS.iand X0.here hx rfl (hb hby at_5) rfl kt) ?_
  show own_R p.tables e below P (s₁.setTop (mkF m 6 #[.val (.int p0), .val (.int p1), .val (.int p2), .val (.int p3), .val (.int p4), .unset, .unset, .unset, .unset, .unset, .unset, .unset, .unset, .unset, .unset] [(.int (p0 &&& (16383 : Int32))), (.int (1 : Int32))]))
  refine own_fwd (fun tt kt => XS.iadd X0.here hx rfl (hb hby at_6) rfl kt) ?_
  show own_R p.tables e below P (s₁.setTop (mkF m 7 #[.val (.int p0), .val (.int p1), .val (.int p2), .val (.int p3), .val (.int p4), .unset, .unset, .unset, .unset, .unset, .unset, .unset, .unset, .unset, .unset] [(.int ((1 : Int32) + (p0 &&& (16383 : Int32))))]))
  obtain ⟨r, hr, br⟩ := own_room p0
  obtain ⟨rm, hg_rm⟩ : ∃ z, ((1 : Int32) + (p0 &&& (16383 : Int32))) = z := ⟨_, rfl⟩
  rw [hg_rm]
  show own_R p.tables e below P (s₁.setTop (mkF m 7 #[.val (.int p0), .val (.int p1), .val (.int p2), .val (.int p3), .val (.int p4), .unset, .unset, .unset, .unset, .unset, .unset, .unset, .unset, .unset, .unset] [(.int rm)]))
  rw [hg_rm] at hr
  refine own_fwd (fun tt kt => XS.istore X0.here hx rfl (hb hby at_7) rfl (l' := #[.val (.int p0), .val (.int p1), .val (.int p2), .val (.int p3), .val (.int p4), .val (.int rm), .unset, .unset, .unset, .unset, .unset, .unset, .unset, .unset, .unset]) rfl kt) ?_
  show own_R p.tables e below P (s₁.setTop (mkF m 9 #[.val (.int p0), .val (.int p1), .val (.int p2), .val (.int p3), .val (.int p4), .val (.int rm), .unset, .unset, .unset, .unset, .unset, .unset, .unset, .unset, .unset] []))
  refine own_fwd (fun tt kt => XS.iloadN X0.here hx rfl (hb hby at_9) rfl kt) ?_
  show own_R p.tables e below P (s₁.setTop (mkF m 10 #[.val (.int p0), .val (.int p1), .val (.int p2), .val (.int p3), .val (.int p4), .val (.int rm), .unset, .unset, .unset, .unset, .unset, .unset, .unset, .unset, .unset] [(.int p1)]))
  refine own_fwd (fun tt kt => XS.sipush X0.here hx rfl (hb hby at_10) kt) ?_
  show own_R p.tables e below P (s₁.setTop (mkF m 13 #[.val (.int p0), .val (.int p1), .val (.int p2), .val (.int p3), .val (.int p4), .val (.int rm), .unset, .unset, .unset, .unset, .unset, .unset, .unset, .unset, .unset] [(.int (8191 : Int32)), (.int p1)]))
  refine own_fwd (fun tt kt => XS.iand X0.here hx rfl (hb hby at_13) rfl kt) ?_
  show own_R p.tables e below P (s₁.setTop (mkF m 14 #[.val (.int p0), .val (.int p1), .val (.int p2), .val (.int p3), .val (.int p4), .val (.int rm), .unset, .unset, .unset, .unset, .unset, .unset, .unset, .unset, .unset] [(.int (p1 &&& (8191 : Int32)))]))
  obtain ⟨na, hna, bna⟩ := own_place p1
  obtain ⟨va, hg_va⟩ : ∃ z, (p1 &&& (8191 : Int32)) = z := ⟨_, rfl⟩
  rw [hg_va]
  show own_R p.tables e below P (s₁.setTop (mkF m 14 #[.val (.int p0), .val (.int p1), .val (.int p2), .val (.int p3), .val (.int p4), .val (.int rm), .unset, .unset, .unset, .unset, .unset, .unset, .unset, .unset, .unset] [(.int va)]))
  rw [hg_va] at hna
  refine own_fwd (fun tt kt => XS.istore X0.here hx rfl (hb hby at_14) rfl (l' := #[.val (.int p0), .val (.int p1), .val (.int p2), .val (.int p3), .val (.int p4), .val (.int rm), .val (.int va), .unset, .unset, .unset, .unset, .unset, .unset, .unset, .unset]) rfl kt) ?_
  show own_R p.tables e below P (s₁.setTop (mkF m 16 #[.val (.int p0), .val (.int p1), .val (.int p2), .val (.int p3), .val (.int p4), .val (.int rm), .val (.int va), .unset, .unset, .unset, .unset, .unset, .unset, .unset, .unset] []))
  refine own_fwd (fun tt kt => XS.iload X0.here hx rfl (hb hby at_16) rfl kt) ?_
  show own_R p.tables e below P (s₁.setTop (mkF m 18 #[.val (.int p0), .val (.int p1), .val (.int p2), .val (.int p3), .val (.int p4), .val (.int rm), .val (.int va), .unset, .unset, .unset, .unset, .unset, .unset, .unset, .unset] [(.int va)]))
  refine own_fwd (fun tt kt => XS.iconst X0.here hx rfl (hb hby at_18) kt) ?_
  show own_R p.tables e below P (s₁.setTop (mkF m 19 #[.val (.int p0), .val (.int p1), .val (.int p2), .val (.int p3), .val (.int p4), .val (.int rm), .val (.int va), .unset, .unset, .unset, .unset, .unset, .unset, .unset, .unset] [(.int (1 : Int32)), (.int va)]))
  refine own_fwd (fun tt kt => XS.iadd X0.here hx rfl (hb hby at_19) rfl kt) ?_
  show own_R p.tables e below P (s₁.setTop (mkF m 20 #[.val (.int p0), .val (.int p1), .val (.int p2), .val (.int p3), .val (.int p4), .val (.int rm), .val (.int va), .unset, .unset, .unset, .unset, .unset, .unset, .unset, .unset] [(.int (va + (1 : Int32)))]))
  refine own_fwd (fun tt kt => XS.iloadN X0.here hx rfl (hb hby at_20) rfl kt) ?_
  show own_R p.tables e below P (s₁.setTop (mkF m 21 #[.val (.int p0), .val (.int p1), .val (.int p2), .val (.int p3), .val (.int p4), .val (.int rm), .val (.int va), .unset, .unset, .unset, .unset, .unset, .unset, .unset, .unset] [(.int p2), (.int (va + (1 : Int32)))]))
  refine own_fwd (fun tt kt => XS.sipush X0.here hx rfl (hb hby at_21) kt) ?_
  show own_R p.tables e below P (s₁.setTop (mkF m 24 #[.val (.int p0), .val (.int p1), .val (.int p2), .val (.int p3), .val (.int p4), .val (.int rm), .val (.int va), .unset, .unset, .unset, .unset, .unset, .unset, .unset, .unset] [(.int (8191 : Int32)), (.int p2), (.int (va + (1 : Int32)))]))
  refine own_fwd (fun tt kt => XS.iand X0.here hx rfl (hb hby at_24) rfl kt) ?_
  show own_R p.tables e below P (s₁.setTop (mkF m 25 #[.val (.int p0), .val (.int p1), .val (.int p2), .val (.int p3), .val (.int p4), .val (.int rm), .val (.int va), .unset, .unset, .unset, .unset, .unset, .unset, .unset, .unset] [(.int (p2 &&& (8191 : Int32))), (.int (va + (1 : Int32)))]))
  refine own_fwd (fun tt kt => XS.iadd X0.here hx rfl (hb hby at_25) rfl kt) ?_
  show own_R p.tables e below P (s₁.setTop (mkF m 26 #[.val (.int p0), .val (.int p1), .val (.int p2), .val (.int p3), .val (.int p4), .val (.int rm), .val (.int va), .unset, .unset, .unset, .unset, .unset, .unset, .unset, .unset] [(.int ((va + (1 : Int32)) + (p2 &&& (8191 : Int32))))]))
  obtain ⟨nb, hnb, bnb, bnb2⟩ := own_next va p2 na 8192 hna bna (by decide)
  obtain ⟨vb, hg_vb⟩ : ∃ z, ((va + (1 : Int32)) + (p2 &&& (8191 : Int32))) = z := ⟨_, rfl⟩
  rw [hg_vb]
  show own_R p.tables e below P (s₁.setTop (mkF m 26 #[.val (.int p0), .val (.int p1), .val (.int p2), .val (.int p3), .val (.int p4), .val (.int rm), .val (.int va), .unset, .unset, .unset, .unset, .unset, .unset, .unset, .unset] [(.int vb)]))
  rw [hg_vb] at hnb
  refine own_fwd (fun tt kt => XS.istore X0.here hx rfl (hb hby at_26) rfl (l' := #[.val (.int p0), .val (.int p1), .val (.int p2), .val (.int p3), .val (.int p4), .val (.int rm), .val (.int va), .val (.int vb), .unset, .unset, .unset, .unset, .unset, .unset, .unset]) rfl kt) ?_
  show own_R p.tables e below P (s₁.setTop (mkF m 28 #[.val (.int p0), .val (.int p1), .val (.int p2), .val (.int p3), .val (.int p4), .val (.int rm), .val (.int va), .val (.int vb), .unset, .unset, .unset, .unset, .unset, .unset, .unset] []))
  refine own_fwd (fun tt kt => XS.iload X0.here hx rfl (hb hby at_28) rfl kt) ?_
  show own_R p.tables e below P (s₁.setTop (mkF m 30 #[.val (.int p0), .val (.int p1), .val (.int p2), .val (.int p3), .val (.int p4), .val (.int rm), .val (.int va), .val (.int vb), .unset, .unset, .unset, .unset, .unset, .unset, .unset] [(.int vb)]))
  refine own_fwd (fun tt kt => XS.iconst X0.here hx rfl (hb hby at_30) kt) ?_
  show own_R p.tables e below P (s₁.setTop (mkF m 31 #[.val (.int p0), .val (.int p1), .val (.int p2), .val (.int p3), .val (.int p4), .val (.int rm), .val (.int va), .val (.int vb), .unset, .unset, .unset, .unset, .unset, .unset, .unset] [(.int (1 : Int32)), (.int vb)]))
  refine own_fwd (fun tt kt => XS.iadd X0.here hx rfl (hb hby at_31) rfl kt) ?_
  show own_R p.tables e below P (s₁.setTop (mkF m 32 #[.val (.int p0), .val (.int p1), .val (.int p2), .val (.int p3), .val (.int p4), .val (.int rm), .val (.int va), .val (.int vb), .unset, .unset, .unset, .unset, .unset, .unset, .unset] [(.int (vb + (1 : Int32)))]))
  refine own_fwd (fun tt kt => XS.iloadN X0.here hx rfl (hb hby at_32) rfl kt) ?_
  show own_R p.tables e below P (s₁.setTop (mkF m 33 #[.val (.int p0), .val (.int p1), .val (.int p2), .val (.int p3), .val (.int p4), .val (.int rm), .val (.int va), .val (.int vb), .unset, .unset, .unset, .unset, .unset, .unset, .unset] [(.int p3), (.int (vb + (1 : Int32)))]))
  refine own_fwd (fun tt kt => XS.sipush X0.here hx rfl (hb hby at_33) kt) ?_
  show own_R p.tables e below P (s₁.setTop (mkF m 36 #[.val (.int p0), .val (.int p1), .val (.int p2), .val (.int p3), .val (.int p4), .val (.int rm), .val (.int va), .val (.int vb), .unset, .unset, .unset, .unset, .unset, .unset, .unset] [(.int (8191 : Int32)), (.int p3), (.int (vb + (1 : Int32)))]))
  refine own_fwd (fun tt kt => XS.iand X0.here hx rfl (hb hby at_36) rfl kt) ?_
  show own_R p.tables e below P (s₁.setTop (mkF m 37 #[.val (.int p0), .val (.int p1), .val (.int p2), .val (.int p3), .val (.int p4), .val (.int rm), .val (.int va), .val (.int vb), .unset, .unset, .unset, .unset, .unset, .unset, .unset] [(.int (p3 &&& (8191 : Int32))), (.int (vb + (1 : Int32)))]))
  refine own_fwd (fun tt kt => XS.iadd X0.here hx rfl (hb hby at_37) rfl kt) ?_
  show own_R p.tables e below P (s₁.setTop (mkF m 38 #[.val (.int p0), .val (.int p1), .val (.int p2), .val (.int p3), .val (.int p4), .val (.int rm), .val (.int va), .val (.int vb), .unset, .unset, .unset, .unset, .unset, .unset, .unset] [(.int ((vb + (1 : Int32)) + (p3 &&& (8191 : Int32))))]))
  obtain ⟨nc, hnc, bnc, bnc2⟩ := own_next vb p3 nb 16384 hnb bnb2 (by decide)
  obtain ⟨vc, hg_vc⟩ : ∃ z, ((vb + (1 : Int32)) + (p3 &&& (8191 : Int32))) = z := ⟨_, rfl⟩
  rw [hg_vc]
  show own_R p.tables e below P (s₁.setTop (mkF m 38 #[.val (.int p0), .val (.int p1), .val (.int p2), .val (.int p3), .val (.int p4), .val (.int rm), .val (.int va), .val (.int vb), .unset, .unset, .unset, .unset, .unset, .unset, .unset] [(.int vc)]))
  rw [hg_vc] at hnc
  refine own_fwd (fun tt kt => XS.istore X0.here hx rfl (hb hby at_38) rfl (l' := #[.val (.int p0), .val (.int p1), .val (.int p2), .val (.int p3), .val (.int p4), .val (.int rm), .val (.int va), .val (.int vb), .val (.int vc), .unset, .unset, .unset, .unset, .unset, .unset]) rfl kt) ?_
  show own_R p.tables e below P (s₁.setTop (mkF m 40 #[.val (.int p0), .val (.int p1), .val (.int p2), .val (.int p3), .val (.int p4), .val (.int rm), .val (.int va), .val (.int vb), .val (.int vc), .unset, .unset, .unset, .unset, .unset, .unset] []))
  obtain ⟨T153, h153, X153, e153, E153, A153, D153, -, st153⟩ := newO X0 hx hZ hown (hw _ (List.mem_of_getElem? (i := 0) rfl)) (hw _ (List.mem_of_getElem? (i := 1) rfl)) (hw _ (List.mem_of_getElem? (i := 2) rfl)) e0 (g := (mkF m 40 #[.val (.int p0), .val (.int p1), .val (.int p2), .val (.int p3), .val (.int p4), .val (.int rm), .val (.int va), .val (.int vb), .val (.int vc), .unset, .unset, .unset, .unset, .unset, .unset] [])) rfl (hb hby at_40) (by decide) (by decide)
  obtain ⟨b153, g153⟩ : ∃ z, z = h0.size := ⟨_, rfl⟩
  rw [← g153] at A153 D153 st153
  have ge_b153 : n0 ≤ b153 := by rw [g153]; exact Z0
  have sz_b153 : h0.size ≤ b153 := by rw [g153]; exact (Nat.le_refl h0.size)
  have F153_members : Fld Z h153 b153 "com/example/ramp99/ramp99/service/replay/NumberSet" "members" "[J" .null := D153 (Or.inl (hw _ (List.mem_of_getElem? (i := 11) rfl))) (ty := (.array .long)) (by decide)
  have F153_holding : Fld Z h153 b153 "com/example/ramp99/ramp99/service/replay/NumberSet" "holding" "[J" .null := D153 (Or.inl (hw _ (List.mem_of_getElem? (i := 13) rfl))) (ty := (.array .long)) (by decide)
  have F153_size : Fld Z h153 b153 "com/example/ramp99/ramp99/service/replay/NumberSet" "size" "I" (.int (0 : Int32)) := D153 (Or.inl (hw _ (List.mem_of_getElem? (i := 20) rfl))) (ty := .int) (by decide)
  have Z153 : n0 ≤ h153.size := Nat.le_trans Z0 E153.1
  have Y153 : h0.size ≤ h153.size := Nat.le_trans (Nat.le_refl h0.size) E153.1
  refine own_fwd st153 ?_
  show own_R p.tables e below P (T153.setTop (mkF m 43 #[.val (.int p0), .val (.int p1), .val (.int p2), .val (.int p3), .val (.int p4), .val (.int rm), .val (.int va), .val (.int vb), .val (.int vc), .unset, .unset, .unset, .unset, .unset, .unset] [(.ref b153)]))
  refine own_fwd (fun tt kt => XS.dup X153.here hx rfl (hb hby at_43) rfl rfl kt) ?_
  show own_R p.tables e below P (T153.setTop (mkF m 44 #[.val (.int p0), .val (.int p1), .val (.int p2), .val (.int p3), .val (.int p4), .val (.int rm), .val (.int va), .val (.int vb), .val (.int vc), .unset, .unset, .unset, .unset, .unset, .unset] [(.ref b153), (.ref b153)]))
  refine own_fwd (fun tt kt => XS.iload X153.here hx rfl (hb hby at_44) rfl kt) ?_
  show own_R p.tables e below P (T153.setTop (mkF m 46 #[.val (.int p0), .val (.int p1), .val (.int p2), .val (.int p3), .val (.int p4), .val (.int rm), .val (.int va), .val (.int vb), .val (.int vc), .unset, .unset, .unset, .unset, .unset, .unset] [(.int rm), (.ref b153), (.ref b153)]))
  obtain ⟨_, _, ⟨T154, L154, k154, n154⟩, -, X154, ⟨Lc154, hQ154, l154, y154, z154⟩, st154⟩ := X153.specialBack hx (y := (⟨"com/example/ramp99/ramp99/service/replay/NumberSet", "<init>", "(I)V"⟩ : MethodName)) rfl hown (mvT hZ (hw _ (List.mem_of_getElem? (i := 3) rfl))) (mvT hZ (hw _ (List.mem_of_getElem? (i := 4) rfl))) (mvT hZ (hw _ (List.mem_of_getElem? (i := 5) rfl))) (by decide) (backOf (W := 1) (own_rm1 l Z a0 hw [] b153 rm r h153 n0 Z153 A153 F153_members F153_holding F153_size ge_b153 hr br) hZ (hw _ (List.mem_of_getElem? (i := 5) rfl)) (hw _ (List.mem_of_getElem? (i := 2) rfl)) (by decide) (by decide)) (g := (mkF m 46 #[.val (.int p0), .val (.int p1), .val (.int p2), .val (.int p3), .val (.int p4), .val (.int rm), .val (.int va), .val (.int vb), .val (.int vc), .unset, .unset, .unset, .unset, .unset, .unset] [(.int rm), (.ref b153), (.ref b153)])) rfl (by rw [hml]; rfl) (Steps.refl _) (a := b153) (argsL := [(.int rm)]) (rest := [(.ref b153)]) (lenOf own_pd3 rfl) rfl (by show 2 * 0 + _ ≤ _; exact Nat.le_of_eq rfl) (hb hby at_46) (fun _ _ => ⟨rfl, e153, (by decide : 1 + 2 ≤ _), (by decide : 3 + 260 ≤ _)⟩)
  dsimp only [Pt.U, Pt.locs, Pt.cells, Pt.slots] at X154 l154 y154 z154 st154 hQ154
  rw [l154, (show k154 = 3 from y154), (show n154 = 263 from z154)] at X154
  obtain ⟨h154, e154⟩ : ∃ z, T154.heap = z := ⟨_, rfl⟩
  rw [e154] at hQ154
  obtain ⟨hq154, N154q, K154, m0, h0_, M0, H0, gm0, gh0, szm, szh, nmh, I0_, bM0, E154_, F154_1, F154_2, F154_3, A154_m, A154_h, E154_m, E154_h⟩ := hQ154
  rw [hq154] at st154
  have N154 := Fr.app N0 N154q
  have nam0 : b153 ≠ m0 := Nat.ne_of_lt (Nat.lt_of_lt_of_le A153.lt szm)
  have nah0 : b153 ≠ h0_ := Nat.ne_of_lt (Nat.lt_of_lt_of_le A153.lt szh)
  obtain ⟨S0, hS0, J0⟩ : ∃ S0 : Nat → Bool, (∀ k, S0 k = false) ∧ own_Inv M0 H0 (fun _ => (0 : Int64)) (fun _ => (0 : Int64)) S0 := ⟨_, fun _ => rfl, I0_⟩
  have A153_x154 := A153.keep K154
  have Z154 : n0 ≤ h154.size := Nat.le_trans Z153 K154.1
  have Y154 : h0.size ≤ h154.size := Nat.le_trans Y153 K154.1
  refine own_trn st154 ?_
  show own_R p.tables e below P (T154.setTop (mkF m 49 #[.val (.int p0), .val (.int p1), .val (.int p2), .val (.int p3), .val (.int p4), .val (.int rm), .val (.int va), .val (.int vb), .val (.int vc), .unset, .unset, .unset, .unset, .unset, .unset] [(.ref b153)]))
  refine own_fwd (fun tt kt => XS.astore X154.here hx rfl (hb hby at_49) rfl rfl (l' := #[.val (.int p0), .val (.int p1), .val (.int p2), .val (.int p3), .val (.int p4), .val (.int rm), .val (.int va), .val (.int vb), .val (.int vc), .val (.ref b153), .unset, .unset, .unset, .unset, .unset]) rfl kt) ?_
  show own_R p.tables e below P (T154.setTop (mkF m 51 #[.val (.int p0), .val (.int p1), .val (.int p2), .val (.int p3), .val (.int p4), .val (.int rm), .val (.int va), .val (.int vb), .val (.int vc), .val (.ref b153), .unset, .unset, .unset, .unset, .unset] []))
  refine own_fwd (fun tt kt => XS.aload X154.here hx rfl (hb hby at_51) rfl rfl kt) ?_
  show own_R p.tables e below P (T154.setTop (mkF m 53 #[.val (.int p0), .val (.int p1), .val (.int p2), .val (.int p3), .val (.int p4), .val (.int rm), .val (.int va), .val (.int vb), .val (.int vc), .val (.ref b153), .unset, .unset, .unset, .unset, .unset] [(.ref b153)]))
  refine own_fwd (fun tt kt => XS.iload X154.here hx rfl (hb hby at_53) rfl kt) ?_
  show own_R p.tables e below P (T154.setTop (mkF m 55 #[.val (.int p0), .val (.int p1), .val (.int p2), .val (.int p3), .val (.int p4), .val (.int rm), .val (.int va), .val (.int vb), .val (.int vc), .val (.ref b153), .unset, .unset, .unset, .unset, .unset] [(.int va), (.ref b153)]))
  obtain ⟨cq155, kq155, q155a, q155b, q155c⟩ := isOf hZ e154 E154_
  obtain ⟨_, _, ⟨T155, L155, k155, n155⟩, -, X155, ⟨Lc155, hQ155, l155, y155, z155⟩, st155⟩ := X154.virtualBack hx (y := (⟨"com/example/ramp99/ramp99/service/replay/NumberSet", "add", "(I)V"⟩ : MethodName)) (z := (⟨"com/example/ramp99/ramp99/service/replay/NumberSet", "add", "(I)V"⟩ : MethodName)) hown (mvT hZ (hw _ (List.mem_of_getElem? (i := 14) rfl))) (mvT hZ (hw _ (List.mem_of_getElem? (i := 15) rfl))) (notFace_of_selects (args := #[]) (mvT hZ (hw _ (List.mem_of_getElem? (i := 17) rfl)))) (mvT hZ (hw _ (List.mem_of_getElem? (i := 17) rfl))) (mvT hZ (hw _ (List.mem_of_getElem? (i := 16) rfl))) (by decide) (backOf (W := 0) (own_rma1 l Z a0 hw [] b153 m0 h0_ (0 : Int32) (fun _ => (0 : Int64)) (fun _ => (0 : Int64)) M0 H0 S0 va na h154 n0 Z154 E154_ F154_1 F154_2 F154_3 A154_m A154_h E154_m E154_h ge_b153 gm0 gh0 nam0 nah0 nmh J0 bM0 hna (by omega)) hZ (hw _ (List.mem_of_getElem? (i := 18) rfl)) (hw _ (List.mem_of_getElem? (i := 2) rfl)) (by decide) (by decide)) q155a q155c (g := (mkF m 55 #[.val (.int p0), .val (.int p1), .val (.int p2), .val (.int p3), .val (.int p4), .val (.int rm), .val (.int va), .val (.int vb), .val (.int vc), .val (.ref b153), .unset, .unset, .unset, .unset, .unset] [(.int va), (.ref b153)])) rfl (by rw [hml]; rfl) (Steps.refl _) (argsL := [(.int va)]) (rest := []) (lenOf own_pd3 rfl) rfl (by show 2 * 0 + _ ≤ _; exact Nat.le_of_eq rfl) (hb hby at_55) (fun _ _ => ⟨rfl, e154, (by decide : 3 + 2 ≤ _), (by decide : 263 + 518 ≤ _)⟩)
  dsimp only [Pt.U, Pt.locs, Pt.cells, Pt.slots] at X155 l155 y155 z155 st155 hQ155
  rw [l155, (show k155 = 5 from y155), (show n155 = 781 from z155)] at X155
  obtain ⟨h155, e155⟩ : ∃ z, T155.heap = z := ⟨_, rfl⟩
  rw [e155] at hQ155
  obtain ⟨hq155, N155q, K155, m1, h1_, M1, H1, f1, g1, gm1, gh1, nam1, nah1, nmh1, -, -, I1_, bM1, E155_, F155_1, F155_2, F155_3, A155_m, A155_h, E155_m, E155_h⟩ := hQ155
  rw [hq155] at st155
  have N155 := Fr.app N154 N155q
  obtain ⟨S1, hS1, J1⟩ : ∃ S' : Nat → Bool, (∀ k, S' k = (S0 k || decide (k = na))) ∧ own_Inv M1 H1 f1 g1 S' := ⟨_, fun _ => rfl, I1_⟩
  have E154__x155 := E154_.keep K155
  have Z155 : n0 ≤ h155.size := Nat.le_trans Z154 K155.1
  have Y155 : h0.size ≤ h155.size := Nat.le_trans Y154 K155.1
  refine own_trn st155 ?_
  show own_R p.tables e below P (T155.setTop (mkF m 58 #[.val (.int p0), .val (.int p1), .val (.int p2), .val (.int p3), .val (.int p4), .val (.int rm), .val (.int va), .val (.int vb), .val (.int vc), .val (.ref b153), .unset, .unset, .unset, .unset, .unset] []))
  refine own_fwd (fun tt kt => XS.aload X155.here hx rfl (hb hby at_58) rfl rfl kt) ?_
  show own_R p.tables e below P (T155.setTop (mkF m 60 #[.val (.int p0), .val (.int p1), .val (.int p2), .val (.int p3), .val (.int p4), .val (.int rm), .val (.int va), .val (.int vb), .val (.int vc), .val (.ref b153), .unset, .unset, .unset, .unset, .unset] [(.ref b153)]))
  refine own_fwd (fun tt kt => XS.iload X155.here hx rfl (hb hby at_60) rfl kt) ?_
  show own_R p.tables e below P (T155.setTop (mkF m 62 #[.val (.int p0), .val (.int p1), .val (.int p2), .val (.int p3), .val (.int p4), .val (.int rm), .val (.int va), .val (.int vb), .val (.int vc), .val (.ref b153), .unset, .unset, .unset, .unset, .unset] [(.int vb), (.ref b153)]))
  obtain ⟨cq156, kq156, q156a, q156b, q156c⟩ := isOf hZ e155 E155_
  obtain ⟨_, _, ⟨T156, L156, k156, n156⟩, -, X156, ⟨Lc156, hQ156, l156, y156, z156⟩, st156⟩ := X155.virtualBack hx (y := (⟨"com/example/ramp99/ramp99/service/replay/NumberSet", "add", "(I)V"⟩ : MethodName)) (z := (⟨"com/example/ramp99/ramp99/service/replay/NumberSet", "add", "(I)V"⟩ : MethodName)) hown (mvT hZ (hw _ (List.mem_of_getElem? (i := 14) rfl))) (mvT hZ (hw _ (List.mem_of_getElem? (i := 15) rfl))) (notFace_of_selects (args := #[]) (mvT hZ (hw _ (List.mem_of_getElem? (i := 17) rfl)))) (mvT hZ (hw _ (List.mem_of_getElem? (i := 17) rfl))) (mvT hZ (hw _ (List.mem_of_getElem? (i := 16) rfl))) (by decide) (backOf (W := 0) (own_rma1 l Z a0 hw [] b153 m1 h1_ ((0 : Int32) + (1 : Int32)) f1 g1 M1 H1 S1 vb nb h155 n0 Z155 E155_ F155_1 F155_2 F155_3 A155_m A155_h E155_m E155_h ge_b153 gm1 gh1 nam1 nah1 nmh1 J1 bM1 hnb (by omega)) hZ (hw _ (List.mem_of_getElem? (i := 18) rfl)) (hw _ (List.mem_of_getElem? (i := 2) rfl)) (by decide) (by decide)) q156a q156c (g := (mkF m 62 #[.val (.int p0), .val (.int p1), .val (.int p2), .val (.int p3), .val (.int p4), .val (.int rm), .val (.int va), .val (.int vb), .val (.int vc), .val (.ref b153), .unset, .unset, .unset, .unset, .unset] [(.int vb), (.ref b153)])) rfl (by rw [hml]; rfl) (Steps.refl _) (argsL := [(.int vb)]) (rest := []) (lenOf own_pd3 rfl) rfl (by show 2 * 0 + _ ≤ _; exact Nat.le_of_eq rfl) (hb hby at_62) (fun _ _ => ⟨rfl, e155, (by decide : 5 + 2 ≤ _), (by decide : 781 + 518 ≤ _)⟩)
  dsimp only [Pt.U, Pt.locs, Pt.cells, Pt.slots] at X156 l156 y156 z156 st156 hQ156
  rw [l156, (show k156 = 7 from y156), (show n156 = 1299 from z156)] at X156
  obtain ⟨h156, e156⟩ : ∃ z, T156.heap = z := ⟨_, rfl⟩
  rw [e156] at hQ156
  obtain ⟨hq156, N156q, K156, m2, h2_, M2, H2, f2, g2, gm2, gh2, nam2, nah2, nmh2, -, -, I2_, bM2, E156_, F156_1, F156_2, F156_3, A156_m, A156_h, E156_m, E156_h⟩ := hQ156
  rw [hq156] at st156
  have N156 := Fr.app N155 N156q
  obtain ⟨S2, hS2, J2⟩ : ∃ S' : Nat → Bool, (∀ k, S' k = (S1 k || decide (k = nb))) ∧ own_Inv M2 H2 f2 g2 S' := ⟨_, fun _ => rfl, I2_⟩
  have E155__x156 := E155_.keep K156
  have Z156 : n0 ≤ h156.size := Nat.le_trans Z155 K156.1
  have Y156 : h0.size ≤ h156.size := Nat.le_trans Y155 K156.1
  refine own_trn st156 ?_
  show own_R p.tables e below P (T156.setTop (mkF m 65 #[.val (.int p0), .val (.int p1), .val (.int p2), .val (.int p3), .val (.int p4), .val (.int rm), .val (.int va), .val (.int vb), .val (.int vc), .val (.ref b153), .unset, .unset, .unset, .unset, .unset] []))
  refine own_fwd (fun tt kt => XS.aload X156.here hx rfl (hb hby at_65) rfl rfl kt) ?_
  show own_R p.tables e below P (T156.setTop (mkF m 67 #[.val (.int p0), .val (.int p1), .val (.int p2), .val (.int p3), .val (.int p4), .val (.int rm), .val (.int va), .val (.int vb), .val (.int vc), .val (.ref b153), .unset, .unset, .unset, .unset, .unset] [(.ref b153)]))
  refine own_fwd (fun tt kt => XS.iload X156.here hx rfl (hb hby at_67) rfl kt) ?_
  show own_R p.tables e below P (T156.setTop (mkF m 69 #[.val (.int p0), .val (.int p1), .val (.int p2), .val (.int p3), .val (.int p4), .val (.int rm), .val (.int va), .val (.int vb), .val (.int vc), .val (.ref b153), .unset, .unset, .unset, .unset, .unset] [(.int vc), (.ref b153)]))
  obtain ⟨cq157, kq157, q157a, q157b, q157c⟩ := isOf hZ e156 E156_
  obtain ⟨_, _, ⟨T157, L157, k157, n157⟩, -, X157, ⟨Lc157, hQ157, l157, y157, z157⟩, st157⟩ := X156.virtualBack hx (y := (⟨"com/example/ramp99/ramp99/service/replay/NumberSet", "add", "(I)V"⟩ : MethodName)) (z := (⟨"com/example/ramp99/ramp99/service/replay/NumberSet", "add", "(I)V"⟩ : MethodName)) hown (mvT hZ (hw _ (List.mem_of_getElem? (i := 14) rfl))) (mvT hZ (hw _ (List.mem_of_getElem? (i := 15) rfl))) (notFace_of_selects (args := #[]) (mvT hZ (hw _ (List.mem_of_getElem? (i := 17) rfl)))) (mvT hZ (hw _ (List.mem_of_getElem? (i := 17) rfl))) (mvT hZ (hw _ (List.mem_of_getElem? (i := 16) rfl))) (by decide) (backOf (W := 0) (own_rma2 l Z a0 hw [] b153 m2 h2_ (((0 : Int32) + (1 : Int32)) + (1 : Int32)) f2 g2 M2 H2 S2 vc nc h156 n0 Z156 E156_ F156_1 F156_2 F156_3 A156_m A156_h E156_m E156_h ge_b153 gm2 gh2 nam2 nah2 nmh2 J2 bM2 hnc (by omega)) hZ (hw _ (List.mem_of_getElem? (i := 18) rfl)) (hw _ (List.mem_of_getElem? (i := 2) rfl)) (by decide) (by decide)) q157a q157c (g := (mkF m 69 #[.val (.int p0), .val (.int p1), .val (.int p2), .val (.int p3), .val (.int p4), .val (.int rm), .val (.int va), .val (.int vb), .val (.int vc), .val (.ref b153), .unset, .unset, .unset, .unset, .unset] [(.int vc), (.ref b153)])) rfl (by rw [hml]; rfl) (Steps.refl _) (argsL := [(.int vc)]) (rest := []) (lenOf own_pd3 rfl) rfl (by show 2 * 0 + _ ≤ _; exact Nat.le_of_eq rfl) (hb hby at_69) (fun _ _ => ⟨rfl, e156, (by decide : 7 + 2 ≤ _), (by decide : 1299 + 778 ≤ _)⟩)
  dsimp only [Pt.U, Pt.locs, Pt.cells, Pt.slots] at X157 l157 y157 z157 st157 hQ157
  rw [l157, (show k157 = 9 from y157), (show n157 = 2077 from z157)] at X157
  obtain ⟨h157, e157⟩ : ∃ z, T157.heap = z := ⟨_, rfl⟩
  rw [e157] at hQ157
  obtain ⟨hq157, N157q, K157, m3, h3_, M3, H3, f3, g3, gm3, gh3, nam3, nah3, nmh3, -, -, I3_, bM3, E157_, F157_1, F157_2, F157_3, A157_m, A157_h, E157_m, E157_h⟩ := hQ157
  rw [hq157] at st157
  have N157 := Fr.app N156 N157q
  obtain ⟨S3, hS3, J3⟩ : ∃ S' : Nat → Bool, (∀ k, S' k = (S2 k || decide (k = nc))) ∧ own_Inv M3 H3 f3 g3 S' := ⟨_, fun _ => rfl, I3_⟩
  have E156__x157 := E156_.keep K157
  have Z157 : n0 ≤ h157.size := Nat.le_trans Z156 K157.1
  have Y157 : h0.size ≤ h157.size := Nat.le_trans Y156 K157.1
  refine own_trn st157 ?_
  show own_R p.tables e below P (T157.setTop (mkF m 72 #[.val (.int p0), .val (.int p1), .val (.int p2), .val (.int p3), .val (.int p4), .val (.int rm), .val (.int va), .val (.int vb), .val (.int vc), .val (.ref b153), .unset, .unset, .unset, .unset, .unset] []))
  refine own_fwd (fun tt kt => XS.iload X157.here hx rfl (hb hby at_72) rfl kt) ?_
  show own_R p.tables e below P (T157.setTop (mkF m 74 #[.val (.int p0), .val (.int p1), .val (.int p2), .val (.int p3), .val (.int p4), .val (.int rm), .val (.int va), .val (.int vb), .val (.int vc), .val (.ref b153), .unset, .unset, .unset, .unset, .unset] [(.int p4)]))
  refine own_fwd (fun tt kt => X157.ldcInt hx hown (mvT hZ (hw _ (List.mem_of_getElem? (i := 21) rfl))) (g := (mkF m 74 #[.val (.int p0), .val (.int p1), .val (.int p2), .val (.int p3), .val (.int p4), .val (.int rm), .val (.int va), .val (.int vb), .val (.int vc), .val (.ref b153), .unset, .unset, .unset, .unset, .unset] [(.int p4)])) rfl (hb hby at_74) tt kt) ?_
  show own_R p.tables e below P (T157.setTop (mkF m 76 #[.val (.int p0), .val (.int p1), .val (.int p2), .val (.int p3), .val (.int p4), .val (.int rm), .val (.int va), .val (.int vb), .val (.int vc), .val (.ref b153), .unset, .unset, .unset, .unset, .unset] [(.int (2147483647 : Int32)), (.int p4)]))
  refine own_fwd (fun tt kt => XS.iand X157.here hx rfl (hb hby at_76) rfl kt) ?_
  show own_R p.tables e below P (T157.setTop (mkF m 77 #[.val (.int p0), .val (.int p1), .val (.int p2), .val (.int p3), .val (.int p4), .val (.int rm), .val (.int va), .val (.int vb), .val (.int vc), .val (.ref b153), .unset, .unset, .unset, .unset, .unset] [(.int (p4 &&& (2147483647 : Int32)))]))
  refine own_fwd (fun tt kt => XS.iconst X157.here hx rfl (hb hby at_77) kt) ?_
  show own_R p.tables e below P (T157.setTop (mkF m 78 #[.val (.int p0), .val (.int p1), .val (.int p2), .val (.int p3), .val (.int p4), .val (.int rm), .val (.int va), .val (.int vb), .val (.int vc), .val (.ref b153), .unset, .unset, .unset, .unset, .unset] [(.int (3 : Int32)), (.int (p4 &&& (2147483647 : Int32)))]))
  refine own_fwd (fun tt kt => iremM X157 hx rfl (hb hby at_78) rfl (by decide) kt) ?_
  show own_R p.tables e below P (T157.setTop (mkF m 79 #[.val (.int p0), .val (.int p1), .val (.int p2), .val (.int p3), .val (.int p4), .val (.int rm), .val (.int va), .val (.int vb), .val (.int vc), .val (.ref b153), .unset, .unset, .unset, .unset, .unset] [(.int ((p4 &&& (2147483647 : Int32)) % (3 : Int32)))]))
  rcases own_w3 p4 with hs | hs | hs
  · rw [hs]
    show own_R p.tables e below P (T157.setTop (mkF m 79 #[.val (.int p0), .val (.int p1), .val (.int p2), .val (.int p3), .val (.int p4), .val (.int rm), .val (.int va), .val (.int vb), .val (.int vc), .val (.ref b153), .unset, .unset, .unset, .unset, .unset] [(.int (0 : Int32))]))
    refine own_fwd (fun tt kt => XS.istore X157.here hx rfl (hb hby at_79) rfl (l' := #[.val (.int p0), .val (.int p1), .val (.int p2), .val (.int p3), .val (.int p4), .val (.int rm), .val (.int va), .val (.int vb), .val (.int vc), .val (.ref b153), .val (.int (0 : Int32)), .unset, .unset, .unset, .unset]) rfl kt) ?_
    show own_R p.tables e below P (T157.setTop (mkF m 81 #[.val (.int p0), .val (.int p1), .val (.int p2), .val (.int p3), .val (.int p4), .val (.int rm), .val (.int va), .val (.int vb), .val (.int vc), .val (.ref b153), .val (.int (0 : Int32)), .unset, .unset, .unset, .unset] []))
    refine own_fwd (fun tt kt => XS.iload X157.here hx rfl (hb hby at_81) rfl kt) ?_
    show own_R p.tables e below P (T157.setTop (mkF m 83 #[.val (.int p0), .val (.int p1), .val (.int p2), .val (.int p3), .val (.int p4), .val (.int rm), .val (.int va), .val (.int vb), .val (.int vc), .val (.ref b153), .val (.int (0 : Int32)), .unset, .unset, .unset, .unset] [(.int (0 : Int32))]))
    have hc158 : (0 : Int32) = (0 : Int32) := (by decide)
    refine own_fwd (fun tt kt => XS.ifNo X157.here hx rfl (hb hby at_83) rfl ((if0 _ _).trans (teq hc158).2) kt) ?_
    show own_R p.tables e below P (T157.setTop (mkF m 86 #[.val (.int p0), .val (.int p1), .val (.int p2), .val (.int p3), .val (.int p4), .val (.int rm), .val (.int va), .val (.int vb), .val (.int vc), .val (.ref b153), .val (.int (0 : Int32)), .unset, .unset, .unset, .unset] []))
    refine own_fwd (fun tt kt => XS.iload X157.here hx rfl (hb hby at_86) rfl kt) ?_
    show own_R p.tables e below P (T157.setTop (mkF m 88 #[.val (.int p0), .val (.int p1), .val (.int p2), .val (.int p3), .val (.int p4), .val (.int rm), .val (.int va), .val (.int vb), .val (.int vc), .val (.ref b153), .val (.int (0 : Int32)), .unset, .unset, .unset, .unset] [(.int va)]))
    refine own_fwd (fun tt kt => XS.goto X157.here hx rfl (pc0 := 88) (pc' := 104) rfl (hb hby at_88) (by decide) (by decide) kt) ?_
    show own_R p.tables e below P (T157.setTop (mkF m 104 #[.val (.int p0), .val (.int p1), .val (.int p2), .val (.int p3), .val (.int p4), .val (.int rm), .val (.int va), .val (.int vb), .val (.int vc), .val (.ref b153), .val (.int (0 : Int32)), .unset, .unset, .unset, .unset] [(.int va)]))
    refine own_fwd (fun tt kt => XS.istore X157.here hx rfl (hb hby at_104) rfl (l' := #[.val (.int p0), .val (.int p1), .val (.int p2), .val (.int p3), .val (.int p4), .val (.int rm), .val (.int va), .val (.int vb), .val (.int vc), .val (.ref b153), .val (.int (0 : Int32)), .val (.int va), .unset, .unset, .unset]) rfl kt) ?_
    show own_R p.tables e below P (T157.setTop (mkF m 106 #[.val (.int p0), .val (.int p1), .val (.int p2), .val (.int p3), .val (.int p4), .val (.int rm), .val (.int va), .val (.int vb), .val (.int vc), .val (.ref b153), .val (.int (0 : Int32)), .val (.int va), .unset, .unset, .unset] []))
    refine own_fwd (fun tt kt => XS.iload X157.here hx rfl (hb hby at_106) rfl kt) ?_
    show own_R p.tables e below P (T157.setTop (mkF m 108 #[.val (.int p0), .val (.int p1), .val (.int p2), .val (.int p3), .val (.int p4), .val (.int rm), .val (.int va), .val (.int vb), .val (.int vc), .val (.ref b153), .val (.int (0 : Int32)), .val (.int va), .unset, .unset, .unset] [(.int (0 : Int32))]))
    have hc159 : (0 : Int32) = (0 : Int32) := (by decide)
    refine own_fwd (fun tt kt => XS.ifNo X157.here hx rfl (hb hby at_108) rfl ((if0 _ _).trans (teq hc159).2) kt) ?_
    show own_R p.tables e below P (T157.setTop (mkF m 111 #[.val (.int p0), .val (.int p1), .val (.int p2), .val (.int p3), .val (.int p4), .val (.int rm), .val (.int va), .val (.int vb), .val (.int vc), .val (.ref b153), .val (.int (0 : Int32)), .val (.int va), .unset, .unset, .unset] []))
    refine own_fwd (fun tt kt => XS.iload X157.here hx rfl (hb hby at_111) rfl kt) ?_
    show own_R p.tables e below P (T157.setTop (mkF m 113 #[.val (.int p0), .val (.int p1), .val (.int p2), .val (.int p3), .val (.int p4), .val (.int rm), .val (.int va), .val (.int vb), .val (.int vc), .val (.ref b153), .val (.int (0 : Int32)), .val (.int va), .unset, .unset, .unset] [(.int vb)]))
    refine own_fwd (fun tt kt => XS.goto X157.here hx rfl (pc0 := 113) (pc' := 118) rfl (hb hby at_113) (by decide) (by decide) kt) ?_
    show own_R p.tables e below P (T157.setTop (mkF m 118 #[.val (.int p0), .val (.int p1), .val (.int p2), .val (.int p3), .val (.int p4), .val (.int rm), .val (.int va), .val (.int vb), .val (.int vc), .val (.ref b153), .val (.int (0 : Int32)), .val (.int va), .unset, .unset, .unset] [(.int vb)]))
    refine own_fwd (fun tt kt => XS.istore X157.here hx rfl (hb hby at_118) rfl (l' := #[.val (.int p0), .val (.int p1), .val (.int p2), .val (.int p3), .val (.int p4), .val (.int rm), .val (.int va), .val (.int vb), .val (.int vc), .val (.ref b153), .val (.int (0 : Int32)), .val (.int va), .val (.int vb), .unset, .unset]) rfl kt) ?_
    show own_R p.tables e below P (T157.setTop (mkF m 120 #[.val (.int p0), .val (.int p1), .val (.int p2), .val (.int p3), .val (.int p4), .val (.int rm), .val (.int va), .val (.int vb), .val (.int vc), .val (.ref b153), .val (.int (0 : Int32)), .val (.int va), .val (.int vb), .unset, .unset] []))
    refine own_fwd (fun tt kt => XS.iload X157.here hx rfl (hb hby at_120) rfl kt) ?_
    show own_R p.tables e below P (T157.setTop (mkF m 122 #[.val (.int p0), .val (.int p1), .val (.int p2), .val (.int p3), .val (.int p4), .val (.int rm), .val (.int va), .val (.int vb), .val (.int vc), .val (.ref b153), .val (.int (0 : Int32)), .val (.int va), .val (.int vb), .unset, .unset] [(.int (0 : Int32))]))
    refine own_fwd (fun tt kt => XS.iconst X157.here hx rfl (hb hby at_122) kt) ?_
    show own_R p.tables e below P (T157.setTop (mkF m 123 #[.val (.int p0), .val (.int p1), .val (.int p2), .val (.int p3), .val (.int p4), .val (.int rm), .val (.int va), .val (.int vb), .val (.int vc), .val (.ref b153), .val (.int (0 : Int32)), .val (.int va), .val (.int vb), .unset, .unset] [(.int (2 : Int32)), (.int (0 : Int32))]))
    have hc160 : ¬ ((0 : Int32) = (2 : Int32)) := (by decide)
    refine own_fwd (fun tt kt => XS.icmpYes X157.here hx rfl (pc0 := 123) (pc' := 131) rfl (hb hby at_123) rfl (feq hc160).2 (by decide) (by decide) kt) ?_
    show own_R p.tables e below P (T157.setTop (mkF m 131 #[.val (.int p0), .val (.int p1), .val (.int p2), .val (.int p3), .val (.int p4), .val (.int rm), .val (.int va), .val (.int vb), .val (.int vc), .val (.ref b153), .val (.int (0 : Int32)), .val (.int va), .val (.int vb), .unset, .unset] []))
    refine own_fwd (fun tt kt => XS.iload X157.here hx rfl (hb hby at_131) rfl kt) ?_
    show own_R p.tables e below P (T157.setTop (mkF m 133 #[.val (.int p0), .val (.int p1), .val (.int p2), .val (.int p3), .val (.int p4), .val (.int rm), .val (.int va), .val (.int vb), .val (.int vc), .val (.ref b153), .val (.int (0 : Int32)), .val (.int va), .val (.int vb), .unset, .unset] [(.int vc)]))
    refine own_fwd (fun tt kt => XS.istore X157.here hx rfl (hb hby at_133) rfl (l' := #[.val (.int p0), .val (.int p1), .val (.int p2), .val (.int p3), .val (.int p4), .val (.int rm), .val (.int va), .val (.int vb), .val (.int vc), .val (.ref b153), .val (.int (0 : Int32)), .val (.int va), .val (.int vb), .val (.int vc), .unset]) rfl kt) ?_
    show own_R p.tables e below P (T157.setTop (mkF m 135 #[.val (.int p0), .val (.int p1), .val (.int p2), .val (.int p3), .val (.int p4), .val (.int rm), .val (.int va), .val (.int vb), .val (.int vc), .val (.ref b153), .val (.int (0 : Int32)), .val (.int va), .val (.int vb), .val (.int vc), .unset] []))
    refine own_fwd (fun tt kt => XS.aload X157.here hx rfl (hb hby at_135) rfl rfl kt) ?_
    show own_R p.tables e below P (T157.setTop (mkF m 137 #[.val (.int p0), .val (.int p1), .val (.int p2), .val (.int p3), .val (.int p4), .val (.int rm), .val (.int va), .val (.int vb), .val (.int vc), .val (.ref b153), .val (.int (0 : Int32)), .val (.int va), .val (.int vb), .val (.int vc), .unset] [(.ref b153)]))
    refine own_fwd (fun tt kt => XS.iload X157.here hx rfl (hb hby at_137) rfl kt) ?_
    show own_R p.tables e below P (T157.setTop (mkF m 139 #[.val (.int p0), .val (.int p1), .val (.int p2), .val (.int p3), .val (.int p4), .val (.int rm), .val (.int va), .val (.int vb), .val (.int vc), .val (.ref b153), .val (.int (0 : Int32)), .val (.int va), .val (.int vb), .val (.int vc), .unset] [(.int va), (.ref b153)]))
    obtain ⟨cq161, kq161, q161a, q161b, q161c⟩ := isOf hZ e157 E157_
    obtain ⟨_, _, ⟨T161, L161, k161, n161⟩, -, X161, ⟨Lc161, hQ161, l161, y161, z161⟩, st161⟩ := X157.virtualBack hx (y := (⟨"com/example/ramp99/ramp99/service/replay/NumberSet", "remove", "(I)V"⟩ : MethodName)) (z := (⟨"com/example/ramp99/ramp99/service/replay/NumberSet", "remove", "(I)V"⟩ : MethodName)) hown (mvT hZ (hw _ (List.mem_of_getElem? (i := 22) rfl))) (mvT hZ (hw _ (List.mem_of_getElem? (i := 23) rfl))) (notFace_of_selects (args := #[]) (mvT hZ (hw _ (List.mem_of_getElem? (i := 25) rfl)))) (mvT hZ (hw _ (List.mem_of_getElem? (i := 25) rfl))) (mvT hZ (hw _ (List.mem_of_getElem? (i := 24) rfl))) (by decide) (backOf (W := 0) (own_rm4 l Z a0 hw [] b153 m3 h3_ ((((0 : Int32) + (1 : Int32)) + (1 : Int32)) + (1 : Int32)) f3 g3 M3 H3 S3 va na h157 n0 Z157 E157_ F157_1 F157_2 F157_3 A157_m A157_h E157_m E157_h ge_b153 gm3 gh3 nam3 nah3 nmh3 J3 bM3 hna (by rw [hS3, hS2, hS1]; simp)) hZ (hw _ (List.mem_of_getElem? (i := 26) rfl)) (hw _ (List.mem_of_getElem? (i := 2) rfl)) (by decide) (by decide)) q161a q161c (g := (mkF m 139 #[.val (.int p0), .val (.int p1), .val (.int p2), .val (.int p3), .val (.int p4), .val (.int rm), .val (.int va), .val (.int vb), .val (.int vc), .val (.ref b153), .val (.int (0 : Int32)), .val (.int va), .val (.int vb), .val (.int vc), .unset] [(.int va), (.ref b153)])) rfl (by rw [hml]; rfl) (Steps.refl _) (argsL := [(.int va)]) (rest := []) (lenOf own_pd3 rfl) rfl (by show 2 * 0 + _ ≤ _; exact Nat.le_of_eq rfl) (hb hby at_139) (fun _ _ => ⟨rfl, e157, (by decide : 9 + 0 ≤ _), (by decide : 2077 + 0 ≤ _)⟩)
    dsimp only [Pt.U, Pt.locs, Pt.cells, Pt.slots] at X161 l161 y161 z161 st161 hQ161
    rw [l161, (show k161 = 9 from y161), (show n161 = 2077 from z161)] at X161
    obtain ⟨h161, e161⟩ : ∃ z, T161.heap = z := ⟨_, rfl⟩
    rw [e161] at hQ161
    obtain ⟨hq161, N161q, K161, m4, h4_, M4, H4, f4, g4, gm4, gh4, nam4, nah4, nmh4, -, -, I4_, bM4, E161_, F161_1, F161_2, F161_3, A161_m, A161_h, E161_m, E161_h⟩ := hQ161
    rw [hq161] at st161
    have N161 := Fr.app N157 N161q
    obtain ⟨S4, hS4, J4⟩ : ∃ S' : Nat → Bool, (∀ k, S' k = (S3 k && !decide (k = na))) ∧ own_Inv M4 H4 f4 g4 S' := ⟨_, fun _ => rfl, I4_⟩
    rw [show (((((0 : Int32) + (1 : Int32)) + (1 : Int32)) + (1 : Int32)) - (1 : Int32)) = (2 : Int32) by decide] at F161_3
    have E157__x161 := E157_.keep K161
    have Z161 : n0 ≤ h161.size := Nat.le_trans Z157 K161.1
    have Y161 : h0.size ≤ h161.size := Nat.le_trans Y157 K161.1
    refine own_trn st161 ?_
    show own_R p.tables e below P (T161.setTop (mkF m 142 #[.val (.int p0), .val (.int p1), .val (.int p2), .val (.int p3), .val (.int p4), .val (.int rm), .val (.int va), .val (.int vb), .val (.int vc), .val (.ref b153), .val (.int (0 : Int32)), .val (.int va), .val (.int vb), .val (.int vc), .unset] []))
    have hAB : nb < nc := by omega
    have hS : ∀ k, S4 k = (decide (k = nb) || decide (k = nc)) := fun k => by rw [hS4, hS3, hS2, hS1, hS0]; exact own_S3 na nb nc na nb nc k (by omega) bnb bnc
    have inA : S4 nb = true := by rw [hS]; simp
    refine own_fwd (fun tt kt => XS.aload X161.here hx rfl (hb hby at_142) rfl rfl kt) ?_
    show own_R p.tables e below P (T161.setTop (mkF m 144 #[.val (.int p0), .val (.int p1), .val (.int p2), .val (.int p3), .val (.int p4), .val (.int rm), .val (.int va), .val (.int vb), .val (.int vc), .val (.ref b153), .val (.int (0 : Int32)), .val (.int va), .val (.int vb), .val (.int vc), .unset] [(.ref b153)]))
    obtain ⟨cq162, kq162, q162a, q162b, q162c⟩ := isOf hZ e161 E161_
    obtain ⟨_, _, ⟨T162, L162, k162, n162⟩, -, X162, ⟨Lc162, hQ162, l162, y162, z162⟩, st162⟩ := X161.virtualBack hx (y := (⟨"com/example/ramp99/ramp99/service/replay/NumberSet", "size", "()I"⟩ : MethodName)) (z := (⟨"com/example/ramp99/ramp99/service/replay/NumberSet", "size", "()I"⟩ : MethodName)) hown (mvT hZ (hw _ (List.mem_of_getElem? (i := 28) rfl))) (mvT hZ (hw _ (List.mem_of_getElem? (i := 29) rfl))) (notFace_of_selects (args := #[]) (mvT hZ (hw _ (List.mem_of_getElem? (i := 31) rfl)))) (mvT hZ (hw _ (List.mem_of_getElem? (i := 31) rfl))) (mvT hZ (hw _ (List.mem_of_getElem? (i := 30) rfl))) (by decide) (backOf (W := 0) (own_rm5 l Z a0 hw [] b153 (2 : Int32) h161 n0 Z161 F161_3) hZ (hw _ (List.mem_of_getElem? (i := 32) rfl)) (hw _ (List.mem_of_getElem? (i := 2) rfl)) (by decide) (by decide)) q162a q162c (g := (mkF m 144 #[.val (.int p0), .val (.int p1), .val (.int p2), .val (.int p3), .val (.int p4), .val (.int rm), .val (.int va), .val (.int vb), .val (.int vc), .val (.ref b153), .val (.int (0 : Int32)), .val (.int va), .val (.int vb), .val (.int vc), .unset] [(.ref b153)])) rfl (by rw [hml]; rfl) (Steps.refl _) (argsL := []) (rest := []) (lenOf own_pd4 rfl) rfl (by show 2 * 0 + _ ≤ _; exact Nat.le_of_eq rfl) (hb hby at_144) (fun _ _ => ⟨rfl, e161, (by decide : 9 + 0 ≤ _), (by decide : 2077 + 0 ≤ _)⟩)
    dsimp only [Pt.U, Pt.locs, Pt.cells, Pt.slots] at X162 l162 y162 z162 st162 hQ162
    rw [l162, (show k162 = 9 from y162), (show n162 = 2077 from z162)] at X162
    obtain ⟨h162, e162⟩ : ∃ z, T162.heap = z := ⟨_, rfl⟩
    rw [e162] at hQ162
    obtain ⟨hq162, N162q, q162⟩ := hQ162
    rw [q162] at e162
    rw [hq162] at st162
    have N162 := Fr.app N161 N162q
    refine own_trn st162 ?_
    show own_R p.tables e below P (T162.setTop (mkF m 147 #[.val (.int p0), .val (.int p1), .val (.int p2), .val (.int p3), .val (.int p4), .val (.int rm), .val (.int va), .val (.int vb), .val (.int vc), .val (.ref b153), .val (.int (0 : Int32)), .val (.int va), .val (.int vb), .val (.int vc), .unset] [(.int (2 : Int32))]))
    refine own_fwd (fun tt kt => XS.iconst X162.here hx rfl (hb hby at_147) kt) ?_
    show own_R p.tables e below P (T162.setTop (mkF m 148 #[.val (.int p0), .val (.int p1), .val (.int p2), .val (.int p3), .val (.int p4), .val (.int rm), .val (.int va), .val (.int vb), .val (.int vc), .val (.ref b153), .val (.int (0 : Int32)), .val (.int va), .val (.int vb), .val (.int vc), .unset] [(.int (2 : Int32)), (.int (2 : Int32))]))
    have hc163 : (2 : Int32) = (2 : Int32) := (by decide)
    refine own_fwd (fun tt kt => XS.icmpYes X162.here hx rfl (pc0 := 148) (pc' := 153) rfl (hb hby at_148) rfl (teq hc163).1 (by decide) (by decide) kt) ?_
    show own_R p.tables e below P (T162.setTop (mkF m 153 #[.val (.int p0), .val (.int p1), .val (.int p2), .val (.int p3), .val (.int p4), .val (.int rm), .val (.int va), .val (.int vb), .val (.int vc), .val (.ref b153), .val (.int (0 : Int32)), .val (.int va), .val (.int vb), .val (.int vc), .unset] []))
    refine own_fwd (fun tt kt => XS.aload X162.here hx rfl (hb hby at_153) rfl rfl kt) ?_
    show own_R p.tables e below P (T162.setTop (mkF m 155 #[.val (.int p0), .val (.int p1), .val (.int p2), .val (.int p3), .val (.int p4), .val (.int rm), .val (.int va), .val (.int vb), .val (.int vc), .val (.ref b153), .val (.int (0 : Int32)), .val (.int va), .val (.int vb), .val (.int vc), .unset] [(.ref b153)]))
    obtain ⟨cq164, kq164, q164a, q164b, q164c⟩ := isOf hZ e162 E161_
    obtain ⟨_, _, ⟨T164, L164, k164, n164⟩, -, X164, ⟨Lc164, hQ164, l164, y164, z164⟩, st164⟩ := X162.virtualBack hx (y := (⟨"com/example/ramp99/ramp99/service/replay/NumberSet", "lowest", "()I"⟩ : MethodName)) (z := (⟨"com/example/ramp99/ramp99/service/replay/NumberSet", "lowest", "()I"⟩ : MethodName)) hown (mvT hZ (hw _ (List.mem_of_getElem? (i := 33) rfl))) (mvT hZ (hw _ (List.mem_of_getElem? (i := 34) rfl))) (notFace_of_selects (args := #[]) (mvT hZ (hw _ (List.mem_of_getElem? (i := 36) rfl)))) (mvT hZ (hw _ (List.mem_of_getElem? (i := 36) rfl))) (mvT hZ (hw _ (List.mem_of_getElem? (i := 35) rfl))) (by decide) (backOf (W := 0) (own_rm6 l Z a0 hw [] b153 m4 h4_ (2 : Int32) f4 g4 M4 H4 S4 nb h161 n0 Z161 E161_ F161_1 F161_2 F161_3 A161_m A161_h E161_m E161_h ge_b153 gm4 gh4 nam4 nah4 nmh4 J4 bM4 inA) hZ (hw _ (List.mem_of_getElem? (i := 37) rfl)) (hw _ (List.mem_of_getElem? (i := 2) rfl)) (by decide) (by decide)) q164a q164c (g := (mkF m 155 #[.val (.int p0), .val (.int p1), .val (.int p2), .val (.int p3), .val (.int p4), .val (.int rm), .val (.int va), .val (.int vb), .val (.int vc), .val (.ref b153), .val (.int (0 : Int32)), .val (.int va), .val (.int vb), .val (.int vc), .unset] [(.ref b153)])) rfl (by rw [hml]; rfl) (Steps.refl _) (argsL := []) (rest := []) (lenOf own_pd4 rfl) rfl (by show 2 * 0 + _ ≤ _; exact Nat.le_of_eq rfl) (hb hby at_155) (fun _ _ => ⟨rfl, e162, (by decide : 9 + 0 ≤ _), (by decide : 2077 + 0 ≤ _)⟩)
    dsimp only [Pt.U, Pt.locs, Pt.cells, Pt.slots] at X164 l164 y164 z164 st164 hQ164
    rw [l164, (show k164 = 9 from y164), (show n164 = 2077 from z164)] at X164
    obtain ⟨h164, e164⟩ : ∃ z, T164.heap = z := ⟨_, rfl⟩
    rw [e164] at hQ164
    obtain ⟨rlo, zlo, hq164, hzlo, hrlo, hmlo, N164q, q164⟩ := hQ164
    rw [q164] at e164
    rw [hq164] at st164
    have N164 := Fr.app N162 N164q
    refine own_trn st164 ?_
    show own_R p.tables e below P (T164.setTop (mkF m 158 #[.val (.int p0), .val (.int p1), .val (.int p2), .val (.int p3), .val (.int p4), .val (.int rm), .val (.int va), .val (.int vb), .val (.int vc), .val (.ref b153), .val (.int (0 : Int32)), .val (.int va), .val (.int vb), .val (.int vc), .unset] [(.int zlo)]))
    refine own_fwd (fun tt kt => XS.iload X164.here hx rfl (hb hby at_158) rfl kt) ?_
    show own_R p.tables e below P (T164.setTop (mkF m 160 #[.val (.int p0), .val (.int p1), .val (.int p2), .val (.int p3), .val (.int p4), .val (.int rm), .val (.int va), .val (.int vb), .val (.int vc), .val (.ref b153), .val (.int (0 : Int32)), .val (.int va), .val (.int vb), .val (.int vc), .unset] [(.int vb), (.int zlo)]))
    have hc165 : zlo = vb := own_lowest hS hAB hrlo hmlo hzlo hnb
    refine own_fwd (fun tt kt => XS.icmpYes X164.here hx rfl (pc0 := 160) (pc' := 165) rfl (hb hby at_160) rfl (teq hc165).1 (by decide) (by decide) kt) ?_
    show own_R p.tables e below P (T164.setTop (mkF m 165 #[.val (.int p0), .val (.int p1), .val (.int p2), .val (.int p3), .val (.int p4), .val (.int rm), .val (.int va), .val (.int vb), .val (.int vc), .val (.ref b153), .val (.int (0 : Int32)), .val (.int va), .val (.int vb), .val (.int vc), .unset] []))
    refine own_fwd (fun tt kt => XS.aload X164.here hx rfl (hb hby at_165) rfl rfl kt) ?_
    show own_R p.tables e below P (T164.setTop (mkF m 167 #[.val (.int p0), .val (.int p1), .val (.int p2), .val (.int p3), .val (.int p4), .val (.int rm), .val (.int va), .val (.int vb), .val (.int vc), .val (.ref b153), .val (.int (0 : Int32)), .val (.int va), .val (.int vb), .val (.int vc), .unset] [(.ref b153)]))
    obtain ⟨cq166, kq166, q166a, q166b, q166c⟩ := isOf hZ e164 E161_
    obtain ⟨_, _, ⟨T166, L166, k166, n166⟩, -, X166, ⟨Lc166, hQ166, l166, y166, z166⟩, st166⟩ := X164.virtualBack hx (y := (⟨"com/example/ramp99/ramp99/service/replay/NumberSet", "highest", "()I"⟩ : MethodName)) (z := (⟨"com/example/ramp99/ramp99/service/replay/NumberSet", "highest", "()I"⟩ : MethodName)) hown (mvT hZ (hw _ (List.mem_of_getElem? (i := 47) rfl))) (mvT hZ (hw _ (List.mem_of_getElem? (i := 48) rfl))) (notFace_of_selects (args := #[]) (mvT hZ (hw _ (List.mem_of_getElem? (i := 50) rfl)))) (mvT hZ (hw _ (List.mem_of_getElem? (i := 50) rfl))) (mvT hZ (hw _ (List.mem_of_getElem? (i := 49) rfl))) (by decide) (backOf (W := 0) (own_rm9 l Z a0 hw [] b153 m4 h4_ (2 : Int32) f4 g4 M4 H4 S4 nb h161 n0 Z161 E161_ F161_1 F161_2 F161_3 A161_m A161_h E161_m E161_h ge_b153 gm4 gh4 nam4 nah4 nmh4 J4 bM4 inA) hZ (hw _ (List.mem_of_getElem? (i := 51) rfl)) (hw _ (List.mem_of_getElem? (i := 2) rfl)) (by decide) (by decide)) q166a q166c (g := (mkF m 167 #[.val (.int p0), .val (.int p1), .val (.int p2), .val (.int p3), .val (.int p4), .val (.int rm), .val (.int va), .val (.int vb), .val (.int vc), .val (.ref b153), .val (.int (0 : Int32)), .val (.int va), .val (.int vb), .val (.int vc), .unset] [(.ref b153)])) rfl (by rw [hml]; rfl) (Steps.refl _) (argsL := []) (rest := []) (lenOf own_pd4 rfl) rfl (by show 2 * 0 + _ ≤ _; exact Nat.le_of_eq rfl) (hb hby at_167) (fun _ _ => ⟨rfl, e164, (by decide : 9 + 0 ≤ _), (by decide : 2077 + 0 ≤ _)⟩)
    dsimp only [Pt.U, Pt.locs, Pt.cells, Pt.slots] at X166 l166 y166 z166 st166 hQ166
    rw [l166, (show k166 = 9 from y166), (show n166 = 2077 from z166)] at X166
    obtain ⟨h166, e166⟩ : ∃ z, T166.heap = z := ⟨_, rfl⟩
    rw [e166] at hQ166
    obtain ⟨rhi, zhi, hq166, hzhi, hrhi, hmhi, N166q, q166⟩ := hQ166
    rw [q166] at e166
    rw [hq166] at st166
    have N166 := Fr.app N164 N166q
    refine own_trn st166 ?_
    show own_R p.tables e below P (T166.setTop (mkF m 170 #[.val (.int p0), .val (.int p1), .val (.int p2), .val (.int p3), .val (.int p4), .val (.int rm), .val (.int va), .val (.int vb), .val (.int vc), .val (.ref b153), .val (.int (0 : Int32)), .val (.int va), .val (.int vb), .val (.int vc), .unset] [(.int zhi)]))
    refine own_fwd (fun tt kt => XS.iload X166.here hx rfl (hb hby at_170) rfl kt) ?_
    show own_R p.tables e below P (T166.setTop (mkF m 172 #[.val (.int p0), .val (.int p1), .val (.int p2), .val (.int p3), .val (.int p4), .val (.int rm), .val (.int va), .val (.int vb), .val (.int vc), .val (.ref b153), .val (.int (0 : Int32)), .val (.int va), .val (.int vb), .val (.int vc), .unset] [(.int vc), (.int zhi)]))
    have hc167 : zhi = vc := own_highest hS hAB hrhi hmhi hzhi hnc
    refine own_fwd (fun tt kt => XS.icmpYes X166.here hx rfl (pc0 := 172) (pc' := 177) rfl (hb hby at_172) rfl (teq hc167).1 (by decide) (by decide) kt) ?_
    show own_R p.tables e below P (T166.setTop (mkF m 177 #[.val (.int p0), .val (.int p1), .val (.int p2), .val (.int p3), .val (.int p4), .val (.int rm), .val (.int va), .val (.int vb), .val (.int vc), .val (.ref b153), .val (.int (0 : Int32)), .val (.int va), .val (.int vb), .val (.int vc), .unset] []))
    refine own_fwd (fun tt kt => XS.aload X166.here hx rfl (hb hby at_177) rfl rfl kt) ?_
    show own_R p.tables e below P (T166.setTop (mkF m 179 #[.val (.int p0), .val (.int p1), .val (.int p2), .val (.int p3), .val (.int p4), .val (.int rm), .val (.int va), .val (.int vb), .val (.int vc), .val (.ref b153), .val (.int (0 : Int32)), .val (.int va), .val (.int vb), .val (.int vc), .unset] [(.ref b153)]))
    obtain ⟨cq168, kq168, q168a, q168b, q168c⟩ := isOf hZ e166 E161_
    obtain ⟨_, _, ⟨T168, L168, k168, n168⟩, -, X168, ⟨Lc168, hQ168, l168, y168, z168⟩, st168⟩ := X166.virtualBack hx (y := (⟨"com/example/ramp99/ramp99/service/replay/NumberSet", "toArray", "()[I"⟩ : MethodName)) (z := (⟨"com/example/ramp99/ramp99/service/replay/NumberSet", "toArray", "()[I"⟩ : MethodName)) hown (mvT hZ (hw _ (List.mem_of_getElem? (i := 58) rfl))) (mvT hZ (hw _ (List.mem_of_getElem? (i := 59) rfl))) (notFace_of_selects (args := #[]) (mvT hZ (hw _ (List.mem_of_getElem? (i := 61) rfl)))) (mvT hZ (hw _ (List.mem_of_getElem? (i := 61) rfl))) (mvT hZ (hw _ (List.mem_of_getElem? (i := 60) rfl))) (by decide) (backOf (W := 0) (own_rm12 l Z a0 hw [] b153 m4 h4_ f4 g4 M4 H4 S4 nb nc h161 n0 Z161 E161_ F161_1 F161_2 F161_3 A161_m A161_h E161_m E161_h ge_b153 gm4 gh4 nam4 nah4 nmh4 J4 bM4 hAB hS) hZ (hw _ (List.mem_of_getElem? (i := 62) rfl)) (hw _ (List.mem_of_getElem? (i := 2) rfl)) (by decide) (by decide)) q168a q168c (g := (mkF m 179 #[.val (.int p0), .val (.int p1), .val (.int p2), .val (.int p3), .val (.int p4), .val (.int rm), .val (.int va), .val (.int vb), .val (.int vc), .val (.ref b153), .val (.int (0 : Int32)), .val (.int va), .val (.int vb), .val (.int vc), .unset] [(.ref b153)])) rfl (by rw [hml]; rfl) (Steps.refl _) (argsL := []) (rest := []) (lenOf own_pd5 rfl) rfl (by show 2 * 0 + _ ≤ _; exact Nat.le_of_eq rfl) (hb hby at_179) (fun _ _ => ⟨rfl, e166, (by decide : 9 + 1 ≤ _), (by decide : 2077 + 2 ≤ _)⟩)
    dsimp only [Pt.U, Pt.locs, Pt.cells, Pt.slots] at X168 l168 y168 z168 st168 hQ168
    rw [l168, (show k168 = 10 from y168), (show n168 = 2079 from z168)] at X168
    obtain ⟨h168, e168⟩ : ∃ z, T168.heap = z := ⟨_, rfl⟩
    rw [e168] at hQ168
    obtain ⟨bT, gT, hq168, N168q, geT, szT, K168, A168_, g0, g1⟩ := hQ168
    rw [hq168] at st168
    have N168 := Fr.app N166 N168q
    have Z168 : n0 ≤ h168.size := Nat.le_trans Z161 K168.1
    have Y168 : h0.size ≤ h168.size := Nat.le_trans Y161 K168.1
    refine own_trn st168 ?_
    show own_R p.tables e below P (T168.setTop (mkF m 182 #[.val (.int p0), .val (.int p1), .val (.int p2), .val (.int p3), .val (.int p4), .val (.int rm), .val (.int va), .val (.int vb), .val (.int vc), .val (.ref b153), .val (.int (0 : Int32)), .val (.int va), .val (.int vb), .val (.int vc), .unset] [(.ref bT)]))
    refine own_fwd (fun tt kt => XS.astore X168.here hx rfl (hb hby at_182) rfl rfl (l' := #[.val (.int p0), .val (.int p1), .val (.int p2), .val (.int p3), .val (.int p4), .val (.int rm), .val (.int va), .val (.int vb), .val (.int vc), .val (.ref b153), .val (.int (0 : Int32)), .val (.int va), .val (.int vb), .val (.int vc), .val (.ref bT)]) rfl kt) ?_
    show own_R p.tables e below P (T168.setTop (mkF m 184 #[.val (.int p0), .val (.int p1), .val (.int p2), .val (.int p3), .val (.int p4), .val (.int rm), .val (.int va), .val (.int vb), .val (.int vc), .val (.ref b153), .val (.int (0 : Int32)), .val (.int va), .val (.int vb), .val (.int vc), .val (.ref bT)] []))
    refine own_fwd (fun tt kt => XS.aload X168.here hx rfl (hb hby at_184) rfl rfl kt) ?_
    show own_R p.tables e below P (T168.setTop (mkF m 186 #[.val (.int p0), .val (.int p1), .val (.int p2), .val (.int p3), .val (.int p4), .val (.int rm), .val (.int va), .val (.int vb), .val (.int vc), .val (.ref b153), .val (.int (0 : Int32)), .val (.int va), .val (.int vb), .val (.int vc), .val (.ref bT)] [(.ref bT)]))
    refine own_fwd (own_len X168 hx hZ e168 A168_ (2 : Int32) (by decide) (g := (mkF m 186 #[.val (.int p0), .val (.int p1), .val (.int p2), .val (.int p3), .val (.int p4), .val (.int rm), .val (.int va), .val (.int vb), .val (.int vc), .val (.ref b153), .val (.int (0 : Int32)), .val (.int va), .val (.int vb), .val (.int vc), .val (.ref bT)] [(.ref bT)])) rfl rfl (hb hby at_186)) ?_
    show own_R p.tables e below P (T168.setTop (mkF m 187 #[.val (.int p0), .val (.int p1), .val (.int p2), .val (.int p3), .val (.int p4), .val (.int rm), .val (.int va), .val (.int vb), .val (.int vc), .val (.ref b153), .val (.int (0 : Int32)), .val (.int va), .val (.int vb), .val (.int vc), .val (.ref bT)] [(.int (2 : Int32))]))
    refine own_fwd (fun tt kt => XS.iconst X168.here hx rfl (hb hby at_187) kt) ?_
    show own_R p.tables e below P (T168.setTop (mkF m 188 #[.val (.int p0), .val (.int p1), .val (.int p2), .val (.int p3), .val (.int p4), .val (.int rm), .val (.int va), .val (.int vb), .val (.int vc), .val (.ref b153), .val (.int (0 : Int32)), .val (.int va), .val (.int vb), .val (.int vc), .val (.ref bT)] [(.int (2 : Int32)), (.int (2 : Int32))]))
    have hc169 : (2 : Int32) = (2 : Int32) := (by decide)
    refine own_fwd (fun tt kt => XS.icmpNo X168.here hx rfl (hb hby at_188) rfl (teq hc169).2 kt) ?_
    show own_R p.tables e below P (T168.setTop (mkF m 191 #[.val (.int p0), .val (.int p1), .val (.int p2), .val (.int p3), .val (.int p4), .val (.int rm), .val (.int va), .val (.int vb), .val (.int vc), .val (.ref b153), .val (.int (0 : Int32)), .val (.int va), .val (.int vb), .val (.int vc), .val (.ref bT)] []))
    refine own_fwd (fun tt kt => XS.aload X168.here hx rfl (hb hby at_191) rfl rfl kt) ?_
    show own_R p.tables e below P (T168.setTop (mkF m 193 #[.val (.int p0), .val (.int p1), .val (.int p2), .val (.int p3), .val (.int p4), .val (.int rm), .val (.int va), .val (.int vb), .val (.int vc), .val (.ref b153), .val (.int (0 : Int32)), .val (.int va), .val (.int vb), .val (.int vc), .val (.ref bT)] [(.ref bT)]))
    refine own_fwd (fun tt kt => XS.iconst X168.here hx rfl (hb hby at_193) kt) ?_
    show own_R p.tables e below P (T168.setTop (mkF m 194 #[.val (.int p0), .val (.int p1), .val (.int p2), .val (.int p3), .val (.int p4), .val (.int rm), .val (.int va), .val (.int vb), .val (.int vc), .val (.ref b153), .val (.int (0 : Int32)), .val (.int va), .val (.int vb), .val (.int vc), .val (.ref bT)] [(.int (0 : Int32)), (.ref bT)]))
    refine own_fwd (own_ldI X168 hx hZ e168 A168_ (j := (0 : Int32)) 0 (by decide) (by decide) (g := (mkF m 194 #[.val (.int p0), .val (.int p1), .val (.int p2), .val (.int p3), .val (.int p4), .val (.int rm), .val (.int va), .val (.int vb), .val (.int vc), .val (.ref b153), .val (.int (0 : Int32)), .val (.int va), .val (.int vb), .val (.int vc), .val (.ref bT)] [(.int (0 : Int32)), (.ref bT)])) rfl rfl (hb hby at_194)) ?_
    show own_R p.tables e below P (T168.setTop (mkF m 195 #[.val (.int p0), .val (.int p1), .val (.int p2), .val (.int p3), .val (.int p4), .val (.int rm), .val (.int va), .val (.int vb), .val (.int vc), .val (.ref b153), .val (.int (0 : Int32)), .val (.int va), .val (.int vb), .val (.int vc), .val (.ref bT)] [(.int (gT 0))]))
    refine own_fwd (fun tt kt => XS.iload X168.here hx rfl (hb hby at_195) rfl kt) ?_
    show own_R p.tables e below P (T168.setTop (mkF m 197 #[.val (.int p0), .val (.int p1), .val (.int p2), .val (.int p3), .val (.int p4), .val (.int rm), .val (.int va), .val (.int vb), .val (.int vc), .val (.ref b153), .val (.int (0 : Int32)), .val (.int va), .val (.int vb), .val (.int vc), .val (.ref bT)] [(.int vb), (.int (gT 0))]))
    have hc170 : (gT 0) = vb := Int32.toInt_inj.mp (g0.trans hnb.symm)
    refine own_fwd (fun tt kt => XS.icmpNo X168.here hx rfl (hb hby at_197) rfl (teq hc170).2 kt) ?_
    show own_R p.tables e below P (T168.setTop (mkF m 200 #[.val (.int p0), .val (.int p1), .val (.int p2), .val (.int p3), .val (.int p4), .val (.int rm), .val (.int va), .val (.int vb), .val (.int vc), .val (.ref b153), .val (.int (0 : Int32)), .val (.int va), .val (.int vb), .val (.int vc), .val (.ref bT)] []))
    refine own_fwd (fun tt kt => XS.aload X168.here hx rfl (hb hby at_200) rfl rfl kt) ?_
    show own_R p.tables e below P (T168.setTop (mkF m 202 #[.val (.int p0), .val (.int p1), .val (.int p2), .val (.int p3), .val (.int p4), .val (.int rm), .val (.int va), .val (.int vb), .val (.int vc), .val (.ref b153), .val (.int (0 : Int32)), .val (.int va), .val (.int vb), .val (.int vc), .val (.ref bT)] [(.ref bT)]))
    refine own_fwd (fun tt kt => XS.iconst X168.here hx rfl (hb hby at_202) kt) ?_
    show own_R p.tables e below P (T168.setTop (mkF m 203 #[.val (.int p0), .val (.int p1), .val (.int p2), .val (.int p3), .val (.int p4), .val (.int rm), .val (.int va), .val (.int vb), .val (.int vc), .val (.ref b153), .val (.int (0 : Int32)), .val (.int va), .val (.int vb), .val (.int vc), .val (.ref bT)] [(.int (1 : Int32)), (.ref bT)]))
    refine own_fwd (own_ldI X168 hx hZ e168 A168_ (j := (1 : Int32)) 1 (by decide) (by decide) (g := (mkF m 203 #[.val (.int p0), .val (.int p1), .val (.int p2), .val (.int p3), .val (.int p4), .val (.int rm), .val (.int va), .val (.int vb), .val (.int vc), .val (.ref b153), .val (.int (0 : Int32)), .val (.int va), .val (.int vb), .val (.int vc), .val (.ref bT)] [(.int (1 : Int32)), (.ref bT)])) rfl rfl (hb hby at_203)) ?_
    show own_R p.tables e below P (T168.setTop (mkF m 204 #[.val (.int p0), .val (.int p1), .val (.int p2), .val (.int p3), .val (.int p4), .val (.int rm), .val (.int va), .val (.int vb), .val (.int vc), .val (.ref b153), .val (.int (0 : Int32)), .val (.int va), .val (.int vb), .val (.int vc), .val (.ref bT)] [(.int (gT 1))]))
    refine own_fwd (fun tt kt => XS.iload X168.here hx rfl (hb hby at_204) rfl kt) ?_
    show own_R p.tables e below P (T168.setTop (mkF m 206 #[.val (.int p0), .val (.int p1), .val (.int p2), .val (.int p3), .val (.int p4), .val (.int rm), .val (.int va), .val (.int vb), .val (.int vc), .val (.ref b153), .val (.int (0 : Int32)), .val (.int va), .val (.int vb), .val (.int vc), .val (.ref bT)] [(.int vc), (.int (gT 1))]))
    have hc171 : (gT 1) = vc := Int32.toInt_inj.mp (g1.trans hnc.symm)
    refine own_fwd (fun tt kt => XS.icmpNo X168.here hx rfl (hb hby at_206) rfl (teq hc171).2 kt) ?_
    show own_R p.tables e below P (T168.setTop (mkF m 209 #[.val (.int p0), .val (.int p1), .val (.int p2), .val (.int p3), .val (.int p4), .val (.int rm), .val (.int va), .val (.int vb), .val (.int vc), .val (.ref b153), .val (.int (0 : Int32)), .val (.int va), .val (.int vb), .val (.int vc), .val (.ref bT)] []))
    refine own_fwd (fun tt kt => XS.iconst X168.here hx rfl (hb hby at_209) kt) ?_
    show own_R p.tables e below P (T168.setTop (mkF m 210 #[.val (.int p0), .val (.int p1), .val (.int p2), .val (.int p3), .val (.int p4), .val (.int rm), .val (.int va), .val (.int vb), .val (.int vc), .val (.ref b153), .val (.int (0 : Int32)), .val (.int va), .val (.int vb), .val (.int vc), .val (.ref bT)] [(.int (1 : Int32))]))
    refine own_fwd (fun tt kt => XS.goto X168.here hx rfl (pc0 := 210) (pc' := 214) rfl (hb hby at_210) (by decide) (by decide) kt) ?_
    show own_R p.tables e below P (T168.setTop (mkF m 214 #[.val (.int p0), .val (.int p1), .val (.int p2), .val (.int p3), .val (.int p4), .val (.int rm), .val (.int va), .val (.int vb), .val (.int vc), .val (.ref b153), .val (.int (0 : Int32)), .val (.int va), .val (.int vb), .val (.int vc), .val (.ref bT)] [(.int (1 : Int32))]))
    obtain ⟨fs172, hr172, hrun172, hended172, hW172, hsame172⟩ := X168.leave (v := some (.int (1 : Int32))) (fun h => by rw [Bd.returns] at h; cases h)
    refine ⟨_, _, X168.ireturnOut hx (w := (1 : Int32)) Bd.returns rfl (by simp) (hb hby at_214) hr172, fin _ _ ⟨hrun172, hended172, _, _, rfl, ?_, ⟨_, rfl⟩, hW172, hsame172.mono (by decide) (by decide)⟩⟩
    show own_Qlaw Z p0 p1 p2 p3 p4 h0 n0 _ T168.heap _
    rw [e168]
    exact ⟨rfl, N168⟩
  · rw [hs]
    show own_R p.tables e below P (T157.setTop (mkF m 79 #[.val (.int p0), .val (.int p1), .val (.int p2), .val (.int p3), .val (.int p4), .val (.int rm), .val (.int va), .val (.int vb), .val (.int vc), .val (.ref b153), .unset, .unset, .unset, .unset, .unset] [(.int (1 : Int32))]))
    refine own_fwd (fun tt kt => XS.istore X157.here hx rfl (hb hby at_79) rfl (l' := #[.val (.int p0), .val (.int p1), .val (.int p2), .val (.int p3), .val (.int p4), .val (.int rm), .val (.int va), .val (.int vb), .val (.int vc), .val (.ref b153), .val (.int (1 : Int32)), .unset, .unset, .unset, .unset]) rfl kt) ?_
    show own_R p.tables e below P (T157.setTop (mkF m 81 #[.val (.int p0), .val (.int p1), .val (.int p2), .val (.int p3), .val (.int p4), .val (.int rm), .val (.int va), .val (.int vb), .val (.int vc), .val (.ref b153), .val (.int (1 : Int32)), .unset, .unset, .unset, .unset] []))
    refine own_fwd (fun tt kt => XS.iload X157.here hx rfl (hb hby at_81) rfl kt) ?_
    show own_R p.tables e below P (T157.setTop (mkF m 83 #[.val (.int p0), .val (.int p1), .val (.int p2), .val (.int p3), .val (.int p4), .val (.int rm), .val (.int va), .val (.int vb), .val (.int vc), .val (.ref b153), .val (.int (1 : Int32)), .unset, .unset, .unset, .unset] [(.int (1 : Int32))]))
    have hc173 : ¬ ((1 : Int32) = (0 : Int32)) := (by decide)
    refine own_fwd (fun tt kt => XS.ifYes X157.here hx rfl (pc0 := 83) (pc' := 91) rfl (hb hby at_83) rfl ((if0 _ _).trans (feq hc173).2) (by decide) (by decide) kt) ?_
    show own_R p.tables e below P (T157.setTop (mkF m 91 #[.val (.int p0), .val (.int p1), .val (.int p2), .val (.int p3), .val (.int p4), .val (.int rm), .val (.int va), .val (.int vb), .val (.int vc), .val (.ref b153), .val (.int (1 : Int32)), .unset, .unset, .unset, .unset] []))
    refine own_fwd (fun tt kt => XS.iload X157.here hx rfl (hb hby at_91) rfl kt) ?_
    show own_R p.tables e below P (T157.setTop (mkF m 93 #[.val (.int p0), .val (.int p1), .val (.int p2), .val (.int p3), .val (.int p4), .val (.int rm), .val (.int va), .val (.int vb), .val (.int vc), .val (.ref b153), .val (.int (1 : Int32)), .unset, .unset, .unset, .unset] [(.int (1 : Int32))]))
    refine own_fwd (fun tt kt => XS.iconst X157.here hx rfl (hb hby at_93) kt) ?_
    show own_R p.tables e below P (T157.setTop (mkF m 94 #[.val (.int p0), .val (.int p1), .val (.int p2), .val (.int p3), .val (.int p4), .val (.int rm), .val (.int va), .val (.int vb), .val (.int vc), .val (.ref b153), .val (.int (1 : Int32)), .unset, .unset, .unset, .unset] [(.int (1 : Int32)), (.int (1 : Int32))]))
    have hc174 : (1 : Int32) = (1 : Int32) := (by decide)
    refine own_fwd (fun tt kt => XS.icmpNo X157.here hx rfl (hb hby at_94) rfl (teq hc174).2 kt) ?_
    show own_R p.tables e below P (T157.setTop (mkF m 97 #[.val (.int p0), .val (.int p1), .val (.int p2), .val (.int p3), .val (.int p4), .val (.int rm), .val (.int va), .val (.int vb), .val (.int vc), .val (.ref b153), .val (.int (1 : Int32)), .unset, .unset, .unset, .unset] []))
    refine own_fwd (fun tt kt => XS.iload X157.here hx rfl (hb hby at_97) rfl kt) ?_
    show own_R p.tables e below P (T157.setTop (mkF m 99 #[.val (.int p0), .val (.int p1), .val (.int p2), .val (.int p3), .val (.int p4), .val (.int rm), .val (.int va), .val (.int vb), .val (.int vc), .val (.ref b153), .val (.int (1 : Int32)), .unset, .unset, .unset, .unset] [(.int vb)]))
    refine own_fwd (fun tt kt => XS.goto X157.here hx rfl (pc0 := 99) (pc' := 104) rfl (hb hby at_99) (by decide) (by decide) kt) ?_
    show own_R p.tables e below P (T157.setTop (mkF m 104 #[.val (.int p0), .val (.int p1), .val (.int p2), .val (.int p3), .val (.int p4), .val (.int rm), .val (.int va), .val (.int vb), .val (.int vc), .val (.ref b153), .val (.int (1 : Int32)), .unset, .unset, .unset, .unset] [(.int vb)]))
    refine own_fwd (fun tt kt => XS.istore X157.here hx rfl (hb hby at_104) rfl (l' := #[.val (.int p0), .val (.int p1), .val (.int p2), .val (.int p3), .val (.int p4), .val (.int rm), .val (.int va), .val (.int vb), .val (.int vc), .val (.ref b153), .val (.int (1 : Int32)), .val (.int vb), .unset, .unset, .unset]) rfl kt) ?_
    show own_R p.tables e below P (T157.setTop (mkF m 106 #[.val (.int p0), .val (.int p1), .val (.int p2), .val (.int p3), .val (.int p4), .val (.int rm), .val (.int va), .val (.int vb), .val (.int vc), .val (.ref b153), .val (.int (1 : Int32)), .val (.int vb), .unset, .unset, .unset] []))
    refine own_fwd (fun tt kt => XS.iload X157.here hx rfl (hb hby at_106) rfl kt) ?_
    show own_R p.tables e below P (T157.setTop (mkF m 108 #[.val (.int p0), .val (.int p1), .val (.int p2), .val (.int p3), .val (.int p4), .val (.int rm), .val (.int va), .val (.int vb), .val (.int vc), .val (.ref b153), .val (.int (1 : Int32)), .val (.int vb), .unset, .unset, .unset] [(.int (1 : Int32))]))
    have hc175 : ¬ ((1 : Int32) = (0 : Int32)) := (by decide)
    refine own_fwd (fun tt kt => XS.ifYes X157.here hx rfl (pc0 := 108) (pc' := 116) rfl (hb hby at_108) rfl ((if0 _ _).trans (feq hc175).2) (by decide) (by decide) kt) ?_
    show own_R p.tables e below P (T157.setTop (mkF m 116 #[.val (.int p0), .val (.int p1), .val (.int p2), .val (.int p3), .val (.int p4), .val (.int rm), .val (.int va), .val (.int vb), .val (.int vc), .val (.ref b153), .val (.int (1 : Int32)), .val (.int vb), .unset, .unset, .unset] []))
    refine own_fwd (fun tt kt => XS.iload X157.here hx rfl (hb hby at_116) rfl kt) ?_
    show own_R p.tables e below P (T157.setTop (mkF m 118 #[.val (.int p0), .val (.int p1), .val (.int p2), .val (.int p3), .val (.int p4), .val (.int rm), .val (.int va), .val (.int vb), .val (.int vc), .val (.ref b153), .val (.int (1 : Int32)), .val (.int vb), .unset, .unset, .unset] [(.int va)]))
    refine own_fwd (fun tt kt => XS.istore X157.here hx rfl (hb hby at_118) rfl (l' := #[.val (.int p0), .val (.int p1), .val (.int p2), .val (.int p3), .val (.int p4), .val (.int rm), .val (.int va), .val (.int vb), .val (.int vc), .val (.ref b153), .val (.int (1 : Int32)), .val (.int vb), .val (.int va), .unset, .unset]) rfl kt) ?_
    show own_R p.tables e below P (T157.setTop (mkF m 120 #[.val (.int p0), .val (.int p1), .val (.int p2), .val (.int p3), .val (.int p4), .val (.int rm), .val (.int va), .val (.int vb), .val (.int vc), .val (.ref b153), .val (.int (1 : Int32)), .val (.int vb), .val (.int va), .unset, .unset] []))
    refine own_fwd (fun tt kt => XS.iload X157.here hx rfl (hb hby at_120) rfl kt) ?_
    show own_R p.tables e below P (T157.setTop (mkF m 122 #[.val (.int p0), .val (.int p1), .val (.int p2), .val (.int p3), .val (.int p4), .val (.int rm), .val (.int va), .val (.int vb), .val (.int vc), .val (.ref b153), .val (.int (1 : Int32)), .val (.int vb), .val (.int va), .unset, .unset] [(.int (1 : Int32))]))
    refine own_fwd (fun tt kt => XS.iconst X157.here hx rfl (hb hby at_122) kt) ?_
    show own_R p.tables e below P (T157.setTop (mkF m 123 #[.val (.int p0), .val (.int p1), .val (.int p2), .val (.int p3), .val (.int p4), .val (.int rm), .val (.int va), .val (.int vb), .val (.int vc), .val (.ref b153), .val (.int (1 : Int32)), .val (.int vb), .val (.int va), .unset, .unset] [(.int (2 : Int32)), (.int (1 : Int32))]))
    have hc176 : ¬ ((1 : Int32) = (2 : Int32)) := (by decide)
    refine own_fwd (fun tt kt => XS.icmpYes X157.here hx rfl (pc0 := 123) (pc' := 131) rfl (hb hby at_123) rfl (feq hc176).2 (by decide) (by decide) kt) ?_
    show own_R p.tables e below P (T157.setTop (mkF m 131 #[.val (.int p0), .val (.int p1), .val (.int p2), .val (.int p3), .val (.int p4), .val (.int rm), .val (.int va), .val (.int vb), .val (.int vc), .val (.ref b153), .val (.int (1 : Int32)), .val (.int vb), .val (.int va), .unset, .unset] []))
    refine own_fwd (fun tt kt => XS.iload X157.here hx rfl (hb hby at_131) rfl kt) ?_
    show own_R p.tables e below P (T157.setTop (mkF m 133 #[.val (.int p0), .val (.int p1), .val (.int p2), .val (.int p3), .val (.int p4), .val (.int rm), .val (.int va), .val (.int vb), .val (.int vc), .val (.ref b153), .val (.int (1 : Int32)), .val (.int vb), .val (.int va), .unset, .unset] [(.int vc)]))
    refine own_fwd (fun tt kt => XS.istore X157.here hx rfl (hb hby at_133) rfl (l' := #[.val (.int p0), .val (.int p1), .val (.int p2), .val (.int p3), .val (.int p4), .val (.int rm), .val (.int va), .val (.int vb), .val (.int vc), .val (.ref b153), .val (.int (1 : Int32)), .val (.int vb), .val (.int va), .val (.int vc), .unset]) rfl kt) ?_
    show own_R p.tables e below P (T157.setTop (mkF m 135 #[.val (.int p0), .val (.int p1), .val (.int p2), .val (.int p3), .val (.int p4), .val (.int rm), .val (.int va), .val (.int vb), .val (.int vc), .val (.ref b153), .val (.int (1 : Int32)), .val (.int vb), .val (.int va), .val (.int vc), .unset] []))
    refine own_fwd (fun tt kt => XS.aload X157.here hx rfl (hb hby at_135) rfl rfl kt) ?_
    show own_R p.tables e below P (T157.setTop (mkF m 137 #[.val (.int p0), .val (.int p1), .val (.int p2), .val (.int p3), .val (.int p4), .val (.int rm), .val (.int va), .val (.int vb), .val (.int vc), .val (.ref b153), .val (.int (1 : Int32)), .val (.int vb), .val (.int va), .val (.int vc), .unset] [(.ref b153)]))
    refine own_fwd (fun tt kt => XS.iload X157.here hx rfl (hb hby at_137) rfl kt) ?_
    show own_R p.tables e below P (T157.setTop (mkF m 139 #[.val (.int p0), .val (.int p1), .val (.int p2), .val (.int p3), .val (.int p4), .val (.int rm), .val (.int va), .val (.int vb), .val (.int vc), .val (.ref b153), .val (.int (1 : Int32)), .val (.int vb), .val (.int va), .val (.int vc), .unset] [(.int vb), (.ref b153)]))
    obtain ⟨cq177, kq177, q177a, q177b, q177c⟩ := isOf hZ e157 E157_
    obtain ⟨_, _, ⟨T177, L177, k177, n177⟩, -, X177, ⟨Lc177, hQ177, l177, y177, z177⟩, st177⟩ := X157.virtualBack hx (y := (⟨"com/example/ramp99/ramp99/service/replay/NumberSet", "remove", "(I)V"⟩ : MethodName)) (z := (⟨"com/example/ramp99/ramp99/service/replay/NumberSet", "remove", "(I)V"⟩ : MethodName)) hown (mvT hZ (hw _ (List.mem_of_getElem? (i := 22) rfl))) (mvT hZ (hw _ (List.mem_of_getElem? (i := 23) rfl))) (notFace_of_selects (args := #[]) (mvT hZ (hw _ (List.mem_of_getElem? (i := 25) rfl)))) (mvT hZ (hw _ (List.mem_of_getElem? (i := 25) rfl))) (mvT hZ (hw _ (List.mem_of_getElem? (i := 24) rfl))) (by decide) (backOf (W := 0) (own_rm4 l Z a0 hw [] b153 m3 h3_ ((((0 : Int32) + (1 : Int32)) + (1 : Int32)) + (1 : Int32)) f3 g3 M3 H3 S3 vb nb h157 n0 Z157 E157_ F157_1 F157_2 F157_3 A157_m A157_h E157_m E157_h ge_b153 gm3 gh3 nam3 nah3 nmh3 J3 bM3 hnb (by rw [hS3, hS2, hS1]; simp)) hZ (hw _ (List.mem_of_getElem? (i := 26) rfl)) (hw _ (List.mem_of_getElem? (i := 2) rfl)) (by decide) (by decide)) q177a q177c (g := (mkF m 139 #[.val (.int p0), .val (.int p1), .val (.int p2), .val (.int p3), .val (.int p4), .val (.int rm), .val (.int va), .val (.int vb), .val (.int vc), .val (.ref b153), .val (.int (1 : Int32)), .val (.int vb), .val (.int va), .val (.int vc), .unset] [(.int vb), (.ref b153)])) rfl (by rw [hml]; rfl) (Steps.refl _) (argsL := [(.int vb)]) (rest := []) (lenOf own_pd3 rfl) rfl (by show 2 * 0 + _ ≤ _; exact Nat.le_of_eq rfl) (hb hby at_139) (fun _ _ => ⟨rfl, e157, (by decide : 9 + 0 ≤ _), (by decide : 2077 + 0 ≤ _)⟩)
    dsimp only [Pt.U, Pt.locs, Pt.cells, Pt.slots] at X177 l177 y177 z177 st177 hQ177
    rw [l177, (show k177 = 9 from y177), (show n177 = 2077 from z177)] at X177
    obtain ⟨h177, e177⟩ : ∃ z, T177.heap = z := ⟨_, rfl⟩
    rw [e177] at hQ177
    obtain ⟨hq177, N177q, K177, m4, h4_, M4, H4, f4, g4, gm4, gh4, nam4, nah4, nmh4, -, -, I4_, bM4, E177_, F177_1, F177_2, F177_3, A177_m, A177_h, E177_m, E177_h⟩ := hQ177
    rw [hq177] at st177
    have N177 := Fr.app N157 N177q
    obtain ⟨S4, hS4, J4⟩ : ∃ S' : Nat → Bool, (∀ k, S' k = (S3 k && !decide (k = nb))) ∧ own_Inv M4 H4 f4 g4 S' := ⟨_, fun _ => rfl, I4_⟩
    rw [show (((((0 : Int32) + (1 : Int32)) + (1 : Int32)) + (1 : Int32)) - (1 : Int32)) = (2 : Int32) by decide] at F177_3
    have E157__x177 := E157_.keep K177
    have Z177 : n0 ≤ h177.size := Nat.le_trans Z157 K177.1
    have Y177 : h0.size ≤ h177.size := Nat.le_trans Y157 K177.1
    refine own_trn st177 ?_
    show own_R p.tables e below P (T177.setTop (mkF m 142 #[.val (.int p0), .val (.int p1), .val (.int p2), .val (.int p3), .val (.int p4), .val (.int rm), .val (.int va), .val (.int vb), .val (.int vc), .val (.ref b153), .val (.int (1 : Int32)), .val (.int vb), .val (.int va), .val (.int vc), .unset] []))
    have hAB : na < nc := by omega
    have hS : ∀ k, S4 k = (decide (k = na) || decide (k = nc)) := fun k => by rw [hS4, hS3, hS2, hS1, hS0]; exact own_S3 na nb nc nb na nc k (by omega) bnb bnc
    have inA : S4 na = true := by rw [hS]; simp
    refine own_fwd (fun tt kt => XS.aload X177.here hx rfl (hb hby at_142) rfl rfl kt) ?_
    show own_R p.tables e below P (T177.setTop (mkF m 144 #[.val (.int p0), .val (.int p1), .val (.int p2), .val (.int p3), .val (.int p4), .val (.int rm), .val (.int va), .val (.int vb), .val (.int vc), .val (.ref b153), .val (.int (1 : Int32)), .val (.int vb), .val (.int va), .val (.int vc), .unset] [(.ref b153)]))
    obtain ⟨cq178, kq178, q178a, q178b, q178c⟩ := isOf hZ e177 E177_
    obtain ⟨_, _, ⟨T178, L178, k178, n178⟩, -, X178, ⟨Lc178, hQ178, l178, y178, z178⟩, st178⟩ := X177.virtualBack hx (y := (⟨"com/example/ramp99/ramp99/service/replay/NumberSet", "size", "()I"⟩ : MethodName)) (z := (⟨"com/example/ramp99/ramp99/service/replay/NumberSet", "size", "()I"⟩ : MethodName)) hown (mvT hZ (hw _ (List.mem_of_getElem? (i := 28) rfl))) (mvT hZ (hw _ (List.mem_of_getElem? (i := 29) rfl))) (notFace_of_selects (args := #[]) (mvT hZ (hw _ (List.mem_of_getElem? (i := 31) rfl)))) (mvT hZ (hw _ (List.mem_of_getElem? (i := 31) rfl))) (mvT hZ (hw _ (List.mem_of_getElem? (i := 30) rfl))) (by decide) (backOf (W := 0) (own_rm5 l Z a0 hw [] b153 (2 : Int32) h177 n0 Z177 F177_3) hZ (hw _ (List.mem_of_getElem? (i := 32) rfl)) (hw _ (List.mem_of_getElem? (i := 2) rfl)) (by decide) (by decide)) q178a q178c (g := (mkF m 144 #[.val (.int p0), .val (.int p1), .val (.int p2), .val (.int p3), .val (.int p4), .val (.int rm), .val (.int va), .val (.int vb), .val (.int vc), .val (.ref b153), .val (.int (1 : Int32)), .val (.int vb), .val (.int va), .val (.int vc), .unset] [(.ref b153)])) rfl (by rw [hml]; rfl) (Steps.refl _) (argsL := []) (rest := []) (lenOf own_pd4 rfl) rfl (by show 2 * 0 + _ ≤ _; exact Nat.le_of_eq rfl) (hb hby at_144) (fun _ _ => ⟨rfl, e177, (by decide : 9 + 0 ≤ _), (by decide : 2077 + 0 ≤ _)⟩)
    dsimp only [Pt.U, Pt.locs, Pt.cells, Pt.slots] at X178 l178 y178 z178 st178 hQ178
    rw [l178, (show k178 = 9 from y178), (show n178 = 2077 from z178)] at X178
    obtain ⟨h178, e178⟩ : ∃ z, T178.heap = z := ⟨_, rfl⟩
    rw [e178] at hQ178
    obtain ⟨hq178, N178q, q178⟩ := hQ178
    rw [q178] at e178
    rw [hq178] at st178
    have N178 := Fr.app N177 N178q
    refine own_trn st178 ?_
    show own_R p.tables e below P (T178.setTop (mkF m 147 #[.val (.int p0), .val (.int p1), .val (.int p2), .val (.int p3), .val (.int p4), .val (.int rm), .val (.int va), .val (.int vb), .val (.int vc), .val (.ref b153), .val (.int (1 : Int32)), .val (.int vb), .val (.int va), .val (.int vc), .unset] [(.int (2 : Int32))]))
    refine own_fwd (fun tt kt => XS.iconst X178.here hx rfl (hb hby at_147) kt) ?_
    show own_R p.tables e below P (T178.setTop (mkF m 148 #[.val (.int p0), .val (.int p1), .val (.int p2), .val (.int p3), .val (.int p4), .val (.int rm), .val (.int va), .val (.int vb), .val (.int vc), .val (.ref b153), .val (.int (1 : Int32)), .val (.int vb), .val (.int va), .val (.int vc), .unset] [(.int (2 : Int32)), (.int (2 : Int32))]))
    have hc179 : (2 : Int32) = (2 : Int32) := (by decide)
    refine own_fwd (fun tt kt => XS.icmpYes X178.here hx rfl (pc0 := 148) (pc' := 153) rfl (hb hby at_148) rfl (teq hc179).1 (by decide) (by decide) kt) ?_
    show own_R p.tables e below P (T178.setTop (mkF m 153 #[.val (.int p0), .val (.int p1), .val (.int p2), .val (.int p3), .val (.int p4), .val (.int rm), .val (.int va), .val (.int vb), .val (.int vc), .val (.ref b153), .val (.int (1 : Int32)), .val (.int vb), .val (.int va), .val (.int vc), .unset] []))
    refine own_fwd (fun tt kt => XS.aload X178.here hx rfl (hb hby at_153) rfl rfl kt) ?_
    show own_R p.tables e below P (T178.setTop (mkF m 155 #[.val (.int p0), .val (.int p1), .val (.int p2), .val (.int p3), .val (.int p4), .val (.int rm), .val (.int va), .val (.int vb), .val (.int vc), .val (.ref b153), .val (.int (1 : Int32)), .val (.int vb), .val (.int va), .val (.int vc), .unset] [(.ref b153)]))
    obtain ⟨cq180, kq180, q180a, q180b, q180c⟩ := isOf hZ e178 E177_
    obtain ⟨_, _, ⟨T180, L180, k180, n180⟩, -, X180, ⟨Lc180, hQ180, l180, y180, z180⟩, st180⟩ := X178.virtualBack hx (y := (⟨"com/example/ramp99/ramp99/service/replay/NumberSet", "lowest", "()I"⟩ : MethodName)) (z := (⟨"com/example/ramp99/ramp99/service/replay/NumberSet", "lowest", "()I"⟩ : MethodName)) hown (mvT hZ (hw _ (List.mem_of_getElem? (i := 33) rfl))) (mvT hZ (hw _ (List.mem_of_getElem? (i := 34) rfl))) (notFace_of_selects (args := #[]) (mvT hZ (hw _ (List.mem_of_getElem? (i := 36) rfl)))) (mvT hZ (hw _ (List.mem_of_getElem? (i := 36) rfl))) (mvT hZ (hw _ (List.mem_of_getElem? (i := 35) rfl))) (by decide) (backOf (W := 0) (own_rm6 l Z a0 hw [] b153 m4 h4_ (2 : Int32) f4 g4 M4 H4 S4 na h177 n0 Z177 E177_ F177_1 F177_2 F177_3 A177_m A177_h E177_m E177_h ge_b153 gm4 gh4 nam4 nah4 nmh4 J4 bM4 inA) hZ (hw _ (List.mem_of_getElem? (i := 37) rfl)) (hw _ (List.mem_of_getElem? (i := 2) rfl)) (by decide) (by decide)) q180a q180c (g := (mkF m 155 #[.val (.int p0), .val (.int p1), .val (.int p2), .val (.int p3), .val (.int p4), .val (.int rm), .val (.int va), .val (.int vb), .val (.int vc), .val (.ref b153), .val (.int (1 : Int32)), .val (.int vb), .val (.int va), .val (.int vc), .unset] [(.ref b153)])) rfl (by rw [hml]; rfl) (Steps.refl _) (argsL := []) (rest := []) (lenOf own_pd4 rfl) rfl (by show 2 * 0 + _ ≤ _; exact Nat.le_of_eq rfl) (hb hby at_155) (fun _ _ => ⟨rfl, e178, (by decide : 9 + 0 ≤ _), (by decide : 2077 + 0 ≤ _)⟩)
    dsimp only [Pt.U, Pt.locs, Pt.cells, Pt.slots] at X180 l180 y180 z180 st180 hQ180
    rw [l180, (show k180 = 9 from y180), (show n180 = 2077 from z180)] at X180
    obtain ⟨h180, e180⟩ : ∃ z, T180.heap = z := ⟨_, rfl⟩
    rw [e180] at hQ180
    obtain ⟨rlo, zlo, hq180, hzlo, hrlo, hmlo, N180q, q180⟩ := hQ180
    rw [q180] at e180
    rw [hq180] at st180
    have N180 := Fr.app N178 N180q
    refine own_trn st180 ?_
    show own_R p.tables e below P (T180.setTop (mkF m 158 #[.val (.int p0), .val (.int p1), .val (.int p2), .val (.int p3), .val (.int p4), .val (.int rm), .val (.int va), .val (.int vb), .val (.int vc), .val (.ref b153), .val (.int (1 : Int32)), .val (.int vb), .val (.int va), .val (.int vc), .unset] [(.int zlo)]))
    refine own_fwd (fun tt kt => XS.iload X180.here hx rfl (hb hby at_158) rfl kt) ?_
    show own_R p.tables e below P (T180.setTop (mkF m 160 #[.val (.int p0), .val (.int p1), .val (.int p2), .val (.int p3), .val (.int p4), .val (.int rm), .val (.int va), .val (.int vb), .val (.int vc), .val (.ref b153), .val (.int (1 : Int32)), .val (.int vb), .val (.int va), .val (.int vc), .unset] [(.int va), (.int zlo)]))
    have hc181 : zlo = va := own_lowest hS hAB hrlo hmlo hzlo hna
    refine own_fwd (fun tt kt => XS.icmpYes X180.here hx rfl (pc0 := 160) (pc' := 165) rfl (hb hby at_160) rfl (teq hc181).1 (by decide) (by decide) kt) ?_
    show own_R p.tables e below P (T180.setTop (mkF m 165 #[.val (.int p0), .val (.int p1), .val (.int p2), .val (.int p3), .val (.int p4), .val (.int rm), .val (.int va), .val (.int vb), .val (.int vc), .val (.ref b153), .val (.int (1 : Int32)), .val (.int vb), .val (.int va), .val (.int vc), .unset] []))
    refine own_fwd (fun tt kt => XS.aload X180.here hx rfl (hb hby at_165) rfl rfl kt) ?_
    show own_R p.tables e below P (T180.setTop (mkF m 167 #[.val (.int p0), .val (.int p1), .val (.int p2), .val (.int p3), .val (.int p4), .val (.int rm), .val (.int va), .val (.int vb), .val (.int vc), .val (.ref b153), .val (.int (1 : Int32)), .val (.int vb), .val (.int va), .val (.int vc), .unset] [(.ref b153)]))
    obtain ⟨cq182, kq182, q182a, q182b, q182c⟩ := isOf hZ e180 E177_
    obtain ⟨_, _, ⟨T182, L182, k182, n182⟩, -, X182, ⟨Lc182, hQ182, l182, y182, z182⟩, st182⟩ := X180.virtualBack hx (y := (⟨"com/example/ramp99/ramp99/service/replay/NumberSet", "highest", "()I"⟩ : MethodName)) (z := (⟨"com/example/ramp99/ramp99/service/replay/NumberSet", "highest", "()I"⟩ : MethodName)) hown (mvT hZ (hw _ (List.mem_of_getElem? (i := 47) rfl))) (mvT hZ (hw _ (List.mem_of_getElem? (i := 48) rfl))) (notFace_of_selects (args := #[]) (mvT hZ (hw _ (List.mem_of_getElem? (i := 50) rfl)))) (mvT hZ (hw _ (List.mem_of_getElem? (i := 50) rfl))) (mvT hZ (hw _ (List.mem_of_getElem? (i := 49) rfl))) (by decide) (backOf (W := 0) (own_rm9 l Z a0 hw [] b153 m4 h4_ (2 : Int32) f4 g4 M4 H4 S4 na h177 n0 Z177 E177_ F177_1 F177_2 F177_3 A177_m A177_h E177_m E177_h ge_b153 gm4 gh4 nam4 nah4 nmh4 J4 bM4 inA) hZ (hw _ (List.mem_of_getElem? (i := 51) rfl)) (hw _ (List.mem_of_getElem? (i := 2) rfl)) (by decide) (by decide)) q182a q182c (g := (mkF m 167 #[.val (.int p0), .val (.int p1), .val (.int p2), .val (.int p3), .val (.int p4), .val (.int rm), .val (.int va), .val (.int vb), .val (.int vc), .val (.ref b153), .val (.int (1 : Int32)), .val (.int vb), .val (.int va), .val (.int vc), .unset] [(.ref b153)])) rfl (by rw [hml]; rfl) (Steps.refl _) (argsL := []) (rest := []) (lenOf own_pd4 rfl) rfl (by show 2 * 0 + _ ≤ _; exact Nat.le_of_eq rfl) (hb hby at_167) (fun _ _ => ⟨rfl, e180, (by decide : 9 + 0 ≤ _), (by decide : 2077 + 0 ≤ _)⟩)
    dsimp only [Pt.U, Pt.locs, Pt.cells, Pt.slots] at X182 l182 y182 z182 st182 hQ182
    rw [l182, (show k182 = 9 from y182), (show n182 = 2077 from z182)] at X182
    obtain ⟨h182, e182⟩ : ∃ z, T182.heap = z := ⟨_, rfl⟩
    rw [e182] at hQ182
    obtain ⟨rhi, zhi, hq182, hzhi, hrhi, hmhi, N182q, q182⟩ := hQ182
    rw [q182] at e182
    rw [hq182] at st182
    have N182 := Fr.app N180 N182q
    refine own_trn st182 ?_
    show own_R p.tables e below P (T182.setTop (mkF m 170 #[.val (.int p0), .val (.int p1), .val (.int p2), .val (.int p3), .val (.int p4), .val (.int rm), .val (.int va), .val (.int vb), .val (.int vc), .val (.ref b153), .val (.int (1 : Int32)), .val (.int vb), .val (.int va), .val (.int vc), .unset] [(.int zhi)]))
    refine own_fwd (fun tt kt => XS.iload X182.here hx rfl (hb hby at_170) rfl kt) ?_
    show own_R p.tables e below P (T182.setTop (mkF m 172 #[.val (.int p0), .val (.int p1), .val (.int p2), .val (.int p3), .val (.int p4), .val (.int rm), .val (.int va), .val (.int vb), .val (.int vc), .val (.ref b153), .val (.int (1 : Int32)), .val (.int vb), .val (.int va), .val (.int vc), .unset] [(.int vc), (.int zhi)]))
    have hc183 : zhi = vc := own_highest hS hAB hrhi hmhi hzhi hnc
    refine own_fwd (fun tt kt => XS.icmpYes X182.here hx rfl (pc0 := 172) (pc' := 177) rfl (hb hby at_172) rfl (teq hc183).1 (by decide) (by decide) kt) ?_
    show own_R p.tables e below P (T182.setTop (mkF m 177 #[.val (.int p0), .val (.int p1), .val (.int p2), .val (.int p3), .val (.int p4), .val (.int rm), .val (.int va), .val (.int vb), .val (.int vc), .val (.ref b153), .val (.int (1 : Int32)), .val (.int vb), .val (.int va), .val (.int vc), .unset] []))
    refine own_fwd (fun tt kt => XS.aload X182.here hx rfl (hb hby at_177) rfl rfl kt) ?_
    show own_R p.tables e below P (T182.setTop (mkF m 179 #[.val (.int p0), .val (.int p1), .val (.int p2), .val (.int p3), .val (.int p4), .val (.int rm), .val (.int va), .val (.int vb), .val (.int vc), .val (.ref b153), .val (.int (1 : Int32)), .val (.int vb), .val (.int va), .val (.int vc), .unset] [(.ref b153)]))
    obtain ⟨cq184, kq184, q184a, q184b, q184c⟩ := isOf hZ e182 E177_
    obtain ⟨_, _, ⟨T184, L184, k184, n184⟩, -, X184, ⟨Lc184, hQ184, l184, y184, z184⟩, st184⟩ := X182.virtualBack hx (y := (⟨"com/example/ramp99/ramp99/service/replay/NumberSet", "toArray", "()[I"⟩ : MethodName)) (z := (⟨"com/example/ramp99/ramp99/service/replay/NumberSet", "toArray", "()[I"⟩ : MethodName)) hown (mvT hZ (hw _ (List.mem_of_getElem? (i := 58) rfl))) (mvT hZ (hw _ (List.mem_of_getElem? (i := 59) rfl))) (notFace_of_selects (args := #[]) (mvT hZ (hw _ (List.mem_of_getElem? (i := 61) rfl)))) (mvT hZ (hw _ (List.mem_of_getElem? (i := 61) rfl))) (mvT hZ (hw _ (List.mem_of_getElem? (i := 60) rfl))) (by decide) (backOf (W := 0) (own_rm12 l Z a0 hw [] b153 m4 h4_ f4 g4 M4 H4 S4 na nc h177 n0 Z177 E177_ F177_1 F177_2 F177_3 A177_m A177_h E177_m E177_h ge_b153 gm4 gh4 nam4 nah4 nmh4 J4 bM4 hAB hS) hZ (hw _ (List.mem_of_getElem? (i := 62) rfl)) (hw _ (List.mem_of_getElem? (i := 2) rfl)) (by decide) (by decide)) q184a q184c (g := (mkF m 179 #[.val (.int p0), .val (.int p1), .val (.int p2), .val (.int p3), .val (.int p4), .val (.int rm), .val (.int va), .val (.int vb), .val (.int vc), .val (.ref b153), .val (.int (1 : Int32)), .val (.int vb), .val (.int va), .val (.int vc), .unset] [(.ref b153)])) rfl (by rw [hml]; rfl) (Steps.refl _) (argsL := []) (rest := []) (lenOf own_pd5 rfl) rfl (by show 2 * 0 + _ ≤ _; exact Nat.le_of_eq rfl) (hb hby at_179) (fun _ _ => ⟨rfl, e182, (by decide : 9 + 1 ≤ _), (by decide : 2077 + 2 ≤ _)⟩)
    dsimp only [Pt.U, Pt.locs, Pt.cells, Pt.slots] at X184 l184 y184 z184 st184 hQ184
    rw [l184, (show k184 = 10 from y184), (show n184 = 2079 from z184)] at X184
    obtain ⟨h184, e184⟩ : ∃ z, T184.heap = z := ⟨_, rfl⟩
    rw [e184] at hQ184
    obtain ⟨bT, gT, hq184, N184q, geT, szT, K184, A184_, g0, g1⟩ := hQ184
    rw [hq184] at st184
    have N184 := Fr.app N182 N184q
    have Z184 : n0 ≤ h184.size := Nat.le_trans Z177 K184.1
    have Y184 : h0.size ≤ h184.size := Nat.le_trans Y177 K184.1
    refine own_trn st184 ?_
    show own_R p.tables e below P (T184.setTop (mkF m 182 #[.val (.int p0), .val (.int p1), .val (.int p2), .val (.int p3), .val (.int p4), .val (.int rm), .val (.int va), .val (.int vb), .val (.int vc), .val (.ref b153), .val (.int (1 : Int32)), .val (.int vb), .val (.int va), .val (.int vc), .unset] [(.ref bT)]))
    refine own_fwd (fun tt kt => XS.astore X184.here hx rfl (hb hby at_182) rfl rfl (l' := #[.val (.int p0), .val (.int p1), .val (.int p2), .val (.int p3), .val (.int p4), .val (.int rm), .val (.int va), .val (.int vb), .val (.int vc), .val (.ref b153), .val (.int (1 : Int32)), .val (.int vb), .val (.int va), .val (.int vc), .val (.ref bT)]) rfl kt) ?_
    show own_R p.tables e below P (T184.setTop (mkF m 184 #[.val (.int p0), .val (.int p1), .val (.int p2), .val (.int p3), .val (.int p4), .val (.int rm), .val (.int va), .val (.int vb), .val (.int vc), .val (.ref b153), .val (.int (1 : Int32)), .val (.int vb), .val (.int va), .val (.int vc), .val (.ref bT)] []))
    refine own_fwd (fun tt kt => XS.aload X184.here hx rfl (hb hby at_184) rfl rfl kt) ?_
    show own_R p.tables e below P (T184.setTop (mkF m 186 #[.val (.int p0), .val (.int p1), .val (.int p2), .val (.int p3), .val (.int p4), .val (.int rm), .val (.int va), .val (.int vb), .val (.int vc), .val (.ref b153), .val (.int (1 : Int32)), .val (.int vb), .val (.int va), .val (.int vc), .val (.ref bT)] [(.ref bT)]))
    refine own_fwd (own_len X184 hx hZ e184 A184_ (2 : Int32) (by decide) (g := (mkF m 186 #[.val (.int p0), .val (.int p1), .val (.int p2), .val (.int p3), .val (.int p4), .val (.int rm), .val (.int va), .val (.int vb), .val (.int vc), .val (.ref b153), .val (.int (1 : Int32)), .val (.int vb), .val (.int va), .val (.int vc), .val (.ref bT)] [(.ref bT)])) rfl rfl (hb hby at_186)) ?_
    show own_R p.tables e below P (T184.setTop (mkF m 187 #[.val (.int p0), .val (.int p1), .val (.int p2), .val (.int p3), .val (.int p4), .val (.int rm), .val (.int va), .val (.int vb), .val (.int vc), .val (.ref b153), .val (.int (1 : Int32)), .val (.int vb), .val (.int va), .val (.int vc), .val (.ref bT)] [(.int (2 : Int32))]))
    refine own_fwd (fun tt kt => XS.iconst X184.here hx rfl (hb hby at_187) kt) ?_
    show own_R p.tables e below P (T184.setTop (mkF m 188 #[.val (.int p0), .val (.int p1), .val (.int p2), .val (.int p3), .val (.int p4), .val (.int rm), .val (.int va), .val (.int vb), .val (.int vc), .val (.ref b153), .val (.int (1 : Int32)), .val (.int vb), .val (.int va), .val (.int vc), .val (.ref bT)] [(.int (2 : Int32)), (.int (2 : Int32))]))
    have hc185 : (2 : Int32) = (2 : Int32) := (by decide)
    refine own_fwd (fun tt kt => XS.icmpNo X184.here hx rfl (hb hby at_188) rfl (teq hc185).2 kt) ?_
    show own_R p.tables e below P (T184.setTop (mkF m 191 #[.val (.int p0), .val (.int p1), .val (.int p2), .val (.int p3), .val (.int p4), .val (.int rm), .val (.int va), .val (.int vb), .val (.int vc), .val (.ref b153), .val (.int (1 : Int32)), .val (.int vb), .val (.int va), .val (.int vc), .val (.ref bT)] []))
    refine own_fwd (fun tt kt => XS.aload X184.here hx rfl (hb hby at_191) rfl rfl kt) ?_
    show own_R p.tables e below P (T184.setTop (mkF m 193 #[.val (.int p0), .val (.int p1), .val (.int p2), .val (.int p3), .val (.int p4), .val (.int rm), .val (.int va), .val (.int vb), .val (.int vc), .val (.ref b153), .val (.int (1 : Int32)), .val (.int vb), .val (.int va), .val (.int vc), .val (.ref bT)] [(.ref bT)]))
    refine own_fwd (fun tt kt => XS.iconst X184.here hx rfl (hb hby at_193) kt) ?_
    show own_R p.tables e below P (T184.setTop (mkF m 194 #[.val (.int p0), .val (.int p1), .val (.int p2), .val (.int p3), .val (.int p4), .val (.int rm), .val (.int va), .val (.int vb), .val (.int vc), .val (.ref b153), .val (.int (1 : Int32)), .val (.int vb), .val (.int va), .val (.int vc), .val (.ref bT)] [(.int (0 : Int32)), (.ref bT)]))
    refine own_fwd (own_ldI X184 hx hZ e184 A184_ (j := (0 : Int32)) 0 (by decide) (by decide) (g := (mkF m 194 #[.val (.int p0), .val (.int p1), .val (.int p2), .val (.int p3), .val (.int p4), .val (.int rm), .val (.int va), .val (.int vb), .val (.int vc), .val (.ref b153), .val (.int (1 : Int32)), .val (.int vb), .val (.int va), .val (.int vc), .val (.ref bT)] [(.int (0 : Int32)), (.ref bT)])) rfl rfl (hb hby at_194)) ?_
    show own_R p.tables e below P (T184.setTop (mkF m 195 #[.val (.int p0), .val (.int p1), .val (.int p2), .val (.int p3), .val (.int p4), .val (.int rm), .val (.int va), .val (.int vb), .val (.int vc), .val (.ref b153), .val (.int (1 : Int32)), .val (.int vb), .val (.int va), .val (.int vc), .val (.ref bT)] [(.int (gT 0))]))
    refine own_fwd (fun tt kt => XS.iload X184.here hx rfl (hb hby at_195) rfl kt) ?_
    show own_R p.tables e below P (T184.setTop (mkF m 197 #[.val (.int p0), .val (.int p1), .val (.int p2), .val (.int p3), .val (.int p4), .val (.int rm), .val (.int va), .val (.int vb), .val (.int vc), .val (.ref b153), .val (.int (1 : Int32)), .val (.int vb), .val (.int va), .val (.int vc), .val (.ref bT)] [(.int va), (.int (gT 0))]))
    have hc186 : (gT 0) = va := Int32.toInt_inj.mp (g0.trans hna.symm)
    refine own_fwd (fun tt kt => XS.icmpNo X184.here hx rfl (hb hby at_197) rfl (teq hc186).2 kt) ?_
    show own_R p.tables e below P (T184.setTop (mkF m 200 #[.val (.int p0), .val (.int p1), .val (.int p2), .val (.int p3), .val (.int p4), .val (.int rm), .val (.int va), .val (.int vb), .val (.int vc), .val (.ref b153), .val (.int (1 : Int32)), .val (.int vb), .val (.int va), .val (.int vc), .val (.ref bT)] []))
    refine own_fwd (fun tt kt => XS.aload X184.here hx rfl (hb hby at_200) rfl rfl kt) ?_
    show own_R p.tables e below P (T184.setTop (mkF m 202 #[.val (.int p0), .val (.int p1), .val (.int p2), .val (.int p3), .val (.int p4), .val (.int rm), .val (.int va), .val (.int vb), .val (.int vc), .val (.ref b153), .val (.int (1 : Int32)), .val (.int vb), .val (.int va), .val (.int vc), .val (.ref bT)] [(.ref bT)]))
    refine own_fwd (fun tt kt => XS.iconst X184.here hx rfl (hb hby at_202) kt) ?_
    show own_R p.tables e below P (T184.setTop (mkF m 203 #[.val (.int p0), .val (.int p1), .val (.int p2), .val (.int p3), .val (.int p4), .val (.int rm), .val (.int va), .val (.int vb), .val (.int vc), .val (.ref b153), .val (.int (1 : Int32)), .val (.int vb), .val (.int va), .val (.int vc), .val (.ref bT)] [(.int (1 : Int32)), (.ref bT)]))
    refine own_fwd (own_ldI X184 hx hZ e184 A184_ (j := (1 : Int32)) 1 (by decide) (by decide) (g := (mkF m 203 #[.val (.int p0), .val (.int p1), .val (.int p2), .val (.int p3), .val (.int p4), .val (.int rm), .val (.int va), .val (.int vb), .val (.int vc), .val (.ref b153), .val (.int (1 : Int32)), .val (.int vb), .val (.int va), .val (.int vc), .val (.ref bT)] [(.int (1 : Int32)), (.ref bT)])) rfl rfl (hb hby at_203)) ?_
    show own_R p.tables e below P (T184.setTop (mkF m 204 #[.val (.int p0), .val (.int p1), .val (.int p2), .val (.int p3), .val (.int p4), .val (.int rm), .val (.int va), .val (.int vb), .val (.int vc), .val (.ref b153), .val (.int (1 : Int32)), .val (.int vb), .val (.int va), .val (.int vc), .val (.ref bT)] [(.int (gT 1))]))
    refine own_fwd (fun tt kt => XS.iload X184.here hx rfl (hb hby at_204) rfl kt) ?_
    show own_R p.tables e below P (T184.setTop (mkF m 206 #[.val (.int p0), .val (.int p1), .val (.int p2), .val (.int p3), .val (.int p4), .val (.int rm), .val (.int va), .val (.int vb), .val (.int vc), .val (.ref b153), .val (.int (1 : Int32)), .val (.int vb), .val (.int va), .val (.int vc), .val (.ref bT)] [(.int vc), (.int (gT 1))]))
    have hc187 : (gT 1) = vc := Int32.toInt_inj.mp (g1.trans hnc.symm)
    refine own_fwd (fun tt kt => XS.icmpNo X184.here hx rfl (hb hby at_206) rfl (teq hc187).2 kt) ?_
    show own_R p.tables e below P (T184.setTop (mkF m 209 #[.val (.int p0), .val (.int p1), .val (.int p2), .val (.int p3), .val (.int p4), .val (.int rm), .val (.int va), .val (.int vb), .val (.int vc), .val (.ref b153), .val (.int (1 : Int32)), .val (.int vb), .val (.int va), .val (.int vc), .val (.ref bT)] []))
    refine own_fwd (fun tt kt => XS.iconst X184.here hx rfl (hb hby at_209) kt) ?_
    show own_R p.tables e below P (T184.setTop (mkF m 210 #[.val (.int p0), .val (.int p1), .val (.int p2), .val (.int p3), .val (.int p4), .val (.int rm), .val (.int va), .val (.int vb), .val (.int vc), .val (.ref b153), .val (.int (1 : Int32)), .val (.int vb), .val (.int va), .val (.int vc), .val (.ref bT)] [(.int (1 : Int32))]))
    refine own_fwd (fun tt kt => XS.goto X184.here hx rfl (pc0 := 210) (pc' := 214) rfl (hb hby at_210) (by decide) (by decide) kt) ?_
    show own_R p.tables e below P (T184.setTop (mkF m 214 #[.val (.int p0), .val (.int p1), .val (.int p2), .val (.int p3), .val (.int p4), .val (.int rm), .val (.int va), .val (.int vb), .val (.int vc), .val (.ref b153), .val (.int (1 : Int32)), .val (.int vb), .val (.int va), .val (.int vc), .val (.ref bT)] [(.int (1 : Int32))]))
    obtain ⟨fs188, hr188, hrun188, hended188, hW188, hsame188⟩ := X184.leave (v := some (.int (1 : Int32))) (fun h => by rw [Bd.returns] at h; cases h)
    refine ⟨_, _, X184.ireturnOut hx (w := (1 : Int32)) Bd.returns rfl (by simp) (hb hby at_214) hr188, fin _ _ ⟨hrun188, hended188, _, _, rfl, ?_, ⟨_, rfl⟩, hW188, hsame188.mono (by decide) (by decide)⟩⟩
    show own_Qlaw Z p0 p1 p2 p3 p4 h0 n0 _ T184.heap _
    rw [e184]
    exact ⟨rfl, N184⟩
  · rw [hs]
    show own_R p.tables e below P (T157.setTop (mkF m 79 #[.val (.int p0), .val (.int p1), .val (.int p2), .val (.int p3), .val (.int p4), .val (.int rm), .val (.int va), .val (.int vb), .val (.int vc), .val (.ref b153), .unset, .unset, .unset, .unset, .unset] [(.int (2 : Int32))]))
    refine own_fwd (fun tt kt => XS.istore X157.here hx rfl (hb hby at_79) rfl (l' := #[.val (.int p0), .val (.int p1), .val (.int p2), .val (.int p3), .val (.int p4), .val (.int rm), .val (.int va), .val (.int vb), .val (.int vc), .val (.ref b153), .val (.int (2 : Int32)), .unset, .unset, .unset, .unset]) rfl kt) ?_
    show own_R p.tables e below P (T157.setTop (mkF m 81 #[.val (.int p0), .val (.int p1), .val (.int p2), .val (.int p3), .val (.int p4), .val (.int rm), .val (.int va), .val (.int vb), .val (.int vc), .val (.ref b153), .val (.int (2 : Int32)), .unset, .unset, .unset, .unset] []))
    refine own_fwd (fun tt kt => XS.iload X157.here hx rfl (hb hby at_81) rfl kt) ?_
    show own_R p.tables e below P (T157.setTop (mkF m 83 #[.val (.int p0), .val (.int p1), .val (.int p2), .val (.int p3), .val (.int p4), .val (.int rm), .val (.int va), .val (.int vb), .val (.int vc), .val (.ref b153), .val (.int (2 : Int32)), .unset, .unset, .unset, .unset] [(.int (2 : Int32))]))
    have hc189 : ¬ ((2 : Int32) = (0 : Int32)) := (by decide)
    refine own_fwd (fun tt kt => XS.ifYes X157.here hx rfl (pc0 := 83) (pc' := 91) rfl (hb hby at_83) rfl ((if0 _ _).trans (feq hc189).2) (by decide) (by decide) kt) ?_
    show own_R p.tables e below P (T157.setTop (mkF m 91 #[.val (.int p0), .val (.int p1), .val (.int p2), .val (.int p3), .val (.int p4), .val (.int rm), .val (.int va), .val (.int vb), .val (.int vc), .val (.ref b153), .val (.int (2 : Int32)), .unset, .unset, .unset, .unset] []))
    refine own_fwd (fun tt kt => XS.iload X157.here hx rfl (hb hby at_91) rfl kt) ?_
    show own_R p.tables e below P (T157.setTop (mkF m 93 #[.val (.int p0), .val (.int p1), .val (.int p2), .val (.int p3), .val (.int p4), .val (.int rm), .val (.int va), .val (.int vb), .val (.int vc), .val (.ref b153), .val (.int (2 : Int32)), .unset, .unset, .unset, .unset] [(.int (2 : Int32))]))
    refine own_fwd (fun tt kt => XS.iconst X157.here hx rfl (hb hby at_93) kt) ?_
    show own_R p.tables e below P (T157.setTop (mkF m 94 #[.val (.int p0), .val (.int p1), .val (.int p2), .val (.int p3), .val (.int p4), .val (.int rm), .val (.int va), .val (.int vb), .val (.int vc), .val (.ref b153), .val (.int (2 : Int32)), .unset, .unset, .unset, .unset] [(.int (1 : Int32)), (.int (2 : Int32))]))
    have hc190 : ¬ ((2 : Int32) = (1 : Int32)) := (by decide)
    refine own_fwd (fun tt kt => XS.icmpYes X157.here hx rfl (pc0 := 94) (pc' := 102) rfl (hb hby at_94) rfl (feq hc190).2 (by decide) (by decide) kt) ?_
    show own_R p.tables e below P (T157.setTop (mkF m 102 #[.val (.int p0), .val (.int p1), .val (.int p2), .val (.int p3), .val (.int p4), .val (.int rm), .val (.int va), .val (.int vb), .val (.int vc), .val (.ref b153), .val (.int (2 : Int32)), .unset, .unset, .unset, .unset] []))
    refine own_fwd (fun tt kt => XS.iload X157.here hx rfl (hb hby at_102) rfl kt) ?_
    show own_R p.tables e below P (T157.setTop (mkF m 104 #[.val (.int p0), .val (.int p1), .val (.int p2), .val (.int p3), .val (.int p4), .val (.int rm), .val (.int va), .val (.int vb), .val (.int vc), .val (.ref b153), .val (.int (2 : Int32)), .unset, .unset, .unset, .unset] [(.int vc)]))
    refine own_fwd (fun tt kt => XS.istore X157.here hx rfl (hb hby at_104) rfl (l' := #[.val (.int p0), .val (.int p1), .val (.int p2), .val (.int p3), .val (.int p4), .val (.int rm), .val (.int va), .val (.int vb), .val (.int vc), .val (.ref b153), .val (.int (2 : Int32)), .val (.int vc), .unset, .unset, .unset]) rfl kt) ?_
    show own_R p.tables e below P (T157.setTop (mkF m 106 #[.val (.int p0), .val (.int p1), .val (.int p2), .val (.int p3), .val (.int p4), .val (.int rm), .val (.int va), .val (.int vb), .val (.int vc), .val (.ref b153), .val (.int (2 : Int32)), .val (.int vc), .unset, .unset, .unset] []))
    refine own_fwd (fun tt kt => XS.iload X157.here hx rfl (hb hby at_106) rfl kt) ?_
    show own_R p.tables e below P (T157.setTop (mkF m 108 #[.val (.int p0), .val (.int p1), .val (.int p2), .val (.int p3), .val (.int p4), .val (.int rm), .val (.int va), .val (.int vb), .val (.int vc), .val (.ref b153), .val (.int (2 : Int32)), .val (.int vc), .unset, .unset, .unset] [(.int (2 : Int32))]))
    have hc191 : ¬ ((2 : Int32) = (0 : Int32)) := (by decide)
    refine own_fwd (fun tt kt => XS.ifYes X157.here hx rfl (pc0 := 108) (pc' := 116) rfl (hb hby at_108) rfl ((if0 _ _).trans (feq hc191).2) (by decide) (by decide) kt) ?_
    show own_R p.tables e below P (T157.setTop (mkF m 116 #[.val (.int p0), .val (.int p1), .val (.int p2), .val (.int p3), .val (.int p4), .val (.int rm), .val (.int va), .val (.int vb), .val (.int vc), .val (.ref b153), .val (.int (2 : Int32)), .val (.int vc), .unset, .unset, .unset] []))
    refine own_fwd (fun tt kt => XS.iload X157.here hx rfl (hb hby at_116) rfl kt) ?_
    show own_R p.tables e below P (T157.setTop (mkF m 118 #[.val (.int p0), .val (.int p1), .val (.int p2), .val (.int p3), .val (.int p4), .val (.int rm), .val (.int va), .val (.int vb), .val (.int vc), .val (.ref b153), .val (.int (2 : Int32)), .val (.int vc), .unset, .unset, .unset] [(.int va)]))
    refine own_fwd (fun tt kt => XS.istore X157.here hx rfl (hb hby at_118) rfl (l' := #[.val (.int p0), .val (.int p1), .val (.int p2), .val (.int p3), .val (.int p4), .val (.int rm), .val (.int va), .val (.int vb), .val (.int vc), .val (.ref b153), .val (.int (2 : Int32)), .val (.int vc), .val (.int va), .unset, .unset]) rfl kt) ?_
    show own_R p.tables e below P (T157.setTop (mkF m 120 #[.val (.int p0), .val (.int p1), .val (.int p2), .val (.int p3), .val (.int p4), .val (.int rm), .val (.int va), .val (.int vb), .val (.int vc), .val (.ref b153), .val (.int (2 : Int32)), .val (.int vc), .val (.int va), .unset, .unset] []))
    refine own_fwd (fun tt kt => XS.iload X157.here hx rfl (hb hby at_120) rfl kt) ?_
    show own_R p.tables e below P (T157.setTop (mkF m 122 #[.val (.int p0), .val (.int p1), .val (.int p2), .val (.int p3), .val (.int p4), .val (.int rm), .val (.int va), .val (.int vb), .val (.int vc), .val (.ref b153), .val (.int (2 : Int32)), .val (.int vc), .val (.int va), .unset, .unset] [(.int (2 : Int32))]))
    refine own_fwd (fun tt kt => XS.iconst X157.here hx rfl (hb hby at_122) kt) ?_
    show own_R p.tables e below P (T157.setTop (mkF m 123 #[.val (.int p0), .val (.int p1), .val (.int p2), .val (.int p3), .val (.int p4), .val (.int rm), .val (.int va), .val (.int vb), .val (.int vc), .val (.ref b153), .val (.int (2 : Int32)), .val (.int vc), .val (.int va), .unset, .unset] [(.int (2 : Int32)), (.int (2 : Int32))]))
    have hc192 : (2 : Int32) = (2 : Int32) := (by decide)
    refine own_fwd (fun tt kt => XS.icmpNo X157.here hx rfl (hb hby at_123) rfl (teq hc192).2 kt) ?_
    show own_R p.tables e below P (T157.setTop (mkF m 126 #[.val (.int p0), .val (.int p1), .val (.int p2), .val (.int p3), .val (.int p4), .val (.int rm), .val (.int va), .val (.int vb), .val (.int vc), .val (.ref b153), .val (.int (2 : Int32)), .val (.int vc), .val (.int va), .unset, .unset] []))
    refine own_fwd (fun tt kt => XS.iload X157.here hx rfl (hb hby at_126) rfl kt) ?_
    show own_R p.tables e below P (T157.setTop (mkF m 128 #[.val (.int p0), .val (.int p1), .val (.int p2), .val (.int p3), .val (.int p4), .val (.int rm), .val (.int va), .val (.int vb), .val (.int vc), .val (.ref b153), .val (.int (2 : Int32)), .val (.int vc), .val (.int va), .unset, .unset] [(.int vb)]))
    refine own_fwd (fun tt kt => XS.goto X157.here hx rfl (pc0 := 128) (pc' := 133) rfl (hb hby at_128) (by decide) (by decide) kt) ?_
    show own_R p.tables e below P (T157.setTop (mkF m 133 #[.val (.int p0), .val (.int p1), .val (.int p2), .val (.int p3), .val (.int p4), .val (.int rm), .val (.int va), .val (.int vb), .val (.int vc), .val (.ref b153), .val (.int (2 : Int32)), .val (.int vc), .val (.int va), .unset, .unset] [(.int vb)]))
    refine own_fwd (fun tt kt => XS.istore X157.here hx rfl (hb hby at_133) rfl (l' := #[.val (.int p0), .val (.int p1), .val (.int p2), .val (.int p3), .val (.int p4), .val (.int rm), .val (.int va), .val (.int vb), .val (.int vc), .val (.ref b153), .val (.int (2 : Int32)), .val (.int vc), .val (.int va), .val (.int vb), .unset]) rfl kt) ?_
    show own_R p.tables e below P (T157.setTop (mkF m 135 #[.val (.int p0), .val (.int p1), .val (.int p2), .val (.int p3), .val (.int p4), .val (.int rm), .val (.int va), .val (.int vb), .val (.int vc), .val (.ref b153), .val (.int (2 : Int32)), .val (.int vc), .val (.int va), .val (.int vb), .unset] []))
    refine own_fwd (fun tt kt => XS.aload X157.here hx rfl (hb hby at_135) rfl rfl kt) ?_
    show own_R p.tables e below P (T157.setTop (mkF m 137 #[.val (.int p0), .val (.int p1), .val (.int p2), .val (.int p3), .val (.int p4), .val (.int rm), .val (.int va), .val (.int vb), .val (.int vc), .val (.ref b153), .val (.int (2 : Int32)), .val (.int vc), .val (.int va), .val (.int vb), .unset] [(.ref b153)]))
    refine own_fwd (fun tt kt => XS.iload X157.here hx rfl (hb hby at_137) rfl kt) ?_
    show own_R p.tables e below P (T157.setTop (mkF m 139 #[.val (.int p0), .val (.int p1), .val (.int p2), .val (.int p3), .val (.int p4), .val (.int rm), .val (.int va), .val (.int vb), .val (.int vc), .val (.ref b153), .val (.int (2 : Int32)), .val (.int vc), .val (.int va), .val (.int vb), .unset] [(.int vc), (.ref b153)]))
    obtain ⟨cq193, kq193, q193a, q193b, q193c⟩ := isOf hZ e157 E157_
    obtain ⟨_, _, ⟨T193, L193, k193, n193⟩, -, X193, ⟨Lc193, hQ193, l193, y193, z193⟩, st193⟩ := X157.virtualBack hx (y := (⟨"com/example/ramp99/ramp99/service/replay/NumberSet", "remove", "(I)V"⟩ : MethodName)) (z := (⟨"com/example/ramp99/ramp99/service/replay/NumberSet", "remove", "(I)V"⟩ : MethodName)) hown (mvT hZ (hw _ (List.mem_of_getElem? (i := 22) rfl))) (mvT hZ (hw _ (List.mem_of_getElem? (i := 23) rfl))) (notFace_of_selects (args := #[]) (mvT hZ (hw _ (List.mem_of_getElem? (i := 25) rfl)))) (mvT hZ (hw _ (List.mem_of_getElem? (i := 25) rfl))) (mvT hZ (hw _ (List.mem_of_getElem? (i := 24) rfl))) (by decide) (backOf (W := 0) (own_rm4 l Z a0 hw [] b153 m3 h3_ ((((0 : Int32) + (1 : Int32)) + (1 : Int32)) + (1 : Int32)) f3 g3 M3 H3 S3 vc nc h157 n0 Z157 E157_ F157_1 F157_2 F157_3 A157_m A157_h E157_m E157_h ge_b153 gm3 gh3 nam3 nah3 nmh3 J3 bM3 hnc (by rw [hS3, hS2, hS1]; simp)) hZ (hw _ (List.mem_of_getElem? (i := 26) rfl)) (hw _ (List.mem_of_getElem? (i := 2) rfl)) (by decide) (by decide)) q193a q193c (g := (mkF m 139 #[.val (.int p0), .val (.int p1), .val (.int p2), .val (.int p3), .val (.int p4), .val (.int rm), .val (.int va), .val (.int vb), .val (.int vc), .val (.ref b153), .val (.int (2 : Int32)), .val (.int vc), .val (.int va), .val (.int vb), .unset] [(.int vc), (.ref b153)])) rfl (by rw [hml]; rfl) (Steps.refl _) (argsL := [(.int vc)]) (rest := []) (lenOf own_pd3 rfl) rfl (by show 2 * 0 + _ ≤ _; exact Nat.le_of_eq rfl) (hb hby at_139) (fun _ _ => ⟨rfl, e157, (by decide : 9 + 0 ≤ _), (by decide : 2077 + 0 ≤ _)⟩)
    dsimp only [Pt.U, Pt.locs, Pt.cells, Pt.slots] at X193 l193 y193 z193 st193 hQ193
    rw [l193, (show k193 = 9 from y193), (show n193 = 2077 from z193)] at X193
    obtain ⟨h193, e193⟩ : ∃ z, T193.heap = z := ⟨_, rfl⟩
    rw [e193] at hQ193
    obtain ⟨hq193, N193q, K193, m4, h4_, M4, H4, f4, g4, gm4, gh4, nam4, nah4, nmh4, -, -, I4_, bM4, E193_, F193_1, F193_2, F193_3, A193_m, A193_h, E193_m, E193_h⟩ := hQ193
    rw [hq193] at st193
    have N193 := Fr.app N157 N193q
    obtain ⟨S4, hS4, J4⟩ : ∃ S' : Nat → Bool, (∀ k, S' k = (S3 k && !decide (k = nc))) ∧ own_Inv M4 H4 f4 g4 S' := ⟨_, fun _ => rfl, I4_⟩
    rw [show (((((0 : Int32) + (1 : Int32)) + (1 : Int32)) + (1 : Int32)) - (1 : Int32)) = (2 : Int32) by decide] at F193_3
    have E157__x193 := E157_.keep K193
    have Z193 : n0 ≤ h193.size := Nat.le_trans Z157 K193.1
    have Y193 : h0.size ≤ h193.size := Nat.le_trans Y157 K193.1
    refine own_trn st193 ?_
    show own_R p.tables e below P (T193.setTop (mkF m 142 #[.val (.int p0), .val (.int p1), .val (.int p2), .val (.int p3), .val (.int p4), .val (.int rm), .val (.int va), .val (.int vb), .val (.int vc), .val (.ref b153), .val (.int (2 : Int32)), .val (.int vc), .val (.int va), .val (.int vb), .unset] []))
    have hAB : na < nb := by omega
    have hS : ∀ k, S4 k = (decide (k = na) || decide (k = nb)) := fun k => by rw [hS4, hS3, hS2, hS1, hS0]; exact own_S3 na nb nc nc na nb k (by omega) bnb bnc
    have inA : S4 na = true := by rw [hS]; simp
    refine own_fwd (fun tt kt => XS.aload X193.here hx rfl (hb hby at_142) rfl rfl kt) ?_
    show own_R p.tables e below P (T193.setTop (mkF m 144 #[.val (.int p0), .val (.int p1), .val (.int p2), .val (.int p3), .val (.int p4), .val (.int rm), .val (.int va), .val (.int vb), .val (.int vc), .val (.ref b153), .val (.int (2 : Int32)), .val (.int vc), .val (.int va), .val (.int vb), .unset] [(.ref b153)]))
    obtain ⟨cq194, kq194, q194a, q194b, q194c⟩ := isOf hZ e193 E193_
    obtain ⟨_, _, ⟨T194, L194, k194, n194⟩, -, X194, ⟨Lc194, hQ194, l194, y194, z194⟩, st194⟩ := X193.virtualBack hx (y := (⟨"com/example/ramp99/ramp99/service/replay/NumberSet", "size", "()I"⟩ : MethodName)) (z := (⟨"com/example/ramp99/ramp99/service/replay/NumberSet", "size", "()I"⟩ : MethodName)) hown (mvT hZ (hw _ (List.mem_of_getElem? (i := 28) rfl))) (mvT hZ (hw _ (List.mem_of_getElem? (i := 29) rfl))) (notFace_of_selects (args := #[]) (mvT hZ (hw _ (List.mem_of_getElem? (i := 31) rfl)))) (mvT hZ (hw _ (List.mem_of_getElem? (i := 31) rfl))) (mvT hZ (hw _ (List.mem_of_getElem? (i := 30) rfl))) (by decide) (backOf (W := 0) (own_rm5 l Z a0 hw [] b153 (2 : Int32) h193 n0 Z193 F193_3) hZ (hw _ (List.mem_of_getElem? (i := 32) rfl)) (hw _ (List.mem_of_getElem? (i := 2) rfl)) (by decide) (by decide)) q194a q194c (g := (mkF m 144 #[.val (.int p0), .val (.int p1), .val (.int p2), .val (.int p3), .val (.int p4), .val (.int rm), .val (.int va), .val (.int vb), .val (.int vc), .val (.ref b153), .val (.int (2 : Int32)), .val (.int vc), .val (.int va), .val (.int vb), .unset] [(.ref b153)])) rfl (by rw [hml]; rfl) (Steps.refl _) (argsL := []) (rest := []) (lenOf own_pd4 rfl) rfl (by show 2 * 0 + _ ≤ _; exact Nat.le_of_eq rfl) (hb hby at_144) (fun _ _ => ⟨rfl, e193, (by decide : 9 + 0 ≤ _), (by decide : 2077 + 0 ≤ _)⟩)
    dsimp only [Pt.U, Pt.locs, Pt.cells, Pt.slots] at X194 l194 y194 z194 st194 hQ194
    rw [l194, (show k194 = 9 from y194), (show n194 = 2077 from z194)] at X194
    obtain ⟨h194, e194⟩ : ∃ z, T194.heap = z := ⟨_, rfl⟩
    rw [e194] at hQ194
    obtain ⟨hq194, N194q, q194⟩ := hQ194
    rw [q194] at e194
    rw [hq194] at st194
    have N194 := Fr.app N193 N194q
    refine own_trn st194 ?_
    show own_R p.tables e below P (T194.setTop (mkF m 147 #[.val (.int p0), .val (.int p1), .val (.int p2), .val (.int p3), .val (.int p4), .val (.int rm), .val (.int va), .val (.int vb), .val (.int vc), .val (.ref b153), .val (.int (2 : Int32)), .val (.int vc), .val (.int va), .val (.int vb), .unset] [(.int (2 : Int32))]))
    refine own_fwd (fun tt kt => XS.iconst X194.here hx rfl (hb hby at_147) kt) ?_
    show own_R p.tables e below P (T194.setTop (mkF m 148 #[.val (.int p0), .val (.int p1), .val (.int p2), .val (.int p3), .val (.int p4), .val (.int rm), .val (.int va), .val (.int vb), .val (.int vc), .val (.ref b153), .val (.int (2 : Int32)), .val (.int vc), .val (.int va), .val (.int vb), .unset] [(.int (2 : Int32)), (.int (2 : Int32))]))
    have hc195 : (2 : Int32) = (2 : Int32) := (by decide)
    refine own_fwd (fun tt kt => XS.icmpYes X194.here hx rfl (pc0 := 148) (pc' := 153) rfl (hb hby at_148) rfl (teq hc195).1 (by decide) (by decide) kt) ?_
    show own_R p.tables e below P (T194.setTop (mkF m 153 #[.val (.int p0), .val (.int p1), .val (.int p2), .val (.int p3), .val (.int p4), .val (.int rm), .val (.int va), .val (.int vb), .val (.int vc), .val (.ref b153), .val (.int (2 : Int32)), .val (.int vc), .val (.int va), .val (.int vb), .unset] []))
    refine own_fwd (fun tt kt => XS.aload X194.here hx rfl (hb hby at_153) rfl rfl kt) ?_
    show own_R p.tables e below P (T194.setTop (mkF m 155 #[.val (.int p0), .val (.int p1), .val (.int p2), .val (.int p3), .val (.int p4), .val (.int rm), .val (.int va), .val (.int vb), .val (.int vc), .val (.ref b153), .val (.int (2 : Int32)), .val (.int vc), .val (.int va), .val (.int vb), .unset] [(.ref b153)]))
    obtain ⟨cq196, kq196, q196a, q196b, q196c⟩ := isOf hZ e194 E193_
    obtain ⟨_, _, ⟨T196, L196, k196, n196⟩, -, X196, ⟨Lc196, hQ196, l196, y196, z196⟩, st196⟩ := X194.virtualBack hx (y := (⟨"com/example/ramp99/ramp99/service/replay/NumberSet", "lowest", "()I"⟩ : MethodName)) (z := (⟨"com/example/ramp99/ramp99/service/replay/NumberSet", "lowest", "()I"⟩ : MethodName)) hown (mvT hZ (hw _ (List.mem_of_getElem? (i := 33) rfl))) (mvT hZ (hw _ (List.mem_of_getElem? (i := 34) rfl))) (notFace_of_selects (args := #[]) (mvT hZ (hw _ (List.mem_of_getElem? (i := 36) rfl)))) (mvT hZ (hw _ (List.mem_of_getElem? (i := 36) rfl))) (mvT hZ (hw _ (List.mem_of_getElem? (i := 35) rfl))) (by decide) (backOf (W := 0) (own_rm6 l Z a0 hw [] b153 m4 h4_ (2 : Int32) f4 g4 M4 H4 S4 na h193 n0 Z193 E193_ F193_1 F193_2 F193_3 A193_m A193_h E193_m E193_h ge_b153 gm4 gh4 nam4 nah4 nmh4 J4 bM4 inA) hZ (hw _ (List.mem_of_getElem? (i := 37) rfl)) (hw _ (List.mem_of_getElem? (i := 2) rfl)) (by decide) (by decide)) q196a q196c (g := (mkF m 155 #[.val (.int p0), .val (.int p1), .val (.int p2), .val (.int p3), .val (.int p4), .val (.int rm), .val (.int va), .val (.int vb), .val (.int vc), .val (.ref b153), .val (.int (2 : Int32)), .val (.int vc), .val (.int va), .val (.int vb), .unset] [(.ref b153)])) rfl (by rw [hml]; rfl) (Steps.refl _) (argsL := []) (rest := []) (lenOf own_pd4 rfl) rfl (by show 2 * 0 + _ ≤ _; exact Nat.le_of_eq rfl) (hb hby at_155) (fun _ _ => ⟨rfl, e194, (by decide : 9 + 0 ≤ _), (by decide : 2077 + 0 ≤ _)⟩)
    dsimp only [Pt.U, Pt.locs, Pt.cells, Pt.slots] at X196 l196 y196 z196 st196 hQ196
    rw [l196, (show k196 = 9 from y196), (show n196 = 2077 from z196)] at X196
    obtain ⟨h196, e196⟩ : ∃ z, T196.heap = z := ⟨_, rfl⟩
    rw [e196] at hQ196
    obtain ⟨rlo, zlo, hq196, hzlo, hrlo, hmlo, N196q, q196⟩ := hQ196
    rw [q196] at e196
    rw [hq196] at st196
    have N196 := Fr.app N194 N196q
    refine own_trn st196 ?_
    show own_R p.tables e below P (T196.setTop (mkF m 158 #[.val (.int p0), .val (.int p1), .val (.int p2), .val (.int p3), .val (.int p4), .val (.int rm), .val (.int va), .val (.int vb), .val (.int vc), .val (.ref b153), .val (.int (2 : Int32)), .val (.int vc), .val (.int va), .val (.int vb), .unset] [(.int zlo)]))
    refine own_fwd (fun tt kt => XS.iload X196.here hx rfl (hb hby at_158) rfl kt) ?_
    show own_R p.tables e below P (T196.setTop (mkF m 160 #[.val (.int p0), .val (.int p1), .val (.int p2), .val (.int p3), .val (.int p4), .val (.int rm), .val (.int va), .val (.int vb), .val (.int vc), .val (.ref b153), .val (.int (2 : Int32)), .val (.int vc), .val (.int va), .val (.int vb), .unset] [(.int va), (.int zlo)]))
    have hc197 : zlo = va := own_lowest hS hAB hrlo hmlo hzlo hna
    refine own_fwd (fun tt kt => XS.icmpYes X196.here hx rfl (pc0 := 160) (pc' := 165) rfl (hb hby at_160) rfl (teq hc197).1 (by decide) (by decide) kt) ?_
    show own_R p.tables e below P (T196.setTop (mkF m 165 #[.val (.int p0), .val (.int p1), .val (.int p2), .val (.int p3), .val (.int p4), .val (.int rm), .val (.int va), .val (.int vb), .val (.int vc), .val (.ref b153), .val (.int (2 : Int32)), .val (.int vc), .val (.int va), .val (.int vb), .unset] []))
    refine own_fwd (fun tt kt => XS.aload X196.here hx rfl (hb hby at_165) rfl rfl kt) ?_
    show own_R p.tables e below P (T196.setTop (mkF m 167 #[.val (.int p0), .val (.int p1), .val (.int p2), .val (.int p3), .val (.int p4), .val (.int rm), .val (.int va), .val (.int vb), .val (.int vc), .val (.ref b153), .val (.int (2 : Int32)), .val (.int vc), .val (.int va), .val (.int vb), .unset] [(.ref b153)]))
    obtain ⟨cq198, kq198, q198a, q198b, q198c⟩ := isOf hZ e196 E193_
    obtain ⟨_, _, ⟨T198, L198, k198, n198⟩, -, X198, ⟨Lc198, hQ198, l198, y198, z198⟩, st198⟩ := X196.virtualBack hx (y := (⟨"com/example/ramp99/ramp99/service/replay/NumberSet", "highest", "()I"⟩ : MethodName)) (z := (⟨"com/example/ramp99/ramp99/service/replay/NumberSet", "highest", "()I"⟩ : MethodName)) hown (mvT hZ (hw _ (List.mem_of_getElem? (i := 47) rfl))) (mvT hZ (hw _ (List.mem_of_getElem? (i := 48) rfl))) (notFace_of_selects (args := #[]) (mvT hZ (hw _ (List.mem_of_getElem? (i := 50) rfl)))) (mvT hZ (hw _ (List.mem_of_getElem? (i := 50) rfl))) (mvT hZ (hw _ (List.mem_of_getElem? (i := 49) rfl))) (by decide) (backOf (W := 0) (own_rm9 l Z a0 hw [] b153 m4 h4_ (2 : Int32) f4 g4 M4 H4 S4 na h193 n0 Z193 E193_ F193_1 F193_2 F193_3 A193_m A193_h E193_m E193_h ge_b153 gm4 gh4 nam4 nah4 nmh4 J4 bM4 inA) hZ (hw _ (List.mem_of_getElem? (i := 51) rfl)) (hw _ (List.mem_of_getElem? (i := 2) rfl)) (by decide) (by decide)) q198a q198c (g := (mkF m 167 #[.val (.int p0), .val (.int p1), .val (.int p2), .val (.int p3), .val (.int p4), .val (.int rm), .val (.int va), .val (.int vb), .val (.int vc), .val (.ref b153), .val (.int (2 : Int32)), .val (.int vc), .val (.int va), .val (.int vb), .unset] [(.ref b153)])) rfl (by rw [hml]; rfl) (Steps.refl _) (argsL := []) (rest := []) (lenOf own_pd4 rfl) rfl (by show 2 * 0 + _ ≤ _; exact Nat.le_of_eq rfl) (hb hby at_167) (fun _ _ => ⟨rfl, e196, (by decide : 9 + 0 ≤ _), (by decide : 2077 + 0 ≤ _)⟩)
    dsimp only [Pt.U, Pt.locs, Pt.cells, Pt.slots] at X198 l198 y198 z198 st198 hQ198
    rw [l198, (show k198 = 9 from y198), (show n198 = 2077 from z198)] at X198
    obtain ⟨h198, e198⟩ : ∃ z, T198.heap = z := ⟨_, rfl⟩
    rw [e198] at hQ198
    obtain ⟨rhi, zhi, hq198, hzhi, hrhi, hmhi, N198q, q198⟩ := hQ198
    rw [q198] at e198
    rw [hq198] at st198
    have N198 := Fr.app N196 N198q
    refine own_trn st198 ?_
    show own_R p.tables e below P (T198.setTop (mkF m 170 #[.val (.int p0), .val (.int p1), .val (.int p2), .val (.int p3), .val (.int p4), .val (.int rm), .val (.int va), .val (.int vb), .val (.int vc), .val (.ref b153), .val (.int (2 : Int32)), .val (.int vc), .val (.int va), .val (.int vb), .unset] [(.int zhi)]))
    refine own_fwd (fun tt kt => XS.iload X198.here hx rfl (hb hby at_170) rfl kt) ?_
    show own_R p.tables e below P (T198.setTop (mkF m 172 #[.val (.int p0), .val (.int p1), .val (.int p2), .val (.int p3), .val (.int p4), .val (.int rm), .val (.int va), .val (.int vb), .val (.int vc), .val (.ref b153), .val (.int (2 : Int32)), .val (.int vc), .val (.int va), .val (.int vb), .unset] [(.int vb), (.int zhi)]))
    have hc199 : zhi = vb := own_highest hS hAB hrhi hmhi hzhi hnb
    refine own_fwd (fun tt kt => XS.icmpYes X198.here hx rfl (pc0 := 172) (pc' := 177) rfl (hb hby at_172) rfl (teq hc199).1 (by decide) (by decide) kt) ?_
    show own_R p.tables e below P (T198.setTop (mkF m 177 #[.val (.int p0), .val (.int p1), .val (.int p2), .val (.int p3), .val (.int p4), .val (.int rm), .val (.int va), .val (.int vb), .val (.int vc), .val (.ref b153), .val (.int (2 : Int32)), .val (.int vc), .val (.int va), .val (.int vb), .unset] []))
    refine own_fwd (fun tt kt => XS.aload X198.here hx rfl (hb hby at_177) rfl rfl kt) ?_
    show own_R p.tables e below P (T198.setTop (mkF m 179 #[.val (.int p0), .val (.int p1), .val (.int p2), .val (.int p3), .val (.int p4), .val (.int rm), .val (.int va), .val (.int vb), .val (.int vc), .val (.ref b153), .val (.int (2 : Int32)), .val (.int vc), .val (.int va), .val (.int vb), .unset] [(.ref b153)]))
    obtain ⟨cq200, kq200, q200a, q200b, q200c⟩ := isOf hZ e198 E193_
    obtain ⟨_, _, ⟨T200, L200, k200, n200⟩, -, X200, ⟨Lc200, hQ200, l200, y200, z200⟩, st200⟩ := X198.virtualBack hx (y := (⟨"com/example/ramp99/ramp99/service/replay/NumberSet", "toArray", "()[I"⟩ : MethodName)) (z := (⟨"com/example/ramp99/ramp99/service/replay/NumberSet", "toArray", "()[I"⟩ : MethodName)) hown (mvT hZ (hw _ (List.mem_of_getElem? (i := 58) rfl))) (mvT hZ (hw _ (List.mem_of_getElem? (i := 59) rfl))) (notFace_of_selects (args := #[]) (mvT hZ (hw _ (List.mem_of_getElem? (i := 61) rfl)))) (mvT hZ (hw _ (List.mem_of_getElem? (i := 61) rfl))) (mvT hZ (hw _ (List.mem_of_getElem? (i := 60) rfl))) (by decide) (backOf (W := 0) (own_rm12 l Z a0 hw [] b153 m4 h4_ f4 g4 M4 H4 S4 na nb h193 n0 Z193 E193_ F193_1 F193_2 F193_3 A193_m A193_h E193_m E193_h ge_b153 gm4 gh4 nam4 nah4 nmh4 J4 bM4 hAB hS) hZ (hw _ (List.mem_of_getElem? (i := 62) rfl)) (hw _ (List.mem_of_getElem? (i := 2) rfl)) (by decide) (by decide)) q200a q200c (g := (mkF m 179 #[.val (.int p0), .val (.int p1), .val (.int p2), .val (.int p3), .val (.int p4), .val (.int rm), .val (.int va), .val (.int vb), .val (.int vc), .val (.ref b153), .val (.int (2 : Int32)), .val (.int vc), .val (.int va), .val (.int vb), .unset] [(.ref b153)])) rfl (by rw [hml]; rfl) (Steps.refl _) (argsL := []) (rest := []) (lenOf own_pd5 rfl) rfl (by show 2 * 0 + _ ≤ _; exact Nat.le_of_eq rfl) (hb hby at_179) (fun _ _ => ⟨rfl, e198, (by decide : 9 + 1 ≤ _), (by decide : 2077 + 2 ≤ _)⟩)
    dsimp only [Pt.U, Pt.locs, Pt.cells, Pt.slots] at X200 l200 y200 z200 st200 hQ200
    rw [l200, (show k200 = 10 from y200), (show n200 = 2079 from z200)] at X200
    obtain ⟨h200, e200⟩ : ∃ z, T200.heap = z := ⟨_, rfl⟩
    rw [e200] at hQ200
    obtain ⟨bT, gT, hq200, N200q, geT, szT, K200, A200_, g0, g1⟩ := hQ200
    rw [hq200] at st200
    have N200 := Fr.app N198 N200q
    have Z200 : n0 ≤ h200.size := Nat.le_trans Z193 K200.1
    have Y200 : h0.size ≤ h200.size := Nat.le_trans Y193 K200.1
    refine own_trn st200 ?_
    show own_R p.tables e below P (T200.setTop (mkF m 182 #[.val (.int p0), .val (.int p1), .val (.int p2), .val (.int p3), .val (.int p4), .val (.int rm), .val (.int va), .val (.int vb), .val (.int vc), .val (.ref b153), .val (.int (2 : Int32)), .val (.int vc), .val (.int va), .val (.int vb), .unset] [(.ref bT)]))
    refine own_fwd (fun tt kt => XS.astore X200.here hx rfl (hb hby at_182) rfl rfl (l' := #[.val (.int p0), .val (.int p1), .val (.int p2), .val (.int p3), .val (.int p4), .val (.int rm), .val (.int va), .val (.int vb), .val (.int vc), .val (.ref b153), .val (.int (2 : Int32)), .val (.int vc), .val (.int va), .val (.int vb), .val (.ref bT)]) rfl kt) ?_
    show own_R p.tables e below P (T200.setTop (mkF m 184 #[.val (.int p0), .val (.int p1), .val (.int p2), .val (.int p3), .val (.int p4), .val (.int rm), .val (.int va), .val (.int vb), .val (.int vc), .val (.ref b153), .val (.int (2 : Int32)), .val (.int vc), .val (.int va), .val (.int vb), .val (.ref bT)] []))
    refine own_fwd (fun tt kt => XS.aload X200.here hx rfl (hb hby at_184) rfl rfl kt) ?_
    show own_R p.tables e below P (T200.setTop (mkF m 186 #[.val (.int p0), .val (.int p1), .val (.int p2), .val (.int p3), .val (.int p4), .val (.int rm), .val (.int va), .val (.int vb), .val (.int vc), .val (.ref b153), .val (.int (2 : Int32)), .val (.int vc), .val (.int va), .val (.int vb), .val (.ref bT)] [(.ref bT)]))
    refine own_fwd (own_len X200 hx hZ e200 A200_ (2 : Int32) (by decide) (g := (mkF m 186 #[.val (.int p0), .val (.int p1), .val (.int p2), .val (.int p3), .val (.int p4), .val (.int rm), .val (.int va), .val (.int vb), .val (.int vc), .val (.ref b153), .val (.int (2 : Int32)), .val (.int vc), .val (.int va), .val (.int vb), .val (.ref bT)] [(.ref bT)])) rfl rfl (hb hby at_186)) ?_
    show own_R p.tables e below P (T200.setTop (mkF m 187 #[.val (.int p0), .val (.int p1), .val (.int p2), .val (.int p3), .val (.int p4), .val (.int rm), .val (.int va), .val (.int vb), .val (.int vc), .val (.ref b153), .val (.int (2 : Int32)), .val (.int vc), .val (.int va), .val (.int vb), .val (.ref bT)] [(.int (2 : Int32))]))
    refine own_fwd (fun tt kt => XS.iconst X200.here hx rfl (hb hby at_187) kt) ?_
    show own_R p.tables e below P (T200.setTop (mkF m 188 #[.val (.int p0), .val (.int p1), .val (.int p2), .val (.int p3), .val (.int p4), .val (.int rm), .val (.int va), .val (.int vb), .val (.int vc), .val (.ref b153), .val (.int (2 : Int32)), .val (.int vc), .val (.int va), .val (.int vb), .val (.ref bT)] [(.int (2 : Int32)), (.int (2 : Int32))]))
    have hc201 : (2 : Int32) = (2 : Int32) := (by decide)
    refine own_fwd (fun tt kt => XS.icmpNo X200.here hx rfl (hb hby at_188) rfl (teq hc201).2 kt) ?_
    show own_R p.tables e below P (T200.setTop (mkF m 191 #[.val (.int p0), .val (.int p1), .val (.int p2), .val (.int p3), .val (.int p4), .val (.int rm), .val (.int va), .val (.int vb), .val (.int vc), .val (.ref b153), .val (.int (2 : Int32)), .val (.int vc), .val (.int va), .val (.int vb), .val (.ref bT)] []))
    refine own_fwd (fun tt kt => XS.aload X200.here hx rfl (hb hby at_191) rfl rfl kt) ?_
    show own_R p.tables e below P (T200.setTop (mkF m 193 #[.val (.int p0), .val (.int p1), .val (.int p2), .val (.int p3), .val (.int p4), .val (.int rm), .val (.int va), .val (.int vb), .val (.int vc), .val (.ref b153), .val (.int (2 : Int32)), .val (.int vc), .val (.int va), .val (.int vb), .val (.ref bT)] [(.ref bT)]))
    refine own_fwd (fun tt kt => XS.iconst X200.here hx rfl (hb hby at_193) kt) ?_
    show own_R p.tables e below P (T200.setTop (mkF m 194 #[.val (.int p0), .val (.int p1), .val (.int p2), .val (.int p3), .val (.int p4), .val (.int rm), .val (.int va), .val (.int vb), .val (.int vc), .val (.ref b153), .val (.int (2 : Int32)), .val (.int vc), .val (.int va), .val (.int vb), .val (.ref bT)] [(.int (0 : Int32)), (.ref bT)]))
    refine own_fwd (own_ldI X200 hx hZ e200 A200_ (j := (0 : Int32)) 0 (by decide) (by decide) (g := (mkF m 194 #[.val (.int p0), .val (.int p1), .val (.int p2), .val (.int p3), .val (.int p4), .val (.int rm), .val (.int va), .val (.int vb), .val (.int vc), .val (.ref b153), .val (.int (2 : Int32)), .val (.int vc), .val (.int va), .val (.int vb), .val (.ref bT)] [(.int (0 : Int32)), (.ref bT)])) rfl rfl (hb hby at_194)) ?_
    show own_R p.tables e below P (T200.setTop (mkF m 195 #[.val (.int p0), .val (.int p1), .val (.int p2), .val (.int p3), .val (.int p4), .val (.int rm), .val (.int va), .val (.int vb), .val (.int vc), .val (.ref b153), .val (.int (2 : Int32)), .val (.int vc), .val (.int va), .val (.int vb), .val (.ref bT)] [(.int (gT 0))]))
    refine own_fwd (fun tt kt => XS.iload X200.here hx rfl (hb hby at_195) rfl kt) ?_
    show own_R p.tables e below P (T200.setTop (mkF m 197 #[.val (.int p0), .val (.int p1), .val (.int p2), .val (.int p3), .val (.int p4), .val (.int rm), .val (.int va), .val (.int vb), .val (.int vc), .val (.ref b153), .val (.int (2 : Int32)), .val (.int vc), .val (.int va), .val (.int vb), .val (.ref bT)] [(.int va), (.int (gT 0))]))
    have hc202 : (gT 0) = va := Int32.toInt_inj.mp (g0.trans hna.symm)
    refine own_fwd (fun tt kt => XS.icmpNo X200.here hx rfl (hb hby at_197) rfl (teq hc202).2 kt) ?_
    show own_R p.tables e below P (T200.setTop (mkF m 200 #[.val (.int p0), .val (.int p1), .val (.int p2), .val (.int p3), .val (.int p4), .val (.int rm), .val (.int va), .val (.int vb), .val (.int vc), .val (.ref b153), .val (.int (2 : Int32)), .val (.int vc), .val (.int va), .val (.int vb), .val (.ref bT)] []))
    refine own_fwd (fun tt kt => XS.aload X200.here hx rfl (hb hby at_200) rfl rfl kt) ?_
    show own_R p.tables e below P (T200.setTop (mkF m 202 #[.val (.int p0), .val (.int p1), .val (.int p2), .val (.int p3), .val (.int p4), .val (.int rm), .val (.int va), .val (.int vb), .val (.int vc), .val (.ref b153), .val (.int (2 : Int32)), .val (.int vc), .val (.int va), .val (.int vb), .val (.ref bT)] [(.ref bT)]))
    refine own_fwd (fun tt kt => XS.iconst X200.here hx rfl (hb hby at_202) kt) ?_
    show own_R p.tables e below P (T200.setTop (mkF m 203 #[.val (.int p0), .val (.int p1), .val (.int p2), .val (.int p3), .val (.int p4), .val (.int rm), .val (.int va), .val (.int vb), .val (.int vc), .val (.ref b153), .val (.int (2 : Int32)), .val (.int vc), .val (.int va), .val (.int vb), .val (.ref bT)] [(.int (1 : Int32)), (.ref bT)]))
    refine own_fwd (own_ldI X200 hx hZ e200 A200_ (j := (1 : Int32)) 1 (by decide) (by decide) (g := (mkF m 203 #[.val (.int p0), .val (.int p1), .val (.int p2), .val (.int p3), .val (.int p4), .val (.int rm), .val (.int va), .val (.int vb), .val (.int vc), .val (.ref b153), .val (.int (2 : Int32)), .val (.int vc), .val (.int va), .val (.int vb), .val (.ref bT)] [(.int (1 : Int32)), (.ref bT)])) rfl rfl (hb hby at_203)) ?_
    show own_R p.tables e below P (T200.setTop (mkF m 204 #[.val (.int p0), .val (.int p1), .val (.int p2), .val (.int p3), .val (.int p4), .val (.int rm), .val (.int va), .val (.int vb), .val (.int vc), .val (.ref b153), .val (.int (2 : Int32)), .val (.int vc), .val (.int va), .val (.int vb), .val (.ref bT)] [(.int (gT 1))]))
    refine own_fwd (fun tt kt => XS.iload X200.here hx rfl (hb hby at_204) rfl kt) ?_
    show own_R p.tables e below P (T200.setTop (mkF m 206 #[.val (.int p0), .val (.int p1), .val (.int p2), .val (.int p3), .val (.int p4), .val (.int rm), .val (.int va), .val (.int vb), .val (.int vc), .val (.ref b153), .val (.int (2 : Int32)), .val (.int vc), .val (.int va), .val (.int vb), .val (.ref bT)] [(.int vb), (.int (gT 1))]))
    have hc203 : (gT 1) = vb := Int32.toInt_inj.mp (g1.trans hnb.symm)
    refine own_fwd (fun tt kt => XS.icmpNo X200.here hx rfl (hb hby at_206) rfl (teq hc203).2 kt) ?_
    show own_R p.tables e below P (T200.setTop (mkF m 209 #[.val (.int p0), .val (.int p1), .val (.int p2), .val (.int p3), .val (.int p4), .val (.int rm), .val (.int va), .val (.int vb), .val (.int vc), .val (.ref b153), .val (.int (2 : Int32)), .val (.int vc), .val (.int va), .val (.int vb), .val (.ref bT)] []))
    refine own_fwd (fun tt kt => XS.iconst X200.here hx rfl (hb hby at_209) kt) ?_
    show own_R p.tables e below P (T200.setTop (mkF m 210 #[.val (.int p0), .val (.int p1), .val (.int p2), .val (.int p3), .val (.int p4), .val (.int rm), .val (.int va), .val (.int vb), .val (.int vc), .val (.ref b153), .val (.int (2 : Int32)), .val (.int vc), .val (.int va), .val (.int vb), .val (.ref bT)] [(.int (1 : Int32))]))
    refine own_fwd (fun tt kt => XS.goto X200.here hx rfl (pc0 := 210) (pc' := 214) rfl (hb hby at_210) (by decide) (by decide) kt) ?_
    show own_R p.tables e below P (T200.setTop (mkF m 214 #[.val (.int p0), .val (.int p1), .val (.int p2), .val (.int p3), .val (.int p4), .val (.int rm), .val (.int va), .val (.int vb), .val (.int vc), .val (.ref b153), .val (.int (2 : Int32)), .val (.int vc), .val (.int va), .val (.int vb), .val (.ref bT)] [(.int (1 : Int32))]))
    obtain ⟨fs204, hr204, hrun204, hended204, hW204, hsame204⟩ := X200.leave (v := some (.int (1 : Int32))) (fun h => by rw [Bd.returns] at h; cases h)
    refine ⟨_, _, X200.ireturnOut hx (w := (1 : Int32)) Bd.returns rfl (by simp) (hb hby at_214) hr204, fin _ _ ⟨hrun204, hended204, _, _, rfl, ?_, ⟨_, rfl⟩, hW204, hsame204.mono (by decide) (by decide)⟩⟩
    show own_Qlaw Z p0 p1 p2 p3 p4 h0 n0 _ T200.heap _
    rw [e200]
    exact ⟨rfl, N200⟩
set_option maxRecDepth 65536 in
set_option maxHeartbeats 40000000 in
theorem own_comes {Post : Tables → Env → Array Value → State → Outcome → State → Prop} (hpost : ∀ tb e args s v u, (limb_1_1.after args s (.returned v) u = true ∧ limb_1_2.after args s (.returned v) u = true ∧ True) → FrameEnd s (.returned v) u (Jvm.fieldLocs frame_1_writes args s ++ Jvm.arrayLocs frame_1_arrays args s ++ Jvm.staticLocs frame_1_statics s) 32 2176 → Post tb e args s (.returned v) u) :
    ArmFor flags0 classFile x code maxLocals ret World_1 tables_1 room_1 Calls_1 rest_1 Pre_1 Post := by
  intro l hfl _ _ p e ha hc hk s m args below hf hA hF happ hP
  obtain ⟨hcalls, hrest, hpre⟩ := hP
  obtain ⟨-, -, -, hnamed, -, -, -, hat⟩ := (Spec.applies_iff hf).mp happ
  obtain ⟨hg, hn⟩ := and_e (Cond.before_iff.mp (show (Jvm.Cond.and given_1 narrow_1).before args s = true from hpre))
  obtain ⟨g1, g2⟩ := and_e hg
  obtain ⟨g3, g4⟩ := and_e g2
  obtain ⟨g5, g6⟩ := and_e g4
  obtain ⟨g7, g8⟩ := and_e g6
  obtain ⟨g9, g10⟩ := and_e g8
  obtain ⟨w0, w1, w2, w3, w4, rfl⟩ : ∃ w0 w1 w2 w3 w4 : Value, args = #[w0, w1, w2, w3, w4] := by
    have hs : args.size = 5 := by simpa [Cond.value, given_1] using g1
    obtain ⟨L⟩ := args
    match L, hs with
    | [w0, w1, w2, w3, w4], _ => exact ⟨w0, w1, w2, w3, w4, rfl⟩
  have hw := fun d (hd : d ∈ tables_1) => atoms_spec (ws := Jvm.Cond.code x code maxLocals ret :: tables_1) hat d (List.mem_cons_of_mem _ hd)
  obtain ⟨i0, ei0⟩ := is_v g3
  obtain rfl : w0 = (.int i0) := Option.some.inj ei0
  obtain ⟨i1, ei1⟩ := is_v g5
  obtain rfl : w1 = (.int i1) := Option.some.inj ei1
  obtain ⟨i2, ei2⟩ := is_v g7
  obtain rfl : w2 = (.int i2) := Option.some.inj ei2
  obtain ⟨i3, ei3⟩ := is_v g9
  obtain rfl : w3 = (.int i3) := Option.some.inj ei3
  obtain ⟨i4, ei4⟩ := is_v g10
  obtain rfl : w4 = (.int i4) := Option.some.inj ei4
  obtain ⟨n, o, h1, h2, h3, _, L, rfl, ⟨rfl, N⟩, hq⟩ := own_rmlaw l s _ hw tables_1 i0 i1 i2 i3 i4 s.heap s.heap.size (Nat.le_refl _) p e ha hc hk s m _ below hf ((Spec.applies_iff_loose hf).mp happ).1 ⟨rfl, State.Warmed39.refl s, rfl⟩ trivial
  refine ⟨n, _, h1, h2, h3, hpost _ _ _ _ _ _ ⟨Cond.after_iff.mpr rfl, Cond.after_iff.mpr (eq_i res_at (Term.int_eval (1)) rfl), trivial⟩ ⟨hq.1, hq.2.1, (hq.2.2.sift fun y hy => Or.inr (N y hy)).mono (by decide) (by decide)⟩⟩
theorem main_1_1 : Claimed_1_1 := own_comes fun _ _ _ _ _ _ h hF => ⟨h.1, hF⟩
theorem main_1_2 : Claimed_1_2 := own_comes fun _ _ _ _ _ _ h hF => ⟨h.2.1, hF⟩
end Jvm.Pilot.@@N@@
namespace Jvm.Pilot.@@N@@
open Jvm Jvm.ClassFile Sem Op Lib Jvm.Free Jvm.Stand Jvm.Pilot.@@N@@.Jvm.D
/-! MADE BY PROGRAM (witnessworld.py) out of the Statement's table words and the real class files: 20 classes; the members and pool entries that the words name. The judged class is class 1, her method 1. -/
namespace start1
open Jvm.ClassFile
def u (s : String) : CpInfo := .utf8 (stringToUtf16 s)
/-- a pool by its gaps: so many unusable entries, then the entry; so many at the end -/
def gap : Nat → List CpInfo → List CpInfo
  | 0, r => r
  | n + 1, r => .unusable :: gap n r
def poolList (es : List (Nat × CpInfo)) (last : Nat) : List CpInfo := es.foldr (fun e r => gap e.1 (e.2 :: r)) (gap last [])
def pool (es : List (Nat × CpInfo)) (last : Nat) : Array CpInfo := ⟨poolList es last⟩
def fileOf (pool : Array CpInfo) (this : Nat) (attrs : Array Attribute := #[]) (ms : Array MethodInfo := #[]) (fl : Nat := 33) (sup : Nat := 0) (ifs : Array Nat := #[]) (fds : Array FieldInfo := #[]) : ClassFile where
  minorVersion := 0
  majorVersion := 65
  constantPool := pool
  accessFlags := fl
  thisClass := this
  superClass := sup
  interfaces := ifs
  fields := fds
  methods := ms
  attributes := attrs
def plain (name : String) (sup : Option ClassId) : Class where
  name := name
  kind := .ordinary
  loader := none
  accessFlags := 33
  super := sup
  interfaces := #[]
  cf := none
  fields := #[]
  methods := #[]
  instanceTypes := #[]
  staticTypes := #[]
  resolved := #[]
  callSites := []
  init := .initialized
  statics := none
  mirror := none

def pool0 : Array CpInfo := pool [(5, u "<init>"), (0, u "()V"), (1, .class_ 10), (1, u "java/lang/Object"), (85, u "clone"), (0, u "()Ljava/lang/Object;")] 26

def k0c0 : Code := { maxStack := 0, maxLocals := 1, code := object_method_1_code, exceptionTable := #[], attributes := #[] }
def k0m0 : Method := { name := "<init>", desc := "()V", sig := { parameters := [], returnType := none }, accessFlags := 1, code := some k0c0 }
def k0m1 : Method := { name := "clone", desc := "()Ljava/lang/Object;", sig := { parameters := [], returnType := some (.object "java/lang/Object") }, accessFlags := 260, code := none }
/-- java/lang/Object -/
def k0 : Class := { plain "java/lang/Object" none with
  accessFlags := 33
  interfaces := #[]
  cf := some (fileOf pool0 8 #[] #[{ accessFlags := 1, nameIndex := 5, descriptorIndex := 6, attributes := #[] }, { accessFlags := 260, nameIndex := 96, descriptorIndex := 97, attributes := #[] }] 33 0 #[] #[])
  fields := #[]
  methods := #[k0m0, k0m1]
  instanceTypes := #[]
  staticTypes := #[]
  resolved := Array.replicate 124 none
  statics := none }

def pool1 : Array CpInfo := pool [(2, .class_ 4), (1, u "java/lang/Object"), (0, u "<init>"), (0, u "()V"), (0, .class_ 8), (0, u "com/example/ramp99/ramp99/service/replay/NumberSet"), (0, .methodref 7 10), (0, .nameAndType 5 11), (0, u "(I)V"), (0, .methodref 7 13), (0, .nameAndType 14 11), (0, u "add"), (0, .integer 2147483647), (0, .methodref 7 17), (0, .nameAndType 18 11), (0, u "remove"), (0, .methodref 7 20), (0, .nameAndType 21 22), (0, u "size"), (0, u "()I"), (0, .methodref 7 24), (0, .nameAndType 25 22), (0, u "lowest"), (0, .methodref 7 27), (0, .nameAndType 28 22), (0, u "highest"), (0, .methodref 7 30), (0, .nameAndType 31 32), (0, u "toArray"), (0, u "()[I"), (0, .class_ 34), (0, u "com/example/ramp99/ramp99/service/replay/NumberSetRemovePinLaw"), (2, u "law"), (0, u "(IIIII)Z")] 5

def k1m0 : Method := { name := "<init>", desc := "()V", sig := { parameters := [], returnType := none }, accessFlags := 1, code := none }
def k1c1 : Code := { maxStack := 3, maxLocals := 15, code := code, exceptionTable := #[], attributes := #[] }
def k1m1 : Method := { name := "law", desc := "(IIIII)Z", sig := { parameters := [.int, .int, .int, .int, .int], returnType := some .boolean }, accessFlags := 9, code := some k1c1 }
/-- com/example/ramp99/ramp99/service/replay/NumberSetRemovePinLaw -/
def k1 : Class := { plain "com/example/ramp99/ramp99/service/replay/NumberSetRemovePinLaw" (some 0) with
  accessFlags := 49
  interfaces := #[]
  cf := some (fileOf pool1 33 #[] #[{ accessFlags := 1, nameIndex := 5, descriptorIndex := 6, attributes := #[] }, { accessFlags := 9, nameIndex := 37, descriptorIndex := 38, attributes := #[] }] 49 2 #[] #[])
  fields := #[]
  methods := #[k1m0, k1m1]
  instanceTypes := #[]
  staticTypes := #[]
  resolved := Array.replicate 44 none
  statics := none }

def pool2 : Array CpInfo := pool [(1, .class_ 2), (0, u "java/lang/Long"), (1, .class_ 6), (1, u "com/example/ramp99/ramp99/service/replay/NumberSet"), (0, u "<init>"), (0, u "(I)V"), (0, .methodref 10 11), (0, .class_ 12), (0, .nameAndType 7 13), (0, u "java/lang/Object"), (0, u "()V"), (0, .fieldref 4 15), (0, .nameAndType 16 17), (0, u "members"), (0, u "[J"), (0, .fieldref 4 19), (0, .nameAndType 20 17), (0, u "holding"), (0, .fieldref 4 22), (0, .nameAndType 23 24), (0, u "size"), (0, u "I"), (0, .methodref 26 27), (0, .class_ 28), (0, .nameAndType 29 30), (0, u "java/lang/Math"), (0, u "max"), (0, u "(II)I"), (0, .methodref 32 33), (0, .class_ 34), (0, .nameAndType 35 36), (0, u "java/util/Arrays"), (0, u "copyOf"), (0, u "([JI)[J"), (0, .long 18446744073709551615), (5, .methodref 1 44), (0, .nameAndType 45 46), (0, u "numberOfTrailingZeros"), (0, u "(J)I"), (0, .methodref 1 48), (0, .nameAndType 49 46), (0, u "numberOfLeadingZeros"), (2, u "()I"), (3, u "add"), (0, u "remove"), (1, u "lowest"), (0, u "highest"), (0, u "toArray"), (0, u "()[I")] 4

def k2m0 : Method := { name := "<init>", desc := "()V", sig := { parameters := [], returnType := none }, accessFlags := 0, code := none }
def k2c1 : Code := { maxStack := 3, maxLocals := 2, code := prog_129_method_2_code, exceptionTable := #[], attributes := #[] }
def k2m1 : Method := { name := "<init>", desc := "(I)V", sig := { parameters := [.int], returnType := none }, accessFlags := 0, code := some k2c1 }
def k2c2 : Code := { maxStack := 1, maxLocals := 1, code := prog_129_method_3_code, exceptionTable := #[], attributes := #[] }
def k2m2 : Method := { name := "size", desc := "()I", sig := { parameters := [], returnType := some .int }, accessFlags := 0, code := some k2c2 }
def k2c3 : Code := { maxStack := 7, maxLocals := 3, code := prog_129_method_5_code, exceptionTable := #[], attributes := #[] }
def k2m3 : Method := { name := "add", desc := "(I)V", sig := { parameters := [.int], returnType := none }, accessFlags := 0, code := some k2c3 }
def k2c4 : Code := { maxStack := 8, maxLocals := 3, code := prog_129_method_6_code, exceptionTable := #[], attributes := #[] }
def k2m4 : Method := { name := "remove", desc := "(I)V", sig := { parameters := [.int], returnType := none }, accessFlags := 0, code := some k2c4 }
def k2c5 : Code := { maxStack := 4, maxLocals := 3, code := prog_129_method_8_code, exceptionTable := #[], attributes := #[] }
def k2m5 : Method := { name := "lowest", desc := "()I", sig := { parameters := [], returnType := some .int }, accessFlags := 0, code := some k2c5 }
def k2c6 : Code := { maxStack := 4, maxLocals := 3, code := prog_129_method_9_code, exceptionTable := #[], attributes := #[] }
def k2m6 : Method := { name := "highest", desc := "()I", sig := { parameters := [], returnType := some .int }, accessFlags := 0, code := some k2c6 }
def k2c7 : Code := { maxStack := 6, maxLocals := 6, code := prog_129_method_10_code, exceptionTable := #[], attributes := #[] }
def k2m7 : Method := { name := "toArray", desc := "()[I", sig := { parameters := [], returnType := some (.array .int) }, accessFlags := 0, code := some k2c7 }
/-- com/example/ramp99/ramp99/service/replay/NumberSet -/
def k2 : Class := { plain "com/example/ramp99/ramp99/service/replay/NumberSet" (some 0) with
  accessFlags := 48
  interfaces := #[]
  cf := some (fileOf pool2 4 #[] #[{ accessFlags := 0, nameIndex := 7, descriptorIndex := 13, attributes := #[] }, { accessFlags := 0, nameIndex := 7, descriptorIndex := 8, attributes := #[] }, { accessFlags := 0, nameIndex := 23, descriptorIndex := 52, attributes := #[] }, { accessFlags := 0, nameIndex := 56, descriptorIndex := 8, attributes := #[] }, { accessFlags := 0, nameIndex := 57, descriptorIndex := 8, attributes := #[] }, { accessFlags := 0, nameIndex := 59, descriptorIndex := 52, attributes := #[] }, { accessFlags := 0, nameIndex := 60, descriptorIndex := 52, attributes := #[] }, { accessFlags := 0, nameIndex := 61, descriptorIndex := 62, attributes := #[] }] 48 10 #[] #[{ accessFlags := 2, nameIndex := 16, descriptorIndex := 17, attributes := #[] }, { accessFlags := 2, nameIndex := 20, descriptorIndex := 17, attributes := #[] }, { accessFlags := 2, nameIndex := 23, descriptorIndex := 24, attributes := #[] }])
  fields := #[{ name := "members", type := (.array .long), accessFlags := 2, slot := 0, constantValue := 0 }, { name := "holding", type := (.array .long), accessFlags := 2, slot := 1, constantValue := 0 }, { name := "size", type := .int, accessFlags := 2, slot := 2, constantValue := 0 }]
  methods := #[k2m0, k2m1, k2m2, k2m3, k2m4, k2m5, k2m6, k2m7]
  instanceTypes := #[(.array .long), (.array .long), .int]
  staticTypes := #[]
  resolved := Array.replicate 67 none
  statics := none }

def pool3 : Array CpInfo := pool [(1, .class_ 2), (0, u "java/io/Serializable"), (0, .class_ 4), (0, u "java/lang/Object")] 2

/-- java/io/Serializable -/
def k3 : Class := { plain "java/io/Serializable" (some 0) with
  accessFlags := 1537
  interfaces := #[]
  cf := some (fileOf pool3 1 #[] #[] 1537 3 #[] #[])
  fields := #[]
  methods := #[]
  instanceTypes := #[]
  staticTypes := #[]
  resolved := Array.replicate 7 none
  statics := none }

def pool4 : Array CpInfo := pool [(2, .class_ 4), (1, u "java/lang/Object"), (0, u "<init>"), (0, u "()V"), (1, .class_ 10), (1, u "java/lang/Number"), (2, .class_ 14), (0, u "java/io/Serializable"), (0, u "serialVersionUID"), (0, u "J")] 20

def k4m0 : Method := { name := "<init>", desc := "()V", sig := { parameters := [], returnType := none }, accessFlags := 1, code := none }
/-- java/lang/Number -/
def k4 : Class := { plain "java/lang/Number" (some 0) with
  accessFlags := 1057
  interfaces := #[3]
  cf := some (fileOf pool4 8 #[] #[{ accessFlags := 1, nameIndex := 5, descriptorIndex := 6, attributes := #[] }] 1057 2 #[13] #[{ accessFlags := 26, nameIndex := 15, descriptorIndex := 16, attributes := #[] }])
  fields := #[{ name := "serialVersionUID", type := .long, accessFlags := 26, slot := 0, constantValue := 0 }]
  methods := #[k4m0]
  instanceTypes := #[]
  staticTypes := #[.long]
  resolved := Array.replicate 37 none
  statics := none }

def pool5 : Array CpInfo := pool [(1, .class_ 2), (0, u "java/lang/Comparable"), (0, .class_ 4), (0, u "java/lang/Object")] 7

/-- java/lang/Comparable -/
def k5 : Class := { plain "java/lang/Comparable" (some 0) with
  accessFlags := 1537
  interfaces := #[]
  cf := some (fileOf pool5 1 #[] #[] 1537 3 #[] #[])
  fields := #[]
  methods := #[]
  instanceTypes := #[]
  staticTypes := #[]
  resolved := Array.replicate 12 none
  statics := none }

def pool6 : Array CpInfo := pool [(1, .class_ 2), (0, u "java/lang/constant/Constable"), (0, .class_ 4), (0, u "java/lang/Object")] 6

/-- java/lang/constant/Constable -/
def k6 : Class := { plain "java/lang/constant/Constable" (some 0) with
  accessFlags := 1537
  interfaces := #[]
  cf := some (fileOf pool6 1 #[] #[] 1537 3 #[] #[])
  fields := #[]
  methods := #[]
  instanceTypes := #[]
  staticTypes := #[]
  resolved := Array.replicate 11 none
  statics := none }

def pool7 : Array CpInfo := pool [(1, .class_ 2), (0, u "java/lang/constant/ConstantDesc"), (0, .class_ 4), (0, u "java/lang/Object")] 32

/-- java/lang/constant/ConstantDesc -/
def k7 : Class := { plain "java/lang/constant/ConstantDesc" (some 0) with
  accessFlags := 1537
  interfaces := #[]
  cf := some (fileOf pool7 1 #[] #[] 1537 3 #[] #[])
  fields := #[]
  methods := #[]
  instanceTypes := #[]
  staticTypes := #[]
  resolved := Array.replicate 37 none
  statics := none }

def pool8 : Array CpInfo := pool [(1, .class_ 2), (0, u "java/lang/Long"), (15, .class_ 20), (1, u "java/lang/Integer"), (79, u "numberOfLeadingZeros"), (0, u "(J)I"), (133, .class_ 237), (1, u "java/lang/Long$LongCache"), (33, .class_ 272), (0, u "java/lang/Number"), (2, u "value"), (0, u "J"), (31, .methodref 18 309), (0, .nameAndType 100 310), (0, u "(I)I"), (0, .methodref 18 312), (0, .nameAndType 313 310), (0, u "numberOfTrailingZeros"), (47, u "TYPE"), (0, u "Ljava/lang/Class;"), (0, .class_ 364), (0, u "java/lang/Comparable"), (0, .class_ 366), (0, u "java/lang/constant/Constable"), (0, .class_ 368), (0, u "java/lang/constant/ConstantDesc"), (0, u "MIN_VALUE"), (1, u "MAX_VALUE"), (4, u "SIZE"), (0, u "I"), (1, u "BYTES"), (1, u "serialVersionUID")] 142

def k8c0 : Code := { maxStack := 3, maxLocals := 3, code := jdk_35_method_48_code, exceptionTable := #[], attributes := #[] }
def k8m0 : Method := { name := "numberOfLeadingZeros", desc := "(J)I", sig := { parameters := [.long], returnType := some .int }, accessFlags := 9, code := some k8c0 }
def k8c1 : Code := { maxStack := 4, maxLocals := 3, code := jdk_35_method_49_code, exceptionTable := #[], attributes := #[] }
def k8m1 : Method := { name := "numberOfTrailingZeros", desc := "(J)I", sig := { parameters := [.long], returnType := some .int }, accessFlags := 9, code := some k8c1 }
/-- java/lang/Long -/
def k8 : Class := { plain "java/lang/Long" (some 4) with
  accessFlags := 49
  interfaces := #[5, 6, 7]
  cf := some (fileOf pool8 1 #[.nestMembers #[235]] #[{ accessFlags := 9, nameIndex := 100, descriptorIndex := 101, attributes := #[] }, { accessFlags := 9, nameIndex := 313, descriptorIndex := 101, attributes := #[] }] 49 271 #[363, 365, 367] #[{ accessFlags := 25, nameIndex := 369, descriptorIndex := 276, attributes := #[] }, { accessFlags := 25, nameIndex := 371, descriptorIndex := 276, attributes := #[] }, { accessFlags := 25, nameIndex := 361, descriptorIndex := 362, attributes := #[] }, { accessFlags := 18, nameIndex := 275, descriptorIndex := 276, attributes := #[] }, { accessFlags := 25, nameIndex := 376, descriptorIndex := 377, attributes := #[] }, { accessFlags := 25, nameIndex := 379, descriptorIndex := 377, attributes := #[] }, { accessFlags := 26, nameIndex := 381, descriptorIndex := 276, attributes := #[] }])
  fields := #[{ name := "MIN_VALUE", type := .long, accessFlags := 25, slot := 0, constantValue := 0 }, { name := "MAX_VALUE", type := .long, accessFlags := 25, slot := 1, constantValue := 0 }, { name := "TYPE", type := (.object "java/lang/Class"), accessFlags := 25, slot := 2, constantValue := 0 }, { name := "value", type := .long, accessFlags := 18, slot := 0, constantValue := 0 }, { name := "SIZE", type := .int, accessFlags := 25, slot := 3, constantValue := 0 }, { name := "BYTES", type := .int, accessFlags := 25, slot := 4, constantValue := 0 }, { name := "serialVersionUID", type := .long, accessFlags := 26, slot := 5, constantValue := 0 }]
  methods := #[k8m0, k8m1]
  instanceTypes := #[.long]
  staticTypes := #[.long, .long, (.object "java/lang/Class"), .int, .int, .long]
  resolved := Array.replicate 524 none
  statics := none }

def pool9 : Array CpInfo := pool [(1, .class_ 2), (0, u "java/lang/Integer"), (16, u "digits"), (0, u "[C"), (32, u "numberOfLeadingZeros"), (0, u "(I)I"), (30, u "DigitOnes"), (0, u "[B"), (2, u "DigitTens"), (99, .class_ 190), (0, u "java/lang/Integer$IntegerCache"), (3, u "I"), (8, .class_ 204), (0, u "java/lang/Number"), (2, u "value"), (56, .integer 65536), (37, u "TYPE"), (0, u "Ljava/lang/Class;"), (0, .class_ 305), (0, u "java/lang/Comparable"), (0, .class_ 307), (0, u "java/lang/constant/Constable"), (0, .class_ 309), (0, u "java/lang/constant/ConstantDesc"), (0, u "MIN_VALUE"), (1, u "MAX_VALUE"), (3, u "SIZE"), (1, u "BYTES"), (1, u "serialVersionUID"), (0, u "J"), (84, u "numberOfTrailingZeros")] 46

def k9c0 : Code := { maxStack := 3, maxLocals := 2, code := jdk_33_method_47_code, exceptionTable := #[], attributes := #[] }
def k9m0 : Method := { name := "numberOfLeadingZeros", desc := "(I)I", sig := { parameters := [.int], returnType := some .int }, accessFlags := 9, code := some k9c0 }
def k9c1 : Code := { maxStack := 3, maxLocals := 2, code := jdk_33_method_48_code, exceptionTable := #[], attributes := #[] }
def k9m1 : Method := { name := "numberOfTrailingZeros", desc := "(I)I", sig := { parameters := [.int], returnType := some .int }, accessFlags := 9, code := some k9c1 }
/-- java/lang/Integer -/
def k9 : Class := { plain "java/lang/Integer" (some 4) with
  accessFlags := 49
  interfaces := #[5, 6, 7]
  cf := some (fileOf pool9 1 #[.nestMembers #[189]] #[{ accessFlags := 9, nameIndex := 53, descriptorIndex := 54, attributes := #[] }, { accessFlags := 9, nameIndex := 406, descriptorIndex := 54, attributes := #[] }] 49 203 #[304, 306, 308] #[{ accessFlags := 25, nameIndex := 310, descriptorIndex := 194, attributes := #[] }, { accessFlags := 25, nameIndex := 312, descriptorIndex := 194, attributes := #[] }, { accessFlags := 25, nameIndex := 302, descriptorIndex := 303, attributes := #[] }, { accessFlags := 24, nameIndex := 19, descriptorIndex := 20, attributes := #[] }, { accessFlags := 24, nameIndex := 89, descriptorIndex := 86, attributes := #[] }, { accessFlags := 24, nameIndex := 85, descriptorIndex := 86, attributes := #[] }, { accessFlags := 18, nameIndex := 207, descriptorIndex := 194, attributes := #[] }, { accessFlags := 25, nameIndex := 316, descriptorIndex := 194, attributes := #[] }, { accessFlags := 25, nameIndex := 318, descriptorIndex := 194, attributes := #[] }, { accessFlags := 26, nameIndex := 320, descriptorIndex := 321, attributes := #[] }])
  fields := #[{ name := "MIN_VALUE", type := .int, accessFlags := 25, slot := 0, constantValue := 0 }, { name := "MAX_VALUE", type := .int, accessFlags := 25, slot := 1, constantValue := 0 }, { name := "TYPE", type := (.object "java/lang/Class"), accessFlags := 25, slot := 2, constantValue := 0 }, { name := "digits", type := (.array .char), accessFlags := 24, slot := 3, constantValue := 0 }, { name := "DigitTens", type := (.array .byte), accessFlags := 24, slot := 4, constantValue := 0 }, { name := "DigitOnes", type := (.array .byte), accessFlags := 24, slot := 5, constantValue := 0 }, { name := "value", type := .int, accessFlags := 18, slot := 0, constantValue := 0 }, { name := "SIZE", type := .int, accessFlags := 25, slot := 6, constantValue := 0 }, { name := "BYTES", type := .int, accessFlags := 25, slot := 7, constantValue := 0 }, { name := "serialVersionUID", type := .long, accessFlags := 26, slot := 8, constantValue := 0 }]
  methods := #[k9m0, k9m1]
  instanceTypes := #[.int]
  staticTypes := #[.int, .int, (.object "java/lang/Class"), (.array .char), (.array .byte), (.array .byte), .int, .int, .long]
  resolved := Array.replicate 453 none
  statics := none }

def pool10 : Array CpInfo := pool [(1, .class_ 2), (0, u "java/lang/Math"), (1, .class_ 6), (1, u "java/lang/Object"), (0, u "<init>"), (0, u "()V"), (89, .class_ 100), (1, u "java/lang/Math$RandomNumberGeneratorHolder"), (71, u "negativeZeroFloatBits"), (0, u "J"), (2, u "negativeZeroDoubleBits"), (21, u "max"), (2, u "min"), (43, u "$assertionsDisabled"), (0, u "Z"), (88, u "(II)I"), (2, u "twoToTheDoubleScaleDown"), (0, u "D"), (4, u "twoToTheDoubleScaleUp"), (9, u "E"), (3, u "PI"), (2, u "TAU"), (2, u "DEGREES_TO_RADIANS"), (0, u "RADIANS_TO_DEGREES")] 94

def k10m0 : Method := { name := "<init>", desc := "()V", sig := { parameters := [], returnType := none }, accessFlags := 2, code := none }
def k10c1 : Code := { maxStack := 2, maxLocals := 2, code := jdk_29_method_65_code, exceptionTable := #[], attributes := #[] }
def k10m1 : Method := { name := "max", desc := "(II)I", sig := { parameters := [.int, .int], returnType := some .int }, accessFlags := 9, code := some k10c1 }
def k10c2 : Code := { maxStack := 2, maxLocals := 2, code := jdk_29_method_69_code, exceptionTable := #[], attributes := #[] }
def k10m2 : Method := { name := "min", desc := "(II)I", sig := { parameters := [.int, .int], returnType := some .int }, accessFlags := 9, code := some k10c2 }
/-- java/lang/Math -/
def k10 : Class := { plain "java/lang/Math" (some 0) with
  accessFlags := 49
  interfaces := #[]
  cf := some (fileOf pool10 1 #[.nestMembers #[98]] #[{ accessFlags := 2, nameIndex := 7, descriptorIndex := 8, attributes := #[] }, { accessFlags := 9, nameIndex := 198, descriptorIndex := 335, attributes := #[] }, { accessFlags := 9, nameIndex := 201, descriptorIndex := 335, attributes := #[] }] 49 4 #[] #[{ accessFlags := 25, nameIndex := 354, descriptorIndex := 339, attributes := #[] }, { accessFlags := 25, nameIndex := 358, descriptorIndex := 339, attributes := #[] }, { accessFlags := 25, nameIndex := 361, descriptorIndex := 339, attributes := #[] }, { accessFlags := 26, nameIndex := 364, descriptorIndex := 339, attributes := #[] }, { accessFlags := 26, nameIndex := 365, descriptorIndex := 339, attributes := #[] }, { accessFlags := 26, nameIndex := 172, descriptorIndex := 173, attributes := #[] }, { accessFlags := 26, nameIndex := 176, descriptorIndex := 173, attributes := #[] }, { accessFlags := 8, nameIndex := 344, descriptorIndex := 339, attributes := #[] }, { accessFlags := 8, nameIndex := 338, descriptorIndex := 339, attributes := #[] }, { accessFlags := 4120, nameIndex := 245, descriptorIndex := 246, attributes := #[] }])
  fields := #[{ name := "E", type := .double, accessFlags := 25, slot := 0, constantValue := 0 }, { name := "PI", type := .double, accessFlags := 25, slot := 1, constantValue := 0 }, { name := "TAU", type := .double, accessFlags := 25, slot := 2, constantValue := 0 }, { name := "DEGREES_TO_RADIANS", type := .double, accessFlags := 26, slot := 3, constantValue := 0 }, { name := "RADIANS_TO_DEGREES", type := .double, accessFlags := 26, slot := 4, constantValue := 0 }, { name := "negativeZeroFloatBits", type := .long, accessFlags := 26, slot := 5, constantValue := 0 }, { name := "negativeZeroDoubleBits", type := .long, accessFlags := 26, slot := 6, constantValue := 0 }, { name := "twoToTheDoubleScaleUp", type := .double, accessFlags := 8, slot := 7, constantValue := 0 }, { name := "twoToTheDoubleScaleDown", type := .double, accessFlags := 8, slot := 8, constantValue := 0 }, { name := "$assertionsDisabled", type := .boolean, accessFlags := 4120, slot := 9, constantValue := 0 }]
  methods := #[k10m0, k10m1, k10m2]
  instanceTypes := #[]
  staticTypes := #[.double, .double, .double, .double, .double, .long, .long, .double, .double, .boolean]
  resolved := Array.replicate 460 none
  statics := none }

def pool11 : Array CpInfo := pool [(2, .class_ 4), (1, u "java/lang/Object"), (0, u "<init>"), (0, u "()V"), (7, .class_ 16), (1, u "java/util/Arrays"), (57, .class_ 76), (1, u "java/util/Arrays$NaturalOrder"), (32, u "()Ljava/lang/Object;"), (3, .class_ 115), (1, u "java/util/Arrays$LegacyMergeSort"), (1, u "Z"), (10, .nameAndType 129 109), (0, u "clone"), (20, .methodref 151 152), (0, .class_ 153), (0, .nameAndType 154 155), (0, u "java/lang/System"), (0, u "arraycopy"), (0, u "(Ljava/lang/Object;ILjava/lang/Object;II)V"), (146, u "copyOf"), (1, .methodref 305 306), (0, .class_ 307), (0, .nameAndType 308 309), (0, u "java/lang/Math"), (0, u "min"), (0, u "(II)I"), (9, .methodref 320 128), (0, .class_ 321), (0, u "[J"), (53, .class_ 376), (0, u "java/util/Arrays$ArrayList"), (68, u "$assertionsDisabled"), (269, u "MIN_ARRAY_SORT_GRAN"), (0, u "I"), (2, u "INSERTIONSORT_THRESHOLD"), (152, u "([JI)[J"), (102, .class_ 976), (0, u "java/util/Arrays$ArrayItr")] 52

def k11m0 : Method := { name := "<init>", desc := "()V", sig := { parameters := [], returnType := none }, accessFlags := 2, code := none }
def k11c1 : Code := { maxStack := 6, maxLocals := 3, code := jdk_65_method_124_code, exceptionTable := #[], attributes := #[] }
def k11m1 : Method := { name := "copyOf", desc := "([JI)[J", sig := { parameters := [(.array .long), .int], returnType := some (.array .long) }, accessFlags := 9, code := some k11c1 }
/-- java/util/Arrays -/
def k11 : Class := { plain "java/util/Arrays" (some 0) with
  accessFlags := 49
  interfaces := #[]
  cf := some (fileOf pool11 14 #[.nestMembers #[975, 375, 113, 74]] #[{ accessFlags := 2, nameIndex := 5, descriptorIndex := 6, attributes := #[] }, { accessFlags := 9, nameIndex := 302, descriptorIndex := 872, attributes := #[] }] 49 2 #[] #[{ accessFlags := 26, nameIndex := 715, descriptorIndex := 716, attributes := #[] }, { accessFlags := 26, nameIndex := 719, descriptorIndex := 716, attributes := #[] }, { accessFlags := 4120, nameIndex := 445, descriptorIndex := 117, attributes := #[] }])
  fields := #[{ name := "MIN_ARRAY_SORT_GRAN", type := .int, accessFlags := 26, slot := 0, constantValue := 0 }, { name := "INSERTIONSORT_THRESHOLD", type := .int, accessFlags := 26, slot := 1, constantValue := 0 }, { name := "$assertionsDisabled", type := .boolean, accessFlags := 4120, slot := 2, constantValue := 0 }]
  methods := #[k11m0, k11m1]
  instanceTypes := #[]
  staticTypes := #[.int, .int, .boolean]
  resolved := Array.replicate 1029 none
  statics := none }

def pool12 : Array CpInfo := pool [(2, .class_ 4), (1, u "java/lang/Object"), (0, u "<init>"), (0, u "()V"), (1, .class_ 10), (1, u "java/lang/System"), (0, u "allowSecurityManager"), (0, u "I"), (16, u "cons"), (0, u "Ljava/io/Console;"), (77, .class_ 110), (1, u "java/lang/System$CallersHolder"), (43, u "initialErrStream"), (0, u "Ljava/io/PrintStream;"), (19, u "security"), (0, u "Ljava/lang/SecurityManager;"), (31, .class_ 209), (0, u "java/lang/System$1"), (7, u "props"), (0, u "Ljava/util/Properties;"), (2, u "lineSeparator"), (0, u "Ljava/lang/String;"), (96, .class_ 321), (1, u "java/lang/System$LoggerFinder"), (5, .class_ 328), (0, u "java/lang/System$Logger"), (67, u "err"), (2, u "out"), (91, u "notSupportedJnuEncoding"), (15, u "in"), (17, u "initialIn"), (0, u "Ljava/io/InputStream;"), (35, u "bootLayer"), (0, u "Ljava/lang/ModuleLayer;"), (99, .class_ 664), (0, u "java/lang/System$2"), (9, u "NEVER"), (2, u "MAYBE"), (49, u "arraycopy"), (0, u "(Ljava/lang/Object;ILjava/lang/Object;II)V"), (72, .class_ 802), (0, u "java/lang/System$Logger$Level")] 31

def k12m0 : Method := { name := "<init>", desc := "()V", sig := { parameters := [], returnType := none }, accessFlags := 2, code := none }
def k12m1 : Method := { name := "arraycopy", desc := "(Ljava/lang/Object;ILjava/lang/Object;II)V", sig := { parameters := [(.object "java/lang/Object"), .int, (.object "java/lang/Object"), .int, .int], returnType := none }, accessFlags := 265, code := none }
/-- java/lang/System -/
def k12 : Class := { plain "java/lang/System" (some 0) with
  accessFlags := 49
  interfaces := #[]
  cf := some (fileOf pool12 8 #[.nestMembers #[319, 327, 801, 108, 663, 208]] #[{ accessFlags := 2, nameIndex := 5, descriptorIndex := 6, attributes := #[] }, { accessFlags := 265, nameIndex := 727, descriptorIndex := 728, attributes := #[] }] 49 2 #[] #[{ accessFlags := 25, nameIndex := 507, descriptorIndex := 526, attributes := #[] }, { accessFlags := 25, nameIndex := 399, descriptorIndex := 155, attributes := #[] }, { accessFlags := 25, nameIndex := 396, descriptorIndex := 155, attributes := #[] }, { accessFlags := 10, nameIndex := 525, descriptorIndex := 526, attributes := #[] }, { accessFlags := 26, nameIndex := 674, descriptorIndex := 12, attributes := #[] }, { accessFlags := 26, nameIndex := 677, descriptorIndex := 12, attributes := #[] }, { accessFlags := 10, nameIndex := 11, descriptorIndex := 12, attributes := #[] }, { accessFlags := 74, nameIndex := 175, descriptorIndex := 176, attributes := #[] }, { accessFlags := 10, nameIndex := 491, descriptorIndex := 222, attributes := #[] }, { accessFlags := 74, nameIndex := 29, descriptorIndex := 30, attributes := #[] }, { accessFlags := 74, nameIndex := 154, descriptorIndex := 155, attributes := #[] }, { accessFlags := 10, nameIndex := 217, descriptorIndex := 218, attributes := #[] }, { accessFlags := 10, nameIndex := 221, descriptorIndex := 222, attributes := #[] }, { accessFlags := 8, nameIndex := 562, descriptorIndex := 563, attributes := #[] }])
  fields := #[{ name := "in", type := (.object "java/io/InputStream"), accessFlags := 25, slot := 0, constantValue := 0 }, { name := "out", type := (.object "java/io/PrintStream"), accessFlags := 25, slot := 1, constantValue := 0 }, { name := "err", type := (.object "java/io/PrintStream"), accessFlags := 25, slot := 2, constantValue := 0 }, { name := "initialIn", type := (.object "java/io/InputStream"), accessFlags := 10, slot := 3, constantValue := 0 }, { name := "NEVER", type := .int, accessFlags := 26, slot := 4, constantValue := 0 }, { name := "MAYBE", type := .int, accessFlags := 26, slot := 5, constantValue := 0 }, { name := "allowSecurityManager", type := .int, accessFlags := 10, slot := 6, constantValue := 0 }, { name := "security", type := (.object "java/lang/SecurityManager"), accessFlags := 74, slot := 7, constantValue := 0 }, { name := "notSupportedJnuEncoding", type := (.object "java/lang/String"), accessFlags := 10, slot := 8, constantValue := 0 }, { name := "cons", type := (.object "java/io/Console"), accessFlags := 74, slot := 9, constantValue := 0 }, { name := "initialErrStream", type := (.object "java/io/PrintStream"), accessFlags := 74, slot := 10, constantValue := 0 }, { name := "props", type := (.object "java/util/Properties"), accessFlags := 10, slot := 11, constantValue := 0 }, { name := "lineSeparator", type := (.object "java/lang/String"), accessFlags := 10, slot := 12, constantValue := 0 }, { name := "bootLayer", type := (.object "java/lang/ModuleLayer"), accessFlags := 8, slot := 13, constantValue := 0 }]
  methods := #[k12m0, k12m1]
  instanceTypes := #[]
  staticTypes := #[(.object "java/io/InputStream"), (.object "java/io/PrintStream"), (.object "java/io/PrintStream"), (.object "java/io/InputStream"), .int, .int, .int, (.object "java/lang/SecurityManager"), (.object "java/lang/String"), (.object "java/io/Console"), (.object "java/io/PrintStream"), (.object "java/util/Properties"), (.object "java/lang/String"), (.object "java/lang/ModuleLayer")]
  resolved := Array.replicate 834 none
  statics := none }

def pool13 : Array CpInfo := pool [(1, .class_ 2), (0, u "java/lang/Cloneable"), (0, .class_ 4), (0, u "java/lang/Object")] 2

/-- java/lang/Cloneable -/
def k13 : Class := { plain "java/lang/Cloneable" (some 0) with
  accessFlags := 1537
  interfaces := #[]
  cf := some (fileOf pool13 1 #[] #[] 1537 3 #[] #[])
  fields := #[]
  methods := #[]
  instanceTypes := #[]
  staticTypes := #[]
  resolved := Array.replicate 7 none
  statics := none }

/-- the primitive byte -/
def k14 : Class := { plain "byte" none with kind := .primitive 'B', accessFlags := 0x411 }
/-- [B -/
def k15 : Class := { plain "[B" (some 0) with kind := .array 14 .byte, interfaces := #[13, 3], accessFlags := 1041 }

/-- the primitive int -/
def k16 : Class := { plain "int" none with kind := .primitive 'I', accessFlags := 0x411 }
/-- [I -/
def k17 : Class := { plain "[I" (some 0) with kind := .array 16 .int, interfaces := #[13, 3], accessFlags := 1041 }

/-- the primitive long -/
def k18 : Class := { plain "long" none with kind := .primitive 'J', accessFlags := 0x411 }
/-- [J -/
def k19 : Class := { plain "[J" (some 0) with kind := .array 18 .long, interfaces := #[13, 3], accessFlags := 1041 }

def heap : Heap := #[]
def classes : Array Class := #[k0, k1, k2, k3, k4, k5, k6, k7, k8, k9, k10, k11, k12, k13, k14, k15, k16, k17, k18, k19]
def interned : List (Array UInt16 × Addr) := []
def slotsUsed : Nat := 0
def theMethod : MethodId := ⟨1, 1⟩
def args0 : Array Value := #[.int 2, .int 5, .int 9, .int 3, .int 4]
def aboutOver (below : List Frame) : State where
  vm := { classes := classes, interned := interned.toArray }
  heap := heap
  slotsUsed := slotsUsed
  threads := #[{ frames := .invoking theMethod args0 :: below }]
def below0 : List Frame := [.native { method := ⟨0, 0⟩, args := #[] }]
def about1 : State := aboutOver below0
def p0 : Program := .bare "" "" ""
def e0 : Env := launch0.env 0 0 0
theorem w_frames : about1.frames = Frame.invoking theMethod args0 :: below0 := rfl
set_option maxRecDepth 65536 in
theorem w_args : argsFit about1.vm theMethod args0 = true := by decide +kernel
set_option maxRecDepth 65536 in
theorem w_heap : heapFits about1 = true := by decide +kernel
set_option maxRecDepth 65536 in
theorem w_runnable : about1.curStatus? = some .runnable := by decide +kernel
set_option maxRecDepth 65536 in
theorem w_alone : about1.alone = true := by decide +kernel
set_option maxRecDepth 65536 in
theorem w_named : about1.methodNamed? x = some theMethod := by decide +kernel
set_option maxRecDepth 65536 in
theorem w_hears : about1.hears theMethod below0 = true := by decide +kernel
set_option maxRecDepth 65536 in
theorem w_ripe : about1.ripe theMethod args0 below0 = true := by decide +kernel
theorem w_running : about1.status = .running := rfl
set_option maxRecDepth 65536 in
theorem w_room : about1.hasRoom e0.platform room_1 = true :=
  launch0.hasRoom_least _ room_1 (by decide +kernel) (by decide +kernel) (by decide +kernel) (by decide +kernel) (by decide +kernel) (by decide +kernel)
theorem allAtoms_all (ts : List Jvm.Cond) (a : Array Jvm.Value) (st : Jvm.State) : (allAtoms ts).before a st = ts.all (fun c => c.before a st) := by
  induction ts with
  | nil => rfl
  | cons c t ih =>
    show (Jvm.Cond.and c (allAtoms t)).before a st = _
    rw [Jvm.Cond.before_and, ih, List.all_cons]
def words1 : List Jvm.Cond := Jvm.Cond.code x code maxLocals ret :: tables_1
/-- a 'code' word, met by the world's own term for the bytes: nothing is compared byte by byte -/
theorem code_word {y : MethodName} {bytes : ByteArray} {mx : Nat} {rt : Option FieldType} {a : Array Value} {s : State} {m : MethodId} {meth : Method} {c : Code} (h1 : s.methodNamed? y = some m) (h2 : s.vm.method? m = some meth) (h3 : meth.code = some c) (h4 : c.code = bytes)
    (h5 : (c.maxLocals == mx && c.exceptionTable.isEmpty && decide (c.maxStack ≤ mostOperands) && decide (meth.sig.returnType = rt) && !meth.locks && decide (parseMethodDescriptor y.desc = some meth.sig)) = true) : (Jvm.Cond.code y bytes mx rt).before a s = true := by
  simp only [Bool.and_eq_true, beq_iff_eq, Bool.not_eq_true', decide_eq_true_eq] at h5
  obtain ⟨⟨⟨⟨⟨g1, g2⟩, g3⟩, g4⟩, g5⟩, g6⟩ := h5
  simp [Cond.before, Cond.holds, Cond.value, h1, h2, h3, h4, g1, g2, g3, g4, g5, g6]
def isCode : Jvm.Cond → Bool
  | .code _ _ _ _ => true
  | _ => false
theorem all_split {L : List Jvm.Cond} {P : Jvm.Cond → Bool} (h1 : L.all (fun c => isCode c || P c) = true) (h2 : ∀ c ∈ L.filter isCode, P c = true) : L.all P = true := by
  refine List.all_eq_true.mpr fun c hc => ?_
  have h := List.all_eq_true.mp h1 c hc
  rcases Bool.eq_false_or_eq_true (isCode c) with hi | hi
  · exact h2 c (List.mem_filter.mpr ⟨hc, hi⟩)
  · simpa [hi] using h
set_option maxRecDepth 65536 in
theorem w_c0 : (Jvm.Cond.code x code maxLocals ret).before args0 about1 = true := code_word (m := ⟨1, 1⟩) (meth := k1m1) (c := k1c1) (by decide +kernel) rfl rfl rfl (by decide +kernel)
set_option maxRecDepth 65536 in
theorem w_c1 : (Jvm.Cond.code ({ cls := "com/example/ramp99/ramp99/service/replay/NumberSet", name := "<init>", desc := "(I)V" } : Jvm.MethodName) prog_129_method_2_code (2 : Nat) (Option.none : Option Jvm.ClassFile.FieldType)).before args0 about1 = true := code_word (m := ⟨2, 1⟩) (meth := k2m1) (c := k2c1) (by decide +kernel) rfl rfl rfl (by decide +kernel)
set_option maxRecDepth 65536 in
theorem w_c2 : (Jvm.Cond.code ({ cls := "java/lang/Object", name := "<init>", desc := "()V" } : Jvm.MethodName) object_method_1_code (1 : Nat) (Option.none : Option Jvm.ClassFile.FieldType)).before args0 about1 = true := code_word (m := ⟨0, 0⟩) (meth := k0m0) (c := k0c0) (by decide +kernel) rfl rfl rfl (by decide +kernel)
set_option maxRecDepth 65536 in
theorem w_c3 : (Jvm.Cond.code ({ cls := "com/example/ramp99/ramp99/service/replay/NumberSet", name := "add", desc := "(I)V" } : Jvm.MethodName) prog_129_method_5_code (3 : Nat) (Option.none : Option Jvm.ClassFile.FieldType)).before args0 about1 = true := code_word (m := ⟨2, 3⟩) (meth := k2m3) (c := k2c3) (by decide +kernel) rfl rfl rfl (by decide +kernel)
set_option maxRecDepth 65536 in
theorem w_c4 : (Jvm.Cond.code ({ cls := "com/example/ramp99/ramp99/service/replay/NumberSet", name := "remove", desc := "(I)V" } : Jvm.MethodName) prog_129_method_6_code (3 : Nat) (Option.none : Option Jvm.ClassFile.FieldType)).before args0 about1 = true := code_word (m := ⟨2, 4⟩) (meth := k2m4) (c := k2c4) (by decide +kernel) rfl rfl rfl (by decide +kernel)
set_option maxRecDepth 65536 in
theorem w_c5 : (Jvm.Cond.code ({ cls := "com/example/ramp99/ramp99/service/replay/NumberSet", name := "size", desc := "()I" } : Jvm.MethodName) prog_129_method_3_code (1 : Nat) (Option.some Jvm.ClassFile.FieldType.int)).before args0 about1 = true := code_word (m := ⟨2, 2⟩) (meth := k2m2) (c := k2c2) (by decide +kernel) rfl rfl rfl (by decide +kernel)
set_option maxRecDepth 65536 in
theorem w_c6 : (Jvm.Cond.code ({ cls := "com/example/ramp99/ramp99/service/replay/NumberSet", name := "lowest", desc := "()I" } : Jvm.MethodName) prog_129_method_8_code (3 : Nat) (Option.some Jvm.ClassFile.FieldType.int)).before args0 about1 = true := code_word (m := ⟨2, 5⟩) (meth := k2m5) (c := k2c5) (by decide +kernel) rfl rfl rfl (by decide +kernel)
set_option maxRecDepth 65536 in
theorem w_c7 : (Jvm.Cond.code ({ cls := "java/lang/Long", name := "numberOfTrailingZeros", desc := "(J)I" } : Jvm.MethodName) jdk_35_method_49_code (3 : Nat) (Option.some Jvm.ClassFile.FieldType.int)).before args0 about1 = true := code_word (m := ⟨8, 1⟩) (meth := k8m1) (c := k8c1) (by decide +kernel) rfl rfl rfl (by decide +kernel)
set_option maxRecDepth 65536 in
theorem w_c8 : (Jvm.Cond.code ({ cls := "java/lang/Integer", name := "numberOfTrailingZeros", desc := "(I)I" } : Jvm.MethodName) jdk_33_method_48_code (2 : Nat) (Option.some Jvm.ClassFile.FieldType.int)).before args0 about1 = true := code_word (m := ⟨9, 1⟩) (meth := k9m1) (c := k9c1) (by decide +kernel) rfl rfl rfl (by decide +kernel)
set_option maxRecDepth 65536 in
theorem w_c9 : (Jvm.Cond.code ({ cls := "com/example/ramp99/ramp99/service/replay/NumberSet", name := "highest", desc := "()I" } : Jvm.MethodName) prog_129_method_9_code (3 : Nat) (Option.some Jvm.ClassFile.FieldType.int)).before args0 about1 = true := code_word (m := ⟨2, 6⟩) (meth := k2m6) (c := k2c6) (by decide +kernel) rfl rfl rfl (by decide +kernel)
set_option maxRecDepth 65536 in
theorem w_c10 : (Jvm.Cond.code ({ cls := "java/lang/Long", name := "numberOfLeadingZeros", desc := "(J)I" } : Jvm.MethodName) jdk_35_method_48_code (3 : Nat) (Option.some Jvm.ClassFile.FieldType.int)).before args0 about1 = true := code_word (m := ⟨8, 0⟩) (meth := k8m0) (c := k8c0) (by decide +kernel) rfl rfl rfl (by decide +kernel)
set_option maxRecDepth 65536 in
theorem w_c11 : (Jvm.Cond.code ({ cls := "java/lang/Integer", name := "numberOfLeadingZeros", desc := "(I)I" } : Jvm.MethodName) jdk_33_method_47_code (2 : Nat) (Option.some Jvm.ClassFile.FieldType.int)).before args0 about1 = true := code_word (m := ⟨9, 0⟩) (meth := k9m0) (c := k9c0) (by decide +kernel) rfl rfl rfl (by decide +kernel)
set_option maxRecDepth 65536 in
theorem w_c12 : (Jvm.Cond.code ({ cls := "com/example/ramp99/ramp99/service/replay/NumberSet", name := "toArray", desc := "()[I" } : Jvm.MethodName) prog_129_method_10_code (6 : Nat) (Option.some (Jvm.ClassFile.FieldType.array Jvm.ClassFile.FieldType.int))).before args0 about1 = true := code_word (m := ⟨2, 7⟩) (meth := k2m7) (c := k2c7) (by decide +kernel) rfl rfl rfl (by decide +kernel)
set_option maxRecDepth 65536 in
theorem w_c13 : (Jvm.Cond.code ({ cls := "java/lang/Math", name := "max", desc := "(II)I" } : Jvm.MethodName) jdk_29_method_65_code (2 : Nat) (Option.some Jvm.ClassFile.FieldType.int)).before args0 about1 = true := code_word (m := ⟨10, 1⟩) (meth := k10m1) (c := k10c1) (by decide +kernel) rfl rfl rfl (by decide +kernel)
set_option maxRecDepth 65536 in
theorem w_c14 : (Jvm.Cond.code ({ cls := "java/util/Arrays", name := "copyOf", desc := "([JI)[J" } : Jvm.MethodName) jdk_65_method_124_code (3 : Nat) (Option.some (Jvm.ClassFile.FieldType.array Jvm.ClassFile.FieldType.long))).before args0 about1 = true := code_word (m := ⟨11, 1⟩) (meth := k11m1) (c := k11c1) (by decide +kernel) rfl rfl rfl (by decide +kernel)
set_option maxRecDepth 65536 in
theorem w_c15 : (Jvm.Cond.code ({ cls := "java/lang/Math", name := "min", desc := "(II)I" } : Jvm.MethodName) jdk_29_method_69_code (2 : Nat) (Option.some Jvm.ClassFile.FieldType.int)).before args0 about1 = true := code_word (m := ⟨10, 2⟩) (meth := k10m2) (c := k10c2) (by decide +kernel) rfl rfl rfl (by decide +kernel)
def codes1 : List Jvm.Cond := [Jvm.Cond.code x code maxLocals ret, Jvm.Cond.code ({ cls := "com/example/ramp99/ramp99/service/replay/NumberSet", name := "<init>", desc := "(I)V" } : Jvm.MethodName) prog_129_method_2_code (2 : Nat) (Option.none : Option Jvm.ClassFile.FieldType), Jvm.Cond.code ({ cls := "java/lang/Object", name := "<init>", desc := "()V" } : Jvm.MethodName) object_method_1_code (1 : Nat) (Option.none : Option Jvm.ClassFile.FieldType), Jvm.Cond.code ({ cls := "com/example/ramp99/ramp99/service/replay/NumberSet", name := "add", desc := "(I)V" } : Jvm.MethodName) prog_129_method_5_code (3 : Nat) (Option.none : Option Jvm.ClassFile.FieldType), Jvm.Cond.code ({ cls := "com/example/ramp99/ramp99/service/replay/NumberSet", name := "remove", desc := "(I)V" } : Jvm.MethodName) prog_129_method_6_code (3 : Nat) (Option.none : Option Jvm.ClassFile.FieldType), Jvm.Cond.code ({ cls := "com/example/ramp99/ramp99/service/replay/NumberSet", name := "size", desc := "()I" } : Jvm.MethodName) prog_129_method_3_code (1 : Nat) (Option.some Jvm.ClassFile.FieldType.int), Jvm.Cond.code ({ cls := "com/example/ramp99/ramp99/service/replay/NumberSet", name := "lowest", desc := "()I" } : Jvm.MethodName) prog_129_method_8_code (3 : Nat) (Option.some Jvm.ClassFile.FieldType.int), Jvm.Cond.code ({ cls := "java/lang/Long", name := "numberOfTrailingZeros", desc := "(J)I" } : Jvm.MethodName) jdk_35_method_49_code (3 : Nat) (Option.some Jvm.ClassFile.FieldType.int), Jvm.Cond.code ({ cls := "java/lang/Integer", name := "numberOfTrailingZeros", desc := "(I)I" } : Jvm.MethodName) jdk_33_method_48_code (2 : Nat) (Option.some Jvm.ClassFile.FieldType.int), Jvm.Cond.code ({ cls := "com/example/ramp99/ramp99/service/replay/NumberSet", name := "highest", desc := "()I" } : Jvm.MethodName) prog_129_method_9_code (3 : Nat) (Option.some Jvm.ClassFile.FieldType.int), Jvm.Cond.code ({ cls := "java/lang/Long", name := "numberOfLeadingZeros", desc := "(J)I" } : Jvm.MethodName) jdk_35_method_48_code (3 : Nat) (Option.some Jvm.ClassFile.FieldType.int), Jvm.Cond.code ({ cls := "java/lang/Integer", name := "numberOfLeadingZeros", desc := "(I)I" } : Jvm.MethodName) jdk_33_method_47_code (2 : Nat) (Option.some Jvm.ClassFile.FieldType.int), Jvm.Cond.code ({ cls := "com/example/ramp99/ramp99/service/replay/NumberSet", name := "toArray", desc := "()[I" } : Jvm.MethodName) prog_129_method_10_code (6 : Nat) (Option.some (Jvm.ClassFile.FieldType.array Jvm.ClassFile.FieldType.int)), Jvm.Cond.code ({ cls := "java/lang/Math", name := "max", desc := "(II)I" } : Jvm.MethodName) jdk_29_method_65_code (2 : Nat) (Option.some Jvm.ClassFile.FieldType.int), Jvm.Cond.code ({ cls := "java/util/Arrays", name := "copyOf", desc := "([JI)[J" } : Jvm.MethodName) jdk_65_method_124_code (3 : Nat) (Option.some (Jvm.ClassFile.FieldType.array Jvm.ClassFile.FieldType.long)), Jvm.Cond.code ({ cls := "java/lang/Math", name := "min", desc := "(II)I" } : Jvm.MethodName) jdk_29_method_69_code (2 : Nat) (Option.some Jvm.ClassFile.FieldType.int)]
set_option maxRecDepth 65536 in
theorem codes_eq : words1.filter isCode = codes1 := rfl
theorem w_codes : ∀ c ∈ words1.filter isCode, c.before args0 about1 = true := by
  rw [codes_eq]
  intro c hc
  simp only [codes1, List.mem_cons, List.not_mem_nil, or_false] at hc
  rcases hc with rfl | rfl | rfl | rfl | rfl | rfl | rfl | rfl | rfl | rfl | rfl | rfl | rfl | rfl | rfl | rfl
  · exact w_c0
  · exact w_c1
  · exact w_c2
  · exact w_c3
  · exact w_c4
  · exact w_c5
  · exact w_c6
  · exact w_c7
  · exact w_c8
  · exact w_c9
  · exact w_c10
  · exact w_c11
  · exact w_c12
  · exact w_c13
  · exact w_c14
  · exact w_c15
set_option maxRecDepth 65536 in
theorem w_t1 : (words1.take 24).all (fun c => isCode c || c.before args0 about1) = true := by decide +kernel
set_option maxRecDepth 65536 in
theorem w_t2 : ((words1.drop 24).take 24).all (fun c => isCode c || c.before args0 about1) = true := by decide +kernel
set_option maxRecDepth 65536 in
theorem w_t3 : (((words1.drop 24).drop 24).take 24).all (fun c => isCode c || c.before args0 about1) = true := by decide +kernel
set_option maxRecDepth 65536 in
theorem w_t4 : (((words1.drop 24).drop 24).drop 24).all (fun c => isCode c || c.before args0 about1) = true := by decide +kernel
theorem w_tables : (allAtoms (Jvm.Cond.code x code maxLocals ret :: tables_1)).before args0 about1 = true := by
  rw [allAtoms_all]
  show words1.all (fun c => c.before args0 about1) = true
  refine all_split ?_ w_codes
  rw [← List.take_append_drop 24 words1, List.all_append, w_t1, ← List.take_append_drop 24 (words1.drop 24), List.all_append, w_t2, ← List.take_append_drop 24 ((words1.drop 24).drop 24), List.all_append, w_t3, w_t4]
  rfl
set_option maxRecDepth 65536 in
theorem w_case : (Jvm.Cond.and given_1 narrow_1).before args0 about1 = true := by decide +kernel
theorem w_applies : (headSpec (Jvm.Cond.code x code maxLocals ret :: tables_1) room_1).applies x e0.platform about1 = true :=
  (Spec.applies_iff w_frames).mpr ⟨w_running, w_runnable, w_alone, w_named, w_hears, w_ripe, w_room, w_tables⟩
theorem atStart : AtStart classFile x code maxLocals ret World_1 tables_1 room_1 Calls_1 rest_1 Pre_1 launch0 p0 e0 about1 theMethod args0 below0 :=
  ⟨lists_1, trivial, launch0.admits_env _ _ _, launch0.least_env, fairChoices_fair.cas, fairChoices_fair.clock, w_frames, w_args, w_heap, w_applies, trivial, trivial, w_case⟩
end start1
theorem witness_1 : WitnessClaimed_1 := ⟨start1.p0, start1.e0, start1.about1, start1.theMethod, start1.args0, start1.below0, start1.atStart⟩
end Jvm.Pilot.@@N@@

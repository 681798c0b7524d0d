import JvmDerived
import JvmDerived.Pilot.@@N@@Statement
import JvmDerived.Pilot.@@N@@Code
set_option linter.unusedVariables false
set_option linter.unusedSimpArgs false
namespace Jvm.Pilot.@@N@@
open Jvm Jvm.ClassFile Sem Op Lib Jvm.Free Jvm.Stand Jvm.LawKit Jvm.RoadKit Bundle Jvm.Pilot.@@N@@.Jvm.D
/-! own layer: forward walking in continuation style, arrays as functions -/
def own_R (tb : Tables) (e : Env) (below : List Frame) (P : State → Outcome → Prop) (st : State) : Prop := ∃ t o, Steps tb e below st t ∧ P t o
theorem own_fwd {tb : Tables} {e : Env} {below : List Frame} {P : State → Outcome → Prop} {st st' : State} (k : ∀ t, Steps tb e below st' t → Steps tb e below st t) (h : own_R tb e below P st') : own_R tb e below P st := by
  obtain ⟨t, o, h1, h2⟩ := h; exact ⟨t, o, k t h1, h2⟩
theorem own_trn {tb : Tables} {e : Env} {below : List Frame} {P : State → Outcome → Prop} {st st' : State} (k : Steps tb e below st st') (h : own_R tb e below P st') : own_R tb e below P st := own_fwd (fun _ q => k.trans q) h
theorem own_nm {tb : Tables} {e : Env} {below : List Frame} {P : State → Outcome → Prop} {st : State} (h : ∀ P' : State → Outcome → Prop, (∀ t o, P t o → P' t o) → own_R tb e below P' st) : own_R tb e below P st := h P fun _ _ q => q
/-- an array, n long, place i holds f i -/
def own_AV (Z : State) (h : Heap) (a : Addr) (ty : FieldType) (n : Nat) (f : Nat → Value) : Prop := ∃ c : Cell, Arr Z h a c ty ∧ c.slots.size = n ∧ n < 2 ^ 31 ∧ ∀ i, i < n → c.slots[i]? = some (f i)
abbrev own_AI (Z : State) (h : Heap) (a : Addr) (ty : FieldType) (n : Nat) (f : Nat → Int32) : Prop := own_AV Z h a ty n fun i => .int (f i)
abbrev own_AJ (Z : State) (h : Heap) (a : Addr) (n : Nat) (f : Nat → Int64) : Prop := own_AV Z h a .long n fun i => .long (f i)
def own_upd {α : Type} (f : Nat → α) (i : Nat) (x : α) : Nat → α := fun k => if k = i then x else f k
theorem own_upd_hit {α : Type} (f : Nat → α) (i : Nat) (x : α) : own_upd f i x i = x := if_pos rfl
theorem own_upd_miss {α : Type} (f : Nat → α) {i k : Nat} (x : α) (q : k ≠ i) : own_upd f i x k = f k := if_neg q
section Own
variable {p : Program} {l : Launch} {e : Env} {R : Room} {s : State} {m : MethodId} {args : Array Value} {below : List Frame} {meth : Method} {c : Code} {T : State} {locs : List Loc} {cells slots : Nat} {Z : State} {a0 : Array Value} {h h' : Heap} {a b : Addr} {ty : FieldType} {n : Nat} {f : Nat → Value} {v : Value} {sl : Nat}
theorem own_AV.lt (F : own_AV Z h a ty n f) : a < h.size := by obtain ⟨c, A, -⟩ := F; exact A.lt
theorem own_AV.bd (F : own_AV Z h a ty n f) : n < 2 ^ 31 := by obtain ⟨c, A, -, q, -⟩ := F; exact q
theorem own_AV.ext (F : own_AV Z h a ty n f) (E : Ext h h') : own_AV Z h' a ty n f := by obtain ⟨c, A, r⟩ := F; exact ⟨c, A.ext E, r⟩
theorem own_AV.other (F : own_AV Z h b ty n f) (W : Wr h h' a sl v) (q : b ≠ a) : own_AV Z h' b ty n f := by obtain ⟨c, A, r⟩ := F; exact ⟨c, A.other W q, r⟩
theorem own_AV.keep {ws : List Addr} (F : own_AV Z h a ty n f) (K : Keep h h' ws) (q : a ∉ ws) : own_AV Z h' a ty n f := by obtain ⟨c, A, r⟩ := F; exact ⟨c, ⟨K.2.1 a c A.1 q, A.2⟩, r⟩
theorem own_AV.cong {f' : Nat → Value} (F : own_AV Z h a ty n f) (q : ∀ i, i < n → f' i = f i) : own_AV Z h a ty n f' := by obtain ⟨c, A, r1, r2, r3⟩ := F; exact ⟨c, A, r1, r2, fun i hi => by rw [q i hi]; exact r3 i hi⟩
theorem own_clamp {j : Int32} {i : Nat} (hj : j.toInt = (i : Int)) : j.toNatClampNeg = i ∧ ¬ j < 0 := by
  have q0 : (0 : Int32).toInt = 0 := rfl
  exact ⟨by unfold Int32.toNatClampNeg; omega, by rw [Int32.lt_iff_toInt_lt]; omega⟩
theorem own_inb {cl : Cell} {j : Int32} {i : Nat} (hj : j.toInt = (i : Int)) (S : cl.slots.size = n) (hi : i < n) : ¬ (j < 0 ∨ cl.slots.size ≤ j.toNatClampNeg) := by
  obtain ⟨q1, q2⟩ := own_clamp hj
  rw [q1]; rintro (q | q)
  · exact q2 q
  · omega
theorem own_AV.new {k : ClassId} {z : Int32} (A : Arr Z h a (newA k ty z) ty) (hz : z.toInt = (n : Int)) : own_AV Z h a ty n (fun _ => defaultValue ty) := by
  obtain ⟨q1, q2⟩ := own_clamp hz
  have hb := z.toInt_lt
  refine ⟨_, A, by rw [sz_new]; exact q1, by omega, fun i hi => ?_⟩
  simp [newA, q1, hi]
theorem own_ldI (X : Stand p l e R s m args below meth c T locs cells slots) (hx : p.tables.exec = Jvm.exec) (hZ : Z.Warmed39 s.vm) (eT : T.heap = h) (F : own_AV Z h a .int n f) {j : Int32} (i : Nat) (hj : j.toInt = (i : Int)) (hi : i < n) {g : JFrame} (hg : g.method = m) {rest : List Value} (hs : g.stack = .int j :: .ref a :: rest) (hd : decode c.code g.pc = .ok (.iaload, 1)) :
    ∀ t, Steps p.tables e below (T.setTop { g with pc := g.pc + 1, stack := f i :: rest }) t → Steps p.tables e below (T.setTop g) t := fun t k => by
  obtain ⟨cl, A, S, -, H⟩ := F
  exact X.iaload hx (by rw [eT]; exact A.1) (State.isArrayOf_alike hZ.alike A.2.1) A.2.2 (own_inb hj S hi) (by rw [(own_clamp hj).1]; exact H i hi) hg hs hd t k
theorem own_ldS (X : Stand p l e R s m args below meth c T locs cells slots) (hx : p.tables.exec = Jvm.exec) (hZ : Z.Warmed39 s.vm) (eT : T.heap = h) (F : own_AV Z h a .short n f) {j : Int32} (i : Nat) (hj : j.toInt = (i : Int)) (hi : i < n) {g : JFrame} (hg : g.method = m) {rest : List Value} (hs : g.stack = .int j :: .ref a :: rest) (hd : decode c.code g.pc = .ok (.saload, 1)) :
    ∀ t, Steps p.tables e below (T.setTop { g with pc := g.pc + 1, stack := f i :: rest }) t → Steps p.tables e below (T.setTop g) t := fun t k => by
  obtain ⟨cl, A, S, -, H⟩ := F
  exact X.saload hx (by rw [eT]; exact A.1) (State.isArrayOf_alike hZ.alike A.2.1) A.2.2 (own_inb hj S hi) (by rw [(own_clamp hj).1]; exact H i hi) hg hs hd t k
theorem own_ldC (X : Stand p l e R s m args below meth c T locs cells slots) (hx : p.tables.exec = Jvm.exec) (hZ : Z.Warmed39 s.vm) (eT : T.heap = h) (F : own_AV Z h a .char n f) {j : Int32} (i : Nat) (hj : j.toInt = (i : Int)) (hi : i < n) {g : JFrame} (hg : g.method = m) {rest : List Value} (hs : g.stack = .int j :: .ref a :: rest) (hd : decode c.code g.pc = .ok (.caload, 1)) :
    ∀ t, Steps p.tables e below (T.setTop { g with pc := g.pc + 1, stack := f i :: rest }) t → Steps p.tables e below (T.setTop g) t := fun t k => by
  obtain ⟨cl, A, S, -, H⟩ := F
  exact X.caload hx (by rw [eT]; exact A.1) (State.isArrayOf_alike hZ.alike A.2.1) A.2.2 (own_inb hj S hi) (by rw [(own_clamp hj).1]; exact H i hi) hg hs hd t k
theorem own_ldJ (X : Stand p l e R s m args below meth c T locs cells slots) (hx : p.tables.exec = Jvm.exec) (hZ : Z.Warmed39 s.vm) (eT : T.heap = h) (F : own_AV Z h a .long n f) {j : Int32} (i : Nat) (hj : j.toInt = (i : Int)) (hi : i < n) {g : JFrame} (hg : g.method = m) {rest : List Value} (hs : g.stack = .int j :: .ref a :: rest) (hd : decode c.code g.pc = .ok (.laload, 1)) :
    ∀ t, Steps p.tables e below (T.setTop { g with pc := g.pc + 1, stack := f i :: rest }) t → Steps p.tables e below (T.setTop g) t := fun t k => by
  obtain ⟨cl, A, S, -, H⟩ := F
  exact X.laload hx (by rw [eT]; exact A.1) (State.isArrayOf_alike hZ.alike A.2.1) A.2.2 (own_inb hj S hi) (by rw [(own_clamp hj).1]; exact H i hi) hg hs hd t k
theorem own_len (X : Stand p l e R s m args below meth c T locs cells slots) (hx : p.tables.exec = Jvm.exec) (hZ : Z.Warmed39 s.vm) (eT : T.heap = h) (F : own_AV Z h a ty n f) (z : Int32) (hz : z.toInt = (n : Int)) {g : JFrame} (hg : g.method = m) {rest : List Value} (hs : g.stack = .ref a :: rest) (hd : decode c.code g.pc = .ok (.arraylength, 1)) :
    ∀ t, Steps p.tables e below (T.setTop { g with pc := g.pc + 1, stack := .int z :: rest }) t → Steps p.tables e below (T.setTop g) t := fun t k => by
  obtain ⟨cl, A, S, q, H⟩ := F
  have e1 : cl.slots.size.toInt32 = z := by
    rw [S]; apply Int32.toInt_inj.mp; rw [hz]; exact len_toInt q
  refine X.arraylength hx (by rw [eT]; exact A.1) (State.isArrayOf_alike hZ.alike A.2.1) hg hs hd t ?_
  rw [e1]; exact k
theorem own_AV.set {h' : Heap} {cl : Cell} {j : Int32} {i : Nat} {w : Value} (A : Arr Z h a cl ty) (S : cl.slots.size = n) (q : n < 2 ^ 31) (H : ∀ i, i < n → cl.slots[i]? = some (f i)) (hj : j.toInt = (i : Int)) (hi : i < n) (W : Wr h h' a j.toNatClampNeg w) : own_AV Z h' a ty n (own_upd f i w) := by
  rw [(own_clamp hj).1] at W
  refine ⟨_, A.same W, by rw [sz_set]; exact S, q, fun k hk => ?_⟩
  by_cases e : k = i
  · subst e; rw [own_upd_hit]; simp [Cell.setSlot, S, hi]
  · rw [own_upd_miss _ _ e]; simp only [Cell.setSlot]; rw [Array.getElem?_setIfInBounds_ne (Ne.symm e)]; exact H k hk
theorem own_stI {g0 : Nat → Int32} (X : Stand p l e R s m args below meth c T locs cells slots) (hx : p.tables.exec = Jvm.exec) (hZ : Z.Warmed39 s.vm) (eT : T.heap = h) (F : own_AI Z h a .int n g0) {j x : Int32} (i : Nat) (hj : j.toInt = (i : Int)) (hi : i < n) {g : JFrame} (hg : g.method = m) {rest : List Value} (hs : g.stack = .int x :: .int j :: .ref a :: rest) (hd : decode c.code g.pc = .ok (.iastore, 1)) :
    ∃ T' h', Stand p l e R s m args below meth c T' (locs ++ [⟨a, j.toNatClampNeg⟩]) cells slots ∧ T'.heap = h' ∧ Wr h h' a j.toNatClampNeg (.int x) ∧ own_AI Z h' a .int n (own_upd g0 i x) ∧ ∀ t, Steps p.tables e below (T'.setTop { g with pc := g.pc + 1, stack := rest }) t → Steps p.tables e below (T.setTop g) t := by
  obtain ⟨cl, A, S, q, H⟩ := F
  obtain ⟨T', h', X', e', W, st⟩ := stI X hx hZ eT A (own_inb hj S hi) hg hs hd
  exact ⟨T', h', X', e', W, (own_AV.set A S q H hj hi W).cong fun k _ => by simp only [own_upd]; split <;> rfl, st⟩
theorem own_stS {g0 : Nat → Int32} (X : Stand p l e R s m args below meth c T locs cells slots) (hx : p.tables.exec = Jvm.exec) (hZ : Z.Warmed39 s.vm) (eT : T.heap = h) (F : own_AI Z h a .short n g0) {j x : Int32} (i : Nat) (hj : j.toInt = (i : Int)) (hi : i < n) {g : JFrame} (hg : g.method = m) {rest : List Value} (hs : g.stack = .int x :: .int j :: .ref a :: rest) (hd : decode c.code g.pc = .ok (.sastore, 1)) :
    ∃ T' h', Stand p l e R s m args below meth c T' (locs ++ [⟨a, j.toNatClampNeg⟩]) cells slots ∧ T'.heap = h' ∧ Wr h h' a j.toNatClampNeg (.int (nar .short x)) ∧ own_AI Z h' a .short n (own_upd g0 i (nar .short x)) ∧ ∀ t, Steps p.tables e below (T'.setTop { g with pc := g.pc + 1, stack := rest }) t → Steps p.tables e below (T.setTop g) t := by
  obtain ⟨cl, A, S, q, H⟩ := F
  obtain ⟨T', h', X', e', W, st⟩ := stS X hx hZ eT A (own_inb hj S hi) hg hs hd
  exact ⟨T', h', X', e', W, (own_AV.set A S q H hj hi W).cong fun k _ => by simp only [own_upd]; split <;> rfl, st⟩
theorem own_stC {g0 : Nat → Int32} (X : Stand p l e R s m args below meth c T locs cells slots) (hx : p.tables.exec = Jvm.exec) (hZ : Z.Warmed39 s.vm) (eT : T.heap = h) (F : own_AI Z h a .char n g0) {j x : Int32} (i : Nat) (hj : j.toInt = (i : Int)) (hi : i < n) {g : JFrame} (hg : g.method = m) {rest : List Value} (hs : g.stack = .int x :: .int j :: .ref a :: rest) (hd : decode c.code g.pc = .ok (.castore, 1)) :
    ∃ T' h', Stand p l e R s m args below meth c T' (locs ++ [⟨a, j.toNatClampNeg⟩]) cells slots ∧ T'.heap = h' ∧ Wr h h' a j.toNatClampNeg (.int (nar .char x)) ∧ own_AI Z h' a .char n (own_upd g0 i (nar .char x)) ∧ ∀ t, Steps p.tables e below (T'.setTop { g with pc := g.pc + 1, stack := rest }) t → Steps p.tables e below (T.setTop g) t := by
  obtain ⟨cl, A, S, q, H⟩ := F
  obtain ⟨T', h', X', e', W, st⟩ := stC X hx hZ eT A (own_inb hj S hi) hg hs hd
  exact ⟨T', h', X', e', W, (own_AV.set A S q H hj hi W).cong fun k _ => by simp only [own_upd]; split <;> rfl, st⟩
theorem own_stJ {g0 : Nat → Int64} (X : Stand p l e R s m args below meth c T locs cells slots) (hx : p.tables.exec = Jvm.exec) (hZ : Z.Warmed39 s.vm) (eT : T.heap = h) (F : own_AJ Z h a n g0) {j : Int32} {x : Int64} (i : Nat) (hj : j.toInt = (i : Int)) (hi : i < n) {g : JFrame} (hg : g.method = m) {rest : List Value} (hs : g.stack = .long x :: .int j :: .ref a :: rest) (hd : decode c.code g.pc = .ok (.lastore, 1)) :
    ∃ T' h', Stand p l e R s m args below meth c T' (locs ++ [⟨a, j.toNatClampNeg⟩]) cells slots ∧ T'.heap = h' ∧ Wr h h' a j.toNatClampNeg (.long x) ∧ own_AJ Z h' a n (own_upd g0 i x) ∧ ∀ t, Steps p.tables e below (T'.setTop { g with pc := g.pc + 1, stack := rest }) t → Steps p.tables e below (T.setTop g) t := by
  obtain ⟨cl, A, S, q, H⟩ := F
  obtain ⟨T', h', X', e', W, st⟩ := stJ X hx hZ eT A (own_inb hj S hi) hg hs hd
  exact ⟨T', h', X', e', W, (own_AV.set A S q H hj hi W).cong fun k _ => by simp only [own_upd]; split <;> rfl, st⟩
theorem own_newA (X : Stand p l e R s m args below meth c T locs cells slots) (hx : p.tables.exec = Jvm.exec) (hZ : Z.Warmed39 s.vm) {aty : ArrayType} (w : (Cond.arrayClass (newarray.typeOf aty)).before a0 Z = true) (eT : T.heap = h) {z : Int32} (hz : z.toInt = (n : Int)) {cap : Nat} (hcap : n ≤ cap) {g : JFrame} (hg : g.method = m) (hd : decode c.code g.pc = .ok (.newarray aty, 2)) {rest : List Value} (hs : g.stack = .int z :: rest)
    (hb : cap * 8 ≤ 536870912) (hc : cells + 1 ≤ R.cells) (hl : slots + cap ≤ R.slots) {ad : String} (had : "[" ++ (newarray.typeOf aty).toString = ad) :
    ∃ T' h' b, b = h.size ∧ Stand p l e R s m args below meth c T' locs (cells + 1) (slots + cap) ∧ T'.heap = h' ∧ Ext h h' ∧ own_AV Z h' b (newarray.typeOf aty) n (fun _ => defaultValue (newarray.typeOf aty)) ∧ Exa Z h' b ad ∧
      ∀ t, Steps p.tables e below (T'.setTop { g with pc := g.pc + 2, stack := .ref b :: rest }) t → Steps p.tables e below (T.setTop g) t := by
  obtain ⟨q1, q2⟩ := own_clamp hz
  obtain ⟨T', h', k, X', e', E, A, Ea, st⟩ := newPE X hx hZ w eT hg hd hs q2 (by rw [q1]; exact hcap) hb hc hl had
  exact ⟨T', h', _, rfl, X', e', E, own_AV.new A hz, Ea, st⟩
end Own
def own_two {α : Type} (x y : α) : Nat → α
  | 0 => x
  | _ => y
theorem own_two_0 {α : Type} (x y : α) : own_two x y 0 = x := rfl
theorem own_two_1 {α : Type} (x y : α) : own_two x y 1 = y := rfl
theorem own_nlt {i n : Nat} (hi : i < n) (hn : n < 2 ^ 31) : i.toInt32 < n.toInt32 := by
  rw [Int32.lt_iff_toInt_lt, len_toInt hn, len_toInt (by omega)]; omega
theorem own_nge {i n : Nat} (hi : n ≤ i) (hn : i < 2 ^ 31) : ¬ i.toInt32 < n.toInt32 := by
  rw [Int32.lt_iff_toInt_lt, len_toInt hn, len_toInt (by omega)]; omega
theorem own_nsucc {i : Nat} (hn : i + 1 < 2 ^ 31) : i.toInt32 + (1 : Int32) = (i + 1).toInt32 := by
  have e1 : (1 : Int32).toInt = 1 := rfl
  have h1 := c_iadd i.toInt32 1
  have h2 := rng32 (i.toInt32 + 1)
  rw [← Int32.toInt_inj, len_toInt hn]
  rw [len_toInt (by omega), e1] at h1
  omega
theorem own_and3 (x : Int32) : (x &&& (3 : Int32)) = 0 ∨ (x &&& (3 : Int32)) = 1 ∨ (x &&& (3 : Int32)) = 2 ∨ (x &&& (3 : Int32)) = 3 := by
  have h := c_mask x 3 2 (by decide) (by decide)
  have e : ((2 ^ 2 : Nat) : Int) = 4 := by decide
  rw [e] at h
  have e0 : (0 : Int32).toInt = 0 := rfl
  have e1 : (1 : Int32).toInt = 1 := rfl
  have e2 : (2 : Int32).toInt = 2 := rfl
  have e3 : (3 : Int32).toInt = 3 := rfl
  simp only [← Int32.toInt_inj]
  omega
theorem own_cloneJ {p : Program} {l : Launch} {e : Env} {R : Room} {s : State} {m : MethodId} {args : Array Value} {below : List Frame} {meth : Method} {c : Code} {T : State} {locs : List Loc} {cells slots : Nat} {Z : State} {a0 : Array Value} {h : Heap} {a : Addr} {n : Nat} {f : Nat → Int64}
    (X : Stand p l e R s m args below meth c T locs cells slots) (hx : p.tables.exec = Jvm.exec) (hZ : Z.Warmed39 s.vm) {own : String} {index : Nat} (hown : s.vm.findClass own = some m.cls)
    (w1 : (Cond.methodLink own index ⟨"[J", "clone", "()Ljava/lang/Object;"⟩).before a0 Z = true) (w2 : (Cond.sameMethod "[J" "java/lang/Object" "clone" "()Ljava/lang/Object;").before a0 Z = true) (w3 : (Cond.native ⟨"java/lang/Object", "clone", "()Ljava/lang/Object;"⟩).before a0 Z = true)
    (w4 : (Cond.instanceMethod ⟨"java/lang/Object", "clone", "()Ljava/lang/Object;"⟩).before a0 Z = true) (w5 : (Cond.selects "[J" ⟨"[J", "clone", "()Ljava/lang/Object;"⟩ ⟨"java/lang/Object", "clone", "()Ljava/lang/Object;"⟩).before a0 Z = true) (w6 : (Cond.castable "[J" "java/lang/Cloneable").before a0 Z = true)
    (eT : T.heap = h) (F : own_AJ Z h a n f) (E : Exa Z h a "[J") {g : JFrame} (hg : g.method = m) (hsize : g.locals.size = c.maxLocals) {rest : List Value} (hs : g.stack = .ref a :: rest) (hd : decode c.code g.pc = .ok (.invokevirtual index, 3))
    (hf : 1 ≤ R.frames) {W cap : Nat} (hW : 2 * g.monitorRoom + (rest.map fun v => v.category).sum ≤ W) (hl : W + 14 ≤ R.locals) (hcap : n ≤ cap) (hc : cells + 1 ≤ R.cells) (hsl : slots + cap ≤ R.slots) :
    ∃ T' h' b, b = h.size ∧ Stand p l e R s m args below meth c T' locs (cells + 1) (slots + cap) ∧ T'.heap = h' ∧ Ext h h' ∧ own_AJ Z h' b n f ∧ Exa Z h' b "[J" ∧
      ∀ t, Steps p.tables e below (T'.setTop { g with pc := g.pc + 3, stack := .ref b :: rest }) t → Steps p.tables e below (T.setTop g) t := by
  obtain ⟨cl, A, S, q, H⟩ := F
  have FC : FitC Z cl := fitC_of A fun i hi v hv => by rw [H i (by omega)] at hv; cases hv; rfl
  obtain ⟨T', h', X', e', E', A', Ea, st⟩ := cloneA X hx hZ hown w1 w2 w3 w4 w5 w6 eT A E FC hg hsize hs hd hf hW hl (by omega) hc hsl
  exact ⟨T', h', _, rfl, X', e', E', ⟨_, A', S, q, H⟩, Ea, st⟩
theorem own_d1_0 : decode prog_33_method_2_code 0 = .ok (.aload_n 0, 1) := by decide +kernel
theorem own_d1_1 : decode prog_33_method_2_code 1 = .ok (.invokevirtual 17, 3) := by decide +kernel
theorem own_d1_4 : decode prog_33_method_2_code 4 = .ok (.checkcast 18, 3) := by decide +kernel
theorem own_d1_7 : decode prog_33_method_2_code 7 = .ok (.astore_n 1, 1) := by decide +kernel
theorem own_d1_8 : decode prog_33_method_2_code 8 = .ok (.iconst 0, 1) := by decide +kernel
theorem own_d1_9 : decode prog_33_method_2_code 9 = .ok (.istore_n 2, 1) := by decide +kernel
theorem own_d1_10 : decode prog_33_method_2_code 10 = .ok (.iload_n 2, 1) := by decide +kernel
theorem own_d1_11 : decode prog_33_method_2_code 11 = .ok (.aload_n 1, 1) := by decide +kernel
theorem own_d1_12 : decode prog_33_method_2_code 12 = .ok (.arraylength, 1) := by decide +kernel
theorem own_d1_13 : decode prog_33_method_2_code 13 = .ok (.if_icmp .ge 34, 3) := by decide +kernel
theorem own_d1_16 : decode prog_33_method_2_code 16 = .ok (.aload_n 1, 1) := by decide +kernel
theorem own_d1_17 : decode prog_33_method_2_code 17 = .ok (.iload_n 2, 1) := by decide +kernel
theorem own_d1_18 : decode prog_33_method_2_code 18 = .ok (.laload, 1) := by decide +kernel
theorem own_d1_19 : decode prog_33_method_2_code 19 = .ok (.lconst 0, 1) := by decide +kernel
theorem own_d1_20 : decode prog_33_method_2_code 20 = .ok (.lcmp, 1) := by decide +kernel
theorem own_d1_21 : decode prog_33_method_2_code 21 = .ok (.ifCond .ge 20, 3) := by decide +kernel
theorem own_d1_24 : decode prog_33_method_2_code 24 = .ok (.new 22, 3) := by decide +kernel
theorem own_d1_27 : decode prog_33_method_2_code 27 = .ok (.dup, 1) := by decide +kernel
theorem own_d1_28 : decode prog_33_method_2_code 28 = .ok (.iload_n 2, 1) := by decide +kernel
theorem own_d1_29 : decode prog_33_method_2_code 29 = .ok (.aload_n 1, 1) := by decide +kernel
theorem own_d1_30 : decode prog_33_method_2_code 30 = .ok (.iload_n 2, 1) := by decide +kernel
theorem own_d1_31 : decode prog_33_method_2_code 31 = .ok (.laload, 1) := by decide +kernel
theorem own_d1_41 : decode prog_33_method_2_code 41 = .ok (.iinc 2 1, 3) := by decide +kernel
theorem own_d1_44 : decode prog_33_method_2_code 44 = .ok (.goto (-34), 3) := by decide +kernel
theorem own_d1_47 : decode prog_33_method_2_code 47 = .ok (.aload_n 1, 1) := by decide +kernel
theorem own_d1_48 : decode prog_33_method_2_code 48 = .ok (.areturn, 1) := by decide +kernel
theorem own_pn0 : plainName "com/example/physalia/physalia/model/Marking" = true := by first | (simp [plainName, overriddenIn]; done) | decide +kernel
theorem own_ef1 (m : MethodId) (a1 : Addr) : entryFrame m #[(.ref a1)] 3 = mkF m 0 #[.val (.ref a1), .unset, .unset] [] := by first | (simp [entryFrame, mkF, argsToLocals, Value.category]; done) | rfl
def own_Q1 (Z : State) (a1 : Addr) (n : Nat) (f : Nat → Int64) (h0 : Heap) (n0 : Nat) (v : Option Value) (h : Heap) (L : List Loc) : Prop := ∃ b, v = some (.ref b) ∧ Fr n0 L ∧ n0 ≤ b ∧ h0.size ≤ b ∧ Keep h0 h [] ∧ own_AJ Z h b n f
set_option maxRecDepth 65536 in
set_option maxHeartbeats 40000000 in
theorem own_rm1 (l : Launch) (Z : State) (a0 : Array Value) (hw : ∀ d ∈ tables_1, d.before a0 Z = true) (ws : List Jvm.Cond) (a1 : Addr) (n : Nat) (f : Nat → Int64) (h0 : Heap) (n0 : Nat) (Z0 : n0 ≤ h0.size) (pA : own_AJ Z h0 a1 n f) (pE : Exa Z h0 a1 "[J") (pcap : n ≤ 3) (pN : ∀ i, i < n → ¬ f i < 0) :
    MetFree l (⟨"com/example/physalia/physalia/model/Marking", "checkedCopy", "([J)[J"⟩ : MethodName) (head1 (Jvm.Cond.code (⟨"com/example/physalia/physalia/model/Marking", "checkedCopy", "([J)[J"⟩ : MethodName) prog_33_method_2_code 3 (some (.array .long)) :: ws) ({ frames := 1, cells := 1, slots := 3, locals := 14 } : Room)) (fun a U => a = #[(.ref a1)] ∧ Z.Warmed39 U.vm ∧ U.heap = h0) (fun _ _ _ _ _ => True) (fun _ U o U' => ∃ v L, o = .returned v ∧ own_Q1 Z a1 n f h0 n0 v U'.heap L ∧ FrameEnd U o U' L ({ frames := 1, cells := 1, slots := 3, locals := 14 } : Room).cells ({ frames := 1, cells := 1, slots := 3, locals := 14 } : Room).slots) := by
  refine MetFree.of_bodySF (plainFor_of_name own_pn0) hisR ?_
  intro p e s m args below meth c s₁ Bd hml0 hP hK
  obtain ⟨rfl, hZ, hh⟩ := hP
  have hx := Bd.exec
  have hby := Bd.bytes
  have hml : c.maxLocals = 3 := hml0
  have hown : s.vm.findClass "com/example/physalia/physalia/model/Marking" = some m.cls := findClass_of_methodNamed Bd.named
  have hnm := (name_of_methodNamed Bd.named Bd.method).1
  have X0 : Stand p l e ({ frames := 1, cells := 1, slots := 3, locals := 14 } : Room) s m #[(.ref a1)] below meth c s₁ [] 0 0 := Stand.of_body Bd
  have e0 : s₁.heap = h0 := by rw [← hh, Bd.state]; rfl
  have N0 := Fr.nil n0
  refine own_nm (st := s₁.setTop (entryFrame m #[(.ref a1)] 3)) fun P fin => ?_
  refine own_fwd (fun t k => castTop (own_ef1 m a1) k) ?_
  show own_R p.tables e below P (s₁.setTop (mkF m 0 #[.val (.ref a1), .unset, .unset] []))
  have K0 := Keep.refl h0 []
  refine own_fwd (fun t k => XS.aloadN X0.here hx rfl (hb hby own_d1_0) rfl rfl k) ?_
  show own_R p.tables e below P (s₁.setTop (mkF m 1 #[.val (.ref a1), .unset, .unset] [(.ref a1)]))
  obtain ⟨T1, h1, b1, g1, X1, e1, E1, A1_, B1, st1⟩ := own_cloneJ X0 hx hZ hown (hw _ (List.mem_of_getElem? (i := 6) rfl)) (hw _ (List.mem_of_getElem? (i := 7) rfl)) (hw _ (List.mem_of_getElem? (i := 11) rfl)) (hw _ (List.mem_of_getElem? (i := 9) rfl)) (hw _ (List.mem_of_getElem? (i := 10) rfl)) (hw _ (List.mem_of_getElem? (i := 12) rfl)) e0 pA pE (g := (mkF m 1 #[.val (.ref a1), .unset, .unset] [(.ref a1)])) rfl (by rw [hml]; rfl) rfl (hb hby own_d1_1) (by decide) (W := 0) (cap := 3) (by show 2 * 0 + _ ≤ _; exact Nat.le_of_eq rfl) (by decide) pcap (by decide) (by decide)
  have ne1_a1 : a1 ≠ b1 := Nat.ne_of_lt (by rw [g1]; exact pA.lt)
  have ge_b1 : n0 ≤ b1 := by rw [g1]; exact Z0
  have sz_b1 : h0.size ≤ b1 := by rw [g1]; exact (Nat.le_refl h0.size)
  have pA_x1 := pA.ext E1
  have pE_x1 := pE.ext E1
  have Z1 : n0 ≤ h1.size := Nat.le_trans Z0 E1.1
  have K1 := K0.ext E1
  have Y1 : h0.size ≤ h1.size := Nat.le_trans (Nat.le_refl h0.size) E1.1
  refine own_fwd st1 ?_
  show own_R p.tables e below P (T1.setTop (mkF m 4 #[.val (.ref a1), .unset, .unset] [(.ref b1)]))
  obtain ⟨T2, X2, e2, st2⟩ := castY X1 hx hZ hown (hw _ (List.mem_of_getElem? (i := 13) rfl)) e1 (Ins.self B1) (g := (mkF m 4 #[.val (.ref a1), .unset, .unset] [(.ref b1)])) rfl rfl (hb hby own_d1_4)
  refine own_fwd st2 ?_
  show own_R p.tables e below P (T2.setTop (mkF m 7 #[.val (.ref a1), .unset, .unset] [(.ref b1)]))
  refine own_fwd (fun t k => XS.astoreN X2.here hx rfl (hb hby own_d1_7) rfl rfl (l' := #[.val (.ref a1), .val (.ref b1), .unset]) rfl k) ?_
  show own_R p.tables e below P (T2.setTop (mkF m 8 #[.val (.ref a1), .val (.ref b1), .unset] []))
  refine own_fwd (fun t k => XS.iconst X2.here hx rfl (hb hby own_d1_8) k) ?_
  show own_R p.tables e below P (T2.setTop (mkF m 9 #[.val (.ref a1), .val (.ref b1), .unset] [(.int (0 : Int32))]))
  refine own_fwd (fun t k => XS.istoreN X2.here hx rfl (hb hby own_d1_9) rfl (l' := #[.val (.ref a1), .val (.ref b1), .val (.int (0 : Int32))]) rfl k) ?_
  show own_R p.tables e below P (T2.setTop (mkF m 10 #[.val (.ref a1), .val (.ref b1), .val (.int (0 : Int32))] []))
  have bn := pA.bd
  have loop : ∀ (k i : Nat), i + k = n → own_R p.tables e below P (T2.setTop (mkF m 10 #[.val (.ref a1), .val (.ref b1), .val (.int i.toInt32)] [])) := by
    intro k
    induction k with
    | zero =>
      intro i hi
      refine own_fwd (fun t k => XS.iloadN X2.here hx rfl (hb hby own_d1_10) rfl k) ?_
      show own_R p.tables e below P (T2.setTop (mkF m 11 #[.val (.ref a1), .val (.ref b1), .val (.int i.toInt32)] [(.int i.toInt32)]))
      refine own_fwd (fun t k => XS.aloadN X2.here hx rfl (hb hby own_d1_11) rfl rfl k) ?_
      show own_R p.tables e below P (T2.setTop (mkF m 12 #[.val (.ref a1), .val (.ref b1), .val (.int i.toInt32)] [(.ref b1), (.int i.toInt32)]))
      refine own_fwd (own_len X2 hx hZ e2 A1_ n.toInt32 (len_toInt pA.bd) (g := (mkF m 12 #[.val (.ref a1), .val (.ref b1), .val (.int i.toInt32)] [(.ref b1), (.int i.toInt32)])) rfl rfl (hb hby own_d1_12)) ?_
      show own_R p.tables e below P (T2.setTop (mkF m 13 #[.val (.ref a1), .val (.ref b1), .val (.int i.toInt32)] [(.int n.toInt32), (.int i.toInt32)]))
      have hc3 : ¬ (i.toInt32 < n.toInt32) := own_nge (by omega) (by omega)
      refine own_fwd (fun t k => XS.icmpYes X2.here hx rfl (pc0 := 13) (pc' := 47) rfl (hb hby own_d1_13) rfl (flt hc3).2.1 (by decide) (by decide) k) ?_
      show own_R p.tables e below P (T2.setTop (mkF m 47 #[.val (.ref a1), .val (.ref b1), .val (.int i.toInt32)] []))
      refine own_fwd (fun t k => XS.aloadN X2.here hx rfl (hb hby own_d1_47) rfl rfl k) ?_
      show own_R p.tables e below P (T2.setTop (mkF m 48 #[.val (.ref a1), .val (.ref b1), .val (.int i.toInt32)] [(.ref b1)]))
      obtain ⟨fs4, hr4, hrun4, hended4, hW4, hsame4⟩ := X2.leave (v := some (.ref b1)) (fun h => by rw [Bd.returns] at h; cases h)
      refine ⟨_, _, X2.areturnOut hx rfl Bd.returns rfl (hb hby own_d1_48) hr4, fin _ _ ⟨hrun4, hended4, _, _, rfl, ?_, ⟨_, rfl⟩, hW4, hsame4.mono (by decide) (by decide)⟩⟩
      show own_Q1 Z a1 n f h0 n0 _ T2.heap _
      rw [e2]
      exact ⟨b1, rfl, N0, ge_b1, sz_b1, K1, A1_⟩
    | succ k ih =>
      intro i hi
      refine own_fwd (fun t k => XS.iloadN X2.here hx rfl (hb hby own_d1_10) rfl k) ?_
      show own_R p.tables e below P (T2.setTop (mkF m 11 #[.val (.ref a1), .val (.ref b1), .val (.int i.toInt32)] [(.int i.toInt32)]))
      refine own_fwd (fun t k => XS.aloadN X2.here hx rfl (hb hby own_d1_11) rfl rfl k) ?_
      show own_R p.tables e below P (T2.setTop (mkF m 12 #[.val (.ref a1), .val (.ref b1), .val (.int i.toInt32)] [(.ref b1), (.int i.toInt32)]))
      refine own_fwd (own_len X2 hx hZ e2 A1_ n.toInt32 (len_toInt pA.bd) (g := (mkF m 12 #[.val (.ref a1), .val (.ref b1), .val (.int i.toInt32)] [(.ref b1), (.int i.toInt32)])) rfl rfl (hb hby own_d1_12)) ?_
      show own_R p.tables e below P (T2.setTop (mkF m 13 #[.val (.ref a1), .val (.ref b1), .val (.int i.toInt32)] [(.int n.toInt32), (.int i.toInt32)]))
      have hc5 : i.toInt32 < n.toInt32 := own_nlt (by omega) bn
      refine own_fwd (fun t k => XS.icmpNo X2.here hx rfl (hb hby own_d1_13) rfl (tlt hc5).2.1 k) ?_
      show own_R p.tables e below P (T2.setTop (mkF m 16 #[.val (.ref a1), .val (.ref b1), .val (.int i.toInt32)] []))
      refine own_fwd (fun t k => XS.aloadN X2.here hx rfl (hb hby own_d1_16) rfl rfl k) ?_
      show own_R p.tables e below P (T2.setTop (mkF m 17 #[.val (.ref a1), .val (.ref b1), .val (.int i.toInt32)] [(.ref b1)]))
      refine own_fwd (fun t k => XS.iloadN X2.here hx rfl (hb hby own_d1_17) rfl k) ?_
      show own_R p.tables e below P (T2.setTop (mkF m 18 #[.val (.ref a1), .val (.ref b1), .val (.int i.toInt32)] [(.int i.toInt32), (.ref b1)]))
      refine own_fwd (own_ldJ X2 hx hZ e2 A1_ (j := i.toInt32) i (len_toInt (by omega)) (by omega) (g := (mkF m 18 #[.val (.ref a1), .val (.ref b1), .val (.int i.toInt32)] [(.int i.toInt32), (.ref b1)])) rfl rfl (hb hby own_d1_18)) ?_
      show own_R p.tables e below P (T2.setTop (mkF m 19 #[.val (.ref a1), .val (.ref b1), .val (.int i.toInt32)] [(.long (f i))]))
      refine own_fwd (fun t k => XS.lconst X2.here hx rfl (hb hby own_d1_19) k) ?_
      show own_R p.tables e below P (T2.setTop (mkF m 20 #[.val (.ref a1), .val (.ref b1), .val (.int i.toInt32)] [(.long (0 : Int64)), (.long (f i))]))
      refine own_fwd (fun t k => XS.lcmp X2.here hx rfl (hb hby own_d1_20) rfl k) ?_
      show own_R p.tables e below P (T2.setTop (mkF m 21 #[.val (.ref a1), .val (.ref b1), .val (.int i.toInt32)] [(.int (lcmpW (f i) (0 : Int64)))]))
      have hc6 : ¬ ((lcmpW (f i) (0 : Int64)) < (0 : Int32)) := fun q => pN i (by omega) ((lw_lt _ _).mp q)
      refine own_fwd (fun t k => XS.ifYes X2.here hx rfl (pc0 := 21) (pc' := 41) rfl (hb hby own_d1_21) rfl ((if0 _ _).trans (flt hc6).2.1) (by decide) (by decide) k) ?_
      show own_R p.tables e below P (T2.setTop (mkF m 41 #[.val (.ref a1), .val (.ref b1), .val (.int i.toInt32)] []))
      refine own_fwd (fun t k => XS.iinc X2.here hx rfl (hb hby own_d1_41) rfl (l' := #[.val (.ref a1), .val (.ref b1), .val (.int (i.toInt32 + (1 : Int32)))]) rfl k) ?_
      show own_R p.tables e below P (T2.setTop (mkF m 44 #[.val (.ref a1), .val (.ref b1), .val (.int (i.toInt32 + (1 : Int32)))] []))
      refine own_fwd (fun t k => XS.goto X2.here hx rfl (pc0 := 44) (pc' := 10) rfl (hb hby own_d1_44) (by decide) (by decide) k) ?_
      show own_R p.tables e below P (T2.setTop (mkF m 10 #[.val (.ref a1), .val (.ref b1), .val (.int (i.toInt32 + (1 : Int32)))] []))
      have hv7 : (i.toInt32 + (1 : Int32)) = (i + 1).toInt32 := own_nsucc (by omega)
      rw [hv7]
      show own_R p.tables e below P (T2.setTop (mkF m 10 #[.val (.ref a1), .val (.ref b1), .val (.int (i + 1).toInt32)] []))
      exact ih (i + 1) (by omega)
  exact loop n 0 (by omega)
theorem own_pn1 : plainName "com/example/physalia/physalia/model/MarkingCheckedCopyPinLaw" = true := by first | (simp [plainName, overriddenIn]; done) | decide +kernel
theorem own_pd0 : parseMethodDescriptor "([J)[J" = some ⟨[(.array .long)], some (.array .long)⟩ := by decide +kernel
theorem own_eflaw (m : MethodId) (p0 : Int32) (p1 : Int64) (p2 : Int64) (p3 : Int64) : entryFrame m #[(.int p0), (.long p1), (.long p2), (.long p3)] maxLocals = mkF m 0 #[.val (.int p0), .val (.long p1), .second, .val (.long p2), .second, .val (.long p3), .second, .unset, .unset, .unset, .unset, .unset, .unset, .unset, .unset, .unset] [] := by first | (simp [entryFrame, mkF, argsToLocals, Value.category, maxLocals]; done) | rfl
def own_Qlaw (Z : State) (p0 : Int32) (p1 p2 p3 : Int64) (h0 : Heap) (n0 : Nat) (v : Option Value) (h : Heap) (L : List Loc) : Prop := v = some (.int 1) ∧ Fr n0 L
set_option maxRecDepth 65536 in
set_option maxHeartbeats 40000000 in
theorem own_rmlaw (l : Launch) (Z : State) (a0 : Array Value) (hw : ∀ d ∈ tables_1, d.before a0 Z = true) (ws : List Jvm.Cond) (p0 : Int32) (p1 p2 p3 : Int64) (h0 : Heap) (n0 : Nat) (Z0 : n0 ≤ h0.size) :
    MetFree l x (head1 (Jvm.Cond.code x code maxLocals ret :: ws) room_1) (fun a U => a = #[(.int p0), (.long p1), (.long p2), (.long p3)] ∧ Z.Warmed39 U.vm ∧ U.heap = h0) (fun _ _ _ _ _ => True) (fun _ U o U' => ∃ v L, o = .returned v ∧ own_Qlaw Z p0 p1 p2 p3 h0 n0 v U'.heap L ∧ FrameEnd U o U' L 16 128) := by
  refine MetFree.of_bodySF (plainFor_of_name own_pn1) hisR ?_
  intro p e s m args below meth c s₁ Bd hml0 hP hK
  obtain ⟨rfl, hZ, hh⟩ := hP
  have hx := Bd.exec
  have hby := Bd.bytes
  have hml : c.maxLocals = 16 := hml0
  have hown : s.vm.findClass "com/example/physalia/physalia/model/MarkingCheckedCopyPinLaw" = some m.cls := findClass_of_methodNamed Bd.named
  have hnm := (name_of_methodNamed Bd.named Bd.method).1
  have X0 : Stand p l e room_1 s m #[(.int p0), (.long p1), (.long p2), (.long p3)] below meth c s₁ [] 0 0 := Stand.of_body Bd
  have e0 : s₁.heap = h0 := by rw [← hh, Bd.state]; rfl
  have N0 := Fr.nil n0
  refine own_nm (st := s₁.setTop (entryFrame m #[(.int p0), (.long p1), (.long p2), (.long p3)] maxLocals)) fun P fin => ?_
  refine own_fwd (fun t k => castTop (own_eflaw m p0 p1 p2 p3) k) ?_
  show own_R p.tables e below P (s₁.setTop (mkF m 0 #[.val (.int p0), .val (.long p1), .second, .val (.long p2), .second, .val (.long p3), .second, .unset, .unset, .unset, .unset, .unset, .unset, .unset, .unset, .unset] []))
  refine own_fwd (fun t k => XS.iloadN X0.here hx rfl (hb hby at_0) rfl k) ?_
  show own_R p.tables e below P (s₁.setTop (mkF m 1 #[.val (.int p0), .val (.long p1), .second, .val (.long p2), .second, .val (.long p3), .second, .unset, .unset, .unset, .unset, .unset, .unset, .unset, .unset, .unset] [(.int p0)]))
  refine own_fwd (fun t k => XS.iconst X0.here hx rfl (hb hby at_1) k) ?_
  show own_R p.tables e below P (s₁.setTop (mkF m 2 #[.val (.int p0), .val (.long p1), .second, .val (.long p2), .second, .val (.long p3), .second, .unset, .unset, .unset, .unset, .unset, .unset, .unset, .unset, .unset] [(.int (3 : Int32)), (.int p0)]))
  refine own_fwd (fun t k => XS.iand X0.here hx rfl (hb hby at_2) rfl k) ?_
  show own_R p.tables e below P (s₁.setTop (mkF m 3 #[.val (.int p0), .val (.long p1), .second, .val (.long p2), .second, .val (.long p3), .second, .unset, .unset, .unset, .unset, .unset, .unset, .unset, .unset, .unset] [(.int (p0 &&& (3 : Int32)))]))
  rcases own_and3 p0 with hs | hs | hs | hs
  · rw [hs]
    show own_R p.tables e below P (s₁.setTop (mkF m 3 #[.val (.int p0), .val (.long p1), .second, .val (.long p2), .second, .val (.long p3), .second, .unset, .unset, .unset, .unset, .unset, .unset, .unset, .unset, .unset] [(.int (0 : Int32))]))
    refine own_fwd (fun t k => XS.istore X0.here hx rfl (hb hby at_3) rfl (l' := #[.val (.int p0), .val (.long p1), .second, .val (.long p2), .second, .val (.long p3), .second, .val (.int (0 : Int32)), .unset, .unset, .unset, .unset, .unset, .unset, .unset, .unset]) rfl k) ?_
    show own_R p.tables e below P (s₁.setTop (mkF m 5 #[.val (.int p0), .val (.long p1), .second, .val (.long p2), .second, .val (.long p3), .second, .val (.int (0 : Int32)), .unset, .unset, .unset, .unset, .unset, .unset, .unset, .unset] []))
    refine own_fwd (fun t k => XS.lloadN X0.here hx rfl (hb hby at_5) rfl k) ?_
    show own_R p.tables e below P (s₁.setTop (mkF m 6 #[.val (.int p0), .val (.long p1), .second, .val (.long p2), .second, .val (.long p3), .second, .val (.int (0 : Int32)), .unset, .unset, .unset, .unset, .unset, .unset, .unset, .unset] [(.long p1)]))
    refine own_fwd (fun t k => X0.ldc2Long hx hown (mvT hZ (hw _ (List.mem_of_getElem? (i := 0) rfl))) (g := (mkF m 6 #[.val (.int p0), .val (.long p1), .second, .val (.long p2), .second, .val (.long p3), .second, .val (.int (0 : Int32)), .unset, .unset, .unset, .unset, .unset, .unset, .unset, .unset] [(.long p1)])) rfl (hb hby at_6) t k) ?_
    show own_R p.tables e below P (s₁.setTop (mkF m 9 #[.val (.int p0), .val (.long p1), .second, .val (.long p2), .second, .val (.long p3), .second, .val (.int (0 : Int32)), .unset, .unset, .unset, .unset, .unset, .unset, .unset, .unset] [(.long (9223372036854775807 : Int64)), (.long p1)]))
    refine own_fwd (fun t k => XS.land X0.here hx rfl (hb hby at_9) rfl k) ?_
    show own_R p.tables e below P (s₁.setTop (mkF m 10 #[.val (.int p0), .val (.long p1), .second, .val (.long p2), .second, .val (.long p3), .second, .val (.int (0 : Int32)), .unset, .unset, .unset, .unset, .unset, .unset, .unset, .unset] [(.long (p1 &&& (9223372036854775807 : Int64)))]))
    refine own_fwd (fun t k => XS.lstore X0.here hx rfl (hb hby at_10) rfl (l' := #[.val (.int p0), .val (.long p1), .second, .val (.long p2), .second, .val (.long p3), .second, .val (.int (0 : Int32)), .val (.long (p1 &&& (9223372036854775807 : Int64))), .second, .unset, .unset, .unset, .unset, .unset, .unset]) rfl k) ?_
    show own_R p.tables e below P (s₁.setTop (mkF m 12 #[.val (.int p0), .val (.long p1), .second, .val (.long p2), .second, .val (.long p3), .second, .val (.int (0 : Int32)), .val (.long (p1 &&& (9223372036854775807 : Int64))), .second, .unset, .unset, .unset, .unset, .unset, .unset] []))
    refine own_fwd (fun t k => XS.lloadN X0.here hx rfl (hb hby at_12) rfl k) ?_
    show own_R p.tables e below P (s₁.setTop (mkF m 13 #[.val (.int p0), .val (.long p1), .second, .val (.long p2), .second, .val (.long p3), .second, .val (.int (0 : Int32)), .val (.long (p1 &&& (9223372036854775807 : Int64))), .second, .unset, .unset, .unset, .unset, .unset, .unset] [(.long p2)]))
    refine own_fwd (fun t k => X0.ldc2Long hx hown (mvT hZ (hw _ (List.mem_of_getElem? (i := 0) rfl))) (g := (mkF m 13 #[.val (.int p0), .val (.long p1), .second, .val (.long p2), .second, .val (.long p3), .second, .val (.int (0 : Int32)), .val (.long (p1 &&& (9223372036854775807 : Int64))), .second, .unset, .unset, .unset, .unset, .unset, .unset] [(.long p2)])) rfl (hb hby at_13) t k) ?_
    show own_R p.tables e below P (s₁.setTop (mkF m 16 #[.val (.int p0), .val (.long p1), .second, .val (.long p2), .second, .val (.long p3), .second, .val (.int (0 : Int32)), .val (.long (p1 &&& (9223372036854775807 : Int64))), .second, .unset, .unset, .unset, .unset, .unset, .unset] [(.long (9223372036854775807 : Int64)), (.long p2)]))
    refine own_fwd (fun t k => XS.land X0.here hx rfl (hb hby at_16) rfl k) ?_
    show own_R p.tables e below P (s₁.setTop (mkF m 17 #[.val (.int p0), .val (.long p1), .second, .val (.long p2), .second, .val (.long p3), .second, .val (.int (0 : Int32)), .val (.long (p1 &&& (9223372036854775807 : Int64))), .second, .unset, .unset, .unset, .unset, .unset, .unset] [(.long (p2 &&& (9223372036854775807 : Int64)))]))
    refine own_fwd (fun t k => XS.lstore X0.here hx rfl (hb hby at_17) rfl (l' := #[.val (.int p0), .val (.long p1), .second, .val (.long p2), .second, .val (.long p3), .second, .val (.int (0 : Int32)), .val (.long (p1 &&& (9223372036854775807 : Int64))), .second, .val (.long (p2 &&& (9223372036854775807 : Int64))), .second, .unset, .unset, .unset, .unset]) rfl k) ?_
    show own_R p.tables e below P (s₁.setTop (mkF m 19 #[.val (.int p0), .val (.long p1), .second, .val (.long p2), .second, .val (.long p3), .second, .val (.int (0 : Int32)), .val (.long (p1 &&& (9223372036854775807 : Int64))), .second, .val (.long (p2 &&& (9223372036854775807 : Int64))), .second, .unset, .unset, .unset, .unset] []))
    refine own_fwd (fun t k => XS.lload X0.here hx rfl (hb hby at_19) rfl k) ?_
    show own_R p.tables e below P (s₁.setTop (mkF m 21 #[.val (.int p0), .val (.long p1), .second, .val (.long p2), .second, .val (.long p3), .second, .val (.int (0 : Int32)), .val (.long (p1 &&& (9223372036854775807 : Int64))), .second, .val (.long (p2 &&& (9223372036854775807 : Int64))), .second, .unset, .unset, .unset, .unset] [(.long p3)]))
    refine own_fwd (fun t k => X0.ldc2Long hx hown (mvT hZ (hw _ (List.mem_of_getElem? (i := 0) rfl))) (g := (mkF m 21 #[.val (.int p0), .val (.long p1), .second, .val (.long p2), .second, .val (.long p3), .second, .val (.int (0 : Int32)), .val (.long (p1 &&& (9223372036854775807 : Int64))), .second, .val (.long (p2 &&& (9223372036854775807 : Int64))), .second, .unset, .unset, .unset, .unset] [(.long p3)])) rfl (hb hby at_21) t k) ?_
    show own_R p.tables e below P (s₁.setTop (mkF m 24 #[.val (.int p0), .val (.long p1), .second, .val (.long p2), .second, .val (.long p3), .second, .val (.int (0 : Int32)), .val (.long (p1 &&& (9223372036854775807 : Int64))), .second, .val (.long (p2 &&& (9223372036854775807 : Int64))), .second, .unset, .unset, .unset, .unset] [(.long (9223372036854775807 : Int64)), (.long p3)]))
    refine own_fwd (fun t k => XS.land X0.here hx rfl (hb hby at_24) rfl k) ?_
    show own_R p.tables e below P (s₁.setTop (mkF m 25 #[.val (.int p0), .val (.long p1), .second, .val (.long p2), .second, .val (.long p3), .second, .val (.int (0 : Int32)), .val (.long (p1 &&& (9223372036854775807 : Int64))), .second, .val (.long (p2 &&& (9223372036854775807 : Int64))), .second, .unset, .unset, .unset, .unset] [(.long (p3 &&& (9223372036854775807 : Int64)))]))
    refine own_fwd (fun t k => XS.lstore X0.here hx rfl (hb hby at_25) rfl (l' := #[.val (.int p0), .val (.long p1), .second, .val (.long p2), .second, .val (.long p3), .second, .val (.int (0 : Int32)), .val (.long (p1 &&& (9223372036854775807 : Int64))), .second, .val (.long (p2 &&& (9223372036854775807 : Int64))), .second, .val (.long (p3 &&& (9223372036854775807 : Int64))), .second, .unset, .unset]) rfl k) ?_
    show own_R p.tables e below P (s₁.setTop (mkF m 27 #[.val (.int p0), .val (.long p1), .second, .val (.long p2), .second, .val (.long p3), .second, .val (.int (0 : Int32)), .val (.long (p1 &&& (9223372036854775807 : Int64))), .second, .val (.long (p2 &&& (9223372036854775807 : Int64))), .second, .val (.long (p3 &&& (9223372036854775807 : Int64))), .second, .unset, .unset] []))
    refine own_fwd (fun t k => XS.iload X0.here hx rfl (hb hby at_27) rfl k) ?_
    show own_R p.tables e below P (s₁.setTop (mkF m 29 #[.val (.int p0), .val (.long p1), .second, .val (.long p2), .second, .val (.long p3), .second, .val (.int (0 : Int32)), .val (.long (p1 &&& (9223372036854775807 : Int64))), .second, .val (.long (p2 &&& (9223372036854775807 : Int64))), .second, .val (.long (p3 &&& (9223372036854775807 : Int64))), .second, .unset, .unset] [(.int (0 : Int32))]))
    obtain ⟨T8, h8, b8, g8, X8, e8, E8, A8, B8, st8⟩ := own_newA (n := 0) X0 hx hZ (hw _ (List.mem_of_getElem? (i := 1) rfl)) e0 (z := (0 : Int32)) (by decide) (cap := 0) (by decide) (g := (mkF m 29 #[.val (.int p0), .val (.long p1), .second, .val (.long p2), .second, .val (.long p3), .second, .val (.int (0 : Int32)), .val (.long (p1 &&& (9223372036854775807 : Int64))), .second, .val (.long (p2 &&& (9223372036854775807 : Int64))), .second, .val (.long (p3 &&& (9223372036854775807 : Int64))), .second, .unset, .unset] [(.int (0 : Int32))])) rfl (hb hby at_29) rfl (by decide) (by decide) (by decide) (ad := "[J") (by decide)
    have ge_b8 : n0 ≤ b8 := by rw [g8]; exact Z0
    have sz_b8 : h0.size ≤ b8 := by rw [g8]; exact (Nat.le_refl h0.size)
    have A8_ : own_AJ Z h8 b8 0 (fun _ => (0 : Int64)) := A8
    have Z8 : n0 ≤ h8.size := Nat.le_trans Z0 E8.1
    have Y8 : h0.size ≤ h8.size := Nat.le_trans (Nat.le_refl h0.size) E8.1
    refine own_fwd st8 ?_
    show own_R p.tables e below P (T8.setTop (mkF m 31 #[.val (.int p0), .val (.long p1), .second, .val (.long p2), .second, .val (.long p3), .second, .val (.int (0 : Int32)), .val (.long (p1 &&& (9223372036854775807 : Int64))), .second, .val (.long (p2 &&& (9223372036854775807 : Int64))), .second, .val (.long (p3 &&& (9223372036854775807 : Int64))), .second, .unset, .unset] [(.ref b8)]))
    refine own_fwd (fun t k => XS.astore X8.here hx rfl (hb hby at_31) rfl rfl (l' := #[.val (.int p0), .val (.long p1), .second, .val (.long p2), .second, .val (.long p3), .second, .val (.int (0 : Int32)), .val (.long (p1 &&& (9223372036854775807 : Int64))), .second, .val (.long (p2 &&& (9223372036854775807 : Int64))), .second, .val (.long (p3 &&& (9223372036854775807 : Int64))), .second, .val (.ref b8), .unset]) rfl k) ?_
    show own_R p.tables e below P (T8.setTop (mkF m 33 #[.val (.int p0), .val (.long p1), .second, .val (.long p2), .second, .val (.long p3), .second, .val (.int (0 : Int32)), .val (.long (p1 &&& (9223372036854775807 : Int64))), .second, .val (.long (p2 &&& (9223372036854775807 : Int64))), .second, .val (.long (p3 &&& (9223372036854775807 : Int64))), .second, .val (.ref b8), .unset] []))
    refine own_fwd (fun t k => XS.iload X8.here hx rfl (hb hby at_33) rfl k) ?_
    show own_R p.tables e below P (T8.setTop (mkF m 35 #[.val (.int p0), .val (.long p1), .second, .val (.long p2), .second, .val (.long p3), .second, .val (.int (0 : Int32)), .val (.long (p1 &&& (9223372036854775807 : Int64))), .second, .val (.long (p2 &&& (9223372036854775807 : Int64))), .second, .val (.long (p3 &&& (9223372036854775807 : Int64))), .second, .val (.ref b8), .unset] [(.int (0 : Int32))]))
    have hc9 : ¬ ((0 : Int32) < (0 : Int32)) := (by decide)
    refine own_fwd (fun t k => XS.ifYes X8.here hx rfl (pc0 := 35) (pc' := 44) rfl (hb hby at_35) rfl ((if0 _ _).trans (flt hc9).2.2.2) (by decide) (by decide) k) ?_
    show own_R p.tables e below P (T8.setTop (mkF m 44 #[.val (.int p0), .val (.long p1), .second, .val (.long p2), .second, .val (.long p3), .second, .val (.int (0 : Int32)), .val (.long (p1 &&& (9223372036854775807 : Int64))), .second, .val (.long (p2 &&& (9223372036854775807 : Int64))), .second, .val (.long (p3 &&& (9223372036854775807 : Int64))), .second, .val (.ref b8), .unset] []))
    refine own_fwd (fun t k => XS.iload X8.here hx rfl (hb hby at_44) rfl k) ?_
    show own_R p.tables e below P (T8.setTop (mkF m 46 #[.val (.int p0), .val (.long p1), .second, .val (.long p2), .second, .val (.long p3), .second, .val (.int (0 : Int32)), .val (.long (p1 &&& (9223372036854775807 : Int64))), .second, .val (.long (p2 &&& (9223372036854775807 : Int64))), .second, .val (.long (p3 &&& (9223372036854775807 : Int64))), .second, .val (.ref b8), .unset] [(.int (0 : Int32))]))
    refine own_fwd (fun t k => XS.iconst X8.here hx rfl (hb hby at_46) k) ?_
    show own_R p.tables e below P (T8.setTop (mkF m 47 #[.val (.int p0), .val (.long p1), .second, .val (.long p2), .second, .val (.long p3), .second, .val (.int (0 : Int32)), .val (.long (p1 &&& (9223372036854775807 : Int64))), .second, .val (.long (p2 &&& (9223372036854775807 : Int64))), .second, .val (.long (p3 &&& (9223372036854775807 : Int64))), .second, .val (.ref b8), .unset] [(.int (1 : Int32)), (.int (0 : Int32))]))
    have hc10 : ¬ ((1 : Int32) < (0 : Int32)) := (by decide)
    refine own_fwd (fun t k => XS.icmpYes X8.here hx rfl (pc0 := 47) (pc' := 56) rfl (hb hby at_47) rfl (flt hc10).2.2.2 (by decide) (by decide) k) ?_
    show own_R p.tables e below P (T8.setTop (mkF m 56 #[.val (.int p0), .val (.long p1), .second, .val (.long p2), .second, .val (.long p3), .second, .val (.int (0 : Int32)), .val (.long (p1 &&& (9223372036854775807 : Int64))), .second, .val (.long (p2 &&& (9223372036854775807 : Int64))), .second, .val (.long (p3 &&& (9223372036854775807 : Int64))), .second, .val (.ref b8), .unset] []))
    refine own_fwd (fun t k => XS.iload X8.here hx rfl (hb hby at_56) rfl k) ?_
    show own_R p.tables e below P (T8.setTop (mkF m 58 #[.val (.int p0), .val (.long p1), .second, .val (.long p2), .second, .val (.long p3), .second, .val (.int (0 : Int32)), .val (.long (p1 &&& (9223372036854775807 : Int64))), .second, .val (.long (p2 &&& (9223372036854775807 : Int64))), .second, .val (.long (p3 &&& (9223372036854775807 : Int64))), .second, .val (.ref b8), .unset] [(.int (0 : Int32))]))
    refine own_fwd (fun t k => XS.iconst X8.here hx rfl (hb hby at_58) k) ?_
    show own_R p.tables e below P (T8.setTop (mkF m 59 #[.val (.int p0), .val (.long p1), .second, .val (.long p2), .second, .val (.long p3), .second, .val (.int (0 : Int32)), .val (.long (p1 &&& (9223372036854775807 : Int64))), .second, .val (.long (p2 &&& (9223372036854775807 : Int64))), .second, .val (.long (p3 &&& (9223372036854775807 : Int64))), .second, .val (.ref b8), .unset] [(.int (2 : Int32)), (.int (0 : Int32))]))
    have hc11 : ¬ ((2 : Int32) < (0 : Int32)) := (by decide)
    refine own_fwd (fun t k => XS.icmpYes X8.here hx rfl (pc0 := 59) (pc' := 68) rfl (hb hby at_59) rfl (flt hc11).2.2.2 (by decide) (by decide) k) ?_
    show own_R p.tables e below P (T8.setTop (mkF m 68 #[.val (.int p0), .val (.long p1), .second, .val (.long p2), .second, .val (.long p3), .second, .val (.int (0 : Int32)), .val (.long (p1 &&& (9223372036854775807 : Int64))), .second, .val (.long (p2 &&& (9223372036854775807 : Int64))), .second, .val (.long (p3 &&& (9223372036854775807 : Int64))), .second, .val (.ref b8), .unset] []))
    refine own_fwd (fun t k => XS.aload X8.here hx rfl (hb hby at_68) rfl rfl k) ?_
    show own_R p.tables e below P (T8.setTop (mkF m 70 #[.val (.int p0), .val (.long p1), .second, .val (.long p2), .second, .val (.long p3), .second, .val (.int (0 : Int32)), .val (.long (p1 &&& (9223372036854775807 : Int64))), .second, .val (.long (p2 &&& (9223372036854775807 : Int64))), .second, .val (.long (p3 &&& (9223372036854775807 : Int64))), .second, .val (.ref b8), .unset] [(.ref b8)]))
    obtain ⟨_, _, ⟨T12, L12, k12, n12⟩, -, X12, ⟨Lc12, hQ12, l12, y12, z12⟩, st12⟩ := Jvm.LawKit.callS X8 hx (y := (⟨"com/example/physalia/physalia/model/Marking", "checkedCopy", "([J)[J"⟩ : MethodName)) hown (mvT hZ (hw _ (List.mem_of_getElem? (i := 2) rfl))) (mvT hZ (hw _ (List.mem_of_getElem? (i := 3) rfl))) (mvT hZ (hw _ (List.mem_of_getElem? (i := 4) rfl))) (mvT hZ (hw _ (List.mem_of_getElem? (i := 5) rfl))) (by decide) (backOf (W := 0) (own_rm1 l Z a0 hw [] b8 0 (fun _ => (0 : Int64)) h8 n0 Z8 A8_ B8 (by decide) (fun i hi => by
          have e1 : (0 : Int64).toInt = 0 := rfl
          have h1 := (c_andSL p1 9223372036854775807).2.2 (by decide)
          have h2 := (c_andSL p2 9223372036854775807).2.2 (by decide)
          have h3 := (c_andSL p3 9223372036854775807).2.2 (by decide)
          omega)) hZ (hw _ (List.mem_of_getElem? (i := 5) rfl)) (hw _ (List.mem_of_getElem? (i := 4) rfl)) (by decide) (by decide)) (g := (mkF m 70 #[.val (.int p0), .val (.long p1), .second, .val (.long p2), .second, .val (.long p3), .second, .val (.int (0 : Int32)), .val (.long (p1 &&& (9223372036854775807 : Int64))), .second, .val (.long (p2 &&& (9223372036854775807 : Int64))), .second, .val (.long (p3 &&& (9223372036854775807 : Int64))), .second, .val (.ref b8), .unset] [(.ref b8)])) rfl (by rw [hml]; rfl) (argsL := [(.ref b8)]) (rest := []) (lenOf own_pd0 rfl) rfl (by show 2 * 0 + _ ≤ _; exact Nat.le_of_eq rfl) (hb hby at_70) (fun _ _ => ⟨rfl, e8, (by decide : 1 + 1 ≤ _), (by decide : 0 + 3 ≤ _)⟩)
    dsimp only [Pt.U, Pt.locs, Pt.cells, Pt.slots] at X12 l12 y12 z12 st12 hQ12
    subst l12 y12 z12
    obtain ⟨h12, e12⟩ : ∃ z, T12.heap = z := ⟨_, rfl⟩
    rw [e12] at hQ12
    obtain ⟨o12, hq12, N12q, ge_o12, sq12, K12, A12_⟩ := hQ12
    subst hq12
    have N12 := Fr.app N0 N12q
    have ne12_b8 : b8 ≠ o12 := Nat.ne_of_lt (Nat.lt_of_lt_of_le A8_.lt sq12)
    have A8__x12 := A8_.keep K12 nin0
    have B8_x12 := B8.keep K12
    have Z12 : n0 ≤ h12.size := Nat.le_trans Z8 K12.1
    have Y12 : h0.size ≤ h12.size := Nat.le_trans Y8 K12.1
    refine own_fwd st12 ?_
    show own_R p.tables e below P (T12.setTop (mkF m 73 #[.val (.int p0), .val (.long p1), .second, .val (.long p2), .second, .val (.long p3), .second, .val (.int (0 : Int32)), .val (.long (p1 &&& (9223372036854775807 : Int64))), .second, .val (.long (p2 &&& (9223372036854775807 : Int64))), .second, .val (.long (p3 &&& (9223372036854775807 : Int64))), .second, .val (.ref b8), .unset] [(.ref o12)]))
    refine own_fwd (fun t k => XS.astore X12.here hx rfl (hb hby at_73) rfl rfl (l' := #[.val (.int p0), .val (.long p1), .second, .val (.long p2), .second, .val (.long p3), .second, .val (.int (0 : Int32)), .val (.long (p1 &&& (9223372036854775807 : Int64))), .second, .val (.long (p2 &&& (9223372036854775807 : Int64))), .second, .val (.long (p3 &&& (9223372036854775807 : Int64))), .second, .val (.ref b8), .val (.ref o12)]) rfl k) ?_
    show own_R p.tables e below P (T12.setTop (mkF m 75 #[.val (.int p0), .val (.long p1), .second, .val (.long p2), .second, .val (.long p3), .second, .val (.int (0 : Int32)), .val (.long (p1 &&& (9223372036854775807 : Int64))), .second, .val (.long (p2 &&& (9223372036854775807 : Int64))), .second, .val (.long (p3 &&& (9223372036854775807 : Int64))), .second, .val (.ref b8), .val (.ref o12)] []))
    refine own_fwd (fun t k => XS.aload X12.here hx rfl (hb hby at_75) rfl rfl k) ?_
    show own_R p.tables e below P (T12.setTop (mkF m 77 #[.val (.int p0), .val (.long p1), .second, .val (.long p2), .second, .val (.long p3), .second, .val (.int (0 : Int32)), .val (.long (p1 &&& (9223372036854775807 : Int64))), .second, .val (.long (p2 &&& (9223372036854775807 : Int64))), .second, .val (.long (p3 &&& (9223372036854775807 : Int64))), .second, .val (.ref b8), .val (.ref o12)] [(.ref o12)]))
    refine own_fwd (fun t k => XS.ifnullNo X12.here hx rfl (hb hby at_77) rfl k) ?_
    show own_R p.tables e below P (T12.setTop (mkF m 80 #[.val (.int p0), .val (.long p1), .second, .val (.long p2), .second, .val (.long p3), .second, .val (.int (0 : Int32)), .val (.long (p1 &&& (9223372036854775807 : Int64))), .second, .val (.long (p2 &&& (9223372036854775807 : Int64))), .second, .val (.long (p3 &&& (9223372036854775807 : Int64))), .second, .val (.ref b8), .val (.ref o12)] []))
    refine own_fwd (fun t k => XS.aload X12.here hx rfl (hb hby at_80) rfl rfl k) ?_
    show own_R p.tables e below P (T12.setTop (mkF m 82 #[.val (.int p0), .val (.long p1), .second, .val (.long p2), .second, .val (.long p3), .second, .val (.int (0 : Int32)), .val (.long (p1 &&& (9223372036854775807 : Int64))), .second, .val (.long (p2 &&& (9223372036854775807 : Int64))), .second, .val (.long (p3 &&& (9223372036854775807 : Int64))), .second, .val (.ref b8), .val (.ref o12)] [(.ref o12)]))
    refine own_fwd (own_len X12 hx hZ e12 A12_ (0 : Int32) (by decide) (g := (mkF m 82 #[.val (.int p0), .val (.long p1), .second, .val (.long p2), .second, .val (.long p3), .second, .val (.int (0 : Int32)), .val (.long (p1 &&& (9223372036854775807 : Int64))), .second, .val (.long (p2 &&& (9223372036854775807 : Int64))), .second, .val (.long (p3 &&& (9223372036854775807 : Int64))), .second, .val (.ref b8), .val (.ref o12)] [(.ref o12)])) rfl rfl (hb hby at_82)) ?_
    show own_R p.tables e below P (T12.setTop (mkF m 83 #[.val (.int p0), .val (.long p1), .second, .val (.long p2), .second, .val (.long p3), .second, .val (.int (0 : Int32)), .val (.long (p1 &&& (9223372036854775807 : Int64))), .second, .val (.long (p2 &&& (9223372036854775807 : Int64))), .second, .val (.long (p3 &&& (9223372036854775807 : Int64))), .second, .val (.ref b8), .val (.ref o12)] [(.int (0 : Int32))]))
    refine own_fwd (fun t k => XS.iload X12.here hx rfl (hb hby at_83) rfl k) ?_
    show own_R p.tables e below P (T12.setTop (mkF m 85 #[.val (.int p0), .val (.long p1), .second, .val (.long p2), .second, .val (.long p3), .second, .val (.int (0 : Int32)), .val (.long (p1 &&& (9223372036854775807 : Int64))), .second, .val (.long (p2 &&& (9223372036854775807 : Int64))), .second, .val (.long (p3 &&& (9223372036854775807 : Int64))), .second, .val (.ref b8), .val (.ref o12)] [(.int (0 : Int32)), (.int (0 : Int32))]))
    have hc13 : (0 : Int32) = (0 : Int32) := (by decide)
    refine own_fwd (fun t k => XS.icmpYes X12.here hx rfl (pc0 := 85) (pc' := 90) rfl (hb hby at_85) rfl (teq hc13).1 (by decide) (by decide) k) ?_
    show own_R p.tables e below P (T12.setTop (mkF m 90 #[.val (.int p0), .val (.long p1), .second, .val (.long p2), .second, .val (.long p3), .second, .val (.int (0 : Int32)), .val (.long (p1 &&& (9223372036854775807 : Int64))), .second, .val (.long (p2 &&& (9223372036854775807 : Int64))), .second, .val (.long (p3 &&& (9223372036854775807 : Int64))), .second, .val (.ref b8), .val (.ref o12)] []))
    refine own_fwd (fun t k => XS.iload X12.here hx rfl (hb hby at_90) rfl k) ?_
    show own_R p.tables e below P (T12.setTop (mkF m 92 #[.val (.int p0), .val (.long p1), .second, .val (.long p2), .second, .val (.long p3), .second, .val (.int (0 : Int32)), .val (.long (p1 &&& (9223372036854775807 : Int64))), .second, .val (.long (p2 &&& (9223372036854775807 : Int64))), .second, .val (.long (p3 &&& (9223372036854775807 : Int64))), .second, .val (.ref b8), .val (.ref o12)] [(.int (0 : Int32))]))
    have hc14 : ¬ ((0 : Int32) < (0 : Int32)) := (by decide)
    refine own_fwd (fun t k => XS.ifYes X12.here hx rfl (pc0 := 92) (pc' := 107) rfl (hb hby at_92) rfl ((if0 _ _).trans (flt hc14).2.2.2) (by decide) (by decide) k) ?_
    show own_R p.tables e below P (T12.setTop (mkF m 107 #[.val (.int p0), .val (.long p1), .second, .val (.long p2), .second, .val (.long p3), .second, .val (.int (0 : Int32)), .val (.long (p1 &&& (9223372036854775807 : Int64))), .second, .val (.long (p2 &&& (9223372036854775807 : Int64))), .second, .val (.long (p3 &&& (9223372036854775807 : Int64))), .second, .val (.ref b8), .val (.ref o12)] []))
    refine own_fwd (fun t k => XS.iload X12.here hx rfl (hb hby at_107) rfl k) ?_
    show own_R p.tables e below P (T12.setTop (mkF m 109 #[.val (.int p0), .val (.long p1), .second, .val (.long p2), .second, .val (.long p3), .second, .val (.int (0 : Int32)), .val (.long (p1 &&& (9223372036854775807 : Int64))), .second, .val (.long (p2 &&& (9223372036854775807 : Int64))), .second, .val (.long (p3 &&& (9223372036854775807 : Int64))), .second, .val (.ref b8), .val (.ref o12)] [(.int (0 : Int32))]))
    refine own_fwd (fun t k => XS.iconst X12.here hx rfl (hb hby at_109) k) ?_
    show own_R p.tables e below P (T12.setTop (mkF m 110 #[.val (.int p0), .val (.long p1), .second, .val (.long p2), .second, .val (.long p3), .second, .val (.int (0 : Int32)), .val (.long (p1 &&& (9223372036854775807 : Int64))), .second, .val (.long (p2 &&& (9223372036854775807 : Int64))), .second, .val (.long (p3 &&& (9223372036854775807 : Int64))), .second, .val (.ref b8), .val (.ref o12)] [(.int (1 : Int32)), (.int (0 : Int32))]))
    have hc15 : ¬ ((1 : Int32) < (0 : Int32)) := (by decide)
    refine own_fwd (fun t k => XS.icmpYes X12.here hx rfl (pc0 := 110) (pc' := 125) rfl (hb hby at_110) rfl (flt hc15).2.2.2 (by decide) (by decide) k) ?_
    show own_R p.tables e below P (T12.setTop (mkF m 125 #[.val (.int p0), .val (.long p1), .second, .val (.long p2), .second, .val (.long p3), .second, .val (.int (0 : Int32)), .val (.long (p1 &&& (9223372036854775807 : Int64))), .second, .val (.long (p2 &&& (9223372036854775807 : Int64))), .second, .val (.long (p3 &&& (9223372036854775807 : Int64))), .second, .val (.ref b8), .val (.ref o12)] []))
    refine own_fwd (fun t k => XS.iload X12.here hx rfl (hb hby at_125) rfl k) ?_
    show own_R p.tables e below P (T12.setTop (mkF m 127 #[.val (.int p0), .val (.long p1), .second, .val (.long p2), .second, .val (.long p3), .second, .val (.int (0 : Int32)), .val (.long (p1 &&& (9223372036854775807 : Int64))), .second, .val (.long (p2 &&& (9223372036854775807 : Int64))), .second, .val (.long (p3 &&& (9223372036854775807 : Int64))), .second, .val (.ref b8), .val (.ref o12)] [(.int (0 : Int32))]))
    refine own_fwd (fun t k => XS.iconst X12.here hx rfl (hb hby at_127) k) ?_
    show own_R p.tables e below P (T12.setTop (mkF m 128 #[.val (.int p0), .val (.long p1), .second, .val (.long p2), .second, .val (.long p3), .second, .val (.int (0 : Int32)), .val (.long (p1 &&& (9223372036854775807 : Int64))), .second, .val (.long (p2 &&& (9223372036854775807 : Int64))), .second, .val (.long (p3 &&& (9223372036854775807 : Int64))), .second, .val (.ref b8), .val (.ref o12)] [(.int (2 : Int32)), (.int (0 : Int32))]))
    have hc16 : ¬ ((2 : Int32) < (0 : Int32)) := (by decide)
    refine own_fwd (fun t k => XS.icmpYes X12.here hx rfl (pc0 := 128) (pc' := 143) rfl (hb hby at_128) rfl (flt hc16).2.2.2 (by decide) (by decide) k) ?_
    show own_R p.tables e below P (T12.setTop (mkF m 143 #[.val (.int p0), .val (.long p1), .second, .val (.long p2), .second, .val (.long p3), .second, .val (.int (0 : Int32)), .val (.long (p1 &&& (9223372036854775807 : Int64))), .second, .val (.long (p2 &&& (9223372036854775807 : Int64))), .second, .val (.long (p3 &&& (9223372036854775807 : Int64))), .second, .val (.ref b8), .val (.ref o12)] []))
    refine own_fwd (fun t k => XS.iload X12.here hx rfl (hb hby at_143) rfl k) ?_
    show own_R p.tables e below P (T12.setTop (mkF m 145 #[.val (.int p0), .val (.long p1), .second, .val (.long p2), .second, .val (.long p3), .second, .val (.int (0 : Int32)), .val (.long (p1 &&& (9223372036854775807 : Int64))), .second, .val (.long (p2 &&& (9223372036854775807 : Int64))), .second, .val (.long (p3 &&& (9223372036854775807 : Int64))), .second, .val (.ref b8), .val (.ref o12)] [(.int (0 : Int32))]))
    have hc17 : ¬ ((0 : Int32) < (0 : Int32)) := (by decide)
    refine own_fwd (fun t k => XS.ifYes X12.here hx rfl (pc0 := 145) (pc' := 158) rfl (hb hby at_145) rfl ((if0 _ _).trans (flt hc17).2.2.2) (by decide) (by decide) k) ?_
    show own_R p.tables e below P (T12.setTop (mkF m 158 #[.val (.int p0), .val (.long p1), .second, .val (.long p2), .second, .val (.long p3), .second, .val (.int (0 : Int32)), .val (.long (p1 &&& (9223372036854775807 : Int64))), .second, .val (.long (p2 &&& (9223372036854775807 : Int64))), .second, .val (.long (p3 &&& (9223372036854775807 : Int64))), .second, .val (.ref b8), .val (.ref o12)] []))
    refine own_fwd (fun t k => XS.iload X12.here hx rfl (hb hby at_158) rfl k) ?_
    show own_R p.tables e below P (T12.setTop (mkF m 160 #[.val (.int p0), .val (.long p1), .second, .val (.long p2), .second, .val (.long p3), .second, .val (.int (0 : Int32)), .val (.long (p1 &&& (9223372036854775807 : Int64))), .second, .val (.long (p2 &&& (9223372036854775807 : Int64))), .second, .val (.long (p3 &&& (9223372036854775807 : Int64))), .second, .val (.ref b8), .val (.ref o12)] [(.int (0 : Int32))]))
    refine own_fwd (fun t k => XS.iconst X12.here hx rfl (hb hby at_160) k) ?_
    show own_R p.tables e below P (T12.setTop (mkF m 161 #[.val (.int p0), .val (.long p1), .second, .val (.long p2), .second, .val (.long p3), .second, .val (.int (0 : Int32)), .val (.long (p1 &&& (9223372036854775807 : Int64))), .second, .val (.long (p2 &&& (9223372036854775807 : Int64))), .second, .val (.long (p3 &&& (9223372036854775807 : Int64))), .second, .val (.ref b8), .val (.ref o12)] [(.int (1 : Int32)), (.int (0 : Int32))]))
    have hc18 : ¬ ((1 : Int32) < (0 : Int32)) := (by decide)
    refine own_fwd (fun t k => XS.icmpYes X12.here hx rfl (pc0 := 161) (pc' := 174) rfl (hb hby at_161) rfl (flt hc18).2.2.2 (by decide) (by decide) k) ?_
    show own_R p.tables e below P (T12.setTop (mkF m 174 #[.val (.int p0), .val (.long p1), .second, .val (.long p2), .second, .val (.long p3), .second, .val (.int (0 : Int32)), .val (.long (p1 &&& (9223372036854775807 : Int64))), .second, .val (.long (p2 &&& (9223372036854775807 : Int64))), .second, .val (.long (p3 &&& (9223372036854775807 : Int64))), .second, .val (.ref b8), .val (.ref o12)] []))
    refine own_fwd (fun t k => XS.iload X12.here hx rfl (hb hby at_174) rfl k) ?_
    show own_R p.tables e below P (T12.setTop (mkF m 176 #[.val (.int p0), .val (.long p1), .second, .val (.long p2), .second, .val (.long p3), .second, .val (.int (0 : Int32)), .val (.long (p1 &&& (9223372036854775807 : Int64))), .second, .val (.long (p2 &&& (9223372036854775807 : Int64))), .second, .val (.long (p3 &&& (9223372036854775807 : Int64))), .second, .val (.ref b8), .val (.ref o12)] [(.int (0 : Int32))]))
    refine own_fwd (fun t k => XS.iconst X12.here hx rfl (hb hby at_176) k) ?_
    show own_R p.tables e below P (T12.setTop (mkF m 177 #[.val (.int p0), .val (.long p1), .second, .val (.long p2), .second, .val (.long p3), .second, .val (.int (0 : Int32)), .val (.long (p1 &&& (9223372036854775807 : Int64))), .second, .val (.long (p2 &&& (9223372036854775807 : Int64))), .second, .val (.long (p3 &&& (9223372036854775807 : Int64))), .second, .val (.ref b8), .val (.ref o12)] [(.int (2 : Int32)), (.int (0 : Int32))]))
    have hc19 : ¬ ((2 : Int32) < (0 : Int32)) := (by decide)
    refine own_fwd (fun t k => XS.icmpYes X12.here hx rfl (pc0 := 177) (pc' := 190) rfl (hb hby at_177) rfl (flt hc19).2.2.2 (by decide) (by decide) k) ?_
    show own_R p.tables e below P (T12.setTop (mkF m 190 #[.val (.int p0), .val (.long p1), .second, .val (.long p2), .second, .val (.long p3), .second, .val (.int (0 : Int32)), .val (.long (p1 &&& (9223372036854775807 : Int64))), .second, .val (.long (p2 &&& (9223372036854775807 : Int64))), .second, .val (.long (p3 &&& (9223372036854775807 : Int64))), .second, .val (.ref b8), .val (.ref o12)] []))
    refine own_fwd (fun t k => XS.iload X12.here hx rfl (hb hby at_190) rfl k) ?_
    show own_R p.tables e below P (T12.setTop (mkF m 192 #[.val (.int p0), .val (.long p1), .second, .val (.long p2), .second, .val (.long p3), .second, .val (.int (0 : Int32)), .val (.long (p1 &&& (9223372036854775807 : Int64))), .second, .val (.long (p2 &&& (9223372036854775807 : Int64))), .second, .val (.long (p3 &&& (9223372036854775807 : Int64))), .second, .val (.ref b8), .val (.ref o12)] [(.int (0 : Int32))]))
    have hc20 : ¬ ((0 : Int32) < (0 : Int32)) := (by decide)
    refine own_fwd (fun t k => XS.ifYes X12.here hx rfl (pc0 := 192) (pc' := 207) rfl (hb hby at_192) rfl ((if0 _ _).trans (flt hc20).2.2.2) (by decide) (by decide) k) ?_
    show own_R p.tables e below P (T12.setTop (mkF m 207 #[.val (.int p0), .val (.long p1), .second, .val (.long p2), .second, .val (.long p3), .second, .val (.int (0 : Int32)), .val (.long (p1 &&& (9223372036854775807 : Int64))), .second, .val (.long (p2 &&& (9223372036854775807 : Int64))), .second, .val (.long (p3 &&& (9223372036854775807 : Int64))), .second, .val (.ref b8), .val (.ref o12)] []))
    refine own_fwd (fun t k => XS.iload X12.here hx rfl (hb hby at_207) rfl k) ?_
    show own_R p.tables e below P (T12.setTop (mkF m 209 #[.val (.int p0), .val (.long p1), .second, .val (.long p2), .second, .val (.long p3), .second, .val (.int (0 : Int32)), .val (.long (p1 &&& (9223372036854775807 : Int64))), .second, .val (.long (p2 &&& (9223372036854775807 : Int64))), .second, .val (.long (p3 &&& (9223372036854775807 : Int64))), .second, .val (.ref b8), .val (.ref o12)] [(.int (0 : Int32))]))
    refine own_fwd (fun t k => XS.iconst X12.here hx rfl (hb hby at_209) k) ?_
    show own_R p.tables e below P (T12.setTop (mkF m 210 #[.val (.int p0), .val (.long p1), .second, .val (.long p2), .second, .val (.long p3), .second, .val (.int (0 : Int32)), .val (.long (p1 &&& (9223372036854775807 : Int64))), .second, .val (.long (p2 &&& (9223372036854775807 : Int64))), .second, .val (.long (p3 &&& (9223372036854775807 : Int64))), .second, .val (.ref b8), .val (.ref o12)] [(.int (1 : Int32)), (.int (0 : Int32))]))
    have hc21 : ¬ ((1 : Int32) < (0 : Int32)) := (by decide)
    refine own_fwd (fun t k => XS.icmpYes X12.here hx rfl (pc0 := 210) (pc' := 225) rfl (hb hby at_210) rfl (flt hc21).2.2.2 (by decide) (by decide) k) ?_
    show own_R p.tables e below P (T12.setTop (mkF m 225 #[.val (.int p0), .val (.long p1), .second, .val (.long p2), .second, .val (.long p3), .second, .val (.int (0 : Int32)), .val (.long (p1 &&& (9223372036854775807 : Int64))), .second, .val (.long (p2 &&& (9223372036854775807 : Int64))), .second, .val (.long (p3 &&& (9223372036854775807 : Int64))), .second, .val (.ref b8), .val (.ref o12)] []))
    refine own_fwd (fun t k => XS.iload X12.here hx rfl (hb hby at_225) rfl k) ?_
    show own_R p.tables e below P (T12.setTop (mkF m 227 #[.val (.int p0), .val (.long p1), .second, .val (.long p2), .second, .val (.long p3), .second, .val (.int (0 : Int32)), .val (.long (p1 &&& (9223372036854775807 : Int64))), .second, .val (.long (p2 &&& (9223372036854775807 : Int64))), .second, .val (.long (p3 &&& (9223372036854775807 : Int64))), .second, .val (.ref b8), .val (.ref o12)] [(.int (0 : Int32))]))
    refine own_fwd (fun t k => XS.iconst X12.here hx rfl (hb hby at_227) k) ?_
    show own_R p.tables e below P (T12.setTop (mkF m 228 #[.val (.int p0), .val (.long p1), .second, .val (.long p2), .second, .val (.long p3), .second, .val (.int (0 : Int32)), .val (.long (p1 &&& (9223372036854775807 : Int64))), .second, .val (.long (p2 &&& (9223372036854775807 : Int64))), .second, .val (.long (p3 &&& (9223372036854775807 : Int64))), .second, .val (.ref b8), .val (.ref o12)] [(.int (2 : Int32)), (.int (0 : Int32))]))
    have hc22 : ¬ ((2 : Int32) < (0 : Int32)) := (by decide)
    refine own_fwd (fun t k => XS.icmpYes X12.here hx rfl (pc0 := 228) (pc' := 243) rfl (hb hby at_228) rfl (flt hc22).2.2.2 (by decide) (by decide) k) ?_
    show own_R p.tables e below P (T12.setTop (mkF m 243 #[.val (.int p0), .val (.long p1), .second, .val (.long p2), .second, .val (.long p3), .second, .val (.int (0 : Int32)), .val (.long (p1 &&& (9223372036854775807 : Int64))), .second, .val (.long (p2 &&& (9223372036854775807 : Int64))), .second, .val (.long (p3 &&& (9223372036854775807 : Int64))), .second, .val (.ref b8), .val (.ref o12)] []))
    refine own_fwd (fun t k => XS.iconst X12.here hx rfl (hb hby at_243) k) ?_
    show own_R p.tables e below P (T12.setTop (mkF m 244 #[.val (.int p0), .val (.long p1), .second, .val (.long p2), .second, .val (.long p3), .second, .val (.int (0 : Int32)), .val (.long (p1 &&& (9223372036854775807 : Int64))), .second, .val (.long (p2 &&& (9223372036854775807 : Int64))), .second, .val (.long (p3 &&& (9223372036854775807 : Int64))), .second, .val (.ref b8), .val (.ref o12)] [(.int (1 : Int32))]))
    obtain ⟨fs23, hr23, hrun23, hended23, hW23, hsame23⟩ := X12.leave (v := some (.int (1 : Int32))) (fun h => by rw [Bd.returns] at h; cases h)
    refine ⟨_, _, X12.ireturnOut hx (w := (1 : Int32)) Bd.returns rfl (by simp) (hb hby at_244) hr23, fin _ _ ⟨hrun23, hended23, _, _, rfl, ?_, ⟨_, rfl⟩, hW23, hsame23.mono (by decide) (by decide)⟩⟩
    show own_Qlaw Z p0 p1 p2 p3 h0 n0 _ T12.heap _
    rw [e12]
    exact ⟨rfl, N12⟩
  · rw [hs]
    show own_R p.tables e below P (s₁.setTop (mkF m 3 #[.val (.int p0), .val (.long p1), .second, .val (.long p2), .second, .val (.long p3), .second, .unset, .unset, .unset, .unset, .unset, .unset, .unset, .unset, .unset] [(.int (1 : Int32))]))
    refine own_fwd (fun t k => XS.istore X0.here hx rfl (hb hby at_3) rfl (l' := #[.val (.int p0), .val (.long p1), .second, .val (.long p2), .second, .val (.long p3), .second, .val (.int (1 : Int32)), .unset, .unset, .unset, .unset, .unset, .unset, .unset, .unset]) rfl k) ?_
    show own_R p.tables e below P (s₁.setTop (mkF m 5 #[.val (.int p0), .val (.long p1), .second, .val (.long p2), .second, .val (.long p3), .second, .val (.int (1 : Int32)), .unset, .unset, .unset, .unset, .unset, .unset, .unset, .unset] []))
    refine own_fwd (fun t k => XS.lloadN X0.here hx rfl (hb hby at_5) rfl k) ?_
    show own_R p.tables e below P (s₁.setTop (mkF m 6 #[.val (.int p0), .val (.long p1), .second, .val (.long p2), .second, .val (.long p3), .second, .val (.int (1 : Int32)), .unset, .unset, .unset, .unset, .unset, .unset, .unset, .unset] [(.long p1)]))
    refine own_fwd (fun t k => X0.ldc2Long hx hown (mvT hZ (hw _ (List.mem_of_getElem? (i := 0) rfl))) (g := (mkF m 6 #[.val (.int p0), .val (.long p1), .second, .val (.long p2), .second, .val (.long p3), .second, .val (.int (1 : Int32)), .unset, .unset, .unset, .unset, .unset, .unset, .unset, .unset] [(.long p1)])) rfl (hb hby at_6) t k) ?_
    show own_R p.tables e below P (s₁.setTop (mkF m 9 #[.val (.int p0), .val (.long p1), .second, .val (.long p2), .second, .val (.long p3), .second, .val (.int (1 : Int32)), .unset, .unset, .unset, .unset, .unset, .unset, .unset, .unset] [(.long (9223372036854775807 : Int64)), (.long p1)]))
    refine own_fwd (fun t k => XS.land X0.here hx rfl (hb hby at_9) rfl k) ?_
    show own_R p.tables e below P (s₁.setTop (mkF m 10 #[.val (.int p0), .val (.long p1), .second, .val (.long p2), .second, .val (.long p3), .second, .val (.int (1 : Int32)), .unset, .unset, .unset, .unset, .unset, .unset, .unset, .unset] [(.long (p1 &&& (9223372036854775807 : Int64)))]))
    refine own_fwd (fun t k => XS.lstore X0.here hx rfl (hb hby at_10) rfl (l' := #[.val (.int p0), .val (.long p1), .second, .val (.long p2), .second, .val (.long p3), .second, .val (.int (1 : Int32)), .val (.long (p1 &&& (9223372036854775807 : Int64))), .second, .unset, .unset, .unset, .unset, .unset, .unset]) rfl k) ?_
    show own_R p.tables e below P (s₁.setTop (mkF m 12 #[.val (.int p0), .val (.long p1), .second, .val (.long p2), .second, .val (.long p3), .second, .val (.int (1 : Int32)), .val (.long (p1 &&& (9223372036854775807 : Int64))), .second, .unset, .unset, .unset, .unset, .unset, .unset] []))
    refine own_fwd (fun t k => XS.lloadN X0.here hx rfl (hb hby at_12) rfl k) ?_
    show own_R p.tables e below P (s₁.setTop (mkF m 13 #[.val (.int p0), .val (.long p1), .second, .val (.long p2), .second, .val (.long p3), .second, .val (.int (1 : Int32)), .val (.long (p1 &&& (9223372036854775807 : Int64))), .second, .unset, .unset, .unset, .unset, .unset, .unset] [(.long p2)]))
    refine own_fwd (fun t k => X0.ldc2Long hx hown (mvT hZ (hw _ (List.mem_of_getElem? (i := 0) rfl))) (g := (mkF m 13 #[.val (.int p0), .val (.long p1), .second, .val (.long p2), .second, .val (.long p3), .second, .val (.int (1 : Int32)), .val (.long (p1 &&& (9223372036854775807 : Int64))), .second, .unset, .unset, .unset, .unset, .unset, .unset] [(.long p2)])) rfl (hb hby at_13) t k) ?_
    show own_R p.tables e below P (s₁.setTop (mkF m 16 #[.val (.int p0), .val (.long p1), .second, .val (.long p2), .second, .val (.long p3), .second, .val (.int (1 : Int32)), .val (.long (p1 &&& (9223372036854775807 : Int64))), .second, .unset, .unset, .unset, .unset, .unset, .unset] [(.long (9223372036854775807 : Int64)), (.long p2)]))
    refine own_fwd (fun t k => XS.land X0.here hx rfl (hb hby at_16) rfl k) ?_
    show own_R p.tables e below P (s₁.setTop (mkF m 17 #[.val (.int p0), .val (.long p1), .second, .val (.long p2), .second, .val (.long p3), .second, .val (.int (1 : Int32)), .val (.long (p1 &&& (9223372036854775807 : Int64))), .second, .unset, .unset, .unset, .unset, .unset, .unset] [(.long (p2 &&& (9223372036854775807 : Int64)))]))
    refine own_fwd (fun t k => XS.lstore X0.here hx rfl (hb hby at_17) rfl (l' := #[.val (.int p0), .val (.long p1), .second, .val (.long p2), .second, .val (.long p3), .second, .val (.int (1 : Int32)), .val (.long (p1 &&& (9223372036854775807 : Int64))), .second, .val (.long (p2 &&& (9223372036854775807 : Int64))), .second, .unset, .unset, .unset, .unset]) rfl k) ?_
    show own_R p.tables e below P (s₁.setTop (mkF m 19 #[.val (.int p0), .val (.long p1), .second, .val (.long p2), .second, .val (.long p3), .second, .val (.int (1 : Int32)), .val (.long (p1 &&& (9223372036854775807 : Int64))), .second, .val (.long (p2 &&& (9223372036854775807 : Int64))), .second, .unset, .unset, .unset, .unset] []))
    refine own_fwd (fun t k => XS.lload X0.here hx rfl (hb hby at_19) rfl k) ?_
    show own_R p.tables e below P (s₁.setTop (mkF m 21 #[.val (.int p0), .val (.long p1), .second, .val (.long p2), .second, .val (.long p3), .second, .val (.int (1 : Int32)), .val (.long (p1 &&& (9223372036854775807 : Int64))), .second, .val (.long (p2 &&& (9223372036854775807 : Int64))), .second, .unset, .unset, .unset, .unset] [(.long p3)]))
    refine own_fwd (fun t k => X0.ldc2Long hx hown (mvT hZ (hw _ (List.mem_of_getElem? (i := 0) rfl))) (g := (mkF m 21 #[.val (.int p0), .val (.long p1), .second, .val (.long p2), .second, .val (.long p3), .second, .val (.int (1 : Int32)), .val (.long (p1 &&& (9223372036854775807 : Int64))), .second, .val (.long (p2 &&& (9223372036854775807 : Int64))), .second, .unset, .unset, .unset, .unset] [(.long p3)])) rfl (hb hby at_21) t k) ?_
    show own_R p.tables e below P (s₁.setTop (mkF m 24 #[.val (.int p0), .val (.long p1), .second, .val (.long p2), .second, .val (.long p3), .second, .val (.int (1 : Int32)), .val (.long (p1 &&& (9223372036854775807 : Int64))), .second, .val (.long (p2 &&& (9223372036854775807 : Int64))), .second, .unset, .unset, .unset, .unset] [(.long (9223372036854775807 : Int64)), (.long p3)]))
    refine own_fwd (fun t k => XS.land X0.here hx rfl (hb hby at_24) rfl k) ?_
    show own_R p.tables e below P (s₁.setTop (mkF m 25 #[.val (.int p0), .val (.long p1), .second, .val (.long p2), .second, .val (.long p3), .second, .val (.int (1 : Int32)), .val (.long (p1 &&& (9223372036854775807 : Int64))), .second, .val (.long (p2 &&& (9223372036854775807 : Int64))), .second, .unset, .unset, .unset, .unset] [(.long (p3 &&& (9223372036854775807 : Int64)))]))
    refine own_fwd (fun t k => XS.lstore X0.here hx rfl (hb hby at_25) rfl (l' := #[.val (.int p0), .val (.long p1), .second, .val (.long p2), .second, .val (.long p3), .second, .val (.int (1 : Int32)), .val (.long (p1 &&& (9223372036854775807 : Int64))), .second, .val (.long (p2 &&& (9223372036854775807 : Int64))), .second, .val (.long (p3 &&& (9223372036854775807 : Int64))), .second, .unset, .unset]) rfl k) ?_
    show own_R p.tables e below P (s₁.setTop (mkF m 27 #[.val (.int p0), .val (.long p1), .second, .val (.long p2), .second, .val (.long p3), .second, .val (.int (1 : Int32)), .val (.long (p1 &&& (9223372036854775807 : Int64))), .second, .val (.long (p2 &&& (9223372036854775807 : Int64))), .second, .val (.long (p3 &&& (9223372036854775807 : Int64))), .second, .unset, .unset] []))
    refine own_fwd (fun t k => XS.iload X0.here hx rfl (hb hby at_27) rfl k) ?_
    show own_R p.tables e below P (s₁.setTop (mkF m 29 #[.val (.int p0), .val (.long p1), .second, .val (.long p2), .second, .val (.long p3), .second, .val (.int (1 : Int32)), .val (.long (p1 &&& (9223372036854775807 : Int64))), .second, .val (.long (p2 &&& (9223372036854775807 : Int64))), .second, .val (.long (p3 &&& (9223372036854775807 : Int64))), .second, .unset, .unset] [(.int (1 : Int32))]))
    obtain ⟨T24, h24, b24, g24, X24, e24, E24, A24, B24, st24⟩ := own_newA (n := 1) X0 hx hZ (hw _ (List.mem_of_getElem? (i := 1) rfl)) e0 (z := (1 : Int32)) (by decide) (cap := 1) (by decide) (g := (mkF m 29 #[.val (.int p0), .val (.long p1), .second, .val (.long p2), .second, .val (.long p3), .second, .val (.int (1 : Int32)), .val (.long (p1 &&& (9223372036854775807 : Int64))), .second, .val (.long (p2 &&& (9223372036854775807 : Int64))), .second, .val (.long (p3 &&& (9223372036854775807 : Int64))), .second, .unset, .unset] [(.int (1 : Int32))])) rfl (hb hby at_29) rfl (by decide) (by decide) (by decide) (ad := "[J") (by decide)
    have ge_b24 : n0 ≤ b24 := by rw [g24]; exact Z0
    have sz_b24 : h0.size ≤ b24 := by rw [g24]; exact (Nat.le_refl h0.size)
    have A24_ : own_AJ Z h24 b24 1 (fun _ => (0 : Int64)) := A24
    have Z24 : n0 ≤ h24.size := Nat.le_trans Z0 E24.1
    have Y24 : h0.size ≤ h24.size := Nat.le_trans (Nat.le_refl h0.size) E24.1
    refine own_fwd st24 ?_
    show own_R p.tables e below P (T24.setTop (mkF m 31 #[.val (.int p0), .val (.long p1), .second, .val (.long p2), .second, .val (.long p3), .second, .val (.int (1 : Int32)), .val (.long (p1 &&& (9223372036854775807 : Int64))), .second, .val (.long (p2 &&& (9223372036854775807 : Int64))), .second, .val (.long (p3 &&& (9223372036854775807 : Int64))), .second, .unset, .unset] [(.ref b24)]))
    refine own_fwd (fun t k => XS.astore X24.here hx rfl (hb hby at_31) rfl rfl (l' := #[.val (.int p0), .val (.long p1), .second, .val (.long p2), .second, .val (.long p3), .second, .val (.int (1 : Int32)), .val (.long (p1 &&& (9223372036854775807 : Int64))), .second, .val (.long (p2 &&& (9223372036854775807 : Int64))), .second, .val (.long (p3 &&& (9223372036854775807 : Int64))), .second, .val (.ref b24), .unset]) rfl k) ?_
    show own_R p.tables e below P (T24.setTop (mkF m 33 #[.val (.int p0), .val (.long p1), .second, .val (.long p2), .second, .val (.long p3), .second, .val (.int (1 : Int32)), .val (.long (p1 &&& (9223372036854775807 : Int64))), .second, .val (.long (p2 &&& (9223372036854775807 : Int64))), .second, .val (.long (p3 &&& (9223372036854775807 : Int64))), .second, .val (.ref b24), .unset] []))
    refine own_fwd (fun t k => XS.iload X24.here hx rfl (hb hby at_33) rfl k) ?_
    show own_R p.tables e below P (T24.setTop (mkF m 35 #[.val (.int p0), .val (.long p1), .second, .val (.long p2), .second, .val (.long p3), .second, .val (.int (1 : Int32)), .val (.long (p1 &&& (9223372036854775807 : Int64))), .second, .val (.long (p2 &&& (9223372036854775807 : Int64))), .second, .val (.long (p3 &&& (9223372036854775807 : Int64))), .second, .val (.ref b24), .unset] [(.int (1 : Int32))]))
    have hc25 : (0 : Int32) < (1 : Int32) := (by decide)
    refine own_fwd (fun t k => XS.ifNo X24.here hx rfl (hb hby at_35) rfl ((if0 _ _).trans (tlt hc25).2.2.2) k) ?_
    show own_R p.tables e below P (T24.setTop (mkF m 38 #[.val (.int p0), .val (.long p1), .second, .val (.long p2), .second, .val (.long p3), .second, .val (.int (1 : Int32)), .val (.long (p1 &&& (9223372036854775807 : Int64))), .second, .val (.long (p2 &&& (9223372036854775807 : Int64))), .second, .val (.long (p3 &&& (9223372036854775807 : Int64))), .second, .val (.ref b24), .unset] []))
    refine own_fwd (fun t k => XS.aload X24.here hx rfl (hb hby at_38) rfl rfl k) ?_
    show own_R p.tables e below P (T24.setTop (mkF m 40 #[.val (.int p0), .val (.long p1), .second, .val (.long p2), .second, .val (.long p3), .second, .val (.int (1 : Int32)), .val (.long (p1 &&& (9223372036854775807 : Int64))), .second, .val (.long (p2 &&& (9223372036854775807 : Int64))), .second, .val (.long (p3 &&& (9223372036854775807 : Int64))), .second, .val (.ref b24), .unset] [(.ref b24)]))
    refine own_fwd (fun t k => XS.iconst X24.here hx rfl (hb hby at_40) k) ?_
    show own_R p.tables e below P (T24.setTop (mkF m 41 #[.val (.int p0), .val (.long p1), .second, .val (.long p2), .second, .val (.long p3), .second, .val (.int (1 : Int32)), .val (.long (p1 &&& (9223372036854775807 : Int64))), .second, .val (.long (p2 &&& (9223372036854775807 : Int64))), .second, .val (.long (p3 &&& (9223372036854775807 : Int64))), .second, .val (.ref b24), .unset] [(.int (0 : Int32)), (.ref b24)]))
    refine own_fwd (fun t k => XS.lload X24.here hx rfl (hb hby at_41) rfl k) ?_
    show own_R p.tables e below P (T24.setTop (mkF m 43 #[.val (.int p0), .val (.long p1), .second, .val (.long p2), .second, .val (.long p3), .second, .val (.int (1 : Int32)), .val (.long (p1 &&& (9223372036854775807 : Int64))), .second, .val (.long (p2 &&& (9223372036854775807 : Int64))), .second, .val (.long (p3 &&& (9223372036854775807 : Int64))), .second, .val (.ref b24), .unset] [(.long (p1 &&& (9223372036854775807 : Int64))), (.int (0 : Int32)), (.ref b24)]))
    obtain ⟨T26, h26, X26, e26, W26, A26_, st26⟩ := own_stJ X24 hx hZ e24 A24_ (j := (0 : Int32)) 0 (by decide) (by decide) (g := (mkF m 43 #[.val (.int p0), .val (.long p1), .second, .val (.long p2), .second, .val (.long p3), .second, .val (.int (1 : Int32)), .val (.long (p1 &&& (9223372036854775807 : Int64))), .second, .val (.long (p2 &&& (9223372036854775807 : Int64))), .second, .val (.long (p3 &&& (9223372036854775807 : Int64))), .second, .val (.ref b24), .unset] [(.long (p1 &&& (9223372036854775807 : Int64))), (.int (0 : Int32)), (.ref b24)])) rfl rfl (hb hby at_43)
    have B24_x26 := B24.wr W26
    have N26 := Fr.snoc X26 N0 ge_b24
    have Z26 : n0 ≤ h26.size := by rw [W26.size]; exact Z24
    have Y26 : h0.size ≤ h26.size := by rw [W26.size]; exact Y24
    refine own_fwd st26 ?_
    show own_R p.tables e below P (T26.setTop (mkF m 44 #[.val (.int p0), .val (.long p1), .second, .val (.long p2), .second, .val (.long p3), .second, .val (.int (1 : Int32)), .val (.long (p1 &&& (9223372036854775807 : Int64))), .second, .val (.long (p2 &&& (9223372036854775807 : Int64))), .second, .val (.long (p3 &&& (9223372036854775807 : Int64))), .second, .val (.ref b24), .unset] []))
    refine own_fwd (fun t k => XS.iload X26.here hx rfl (hb hby at_44) rfl k) ?_
    show own_R p.tables e below P (T26.setTop (mkF m 46 #[.val (.int p0), .val (.long p1), .second, .val (.long p2), .second, .val (.long p3), .second, .val (.int (1 : Int32)), .val (.long (p1 &&& (9223372036854775807 : Int64))), .second, .val (.long (p2 &&& (9223372036854775807 : Int64))), .second, .val (.long (p3 &&& (9223372036854775807 : Int64))), .second, .val (.ref b24), .unset] [(.int (1 : Int32))]))
    refine own_fwd (fun t k => XS.iconst X26.here hx rfl (hb hby at_46) k) ?_
    show own_R p.tables e below P (T26.setTop (mkF m 47 #[.val (.int p0), .val (.long p1), .second, .val (.long p2), .second, .val (.long p3), .second, .val (.int (1 : Int32)), .val (.long (p1 &&& (9223372036854775807 : Int64))), .second, .val (.long (p2 &&& (9223372036854775807 : Int64))), .second, .val (.long (p3 &&& (9223372036854775807 : Int64))), .second, .val (.ref b24), .unset] [(.int (1 : Int32)), (.int (1 : Int32))]))
    have hc27 : ¬ ((1 : Int32) < (1 : Int32)) := (by decide)
    refine own_fwd (fun t k => XS.icmpYes X26.here hx rfl (pc0 := 47) (pc' := 56) rfl (hb hby at_47) rfl (flt hc27).2.2.2 (by decide) (by decide) k) ?_
    show own_R p.tables e below P (T26.setTop (mkF m 56 #[.val (.int p0), .val (.long p1), .second, .val (.long p2), .second, .val (.long p3), .second, .val (.int (1 : Int32)), .val (.long (p1 &&& (9223372036854775807 : Int64))), .second, .val (.long (p2 &&& (9223372036854775807 : Int64))), .second, .val (.long (p3 &&& (9223372036854775807 : Int64))), .second, .val (.ref b24), .unset] []))
    refine own_fwd (fun t k => XS.iload X26.here hx rfl (hb hby at_56) rfl k) ?_
    show own_R p.tables e below P (T26.setTop (mkF m 58 #[.val (.int p0), .val (.long p1), .second, .val (.long p2), .second, .val (.long p3), .second, .val (.int (1 : Int32)), .val (.long (p1 &&& (9223372036854775807 : Int64))), .second, .val (.long (p2 &&& (9223372036854775807 : Int64))), .second, .val (.long (p3 &&& (9223372036854775807 : Int64))), .second, .val (.ref b24), .unset] [(.int (1 : Int32))]))
    refine own_fwd (fun t k => XS.iconst X26.here hx rfl (hb hby at_58) k) ?_
    show own_R p.tables e below P (T26.setTop (mkF m 59 #[.val (.int p0), .val (.long p1), .second, .val (.long p2), .second, .val (.long p3), .second, .val (.int (1 : Int32)), .val (.long (p1 &&& (9223372036854775807 : Int64))), .second, .val (.long (p2 &&& (9223372036854775807 : Int64))), .second, .val (.long (p3 &&& (9223372036854775807 : Int64))), .second, .val (.ref b24), .unset] [(.int (2 : Int32)), (.int (1 : Int32))]))
    have hc28 : ¬ ((2 : Int32) < (1 : Int32)) := (by decide)
    refine own_fwd (fun t k => XS.icmpYes X26.here hx rfl (pc0 := 59) (pc' := 68) rfl (hb hby at_59) rfl (flt hc28).2.2.2 (by decide) (by decide) k) ?_
    show own_R p.tables e below P (T26.setTop (mkF m 68 #[.val (.int p0), .val (.long p1), .second, .val (.long p2), .second, .val (.long p3), .second, .val (.int (1 : Int32)), .val (.long (p1 &&& (9223372036854775807 : Int64))), .second, .val (.long (p2 &&& (9223372036854775807 : Int64))), .second, .val (.long (p3 &&& (9223372036854775807 : Int64))), .second, .val (.ref b24), .unset] []))
    refine own_fwd (fun t k => XS.aload X26.here hx rfl (hb hby at_68) rfl rfl k) ?_
    show own_R p.tables e below P (T26.setTop (mkF m 70 #[.val (.int p0), .val (.long p1), .second, .val (.long p2), .second, .val (.long p3), .second, .val (.int (1 : Int32)), .val (.long (p1 &&& (9223372036854775807 : Int64))), .second, .val (.long (p2 &&& (9223372036854775807 : Int64))), .second, .val (.long (p3 &&& (9223372036854775807 : Int64))), .second, .val (.ref b24), .unset] [(.ref b24)]))
    obtain ⟨_, _, ⟨T29, L29, k29, n29⟩, -, X29, ⟨Lc29, hQ29, l29, y29, z29⟩, st29⟩ := Jvm.LawKit.callS X26 hx (y := (⟨"com/example/physalia/physalia/model/Marking", "checkedCopy", "([J)[J"⟩ : MethodName)) hown (mvT hZ (hw _ (List.mem_of_getElem? (i := 2) rfl))) (mvT hZ (hw _ (List.mem_of_getElem? (i := 3) rfl))) (mvT hZ (hw _ (List.mem_of_getElem? (i := 4) rfl))) (mvT hZ (hw _ (List.mem_of_getElem? (i := 5) rfl))) (by decide) (backOf (W := 0) (own_rm1 l Z a0 hw [] b24 1 (own_upd (fun _ => (0 : Int64)) 0 (p1 &&& (9223372036854775807 : Int64))) h26 n0 Z26 A26_ B24_x26 (by decide) (fun i hi => by
          have e1 : (0 : Int64).toInt = 0 := rfl
          have h1 := (c_andSL p1 9223372036854775807).2.2 (by decide)
          have h2 := (c_andSL p2 9223372036854775807).2.2 (by decide)
          have h3 := (c_andSL p3 9223372036854775807).2.2 (by decide)
          obtain rfl : i = 0 := by omega
          exact fun q => by rw [Int64.lt_iff_toInt_lt] at q; exact absurd h1 (Int.not_le.mpr (e1 ▸ q)))) hZ (hw _ (List.mem_of_getElem? (i := 5) rfl)) (hw _ (List.mem_of_getElem? (i := 4) rfl)) (by decide) (by decide)) (g := (mkF m 70 #[.val (.int p0), .val (.long p1), .second, .val (.long p2), .second, .val (.long p3), .second, .val (.int (1 : Int32)), .val (.long (p1 &&& (9223372036854775807 : Int64))), .second, .val (.long (p2 &&& (9223372036854775807 : Int64))), .second, .val (.long (p3 &&& (9223372036854775807 : Int64))), .second, .val (.ref b24), .unset] [(.ref b24)])) rfl (by rw [hml]; rfl) (argsL := [(.ref b24)]) (rest := []) (lenOf own_pd0 rfl) rfl (by show 2 * 0 + _ ≤ _; exact Nat.le_of_eq rfl) (hb hby at_70) (fun _ _ => ⟨rfl, e26, (by decide : 1 + 1 ≤ _), (by decide : 1 + 3 ≤ _)⟩)
    dsimp only [Pt.U, Pt.locs, Pt.cells, Pt.slots] at X29 l29 y29 z29 st29 hQ29
    subst l29 y29 z29
    obtain ⟨h29, e29⟩ : ∃ z, T29.heap = z := ⟨_, rfl⟩
    rw [e29] at hQ29
    obtain ⟨o29, hq29, N29q, ge_o29, sq29, K29, A29_⟩ := hQ29
    subst hq29
    have N29 := Fr.app N26 N29q
    have ne29_b24 : b24 ≠ o29 := Nat.ne_of_lt (Nat.lt_of_lt_of_le A26_.lt sq29)
    have A26__x29 := A26_.keep K29 nin0
    have B24_x29 := B24_x26.keep K29
    have Z29 : n0 ≤ h29.size := Nat.le_trans Z26 K29.1
    have Y29 : h0.size ≤ h29.size := Nat.le_trans Y26 K29.1
    refine own_fwd st29 ?_
    show own_R p.tables e below P (T29.setTop (mkF m 73 #[.val (.int p0), .val (.long p1), .second, .val (.long p2), .second, .val (.long p3), .second, .val (.int (1 : Int32)), .val (.long (p1 &&& (9223372036854775807 : Int64))), .second, .val (.long (p2 &&& (9223372036854775807 : Int64))), .second, .val (.long (p3 &&& (9223372036854775807 : Int64))), .second, .val (.ref b24), .unset] [(.ref o29)]))
    refine own_fwd (fun t k => XS.astore X29.here hx rfl (hb hby at_73) rfl rfl (l' := #[.val (.int p0), .val (.long p1), .second, .val (.long p2), .second, .val (.long p3), .second, .val (.int (1 : Int32)), .val (.long (p1 &&& (9223372036854775807 : Int64))), .second, .val (.long (p2 &&& (9223372036854775807 : Int64))), .second, .val (.long (p3 &&& (9223372036854775807 : Int64))), .second, .val (.ref b24), .val (.ref o29)]) rfl k) ?_
    show own_R p.tables e below P (T29.setTop (mkF m 75 #[.val (.int p0), .val (.long p1), .second, .val (.long p2), .second, .val (.long p3), .second, .val (.int (1 : Int32)), .val (.long (p1 &&& (9223372036854775807 : Int64))), .second, .val (.long (p2 &&& (9223372036854775807 : Int64))), .second, .val (.long (p3 &&& (9223372036854775807 : Int64))), .second, .val (.ref b24), .val (.ref o29)] []))
    refine own_fwd (fun t k => XS.aload X29.here hx rfl (hb hby at_75) rfl rfl k) ?_
    show own_R p.tables e below P (T29.setTop (mkF m 77 #[.val (.int p0), .val (.long p1), .second, .val (.long p2), .second, .val (.long p3), .second, .val (.int (1 : Int32)), .val (.long (p1 &&& (9223372036854775807 : Int64))), .second, .val (.long (p2 &&& (9223372036854775807 : Int64))), .second, .val (.long (p3 &&& (9223372036854775807 : Int64))), .second, .val (.ref b24), .val (.ref o29)] [(.ref o29)]))
    refine own_fwd (fun t k => XS.ifnullNo X29.here hx rfl (hb hby at_77) rfl k) ?_
    show own_R p.tables e below P (T29.setTop (mkF m 80 #[.val (.int p0), .val (.long p1), .second, .val (.long p2), .second, .val (.long p3), .second, .val (.int (1 : Int32)), .val (.long (p1 &&& (9223372036854775807 : Int64))), .second, .val (.long (p2 &&& (9223372036854775807 : Int64))), .second, .val (.long (p3 &&& (9223372036854775807 : Int64))), .second, .val (.ref b24), .val (.ref o29)] []))
    refine own_fwd (fun t k => XS.aload X29.here hx rfl (hb hby at_80) rfl rfl k) ?_
    show own_R p.tables e below P (T29.setTop (mkF m 82 #[.val (.int p0), .val (.long p1), .second, .val (.long p2), .second, .val (.long p3), .second, .val (.int (1 : Int32)), .val (.long (p1 &&& (9223372036854775807 : Int64))), .second, .val (.long (p2 &&& (9223372036854775807 : Int64))), .second, .val (.long (p3 &&& (9223372036854775807 : Int64))), .second, .val (.ref b24), .val (.ref o29)] [(.ref o29)]))
    refine own_fwd (own_len X29 hx hZ e29 A29_ (1 : Int32) (by decide) (g := (mkF m 82 #[.val (.int p0), .val (.long p1), .second, .val (.long p2), .second, .val (.long p3), .second, .val (.int (1 : Int32)), .val (.long (p1 &&& (9223372036854775807 : Int64))), .second, .val (.long (p2 &&& (9223372036854775807 : Int64))), .second, .val (.long (p3 &&& (9223372036854775807 : Int64))), .second, .val (.ref b24), .val (.ref o29)] [(.ref o29)])) rfl rfl (hb hby at_82)) ?_
    show own_R p.tables e below P (T29.setTop (mkF m 83 #[.val (.int p0), .val (.long p1), .second, .val (.long p2), .second, .val (.long p3), .second, .val (.int (1 : Int32)), .val (.long (p1 &&& (9223372036854775807 : Int64))), .second, .val (.long (p2 &&& (9223372036854775807 : Int64))), .second, .val (.long (p3 &&& (9223372036854775807 : Int64))), .second, .val (.ref b24), .val (.ref o29)] [(.int (1 : Int32))]))
    refine own_fwd (fun t k => XS.iload X29.here hx rfl (hb hby at_83) rfl k) ?_
    show own_R p.tables e below P (T29.setTop (mkF m 85 #[.val (.int p0), .val (.long p1), .second, .val (.long p2), .second, .val (.long p3), .second, .val (.int (1 : Int32)), .val (.long (p1 &&& (9223372036854775807 : Int64))), .second, .val (.long (p2 &&& (9223372036854775807 : Int64))), .second, .val (.long (p3 &&& (9223372036854775807 : Int64))), .second, .val (.ref b24), .val (.ref o29)] [(.int (1 : Int32)), (.int (1 : Int32))]))
    have hc30 : (1 : Int32) = (1 : Int32) := (by decide)
    refine own_fwd (fun t k => XS.icmpYes X29.here hx rfl (pc0 := 85) (pc' := 90) rfl (hb hby at_85) rfl (teq hc30).1 (by decide) (by decide) k) ?_
    show own_R p.tables e below P (T29.setTop (mkF m 90 #[.val (.int p0), .val (.long p1), .second, .val (.long p2), .second, .val (.long p3), .second, .val (.int (1 : Int32)), .val (.long (p1 &&& (9223372036854775807 : Int64))), .second, .val (.long (p2 &&& (9223372036854775807 : Int64))), .second, .val (.long (p3 &&& (9223372036854775807 : Int64))), .second, .val (.ref b24), .val (.ref o29)] []))
    refine own_fwd (fun t k => XS.iload X29.here hx rfl (hb hby at_90) rfl k) ?_
    show own_R p.tables e below P (T29.setTop (mkF m 92 #[.val (.int p0), .val (.long p1), .second, .val (.long p2), .second, .val (.long p3), .second, .val (.int (1 : Int32)), .val (.long (p1 &&& (9223372036854775807 : Int64))), .second, .val (.long (p2 &&& (9223372036854775807 : Int64))), .second, .val (.long (p3 &&& (9223372036854775807 : Int64))), .second, .val (.ref b24), .val (.ref o29)] [(.int (1 : Int32))]))
    have hc31 : (0 : Int32) < (1 : Int32) := (by decide)
    refine own_fwd (fun t k => XS.ifNo X29.here hx rfl (hb hby at_92) rfl ((if0 _ _).trans (tlt hc31).2.2.2) k) ?_
    show own_R p.tables e below P (T29.setTop (mkF m 95 #[.val (.int p0), .val (.long p1), .second, .val (.long p2), .second, .val (.long p3), .second, .val (.int (1 : Int32)), .val (.long (p1 &&& (9223372036854775807 : Int64))), .second, .val (.long (p2 &&& (9223372036854775807 : Int64))), .second, .val (.long (p3 &&& (9223372036854775807 : Int64))), .second, .val (.ref b24), .val (.ref o29)] []))
    refine own_fwd (fun t k => XS.aload X29.here hx rfl (hb hby at_95) rfl rfl k) ?_
    show own_R p.tables e below P (T29.setTop (mkF m 97 #[.val (.int p0), .val (.long p1), .second, .val (.long p2), .second, .val (.long p3), .second, .val (.int (1 : Int32)), .val (.long (p1 &&& (9223372036854775807 : Int64))), .second, .val (.long (p2 &&& (9223372036854775807 : Int64))), .second, .val (.long (p3 &&& (9223372036854775807 : Int64))), .second, .val (.ref b24), .val (.ref o29)] [(.ref o29)]))
    refine own_fwd (fun t k => XS.iconst X29.here hx rfl (hb hby at_97) k) ?_
    show own_R p.tables e below P (T29.setTop (mkF m 98 #[.val (.int p0), .val (.long p1), .second, .val (.long p2), .second, .val (.long p3), .second, .val (.int (1 : Int32)), .val (.long (p1 &&& (9223372036854775807 : Int64))), .second, .val (.long (p2 &&& (9223372036854775807 : Int64))), .second, .val (.long (p3 &&& (9223372036854775807 : Int64))), .second, .val (.ref b24), .val (.ref o29)] [(.int (0 : Int32)), (.ref o29)]))
    refine own_fwd (own_ldJ X29 hx hZ e29 A29_ (j := (0 : Int32)) 0 (by decide) (by decide) (g := (mkF m 98 #[.val (.int p0), .val (.long p1), .second, .val (.long p2), .second, .val (.long p3), .second, .val (.int (1 : Int32)), .val (.long (p1 &&& (9223372036854775807 : Int64))), .second, .val (.long (p2 &&& (9223372036854775807 : Int64))), .second, .val (.long (p3 &&& (9223372036854775807 : Int64))), .second, .val (.ref b24), .val (.ref o29)] [(.int (0 : Int32)), (.ref o29)])) rfl rfl (hb hby at_98)) ?_
    show own_R p.tables e below P (T29.setTop (mkF m 99 #[.val (.int p0), .val (.long p1), .second, .val (.long p2), .second, .val (.long p3), .second, .val (.int (1 : Int32)), .val (.long (p1 &&& (9223372036854775807 : Int64))), .second, .val (.long (p2 &&& (9223372036854775807 : Int64))), .second, .val (.long (p3 &&& (9223372036854775807 : Int64))), .second, .val (.ref b24), .val (.ref o29)] [(.long ((own_upd (fun _ => (0 : Int64)) 0 (p1 &&& (9223372036854775807 : Int64))) 0))]))
    have hv32 : ((own_upd (fun _ => (0 : Int64)) 0 (p1 &&& (9223372036854775807 : Int64))) 0) = (p1 &&& (9223372036854775807 : Int64)) := (own_upd_hit _ _ _)
    rw [hv32]
    show own_R p.tables e below P (T29.setTop (mkF m 99 #[.val (.int p0), .val (.long p1), .second, .val (.long p2), .second, .val (.long p3), .second, .val (.int (1 : Int32)), .val (.long (p1 &&& (9223372036854775807 : Int64))), .second, .val (.long (p2 &&& (9223372036854775807 : Int64))), .second, .val (.long (p3 &&& (9223372036854775807 : Int64))), .second, .val (.ref b24), .val (.ref o29)] [(.long (p1 &&& (9223372036854775807 : Int64)))]))
    refine own_fwd (fun t k => XS.lload X29.here hx rfl (hb hby at_99) rfl k) ?_
    show own_R p.tables e below P (T29.setTop (mkF m 101 #[.val (.int p0), .val (.long p1), .second, .val (.long p2), .second, .val (.long p3), .second, .val (.int (1 : Int32)), .val (.long (p1 &&& (9223372036854775807 : Int64))), .second, .val (.long (p2 &&& (9223372036854775807 : Int64))), .second, .val (.long (p3 &&& (9223372036854775807 : Int64))), .second, .val (.ref b24), .val (.ref o29)] [(.long (p1 &&& (9223372036854775807 : Int64))), (.long (p1 &&& (9223372036854775807 : Int64)))]))
    refine own_fwd (fun t k => XS.lcmp X29.here hx rfl (hb hby at_101) rfl k) ?_
    show own_R p.tables e below P (T29.setTop (mkF m 102 #[.val (.int p0), .val (.long p1), .second, .val (.long p2), .second, .val (.long p3), .second, .val (.int (1 : Int32)), .val (.long (p1 &&& (9223372036854775807 : Int64))), .second, .val (.long (p2 &&& (9223372036854775807 : Int64))), .second, .val (.long (p3 &&& (9223372036854775807 : Int64))), .second, .val (.ref b24), .val (.ref o29)] [(.int (lcmpW (p1 &&& (9223372036854775807 : Int64)) (p1 &&& (9223372036854775807 : Int64))))]))
    have hc33 : (lcmpW (p1 &&& (9223372036854775807 : Int64)) (p1 &&& (9223372036854775807 : Int64))) = (0 : Int32) := (lw_eq _ _).mpr rfl
    refine own_fwd (fun t k => XS.ifYes X29.here hx rfl (pc0 := 102) (pc' := 107) rfl (hb hby at_102) rfl ((if0 _ _).trans (teq hc33).1) (by decide) (by decide) k) ?_
    show own_R p.tables e below P (T29.setTop (mkF m 107 #[.val (.int p0), .val (.long p1), .second, .val (.long p2), .second, .val (.long p3), .second, .val (.int (1 : Int32)), .val (.long (p1 &&& (9223372036854775807 : Int64))), .second, .val (.long (p2 &&& (9223372036854775807 : Int64))), .second, .val (.long (p3 &&& (9223372036854775807 : Int64))), .second, .val (.ref b24), .val (.ref o29)] []))
    refine own_fwd (fun t k => XS.iload X29.here hx rfl (hb hby at_107) rfl k) ?_
    show own_R p.tables e below P (T29.setTop (mkF m 109 #[.val (.int p0), .val (.long p1), .second, .val (.long p2), .second, .val (.long p3), .second, .val (.int (1 : Int32)), .val (.long (p1 &&& (9223372036854775807 : Int64))), .second, .val (.long (p2 &&& (9223372036854775807 : Int64))), .second, .val (.long (p3 &&& (9223372036854775807 : Int64))), .second, .val (.ref b24), .val (.ref o29)] [(.int (1 : Int32))]))
    refine own_fwd (fun t k => XS.iconst X29.here hx rfl (hb hby at_109) k) ?_
    show own_R p.tables e below P (T29.setTop (mkF m 110 #[.val (.int p0), .val (.long p1), .second, .val (.long p2), .second, .val (.long p3), .second, .val (.int (1 : Int32)), .val (.long (p1 &&& (9223372036854775807 : Int64))), .second, .val (.long (p2 &&& (9223372036854775807 : Int64))), .second, .val (.long (p3 &&& (9223372036854775807 : Int64))), .second, .val (.ref b24), .val (.ref o29)] [(.int (1 : Int32)), (.int (1 : Int32))]))
    have hc34 : ¬ ((1 : Int32) < (1 : Int32)) := (by decide)
    refine own_fwd (fun t k => XS.icmpYes X29.here hx rfl (pc0 := 110) (pc' := 125) rfl (hb hby at_110) rfl (flt hc34).2.2.2 (by decide) (by decide) k) ?_
    show own_R p.tables e below P (T29.setTop (mkF m 125 #[.val (.int p0), .val (.long p1), .second, .val (.long p2), .second, .val (.long p3), .second, .val (.int (1 : Int32)), .val (.long (p1 &&& (9223372036854775807 : Int64))), .second, .val (.long (p2 &&& (9223372036854775807 : Int64))), .second, .val (.long (p3 &&& (9223372036854775807 : Int64))), .second, .val (.ref b24), .val (.ref o29)] []))
    refine own_fwd (fun t k => XS.iload X29.here hx rfl (hb hby at_125) rfl k) ?_
    show own_R p.tables e below P (T29.setTop (mkF m 127 #[.val (.int p0), .val (.long p1), .second, .val (.long p2), .second, .val (.long p3), .second, .val (.int (1 : Int32)), .val (.long (p1 &&& (9223372036854775807 : Int64))), .second, .val (.long (p2 &&& (9223372036854775807 : Int64))), .second, .val (.long (p3 &&& (9223372036854775807 : Int64))), .second, .val (.ref b24), .val (.ref o29)] [(.int (1 : Int32))]))
    refine own_fwd (fun t k => XS.iconst X29.here hx rfl (hb hby at_127) k) ?_
    show own_R p.tables e below P (T29.setTop (mkF m 128 #[.val (.int p0), .val (.long p1), .second, .val (.long p2), .second, .val (.long p3), .second, .val (.int (1 : Int32)), .val (.long (p1 &&& (9223372036854775807 : Int64))), .second, .val (.long (p2 &&& (9223372036854775807 : Int64))), .second, .val (.long (p3 &&& (9223372036854775807 : Int64))), .second, .val (.ref b24), .val (.ref o29)] [(.int (2 : Int32)), (.int (1 : Int32))]))
    have hc35 : ¬ ((2 : Int32) < (1 : Int32)) := (by decide)
    refine own_fwd (fun t k => XS.icmpYes X29.here hx rfl (pc0 := 128) (pc' := 143) rfl (hb hby at_128) rfl (flt hc35).2.2.2 (by decide) (by decide) k) ?_
    show own_R p.tables e below P (T29.setTop (mkF m 143 #[.val (.int p0), .val (.long p1), .second, .val (.long p2), .second, .val (.long p3), .second, .val (.int (1 : Int32)), .val (.long (p1 &&& (9223372036854775807 : Int64))), .second, .val (.long (p2 &&& (9223372036854775807 : Int64))), .second, .val (.long (p3 &&& (9223372036854775807 : Int64))), .second, .val (.ref b24), .val (.ref o29)] []))
    refine own_fwd (fun t k => XS.iload X29.here hx rfl (hb hby at_143) rfl k) ?_
    show own_R p.tables e below P (T29.setTop (mkF m 145 #[.val (.int p0), .val (.long p1), .second, .val (.long p2), .second, .val (.long p3), .second, .val (.int (1 : Int32)), .val (.long (p1 &&& (9223372036854775807 : Int64))), .second, .val (.long (p2 &&& (9223372036854775807 : Int64))), .second, .val (.long (p3 &&& (9223372036854775807 : Int64))), .second, .val (.ref b24), .val (.ref o29)] [(.int (1 : Int32))]))
    have hc36 : (0 : Int32) < (1 : Int32) := (by decide)
    refine own_fwd (fun t k => XS.ifNo X29.here hx rfl (hb hby at_145) rfl ((if0 _ _).trans (tlt hc36).2.2.2) k) ?_
    show own_R p.tables e below P (T29.setTop (mkF m 148 #[.val (.int p0), .val (.long p1), .second, .val (.long p2), .second, .val (.long p3), .second, .val (.int (1 : Int32)), .val (.long (p1 &&& (9223372036854775807 : Int64))), .second, .val (.long (p2 &&& (9223372036854775807 : Int64))), .second, .val (.long (p3 &&& (9223372036854775807 : Int64))), .second, .val (.ref b24), .val (.ref o29)] []))
    refine own_fwd (fun t k => XS.aload X29.here hx rfl (hb hby at_148) rfl rfl k) ?_
    show own_R p.tables e below P (T29.setTop (mkF m 150 #[.val (.int p0), .val (.long p1), .second, .val (.long p2), .second, .val (.long p3), .second, .val (.int (1 : Int32)), .val (.long (p1 &&& (9223372036854775807 : Int64))), .second, .val (.long (p2 &&& (9223372036854775807 : Int64))), .second, .val (.long (p3 &&& (9223372036854775807 : Int64))), .second, .val (.ref b24), .val (.ref o29)] [(.ref b24)]))
    refine own_fwd (fun t k => XS.iconst X29.here hx rfl (hb hby at_150) k) ?_
    show own_R p.tables e below P (T29.setTop (mkF m 151 #[.val (.int p0), .val (.long p1), .second, .val (.long p2), .second, .val (.long p3), .second, .val (.int (1 : Int32)), .val (.long (p1 &&& (9223372036854775807 : Int64))), .second, .val (.long (p2 &&& (9223372036854775807 : Int64))), .second, .val (.long (p3 &&& (9223372036854775807 : Int64))), .second, .val (.ref b24), .val (.ref o29)] [(.int (0 : Int32)), (.ref b24)]))
    refine own_fwd (fun t k => XS.lload X29.here hx rfl (hb hby at_151) rfl k) ?_
    show own_R p.tables e below P (T29.setTop (mkF m 153 #[.val (.int p0), .val (.long p1), .second, .val (.long p2), .second, .val (.long p3), .second, .val (.int (1 : Int32)), .val (.long (p1 &&& (9223372036854775807 : Int64))), .second, .val (.long (p2 &&& (9223372036854775807 : Int64))), .second, .val (.long (p3 &&& (9223372036854775807 : Int64))), .second, .val (.ref b24), .val (.ref o29)] [(.long (p1 &&& (9223372036854775807 : Int64))), (.int (0 : Int32)), (.ref b24)]))
    refine own_fwd (fun t k => X29.ldc2Long hx hown (mvT hZ (hw _ (List.mem_of_getElem? (i := 15) rfl))) (g := (mkF m 153 #[.val (.int p0), .val (.long p1), .second, .val (.long p2), .second, .val (.long p3), .second, .val (.int (1 : Int32)), .val (.long (p1 &&& (9223372036854775807 : Int64))), .second, .val (.long (p2 &&& (9223372036854775807 : Int64))), .second, .val (.long (p3 &&& (9223372036854775807 : Int64))), .second, .val (.ref b24), .val (.ref o29)] [(.long (p1 &&& (9223372036854775807 : Int64))), (.int (0 : Int32)), (.ref b24)])) rfl (hb hby at_153) t k) ?_
    show own_R p.tables e below P (T29.setTop (mkF m 156 #[.val (.int p0), .val (.long p1), .second, .val (.long p2), .second, .val (.long p3), .second, .val (.int (1 : Int32)), .val (.long (p1 &&& (9223372036854775807 : Int64))), .second, .val (.long (p2 &&& (9223372036854775807 : Int64))), .second, .val (.long (p3 &&& (9223372036854775807 : Int64))), .second, .val (.ref b24), .val (.ref o29)] [(.long (-1 : Int64)), (.long (p1 &&& (9223372036854775807 : Int64))), (.int (0 : Int32)), (.ref b24)]))
    refine own_fwd (fun t k => XS.lxor X29.here hx rfl (hb hby at_156) rfl k) ?_
    show own_R p.tables e below P (T29.setTop (mkF m 157 #[.val (.int p0), .val (.long p1), .second, .val (.long p2), .second, .val (.long p3), .second, .val (.int (1 : Int32)), .val (.long (p1 &&& (9223372036854775807 : Int64))), .second, .val (.long (p2 &&& (9223372036854775807 : Int64))), .second, .val (.long (p3 &&& (9223372036854775807 : Int64))), .second, .val (.ref b24), .val (.ref o29)] [(.long ((p1 &&& (9223372036854775807 : Int64)) ^^^ (-1 : Int64))), (.int (0 : Int32)), (.ref b24)]))
    obtain ⟨T37, h37, X37, e37, W37, A37_, st37⟩ := own_stJ X29 hx hZ e29 A26__x29 (j := (0 : Int32)) 0 (by decide) (by decide) (g := (mkF m 157 #[.val (.int p0), .val (.long p1), .second, .val (.long p2), .second, .val (.long p3), .second, .val (.int (1 : Int32)), .val (.long (p1 &&& (9223372036854775807 : Int64))), .second, .val (.long (p2 &&& (9223372036854775807 : Int64))), .second, .val (.long (p3 &&& (9223372036854775807 : Int64))), .second, .val (.ref b24), .val (.ref o29)] [(.long ((p1 &&& (9223372036854775807 : Int64)) ^^^ (-1 : Int64))), (.int (0 : Int32)), (.ref b24)])) rfl rfl (hb hby at_157)
    have B24_x37 := B24_x29.wr W37
    have A29__x37 := A29_.other W37 (Ne.symm ne29_b24)
    have N37 := Fr.snoc X37 N29 ge_b24
    have Z37 : n0 ≤ h37.size := by rw [W37.size]; exact Z29
    have Y37 : h0.size ≤ h37.size := by rw [W37.size]; exact Y29
    refine own_fwd st37 ?_
    show own_R p.tables e below P (T37.setTop (mkF m 158 #[.val (.int p0), .val (.long p1), .second, .val (.long p2), .second, .val (.long p3), .second, .val (.int (1 : Int32)), .val (.long (p1 &&& (9223372036854775807 : Int64))), .second, .val (.long (p2 &&& (9223372036854775807 : Int64))), .second, .val (.long (p3 &&& (9223372036854775807 : Int64))), .second, .val (.ref b24), .val (.ref o29)] []))
    refine own_fwd (fun t k => XS.iload X37.here hx rfl (hb hby at_158) rfl k) ?_
    show own_R p.tables e below P (T37.setTop (mkF m 160 #[.val (.int p0), .val (.long p1), .second, .val (.long p2), .second, .val (.long p3), .second, .val (.int (1 : Int32)), .val (.long (p1 &&& (9223372036854775807 : Int64))), .second, .val (.long (p2 &&& (9223372036854775807 : Int64))), .second, .val (.long (p3 &&& (9223372036854775807 : Int64))), .second, .val (.ref b24), .val (.ref o29)] [(.int (1 : Int32))]))
    refine own_fwd (fun t k => XS.iconst X37.here hx rfl (hb hby at_160) k) ?_
    show own_R p.tables e below P (T37.setTop (mkF m 161 #[.val (.int p0), .val (.long p1), .second, .val (.long p2), .second, .val (.long p3), .second, .val (.int (1 : Int32)), .val (.long (p1 &&& (9223372036854775807 : Int64))), .second, .val (.long (p2 &&& (9223372036854775807 : Int64))), .second, .val (.long (p3 &&& (9223372036854775807 : Int64))), .second, .val (.ref b24), .val (.ref o29)] [(.int (1 : Int32)), (.int (1 : Int32))]))
    have hc38 : ¬ ((1 : Int32) < (1 : Int32)) := (by decide)
    refine own_fwd (fun t k => XS.icmpYes X37.here hx rfl (pc0 := 161) (pc' := 174) rfl (hb hby at_161) rfl (flt hc38).2.2.2 (by decide) (by decide) k) ?_
    show own_R p.tables e below P (T37.setTop (mkF m 174 #[.val (.int p0), .val (.long p1), .second, .val (.long p2), .second, .val (.long p3), .second, .val (.int (1 : Int32)), .val (.long (p1 &&& (9223372036854775807 : Int64))), .second, .val (.long (p2 &&& (9223372036854775807 : Int64))), .second, .val (.long (p3 &&& (9223372036854775807 : Int64))), .second, .val (.ref b24), .val (.ref o29)] []))
    refine own_fwd (fun t k => XS.iload X37.here hx rfl (hb hby at_174) rfl k) ?_
    show own_R p.tables e below P (T37.setTop (mkF m 176 #[.val (.int p0), .val (.long p1), .second, .val (.long p2), .second, .val (.long p3), .second, .val (.int (1 : Int32)), .val (.long (p1 &&& (9223372036854775807 : Int64))), .second, .val (.long (p2 &&& (9223372036854775807 : Int64))), .second, .val (.long (p3 &&& (9223372036854775807 : Int64))), .second, .val (.ref b24), .val (.ref o29)] [(.int (1 : Int32))]))
    refine own_fwd (fun t k => XS.iconst X37.here hx rfl (hb hby at_176) k) ?_
    show own_R p.tables e below P (T37.setTop (mkF m 177 #[.val (.int p0), .val (.long p1), .second, .val (.long p2), .second, .val (.long p3), .second, .val (.int (1 : Int32)), .val (.long (p1 &&& (9223372036854775807 : Int64))), .second, .val (.long (p2 &&& (9223372036854775807 : Int64))), .second, .val (.long (p3 &&& (9223372036854775807 : Int64))), .second, .val (.ref b24), .val (.ref o29)] [(.int (2 : Int32)), (.int (1 : Int32))]))
    have hc39 : ¬ ((2 : Int32) < (1 : Int32)) := (by decide)
    refine own_fwd (fun t k => XS.icmpYes X37.here hx rfl (pc0 := 177) (pc' := 190) rfl (hb hby at_177) rfl (flt hc39).2.2.2 (by decide) (by decide) k) ?_
    show own_R p.tables e below P (T37.setTop (mkF m 190 #[.val (.int p0), .val (.long p1), .second, .val (.long p2), .second, .val (.long p3), .second, .val (.int (1 : Int32)), .val (.long (p1 &&& (9223372036854775807 : Int64))), .second, .val (.long (p2 &&& (9223372036854775807 : Int64))), .second, .val (.long (p3 &&& (9223372036854775807 : Int64))), .second, .val (.ref b24), .val (.ref o29)] []))
    refine own_fwd (fun t k => XS.iload X37.here hx rfl (hb hby at_190) rfl k) ?_
    show own_R p.tables e below P (T37.setTop (mkF m 192 #[.val (.int p0), .val (.long p1), .second, .val (.long p2), .second, .val (.long p3), .second, .val (.int (1 : Int32)), .val (.long (p1 &&& (9223372036854775807 : Int64))), .second, .val (.long (p2 &&& (9223372036854775807 : Int64))), .second, .val (.long (p3 &&& (9223372036854775807 : Int64))), .second, .val (.ref b24), .val (.ref o29)] [(.int (1 : Int32))]))
    have hc40 : (0 : Int32) < (1 : Int32) := (by decide)
    refine own_fwd (fun t k => XS.ifNo X37.here hx rfl (hb hby at_192) rfl ((if0 _ _).trans (tlt hc40).2.2.2) k) ?_
    show own_R p.tables e below P (T37.setTop (mkF m 195 #[.val (.int p0), .val (.long p1), .second, .val (.long p2), .second, .val (.long p3), .second, .val (.int (1 : Int32)), .val (.long (p1 &&& (9223372036854775807 : Int64))), .second, .val (.long (p2 &&& (9223372036854775807 : Int64))), .second, .val (.long (p3 &&& (9223372036854775807 : Int64))), .second, .val (.ref b24), .val (.ref o29)] []))
    refine own_fwd (fun t k => XS.aload X37.here hx rfl (hb hby at_195) rfl rfl k) ?_
    show own_R p.tables e below P (T37.setTop (mkF m 197 #[.val (.int p0), .val (.long p1), .second, .val (.long p2), .second, .val (.long p3), .second, .val (.int (1 : Int32)), .val (.long (p1 &&& (9223372036854775807 : Int64))), .second, .val (.long (p2 &&& (9223372036854775807 : Int64))), .second, .val (.long (p3 &&& (9223372036854775807 : Int64))), .second, .val (.ref b24), .val (.ref o29)] [(.ref o29)]))
    refine own_fwd (fun t k => XS.iconst X37.here hx rfl (hb hby at_197) k) ?_
    show own_R p.tables e below P (T37.setTop (mkF m 198 #[.val (.int p0), .val (.long p1), .second, .val (.long p2), .second, .val (.long p3), .second, .val (.int (1 : Int32)), .val (.long (p1 &&& (9223372036854775807 : Int64))), .second, .val (.long (p2 &&& (9223372036854775807 : Int64))), .second, .val (.long (p3 &&& (9223372036854775807 : Int64))), .second, .val (.ref b24), .val (.ref o29)] [(.int (0 : Int32)), (.ref o29)]))
    refine own_fwd (own_ldJ X37 hx hZ e37 A29__x37 (j := (0 : Int32)) 0 (by decide) (by decide) (g := (mkF m 198 #[.val (.int p0), .val (.long p1), .second, .val (.long p2), .second, .val (.long p3), .second, .val (.int (1 : Int32)), .val (.long (p1 &&& (9223372036854775807 : Int64))), .second, .val (.long (p2 &&& (9223372036854775807 : Int64))), .second, .val (.long (p3 &&& (9223372036854775807 : Int64))), .second, .val (.ref b24), .val (.ref o29)] [(.int (0 : Int32)), (.ref o29)])) rfl rfl (hb hby at_198)) ?_
    show own_R p.tables e below P (T37.setTop (mkF m 199 #[.val (.int p0), .val (.long p1), .second, .val (.long p2), .second, .val (.long p3), .second, .val (.int (1 : Int32)), .val (.long (p1 &&& (9223372036854775807 : Int64))), .second, .val (.long (p2 &&& (9223372036854775807 : Int64))), .second, .val (.long (p3 &&& (9223372036854775807 : Int64))), .second, .val (.ref b24), .val (.ref o29)] [(.long ((own_upd (fun _ => (0 : Int64)) 0 (p1 &&& (9223372036854775807 : Int64))) 0))]))
    have hv41 : ((own_upd (fun _ => (0 : Int64)) 0 (p1 &&& (9223372036854775807 : Int64))) 0) = (p1 &&& (9223372036854775807 : Int64)) := (own_upd_hit _ _ _)
    rw [hv41]
    show own_R p.tables e below P (T37.setTop (mkF m 199 #[.val (.int p0), .val (.long p1), .second, .val (.long p2), .second, .val (.long p3), .second, .val (.int (1 : Int32)), .val (.long (p1 &&& (9223372036854775807 : Int64))), .second, .val (.long (p2 &&& (9223372036854775807 : Int64))), .second, .val (.long (p3 &&& (9223372036854775807 : Int64))), .second, .val (.ref b24), .val (.ref o29)] [(.long (p1 &&& (9223372036854775807 : Int64)))]))
    refine own_fwd (fun t k => XS.lload X37.here hx rfl (hb hby at_199) rfl k) ?_
    show own_R p.tables e below P (T37.setTop (mkF m 201 #[.val (.int p0), .val (.long p1), .second, .val (.long p2), .second, .val (.long p3), .second, .val (.int (1 : Int32)), .val (.long (p1 &&& (9223372036854775807 : Int64))), .second, .val (.long (p2 &&& (9223372036854775807 : Int64))), .second, .val (.long (p3 &&& (9223372036854775807 : Int64))), .second, .val (.ref b24), .val (.ref o29)] [(.long (p1 &&& (9223372036854775807 : Int64))), (.long (p1 &&& (9223372036854775807 : Int64)))]))
    refine own_fwd (fun t k => XS.lcmp X37.here hx rfl (hb hby at_201) rfl k) ?_
    show own_R p.tables e below P (T37.setTop (mkF m 202 #[.val (.int p0), .val (.long p1), .second, .val (.long p2), .second, .val (.long p3), .second, .val (.int (1 : Int32)), .val (.long (p1 &&& (9223372036854775807 : Int64))), .second, .val (.long (p2 &&& (9223372036854775807 : Int64))), .second, .val (.long (p3 &&& (9223372036854775807 : Int64))), .second, .val (.ref b24), .val (.ref o29)] [(.int (lcmpW (p1 &&& (9223372036854775807 : Int64)) (p1 &&& (9223372036854775807 : Int64))))]))
    have hc42 : (lcmpW (p1 &&& (9223372036854775807 : Int64)) (p1 &&& (9223372036854775807 : Int64))) = (0 : Int32) := (lw_eq _ _).mpr rfl
    refine own_fwd (fun t k => XS.ifYes X37.here hx rfl (pc0 := 202) (pc' := 207) rfl (hb hby at_202) rfl ((if0 _ _).trans (teq hc42).1) (by decide) (by decide) k) ?_
    show own_R p.tables e below P (T37.setTop (mkF m 207 #[.val (.int p0), .val (.long p1), .second, .val (.long p2), .second, .val (.long p3), .second, .val (.int (1 : Int32)), .val (.long (p1 &&& (9223372036854775807 : Int64))), .second, .val (.long (p2 &&& (9223372036854775807 : Int64))), .second, .val (.long (p3 &&& (9223372036854775807 : Int64))), .second, .val (.ref b24), .val (.ref o29)] []))
    refine own_fwd (fun t k => XS.iload X37.here hx rfl (hb hby at_207) rfl k) ?_
    show own_R p.tables e below P (T37.setTop (mkF m 209 #[.val (.int p0), .val (.long p1), .second, .val (.long p2), .second, .val (.long p3), .second, .val (.int (1 : Int32)), .val (.long (p1 &&& (9223372036854775807 : Int64))), .second, .val (.long (p2 &&& (9223372036854775807 : Int64))), .second, .val (.long (p3 &&& (9223372036854775807 : Int64))), .second, .val (.ref b24), .val (.ref o29)] [(.int (1 : Int32))]))
    refine own_fwd (fun t k => XS.iconst X37.here hx rfl (hb hby at_209) k) ?_
    show own_R p.tables e below P (T37.setTop (mkF m 210 #[.val (.int p0), .val (.long p1), .second, .val (.long p2), .second, .val (.long p3), .second, .val (.int (1 : Int32)), .val (.long (p1 &&& (9223372036854775807 : Int64))), .second, .val (.long (p2 &&& (9223372036854775807 : Int64))), .second, .val (.long (p3 &&& (9223372036854775807 : Int64))), .second, .val (.ref b24), .val (.ref o29)] [(.int (1 : Int32)), (.int (1 : Int32))]))
    have hc43 : ¬ ((1 : Int32) < (1 : Int32)) := (by decide)
    refine own_fwd (fun t k => XS.icmpYes X37.here hx rfl (pc0 := 210) (pc' := 225) rfl (hb hby at_210) rfl (flt hc43).2.2.2 (by decide) (by decide) k) ?_
    show own_R p.tables e below P (T37.setTop (mkF m 225 #[.val (.int p0), .val (.long p1), .second, .val (.long p2), .second, .val (.long p3), .second, .val (.int (1 : Int32)), .val (.long (p1 &&& (9223372036854775807 : Int64))), .second, .val (.long (p2 &&& (9223372036854775807 : Int64))), .second, .val (.long (p3 &&& (9223372036854775807 : Int64))), .second, .val (.ref b24), .val (.ref o29)] []))
    refine own_fwd (fun t k => XS.iload X37.here hx rfl (hb hby at_225) rfl k) ?_
    show own_R p.tables e below P (T37.setTop (mkF m 227 #[.val (.int p0), .val (.long p1), .second, .val (.long p2), .second, .val (.long p3), .second, .val (.int (1 : Int32)), .val (.long (p1 &&& (9223372036854775807 : Int64))), .second, .val (.long (p2 &&& (9223372036854775807 : Int64))), .second, .val (.long (p3 &&& (9223372036854775807 : Int64))), .second, .val (.ref b24), .val (.ref o29)] [(.int (1 : Int32))]))
    refine own_fwd (fun t k => XS.iconst X37.here hx rfl (hb hby at_227) k) ?_
    show own_R p.tables e below P (T37.setTop (mkF m 228 #[.val (.int p0), .val (.long p1), .second, .val (.long p2), .second, .val (.long p3), .second, .val (.int (1 : Int32)), .val (.long (p1 &&& (9223372036854775807 : Int64))), .second, .val (.long (p2 &&& (9223372036854775807 : Int64))), .second, .val (.long (p3 &&& (9223372036854775807 : Int64))), .second, .val (.ref b24), .val (.ref o29)] [(.int (2 : Int32)), (.int (1 : Int32))]))
    have hc44 : ¬ ((2 : Int32) < (1 : Int32)) := (by decide)
    refine own_fwd (fun t k => XS.icmpYes X37.here hx rfl (pc0 := 228) (pc' := 243) rfl (hb hby at_228) rfl (flt hc44).2.2.2 (by decide) (by decide) k) ?_
    show own_R p.tables e below P (T37.setTop (mkF m 243 #[.val (.int p0), .val (.long p1), .second, .val (.long p2), .second, .val (.long p3), .second, .val (.int (1 : Int32)), .val (.long (p1 &&& (9223372036854775807 : Int64))), .second, .val (.long (p2 &&& (9223372036854775807 : Int64))), .second, .val (.long (p3 &&& (9223372036854775807 : Int64))), .second, .val (.ref b24), .val (.ref o29)] []))
    refine own_fwd (fun t k => XS.iconst X37.here hx rfl (hb hby at_243) k) ?_
    show own_R p.tables e below P (T37.setTop (mkF m 244 #[.val (.int p0), .val (.long p1), .second, .val (.long p2), .second, .val (.long p3), .second, .val (.int (1 : Int32)), .val (.long (p1 &&& (9223372036854775807 : Int64))), .second, .val (.long (p2 &&& (9223372036854775807 : Int64))), .second, .val (.long (p3 &&& (9223372036854775807 : Int64))), .second, .val (.ref b24), .val (.ref o29)] [(.int (1 : Int32))]))
    obtain ⟨fs45, hr45, hrun45, hended45, hW45, hsame45⟩ := X37.leave (v := some (.int (1 : Int32))) (fun h => by rw [Bd.returns] at h; cases h)
    refine ⟨_, _, X37.ireturnOut hx (w := (1 : Int32)) Bd.returns rfl (by simp) (hb hby at_244) hr45, fin _ _ ⟨hrun45, hended45, _, _, rfl, ?_, ⟨_, rfl⟩, hW45, hsame45.mono (by decide) (by decide)⟩⟩
    show own_Qlaw Z p0 p1 p2 p3 h0 n0 _ T37.heap _
    rw [e37]
    exact ⟨rfl, N37⟩
  · rw [hs]
    show own_R p.tables e below P (s₁.setTop (mkF m 3 #[.val (.int p0), .val (.long p1), .second, .val (.long p2), .second, .val (.long p3), .second, .unset, .unset, .unset, .unset, .unset, .unset, .unset, .unset, .unset] [(.int (2 : Int32))]))
    refine own_fwd (fun t k => XS.istore X0.here hx rfl (hb hby at_3) rfl (l' := #[.val (.int p0), .val (.long p1), .second, .val (.long p2), .second, .val (.long p3), .second, .val (.int (2 : Int32)), .unset, .unset, .unset, .unset, .unset, .unset, .unset, .unset]) rfl k) ?_
    show own_R p.tables e below P (s₁.setTop (mkF m 5 #[.val (.int p0), .val (.long p1), .second, .val (.long p2), .second, .val (.long p3), .second, .val (.int (2 : Int32)), .unset, .unset, .unset, .unset, .unset, .unset, .unset, .unset] []))
    refine own_fwd (fun t k => XS.lloadN X0.here hx rfl (hb hby at_5) rfl k) ?_
    show own_R p.tables e below P (s₁.setTop (mkF m 6 #[.val (.int p0), .val (.long p1), .second, .val (.long p2), .second, .val (.long p3), .second, .val (.int (2 : Int32)), .unset, .unset, .unset, .unset, .unset, .unset, .unset, .unset] [(.long p1)]))
    refine own_fwd (fun t k => X0.ldc2Long hx hown (mvT hZ (hw _ (List.mem_of_getElem? (i := 0) rfl))) (g := (mkF m 6 #[.val (.int p0), .val (.long p1), .second, .val (.long p2), .second, .val (.long p3), .second, .val (.int (2 : Int32)), .unset, .unset, .unset, .unset, .unset, .unset, .unset, .unset] [(.long p1)])) rfl (hb hby at_6) t k) ?_
    show own_R p.tables e below P (s₁.setTop (mkF m 9 #[.val (.int p0), .val (.long p1), .second, .val (.long p2), .second, .val (.long p3), .second, .val (.int (2 : Int32)), .unset, .unset, .unset, .unset, .unset, .unset, .unset, .unset] [(.long (9223372036854775807 : Int64)), (.long p1)]))
    refine own_fwd (fun t k => XS.land X0.here hx rfl (hb hby at_9) rfl k) ?_
    show own_R p.tables e below P (s₁.setTop (mkF m 10 #[.val (.int p0), .val (.long p1), .second, .val (.long p2), .second, .val (.long p3), .second, .val (.int (2 : Int32)), .unset, .unset, .unset, .unset, .unset, .unset, .unset, .unset] [(.long (p1 &&& (9223372036854775807 : Int64)))]))
    refine own_fwd (fun t k => XS.lstore X0.here hx rfl (hb hby at_10) rfl (l' := #[.val (.int p0), .val (.long p1), .second, .val (.long p2), .second, .val (.long p3), .second, .val (.int (2 : Int32)), .val (.long (p1 &&& (9223372036854775807 : Int64))), .second, .unset, .unset, .unset, .unset, .unset, .unset]) rfl k) ?_
    show own_R p.tables e below P (s₁.setTop (mkF m 12 #[.val (.int p0), .val (.long p1), .second, .val (.long p2), .second, .val (.long p3), .second, .val (.int (2 : Int32)), .val (.long (p1 &&& (9223372036854775807 : Int64))), .second, .unset, .unset, .unset, .unset, .unset, .unset] []))
    refine own_fwd (fun t k => XS.lloadN X0.here hx rfl (hb hby at_12) rfl k) ?_
    show own_R p.tables e below P (s₁.setTop (mkF m 13 #[.val (.int p0), .val (.long p1), .second, .val (.long p2), .second, .val (.long p3), .second, .val (.int (2 : Int32)), .val (.long (p1 &&& (9223372036854775807 : Int64))), .second, .unset, .unset, .unset, .unset, .unset, .unset] [(.long p2)]))
    refine own_fwd (fun t k => X0.ldc2Long hx hown (mvT hZ (hw _ (List.mem_of_getElem? (i := 0) rfl))) (g := (mkF m 13 #[.val (.int p0), .val (.long p1), .second, .val (.long p2), .second, .val (.long p3), .second, .val (.int (2 : Int32)), .val (.long (p1 &&& (9223372036854775807 : Int64))), .second, .unset, .unset, .unset, .unset, .unset, .unset] [(.long p2)])) rfl (hb hby at_13) t k) ?_
    show own_R p.tables e below P (s₁.setTop (mkF m 16 #[.val (.int p0), .val (.long p1), .second, .val (.long p2), .second, .val (.long p3), .second, .val (.int (2 : Int32)), .val (.long (p1 &&& (9223372036854775807 : Int64))), .second, .unset, .unset, .unset, .unset, .unset, .unset] [(.long (9223372036854775807 : Int64)), (.long p2)]))
    refine own_fwd (fun t k => XS.land X0.here hx rfl (hb hby at_16) rfl k) ?_
    show own_R p.tables e below P (s₁.setTop (mkF m 17 #[.val (.int p0), .val (.long p1), .second, .val (.long p2), .second, .val (.long p3), .second, .val (.int (2 : Int32)), .val (.long (p1 &&& (9223372036854775807 : Int64))), .second, .unset, .unset, .unset, .unset, .unset, .unset] [(.long (p2 &&& (9223372036854775807 : Int64)))]))
    refine own_fwd (fun t k => XS.lstore X0.here hx rfl (hb hby at_17) rfl (l' := #[.val (.int p0), .val (.long p1), .second, .val (.long p2), .second, .val (.long p3), .second, .val (.int (2 : Int32)), .val (.long (p1 &&& (9223372036854775807 : Int64))), .second, .val (.long (p2 &&& (9223372036854775807 : Int64))), .second, .unset, .unset, .unset, .unset]) rfl k) ?_
    show own_R p.tables e below P (s₁.setTop (mkF m 19 #[.val (.int p0), .val (.long p1), .second, .val (.long p2), .second, .val (.long p3), .second, .val (.int (2 : Int32)), .val (.long (p1 &&& (9223372036854775807 : Int64))), .second, .val (.long (p2 &&& (9223372036854775807 : Int64))), .second, .unset, .unset, .unset, .unset] []))
    refine own_fwd (fun t k => XS.lload X0.here hx rfl (hb hby at_19) rfl k) ?_
    show own_R p.tables e below P (s₁.setTop (mkF m 21 #[.val (.int p0), .val (.long p1), .second, .val (.long p2), .second, .val (.long p3), .second, .val (.int (2 : Int32)), .val (.long (p1 &&& (9223372036854775807 : Int64))), .second, .val (.long (p2 &&& (9223372036854775807 : Int64))), .second, .unset, .unset, .unset, .unset] [(.long p3)]))
    refine own_fwd (fun t k => X0.ldc2Long hx hown (mvT hZ (hw _ (List.mem_of_getElem? (i := 0) rfl))) (g := (mkF m 21 #[.val (.int p0), .val (.long p1), .second, .val (.long p2), .second, .val (.long p3), .second, .val (.int (2 : Int32)), .val (.long (p1 &&& (9223372036854775807 : Int64))), .second, .val (.long (p2 &&& (9223372036854775807 : Int64))), .second, .unset, .unset, .unset, .unset] [(.long p3)])) rfl (hb hby at_21) t k) ?_
    show own_R p.tables e below P (s₁.setTop (mkF m 24 #[.val (.int p0), .val (.long p1), .second, .val (.long p2), .second, .val (.long p3), .second, .val (.int (2 : Int32)), .val (.long (p1 &&& (9223372036854775807 : Int64))), .second, .val (.long (p2 &&& (9223372036854775807 : Int64))), .second, .unset, .unset, .unset, .unset] [(.long (9223372036854775807 : Int64)), (.long p3)]))
    refine own_fwd (fun t k => XS.land X0.here hx rfl (hb hby at_24) rfl k) ?_
    show own_R p.tables e below P (s₁.setTop (mkF m 25 #[.val (.int p0), .val (.long p1), .second, .val (.long p2), .second, .val (.long p3), .second, .val (.int (2 : Int32)), .val (.long (p1 &&& (9223372036854775807 : Int64))), .second, .val (.long (p2 &&& (9223372036854775807 : Int64))), .second, .unset, .unset, .unset, .unset] [(.long (p3 &&& (9223372036854775807 : Int64)))]))
    refine own_fwd (fun t k => XS.lstore X0.here hx rfl (hb hby at_25) rfl (l' := #[.val (.int p0), .val (.long p1), .second, .val (.long p2), .second, .val (.long p3), .second, .val (.int (2 : Int32)), .val (.long (p1 &&& (9223372036854775807 : Int64))), .second, .val (.long (p2 &&& (9223372036854775807 : Int64))), .second, .val (.long (p3 &&& (9223372036854775807 : Int64))), .second, .unset, .unset]) rfl k) ?_
    show own_R p.tables e below P (s₁.setTop (mkF m 27 #[.val (.int p0), .val (.long p1), .second, .val (.long p2), .second, .val (.long p3), .second, .val (.int (2 : Int32)), .val (.long (p1 &&& (9223372036854775807 : Int64))), .second, .val (.long (p2 &&& (9223372036854775807 : Int64))), .second, .val (.long (p3 &&& (9223372036854775807 : Int64))), .second, .unset, .unset] []))
    refine own_fwd (fun t k => XS.iload X0.here hx rfl (hb hby at_27) rfl k) ?_
    show own_R p.tables e below P (s₁.setTop (mkF m 29 #[.val (.int p0), .val (.long p1), .second, .val (.long p2), .second, .val (.long p3), .second, .val (.int (2 : Int32)), .val (.long (p1 &&& (9223372036854775807 : Int64))), .second, .val (.long (p2 &&& (9223372036854775807 : Int64))), .second, .val (.long (p3 &&& (9223372036854775807 : Int64))), .second, .unset, .unset] [(.int (2 : Int32))]))
    obtain ⟨T46, h46, b46, g46, X46, e46, E46, A46, B46, st46⟩ := own_newA (n := 2) X0 hx hZ (hw _ (List.mem_of_getElem? (i := 1) rfl)) e0 (z := (2 : Int32)) (by decide) (cap := 2) (by decide) (g := (mkF m 29 #[.val (.int p0), .val (.long p1), .second, .val (.long p2), .second, .val (.long p3), .second, .val (.int (2 : Int32)), .val (.long (p1 &&& (9223372036854775807 : Int64))), .second, .val (.long (p2 &&& (9223372036854775807 : Int64))), .second, .val (.long (p3 &&& (9223372036854775807 : Int64))), .second, .unset, .unset] [(.int (2 : Int32))])) rfl (hb hby at_29) rfl (by decide) (by decide) (by decide) (ad := "[J") (by decide)
    have ge_b46 : n0 ≤ b46 := by rw [g46]; exact Z0
    have sz_b46 : h0.size ≤ b46 := by rw [g46]; exact (Nat.le_refl h0.size)
    have A46_ : own_AJ Z h46 b46 2 (fun _ => (0 : Int64)) := A46
    have Z46 : n0 ≤ h46.size := Nat.le_trans Z0 E46.1
    have Y46 : h0.size ≤ h46.size := Nat.le_trans (Nat.le_refl h0.size) E46.1
    refine own_fwd st46 ?_
    show own_R p.tables e below P (T46.setTop (mkF m 31 #[.val (.int p0), .val (.long p1), .second, .val (.long p2), .second, .val (.long p3), .second, .val (.int (2 : Int32)), .val (.long (p1 &&& (9223372036854775807 : Int64))), .second, .val (.long (p2 &&& (9223372036854775807 : Int64))), .second, .val (.long (p3 &&& (9223372036854775807 : Int64))), .second, .unset, .unset] [(.ref b46)]))
    refine own_fwd (fun t k => XS.astore X46.here hx rfl (hb hby at_31) rfl rfl (l' := #[.val (.int p0), .val (.long p1), .second, .val (.long p2), .second, .val (.long p3), .second, .val (.int (2 : Int32)), .val (.long (p1 &&& (9223372036854775807 : Int64))), .second, .val (.long (p2 &&& (9223372036854775807 : Int64))), .second, .val (.long (p3 &&& (9223372036854775807 : Int64))), .second, .val (.ref b46), .unset]) rfl k) ?_
    show own_R p.tables e below P (T46.setTop (mkF m 33 #[.val (.int p0), .val (.long p1), .second, .val (.long p2), .second, .val (.long p3), .second, .val (.int (2 : Int32)), .val (.long (p1 &&& (9223372036854775807 : Int64))), .second, .val (.long (p2 &&& (9223372036854775807 : Int64))), .second, .val (.long (p3 &&& (9223372036854775807 : Int64))), .second, .val (.ref b46), .unset] []))
    refine own_fwd (fun t k => XS.iload X46.here hx rfl (hb hby at_33) rfl k) ?_
    show own_R p.tables e below P (T46.setTop (mkF m 35 #[.val (.int p0), .val (.long p1), .second, .val (.long p2), .second, .val (.long p3), .second, .val (.int (2 : Int32)), .val (.long (p1 &&& (9223372036854775807 : Int64))), .second, .val (.long (p2 &&& (9223372036854775807 : Int64))), .second, .val (.long (p3 &&& (9223372036854775807 : Int64))), .second, .val (.ref b46), .unset] [(.int (2 : Int32))]))
    have hc47 : (0 : Int32) < (2 : Int32) := (by decide)
    refine own_fwd (fun t k => XS.ifNo X46.here hx rfl (hb hby at_35) rfl ((if0 _ _).trans (tlt hc47).2.2.2) k) ?_
    show own_R p.tables e below P (T46.setTop (mkF m 38 #[.val (.int p0), .val (.long p1), .second, .val (.long p2), .second, .val (.long p3), .second, .val (.int (2 : Int32)), .val (.long (p1 &&& (9223372036854775807 : Int64))), .second, .val (.long (p2 &&& (9223372036854775807 : Int64))), .second, .val (.long (p3 &&& (9223372036854775807 : Int64))), .second, .val (.ref b46), .unset] []))
    refine own_fwd (fun t k => XS.aload X46.here hx rfl (hb hby at_38) rfl rfl k) ?_
    show own_R p.tables e below P (T46.setTop (mkF m 40 #[.val (.int p0), .val (.long p1), .second, .val (.long p2), .second, .val (.long p3), .second, .val (.int (2 : Int32)), .val (.long (p1 &&& (9223372036854775807 : Int64))), .second, .val (.long (p2 &&& (9223372036854775807 : Int64))), .second, .val (.long (p3 &&& (9223372036854775807 : Int64))), .second, .val (.ref b46), .unset] [(.ref b46)]))
    refine own_fwd (fun t k => XS.iconst X46.here hx rfl (hb hby at_40) k) ?_
    show own_R p.tables e below P (T46.setTop (mkF m 41 #[.val (.int p0), .val (.long p1), .second, .val (.long p2), .second, .val (.long p3), .second, .val (.int (2 : Int32)), .val (.long (p1 &&& (9223372036854775807 : Int64))), .second, .val (.long (p2 &&& (9223372036854775807 : Int64))), .second, .val (.long (p3 &&& (9223372036854775807 : Int64))), .second, .val (.ref b46), .unset] [(.int (0 : Int32)), (.ref b46)]))
    refine own_fwd (fun t k => XS.lload X46.here hx rfl (hb hby at_41) rfl k) ?_
    show own_R p.tables e below P (T46.setTop (mkF m 43 #[.val (.int p0), .val (.long p1), .second, .val (.long p2), .second, .val (.long p3), .second, .val (.int (2 : Int32)), .val (.long (p1 &&& (9223372036854775807 : Int64))), .second, .val (.long (p2 &&& (9223372036854775807 : Int64))), .second, .val (.long (p3 &&& (9223372036854775807 : Int64))), .second, .val (.ref b46), .unset] [(.long (p1 &&& (9223372036854775807 : Int64))), (.int (0 : Int32)), (.ref b46)]))
    obtain ⟨T48, h48, X48, e48, W48, A48_, st48⟩ := own_stJ X46 hx hZ e46 A46_ (j := (0 : Int32)) 0 (by decide) (by decide) (g := (mkF m 43 #[.val (.int p0), .val (.long p1), .second, .val (.long p2), .second, .val (.long p3), .second, .val (.int (2 : Int32)), .val (.long (p1 &&& (9223372036854775807 : Int64))), .second, .val (.long (p2 &&& (9223372036854775807 : Int64))), .second, .val (.long (p3 &&& (9223372036854775807 : Int64))), .second, .val (.ref b46), .unset] [(.long (p1 &&& (9223372036854775807 : Int64))), (.int (0 : Int32)), (.ref b46)])) rfl rfl (hb hby at_43)
    have B46_x48 := B46.wr W48
    have N48 := Fr.snoc X48 N0 ge_b46
    have Z48 : n0 ≤ h48.size := by rw [W48.size]; exact Z46
    have Y48 : h0.size ≤ h48.size := by rw [W48.size]; exact Y46
    refine own_fwd st48 ?_
    show own_R p.tables e below P (T48.setTop (mkF m 44 #[.val (.int p0), .val (.long p1), .second, .val (.long p2), .second, .val (.long p3), .second, .val (.int (2 : Int32)), .val (.long (p1 &&& (9223372036854775807 : Int64))), .second, .val (.long (p2 &&& (9223372036854775807 : Int64))), .second, .val (.long (p3 &&& (9223372036854775807 : Int64))), .second, .val (.ref b46), .unset] []))
    refine own_fwd (fun t k => XS.iload X48.here hx rfl (hb hby at_44) rfl k) ?_
    show own_R p.tables e below P (T48.setTop (mkF m 46 #[.val (.int p0), .val (.long p1), .second, .val (.long p2), .second, .val (.long p3), .second, .val (.int (2 : Int32)), .val (.long (p1 &&& (9223372036854775807 : Int64))), .second, .val (.long (p2 &&& (9223372036854775807 : Int64))), .second, .val (.long (p3 &&& (9223372036854775807 : Int64))), .second, .val (.ref b46), .unset] [(.int (2 : Int32))]))
    refine own_fwd (fun t k => XS.iconst X48.here hx rfl (hb hby at_46) k) ?_
    show own_R p.tables e below P (T48.setTop (mkF m 47 #[.val (.int p0), .val (.long p1), .second, .val (.long p2), .second, .val (.long p3), .second, .val (.int (2 : Int32)), .val (.long (p1 &&& (9223372036854775807 : Int64))), .second, .val (.long (p2 &&& (9223372036854775807 : Int64))), .second, .val (.long (p3 &&& (9223372036854775807 : Int64))), .second, .val (.ref b46), .unset] [(.int (1 : Int32)), (.int (2 : Int32))]))
    have hc49 : (1 : Int32) < (2 : Int32) := (by decide)
    refine own_fwd (fun t k => XS.icmpNo X48.here hx rfl (hb hby at_47) rfl (tlt hc49).2.2.2 k) ?_
    show own_R p.tables e below P (T48.setTop (mkF m 50 #[.val (.int p0), .val (.long p1), .second, .val (.long p2), .second, .val (.long p3), .second, .val (.int (2 : Int32)), .val (.long (p1 &&& (9223372036854775807 : Int64))), .second, .val (.long (p2 &&& (9223372036854775807 : Int64))), .second, .val (.long (p3 &&& (9223372036854775807 : Int64))), .second, .val (.ref b46), .unset] []))
    refine own_fwd (fun t k => XS.aload X48.here hx rfl (hb hby at_50) rfl rfl k) ?_
    show own_R p.tables e below P (T48.setTop (mkF m 52 #[.val (.int p0), .val (.long p1), .second, .val (.long p2), .second, .val (.long p3), .second, .val (.int (2 : Int32)), .val (.long (p1 &&& (9223372036854775807 : Int64))), .second, .val (.long (p2 &&& (9223372036854775807 : Int64))), .second, .val (.long (p3 &&& (9223372036854775807 : Int64))), .second, .val (.ref b46), .unset] [(.ref b46)]))
    refine own_fwd (fun t k => XS.iconst X48.here hx rfl (hb hby at_52) k) ?_
    show own_R p.tables e below P (T48.setTop (mkF m 53 #[.val (.int p0), .val (.long p1), .second, .val (.long p2), .second, .val (.long p3), .second, .val (.int (2 : Int32)), .val (.long (p1 &&& (9223372036854775807 : Int64))), .second, .val (.long (p2 &&& (9223372036854775807 : Int64))), .second, .val (.long (p3 &&& (9223372036854775807 : Int64))), .second, .val (.ref b46), .unset] [(.int (1 : Int32)), (.ref b46)]))
    refine own_fwd (fun t k => XS.lload X48.here hx rfl (hb hby at_53) rfl k) ?_
    show own_R p.tables e below P (T48.setTop (mkF m 55 #[.val (.int p0), .val (.long p1), .second, .val (.long p2), .second, .val (.long p3), .second, .val (.int (2 : Int32)), .val (.long (p1 &&& (9223372036854775807 : Int64))), .second, .val (.long (p2 &&& (9223372036854775807 : Int64))), .second, .val (.long (p3 &&& (9223372036854775807 : Int64))), .second, .val (.ref b46), .unset] [(.long (p2 &&& (9223372036854775807 : Int64))), (.int (1 : Int32)), (.ref b46)]))
    obtain ⟨T50, h50, X50, e50, W50, A50_, st50⟩ := own_stJ X48 hx hZ e48 A48_ (j := (1 : Int32)) 1 (by decide) (by decide) (g := (mkF m 55 #[.val (.int p0), .val (.long p1), .second, .val (.long p2), .second, .val (.long p3), .second, .val (.int (2 : Int32)), .val (.long (p1 &&& (9223372036854775807 : Int64))), .second, .val (.long (p2 &&& (9223372036854775807 : Int64))), .second, .val (.long (p3 &&& (9223372036854775807 : Int64))), .second, .val (.ref b46), .unset] [(.long (p2 &&& (9223372036854775807 : Int64))), (.int (1 : Int32)), (.ref b46)])) rfl rfl (hb hby at_55)
    have B46_x50 := B46_x48.wr W50
    have N50 := Fr.snoc X50 N48 ge_b46
    have Z50 : n0 ≤ h50.size := by rw [W50.size]; exact Z48
    have Y50 : h0.size ≤ h50.size := by rw [W50.size]; exact Y48
    refine own_fwd st50 ?_
    show own_R p.tables e below P (T50.setTop (mkF m 56 #[.val (.int p0), .val (.long p1), .second, .val (.long p2), .second, .val (.long p3), .second, .val (.int (2 : Int32)), .val (.long (p1 &&& (9223372036854775807 : Int64))), .second, .val (.long (p2 &&& (9223372036854775807 : Int64))), .second, .val (.long (p3 &&& (9223372036854775807 : Int64))), .second, .val (.ref b46), .unset] []))
    refine own_fwd (fun t k => XS.iload X50.here hx rfl (hb hby at_56) rfl k) ?_
    show own_R p.tables e below P (T50.setTop (mkF m 58 #[.val (.int p0), .val (.long p1), .second, .val (.long p2), .second, .val (.long p3), .second, .val (.int (2 : Int32)), .val (.long (p1 &&& (9223372036854775807 : Int64))), .second, .val (.long (p2 &&& (9223372036854775807 : Int64))), .second, .val (.long (p3 &&& (9223372036854775807 : Int64))), .second, .val (.ref b46), .unset] [(.int (2 : Int32))]))
    refine own_fwd (fun t k => XS.iconst X50.here hx rfl (hb hby at_58) k) ?_
    show own_R p.tables e below P (T50.setTop (mkF m 59 #[.val (.int p0), .val (.long p1), .second, .val (.long p2), .second, .val (.long p3), .second, .val (.int (2 : Int32)), .val (.long (p1 &&& (9223372036854775807 : Int64))), .second, .val (.long (p2 &&& (9223372036854775807 : Int64))), .second, .val (.long (p3 &&& (9223372036854775807 : Int64))), .second, .val (.ref b46), .unset] [(.int (2 : Int32)), (.int (2 : Int32))]))
    have hc51 : ¬ ((2 : Int32) < (2 : Int32)) := (by decide)
    refine own_fwd (fun t k => XS.icmpYes X50.here hx rfl (pc0 := 59) (pc' := 68) rfl (hb hby at_59) rfl (flt hc51).2.2.2 (by decide) (by decide) k) ?_
    show own_R p.tables e below P (T50.setTop (mkF m 68 #[.val (.int p0), .val (.long p1), .second, .val (.long p2), .second, .val (.long p3), .second, .val (.int (2 : Int32)), .val (.long (p1 &&& (9223372036854775807 : Int64))), .second, .val (.long (p2 &&& (9223372036854775807 : Int64))), .second, .val (.long (p3 &&& (9223372036854775807 : Int64))), .second, .val (.ref b46), .unset] []))
    refine own_fwd (fun t k => XS.aload X50.here hx rfl (hb hby at_68) rfl rfl k) ?_
    show own_R p.tables e below P (T50.setTop (mkF m 70 #[.val (.int p0), .val (.long p1), .second, .val (.long p2), .second, .val (.long p3), .second, .val (.int (2 : Int32)), .val (.long (p1 &&& (9223372036854775807 : Int64))), .second, .val (.long (p2 &&& (9223372036854775807 : Int64))), .second, .val (.long (p3 &&& (9223372036854775807 : Int64))), .second, .val (.ref b46), .unset] [(.ref b46)]))
    obtain ⟨_, _, ⟨T52, L52, k52, n52⟩, -, X52, ⟨Lc52, hQ52, l52, y52, z52⟩, st52⟩ := Jvm.LawKit.callS X50 hx (y := (⟨"com/example/physalia/physalia/model/Marking", "checkedCopy", "([J)[J"⟩ : MethodName)) hown (mvT hZ (hw _ (List.mem_of_getElem? (i := 2) rfl))) (mvT hZ (hw _ (List.mem_of_getElem? (i := 3) rfl))) (mvT hZ (hw _ (List.mem_of_getElem? (i := 4) rfl))) (mvT hZ (hw _ (List.mem_of_getElem? (i := 5) rfl))) (by decide) (backOf (W := 0) (own_rm1 l Z a0 hw [] b46 2 (own_upd (own_upd (fun _ => (0 : Int64)) 0 (p1 &&& (9223372036854775807 : Int64))) 1 (p2 &&& (9223372036854775807 : Int64))) h50 n0 Z50 A50_ B46_x50 (by decide) (fun i hi => by
          have e1 : (0 : Int64).toInt = 0 := rfl
          have h1 := (c_andSL p1 9223372036854775807).2.2 (by decide)
          have h2 := (c_andSL p2 9223372036854775807).2.2 (by decide)
          have h3 := (c_andSL p3 9223372036854775807).2.2 (by decide)
          rcases (by omega : i = 0 ∨ i = 1) with rfl | rfl <;> (first | exact fun q => by rw [Int64.lt_iff_toInt_lt] at q; have q' := e1 ▸ q; revert q'; first | exact fun q' => absurd h1 (Int.not_le.mpr q') | exact fun q' => absurd h2 (Int.not_le.mpr q') | exact fun q' => absurd h3 (Int.not_le.mpr q')))) hZ (hw _ (List.mem_of_getElem? (i := 5) rfl)) (hw _ (List.mem_of_getElem? (i := 4) rfl)) (by decide) (by decide)) (g := (mkF m 70 #[.val (.int p0), .val (.long p1), .second, .val (.long p2), .second, .val (.long p3), .second, .val (.int (2 : Int32)), .val (.long (p1 &&& (9223372036854775807 : Int64))), .second, .val (.long (p2 &&& (9223372036854775807 : Int64))), .second, .val (.long (p3 &&& (9223372036854775807 : Int64))), .second, .val (.ref b46), .unset] [(.ref b46)])) rfl (by rw [hml]; rfl) (argsL := [(.ref b46)]) (rest := []) (lenOf own_pd0 rfl) rfl (by show 2 * 0 + _ ≤ _; exact Nat.le_of_eq rfl) (hb hby at_70) (fun _ _ => ⟨rfl, e50, (by decide : 1 + 1 ≤ _), (by decide : 2 + 3 ≤ _)⟩)
    dsimp only [Pt.U, Pt.locs, Pt.cells, Pt.slots] at X52 l52 y52 z52 st52 hQ52
    subst l52 y52 z52
    obtain ⟨h52, e52⟩ : ∃ z, T52.heap = z := ⟨_, rfl⟩
    rw [e52] at hQ52
    obtain ⟨o52, hq52, N52q, ge_o52, sq52, K52, A52_⟩ := hQ52
    subst hq52
    have N52 := Fr.app N50 N52q
    have ne52_b46 : b46 ≠ o52 := Nat.ne_of_lt (Nat.lt_of_lt_of_le A50_.lt sq52)
    have A50__x52 := A50_.keep K52 nin0
    have B46_x52 := B46_x50.keep K52
    have Z52 : n0 ≤ h52.size := Nat.le_trans Z50 K52.1
    have Y52 : h0.size ≤ h52.size := Nat.le_trans Y50 K52.1
    refine own_fwd st52 ?_
    show own_R p.tables e below P (T52.setTop (mkF m 73 #[.val (.int p0), .val (.long p1), .second, .val (.long p2), .second, .val (.long p3), .second, .val (.int (2 : Int32)), .val (.long (p1 &&& (9223372036854775807 : Int64))), .second, .val (.long (p2 &&& (9223372036854775807 : Int64))), .second, .val (.long (p3 &&& (9223372036854775807 : Int64))), .second, .val (.ref b46), .unset] [(.ref o52)]))
    refine own_fwd (fun t k => XS.astore X52.here hx rfl (hb hby at_73) rfl rfl (l' := #[.val (.int p0), .val (.long p1), .second, .val (.long p2), .second, .val (.long p3), .second, .val (.int (2 : Int32)), .val (.long (p1 &&& (9223372036854775807 : Int64))), .second, .val (.long (p2 &&& (9223372036854775807 : Int64))), .second, .val (.long (p3 &&& (9223372036854775807 : Int64))), .second, .val (.ref b46), .val (.ref o52)]) rfl k) ?_
    show own_R p.tables e below P (T52.setTop (mkF m 75 #[.val (.int p0), .val (.long p1), .second, .val (.long p2), .second, .val (.long p3), .second, .val (.int (2 : Int32)), .val (.long (p1 &&& (9223372036854775807 : Int64))), .second, .val (.long (p2 &&& (9223372036854775807 : Int64))), .second, .val (.long (p3 &&& (9223372036854775807 : Int64))), .second, .val (.ref b46), .val (.ref o52)] []))
    refine own_fwd (fun t k => XS.aload X52.here hx rfl (hb hby at_75) rfl rfl k) ?_
    show own_R p.tables e below P (T52.setTop (mkF m 77 #[.val (.int p0), .val (.long p1), .second, .val (.long p2), .second, .val (.long p3), .second, .val (.int (2 : Int32)), .val (.long (p1 &&& (9223372036854775807 : Int64))), .second, .val (.long (p2 &&& (9223372036854775807 : Int64))), .second, .val (.long (p3 &&& (9223372036854775807 : Int64))), .second, .val (.ref b46), .val (.ref o52)] [(.ref o52)]))
    refine own_fwd (fun t k => XS.ifnullNo X52.here hx rfl (hb hby at_77) rfl k) ?_
    show own_R p.tables e below P (T52.setTop (mkF m 80 #[.val (.int p0), .val (.long p1), .second, .val (.long p2), .second, .val (.long p3), .second, .val (.int (2 : Int32)), .val (.long (p1 &&& (9223372036854775807 : Int64))), .second, .val (.long (p2 &&& (9223372036854775807 : Int64))), .second, .val (.long (p3 &&& (9223372036854775807 : Int64))), .second, .val (.ref b46), .val (.ref o52)] []))
    refine own_fwd (fun t k => XS.aload X52.here hx rfl (hb hby at_80) rfl rfl k) ?_
    show own_R p.tables e below P (T52.setTop (mkF m 82 #[.val (.int p0), .val (.long p1), .second, .val (.long p2), .second, .val (.long p3), .second, .val (.int (2 : Int32)), .val (.long (p1 &&& (9223372036854775807 : Int64))), .second, .val (.long (p2 &&& (9223372036854775807 : Int64))), .second, .val (.long (p3 &&& (9223372036854775807 : Int64))), .second, .val (.ref b46), .val (.ref o52)] [(.ref o52)]))
    refine own_fwd (own_len X52 hx hZ e52 A52_ (2 : Int32) (by decide) (g := (mkF m 82 #[.val (.int p0), .val (.long p1), .second, .val (.long p2), .second, .val (.long p3), .second, .val (.int (2 : Int32)), .val (.long (p1 &&& (9223372036854775807 : Int64))), .second, .val (.long (p2 &&& (9223372036854775807 : Int64))), .second, .val (.long (p3 &&& (9223372036854775807 : Int64))), .second, .val (.ref b46), .val (.ref o52)] [(.ref o52)])) rfl rfl (hb hby at_82)) ?_
    show own_R p.tables e below P (T52.setTop (mkF m 83 #[.val (.int p0), .val (.long p1), .second, .val (.long p2), .second, .val (.long p3), .second, .val (.int (2 : Int32)), .val (.long (p1 &&& (9223372036854775807 : Int64))), .second, .val (.long (p2 &&& (9223372036854775807 : Int64))), .second, .val (.long (p3 &&& (9223372036854775807 : Int64))), .second, .val (.ref b46), .val (.ref o52)] [(.int (2 : Int32))]))
    refine own_fwd (fun t k => XS.iload X52.here hx rfl (hb hby at_83) rfl k) ?_
    show own_R p.tables e below P (T52.setTop (mkF m 85 #[.val (.int p0), .val (.long p1), .second, .val (.long p2), .second, .val (.long p3), .second, .val (.int (2 : Int32)), .val (.long (p1 &&& (9223372036854775807 : Int64))), .second, .val (.long (p2 &&& (9223372036854775807 : Int64))), .second, .val (.long (p3 &&& (9223372036854775807 : Int64))), .second, .val (.ref b46), .val (.ref o52)] [(.int (2 : Int32)), (.int (2 : Int32))]))
    have hc53 : (2 : Int32) = (2 : Int32) := (by decide)
    refine own_fwd (fun t k => XS.icmpYes X52.here hx rfl (pc0 := 85) (pc' := 90) rfl (hb hby at_85) rfl (teq hc53).1 (by decide) (by decide) k) ?_
    show own_R p.tables e below P (T52.setTop (mkF m 90 #[.val (.int p0), .val (.long p1), .second, .val (.long p2), .second, .val (.long p3), .second, .val (.int (2 : Int32)), .val (.long (p1 &&& (9223372036854775807 : Int64))), .second, .val (.long (p2 &&& (9223372036854775807 : Int64))), .second, .val (.long (p3 &&& (9223372036854775807 : Int64))), .second, .val (.ref b46), .val (.ref o52)] []))
    refine own_fwd (fun t k => XS.iload X52.here hx rfl (hb hby at_90) rfl k) ?_
    show own_R p.tables e below P (T52.setTop (mkF m 92 #[.val (.int p0), .val (.long p1), .second, .val (.long p2), .second, .val (.long p3), .second, .val (.int (2 : Int32)), .val (.long (p1 &&& (9223372036854775807 : Int64))), .second, .val (.long (p2 &&& (9223372036854775807 : Int64))), .second, .val (.long (p3 &&& (9223372036854775807 : Int64))), .second, .val (.ref b46), .val (.ref o52)] [(.int (2 : Int32))]))
    have hc54 : (0 : Int32) < (2 : Int32) := (by decide)
    refine own_fwd (fun t k => XS.ifNo X52.here hx rfl (hb hby at_92) rfl ((if0 _ _).trans (tlt hc54).2.2.2) k) ?_
    show own_R p.tables e below P (T52.setTop (mkF m 95 #[.val (.int p0), .val (.long p1), .second, .val (.long p2), .second, .val (.long p3), .second, .val (.int (2 : Int32)), .val (.long (p1 &&& (9223372036854775807 : Int64))), .second, .val (.long (p2 &&& (9223372036854775807 : Int64))), .second, .val (.long (p3 &&& (9223372036854775807 : Int64))), .second, .val (.ref b46), .val (.ref o52)] []))
    refine own_fwd (fun t k => XS.aload X52.here hx rfl (hb hby at_95) rfl rfl k) ?_
    show own_R p.tables e below P (T52.setTop (mkF m 97 #[.val (.int p0), .val (.long p1), .second, .val (.long p2), .second, .val (.long p3), .second, .val (.int (2 : Int32)), .val (.long (p1 &&& (9223372036854775807 : Int64))), .second, .val (.long (p2 &&& (9223372036854775807 : Int64))), .second, .val (.long (p3 &&& (9223372036854775807 : Int64))), .second, .val (.ref b46), .val (.ref o52)] [(.ref o52)]))
    refine own_fwd (fun t k => XS.iconst X52.here hx rfl (hb hby at_97) k) ?_
    show own_R p.tables e below P (T52.setTop (mkF m 98 #[.val (.int p0), .val (.long p1), .second, .val (.long p2), .second, .val (.long p3), .second, .val (.int (2 : Int32)), .val (.long (p1 &&& (9223372036854775807 : Int64))), .second, .val (.long (p2 &&& (9223372036854775807 : Int64))), .second, .val (.long (p3 &&& (9223372036854775807 : Int64))), .second, .val (.ref b46), .val (.ref o52)] [(.int (0 : Int32)), (.ref o52)]))
    refine own_fwd (own_ldJ X52 hx hZ e52 A52_ (j := (0 : Int32)) 0 (by decide) (by decide) (g := (mkF m 98 #[.val (.int p0), .val (.long p1), .second, .val (.long p2), .second, .val (.long p3), .second, .val (.int (2 : Int32)), .val (.long (p1 &&& (9223372036854775807 : Int64))), .second, .val (.long (p2 &&& (9223372036854775807 : Int64))), .second, .val (.long (p3 &&& (9223372036854775807 : Int64))), .second, .val (.ref b46), .val (.ref o52)] [(.int (0 : Int32)), (.ref o52)])) rfl rfl (hb hby at_98)) ?_
    show own_R p.tables e below P (T52.setTop (mkF m 99 #[.val (.int p0), .val (.long p1), .second, .val (.long p2), .second, .val (.long p3), .second, .val (.int (2 : Int32)), .val (.long (p1 &&& (9223372036854775807 : Int64))), .second, .val (.long (p2 &&& (9223372036854775807 : Int64))), .second, .val (.long (p3 &&& (9223372036854775807 : Int64))), .second, .val (.ref b46), .val (.ref o52)] [(.long ((own_upd (own_upd (fun _ => (0 : Int64)) 0 (p1 &&& (9223372036854775807 : Int64))) 1 (p2 &&& (9223372036854775807 : Int64))) 0))]))
    have hv55 : ((own_upd (own_upd (fun _ => (0 : Int64)) 0 (p1 &&& (9223372036854775807 : Int64))) 1 (p2 &&& (9223372036854775807 : Int64))) 0) = (p1 &&& (9223372036854775807 : Int64)) := ((own_upd_miss _ _ (by decide)).trans (own_upd_hit _ _ _))
    rw [hv55]
    show own_R p.tables e below P (T52.setTop (mkF m 99 #[.val (.int p0), .val (.long p1), .second, .val (.long p2), .second, .val (.long p3), .second, .val (.int (2 : Int32)), .val (.long (p1 &&& (9223372036854775807 : Int64))), .second, .val (.long (p2 &&& (9223372036854775807 : Int64))), .second, .val (.long (p3 &&& (9223372036854775807 : Int64))), .second, .val (.ref b46), .val (.ref o52)] [(.long (p1 &&& (9223372036854775807 : Int64)))]))
    refine own_fwd (fun t k => XS.lload X52.here hx rfl (hb hby at_99) rfl k) ?_
    show own_R p.tables e below P (T52.setTop (mkF m 101 #[.val (.int p0), .val (.long p1), .second, .val (.long p2), .second, .val (.long p3), .second, .val (.int (2 : Int32)), .val (.long (p1 &&& (9223372036854775807 : Int64))), .second, .val (.long (p2 &&& (9223372036854775807 : Int64))), .second, .val (.long (p3 &&& (9223372036854775807 : Int64))), .second, .val (.ref b46), .val (.ref o52)] [(.long (p1 &&& (9223372036854775807 : Int64))), (.long (p1 &&& (9223372036854775807 : Int64)))]))
    refine own_fwd (fun t k => XS.lcmp X52.here hx rfl (hb hby at_101) rfl k) ?_
    show own_R p.tables e below P (T52.setTop (mkF m 102 #[.val (.int p0), .val (.long p1), .second, .val (.long p2), .second, .val (.long p3), .second, .val (.int (2 : Int32)), .val (.long (p1 &&& (9223372036854775807 : Int64))), .second, .val (.long (p2 &&& (9223372036854775807 : Int64))), .second, .val (.long (p3 &&& (9223372036854775807 : Int64))), .second, .val (.ref b46), .val (.ref o52)] [(.int (lcmpW (p1 &&& (9223372036854775807 : Int64)) (p1 &&& (9223372036854775807 : Int64))))]))
    have hc56 : (lcmpW (p1 &&& (9223372036854775807 : Int64)) (p1 &&& (9223372036854775807 : Int64))) = (0 : Int32) := (lw_eq _ _).mpr rfl
    refine own_fwd (fun t k => XS.ifYes X52.here hx rfl (pc0 := 102) (pc' := 107) rfl (hb hby at_102) rfl ((if0 _ _).trans (teq hc56).1) (by decide) (by decide) k) ?_
    show own_R p.tables e below P (T52.setTop (mkF m 107 #[.val (.int p0), .val (.long p1), .second, .val (.long p2), .second, .val (.long p3), .second, .val (.int (2 : Int32)), .val (.long (p1 &&& (9223372036854775807 : Int64))), .second, .val (.long (p2 &&& (9223372036854775807 : Int64))), .second, .val (.long (p3 &&& (9223372036854775807 : Int64))), .second, .val (.ref b46), .val (.ref o52)] []))
    refine own_fwd (fun t k => XS.iload X52.here hx rfl (hb hby at_107) rfl k) ?_
    show own_R p.tables e below P (T52.setTop (mkF m 109 #[.val (.int p0), .val (.long p1), .second, .val (.long p2), .second, .val (.long p3), .second, .val (.int (2 : Int32)), .val (.long (p1 &&& (9223372036854775807 : Int64))), .second, .val (.long (p2 &&& (9223372036854775807 : Int64))), .second, .val (.long (p3 &&& (9223372036854775807 : Int64))), .second, .val (.ref b46), .val (.ref o52)] [(.int (2 : Int32))]))
    refine own_fwd (fun t k => XS.iconst X52.here hx rfl (hb hby at_109) k) ?_
    show own_R p.tables e below P (T52.setTop (mkF m 110 #[.val (.int p0), .val (.long p1), .second, .val (.long p2), .second, .val (.long p3), .second, .val (.int (2 : Int32)), .val (.long (p1 &&& (9223372036854775807 : Int64))), .second, .val (.long (p2 &&& (9223372036854775807 : Int64))), .second, .val (.long (p3 &&& (9223372036854775807 : Int64))), .second, .val (.ref b46), .val (.ref o52)] [(.int (1 : Int32)), (.int (2 : Int32))]))
    have hc57 : (1 : Int32) < (2 : Int32) := (by decide)
    refine own_fwd (fun t k => XS.icmpNo X52.here hx rfl (hb hby at_110) rfl (tlt hc57).2.2.2 k) ?_
    show own_R p.tables e below P (T52.setTop (mkF m 113 #[.val (.int p0), .val (.long p1), .second, .val (.long p2), .second, .val (.long p3), .second, .val (.int (2 : Int32)), .val (.long (p1 &&& (9223372036854775807 : Int64))), .second, .val (.long (p2 &&& (9223372036854775807 : Int64))), .second, .val (.long (p3 &&& (9223372036854775807 : Int64))), .second, .val (.ref b46), .val (.ref o52)] []))
    refine own_fwd (fun t k => XS.aload X52.here hx rfl (hb hby at_113) rfl rfl k) ?_
    show own_R p.tables e below P (T52.setTop (mkF m 115 #[.val (.int p0), .val (.long p1), .second, .val (.long p2), .second, .val (.long p3), .second, .val (.int (2 : Int32)), .val (.long (p1 &&& (9223372036854775807 : Int64))), .second, .val (.long (p2 &&& (9223372036854775807 : Int64))), .second, .val (.long (p3 &&& (9223372036854775807 : Int64))), .second, .val (.ref b46), .val (.ref o52)] [(.ref o52)]))
    refine own_fwd (fun t k => XS.iconst X52.here hx rfl (hb hby at_115) k) ?_
    show own_R p.tables e below P (T52.setTop (mkF m 116 #[.val (.int p0), .val (.long p1), .second, .val (.long p2), .second, .val (.long p3), .second, .val (.int (2 : Int32)), .val (.long (p1 &&& (9223372036854775807 : Int64))), .second, .val (.long (p2 &&& (9223372036854775807 : Int64))), .second, .val (.long (p3 &&& (9223372036854775807 : Int64))), .second, .val (.ref b46), .val (.ref o52)] [(.int (1 : Int32)), (.ref o52)]))
    refine own_fwd (own_ldJ X52 hx hZ e52 A52_ (j := (1 : Int32)) 1 (by decide) (by decide) (g := (mkF m 116 #[.val (.int p0), .val (.long p1), .second, .val (.long p2), .second, .val (.long p3), .second, .val (.int (2 : Int32)), .val (.long (p1 &&& (9223372036854775807 : Int64))), .second, .val (.long (p2 &&& (9223372036854775807 : Int64))), .second, .val (.long (p3 &&& (9223372036854775807 : Int64))), .second, .val (.ref b46), .val (.ref o52)] [(.int (1 : Int32)), (.ref o52)])) rfl rfl (hb hby at_116)) ?_
    show own_R p.tables e below P (T52.setTop (mkF m 117 #[.val (.int p0), .val (.long p1), .second, .val (.long p2), .second, .val (.long p3), .second, .val (.int (2 : Int32)), .val (.long (p1 &&& (9223372036854775807 : Int64))), .second, .val (.long (p2 &&& (9223372036854775807 : Int64))), .second, .val (.long (p3 &&& (9223372036854775807 : Int64))), .second, .val (.ref b46), .val (.ref o52)] [(.long ((own_upd (own_upd (fun _ => (0 : Int64)) 0 (p1 &&& (9223372036854775807 : Int64))) 1 (p2 &&& (9223372036854775807 : Int64))) 1))]))
    have hv58 : ((own_upd (own_upd (fun _ => (0 : Int64)) 0 (p1 &&& (9223372036854775807 : Int64))) 1 (p2 &&& (9223372036854775807 : Int64))) 1) = (p2 &&& (9223372036854775807 : Int64)) := (own_upd_hit _ _ _)
    rw [hv58]
    show own_R p.tables e below P (T52.setTop (mkF m 117 #[.val (.int p0), .val (.long p1), .second, .val (.long p2), .second, .val (.long p3), .second, .val (.int (2 : Int32)), .val (.long (p1 &&& (9223372036854775807 : Int64))), .second, .val (.long (p2 &&& (9223372036854775807 : Int64))), .second, .val (.long (p3 &&& (9223372036854775807 : Int64))), .second, .val (.ref b46), .val (.ref o52)] [(.long (p2 &&& (9223372036854775807 : Int64)))]))
    refine own_fwd (fun t k => XS.lload X52.here hx rfl (hb hby at_117) rfl k) ?_
    show own_R p.tables e below P (T52.setTop (mkF m 119 #[.val (.int p0), .val (.long p1), .second, .val (.long p2), .second, .val (.long p3), .second, .val (.int (2 : Int32)), .val (.long (p1 &&& (9223372036854775807 : Int64))), .second, .val (.long (p2 &&& (9223372036854775807 : Int64))), .second, .val (.long (p3 &&& (9223372036854775807 : Int64))), .second, .val (.ref b46), .val (.ref o52)] [(.long (p2 &&& (9223372036854775807 : Int64))), (.long (p2 &&& (9223372036854775807 : Int64)))]))
    refine own_fwd (fun t k => XS.lcmp X52.here hx rfl (hb hby at_119) rfl k) ?_
    show own_R p.tables e below P (T52.setTop (mkF m 120 #[.val (.int p0), .val (.long p1), .second, .val (.long p2), .second, .val (.long p3), .second, .val (.int (2 : Int32)), .val (.long (p1 &&& (9223372036854775807 : Int64))), .second, .val (.long (p2 &&& (9223372036854775807 : Int64))), .second, .val (.long (p3 &&& (9223372036854775807 : Int64))), .second, .val (.ref b46), .val (.ref o52)] [(.int (lcmpW (p2 &&& (9223372036854775807 : Int64)) (p2 &&& (9223372036854775807 : Int64))))]))
    have hc59 : (lcmpW (p2 &&& (9223372036854775807 : Int64)) (p2 &&& (9223372036854775807 : Int64))) = (0 : Int32) := (lw_eq _ _).mpr rfl
    refine own_fwd (fun t k => XS.ifYes X52.here hx rfl (pc0 := 120) (pc' := 125) rfl (hb hby at_120) rfl ((if0 _ _).trans (teq hc59).1) (by decide) (by decide) k) ?_
    show own_R p.tables e below P (T52.setTop (mkF m 125 #[.val (.int p0), .val (.long p1), .second, .val (.long p2), .second, .val (.long p3), .second, .val (.int (2 : Int32)), .val (.long (p1 &&& (9223372036854775807 : Int64))), .second, .val (.long (p2 &&& (9223372036854775807 : Int64))), .second, .val (.long (p3 &&& (9223372036854775807 : Int64))), .second, .val (.ref b46), .val (.ref o52)] []))
    refine own_fwd (fun t k => XS.iload X52.here hx rfl (hb hby at_125) rfl k) ?_
    show own_R p.tables e below P (T52.setTop (mkF m 127 #[.val (.int p0), .val (.long p1), .second, .val (.long p2), .second, .val (.long p3), .second, .val (.int (2 : Int32)), .val (.long (p1 &&& (9223372036854775807 : Int64))), .second, .val (.long (p2 &&& (9223372036854775807 : Int64))), .second, .val (.long (p3 &&& (9223372036854775807 : Int64))), .second, .val (.ref b46), .val (.ref o52)] [(.int (2 : Int32))]))
    refine own_fwd (fun t k => XS.iconst X52.here hx rfl (hb hby at_127) k) ?_
    show own_R p.tables e below P (T52.setTop (mkF m 128 #[.val (.int p0), .val (.long p1), .second, .val (.long p2), .second, .val (.long p3), .second, .val (.int (2 : Int32)), .val (.long (p1 &&& (9223372036854775807 : Int64))), .second, .val (.long (p2 &&& (9223372036854775807 : Int64))), .second, .val (.long (p3 &&& (9223372036854775807 : Int64))), .second, .val (.ref b46), .val (.ref o52)] [(.int (2 : Int32)), (.int (2 : Int32))]))
    have hc60 : ¬ ((2 : Int32) < (2 : Int32)) := (by decide)
    refine own_fwd (fun t k => XS.icmpYes X52.here hx rfl (pc0 := 128) (pc' := 143) rfl (hb hby at_128) rfl (flt hc60).2.2.2 (by decide) (by decide) k) ?_
    show own_R p.tables e below P (T52.setTop (mkF m 143 #[.val (.int p0), .val (.long p1), .second, .val (.long p2), .second, .val (.long p3), .second, .val (.int (2 : Int32)), .val (.long (p1 &&& (9223372036854775807 : Int64))), .second, .val (.long (p2 &&& (9223372036854775807 : Int64))), .second, .val (.long (p3 &&& (9223372036854775807 : Int64))), .second, .val (.ref b46), .val (.ref o52)] []))
    refine own_fwd (fun t k => XS.iload X52.here hx rfl (hb hby at_143) rfl k) ?_
    show own_R p.tables e below P (T52.setTop (mkF m 145 #[.val (.int p0), .val (.long p1), .second, .val (.long p2), .second, .val (.long p3), .second, .val (.int (2 : Int32)), .val (.long (p1 &&& (9223372036854775807 : Int64))), .second, .val (.long (p2 &&& (9223372036854775807 : Int64))), .second, .val (.long (p3 &&& (9223372036854775807 : Int64))), .second, .val (.ref b46), .val (.ref o52)] [(.int (2 : Int32))]))
    have hc61 : (0 : Int32) < (2 : Int32) := (by decide)
    refine own_fwd (fun t k => XS.ifNo X52.here hx rfl (hb hby at_145) rfl ((if0 _ _).trans (tlt hc61).2.2.2) k) ?_
    show own_R p.tables e below P (T52.setTop (mkF m 148 #[.val (.int p0), .val (.long p1), .second, .val (.long p2), .second, .val (.long p3), .second, .val (.int (2 : Int32)), .val (.long (p1 &&& (9223372036854775807 : Int64))), .second, .val (.long (p2 &&& (9223372036854775807 : Int64))), .second, .val (.long (p3 &&& (9223372036854775807 : Int64))), .second, .val (.ref b46), .val (.ref o52)] []))
    refine own_fwd (fun t k => XS.aload X52.here hx rfl (hb hby at_148) rfl rfl k) ?_
    show own_R p.tables e below P (T52.setTop (mkF m 150 #[.val (.int p0), .val (.long p1), .second, .val (.long p2), .second, .val (.long p3), .second, .val (.int (2 : Int32)), .val (.long (p1 &&& (9223372036854775807 : Int64))), .second, .val (.long (p2 &&& (9223372036854775807 : Int64))), .second, .val (.long (p3 &&& (9223372036854775807 : Int64))), .second, .val (.ref b46), .val (.ref o52)] [(.ref b46)]))
    refine own_fwd (fun t k => XS.iconst X52.here hx rfl (hb hby at_150) k) ?_
    show own_R p.tables e below P (T52.setTop (mkF m 151 #[.val (.int p0), .val (.long p1), .second, .val (.long p2), .second, .val (.long p3), .second, .val (.int (2 : Int32)), .val (.long (p1 &&& (9223372036854775807 : Int64))), .second, .val (.long (p2 &&& (9223372036854775807 : Int64))), .second, .val (.long (p3 &&& (9223372036854775807 : Int64))), .second, .val (.ref b46), .val (.ref o52)] [(.int (0 : Int32)), (.ref b46)]))
    refine own_fwd (fun t k => XS.lload X52.here hx rfl (hb hby at_151) rfl k) ?_
    show own_R p.tables e below P (T52.setTop (mkF m 153 #[.val (.int p0), .val (.long p1), .second, .val (.long p2), .second, .val (.long p3), .second, .val (.int (2 : Int32)), .val (.long (p1 &&& (9223372036854775807 : Int64))), .second, .val (.long (p2 &&& (9223372036854775807 : Int64))), .second, .val (.long (p3 &&& (9223372036854775807 : Int64))), .second, .val (.ref b46), .val (.ref o52)] [(.long (p1 &&& (9223372036854775807 : Int64))), (.int (0 : Int32)), (.ref b46)]))
    refine own_fwd (fun t k => X52.ldc2Long hx hown (mvT hZ (hw _ (List.mem_of_getElem? (i := 15) rfl))) (g := (mkF m 153 #[.val (.int p0), .val (.long p1), .second, .val (.long p2), .second, .val (.long p3), .second, .val (.int (2 : Int32)), .val (.long (p1 &&& (9223372036854775807 : Int64))), .second, .val (.long (p2 &&& (9223372036854775807 : Int64))), .second, .val (.long (p3 &&& (9223372036854775807 : Int64))), .second, .val (.ref b46), .val (.ref o52)] [(.long (p1 &&& (9223372036854775807 : Int64))), (.int (0 : Int32)), (.ref b46)])) rfl (hb hby at_153) t k) ?_
    show own_R p.tables e below P (T52.setTop (mkF m 156 #[.val (.int p0), .val (.long p1), .second, .val (.long p2), .second, .val (.long p3), .second, .val (.int (2 : Int32)), .val (.long (p1 &&& (9223372036854775807 : Int64))), .second, .val (.long (p2 &&& (9223372036854775807 : Int64))), .second, .val (.long (p3 &&& (9223372036854775807 : Int64))), .second, .val (.ref b46), .val (.ref o52)] [(.long (-1 : Int64)), (.long (p1 &&& (9223372036854775807 : Int64))), (.int (0 : Int32)), (.ref b46)]))
    refine own_fwd (fun t k => XS.lxor X52.here hx rfl (hb hby at_156) rfl k) ?_
    show own_R p.tables e below P (T52.setTop (mkF m 157 #[.val (.int p0), .val (.long p1), .second, .val (.long p2), .second, .val (.long p3), .second, .val (.int (2 : Int32)), .val (.long (p1 &&& (9223372036854775807 : Int64))), .second, .val (.long (p2 &&& (9223372036854775807 : Int64))), .second, .val (.long (p3 &&& (9223372036854775807 : Int64))), .second, .val (.ref b46), .val (.ref o52)] [(.long ((p1 &&& (9223372036854775807 : Int64)) ^^^ (-1 : Int64))), (.int (0 : Int32)), (.ref b46)]))
    obtain ⟨T62, h62, X62, e62, W62, A62_, st62⟩ := own_stJ X52 hx hZ e52 A50__x52 (j := (0 : Int32)) 0 (by decide) (by decide) (g := (mkF m 157 #[.val (.int p0), .val (.long p1), .second, .val (.long p2), .second, .val (.long p3), .second, .val (.int (2 : Int32)), .val (.long (p1 &&& (9223372036854775807 : Int64))), .second, .val (.long (p2 &&& (9223372036854775807 : Int64))), .second, .val (.long (p3 &&& (9223372036854775807 : Int64))), .second, .val (.ref b46), .val (.ref o52)] [(.long ((p1 &&& (9223372036854775807 : Int64)) ^^^ (-1 : Int64))), (.int (0 : Int32)), (.ref b46)])) rfl rfl (hb hby at_157)
    have B46_x62 := B46_x52.wr W62
    have A52__x62 := A52_.other W62 (Ne.symm ne52_b46)
    have N62 := Fr.snoc X62 N52 ge_b46
    have Z62 : n0 ≤ h62.size := by rw [W62.size]; exact Z52
    have Y62 : h0.size ≤ h62.size := by rw [W62.size]; exact Y52
    refine own_fwd st62 ?_
    show own_R p.tables e below P (T62.setTop (mkF m 158 #[.val (.int p0), .val (.long p1), .second, .val (.long p2), .second, .val (.long p3), .second, .val (.int (2 : Int32)), .val (.long (p1 &&& (9223372036854775807 : Int64))), .second, .val (.long (p2 &&& (9223372036854775807 : Int64))), .second, .val (.long (p3 &&& (9223372036854775807 : Int64))), .second, .val (.ref b46), .val (.ref o52)] []))
    refine own_fwd (fun t k => XS.iload X62.here hx rfl (hb hby at_158) rfl k) ?_
    show own_R p.tables e below P (T62.setTop (mkF m 160 #[.val (.int p0), .val (.long p1), .second, .val (.long p2), .second, .val (.long p3), .second, .val (.int (2 : Int32)), .val (.long (p1 &&& (9223372036854775807 : Int64))), .second, .val (.long (p2 &&& (9223372036854775807 : Int64))), .second, .val (.long (p3 &&& (9223372036854775807 : Int64))), .second, .val (.ref b46), .val (.ref o52)] [(.int (2 : Int32))]))
    refine own_fwd (fun t k => XS.iconst X62.here hx rfl (hb hby at_160) k) ?_
    show own_R p.tables e below P (T62.setTop (mkF m 161 #[.val (.int p0), .val (.long p1), .second, .val (.long p2), .second, .val (.long p3), .second, .val (.int (2 : Int32)), .val (.long (p1 &&& (9223372036854775807 : Int64))), .second, .val (.long (p2 &&& (9223372036854775807 : Int64))), .second, .val (.long (p3 &&& (9223372036854775807 : Int64))), .second, .val (.ref b46), .val (.ref o52)] [(.int (1 : Int32)), (.int (2 : Int32))]))
    have hc63 : (1 : Int32) < (2 : Int32) := (by decide)
    refine own_fwd (fun t k => XS.icmpNo X62.here hx rfl (hb hby at_161) rfl (tlt hc63).2.2.2 k) ?_
    show own_R p.tables e below P (T62.setTop (mkF m 164 #[.val (.int p0), .val (.long p1), .second, .val (.long p2), .second, .val (.long p3), .second, .val (.int (2 : Int32)), .val (.long (p1 &&& (9223372036854775807 : Int64))), .second, .val (.long (p2 &&& (9223372036854775807 : Int64))), .second, .val (.long (p3 &&& (9223372036854775807 : Int64))), .second, .val (.ref b46), .val (.ref o52)] []))
    refine own_fwd (fun t k => XS.aload X62.here hx rfl (hb hby at_164) rfl rfl k) ?_
    show own_R p.tables e below P (T62.setTop (mkF m 166 #[.val (.int p0), .val (.long p1), .second, .val (.long p2), .second, .val (.long p3), .second, .val (.int (2 : Int32)), .val (.long (p1 &&& (9223372036854775807 : Int64))), .second, .val (.long (p2 &&& (9223372036854775807 : Int64))), .second, .val (.long (p3 &&& (9223372036854775807 : Int64))), .second, .val (.ref b46), .val (.ref o52)] [(.ref b46)]))
    refine own_fwd (fun t k => XS.iconst X62.here hx rfl (hb hby at_166) k) ?_
    show own_R p.tables e below P (T62.setTop (mkF m 167 #[.val (.int p0), .val (.long p1), .second, .val (.long p2), .second, .val (.long p3), .second, .val (.int (2 : Int32)), .val (.long (p1 &&& (9223372036854775807 : Int64))), .second, .val (.long (p2 &&& (9223372036854775807 : Int64))), .second, .val (.long (p3 &&& (9223372036854775807 : Int64))), .second, .val (.ref b46), .val (.ref o52)] [(.int (1 : Int32)), (.ref b46)]))
    refine own_fwd (fun t k => XS.lload X62.here hx rfl (hb hby at_167) rfl k) ?_
    show own_R p.tables e below P (T62.setTop (mkF m 169 #[.val (.int p0), .val (.long p1), .second, .val (.long p2), .second, .val (.long p3), .second, .val (.int (2 : Int32)), .val (.long (p1 &&& (9223372036854775807 : Int64))), .second, .val (.long (p2 &&& (9223372036854775807 : Int64))), .second, .val (.long (p3 &&& (9223372036854775807 : Int64))), .second, .val (.ref b46), .val (.ref o52)] [(.long (p2 &&& (9223372036854775807 : Int64))), (.int (1 : Int32)), (.ref b46)]))
    refine own_fwd (fun t k => X62.ldc2Long hx hown (mvT hZ (hw _ (List.mem_of_getElem? (i := 15) rfl))) (g := (mkF m 169 #[.val (.int p0), .val (.long p1), .second, .val (.long p2), .second, .val (.long p3), .second, .val (.int (2 : Int32)), .val (.long (p1 &&& (9223372036854775807 : Int64))), .second, .val (.long (p2 &&& (9223372036854775807 : Int64))), .second, .val (.long (p3 &&& (9223372036854775807 : Int64))), .second, .val (.ref b46), .val (.ref o52)] [(.long (p2 &&& (9223372036854775807 : Int64))), (.int (1 : Int32)), (.ref b46)])) rfl (hb hby at_169) t k) ?_
    show own_R p.tables e below P (T62.setTop (mkF m 172 #[.val (.int p0), .val (.long p1), .second, .val (.long p2), .second, .val (.long p3), .second, .val (.int (2 : Int32)), .val (.long (p1 &&& (9223372036854775807 : Int64))), .second, .val (.long (p2 &&& (9223372036854775807 : Int64))), .second, .val (.long (p3 &&& (9223372036854775807 : Int64))), .second, .val (.ref b46), .val (.ref o52)] [(.long (-1 : Int64)), (.long (p2 &&& (9223372036854775807 : Int64))), (.int (1 : Int32)), (.ref b46)]))
    refine own_fwd (fun t k => XS.lxor X62.here hx rfl (hb hby at_172) rfl k) ?_
    show own_R p.tables e below P (T62.setTop (mkF m 173 #[.val (.int p0), .val (.long p1), .second, .val (.long p2), .second, .val (.long p3), .second, .val (.int (2 : Int32)), .val (.long (p1 &&& (9223372036854775807 : Int64))), .second, .val (.long (p2 &&& (9223372036854775807 : Int64))), .second, .val (.long (p3 &&& (9223372036854775807 : Int64))), .second, .val (.ref b46), .val (.ref o52)] [(.long ((p2 &&& (9223372036854775807 : Int64)) ^^^ (-1 : Int64))), (.int (1 : Int32)), (.ref b46)]))
    obtain ⟨T64, h64, X64, e64, W64, A64_, st64⟩ := own_stJ X62 hx hZ e62 A62_ (j := (1 : Int32)) 1 (by decide) (by decide) (g := (mkF m 173 #[.val (.int p0), .val (.long p1), .second, .val (.long p2), .second, .val (.long p3), .second, .val (.int (2 : Int32)), .val (.long (p1 &&& (9223372036854775807 : Int64))), .second, .val (.long (p2 &&& (9223372036854775807 : Int64))), .second, .val (.long (p3 &&& (9223372036854775807 : Int64))), .second, .val (.ref b46), .val (.ref o52)] [(.long ((p2 &&& (9223372036854775807 : Int64)) ^^^ (-1 : Int64))), (.int (1 : Int32)), (.ref b46)])) rfl rfl (hb hby at_173)
    have B46_x64 := B46_x62.wr W64
    have A52__x64 := A52__x62.other W64 (Ne.symm ne52_b46)
    have N64 := Fr.snoc X64 N62 ge_b46
    have Z64 : n0 ≤ h64.size := by rw [W64.size]; exact Z62
    have Y64 : h0.size ≤ h64.size := by rw [W64.size]; exact Y62
    refine own_fwd st64 ?_
    show own_R p.tables e below P (T64.setTop (mkF m 174 #[.val (.int p0), .val (.long p1), .second, .val (.long p2), .second, .val (.long p3), .second, .val (.int (2 : Int32)), .val (.long (p1 &&& (9223372036854775807 : Int64))), .second, .val (.long (p2 &&& (9223372036854775807 : Int64))), .second, .val (.long (p3 &&& (9223372036854775807 : Int64))), .second, .val (.ref b46), .val (.ref o52)] []))
    refine own_fwd (fun t k => XS.iload X64.here hx rfl (hb hby at_174) rfl k) ?_
    show own_R p.tables e below P (T64.setTop (mkF m 176 #[.val (.int p0), .val (.long p1), .second, .val (.long p2), .second, .val (.long p3), .second, .val (.int (2 : Int32)), .val (.long (p1 &&& (9223372036854775807 : Int64))), .second, .val (.long (p2 &&& (9223372036854775807 : Int64))), .second, .val (.long (p3 &&& (9223372036854775807 : Int64))), .second, .val (.ref b46), .val (.ref o52)] [(.int (2 : Int32))]))
    refine own_fwd (fun t k => XS.iconst X64.here hx rfl (hb hby at_176) k) ?_
    show own_R p.tables e below P (T64.setTop (mkF m 177 #[.val (.int p0), .val (.long p1), .second, .val (.long p2), .second, .val (.long p3), .second, .val (.int (2 : Int32)), .val (.long (p1 &&& (9223372036854775807 : Int64))), .second, .val (.long (p2 &&& (9223372036854775807 : Int64))), .second, .val (.long (p3 &&& (9223372036854775807 : Int64))), .second, .val (.ref b46), .val (.ref o52)] [(.int (2 : Int32)), (.int (2 : Int32))]))
    have hc65 : ¬ ((2 : Int32) < (2 : Int32)) := (by decide)
    refine own_fwd (fun t k => XS.icmpYes X64.here hx rfl (pc0 := 177) (pc' := 190) rfl (hb hby at_177) rfl (flt hc65).2.2.2 (by decide) (by decide) k) ?_
    show own_R p.tables e below P (T64.setTop (mkF m 190 #[.val (.int p0), .val (.long p1), .second, .val (.long p2), .second, .val (.long p3), .second, .val (.int (2 : Int32)), .val (.long (p1 &&& (9223372036854775807 : Int64))), .second, .val (.long (p2 &&& (9223372036854775807 : Int64))), .second, .val (.long (p3 &&& (9223372036854775807 : Int64))), .second, .val (.ref b46), .val (.ref o52)] []))
    refine own_fwd (fun t k => XS.iload X64.here hx rfl (hb hby at_190) rfl k) ?_
    show own_R p.tables e below P (T64.setTop (mkF m 192 #[.val (.int p0), .val (.long p1), .second, .val (.long p2), .second, .val (.long p3), .second, .val (.int (2 : Int32)), .val (.long (p1 &&& (9223372036854775807 : Int64))), .second, .val (.long (p2 &&& (9223372036854775807 : Int64))), .second, .val (.long (p3 &&& (9223372036854775807 : Int64))), .second, .val (.ref b46), .val (.ref o52)] [(.int (2 : Int32))]))
    have hc66 : (0 : Int32) < (2 : Int32) := (by decide)
    refine own_fwd (fun t k => XS.ifNo X64.here hx rfl (hb hby at_192) rfl ((if0 _ _).trans (tlt hc66).2.2.2) k) ?_
    show own_R p.tables e below P (T64.setTop (mkF m 195 #[.val (.int p0), .val (.long p1), .second, .val (.long p2), .second, .val (.long p3), .second, .val (.int (2 : Int32)), .val (.long (p1 &&& (9223372036854775807 : Int64))), .second, .val (.long (p2 &&& (9223372036854775807 : Int64))), .second, .val (.long (p3 &&& (9223372036854775807 : Int64))), .second, .val (.ref b46), .val (.ref o52)] []))
    refine own_fwd (fun t k => XS.aload X64.here hx rfl (hb hby at_195) rfl rfl k) ?_
    show own_R p.tables e below P (T64.setTop (mkF m 197 #[.val (.int p0), .val (.long p1), .second, .val (.long p2), .second, .val (.long p3), .second, .val (.int (2 : Int32)), .val (.long (p1 &&& (9223372036854775807 : Int64))), .second, .val (.long (p2 &&& (9223372036854775807 : Int64))), .second, .val (.long (p3 &&& (9223372036854775807 : Int64))), .second, .val (.ref b46), .val (.ref o52)] [(.ref o52)]))
    refine own_fwd (fun t k => XS.iconst X64.here hx rfl (hb hby at_197) k) ?_
    show own_R p.tables e below P (T64.setTop (mkF m 198 #[.val (.int p0), .val (.long p1), .second, .val (.long p2), .second, .val (.long p3), .second, .val (.int (2 : Int32)), .val (.long (p1 &&& (9223372036854775807 : Int64))), .second, .val (.long (p2 &&& (9223372036854775807 : Int64))), .second, .val (.long (p3 &&& (9223372036854775807 : Int64))), .second, .val (.ref b46), .val (.ref o52)] [(.int (0 : Int32)), (.ref o52)]))
    refine own_fwd (own_ldJ X64 hx hZ e64 A52__x64 (j := (0 : Int32)) 0 (by decide) (by decide) (g := (mkF m 198 #[.val (.int p0), .val (.long p1), .second, .val (.long p2), .second, .val (.long p3), .second, .val (.int (2 : Int32)), .val (.long (p1 &&& (9223372036854775807 : Int64))), .second, .val (.long (p2 &&& (9223372036854775807 : Int64))), .second, .val (.long (p3 &&& (9223372036854775807 : Int64))), .second, .val (.ref b46), .val (.ref o52)] [(.int (0 : Int32)), (.ref o52)])) rfl rfl (hb hby at_198)) ?_
    show own_R p.tables e below P (T64.setTop (mkF m 199 #[.val (.int p0), .val (.long p1), .second, .val (.long p2), .second, .val (.long p3), .second, .val (.int (2 : Int32)), .val (.long (p1 &&& (9223372036854775807 : Int64))), .second, .val (.long (p2 &&& (9223372036854775807 : Int64))), .second, .val (.long (p3 &&& (9223372036854775807 : Int64))), .second, .val (.ref b46), .val (.ref o52)] [(.long ((own_upd (own_upd (fun _ => (0 : Int64)) 0 (p1 &&& (9223372036854775807 : Int64))) 1 (p2 &&& (9223372036854775807 : Int64))) 0))]))
    have hv67 : ((own_upd (own_upd (fun _ => (0 : Int64)) 0 (p1 &&& (9223372036854775807 : Int64))) 1 (p2 &&& (9223372036854775807 : Int64))) 0) = (p1 &&& (9223372036854775807 : Int64)) := ((own_upd_miss _ _ (by decide)).trans (own_upd_hit _ _ _))
    rw [hv67]
    show own_R p.tables e below P (T64.setTop (mkF m 199 #[.val (.int p0), .val (.long p1), .second, .val (.long p2), .second, .val (.long p3), .second, .val (.int (2 : Int32)), .val (.long (p1 &&& (9223372036854775807 : Int64))), .second, .val (.long (p2 &&& (9223372036854775807 : Int64))), .second, .val (.long (p3 &&& (9223372036854775807 : Int64))), .second, .val (.ref b46), .val (.ref o52)] [(.long (p1 &&& (9223372036854775807 : Int64)))]))
    refine own_fwd (fun t k => XS.lload X64.here hx rfl (hb hby at_199) rfl k) ?_
    show own_R p.tables e below P (T64.setTop (mkF m 201 #[.val (.int p0), .val (.long p1), .second, .val (.long p2), .second, .val (.long p3), .second, .val (.int (2 : Int32)), .val (.long (p1 &&& (9223372036854775807 : Int64))), .second, .val (.long (p2 &&& (9223372036854775807 : Int64))), .second, .val (.long (p3 &&& (9223372036854775807 : Int64))), .second, .val (.ref b46), .val (.ref o52)] [(.long (p1 &&& (9223372036854775807 : Int64))), (.long (p1 &&& (9223372036854775807 : Int64)))]))
    refine own_fwd (fun t k => XS.lcmp X64.here hx rfl (hb hby at_201) rfl k) ?_
    show own_R p.tables e below P (T64.setTop (mkF m 202 #[.val (.int p0), .val (.long p1), .second, .val (.long p2), .second, .val (.long p3), .second, .val (.int (2 : Int32)), .val (.long (p1 &&& (9223372036854775807 : Int64))), .second, .val (.long (p2 &&& (9223372036854775807 : Int64))), .second, .val (.long (p3 &&& (9223372036854775807 : Int64))), .second, .val (.ref b46), .val (.ref o52)] [(.int (lcmpW (p1 &&& (9223372036854775807 : Int64)) (p1 &&& (9223372036854775807 : Int64))))]))
    have hc68 : (lcmpW (p1 &&& (9223372036854775807 : Int64)) (p1 &&& (9223372036854775807 : Int64))) = (0 : Int32) := (lw_eq _ _).mpr rfl
    refine own_fwd (fun t k => XS.ifYes X64.here hx rfl (pc0 := 202) (pc' := 207) rfl (hb hby at_202) rfl ((if0 _ _).trans (teq hc68).1) (by decide) (by decide) k) ?_
    show own_R p.tables e below P (T64.setTop (mkF m 207 #[.val (.int p0), .val (.long p1), .second, .val (.long p2), .second, .val (.long p3), .second, .val (.int (2 : Int32)), .val (.long (p1 &&& (9223372036854775807 : Int64))), .second, .val (.long (p2 &&& (9223372036854775807 : Int64))), .second, .val (.long (p3 &&& (9223372036854775807 : Int64))), .second, .val (.ref b46), .val (.ref o52)] []))
    refine own_fwd (fun t k => XS.iload X64.here hx rfl (hb hby at_207) rfl k) ?_
    show own_R p.tables e below P (T64.setTop (mkF m 209 #[.val (.int p0), .val (.long p1), .second, .val (.long p2), .second, .val (.long p3), .second, .val (.int (2 : Int32)), .val (.long (p1 &&& (9223372036854775807 : Int64))), .second, .val (.long (p2 &&& (9223372036854775807 : Int64))), .second, .val (.long (p3 &&& (9223372036854775807 : Int64))), .second, .val (.ref b46), .val (.ref o52)] [(.int (2 : Int32))]))
    refine own_fwd (fun t k => XS.iconst X64.here hx rfl (hb hby at_209) k) ?_
    show own_R p.tables e below P (T64.setTop (mkF m 210 #[.val (.int p0), .val (.long p1), .second, .val (.long p2), .second, .val (.long p3), .second, .val (.int (2 : Int32)), .val (.long (p1 &&& (9223372036854775807 : Int64))), .second, .val (.long (p2 &&& (9223372036854775807 : Int64))), .second, .val (.long (p3 &&& (9223372036854775807 : Int64))), .second, .val (.ref b46), .val (.ref o52)] [(.int (1 : Int32)), (.int (2 : Int32))]))
    have hc69 : (1 : Int32) < (2 : Int32) := (by decide)
    refine own_fwd (fun t k => XS.icmpNo X64.here hx rfl (hb hby at_210) rfl (tlt hc69).2.2.2 k) ?_
    show own_R p.tables e below P (T64.setTop (mkF m 213 #[.val (.int p0), .val (.long p1), .second, .val (.long p2), .second, .val (.long p3), .second, .val (.int (2 : Int32)), .val (.long (p1 &&& (9223372036854775807 : Int64))), .second, .val (.long (p2 &&& (9223372036854775807 : Int64))), .second, .val (.long (p3 &&& (9223372036854775807 : Int64))), .second, .val (.ref b46), .val (.ref o52)] []))
    refine own_fwd (fun t k => XS.aload X64.here hx rfl (hb hby at_213) rfl rfl k) ?_
    show own_R p.tables e below P (T64.setTop (mkF m 215 #[.val (.int p0), .val (.long p1), .second, .val (.long p2), .second, .val (.long p3), .second, .val (.int (2 : Int32)), .val (.long (p1 &&& (9223372036854775807 : Int64))), .second, .val (.long (p2 &&& (9223372036854775807 : Int64))), .second, .val (.long (p3 &&& (9223372036854775807 : Int64))), .second, .val (.ref b46), .val (.ref o52)] [(.ref o52)]))
    refine own_fwd (fun t k => XS.iconst X64.here hx rfl (hb hby at_215) k) ?_
    show own_R p.tables e below P (T64.setTop (mkF m 216 #[.val (.int p0), .val (.long p1), .second, .val (.long p2), .second, .val (.long p3), .second, .val (.int (2 : Int32)), .val (.long (p1 &&& (9223372036854775807 : Int64))), .second, .val (.long (p2 &&& (9223372036854775807 : Int64))), .second, .val (.long (p3 &&& (9223372036854775807 : Int64))), .second, .val (.ref b46), .val (.ref o52)] [(.int (1 : Int32)), (.ref o52)]))
    refine own_fwd (own_ldJ X64 hx hZ e64 A52__x64 (j := (1 : Int32)) 1 (by decide) (by decide) (g := (mkF m 216 #[.val (.int p0), .val (.long p1), .second, .val (.long p2), .second, .val (.long p3), .second, .val (.int (2 : Int32)), .val (.long (p1 &&& (9223372036854775807 : Int64))), .second, .val (.long (p2 &&& (9223372036854775807 : Int64))), .second, .val (.long (p3 &&& (9223372036854775807 : Int64))), .second, .val (.ref b46), .val (.ref o52)] [(.int (1 : Int32)), (.ref o52)])) rfl rfl (hb hby at_216)) ?_
    show own_R p.tables e below P (T64.setTop (mkF m 217 #[.val (.int p0), .val (.long p1), .second, .val (.long p2), .second, .val (.long p3), .second, .val (.int (2 : Int32)), .val (.long (p1 &&& (9223372036854775807 : Int64))), .second, .val (.long (p2 &&& (9223372036854775807 : Int64))), .second, .val (.long (p3 &&& (9223372036854775807 : Int64))), .second, .val (.ref b46), .val (.ref o52)] [(.long ((own_upd (own_upd (fun _ => (0 : Int64)) 0 (p1 &&& (9223372036854775807 : Int64))) 1 (p2 &&& (9223372036854775807 : Int64))) 1))]))
    have hv70 : ((own_upd (own_upd (fun _ => (0 : Int64)) 0 (p1 &&& (9223372036854775807 : Int64))) 1 (p2 &&& (9223372036854775807 : Int64))) 1) = (p2 &&& (9223372036854775807 : Int64)) := (own_upd_hit _ _ _)
    rw [hv70]
    show own_R p.tables e below P (T64.setTop (mkF m 217 #[.val (.int p0), .val (.long p1), .second, .val (.long p2), .second, .val (.long p3), .second, .val (.int (2 : Int32)), .val (.long (p1 &&& (9223372036854775807 : Int64))), .second, .val (.long (p2 &&& (9223372036854775807 : Int64))), .second, .val (.long (p3 &&& (9223372036854775807 : Int64))), .second, .val (.ref b46), .val (.ref o52)] [(.long (p2 &&& (9223372036854775807 : Int64)))]))
    refine own_fwd (fun t k => XS.lload X64.here hx rfl (hb hby at_217) rfl k) ?_
    show own_R p.tables e below P (T64.setTop (mkF m 219 #[.val (.int p0), .val (.long p1), .second, .val (.long p2), .second, .val (.long p3), .second, .val (.int (2 : Int32)), .val (.long (p1 &&& (9223372036854775807 : Int64))), .second, .val (.long (p2 &&& (9223372036854775807 : Int64))), .second, .val (.long (p3 &&& (9223372036854775807 : Int64))), .second, .val (.ref b46), .val (.ref o52)] [(.long (p2 &&& (9223372036854775807 : Int64))), (.long (p2 &&& (9223372036854775807 : Int64)))]))
    refine own_fwd (fun t k => XS.lcmp X64.here hx rfl (hb hby at_219) rfl k) ?_
    show own_R p.tables e below P (T64.setTop (mkF m 220 #[.val (.int p0), .val (.long p1), .second, .val (.long p2), .second, .val (.long p3), .second, .val (.int (2 : Int32)), .val (.long (p1 &&& (9223372036854775807 : Int64))), .second, .val (.long (p2 &&& (9223372036854775807 : Int64))), .second, .val (.long (p3 &&& (9223372036854775807 : Int64))), .second, .val (.ref b46), .val (.ref o52)] [(.int (lcmpW (p2 &&& (9223372036854775807 : Int64)) (p2 &&& (9223372036854775807 : Int64))))]))
    have hc71 : (lcmpW (p2 &&& (9223372036854775807 : Int64)) (p2 &&& (9223372036854775807 : Int64))) = (0 : Int32) := (lw_eq _ _).mpr rfl
    refine own_fwd (fun t k => XS.ifYes X64.here hx rfl (pc0 := 220) (pc' := 225) rfl (hb hby at_220) rfl ((if0 _ _).trans (teq hc71).1) (by decide) (by decide) k) ?_
    show own_R p.tables e below P (T64.setTop (mkF m 225 #[.val (.int p0), .val (.long p1), .second, .val (.long p2), .second, .val (.long p3), .second, .val (.int (2 : Int32)), .val (.long (p1 &&& (9223372036854775807 : Int64))), .second, .val (.long (p2 &&& (9223372036854775807 : Int64))), .second, .val (.long (p3 &&& (9223372036854775807 : Int64))), .second, .val (.ref b46), .val (.ref o52)] []))
    refine own_fwd (fun t k => XS.iload X64.here hx rfl (hb hby at_225) rfl k) ?_
    show own_R p.tables e below P (T64.setTop (mkF m 227 #[.val (.int p0), .val (.long p1), .second, .val (.long p2), .second, .val (.long p3), .second, .val (.int (2 : Int32)), .val (.long (p1 &&& (9223372036854775807 : Int64))), .second, .val (.long (p2 &&& (9223372036854775807 : Int64))), .second, .val (.long (p3 &&& (9223372036854775807 : Int64))), .second, .val (.ref b46), .val (.ref o52)] [(.int (2 : Int32))]))
    refine own_fwd (fun t k => XS.iconst X64.here hx rfl (hb hby at_227) k) ?_
    show own_R p.tables e below P (T64.setTop (mkF m 228 #[.val (.int p0), .val (.long p1), .second, .val (.long p2), .second, .val (.long p3), .second, .val (.int (2 : Int32)), .val (.long (p1 &&& (9223372036854775807 : Int64))), .second, .val (.long (p2 &&& (9223372036854775807 : Int64))), .second, .val (.long (p3 &&& (9223372036854775807 : Int64))), .second, .val (.ref b46), .val (.ref o52)] [(.int (2 : Int32)), (.int (2 : Int32))]))
    have hc72 : ¬ ((2 : Int32) < (2 : Int32)) := (by decide)
    refine own_fwd (fun t k => XS.icmpYes X64.here hx rfl (pc0 := 228) (pc' := 243) rfl (hb hby at_228) rfl (flt hc72).2.2.2 (by decide) (by decide) k) ?_
    show own_R p.tables e below P (T64.setTop (mkF m 243 #[.val (.int p0), .val (.long p1), .second, .val (.long p2), .second, .val (.long p3), .second, .val (.int (2 : Int32)), .val (.long (p1 &&& (9223372036854775807 : Int64))), .second, .val (.long (p2 &&& (9223372036854775807 : Int64))), .second, .val (.long (p3 &&& (9223372036854775807 : Int64))), .second, .val (.ref b46), .val (.ref o52)] []))
    refine own_fwd (fun t k => XS.iconst X64.here hx rfl (hb hby at_243) k) ?_
    show own_R p.tables e below P (T64.setTop (mkF m 244 #[.val (.int p0), .val (.long p1), .second, .val (.long p2), .second, .val (.long p3), .second, .val (.int (2 : Int32)), .val (.long (p1 &&& (9223372036854775807 : Int64))), .second, .val (.long (p2 &&& (9223372036854775807 : Int64))), .second, .val (.long (p3 &&& (9223372036854775807 : Int64))), .second, .val (.ref b46), .val (.ref o52)] [(.int (1 : Int32))]))
    obtain ⟨fs73, hr73, hrun73, hended73, hW73, hsame73⟩ := X64.leave (v := some (.int (1 : Int32))) (fun h => by rw [Bd.returns] at h; cases h)
    refine ⟨_, _, X64.ireturnOut hx (w := (1 : Int32)) Bd.returns rfl (by simp) (hb hby at_244) hr73, fin _ _ ⟨hrun73, hended73, _, _, rfl, ?_, ⟨_, rfl⟩, hW73, hsame73.mono (by decide) (by decide)⟩⟩
    show own_Qlaw Z p0 p1 p2 p3 h0 n0 _ T64.heap _
    rw [e64]
    exact ⟨rfl, N64⟩
  · rw [hs]
    show own_R p.tables e below P (s₁.setTop (mkF m 3 #[.val (.int p0), .val (.long p1), .second, .val (.long p2), .second, .val (.long p3), .second, .unset, .unset, .unset, .unset, .unset, .unset, .unset, .unset, .unset] [(.int (3 : Int32))]))
    refine own_fwd (fun t k => XS.istore X0.here hx rfl (hb hby at_3) rfl (l' := #[.val (.int p0), .val (.long p1), .second, .val (.long p2), .second, .val (.long p3), .second, .val (.int (3 : Int32)), .unset, .unset, .unset, .unset, .unset, .unset, .unset, .unset]) rfl k) ?_
    show own_R p.tables e below P (s₁.setTop (mkF m 5 #[.val (.int p0), .val (.long p1), .second, .val (.long p2), .second, .val (.long p3), .second, .val (.int (3 : Int32)), .unset, .unset, .unset, .unset, .unset, .unset, .unset, .unset] []))
    refine own_fwd (fun t k => XS.lloadN X0.here hx rfl (hb hby at_5) rfl k) ?_
    show own_R p.tables e below P (s₁.setTop (mkF m 6 #[.val (.int p0), .val (.long p1), .second, .val (.long p2), .second, .val (.long p3), .second, .val (.int (3 : Int32)), .unset, .unset, .unset, .unset, .unset, .unset, .unset, .unset] [(.long p1)]))
    refine own_fwd (fun t k => X0.ldc2Long hx hown (mvT hZ (hw _ (List.mem_of_getElem? (i := 0) rfl))) (g := (mkF m 6 #[.val (.int p0), .val (.long p1), .second, .val (.long p2), .second, .val (.long p3), .second, .val (.int (3 : Int32)), .unset, .unset, .unset, .unset, .unset, .unset, .unset, .unset] [(.long p1)])) rfl (hb hby at_6) t k) ?_
    show own_R p.tables e below P (s₁.setTop (mkF m 9 #[.val (.int p0), .val (.long p1), .second, .val (.long p2), .second, .val (.long p3), .second, .val (.int (3 : Int32)), .unset, .unset, .unset, .unset, .unset, .unset, .unset, .unset] [(.long (9223372036854775807 : Int64)), (.long p1)]))
    refine own_fwd (fun t k => XS.land X0.here hx rfl (hb hby at_9) rfl k) ?_
    show own_R p.tables e below P (s₁.setTop (mkF m 10 #[.val (.int p0), .val (.long p1), .second, .val (.long p2), .second, .val (.long p3), .second, .val (.int (3 : Int32)), .unset, .unset, .unset, .unset, .unset, .unset, .unset, .unset] [(.long (p1 &&& (9223372036854775807 : Int64)))]))
    refine own_fwd (fun t k => XS.lstore X0.here hx rfl (hb hby at_10) rfl (l' := #[.val (.int p0), .val (.long p1), .second, .val (.long p2), .second, .val (.long p3), .second, .val (.int (3 : Int32)), .val (.long (p1 &&& (9223372036854775807 : Int64))), .second, .unset, .unset, .unset, .unset, .unset, .unset]) rfl k) ?_
    show own_R p.tables e below P (s₁.setTop (mkF m 12 #[.val (.int p0), .val (.long p1), .second, .val (.long p2), .second, .val (.long p3), .second, .val (.int (3 : Int32)), .val (.long (p1 &&& (9223372036854775807 : Int64))), .second, .unset, .unset, .unset, .unset, .unset, .unset] []))
    refine own_fwd (fun t k => XS.lloadN X0.here hx rfl (hb hby at_12) rfl k) ?_
    show own_R p.tables e below P (s₁.setTop (mkF m 13 #[.val (.int p0), .val (.long p1), .second, .val (.long p2), .second, .val (.long p3), .second, .val (.int (3 : Int32)), .val (.long (p1 &&& (9223372036854775807 : Int64))), .second, .unset, .unset, .unset, .unset, .unset, .unset] [(.long p2)]))
    refine own_fwd (fun t k => X0.ldc2Long hx hown (mvT hZ (hw _ (List.mem_of_getElem? (i := 0) rfl))) (g := (mkF m 13 #[.val (.int p0), .val (.long p1), .second, .val (.long p2), .second, .val (.long p3), .second, .val (.int (3 : Int32)), .val (.long (p1 &&& (9223372036854775807 : Int64))), .second, .unset, .unset, .unset, .unset, .unset, .unset] [(.long p2)])) rfl (hb hby at_13) t k) ?_
    show own_R p.tables e below P (s₁.setTop (mkF m 16 #[.val (.int p0), .val (.long p1), .second, .val (.long p2), .second, .val (.long p3), .second, .val (.int (3 : Int32)), .val (.long (p1 &&& (9223372036854775807 : Int64))), .second, .unset, .unset, .unset, .unset, .unset, .unset] [(.long (9223372036854775807 : Int64)), (.long p2)]))
    refine own_fwd (fun t k => XS.land X0.here hx rfl (hb hby at_16) rfl k) ?_
    show own_R p.tables e below P (s₁.setTop (mkF m 17 #[.val (.int p0), .val (.long p1), .second, .val (.long p2), .second, .val (.long p3), .second, .val (.int (3 : Int32)), .val (.long (p1 &&& (9223372036854775807 : Int64))), .second, .unset, .unset, .unset, .unset, .unset, .unset] [(.long (p2 &&& (9223372036854775807 : Int64)))]))
    refine own_fwd (fun t k => XS.lstore X0.here hx rfl (hb hby at_17) rfl (l' := #[.val (.int p0), .val (.long p1), .second, .val (.long p2), .second, .val (.long p3), .second, .val (.int (3 : Int32)), .val (.long (p1 &&& (9223372036854775807 : Int64))), .second, .val (.long (p2 &&& (9223372036854775807 : Int64))), .second, .unset, .unset, .unset, .unset]) rfl k) ?_
    show own_R p.tables e below P (s₁.setTop (mkF m 19 #[.val (.int p0), .val (.long p1), .second, .val (.long p2), .second, .val (.long p3), .second, .val (.int (3 : Int32)), .val (.long (p1 &&& (9223372036854775807 : Int64))), .second, .val (.long (p2 &&& (9223372036854775807 : Int64))), .second, .unset, .unset, .unset, .unset] []))
    refine own_fwd (fun t k => XS.lload X0.here hx rfl (hb hby at_19) rfl k) ?_
    show own_R p.tables e below P (s₁.setTop (mkF m 21 #[.val (.int p0), .val (.long p1), .second, .val (.long p2), .second, .val (.long p3), .second, .val (.int (3 : Int32)), .val (.long (p1 &&& (9223372036854775807 : Int64))), .second, .val (.long (p2 &&& (9223372036854775807 : Int64))), .second, .unset, .unset, .unset, .unset] [(.long p3)]))
    refine own_fwd (fun t k => X0.ldc2Long hx hown (mvT hZ (hw _ (List.mem_of_getElem? (i := 0) rfl))) (g := (mkF m 21 #[.val (.int p0), .val (.long p1), .second, .val (.long p2), .second, .val (.long p3), .second, .val (.int (3 : Int32)), .val (.long (p1 &&& (9223372036854775807 : Int64))), .second, .val (.long (p2 &&& (9223372036854775807 : Int64))), .second, .unset, .unset, .unset, .unset] [(.long p3)])) rfl (hb hby at_21) t k) ?_
    show own_R p.tables e below P (s₁.setTop (mkF m 24 #[.val (.int p0), .val (.long p1), .second, .val (.long p2), .second, .val (.long p3), .second, .val (.int (3 : Int32)), .val (.long (p1 &&& (9223372036854775807 : Int64))), .second, .val (.long (p2 &&& (9223372036854775807 : Int64))), .second, .unset, .unset, .unset, .unset] [(.long (9223372036854775807 : Int64)), (.long p3)]))
    refine own_fwd (fun t k => XS.land X0.here hx rfl (hb hby at_24) rfl k) ?_
    show own_R p.tables e below P (s₁.setTop (mkF m 25 #[.val (.int p0), .val (.long p1), .second, .val (.long p2), .second, .val (.long p3), .second, .val (.int (3 : Int32)), .val (.long (p1 &&& (9223372036854775807 : Int64))), .second, .val (.long (p2 &&& (9223372036854775807 : Int64))), .second, .unset, .unset, .unset, .unset] [(.long (p3 &&& (9223372036854775807 : Int64)))]))
    refine own_fwd (fun t k => XS.lstore X0.here hx rfl (hb hby at_25) rfl (l' := #[.val (.int p0), .val (.long p1), .second, .val (.long p2), .second, .val (.long p3), .second, .val (.int (3 : Int32)), .val (.long (p1 &&& (9223372036854775807 : Int64))), .second, .val (.long (p2 &&& (9223372036854775807 : Int64))), .second, .val (.long (p3 &&& (9223372036854775807 : Int64))), .second, .unset, .unset]) rfl k) ?_
    show own_R p.tables e below P (s₁.setTop (mkF m 27 #[.val (.int p0), .val (.long p1), .second, .val (.long p2), .second, .val (.long p3), .second, .val (.int (3 : Int32)), .val (.long (p1 &&& (9223372036854775807 : Int64))), .second, .val (.long (p2 &&& (9223372036854775807 : Int64))), .second, .val (.long (p3 &&& (9223372036854775807 : Int64))), .second, .unset, .unset] []))
    refine own_fwd (fun t k => XS.iload X0.here hx rfl (hb hby at_27) rfl k) ?_
    show own_R p.tables e below P (s₁.setTop (mkF m 29 #[.val (.int p0), .val (.long p1), .second, .val (.long p2), .second, .val (.long p3), .second, .val (.int (3 : Int32)), .val (.long (p1 &&& (9223372036854775807 : Int64))), .second, .val (.long (p2 &&& (9223372036854775807 : Int64))), .second, .val (.long (p3 &&& (9223372036854775807 : Int64))), .second, .unset, .unset] [(.int (3 : Int32))]))
    obtain ⟨T74, h74, b74, g74, X74, e74, E74, A74, B74, st74⟩ := own_newA (n := 3) X0 hx hZ (hw _ (List.mem_of_getElem? (i := 1) rfl)) e0 (z := (3 : Int32)) (by decide) (cap := 3) (by decide) (g := (mkF m 29 #[.val (.int p0), .val (.long p1), .second, .val (.long p2), .second, .val (.long p3), .second, .val (.int (3 : Int32)), .val (.long (p1 &&& (9223372036854775807 : Int64))), .second, .val (.long (p2 &&& (9223372036854775807 : Int64))), .second, .val (.long (p3 &&& (9223372036854775807 : Int64))), .second, .unset, .unset] [(.int (3 : Int32))])) rfl (hb hby at_29) rfl (by decide) (by decide) (by decide) (ad := "[J") (by decide)
    have ge_b74 : n0 ≤ b74 := by rw [g74]; exact Z0
    have sz_b74 : h0.size ≤ b74 := by rw [g74]; exact (Nat.le_refl h0.size)
    have A74_ : own_AJ Z h74 b74 3 (fun _ => (0 : Int64)) := A74
    have Z74 : n0 ≤ h74.size := Nat.le_trans Z0 E74.1
    have Y74 : h0.size ≤ h74.size := Nat.le_trans (Nat.le_refl h0.size) E74.1
    refine own_fwd st74 ?_
    show own_R p.tables e below P (T74.setTop (mkF m 31 #[.val (.int p0), .val (.long p1), .second, .val (.long p2), .second, .val (.long p3), .second, .val (.int (3 : Int32)), .val (.long (p1 &&& (9223372036854775807 : Int64))), .second, .val (.long (p2 &&& (9223372036854775807 : Int64))), .second, .val (.long (p3 &&& (9223372036854775807 : Int64))), .second, .unset, .unset] [(.ref b74)]))
    refine own_fwd (fun t k => XS.astore X74.here hx rfl (hb hby at_31) rfl rfl (l' := #[.val (.int p0), .val (.long p1), .second, .val (.long p2), .second, .val (.long p3), .second, .val (.int (3 : Int32)), .val (.long (p1 &&& (9223372036854775807 : Int64))), .second, .val (.long (p2 &&& (9223372036854775807 : Int64))), .second, .val (.long (p3 &&& (9223372036854775807 : Int64))), .second, .val (.ref b74), .unset]) rfl k) ?_
    show own_R p.tables e below P (T74.setTop (mkF m 33 #[.val (.int p0), .val (.long p1), .second, .val (.long p2), .second, .val (.long p3), .second, .val (.int (3 : Int32)), .val (.long (p1 &&& (9223372036854775807 : Int64))), .second, .val (.long (p2 &&& (9223372036854775807 : Int64))), .second, .val (.long (p3 &&& (9223372036854775807 : Int64))), .second, .val (.ref b74), .unset] []))
    refine own_fwd (fun t k => XS.iload X74.here hx rfl (hb hby at_33) rfl k) ?_
    show own_R p.tables e below P (T74.setTop (mkF m 35 #[.val (.int p0), .val (.long p1), .second, .val (.long p2), .second, .val (.long p3), .second, .val (.int (3 : Int32)), .val (.long (p1 &&& (9223372036854775807 : Int64))), .second, .val (.long (p2 &&& (9223372036854775807 : Int64))), .second, .val (.long (p3 &&& (9223372036854775807 : Int64))), .second, .val (.ref b74), .unset] [(.int (3 : Int32))]))
    have hc75 : (0 : Int32) < (3 : Int32) := (by decide)
    refine own_fwd (fun t k => XS.ifNo X74.here hx rfl (hb hby at_35) rfl ((if0 _ _).trans (tlt hc75).2.2.2) k) ?_
    show own_R p.tables e below P (T74.setTop (mkF m 38 #[.val (.int p0), .val (.long p1), .second, .val (.long p2), .second, .val (.long p3), .second, .val (.int (3 : Int32)), .val (.long (p1 &&& (9223372036854775807 : Int64))), .second, .val (.long (p2 &&& (9223372036854775807 : Int64))), .second, .val (.long (p3 &&& (9223372036854775807 : Int64))), .second, .val (.ref b74), .unset] []))
    refine own_fwd (fun t k => XS.aload X74.here hx rfl (hb hby at_38) rfl rfl k) ?_
    show own_R p.tables e below P (T74.setTop (mkF m 40 #[.val (.int p0), .val (.long p1), .second, .val (.long p2), .second, .val (.long p3), .second, .val (.int (3 : Int32)), .val (.long (p1 &&& (9223372036854775807 : Int64))), .second, .val (.long (p2 &&& (9223372036854775807 : Int64))), .second, .val (.long (p3 &&& (9223372036854775807 : Int64))), .second, .val (.ref b74), .unset] [(.ref b74)]))
    refine own_fwd (fun t k => XS.iconst X74.here hx rfl (hb hby at_40) k) ?_
    show own_R p.tables e below P (T74.setTop (mkF m 41 #[.val (.int p0), .val (.long p1), .second, .val (.long p2), .second, .val (.long p3), .second, .val (.int (3 : Int32)), .val (.long (p1 &&& (9223372036854775807 : Int64))), .second, .val (.long (p2 &&& (9223372036854775807 : Int64))), .second, .val (.long (p3 &&& (9223372036854775807 : Int64))), .second, .val (.ref b74), .unset] [(.int (0 : Int32)), (.ref b74)]))
    refine own_fwd (fun t k => XS.lload X74.here hx rfl (hb hby at_41) rfl k) ?_
    show own_R p.tables e below P (T74.setTop (mkF m 43 #[.val (.int p0), .val (.long p1), .second, .val (.long p2), .second, .val (.long p3), .second, .val (.int (3 : Int32)), .val (.long (p1 &&& (9223372036854775807 : Int64))), .second, .val (.long (p2 &&& (9223372036854775807 : Int64))), .second, .val (.long (p3 &&& (9223372036854775807 : Int64))), .second, .val (.ref b74), .unset] [(.long (p1 &&& (9223372036854775807 : Int64))), (.int (0 : Int32)), (.ref b74)]))
    obtain ⟨T76, h76, X76, e76, W76, A76_, st76⟩ := own_stJ X74 hx hZ e74 A74_ (j := (0 : Int32)) 0 (by decide) (by decide) (g := (mkF m 43 #[.val (.int p0), .val (.long p1), .second, .val (.long p2), .second, .val (.long p3), .second, .val (.int (3 : Int32)), .val (.long (p1 &&& (9223372036854775807 : Int64))), .second, .val (.long (p2 &&& (9223372036854775807 : Int64))), .second, .val (.long (p3 &&& (9223372036854775807 : Int64))), .second, .val (.ref b74), .unset] [(.long (p1 &&& (9223372036854775807 : Int64))), (.int (0 : Int32)), (.ref b74)])) rfl rfl (hb hby at_43)
    have B74_x76 := B74.wr W76
    have N76 := Fr.snoc X76 N0 ge_b74
    have Z76 : n0 ≤ h76.size := by rw [W76.size]; exact Z74
    have Y76 : h0.size ≤ h76.size := by rw [W76.size]; exact Y74
    refine own_fwd st76 ?_
    show own_R p.tables e below P (T76.setTop (mkF m 44 #[.val (.int p0), .val (.long p1), .second, .val (.long p2), .second, .val (.long p3), .second, .val (.int (3 : Int32)), .val (.long (p1 &&& (9223372036854775807 : Int64))), .second, .val (.long (p2 &&& (9223372036854775807 : Int64))), .second, .val (.long (p3 &&& (9223372036854775807 : Int64))), .second, .val (.ref b74), .unset] []))
    refine own_fwd (fun t k => XS.iload X76.here hx rfl (hb hby at_44) rfl k) ?_
    show own_R p.tables e below P (T76.setTop (mkF m 46 #[.val (.int p0), .val (.long p1), .second, .val (.long p2), .second, .val (.long p3), .second, .val (.int (3 : Int32)), .val (.long (p1 &&& (9223372036854775807 : Int64))), .second, .val (.long (p2 &&& (9223372036854775807 : Int64))), .second, .val (.long (p3 &&& (9223372036854775807 : Int64))), .second, .val (.ref b74), .unset] [(.int (3 : Int32))]))
    refine own_fwd (fun t k => XS.iconst X76.here hx rfl (hb hby at_46) k) ?_
    show own_R p.tables e below P (T76.setTop (mkF m 47 #[.val (.int p0), .val (.long p1), .second, .val (.long p2), .second, .val (.long p3), .second, .val (.int (3 : Int32)), .val (.long (p1 &&& (9223372036854775807 : Int64))), .second, .val (.long (p2 &&& (9223372036854775807 : Int64))), .second, .val (.long (p3 &&& (9223372036854775807 : Int64))), .second, .val (.ref b74), .unset] [(.int (1 : Int32)), (.int (3 : Int32))]))
    have hc77 : (1 : Int32) < (3 : Int32) := (by decide)
    refine own_fwd (fun t k => XS.icmpNo X76.here hx rfl (hb hby at_47) rfl (tlt hc77).2.2.2 k) ?_
    show own_R p.tables e below P (T76.setTop (mkF m 50 #[.val (.int p0), .val (.long p1), .second, .val (.long p2), .second, .val (.long p3), .second, .val (.int (3 : Int32)), .val (.long (p1 &&& (9223372036854775807 : Int64))), .second, .val (.long (p2 &&& (9223372036854775807 : Int64))), .second, .val (.long (p3 &&& (9223372036854775807 : Int64))), .second, .val (.ref b74), .unset] []))
    refine own_fwd (fun t k => XS.aload X76.here hx rfl (hb hby at_50) rfl rfl k) ?_
    show own_R p.tables e below P (T76.setTop (mkF m 52 #[.val (.int p0), .val (.long p1), .second, .val (.long p2), .second, .val (.long p3), .second, .val (.int (3 : Int32)), .val (.long (p1 &&& (9223372036854775807 : Int64))), .second, .val (.long (p2 &&& (9223372036854775807 : Int64))), .second, .val (.long (p3 &&& (9223372036854775807 : Int64))), .second, .val (.ref b74), .unset] [(.ref b74)]))
    refine own_fwd (fun t k => XS.iconst X76.here hx rfl (hb hby at_52) k) ?_
    show own_R p.tables e below P (T76.setTop (mkF m 53 #[.val (.int p0), .val (.long p1), .second, .val (.long p2), .second, .val (.long p3), .second, .val (.int (3 : Int32)), .val (.long (p1 &&& (9223372036854775807 : Int64))), .second, .val (.long (p2 &&& (9223372036854775807 : Int64))), .second, .val (.long (p3 &&& (9223372036854775807 : Int64))), .second, .val (.ref b74), .unset] [(.int (1 : Int32)), (.ref b74)]))
    refine own_fwd (fun t k => XS.lload X76.here hx rfl (hb hby at_53) rfl k) ?_
    show own_R p.tables e below P (T76.setTop (mkF m 55 #[.val (.int p0), .val (.long p1), .second, .val (.long p2), .second, .val (.long p3), .second, .val (.int (3 : Int32)), .val (.long (p1 &&& (9223372036854775807 : Int64))), .second, .val (.long (p2 &&& (9223372036854775807 : Int64))), .second, .val (.long (p3 &&& (9223372036854775807 : Int64))), .second, .val (.ref b74), .unset] [(.long (p2 &&& (9223372036854775807 : Int64))), (.int (1 : Int32)), (.ref b74)]))
    obtain ⟨T78, h78, X78, e78, W78, A78_, st78⟩ := own_stJ X76 hx hZ e76 A76_ (j := (1 : Int32)) 1 (by decide) (by decide) (g := (mkF m 55 #[.val (.int p0), .val (.long p1), .second, .val (.long p2), .second, .val (.long p3), .second, .val (.int (3 : Int32)), .val (.long (p1 &&& (9223372036854775807 : Int64))), .second, .val (.long (p2 &&& (9223372036854775807 : Int64))), .second, .val (.long (p3 &&& (9223372036854775807 : Int64))), .second, .val (.ref b74), .unset] [(.long (p2 &&& (9223372036854775807 : Int64))), (.int (1 : Int32)), (.ref b74)])) rfl rfl (hb hby at_55)
    have B74_x78 := B74_x76.wr W78
    have N78 := Fr.snoc X78 N76 ge_b74
    have Z78 : n0 ≤ h78.size := by rw [W78.size]; exact Z76
    have Y78 : h0.size ≤ h78.size := by rw [W78.size]; exact Y76
    refine own_fwd st78 ?_
    show own_R p.tables e below P (T78.setTop (mkF m 56 #[.val (.int p0), .val (.long p1), .second, .val (.long p2), .second, .val (.long p3), .second, .val (.int (3 : Int32)), .val (.long (p1 &&& (9223372036854775807 : Int64))), .second, .val (.long (p2 &&& (9223372036854775807 : Int64))), .second, .val (.long (p3 &&& (9223372036854775807 : Int64))), .second, .val (.ref b74), .unset] []))
    refine own_fwd (fun t k => XS.iload X78.here hx rfl (hb hby at_56) rfl k) ?_
    show own_R p.tables e below P (T78.setTop (mkF m 58 #[.val (.int p0), .val (.long p1), .second, .val (.long p2), .second, .val (.long p3), .second, .val (.int (3 : Int32)), .val (.long (p1 &&& (9223372036854775807 : Int64))), .second, .val (.long (p2 &&& (9223372036854775807 : Int64))), .second, .val (.long (p3 &&& (9223372036854775807 : Int64))), .second, .val (.ref b74), .unset] [(.int (3 : Int32))]))
    refine own_fwd (fun t k => XS.iconst X78.here hx rfl (hb hby at_58) k) ?_
    show own_R p.tables e below P (T78.setTop (mkF m 59 #[.val (.int p0), .val (.long p1), .second, .val (.long p2), .second, .val (.long p3), .second, .val (.int (3 : Int32)), .val (.long (p1 &&& (9223372036854775807 : Int64))), .second, .val (.long (p2 &&& (9223372036854775807 : Int64))), .second, .val (.long (p3 &&& (9223372036854775807 : Int64))), .second, .val (.ref b74), .unset] [(.int (2 : Int32)), (.int (3 : Int32))]))
    have hc79 : (2 : Int32) < (3 : Int32) := (by decide)
    refine own_fwd (fun t k => XS.icmpNo X78.here hx rfl (hb hby at_59) rfl (tlt hc79).2.2.2 k) ?_
    show own_R p.tables e below P (T78.setTop (mkF m 62 #[.val (.int p0), .val (.long p1), .second, .val (.long p2), .second, .val (.long p3), .second, .val (.int (3 : Int32)), .val (.long (p1 &&& (9223372036854775807 : Int64))), .second, .val (.long (p2 &&& (9223372036854775807 : Int64))), .second, .val (.long (p3 &&& (9223372036854775807 : Int64))), .second, .val (.ref b74), .unset] []))
    refine own_fwd (fun t k => XS.aload X78.here hx rfl (hb hby at_62) rfl rfl k) ?_
    show own_R p.tables e below P (T78.setTop (mkF m 64 #[.val (.int p0), .val (.long p1), .second, .val (.long p2), .second, .val (.long p3), .second, .val (.int (3 : Int32)), .val (.long (p1 &&& (9223372036854775807 : Int64))), .second, .val (.long (p2 &&& (9223372036854775807 : Int64))), .second, .val (.long (p3 &&& (9223372036854775807 : Int64))), .second, .val (.ref b74), .unset] [(.ref b74)]))
    refine own_fwd (fun t k => XS.iconst X78.here hx rfl (hb hby at_64) k) ?_
    show own_R p.tables e below P (T78.setTop (mkF m 65 #[.val (.int p0), .val (.long p1), .second, .val (.long p2), .second, .val (.long p3), .second, .val (.int (3 : Int32)), .val (.long (p1 &&& (9223372036854775807 : Int64))), .second, .val (.long (p2 &&& (9223372036854775807 : Int64))), .second, .val (.long (p3 &&& (9223372036854775807 : Int64))), .second, .val (.ref b74), .unset] [(.int (2 : Int32)), (.ref b74)]))
    refine own_fwd (fun t k => XS.lload X78.here hx rfl (hb hby at_65) rfl k) ?_
    show own_R p.tables e below P (T78.setTop (mkF m 67 #[.val (.int p0), .val (.long p1), .second, .val (.long p2), .second, .val (.long p3), .second, .val (.int (3 : Int32)), .val (.long (p1 &&& (9223372036854775807 : Int64))), .second, .val (.long (p2 &&& (9223372036854775807 : Int64))), .second, .val (.long (p3 &&& (9223372036854775807 : Int64))), .second, .val (.ref b74), .unset] [(.long (p3 &&& (9223372036854775807 : Int64))), (.int (2 : Int32)), (.ref b74)]))
    obtain ⟨T80, h80, X80, e80, W80, A80_, st80⟩ := own_stJ X78 hx hZ e78 A78_ (j := (2 : Int32)) 2 (by decide) (by decide) (g := (mkF m 67 #[.val (.int p0), .val (.long p1), .second, .val (.long p2), .second, .val (.long p3), .second, .val (.int (3 : Int32)), .val (.long (p1 &&& (9223372036854775807 : Int64))), .second, .val (.long (p2 &&& (9223372036854775807 : Int64))), .second, .val (.long (p3 &&& (9223372036854775807 : Int64))), .second, .val (.ref b74), .unset] [(.long (p3 &&& (9223372036854775807 : Int64))), (.int (2 : Int32)), (.ref b74)])) rfl rfl (hb hby at_67)
    have B74_x80 := B74_x78.wr W80
    have N80 := Fr.snoc X80 N78 ge_b74
    have Z80 : n0 ≤ h80.size := by rw [W80.size]; exact Z78
    have Y80 : h0.size ≤ h80.size := by rw [W80.size]; exact Y78
    refine own_fwd st80 ?_
    show own_R p.tables e below P (T80.setTop (mkF m 68 #[.val (.int p0), .val (.long p1), .second, .val (.long p2), .second, .val (.long p3), .second, .val (.int (3 : Int32)), .val (.long (p1 &&& (9223372036854775807 : Int64))), .second, .val (.long (p2 &&& (9223372036854775807 : Int64))), .second, .val (.long (p3 &&& (9223372036854775807 : Int64))), .second, .val (.ref b74), .unset] []))
    refine own_fwd (fun t k => XS.aload X80.here hx rfl (hb hby at_68) rfl rfl k) ?_
    show own_R p.tables e below P (T80.setTop (mkF m 70 #[.val (.int p0), .val (.long p1), .second, .val (.long p2), .second, .val (.long p3), .second, .val (.int (3 : Int32)), .val (.long (p1 &&& (9223372036854775807 : Int64))), .second, .val (.long (p2 &&& (9223372036854775807 : Int64))), .second, .val (.long (p3 &&& (9223372036854775807 : Int64))), .second, .val (.ref b74), .unset] [(.ref b74)]))
    obtain ⟨_, _, ⟨T81, L81, k81, n81⟩, -, X81, ⟨Lc81, hQ81, l81, y81, z81⟩, st81⟩ := Jvm.LawKit.callS X80 hx (y := (⟨"com/example/physalia/physalia/model/Marking", "checkedCopy", "([J)[J"⟩ : MethodName)) hown (mvT hZ (hw _ (List.mem_of_getElem? (i := 2) rfl))) (mvT hZ (hw _ (List.mem_of_getElem? (i := 3) rfl))) (mvT hZ (hw _ (List.mem_of_getElem? (i := 4) rfl))) (mvT hZ (hw _ (List.mem_of_getElem? (i := 5) rfl))) (by decide) (backOf (W := 0) (own_rm1 l Z a0 hw [] b74 3 (own_upd (own_upd (own_upd (fun _ => (0 : Int64)) 0 (p1 &&& (9223372036854775807 : Int64))) 1 (p2 &&& (9223372036854775807 : Int64))) 2 (p3 &&& (9223372036854775807 : Int64))) h80 n0 Z80 A80_ B74_x80 (by decide) (fun i hi => by
          have e1 : (0 : Int64).toInt = 0 := rfl
          have h1 := (c_andSL p1 9223372036854775807).2.2 (by decide)
          have h2 := (c_andSL p2 9223372036854775807).2.2 (by decide)
          have h3 := (c_andSL p3 9223372036854775807).2.2 (by decide)
          rcases (by omega : i = 0 ∨ i = 1 ∨ i = 2) with rfl | rfl | rfl <;> (first | exact fun q => by rw [Int64.lt_iff_toInt_lt] at q; have q' := e1 ▸ q; revert q'; first | exact fun q' => absurd h1 (Int.not_le.mpr q') | exact fun q' => absurd h2 (Int.not_le.mpr q') | exact fun q' => absurd h3 (Int.not_le.mpr q')))) hZ (hw _ (List.mem_of_getElem? (i := 5) rfl)) (hw _ (List.mem_of_getElem? (i := 4) rfl)) (by decide) (by decide)) (g := (mkF m 70 #[.val (.int p0), .val (.long p1), .second, .val (.long p2), .second, .val (.long p3), .second, .val (.int (3 : Int32)), .val (.long (p1 &&& (9223372036854775807 : Int64))), .second, .val (.long (p2 &&& (9223372036854775807 : Int64))), .second, .val (.long (p3 &&& (9223372036854775807 : Int64))), .second, .val (.ref b74), .unset] [(.ref b74)])) rfl (by rw [hml]; rfl) (argsL := [(.ref b74)]) (rest := []) (lenOf own_pd0 rfl) rfl (by show 2 * 0 + _ ≤ _; exact Nat.le_of_eq rfl) (hb hby at_70) (fun _ _ => ⟨rfl, e80, (by decide : 1 + 1 ≤ _), (by decide : 3 + 3 ≤ _)⟩)
    dsimp only [Pt.U, Pt.locs, Pt.cells, Pt.slots] at X81 l81 y81 z81 st81 hQ81
    subst l81 y81 z81
    obtain ⟨h81, e81⟩ : ∃ z, T81.heap = z := ⟨_, rfl⟩
    rw [e81] at hQ81
    obtain ⟨o81, hq81, N81q, ge_o81, sq81, K81, A81_⟩ := hQ81
    subst hq81
    have N81 := Fr.app N80 N81q
    have ne81_b74 : b74 ≠ o81 := Nat.ne_of_lt (Nat.lt_of_lt_of_le A80_.lt sq81)
    have A80__x81 := A80_.keep K81 nin0
    have B74_x81 := B74_x80.keep K81
    have Z81 : n0 ≤ h81.size := Nat.le_trans Z80 K81.1
    have Y81 : h0.size ≤ h81.size := Nat.le_trans Y80 K81.1
    refine own_fwd st81 ?_
    show own_R p.tables e below P (T81.setTop (mkF m 73 #[.val (.int p0), .val (.long p1), .second, .val (.long p2), .second, .val (.long p3), .second, .val (.int (3 : Int32)), .val (.long (p1 &&& (9223372036854775807 : Int64))), .second, .val (.long (p2 &&& (9223372036854775807 : Int64))), .second, .val (.long (p3 &&& (9223372036854775807 : Int64))), .second, .val (.ref b74), .unset] [(.ref o81)]))
    refine own_fwd (fun t k => XS.astore X81.here hx rfl (hb hby at_73) rfl rfl (l' := #[.val (.int p0), .val (.long p1), .second, .val (.long p2), .second, .val (.long p3), .second, .val (.int (3 : Int32)), .val (.long (p1 &&& (9223372036854775807 : Int64))), .second, .val (.long (p2 &&& (9223372036854775807 : Int64))), .second, .val (.long (p3 &&& (9223372036854775807 : Int64))), .second, .val (.ref b74), .val (.ref o81)]) rfl k) ?_
    show own_R p.tables e below P (T81.setTop (mkF m 75 #[.val (.int p0), .val (.long p1), .second, .val (.long p2), .second, .val (.long p3), .second, .val (.int (3 : Int32)), .val (.long (p1 &&& (9223372036854775807 : Int64))), .second, .val (.long (p2 &&& (9223372036854775807 : Int64))), .second, .val (.long (p3 &&& (9223372036854775807 : Int64))), .second, .val (.ref b74), .val (.ref o81)] []))
    refine own_fwd (fun t k => XS.aload X81.here hx rfl (hb hby at_75) rfl rfl k) ?_
    show own_R p.tables e below P (T81.setTop (mkF m 77 #[.val (.int p0), .val (.long p1), .second, .val (.long p2), .second, .val (.long p3), .second, .val (.int (3 : Int32)), .val (.long (p1 &&& (9223372036854775807 : Int64))), .second, .val (.long (p2 &&& (9223372036854775807 : Int64))), .second, .val (.long (p3 &&& (9223372036854775807 : Int64))), .second, .val (.ref b74), .val (.ref o81)] [(.ref o81)]))
    refine own_fwd (fun t k => XS.ifnullNo X81.here hx rfl (hb hby at_77) rfl k) ?_
    show own_R p.tables e below P (T81.setTop (mkF m 80 #[.val (.int p0), .val (.long p1), .second, .val (.long p2), .second, .val (.long p3), .second, .val (.int (3 : Int32)), .val (.long (p1 &&& (9223372036854775807 : Int64))), .second, .val (.long (p2 &&& (9223372036854775807 : Int64))), .second, .val (.long (p3 &&& (9223372036854775807 : Int64))), .second, .val (.ref b74), .val (.ref o81)] []))
    refine own_fwd (fun t k => XS.aload X81.here hx rfl (hb hby at_80) rfl rfl k) ?_
    show own_R p.tables e below P (T81.setTop (mkF m 82 #[.val (.int p0), .val (.long p1), .second, .val (.long p2), .second, .val (.long p3), .second, .val (.int (3 : Int32)), .val (.long (p1 &&& (9223372036854775807 : Int64))), .second, .val (.long (p2 &&& (9223372036854775807 : Int64))), .second, .val (.long (p3 &&& (9223372036854775807 : Int64))), .second, .val (.ref b74), .val (.ref o81)] [(.ref o81)]))
    refine own_fwd (own_len X81 hx hZ e81 A81_ (3 : Int32) (by decide) (g := (mkF m 82 #[.val (.int p0), .val (.long p1), .second, .val (.long p2), .second, .val (.long p3), .second, .val (.int (3 : Int32)), .val (.long (p1 &&& (9223372036854775807 : Int64))), .second, .val (.long (p2 &&& (9223372036854775807 : Int64))), .second, .val (.long (p3 &&& (9223372036854775807 : Int64))), .second, .val (.ref b74), .val (.ref o81)] [(.ref o81)])) rfl rfl (hb hby at_82)) ?_
    show own_R p.tables e below P (T81.setTop (mkF m 83 #[.val (.int p0), .val (.long p1), .second, .val (.long p2), .second, .val (.long p3), .second, .val (.int (3 : Int32)), .val (.long (p1 &&& (9223372036854775807 : Int64))), .second, .val (.long (p2 &&& (9223372036854775807 : Int64))), .second, .val (.long (p3 &&& (9223372036854775807 : Int64))), .second, .val (.ref b74), .val (.ref o81)] [(.int (3 : Int32))]))
    refine own_fwd (fun t k => XS.iload X81.here hx rfl (hb hby at_83) rfl k) ?_
    show own_R p.tables e below P (T81.setTop (mkF m 85 #[.val (.int p0), .val (.long p1), .second, .val (.long p2), .second, .val (.long p3), .second, .val (.int (3 : Int32)), .val (.long (p1 &&& (9223372036854775807 : Int64))), .second, .val (.long (p2 &&& (9223372036854775807 : Int64))), .second, .val (.long (p3 &&& (9223372036854775807 : Int64))), .second, .val (.ref b74), .val (.ref o81)] [(.int (3 : Int32)), (.int (3 : Int32))]))
    have hc82 : (3 : Int32) = (3 : Int32) := (by decide)
    refine own_fwd (fun t k => XS.icmpYes X81.here hx rfl (pc0 := 85) (pc' := 90) rfl (hb hby at_85) rfl (teq hc82).1 (by decide) (by decide) k) ?_
    show own_R p.tables e below P (T81.setTop (mkF m 90 #[.val (.int p0), .val (.long p1), .second, .val (.long p2), .second, .val (.long p3), .second, .val (.int (3 : Int32)), .val (.long (p1 &&& (9223372036854775807 : Int64))), .second, .val (.long (p2 &&& (9223372036854775807 : Int64))), .second, .val (.long (p3 &&& (9223372036854775807 : Int64))), .second, .val (.ref b74), .val (.ref o81)] []))
    refine own_fwd (fun t k => XS.iload X81.here hx rfl (hb hby at_90) rfl k) ?_
    show own_R p.tables e below P (T81.setTop (mkF m 92 #[.val (.int p0), .val (.long p1), .second, .val (.long p2), .second, .val (.long p3), .second, .val (.int (3 : Int32)), .val (.long (p1 &&& (9223372036854775807 : Int64))), .second, .val (.long (p2 &&& (9223372036854775807 : Int64))), .second, .val (.long (p3 &&& (9223372036854775807 : Int64))), .second, .val (.ref b74), .val (.ref o81)] [(.int (3 : Int32))]))
    have hc83 : (0 : Int32) < (3 : Int32) := (by decide)
    refine own_fwd (fun t k => XS.ifNo X81.here hx rfl (hb hby at_92) rfl ((if0 _ _).trans (tlt hc83).2.2.2) k) ?_
    show own_R p.tables e below P (T81.setTop (mkF m 95 #[.val (.int p0), .val (.long p1), .second, .val (.long p2), .second, .val (.long p3), .second, .val (.int (3 : Int32)), .val (.long (p1 &&& (9223372036854775807 : Int64))), .second, .val (.long (p2 &&& (9223372036854775807 : Int64))), .second, .val (.long (p3 &&& (9223372036854775807 : Int64))), .second, .val (.ref b74), .val (.ref o81)] []))
    refine own_fwd (fun t k => XS.aload X81.here hx rfl (hb hby at_95) rfl rfl k) ?_
    show own_R p.tables e below P (T81.setTop (mkF m 97 #[.val (.int p0), .val (.long p1), .second, .val (.long p2), .second, .val (.long p3), .second, .val (.int (3 : Int32)), .val (.long (p1 &&& (9223372036854775807 : Int64))), .second, .val (.long (p2 &&& (9223372036854775807 : Int64))), .second, .val (.long (p3 &&& (9223372036854775807 : Int64))), .second, .val (.ref b74), .val (.ref o81)] [(.ref o81)]))
    refine own_fwd (fun t k => XS.iconst X81.here hx rfl (hb hby at_97) k) ?_
    show own_R p.tables e below P (T81.setTop (mkF m 98 #[.val (.int p0), .val (.long p1), .second, .val (.long p2), .second, .val (.long p3), .second, .val (.int (3 : Int32)), .val (.long (p1 &&& (9223372036854775807 : Int64))), .second, .val (.long (p2 &&& (9223372036854775807 : Int64))), .second, .val (.long (p3 &&& (9223372036854775807 : Int64))), .second, .val (.ref b74), .val (.ref o81)] [(.int (0 : Int32)), (.ref o81)]))
    refine own_fwd (own_ldJ X81 hx hZ e81 A81_ (j := (0 : Int32)) 0 (by decide) (by decide) (g := (mkF m 98 #[.val (.int p0), .val (.long p1), .second, .val (.long p2), .second, .val (.long p3), .second, .val (.int (3 : Int32)), .val (.long (p1 &&& (9223372036854775807 : Int64))), .second, .val (.long (p2 &&& (9223372036854775807 : Int64))), .second, .val (.long (p3 &&& (9223372036854775807 : Int64))), .second, .val (.ref b74), .val (.ref o81)] [(.int (0 : Int32)), (.ref o81)])) rfl rfl (hb hby at_98)) ?_
    show own_R p.tables e below P (T81.setTop (mkF m 99 #[.val (.int p0), .val (.long p1), .second, .val (.long p2), .second, .val (.long p3), .second, .val (.int (3 : Int32)), .val (.long (p1 &&& (9223372036854775807 : Int64))), .second, .val (.long (p2 &&& (9223372036854775807 : Int64))), .second, .val (.long (p3 &&& (9223372036854775807 : Int64))), .second, .val (.ref b74), .val (.ref o81)] [(.long ((own_upd (own_upd (own_upd (fun _ => (0 : Int64)) 0 (p1 &&& (9223372036854775807 : Int64))) 1 (p2 &&& (9223372036854775807 : Int64))) 2 (p3 &&& (9223372036854775807 : Int64))) 0))]))
    have hv84 : ((own_upd (own_upd (own_upd (fun _ => (0 : Int64)) 0 (p1 &&& (9223372036854775807 : Int64))) 1 (p2 &&& (9223372036854775807 : Int64))) 2 (p3 &&& (9223372036854775807 : Int64))) 0) = (p1 &&& (9223372036854775807 : Int64)) := ((own_upd_miss _ _ (by decide)).trans ((own_upd_miss _ _ (by decide)).trans (own_upd_hit _ _ _)))
    rw [hv84]
    show own_R p.tables e below P (T81.setTop (mkF m 99 #[.val (.int p0), .val (.long p1), .second, .val (.long p2), .second, .val (.long p3), .second, .val (.int (3 : Int32)), .val (.long (p1 &&& (9223372036854775807 : Int64))), .second, .val (.long (p2 &&& (9223372036854775807 : Int64))), .second, .val (.long (p3 &&& (9223372036854775807 : Int64))), .second, .val (.ref b74), .val (.ref o81)] [(.long (p1 &&& (9223372036854775807 : Int64)))]))
    refine own_fwd (fun t k => XS.lload X81.here hx rfl (hb hby at_99) rfl k) ?_
    show own_R p.tables e below P (T81.setTop (mkF m 101 #[.val (.int p0), .val (.long p1), .second, .val (.long p2), .second, .val (.long p3), .second, .val (.int (3 : Int32)), .val (.long (p1 &&& (9223372036854775807 : Int64))), .second, .val (.long (p2 &&& (9223372036854775807 : Int64))), .second, .val (.long (p3 &&& (9223372036854775807 : Int64))), .second, .val (.ref b74), .val (.ref o81)] [(.long (p1 &&& (9223372036854775807 : Int64))), (.long (p1 &&& (9223372036854775807 : Int64)))]))
    refine own_fwd (fun t k => XS.lcmp X81.here hx rfl (hb hby at_101) rfl k) ?_
    show own_R p.tables e below P (T81.setTop (mkF m 102 #[.val (.int p0), .val (.long p1), .second, .val (.long p2), .second, .val (.long p3), .second, .val (.int (3 : Int32)), .val (.long (p1 &&& (9223372036854775807 : Int64))), .second, .val (.long (p2 &&& (9223372036854775807 : Int64))), .second, .val (.long (p3 &&& (9223372036854775807 : Int64))), .second, .val (.ref b74), .val (.ref o81)] [(.int (lcmpW (p1 &&& (9223372036854775807 : Int64)) (p1 &&& (9223372036854775807 : Int64))))]))
    have hc85 : (lcmpW (p1 &&& (9223372036854775807 : Int64)) (p1 &&& (9223372036854775807 : Int64))) = (0 : Int32) := (lw_eq _ _).mpr rfl
    refine own_fwd (fun t k => XS.ifYes X81.here hx rfl (pc0 := 102) (pc' := 107) rfl (hb hby at_102) rfl ((if0 _ _).trans (teq hc85).1) (by decide) (by decide) k) ?_
    show own_R p.tables e below P (T81.setTop (mkF m 107 #[.val (.int p0), .val (.long p1), .second, .val (.long p2), .second, .val (.long p3), .second, .val (.int (3 : Int32)), .val (.long (p1 &&& (9223372036854775807 : Int64))), .second, .val (.long (p2 &&& (9223372036854775807 : Int64))), .second, .val (.long (p3 &&& (9223372036854775807 : Int64))), .second, .val (.ref b74), .val (.ref o81)] []))
    refine own_fwd (fun t k => XS.iload X81.here hx rfl (hb hby at_107) rfl k) ?_
    show own_R p.tables e below P (T81.setTop (mkF m 109 #[.val (.int p0), .val (.long p1), .second, .val (.long p2), .second, .val (.long p3), .second, .val (.int (3 : Int32)), .val (.long (p1 &&& (9223372036854775807 : Int64))), .second, .val (.long (p2 &&& (9223372036854775807 : Int64))), .second, .val (.long (p3 &&& (9223372036854775807 : Int64))), .second, .val (.ref b74), .val (.ref o81)] [(.int (3 : Int32))]))
    refine own_fwd (fun t k => XS.iconst X81.here hx rfl (hb hby at_109) k) ?_
    show own_R p.tables e below P (T81.setTop (mkF m 110 #[.val (.int p0), .val (.long p1), .second, .val (.long p2), .second, .val (.long p3), .second, .val (.int (3 : Int32)), .val (.long (p1 &&& (9223372036854775807 : Int64))), .second, .val (.long (p2 &&& (9223372036854775807 : Int64))), .second, .val (.long (p3 &&& (9223372036854775807 : Int64))), .second, .val (.ref b74), .val (.ref o81)] [(.int (1 : Int32)), (.int (3 : Int32))]))
    have hc86 : (1 : Int32) < (3 : Int32) := (by decide)
    refine own_fwd (fun t k => XS.icmpNo X81.here hx rfl (hb hby at_110) rfl (tlt hc86).2.2.2 k) ?_
    show own_R p.tables e below P (T81.setTop (mkF m 113 #[.val (.int p0), .val (.long p1), .second, .val (.long p2), .second, .val (.long p3), .second, .val (.int (3 : Int32)), .val (.long (p1 &&& (9223372036854775807 : Int64))), .second, .val (.long (p2 &&& (9223372036854775807 : Int64))), .second, .val (.long (p3 &&& (9223372036854775807 : Int64))), .second, .val (.ref b74), .val (.ref o81)] []))
    refine own_fwd (fun t k => XS.aload X81.here hx rfl (hb hby at_113) rfl rfl k) ?_
    show own_R p.tables e below P (T81.setTop (mkF m 115 #[.val (.int p0), .val (.long p1), .second, .val (.long p2), .second, .val (.long p3), .second, .val (.int (3 : Int32)), .val (.long (p1 &&& (9223372036854775807 : Int64))), .second, .val (.long (p2 &&& (9223372036854775807 : Int64))), .second, .val (.long (p3 &&& (9223372036854775807 : Int64))), .second, .val (.ref b74), .val (.ref o81)] [(.ref o81)]))
    refine own_fwd (fun t k => XS.iconst X81.here hx rfl (hb hby at_115) k) ?_
    show own_R p.tables e below P (T81.setTop (mkF m 116 #[.val (.int p0), .val (.long p1), .second, .val (.long p2), .second, .val (.long p3), .second, .val (.int (3 : Int32)), .val (.long (p1 &&& (9223372036854775807 : Int64))), .second, .val (.long (p2 &&& (9223372036854775807 : Int64))), .second, .val (.long (p3 &&& (9223372036854775807 : Int64))), .second, .val (.ref b74), .val (.ref o81)] [(.int (1 : Int32)), (.ref o81)]))
    refine own_fwd (own_ldJ X81 hx hZ e81 A81_ (j := (1 : Int32)) 1 (by decide) (by decide) (g := (mkF m 116 #[.val (.int p0), .val (.long p1), .second, .val (.long p2), .second, .val (.long p3), .second, .val (.int (3 : Int32)), .val (.long (p1 &&& (9223372036854775807 : Int64))), .second, .val (.long (p2 &&& (9223372036854775807 : Int64))), .second, .val (.long (p3 &&& (9223372036854775807 : Int64))), .second, .val (.ref b74), .val (.ref o81)] [(.int (1 : Int32)), (.ref o81)])) rfl rfl (hb hby at_116)) ?_
    show own_R p.tables e below P (T81.setTop (mkF m 117 #[.val (.int p0), .val (.long p1), .second, .val (.long p2), .second, .val (.long p3), .second, .val (.int (3 : Int32)), .val (.long (p1 &&& (9223372036854775807 : Int64))), .second, .val (.long (p2 &&& (9223372036854775807 : Int64))), .second, .val (.long (p3 &&& (9223372036854775807 : Int64))), .second, .val (.ref b74), .val (.ref o81)] [(.long ((own_upd (own_upd (own_upd (fun _ => (0 : Int64)) 0 (p1 &&& (9223372036854775807 : Int64))) 1 (p2 &&& (9223372036854775807 : Int64))) 2 (p3 &&& (9223372036854775807 : Int64))) 1))]))
    have hv87 : ((own_upd (own_upd (own_upd (fun _ => (0 : Int64)) 0 (p1 &&& (9223372036854775807 : Int64))) 1 (p2 &&& (9223372036854775807 : Int64))) 2 (p3 &&& (9223372036854775807 : Int64))) 1) = (p2 &&& (9223372036854775807 : Int64)) := ((own_upd_miss _ _ (by decide)).trans (own_upd_hit _ _ _))
    rw [hv87]
    show own_R p.tables e below P (T81.setTop (mkF m 117 #[.val (.int p0), .val (.long p1), .second, .val (.long p2), .second, .val (.long p3), .second, .val (.int (3 : Int32)), .val (.long (p1 &&& (9223372036854775807 : Int64))), .second, .val (.long (p2 &&& (9223372036854775807 : Int64))), .second, .val (.long (p3 &&& (9223372036854775807 : Int64))), .second, .val (.ref b74), .val (.ref o81)] [(.long (p2 &&& (9223372036854775807 : Int64)))]))
    refine own_fwd (fun t k => XS.lload X81.here hx rfl (hb hby at_117) rfl k) ?_
    show own_R p.tables e below P (T81.setTop (mkF m 119 #[.val (.int p0), .val (.long p1), .second, .val (.long p2), .second, .val (.long p3), .second, .val (.int (3 : Int32)), .val (.long (p1 &&& (9223372036854775807 : Int64))), .second, .val (.long (p2 &&& (9223372036854775807 : Int64))), .second, .val (.long (p3 &&& (9223372036854775807 : Int64))), .second, .val (.ref b74), .val (.ref o81)] [(.long (p2 &&& (9223372036854775807 : Int64))), (.long (p2 &&& (9223372036854775807 : Int64)))]))
    refine own_fwd (fun t k => XS.lcmp X81.here hx rfl (hb hby at_119) rfl k) ?_
    show own_R p.tables e below P (T81.setTop (mkF m 120 #[.val (.int p0), .val (.long p1), .second, .val (.long p2), .second, .val (.long p3), .second, .val (.int (3 : Int32)), .val (.long (p1 &&& (9223372036854775807 : Int64))), .second, .val (.long (p2 &&& (9223372036854775807 : Int64))), .second, .val (.long (p3 &&& (9223372036854775807 : Int64))), .second, .val (.ref b74), .val (.ref o81)] [(.int (lcmpW (p2 &&& (9223372036854775807 : Int64)) (p2 &&& (9223372036854775807 : Int64))))]))
    have hc88 : (lcmpW (p2 &&& (9223372036854775807 : Int64)) (p2 &&& (9223372036854775807 : Int64))) = (0 : Int32) := (lw_eq _ _).mpr rfl
    refine own_fwd (fun t k => XS.ifYes X81.here hx rfl (pc0 := 120) (pc' := 125) rfl (hb hby at_120) rfl ((if0 _ _).trans (teq hc88).1) (by decide) (by decide) k) ?_
    show own_R p.tables e below P (T81.setTop (mkF m 125 #[.val (.int p0), .val (.long p1), .second, .val (.long p2), .second, .val (.long p3), .second, .val (.int (3 : Int32)), .val (.long (p1 &&& (9223372036854775807 : Int64))), .second, .val (.long (p2 &&& (9223372036854775807 : Int64))), .second, .val (.long (p3 &&& (9223372036854775807 : Int64))), .second, .val (.ref b74), .val (.ref o81)] []))
    refine own_fwd (fun t k => XS.iload X81.here hx rfl (hb hby at_125) rfl k) ?_
    show own_R p.tables e below P (T81.setTop (mkF m 127 #[.val (.int p0), .val (.long p1), .second, .val (.long p2), .second, .val (.long p3), .second, .val (.int (3 : Int32)), .val (.long (p1 &&& (9223372036854775807 : Int64))), .second, .val (.long (p2 &&& (9223372036854775807 : Int64))), .second, .val (.long (p3 &&& (9223372036854775807 : Int64))), .second, .val (.ref b74), .val (.ref o81)] [(.int (3 : Int32))]))
    refine own_fwd (fun t k => XS.iconst X81.here hx rfl (hb hby at_127) k) ?_
    show own_R p.tables e below P (T81.setTop (mkF m 128 #[.val (.int p0), .val (.long p1), .second, .val (.long p2), .second, .val (.long p3), .second, .val (.int (3 : Int32)), .val (.long (p1 &&& (9223372036854775807 : Int64))), .second, .val (.long (p2 &&& (9223372036854775807 : Int64))), .second, .val (.long (p3 &&& (9223372036854775807 : Int64))), .second, .val (.ref b74), .val (.ref o81)] [(.int (2 : Int32)), (.int (3 : Int32))]))
    have hc89 : (2 : Int32) < (3 : Int32) := (by decide)
    refine own_fwd (fun t k => XS.icmpNo X81.here hx rfl (hb hby at_128) rfl (tlt hc89).2.2.2 k) ?_
    show own_R p.tables e below P (T81.setTop (mkF m 131 #[.val (.int p0), .val (.long p1), .second, .val (.long p2), .second, .val (.long p3), .second, .val (.int (3 : Int32)), .val (.long (p1 &&& (9223372036854775807 : Int64))), .second, .val (.long (p2 &&& (9223372036854775807 : Int64))), .second, .val (.long (p3 &&& (9223372036854775807 : Int64))), .second, .val (.ref b74), .val (.ref o81)] []))
    refine own_fwd (fun t k => XS.aload X81.here hx rfl (hb hby at_131) rfl rfl k) ?_
    show own_R p.tables e below P (T81.setTop (mkF m 133 #[.val (.int p0), .val (.long p1), .second, .val (.long p2), .second, .val (.long p3), .second, .val (.int (3 : Int32)), .val (.long (p1 &&& (9223372036854775807 : Int64))), .second, .val (.long (p2 &&& (9223372036854775807 : Int64))), .second, .val (.long (p3 &&& (9223372036854775807 : Int64))), .second, .val (.ref b74), .val (.ref o81)] [(.ref o81)]))
    refine own_fwd (fun t k => XS.iconst X81.here hx rfl (hb hby at_133) k) ?_
    show own_R p.tables e below P (T81.setTop (mkF m 134 #[.val (.int p0), .val (.long p1), .second, .val (.long p2), .second, .val (.long p3), .second, .val (.int (3 : Int32)), .val (.long (p1 &&& (9223372036854775807 : Int64))), .second, .val (.long (p2 &&& (9223372036854775807 : Int64))), .second, .val (.long (p3 &&& (9223372036854775807 : Int64))), .second, .val (.ref b74), .val (.ref o81)] [(.int (2 : Int32)), (.ref o81)]))
    refine own_fwd (own_ldJ X81 hx hZ e81 A81_ (j := (2 : Int32)) 2 (by decide) (by decide) (g := (mkF m 134 #[.val (.int p0), .val (.long p1), .second, .val (.long p2), .second, .val (.long p3), .second, .val (.int (3 : Int32)), .val (.long (p1 &&& (9223372036854775807 : Int64))), .second, .val (.long (p2 &&& (9223372036854775807 : Int64))), .second, .val (.long (p3 &&& (9223372036854775807 : Int64))), .second, .val (.ref b74), .val (.ref o81)] [(.int (2 : Int32)), (.ref o81)])) rfl rfl (hb hby at_134)) ?_
    show own_R p.tables e below P (T81.setTop (mkF m 135 #[.val (.int p0), .val (.long p1), .second, .val (.long p2), .second, .val (.long p3), .second, .val (.int (3 : Int32)), .val (.long (p1 &&& (9223372036854775807 : Int64))), .second, .val (.long (p2 &&& (9223372036854775807 : Int64))), .second, .val (.long (p3 &&& (9223372036854775807 : Int64))), .second, .val (.ref b74), .val (.ref o81)] [(.long ((own_upd (own_upd (own_upd (fun _ => (0 : Int64)) 0 (p1 &&& (9223372036854775807 : Int64))) 1 (p2 &&& (9223372036854775807 : Int64))) 2 (p3 &&& (9223372036854775807 : Int64))) 2))]))
    have hv90 : ((own_upd (own_upd (own_upd (fun _ => (0 : Int64)) 0 (p1 &&& (9223372036854775807 : Int64))) 1 (p2 &&& (9223372036854775807 : Int64))) 2 (p3 &&& (9223372036854775807 : Int64))) 2) = (p3 &&& (9223372036854775807 : Int64)) := (own_upd_hit _ _ _)
    rw [hv90]
    show own_R p.tables e below P (T81.setTop (mkF m 135 #[.val (.int p0), .val (.long p1), .second, .val (.long p2), .second, .val (.long p3), .second, .val (.int (3 : Int32)), .val (.long (p1 &&& (9223372036854775807 : Int64))), .second, .val (.long (p2 &&& (9223372036854775807 : Int64))), .second, .val (.long (p3 &&& (9223372036854775807 : Int64))), .second, .val (.ref b74), .val (.ref o81)] [(.long (p3 &&& (9223372036854775807 : Int64)))]))
    refine own_fwd (fun t k => XS.lload X81.here hx rfl (hb hby at_135) rfl k) ?_
    show own_R p.tables e below P (T81.setTop (mkF m 137 #[.val (.int p0), .val (.long p1), .second, .val (.long p2), .second, .val (.long p3), .second, .val (.int (3 : Int32)), .val (.long (p1 &&& (9223372036854775807 : Int64))), .second, .val (.long (p2 &&& (9223372036854775807 : Int64))), .second, .val (.long (p3 &&& (9223372036854775807 : Int64))), .second, .val (.ref b74), .val (.ref o81)] [(.long (p3 &&& (9223372036854775807 : Int64))), (.long (p3 &&& (9223372036854775807 : Int64)))]))
    refine own_fwd (fun t k => XS.lcmp X81.here hx rfl (hb hby at_137) rfl k) ?_
    show own_R p.tables e below P (T81.setTop (mkF m 138 #[.val (.int p0), .val (.long p1), .second, .val (.long p2), .second, .val (.long p3), .second, .val (.int (3 : Int32)), .val (.long (p1 &&& (9223372036854775807 : Int64))), .second, .val (.long (p2 &&& (9223372036854775807 : Int64))), .second, .val (.long (p3 &&& (9223372036854775807 : Int64))), .second, .val (.ref b74), .val (.ref o81)] [(.int (lcmpW (p3 &&& (9223372036854775807 : Int64)) (p3 &&& (9223372036854775807 : Int64))))]))
    have hc91 : (lcmpW (p3 &&& (9223372036854775807 : Int64)) (p3 &&& (9223372036854775807 : Int64))) = (0 : Int32) := (lw_eq _ _).mpr rfl
    refine own_fwd (fun t k => XS.ifYes X81.here hx rfl (pc0 := 138) (pc' := 143) rfl (hb hby at_138) rfl ((if0 _ _).trans (teq hc91).1) (by decide) (by decide) k) ?_
    show own_R p.tables e below P (T81.setTop (mkF m 143 #[.val (.int p0), .val (.long p1), .second, .val (.long p2), .second, .val (.long p3), .second, .val (.int (3 : Int32)), .val (.long (p1 &&& (9223372036854775807 : Int64))), .second, .val (.long (p2 &&& (9223372036854775807 : Int64))), .second, .val (.long (p3 &&& (9223372036854775807 : Int64))), .second, .val (.ref b74), .val (.ref o81)] []))
    refine own_fwd (fun t k => XS.iload X81.here hx rfl (hb hby at_143) rfl k) ?_
    show own_R p.tables e below P (T81.setTop (mkF m 145 #[.val (.int p0), .val (.long p1), .second, .val (.long p2), .second, .val (.long p3), .second, .val (.int (3 : Int32)), .val (.long (p1 &&& (9223372036854775807 : Int64))), .second, .val (.long (p2 &&& (9223372036854775807 : Int64))), .second, .val (.long (p3 &&& (9223372036854775807 : Int64))), .second, .val (.ref b74), .val (.ref o81)] [(.int (3 : Int32))]))
    have hc92 : (0 : Int32) < (3 : Int32) := (by decide)
    refine own_fwd (fun t k => XS.ifNo X81.here hx rfl (hb hby at_145) rfl ((if0 _ _).trans (tlt hc92).2.2.2) k) ?_
    show own_R p.tables e below P (T81.setTop (mkF m 148 #[.val (.int p0), .val (.long p1), .second, .val (.long p2), .second, .val (.long p3), .second, .val (.int (3 : Int32)), .val (.long (p1 &&& (9223372036854775807 : Int64))), .second, .val (.long (p2 &&& (9223372036854775807 : Int64))), .second, .val (.long (p3 &&& (9223372036854775807 : Int64))), .second, .val (.ref b74), .val (.ref o81)] []))
    refine own_fwd (fun t k => XS.aload X81.here hx rfl (hb hby at_148) rfl rfl k) ?_
    show own_R p.tables e below P (T81.setTop (mkF m 150 #[.val (.int p0), .val (.long p1), .second, .val (.long p2), .second, .val (.long p3), .second, .val (.int (3 : Int32)), .val (.long (p1 &&& (9223372036854775807 : Int64))), .second, .val (.long (p2 &&& (9223372036854775807 : Int64))), .second, .val (.long (p3 &&& (9223372036854775807 : Int64))), .second, .val (.ref b74), .val (.ref o81)] [(.ref b74)]))
    refine own_fwd (fun t k => XS.iconst X81.here hx rfl (hb hby at_150) k) ?_
    show own_R p.tables e below P (T81.setTop (mkF m 151 #[.val (.int p0), .val (.long p1), .second, .val (.long p2), .second, .val (.long p3), .second, .val (.int (3 : Int32)), .val (.long (p1 &&& (9223372036854775807 : Int64))), .second, .val (.long (p2 &&& (9223372036854775807 : Int64))), .second, .val (.long (p3 &&& (9223372036854775807 : Int64))), .second, .val (.ref b74), .val (.ref o81)] [(.int (0 : Int32)), (.ref b74)]))
    refine own_fwd (fun t k => XS.lload X81.here hx rfl (hb hby at_151) rfl k) ?_
    show own_R p.tables e below P (T81.setTop (mkF m 153 #[.val (.int p0), .val (.long p1), .second, .val (.long p2), .second, .val (.long p3), .second, .val (.int (3 : Int32)), .val (.long (p1 &&& (9223372036854775807 : Int64))), .second, .val (.long (p2 &&& (9223372036854775807 : Int64))), .second, .val (.long (p3 &&& (9223372036854775807 : Int64))), .second, .val (.ref b74), .val (.ref o81)] [(.long (p1 &&& (9223372036854775807 : Int64))), (.int (0 : Int32)), (.ref b74)]))
    refine own_fwd (fun t k => X81.ldc2Long hx hown (mvT hZ (hw _ (List.mem_of_getElem? (i := 15) rfl))) (g := (mkF m 153 #[.val (.int p0), .val (.long p1), .second, .val (.long p2), .second, .val (.long p3), .second, .val (.int (3 : Int32)), .val (.long (p1 &&& (9223372036854775807 : Int64))), .second, .val (.long (p2 &&& (9223372036854775807 : Int64))), .second, .val (.long (p3 &&& (9223372036854775807 : Int64))), .second, .val (.ref b74), .val (.ref o81)] [(.long (p1 &&& (9223372036854775807 : Int64))), (.int (0 : Int32)), (.ref b74)])) rfl (hb hby at_153) t k) ?_
    show own_R p.tables e below P (T81.setTop (mkF m 156 #[.val (.int p0), .val (.long p1), .second, .val (.long p2), .second, .val (.long p3), .second, .val (.int (3 : Int32)), .val (.long (p1 &&& (9223372036854775807 : Int64))), .second, .val (.long (p2 &&& (9223372036854775807 : Int64))), .second, .val (.long (p3 &&& (9223372036854775807 : Int64))), .second, .val (.ref b74), .val (.ref o81)] [(.long (-1 : Int64)), (.long (p1 &&& (9223372036854775807 : Int64))), (.int (0 : Int32)), (.ref b74)]))
    refine own_fwd (fun t k => XS.lxor X81.here hx rfl (hb hby at_156) rfl k) ?_
    show own_R p.tables e below P (T81.setTop (mkF m 157 #[.val (.int p0), .val (.long p1), .second, .val (.long p2), .second, .val (.long p3), .second, .val (.int (3 : Int32)), .val (.long (p1 &&& (9223372036854775807 : Int64))), .second, .val (.long (p2 &&& (9223372036854775807 : Int64))), .second, .val (.long (p3 &&& (9223372036854775807 : Int64))), .second, .val (.ref b74), .val (.ref o81)] [(.long ((p1 &&& (9223372036854775807 : Int64)) ^^^ (-1 : Int64))), (.int (0 : Int32)), (.ref b74)]))
    obtain ⟨T93, h93, X93, e93, W93, A93_, st93⟩ := own_stJ X81 hx hZ e81 A80__x81 (j := (0 : Int32)) 0 (by decide) (by decide) (g := (mkF m 157 #[.val (.int p0), .val (.long p1), .second, .val (.long p2), .second, .val (.long p3), .second, .val (.int (3 : Int32)), .val (.long (p1 &&& (9223372036854775807 : Int64))), .second, .val (.long (p2 &&& (9223372036854775807 : Int64))), .second, .val (.long (p3 &&& (9223372036854775807 : Int64))), .second, .val (.ref b74), .val (.ref o81)] [(.long ((p1 &&& (9223372036854775807 : Int64)) ^^^ (-1 : Int64))), (.int (0 : Int32)), (.ref b74)])) rfl rfl (hb hby at_157)
    have B74_x93 := B74_x81.wr W93
    have A81__x93 := A81_.other W93 (Ne.symm ne81_b74)
    have N93 := Fr.snoc X93 N81 ge_b74
    have Z93 : n0 ≤ h93.size := by rw [W93.size]; exact Z81
    have Y93 : h0.size ≤ h93.size := by rw [W93.size]; exact Y81
    refine own_fwd st93 ?_
    show own_R p.tables e below P (T93.setTop (mkF m 158 #[.val (.int p0), .val (.long p1), .second, .val (.long p2), .second, .val (.long p3), .second, .val (.int (3 : Int32)), .val (.long (p1 &&& (9223372036854775807 : Int64))), .second, .val (.long (p2 &&& (9223372036854775807 : Int64))), .second, .val (.long (p3 &&& (9223372036854775807 : Int64))), .second, .val (.ref b74), .val (.ref o81)] []))
    refine own_fwd (fun t k => XS.iload X93.here hx rfl (hb hby at_158) rfl k) ?_
    show own_R p.tables e below P (T93.setTop (mkF m 160 #[.val (.int p0), .val (.long p1), .second, .val (.long p2), .second, .val (.long p3), .second, .val (.int (3 : Int32)), .val (.long (p1 &&& (9223372036854775807 : Int64))), .second, .val (.long (p2 &&& (9223372036854775807 : Int64))), .second, .val (.long (p3 &&& (9223372036854775807 : Int64))), .second, .val (.ref b74), .val (.ref o81)] [(.int (3 : Int32))]))
    refine own_fwd (fun t k => XS.iconst X93.here hx rfl (hb hby at_160) k) ?_
    show own_R p.tables e below P (T93.setTop (mkF m 161 #[.val (.int p0), .val (.long p1), .second, .val (.long p2), .second, .val (.long p3), .second, .val (.int (3 : Int32)), .val (.long (p1 &&& (9223372036854775807 : Int64))), .second, .val (.long (p2 &&& (9223372036854775807 : Int64))), .second, .val (.long (p3 &&& (9223372036854775807 : Int64))), .second, .val (.ref b74), .val (.ref o81)] [(.int (1 : Int32)), (.int (3 : Int32))]))
    have hc94 : (1 : Int32) < (3 : Int32) := (by decide)
    refine own_fwd (fun t k => XS.icmpNo X93.here hx rfl (hb hby at_161) rfl (tlt hc94).2.2.2 k) ?_
    show own_R p.tables e below P (T93.setTop (mkF m 164 #[.val (.int p0), .val (.long p1), .second, .val (.long p2), .second, .val (.long p3), .second, .val (.int (3 : Int32)), .val (.long (p1 &&& (9223372036854775807 : Int64))), .second, .val (.long (p2 &&& (9223372036854775807 : Int64))), .second, .val (.long (p3 &&& (9223372036854775807 : Int64))), .second, .val (.ref b74), .val (.ref o81)] []))
    refine own_fwd (fun t k => XS.aload X93.here hx rfl (hb hby at_164) rfl rfl k) ?_
    show own_R p.tables e below P (T93.setTop (mkF m 166 #[.val (.int p0), .val (.long p1), .second, .val (.long p2), .second, .val (.long p3), .second, .val (.int (3 : Int32)), .val (.long (p1 &&& (9223372036854775807 : Int64))), .second, .val (.long (p2 &&& (9223372036854775807 : Int64))), .second, .val (.long (p3 &&& (9223372036854775807 : Int64))), .second, .val (.ref b74), .val (.ref o81)] [(.ref b74)]))
    refine own_fwd (fun t k => XS.iconst X93.here hx rfl (hb hby at_166) k) ?_
    show own_R p.tables e below P (T93.setTop (mkF m 167 #[.val (.int p0), .val (.long p1), .second, .val (.long p2), .second, .val (.long p3), .second, .val (.int (3 : Int32)), .val (.long (p1 &&& (9223372036854775807 : Int64))), .second, .val (.long (p2 &&& (9223372036854775807 : Int64))), .second, .val (.long (p3 &&& (9223372036854775807 : Int64))), .second, .val (.ref b74), .val (.ref o81)] [(.int (1 : Int32)), (.ref b74)]))
    refine own_fwd (fun t k => XS.lload X93.here hx rfl (hb hby at_167) rfl k) ?_
    show own_R p.tables e below P (T93.setTop (mkF m 169 #[.val (.int p0), .val (.long p1), .second, .val (.long p2), .second, .val (.long p3), .second, .val (.int (3 : Int32)), .val (.long (p1 &&& (9223372036854775807 : Int64))), .second, .val (.long (p2 &&& (9223372036854775807 : Int64))), .second, .val (.long (p3 &&& (9223372036854775807 : Int64))), .second, .val (.ref b74), .val (.ref o81)] [(.long (p2 &&& (9223372036854775807 : Int64))), (.int (1 : Int32)), (.ref b74)]))
    refine own_fwd (fun t k => X93.ldc2Long hx hown (mvT hZ (hw _ (List.mem_of_getElem? (i := 15) rfl))) (g := (mkF m 169 #[.val (.int p0), .val (.long p1), .second, .val (.long p2), .second, .val (.long p3), .second, .val (.int (3 : Int32)), .val (.long (p1 &&& (9223372036854775807 : Int64))), .second, .val (.long (p2 &&& (9223372036854775807 : Int64))), .second, .val (.long (p3 &&& (9223372036854775807 : Int64))), .second, .val (.ref b74), .val (.ref o81)] [(.long (p2 &&& (9223372036854775807 : Int64))), (.int (1 : Int32)), (.ref b74)])) rfl (hb hby at_169) t k) ?_
    show own_R p.tables e below P (T93.setTop (mkF m 172 #[.val (.int p0), .val (.long p1), .second, .val (.long p2), .second, .val (.long p3), .second, .val (.int (3 : Int32)), .val (.long (p1 &&& (9223372036854775807 : Int64))), .second, .val (.long (p2 &&& (9223372036854775807 : Int64))), .second, .val (.long (p3 &&& (9223372036854775807 : Int64))), .second, .val (.ref b74), .val (.ref o81)] [(.long (-1 : Int64)), (.long (p2 &&& (9223372036854775807 : Int64))), (.int (1 : Int32)), (.ref b74)]))
    refine own_fwd (fun t k => XS.lxor X93.here hx rfl (hb hby at_172) rfl k) ?_
    show own_R p.tables e below P (T93.setTop (mkF m 173 #[.val (.int p0), .val (.long p1), .second, .val (.long p2), .second, .val (.long p3), .second, .val (.int (3 : Int32)), .val (.long (p1 &&& (9223372036854775807 : Int64))), .second, .val (.long (p2 &&& (9223372036854775807 : Int64))), .second, .val (.long (p3 &&& (9223372036854775807 : Int64))), .second, .val (.ref b74), .val (.ref o81)] [(.long ((p2 &&& (9223372036854775807 : Int64)) ^^^ (-1 : Int64))), (.int (1 : Int32)), (.ref b74)]))
    obtain ⟨T95, h95, X95, e95, W95, A95_, st95⟩ := own_stJ X93 hx hZ e93 A93_ (j := (1 : Int32)) 1 (by decide) (by decide) (g := (mkF m 173 #[.val (.int p0), .val (.long p1), .second, .val (.long p2), .second, .val (.long p3), .second, .val (.int (3 : Int32)), .val (.long (p1 &&& (9223372036854775807 : Int64))), .second, .val (.long (p2 &&& (9223372036854775807 : Int64))), .second, .val (.long (p3 &&& (9223372036854775807 : Int64))), .second, .val (.ref b74), .val (.ref o81)] [(.long ((p2 &&& (9223372036854775807 : Int64)) ^^^ (-1 : Int64))), (.int (1 : Int32)), (.ref b74)])) rfl rfl (hb hby at_173)
    have B74_x95 := B74_x93.wr W95
    have A81__x95 := A81__x93.other W95 (Ne.symm ne81_b74)
    have N95 := Fr.snoc X95 N93 ge_b74
    have Z95 : n0 ≤ h95.size := by rw [W95.size]; exact Z93
    have Y95 : h0.size ≤ h95.size := by rw [W95.size]; exact Y93
    refine own_fwd st95 ?_
    show own_R p.tables e below P (T95.setTop (mkF m 174 #[.val (.int p0), .val (.long p1), .second, .val (.long p2), .second, .val (.long p3), .second, .val (.int (3 : Int32)), .val (.long (p1 &&& (9223372036854775807 : Int64))), .second, .val (.long (p2 &&& (9223372036854775807 : Int64))), .second, .val (.long (p3 &&& (9223372036854775807 : Int64))), .second, .val (.ref b74), .val (.ref o81)] []))
    refine own_fwd (fun t k => XS.iload X95.here hx rfl (hb hby at_174) rfl k) ?_
    show own_R p.tables e below P (T95.setTop (mkF m 176 #[.val (.int p0), .val (.long p1), .second, .val (.long p2), .second, .val (.long p3), .second, .val (.int (3 : Int32)), .val (.long (p1 &&& (9223372036854775807 : Int64))), .second, .val (.long (p2 &&& (9223372036854775807 : Int64))), .second, .val (.long (p3 &&& (9223372036854775807 : Int64))), .second, .val (.ref b74), .val (.ref o81)] [(.int (3 : Int32))]))
    refine own_fwd (fun t k => XS.iconst X95.here hx rfl (hb hby at_176) k) ?_
    show own_R p.tables e below P (T95.setTop (mkF m 177 #[.val (.int p0), .val (.long p1), .second, .val (.long p2), .second, .val (.long p3), .second, .val (.int (3 : Int32)), .val (.long (p1 &&& (9223372036854775807 : Int64))), .second, .val (.long (p2 &&& (9223372036854775807 : Int64))), .second, .val (.long (p3 &&& (9223372036854775807 : Int64))), .second, .val (.ref b74), .val (.ref o81)] [(.int (2 : Int32)), (.int (3 : Int32))]))
    have hc96 : (2 : Int32) < (3 : Int32) := (by decide)
    refine own_fwd (fun t k => XS.icmpNo X95.here hx rfl (hb hby at_177) rfl (tlt hc96).2.2.2 k) ?_
    show own_R p.tables e below P (T95.setTop (mkF m 180 #[.val (.int p0), .val (.long p1), .second, .val (.long p2), .second, .val (.long p3), .second, .val (.int (3 : Int32)), .val (.long (p1 &&& (9223372036854775807 : Int64))), .second, .val (.long (p2 &&& (9223372036854775807 : Int64))), .second, .val (.long (p3 &&& (9223372036854775807 : Int64))), .second, .val (.ref b74), .val (.ref o81)] []))
    refine own_fwd (fun t k => XS.aload X95.here hx rfl (hb hby at_180) rfl rfl k) ?_
    show own_R p.tables e below P (T95.setTop (mkF m 182 #[.val (.int p0), .val (.long p1), .second, .val (.long p2), .second, .val (.long p3), .second, .val (.int (3 : Int32)), .val (.long (p1 &&& (9223372036854775807 : Int64))), .second, .val (.long (p2 &&& (9223372036854775807 : Int64))), .second, .val (.long (p3 &&& (9223372036854775807 : Int64))), .second, .val (.ref b74), .val (.ref o81)] [(.ref b74)]))
    refine own_fwd (fun t k => XS.iconst X95.here hx rfl (hb hby at_182) k) ?_
    show own_R p.tables e below P (T95.setTop (mkF m 183 #[.val (.int p0), .val (.long p1), .second, .val (.long p2), .second, .val (.long p3), .second, .val (.int (3 : Int32)), .val (.long (p1 &&& (9223372036854775807 : Int64))), .second, .val (.long (p2 &&& (9223372036854775807 : Int64))), .second, .val (.long (p3 &&& (9223372036854775807 : Int64))), .second, .val (.ref b74), .val (.ref o81)] [(.int (2 : Int32)), (.ref b74)]))
    refine own_fwd (fun t k => XS.lload X95.here hx rfl (hb hby at_183) rfl k) ?_
    show own_R p.tables e below P (T95.setTop (mkF m 185 #[.val (.int p0), .val (.long p1), .second, .val (.long p2), .second, .val (.long p3), .second, .val (.int (3 : Int32)), .val (.long (p1 &&& (9223372036854775807 : Int64))), .second, .val (.long (p2 &&& (9223372036854775807 : Int64))), .second, .val (.long (p3 &&& (9223372036854775807 : Int64))), .second, .val (.ref b74), .val (.ref o81)] [(.long (p3 &&& (9223372036854775807 : Int64))), (.int (2 : Int32)), (.ref b74)]))
    refine own_fwd (fun t k => X95.ldc2Long hx hown (mvT hZ (hw _ (List.mem_of_getElem? (i := 15) rfl))) (g := (mkF m 185 #[.val (.int p0), .val (.long p1), .second, .val (.long p2), .second, .val (.long p3), .second, .val (.int (3 : Int32)), .val (.long (p1 &&& (9223372036854775807 : Int64))), .second, .val (.long (p2 &&& (9223372036854775807 : Int64))), .second, .val (.long (p3 &&& (9223372036854775807 : Int64))), .second, .val (.ref b74), .val (.ref o81)] [(.long (p3 &&& (9223372036854775807 : Int64))), (.int (2 : Int32)), (.ref b74)])) rfl (hb hby at_185) t k) ?_
    show own_R p.tables e below P (T95.setTop (mkF m 188 #[.val (.int p0), .val (.long p1), .second, .val (.long p2), .second, .val (.long p3), .second, .val (.int (3 : Int32)), .val (.long (p1 &&& (9223372036854775807 : Int64))), .second, .val (.long (p2 &&& (9223372036854775807 : Int64))), .second, .val (.long (p3 &&& (9223372036854775807 : Int64))), .second, .val (.ref b74), .val (.ref o81)] [(.long (-1 : Int64)), (.long (p3 &&& (9223372036854775807 : Int64))), (.int (2 : Int32)), (.ref b74)]))
    refine own_fwd (fun t k => XS.lxor X95.here hx rfl (hb hby at_188) rfl k) ?_
    show own_R p.tables e below P (T95.setTop (mkF m 189 #[.val (.int p0), .val (.long p1), .second, .val (.long p2), .second, .val (.long p3), .second, .val (.int (3 : Int32)), .val (.long (p1 &&& (9223372036854775807 : Int64))), .second, .val (.long (p2 &&& (9223372036854775807 : Int64))), .second, .val (.long (p3 &&& (9223372036854775807 : Int64))), .second, .val (.ref b74), .val (.ref o81)] [(.long ((p3 &&& (9223372036854775807 : Int64)) ^^^ (-1 : Int64))), (.int (2 : Int32)), (.ref b74)]))
    obtain ⟨T97, h97, X97, e97, W97, A97_, st97⟩ := own_stJ X95 hx hZ e95 A95_ (j := (2 : Int32)) 2 (by decide) (by decide) (g := (mkF m 189 #[.val (.int p0), .val (.long p1), .second, .val (.long p2), .second, .val (.long p3), .second, .val (.int (3 : Int32)), .val (.long (p1 &&& (9223372036854775807 : Int64))), .second, .val (.long (p2 &&& (9223372036854775807 : Int64))), .second, .val (.long (p3 &&& (9223372036854775807 : Int64))), .second, .val (.ref b74), .val (.ref o81)] [(.long ((p3 &&& (9223372036854775807 : Int64)) ^^^ (-1 : Int64))), (.int (2 : Int32)), (.ref b74)])) rfl rfl (hb hby at_189)
    have B74_x97 := B74_x95.wr W97
    have A81__x97 := A81__x95.other W97 (Ne.symm ne81_b74)
    have N97 := Fr.snoc X97 N95 ge_b74
    have Z97 : n0 ≤ h97.size := by rw [W97.size]; exact Z95
    have Y97 : h0.size ≤ h97.size := by rw [W97.size]; exact Y95
    refine own_fwd st97 ?_
    show own_R p.tables e below P (T97.setTop (mkF m 190 #[.val (.int p0), .val (.long p1), .second, .val (.long p2), .second, .val (.long p3), .second, .val (.int (3 : Int32)), .val (.long (p1 &&& (9223372036854775807 : Int64))), .second, .val (.long (p2 &&& (9223372036854775807 : Int64))), .second, .val (.long (p3 &&& (9223372036854775807 : Int64))), .second, .val (.ref b74), .val (.ref o81)] []))
    refine own_fwd (fun t k => XS.iload X97.here hx rfl (hb hby at_190) rfl k) ?_
    show own_R p.tables e below P (T97.setTop (mkF m 192 #[.val (.int p0), .val (.long p1), .second, .val (.long p2), .second, .val (.long p3), .second, .val (.int (3 : Int32)), .val (.long (p1 &&& (9223372036854775807 : Int64))), .second, .val (.long (p2 &&& (9223372036854775807 : Int64))), .second, .val (.long (p3 &&& (9223372036854775807 : Int64))), .second, .val (.ref b74), .val (.ref o81)] [(.int (3 : Int32))]))
    have hc98 : (0 : Int32) < (3 : Int32) := (by decide)
    refine own_fwd (fun t k => XS.ifNo X97.here hx rfl (hb hby at_192) rfl ((if0 _ _).trans (tlt hc98).2.2.2) k) ?_
    show own_R p.tables e below P (T97.setTop (mkF m 195 #[.val (.int p0), .val (.long p1), .second, .val (.long p2), .second, .val (.long p3), .second, .val (.int (3 : Int32)), .val (.long (p1 &&& (9223372036854775807 : Int64))), .second, .val (.long (p2 &&& (9223372036854775807 : Int64))), .second, .val (.long (p3 &&& (9223372036854775807 : Int64))), .second, .val (.ref b74), .val (.ref o81)] []))
    refine own_fwd (fun t k => XS.aload X97.here hx rfl (hb hby at_195) rfl rfl k) ?_
    show own_R p.tables e below P (T97.setTop (mkF m 197 #[.val (.int p0), .val (.long p1), .second, .val (.long p2), .second, .val (.long p3), .second, .val (.int (3 : Int32)), .val (.long (p1 &&& (9223372036854775807 : Int64))), .second, .val (.long (p2 &&& (9223372036854775807 : Int64))), .second, .val (.long (p3 &&& (9223372036854775807 : Int64))), .second, .val (.ref b74), .val (.ref o81)] [(.ref o81)]))
    refine own_fwd (fun t k => XS.iconst X97.here hx rfl (hb hby at_197) k) ?_
    show own_R p.tables e below P (T97.setTop (mkF m 198 #[.val (.int p0), .val (.long p1), .second, .val (.long p2), .second, .val (.long p3), .second, .val (.int (3 : Int32)), .val (.long (p1 &&& (9223372036854775807 : Int64))), .second, .val (.long (p2 &&& (9223372036854775807 : Int64))), .second, .val (.long (p3 &&& (9223372036854775807 : Int64))), .second, .val (.ref b74), .val (.ref o81)] [(.int (0 : Int32)), (.ref o81)]))
    refine own_fwd (own_ldJ X97 hx hZ e97 A81__x97 (j := (0 : Int32)) 0 (by decide) (by decide) (g := (mkF m 198 #[.val (.int p0), .val (.long p1), .second, .val (.long p2), .second, .val (.long p3), .second, .val (.int (3 : Int32)), .val (.long (p1 &&& (9223372036854775807 : Int64))), .second, .val (.long (p2 &&& (9223372036854775807 : Int64))), .second, .val (.long (p3 &&& (9223372036854775807 : Int64))), .second, .val (.ref b74), .val (.ref o81)] [(.int (0 : Int32)), (.ref o81)])) rfl rfl (hb hby at_198)) ?_
    show own_R p.tables e below P (T97.setTop (mkF m 199 #[.val (.int p0), .val (.long p1), .second, .val (.long p2), .second, .val (.long p3), .second, .val (.int (3 : Int32)), .val (.long (p1 &&& (9223372036854775807 : Int64))), .second, .val (.long (p2 &&& (9223372036854775807 : Int64))), .second, .val (.long (p3 &&& (9223372036854775807 : Int64))), .second, .val (.ref b74), .val (.ref o81)] [(.long ((own_upd (own_upd (own_upd (fun _ => (0 : Int64)) 0 (p1 &&& (9223372036854775807 : Int64))) 1 (p2 &&& (9223372036854775807 : Int64))) 2 (p3 &&& (9223372036854775807 : Int64))) 0))]))
    have hv99 : ((own_upd (own_upd (own_upd (fun _ => (0 : Int64)) 0 (p1 &&& (9223372036854775807 : Int64))) 1 (p2 &&& (9223372036854775807 : Int64))) 2 (p3 &&& (9223372036854775807 : Int64))) 0) = (p1 &&& (9223372036854775807 : Int64)) := ((own_upd_miss _ _ (by decide)).trans ((own_upd_miss _ _ (by decide)).trans (own_upd_hit _ _ _)))
    rw [hv99]
    show own_R p.tables e below P (T97.setTop (mkF m 199 #[.val (.int p0), .val (.long p1), .second, .val (.long p2), .second, .val (.long p3), .second, .val (.int (3 : Int32)), .val (.long (p1 &&& (9223372036854775807 : Int64))), .second, .val (.long (p2 &&& (9223372036854775807 : Int64))), .second, .val (.long (p3 &&& (9223372036854775807 : Int64))), .second, .val (.ref b74), .val (.ref o81)] [(.long (p1 &&& (9223372036854775807 : Int64)))]))
    refine own_fwd (fun t k => XS.lload X97.here hx rfl (hb hby at_199) rfl k) ?_
    show own_R p.tables e below P (T97.setTop (mkF m 201 #[.val (.int p0), .val (.long p1), .second, .val (.long p2), .second, .val (.long p3), .second, .val (.int (3 : Int32)), .val (.long (p1 &&& (9223372036854775807 : Int64))), .second, .val (.long (p2 &&& (9223372036854775807 : Int64))), .second, .val (.long (p3 &&& (9223372036854775807 : Int64))), .second, .val (.ref b74), .val (.ref o81)] [(.long (p1 &&& (9223372036854775807 : Int64))), (.long (p1 &&& (9223372036854775807 : Int64)))]))
    refine own_fwd (fun t k => XS.lcmp X97.here hx rfl (hb hby at_201) rfl k) ?_
    show own_R p.tables e below P (T97.setTop (mkF m 202 #[.val (.int p0), .val (.long p1), .second, .val (.long p2), .second, .val (.long p3), .second, .val (.int (3 : Int32)), .val (.long (p1 &&& (9223372036854775807 : Int64))), .second, .val (.long (p2 &&& (9223372036854775807 : Int64))), .second, .val (.long (p3 &&& (9223372036854775807 : Int64))), .second, .val (.ref b74), .val (.ref o81)] [(.int (lcmpW (p1 &&& (9223372036854775807 : Int64)) (p1 &&& (9223372036854775807 : Int64))))]))
    have hc100 : (lcmpW (p1 &&& (9223372036854775807 : Int64)) (p1 &&& (9223372036854775807 : Int64))) = (0 : Int32) := (lw_eq _ _).mpr rfl
    refine own_fwd (fun t k => XS.ifYes X97.here hx rfl (pc0 := 202) (pc' := 207) rfl (hb hby at_202) rfl ((if0 _ _).trans (teq hc100).1) (by decide) (by decide) k) ?_
    show own_R p.tables e below P (T97.setTop (mkF m 207 #[.val (.int p0), .val (.long p1), .second, .val (.long p2), .second, .val (.long p3), .second, .val (.int (3 : Int32)), .val (.long (p1 &&& (9223372036854775807 : Int64))), .second, .val (.long (p2 &&& (9223372036854775807 : Int64))), .second, .val (.long (p3 &&& (9223372036854775807 : Int64))), .second, .val (.ref b74), .val (.ref o81)] []))
    refine own_fwd (fun t k => XS.iload X97.here hx rfl (hb hby at_207) rfl k) ?_
    show own_R p.tables e below P (T97.setTop (mkF m 209 #[.val (.int p0), .val (.long p1), .second, .val (.long p2), .second, .val (.long p3), .second, .val (.int (3 : Int32)), .val (.long (p1 &&& (9223372036854775807 : Int64))), .second, .val (.long (p2 &&& (9223372036854775807 : Int64))), .second, .val (.long (p3 &&& (9223372036854775807 : Int64))), .second, .val (.ref b74), .val (.ref o81)] [(.int (3 : Int32))]))
    refine own_fwd (fun t k => XS.iconst X97.here hx rfl (hb hby at_209) k) ?_
    show own_R p.tables e below P (T97.setTop (mkF m 210 #[.val (.int p0), .val (.long p1), .second, .val (.long p2), .second, .val (.long p3), .second, .val (.int (3 : Int32)), .val (.long (p1 &&& (9223372036854775807 : Int64))), .second, .val (.long (p2 &&& (9223372036854775807 : Int64))), .second, .val (.long (p3 &&& (9223372036854775807 : Int64))), .second, .val (.ref b74), .val (.ref o81)] [(.int (1 : Int32)), (.int (3 : Int32))]))
    have hc101 : (1 : Int32) < (3 : Int32) := (by decide)
    refine own_fwd (fun t k => XS.icmpNo X97.here hx rfl (hb hby at_210) rfl (tlt hc101).2.2.2 k) ?_
    show own_R p.tables e below P (T97.setTop (mkF m 213 #[.val (.int p0), .val (.long p1), .second, .val (.long p2), .second, .val (.long p3), .second, .val (.int (3 : Int32)), .val (.long (p1 &&& (9223372036854775807 : Int64))), .second, .val (.long (p2 &&& (9223372036854775807 : Int64))), .second, .val (.long (p3 &&& (9223372036854775807 : Int64))), .second, .val (.ref b74), .val (.ref o81)] []))
    refine own_fwd (fun t k => XS.aload X97.here hx rfl (hb hby at_213) rfl rfl k) ?_
    show own_R p.tables e below P (T97.setTop (mkF m 215 #[.val (.int p0), .val (.long p1), .second, .val (.long p2), .second, .val (.long p3), .second, .val (.int (3 : Int32)), .val (.long (p1 &&& (9223372036854775807 : Int64))), .second, .val (.long (p2 &&& (9223372036854775807 : Int64))), .second, .val (.long (p3 &&& (9223372036854775807 : Int64))), .second, .val (.ref b74), .val (.ref o81)] [(.ref o81)]))
    refine own_fwd (fun t k => XS.iconst X97.here hx rfl (hb hby at_215) k) ?_
    show own_R p.tables e below P (T97.setTop (mkF m 216 #[.val (.int p0), .val (.long p1), .second, .val (.long p2), .second, .val (.long p3), .second, .val (.int (3 : Int32)), .val (.long (p1 &&& (9223372036854775807 : Int64))), .second, .val (.long (p2 &&& (9223372036854775807 : Int64))), .second, .val (.long (p3 &&& (9223372036854775807 : Int64))), .second, .val (.ref b74), .val (.ref o81)] [(.int (1 : Int32)), (.ref o81)]))
    refine own_fwd (own_ldJ X97 hx hZ e97 A81__x97 (j := (1 : Int32)) 1 (by decide) (by decide) (g := (mkF m 216 #[.val (.int p0), .val (.long p1), .second, .val (.long p2), .second, .val (.long p3), .second, .val (.int (3 : Int32)), .val (.long (p1 &&& (9223372036854775807 : Int64))), .second, .val (.long (p2 &&& (9223372036854775807 : Int64))), .second, .val (.long (p3 &&& (9223372036854775807 : Int64))), .second, .val (.ref b74), .val (.ref o81)] [(.int (1 : Int32)), (.ref o81)])) rfl rfl (hb hby at_216)) ?_
    show own_R p.tables e below P (T97.setTop (mkF m 217 #[.val (.int p0), .val (.long p1), .second, .val (.long p2), .second, .val (.long p3), .second, .val (.int (3 : Int32)), .val (.long (p1 &&& (9223372036854775807 : Int64))), .second, .val (.long (p2 &&& (9223372036854775807 : Int64))), .second, .val (.long (p3 &&& (9223372036854775807 : Int64))), .second, .val (.ref b74), .val (.ref o81)] [(.long ((own_upd (own_upd (own_upd (fun _ => (0 : Int64)) 0 (p1 &&& (9223372036854775807 : Int64))) 1 (p2 &&& (9223372036854775807 : Int64))) 2 (p3 &&& (9223372036854775807 : Int64))) 1))]))
    have hv102 : ((own_upd (own_upd (own_upd (fun _ => (0 : Int64)) 0 (p1 &&& (9223372036854775807 : Int64))) 1 (p2 &&& (9223372036854775807 : Int64))) 2 (p3 &&& (9223372036854775807 : Int64))) 1) = (p2 &&& (9223372036854775807 : Int64)) := ((own_upd_miss _ _ (by decide)).trans (own_upd_hit _ _ _))
    rw [hv102]
    show own_R p.tables e below P (T97.setTop (mkF m 217 #[.val (.int p0), .val (.long p1), .second, .val (.long p2), .second, .val (.long p3), .second, .val (.int (3 : Int32)), .val (.long (p1 &&& (9223372036854775807 : Int64))), .second, .val (.long (p2 &&& (9223372036854775807 : Int64))), .second, .val (.long (p3 &&& (9223372036854775807 : Int64))), .second, .val (.ref b74), .val (.ref o81)] [(.long (p2 &&& (9223372036854775807 : Int64)))]))
    refine own_fwd (fun t k => XS.lload X97.here hx rfl (hb hby at_217) rfl k) ?_
    show own_R p.tables e below P (T97.setTop (mkF m 219 #[.val (.int p0), .val (.long p1), .second, .val (.long p2), .second, .val (.long p3), .second, .val (.int (3 : Int32)), .val (.long (p1 &&& (9223372036854775807 : Int64))), .second, .val (.long (p2 &&& (9223372036854775807 : Int64))), .second, .val (.long (p3 &&& (9223372036854775807 : Int64))), .second, .val (.ref b74), .val (.ref o81)] [(.long (p2 &&& (9223372036854775807 : Int64))), (.long (p2 &&& (9223372036854775807 : Int64)))]))
    refine own_fwd (fun t k => XS.lcmp X97.here hx rfl (hb hby at_219) rfl k) ?_
    show own_R p.tables e below P (T97.setTop (mkF m 220 #[.val (.int p0), .val (.long p1), .second, .val (.long p2), .second, .val (.long p3), .second, .val (.int (3 : Int32)), .val (.long (p1 &&& (9223372036854775807 : Int64))), .second, .val (.long (p2 &&& (9223372036854775807 : Int64))), .second, .val (.long (p3 &&& (9223372036854775807 : Int64))), .second, .val (.ref b74), .val (.ref o81)] [(.int (lcmpW (p2 &&& (9223372036854775807 : Int64)) (p2 &&& (9223372036854775807 : Int64))))]))
    have hc103 : (lcmpW (p2 &&& (9223372036854775807 : Int64)) (p2 &&& (9223372036854775807 : Int64))) = (0 : Int32) := (lw_eq _ _).mpr rfl
    refine own_fwd (fun t k => XS.ifYes X97.here hx rfl (pc0 := 220) (pc' := 225) rfl (hb hby at_220) rfl ((if0 _ _).trans (teq hc103).1) (by decide) (by decide) k) ?_
    show own_R p.tables e below P (T97.setTop (mkF m 225 #[.val (.int p0), .val (.long p1), .second, .val (.long p2), .second, .val (.long p3), .second, .val (.int (3 : Int32)), .val (.long (p1 &&& (9223372036854775807 : Int64))), .second, .val (.long (p2 &&& (9223372036854775807 : Int64))), .second, .val (.long (p3 &&& (9223372036854775807 : Int64))), .second, .val (.ref b74), .val (.ref o81)] []))
    refine own_fwd (fun t k => XS.iload X97.here hx rfl (hb hby at_225) rfl k) ?_
    show own_R p.tables e below P (T97.setTop (mkF m 227 #[.val (.int p0), .val (.long p1), .second, .val (.long p2), .second, .val (.long p3), .second, .val (.int (3 : Int32)), .val (.long (p1 &&& (9223372036854775807 : Int64))), .second, .val (.long (p2 &&& (9223372036854775807 : Int64))), .second, .val (.long (p3 &&& (9223372036854775807 : Int64))), .second, .val (.ref b74), .val (.ref o81)] [(.int (3 : Int32))]))
    refine own_fwd (fun t k => XS.iconst X97.here hx rfl (hb hby at_227) k) ?_
    show own_R p.tables e below P (T97.setTop (mkF m 228 #[.val (.int p0), .val (.long p1), .second, .val (.long p2), .second, .val (.long p3), .second, .val (.int (3 : Int32)), .val (.long (p1 &&& (9223372036854775807 : Int64))), .second, .val (.long (p2 &&& (9223372036854775807 : Int64))), .second, .val (.long (p3 &&& (9223372036854775807 : Int64))), .second, .val (.ref b74), .val (.ref o81)] [(.int (2 : Int32)), (.int (3 : Int32))]))
    have hc104 : (2 : Int32) < (3 : Int32) := (by decide)
    refine own_fwd (fun t k => XS.icmpNo X97.here hx rfl (hb hby at_228) rfl (tlt hc104).2.2.2 k) ?_
    show own_R p.tables e below P (T97.setTop (mkF m 231 #[.val (.int p0), .val (.long p1), .second, .val (.long p2), .second, .val (.long p3), .second, .val (.int (3 : Int32)), .val (.long (p1 &&& (9223372036854775807 : Int64))), .second, .val (.long (p2 &&& (9223372036854775807 : Int64))), .second, .val (.long (p3 &&& (9223372036854775807 : Int64))), .second, .val (.ref b74), .val (.ref o81)] []))
    refine own_fwd (fun t k => XS.aload X97.here hx rfl (hb hby at_231) rfl rfl k) ?_
    show own_R p.tables e below P (T97.setTop (mkF m 233 #[.val (.int p0), .val (.long p1), .second, .val (.long p2), .second, .val (.long p3), .second, .val (.int (3 : Int32)), .val (.long (p1 &&& (9223372036854775807 : Int64))), .second, .val (.long (p2 &&& (9223372036854775807 : Int64))), .second, .val (.long (p3 &&& (9223372036854775807 : Int64))), .second, .val (.ref b74), .val (.ref o81)] [(.ref o81)]))
    refine own_fwd (fun t k => XS.iconst X97.here hx rfl (hb hby at_233) k) ?_
    show own_R p.tables e below P (T97.setTop (mkF m 234 #[.val (.int p0), .val (.long p1), .second, .val (.long p2), .second, .val (.long p3), .second, .val (.int (3 : Int32)), .val (.long (p1 &&& (9223372036854775807 : Int64))), .second, .val (.long (p2 &&& (9223372036854775807 : Int64))), .second, .val (.long (p3 &&& (9223372036854775807 : Int64))), .second, .val (.ref b74), .val (.ref o81)] [(.int (2 : Int32)), (.ref o81)]))
    refine own_fwd (own_ldJ X97 hx hZ e97 A81__x97 (j := (2 : Int32)) 2 (by decide) (by decide) (g := (mkF m 234 #[.val (.int p0), .val (.long p1), .second, .val (.long p2), .second, .val (.long p3), .second, .val (.int (3 : Int32)), .val (.long (p1 &&& (9223372036854775807 : Int64))), .second, .val (.long (p2 &&& (9223372036854775807 : Int64))), .second, .val (.long (p3 &&& (9223372036854775807 : Int64))), .second, .val (.ref b74), .val (.ref o81)] [(.int (2 : Int32)), (.ref o81)])) rfl rfl (hb hby at_234)) ?_
    show own_R p.tables e below P (T97.setTop (mkF m 235 #[.val (.int p0), .val (.long p1), .second, .val (.long p2), .second, .val (.long p3), .second, .val (.int (3 : Int32)), .val (.long (p1 &&& (9223372036854775807 : Int64))), .second, .val (.long (p2 &&& (9223372036854775807 : Int64))), .second, .val (.long (p3 &&& (9223372036854775807 : Int64))), .second, .val (.ref b74), .val (.ref o81)] [(.long ((own_upd (own_upd (own_upd (fun _ => (0 : Int64)) 0 (p1 &&& (9223372036854775807 : Int64))) 1 (p2 &&& (9223372036854775807 : Int64))) 2 (p3 &&& (9223372036854775807 : Int64))) 2))]))
    have hv105 : ((own_upd (own_upd (own_upd (fun _ => (0 : Int64)) 0 (p1 &&& (9223372036854775807 : Int64))) 1 (p2 &&& (9223372036854775807 : Int64))) 2 (p3 &&& (9223372036854775807 : Int64))) 2) = (p3 &&& (9223372036854775807 : Int64)) := (own_upd_hit _ _ _)
    rw [hv105]
    show own_R p.tables e below P (T97.setTop (mkF m 235 #[.val (.int p0), .val (.long p1), .second, .val (.long p2), .second, .val (.long p3), .second, .val (.int (3 : Int32)), .val (.long (p1 &&& (9223372036854775807 : Int64))), .second, .val (.long (p2 &&& (9223372036854775807 : Int64))), .second, .val (.long (p3 &&& (9223372036854775807 : Int64))), .second, .val (.ref b74), .val (.ref o81)] [(.long (p3 &&& (9223372036854775807 : Int64)))]))
    refine own_fwd (fun t k => XS.lload X97.here hx rfl (hb hby at_235) rfl k) ?_
    show own_R p.tables e below P (T97.setTop (mkF m 237 #[.val (.int p0), .val (.long p1), .second, .val (.long p2), .second, .val (.long p3), .second, .val (.int (3 : Int32)), .val (.long (p1 &&& (9223372036854775807 : Int64))), .second, .val (.long (p2 &&& (9223372036854775807 : Int64))), .second, .val (.long (p3 &&& (9223372036854775807 : Int64))), .second, .val (.ref b74), .val (.ref o81)] [(.long (p3 &&& (9223372036854775807 : Int64))), (.long (p3 &&& (9223372036854775807 : Int64)))]))
    refine own_fwd (fun t k => XS.lcmp X97.here hx rfl (hb hby at_237) rfl k) ?_
    show own_R p.tables e below P (T97.setTop (mkF m 238 #[.val (.int p0), .val (.long p1), .second, .val (.long p2), .second, .val (.long p3), .second, .val (.int (3 : Int32)), .val (.long (p1 &&& (9223372036854775807 : Int64))), .second, .val (.long (p2 &&& (9223372036854775807 : Int64))), .second, .val (.long (p3 &&& (9223372036854775807 : Int64))), .second, .val (.ref b74), .val (.ref o81)] [(.int (lcmpW (p3 &&& (9223372036854775807 : Int64)) (p3 &&& (9223372036854775807 : Int64))))]))
    have hc106 : (lcmpW (p3 &&& (9223372036854775807 : Int64)) (p3 &&& (9223372036854775807 : Int64))) = (0 : Int32) := (lw_eq _ _).mpr rfl
    refine own_fwd (fun t k => XS.ifYes X97.here hx rfl (pc0 := 238) (pc' := 243) rfl (hb hby at_238) rfl ((if0 _ _).trans (teq hc106).1) (by decide) (by decide) k) ?_
    show own_R p.tables e below P (T97.setTop (mkF m 243 #[.val (.int p0), .val (.long p1), .second, .val (.long p2), .second, .val (.long p3), .second, .val (.int (3 : Int32)), .val (.long (p1 &&& (9223372036854775807 : Int64))), .second, .val (.long (p2 &&& (9223372036854775807 : Int64))), .second, .val (.long (p3 &&& (9223372036854775807 : Int64))), .second, .val (.ref b74), .val (.ref o81)] []))
    refine own_fwd (fun t k => XS.iconst X97.here hx rfl (hb hby at_243) k) ?_
    show own_R p.tables e below P (T97.setTop (mkF m 244 #[.val (.int p0), .val (.long p1), .second, .val (.long p2), .second, .val (.long p3), .second, .val (.int (3 : Int32)), .val (.long (p1 &&& (9223372036854775807 : Int64))), .second, .val (.long (p2 &&& (9223372036854775807 : Int64))), .second, .val (.long (p3 &&& (9223372036854775807 : Int64))), .second, .val (.ref b74), .val (.ref o81)] [(.int (1 : Int32))]))
    obtain ⟨fs107, hr107, hrun107, hended107, hW107, hsame107⟩ := X97.leave (v := some (.int (1 : Int32))) (fun h => by rw [Bd.returns] at h; cases h)
    refine ⟨_, _, X97.ireturnOut hx (w := (1 : Int32)) Bd.returns rfl (by simp) (hb hby at_244) hr107, fin _ _ ⟨hrun107, hended107, _, _, rfl, ?_, ⟨_, rfl⟩, hW107, hsame107.mono (by decide) (by decide)⟩⟩
    show own_Qlaw Z p0 p1 p2 p3 h0 n0 _ T97.heap _
    rw [e97]
    exact ⟨rfl, N97⟩
set_option maxRecDepth 65536 in
set_option maxHeartbeats 40000000 in
theorem own_comes {Post : Tables → Env → Array Value → State → Outcome → State → Prop} (hpost : ∀ tb e args s v u, (limb_1_1.after args s (.returned v) u = true ∧ limb_1_2.after args s (.returned v) u = true ∧ True) → FrameEnd s (.returned v) u (Jvm.fieldLocs frame_1_writes args s ++ Jvm.arrayLocs frame_1_arrays args s ++ Jvm.staticLocs frame_1_statics s) 16 128 → Post tb e args s (.returned v) u) :
    ArmFor flags0 classFile x code maxLocals ret World_1 tables_1 room_1 Calls_1 rest_1 Pre_1 Post := by
  intro l hfl _ _ p e ha hc hk s m args below hf hA hF happ hP
  obtain ⟨hcalls, hrest, hpre⟩ := hP
  obtain ⟨-, -, -, hnamed, -, -, -, hat⟩ := (Spec.applies_iff hf).mp happ
  obtain ⟨hg, hn⟩ := and_e (Cond.before_iff.mp (show (Jvm.Cond.and given_1 narrow_1).before args s = true from hpre))
  obtain ⟨g1, g2⟩ := and_e hg
  obtain ⟨g3, g4⟩ := and_e g2
  obtain ⟨g5, g6⟩ := and_e g4
  obtain ⟨g7, g8⟩ := and_e g6
  obtain ⟨w0, w1, w2, w3, rfl⟩ : ∃ w0 w1 w2 w3 : Value, args = #[w0, w1, w2, w3] := by
    have hs : args.size = 4 := by simpa [Cond.value, given_1] using g1
    obtain ⟨L⟩ := args
    match L, hs with
    | [w0, w1, w2, w3], _ => exact ⟨w0, w1, w2, w3, rfl⟩
  have hw := fun d (hd : d ∈ tables_1) => atoms_spec (ws := Jvm.Cond.code x code maxLocals ret :: tables_1) hat d (List.mem_cons_of_mem _ hd)
  obtain ⟨i0, ei0⟩ := is_v g3
  obtain rfl : w0 = (.int i0) := Option.some.inj ei0
  obtain ⟨i1, ei1⟩ := isL_v g5
  obtain rfl : w1 = (.long i1) := Option.some.inj ei1
  obtain ⟨i2, ei2⟩ := isL_v g7
  obtain rfl : w2 = (.long i2) := Option.some.inj ei2
  obtain ⟨i3, ei3⟩ := isL_v g8
  obtain rfl : w3 = (.long i3) := Option.some.inj ei3
  obtain ⟨n, o, h1, h2, h3, _, L, rfl, ⟨rfl, N⟩, hq⟩ := own_rmlaw l s _ hw tables_1 i0 i1 i2 i3 s.heap s.heap.size (Nat.le_refl _) p e ha hc hk s m _ below hf ((Spec.applies_iff_loose hf).mp happ).1 ⟨rfl, State.Warmed39.refl s, rfl⟩ trivial
  refine ⟨n, _, h1, h2, h3, hpost _ _ _ _ _ _ ⟨Cond.after_iff.mpr rfl, Cond.after_iff.mpr (eq_i res_at (Term.int_eval (1)) rfl), trivial⟩ ⟨hq.1, hq.2.1, (hq.2.2.sift fun y hy => Or.inr (N y hy)).mono (by decide) (by decide)⟩⟩
theorem main_1_1 : Claimed_1_1 := own_comes fun _ _ _ _ _ _ h hF => ⟨h.1, hF⟩
theorem main_1_2 : Claimed_1_2 := own_comes fun _ _ _ _ _ _ h hF => ⟨h.2.1, hF⟩
end Jvm.Pilot.@@N@@
namespace Jvm.Pilot.@@N@@
open Jvm Jvm.ClassFile Sem Op Lib Jvm.Free Jvm.Stand Jvm.Pilot.@@N@@.Jvm.D
/-! MADE BY PROGRAM (witnessworld.py) out of the Statement's table words and the real class files: 11 classes; the members and pool entries that the words name. The judged class is class 1, her method 1. -/
namespace start1
open Jvm.ClassFile
def u (s : String) : CpInfo := .utf8 (stringToUtf16 s)
/-- a pool by its gaps: so many unusable entries, then the entry; so many at the end -/
def gap : Nat → List CpInfo → List CpInfo
  | 0, r => r
  | n + 1, r => .unusable :: gap n r
def poolList (es : List (Nat × CpInfo)) (last : Nat) : List CpInfo := es.foldr (fun e r => gap e.1 (e.2 :: r)) (gap last [])
def pool (es : List (Nat × CpInfo)) (last : Nat) : Array CpInfo := ⟨poolList es last⟩
def fileOf (pool : Array CpInfo) (this : Nat) (attrs : Array Attribute := #[]) (ms : Array MethodInfo := #[]) (fl : Nat := 33) (sup : Nat := 0) (ifs : Array Nat := #[]) (fds : Array FieldInfo := #[]) : ClassFile where
  minorVersion := 0
  majorVersion := 65
  constantPool := pool
  accessFlags := fl
  thisClass := this
  superClass := sup
  interfaces := ifs
  fields := fds
  methods := ms
  attributes := attrs
def plain (name : String) (sup : Option ClassId) : Class where
  name := name
  kind := .ordinary
  loader := none
  accessFlags := 33
  super := sup
  interfaces := #[]
  cf := none
  fields := #[]
  methods := #[]
  instanceTypes := #[]
  staticTypes := #[]
  resolved := #[]
  callSites := []
  init := .initialized
  statics := none
  mirror := none

def pool0 : Array CpInfo := pool [(5, u "<init>"), (0, u "()V"), (1, .class_ 10), (1, u "java/lang/Object"), (85, u "clone"), (0, u "()Ljava/lang/Object;")] 26

def k0m0 : Method := { name := "<init>", desc := "()V", sig := { parameters := [], returnType := none }, accessFlags := 1, code := none }
def k0m1 : Method := { name := "clone", desc := "()Ljava/lang/Object;", sig := { parameters := [], returnType := some (.object "java/lang/Object") }, accessFlags := 260, code := none }
/-- java/lang/Object -/
def k0 : Class := { plain "java/lang/Object" none with
  accessFlags := 33
  interfaces := #[]
  cf := some (fileOf pool0 8 #[] #[{ accessFlags := 1, nameIndex := 5, descriptorIndex := 6, attributes := #[] }, { accessFlags := 260, nameIndex := 96, descriptorIndex := 97, attributes := #[] }] 33 0 #[] #[])
  fields := #[]
  methods := #[k0m0, k0m1]
  instanceTypes := #[]
  staticTypes := #[]
  resolved := Array.replicate 124 none
  statics := none }

def pool1 : Array CpInfo := pool [(2, .class_ 4), (1, u "java/lang/Object"), (0, u "<init>"), (0, u "()V"), (2, .long 9223372036854775807), (1, .methodref 12 13), (0, .class_ 14), (0, .nameAndType 15 16), (0, u "com/example/physalia/physalia/model/Marking"), (0, u "checkedCopy"), (0, u "([J)[J"), (0, .long 18446744073709551615), (1, .class_ 20), (0, u "com/example/physalia/physalia/model/MarkingCheckedCopyPinLaw"), (2, u "law"), (0, u "(IJJJ)Z")] 5

def k1m0 : Method := { name := "<init>", desc := "()V", sig := { parameters := [], returnType := none }, accessFlags := 1, code := none }
def k1c1 : Code := { maxStack := 6, maxLocals := 16, code := code, exceptionTable := #[], attributes := #[] }
def k1m1 : Method := { name := "law", desc := "(IJJJ)Z", sig := { parameters := [.int, .long, .long, .long], returnType := some .boolean }, accessFlags := 9, code := some k1c1 }
/-- com/example/physalia/physalia/model/MarkingCheckedCopyPinLaw -/
def k1 : Class := { plain "com/example/physalia/physalia/model/MarkingCheckedCopyPinLaw" (some 0) with
  accessFlags := 49
  interfaces := #[]
  cf := some (fileOf pool1 19 #[] #[{ accessFlags := 1, nameIndex := 5, descriptorIndex := 6, attributes := #[] }, { accessFlags := 9, nameIndex := 23, descriptorIndex := 24, attributes := #[] }] 49 2 #[] #[])
  fields := #[]
  methods := #[k1m0, k1m1]
  instanceTypes := #[]
  staticTypes := #[]
  resolved := Array.replicate 30 none
  statics := none }

def pool2 : Array CpInfo := pool [(2, .class_ 4), (1, u "java/lang/Object"), (3, .class_ 10), (1, u "com/example/physalia/physalia/model/Marking"), (0, u "checkedCopy"), (0, u "([J)[J"), (2, u "tokens"), (0, u "[J"), (0, .methodref 18 19), (0, .class_ 16), (0, .nameAndType 20 21), (0, u "clone"), (0, u "()Ljava/lang/Object;")] 89

def k2c0 : Code := { maxStack := 5, maxLocals := 3, code := prog_33_method_2_code, exceptionTable := #[], attributes := #[] }
def k2m0 : Method := { name := "checkedCopy", desc := "([J)[J", sig := { parameters := [(.array .long)], returnType := some (.array .long) }, accessFlags := 8, code := some k2c0 }
/-- com/example/physalia/physalia/model/Marking -/
def k2 : Class := { plain "com/example/physalia/physalia/model/Marking" (some 0) with
  accessFlags := 33
  interfaces := #[]
  cf := some (fileOf pool2 8 #[] #[{ accessFlags := 8, nameIndex := 11, descriptorIndex := 12, attributes := #[] }] 33 2 #[] #[{ accessFlags := 18, nameIndex := 15, descriptorIndex := 16, attributes := #[] }])
  fields := #[{ name := "tokens", type := (.array .long), accessFlags := 18, slot := 0, constantValue := 0 }]
  methods := #[k2m0]
  instanceTypes := #[(.array .long)]
  staticTypes := #[]
  resolved := Array.replicate 111 none
  statics := none }

def pool3 : Array CpInfo := pool [(1, .class_ 2), (0, u "java/lang/Cloneable"), (0, .class_ 4), (0, u "java/lang/Object")] 2

/-- java/lang/Cloneable -/
def k3 : Class := { plain "java/lang/Cloneable" (some 0) with
  accessFlags := 1537
  interfaces := #[]
  cf := some (fileOf pool3 1 #[] #[] 1537 3 #[] #[])
  fields := #[]
  methods := #[]
  instanceTypes := #[]
  staticTypes := #[]
  resolved := Array.replicate 7 none
  statics := none }

def pool4 : Array CpInfo := pool [(1, u "java/io/Serializable"), (0, .class_ 1), (0, u "java/lang/Object"), (0, .class_ 3)] 3

/-- java/io/Serializable -/
def k4 : Class := { plain "java/io/Serializable" (some 0) with
  accessFlags := 1537
  interfaces := #[]
  cf := some (fileOf pool4 2 #[] #[] 1537 4 #[] #[])
  fields := #[]
  methods := #[]
  instanceTypes := #[]
  staticTypes := #[]
  resolved := Array.replicate 8 none
  statics := none }

/-- the primitive byte -/
def k5 : Class := { plain "byte" none with kind := .primitive 'B', accessFlags := 0x411 }
/-- [B -/
def k6 : Class := { plain "[B" (some 0) with kind := .array 5 .byte, interfaces := #[3, 4], accessFlags := 1041 }

/-- the primitive int -/
def k7 : Class := { plain "int" none with kind := .primitive 'I', accessFlags := 0x411 }
/-- [I -/
def k8 : Class := { plain "[I" (some 0) with kind := .array 7 .int, interfaces := #[3, 4], accessFlags := 1041 }

/-- the primitive long -/
def k9 : Class := { plain "long" none with kind := .primitive 'J', accessFlags := 0x411 }
/-- [J -/
def k10 : Class := { plain "[J" (some 0) with kind := .array 9 .long, interfaces := #[3, 4], accessFlags := 1041 }

def heap : Heap := #[]
def classes : Array Class := #[k0, k1, k2, k3, k4, k5, k6, k7, k8, k9, k10]
def interned : List (Array UInt16 × Addr) := []
def slotsUsed : Nat := 0
def theMethod : MethodId := ⟨1, 1⟩
def args0 : Array Value := #[.int 2, .long 5, .long 9, .long 3]
def aboutOver (below : List Frame) : State where
  vm := { classes := classes, interned := interned.toArray }
  heap := heap
  slotsUsed := slotsUsed
  threads := #[{ frames := .invoking theMethod args0 :: below }]
def below0 : List Frame := [.native { method := ⟨0, 0⟩, args := #[] }]
def about1 : State := aboutOver below0
def p0 : Program := .bare "" "" ""
def e0 : Env := launch0.env 0 0 0
theorem w_frames : about1.frames = Frame.invoking theMethod args0 :: below0 := rfl
set_option maxRecDepth 65536 in
theorem w_args : argsFit about1.vm theMethod args0 = true := by decide +kernel
set_option maxRecDepth 65536 in
theorem w_heap : heapFits about1 = true := by decide +kernel
set_option maxRecDepth 65536 in
theorem w_runnable : about1.curStatus? = some .runnable := by decide +kernel
set_option maxRecDepth 65536 in
theorem w_alone : about1.alone = true := by decide +kernel
set_option maxRecDepth 65536 in
theorem w_named : about1.methodNamed? x = some theMethod := by decide +kernel
set_option maxRecDepth 65536 in
theorem w_hears : about1.hears theMethod below0 = true := by decide +kernel
set_option maxRecDepth 65536 in
theorem w_ripe : about1.ripe theMethod args0 below0 = true := by decide +kernel
theorem w_running : about1.status = .running := rfl
set_option maxRecDepth 65536 in
theorem w_room : about1.hasRoom e0.platform room_1 = true :=
  launch0.hasRoom_least _ room_1 (by decide +kernel) (by decide +kernel) (by decide +kernel) (by decide +kernel) (by decide +kernel) (by decide +kernel)
theorem allAtoms_all (ts : List Jvm.Cond) (a : Array Jvm.Value) (st : Jvm.State) : (allAtoms ts).before a st = ts.all (fun c => c.before a st) := by
  induction ts with
  | nil => rfl
  | cons c t ih =>
    show (Jvm.Cond.and c (allAtoms t)).before a st = _
    rw [Jvm.Cond.before_and, ih, List.all_cons]
def words1 : List Jvm.Cond := Jvm.Cond.code x code maxLocals ret :: tables_1
/-- a 'code' word, met by the world's own term for the bytes: nothing is compared byte by byte -/
theorem code_word {y : MethodName} {bytes : ByteArray} {mx : Nat} {rt : Option FieldType} {a : Array Value} {s : State} {m : MethodId} {meth : Method} {c : Code} (h1 : s.methodNamed? y = some m) (h2 : s.vm.method? m = some meth) (h3 : meth.code = some c) (h4 : c.code = bytes)
    (h5 : (c.maxLocals == mx && c.exceptionTable.isEmpty && decide (c.maxStack ≤ mostOperands) && decide (meth.sig.returnType = rt) && !meth.locks && decide (parseMethodDescriptor y.desc = some meth.sig)) = true) : (Jvm.Cond.code y bytes mx rt).before a s = true := by
  simp only [Bool.and_eq_true, beq_iff_eq, Bool.not_eq_true', decide_eq_true_eq] at h5
  obtain ⟨⟨⟨⟨⟨g1, g2⟩, g3⟩, g4⟩, g5⟩, g6⟩ := h5
  simp [Cond.before, Cond.holds, Cond.value, h1, h2, h3, h4, g1, g2, g3, g4, g5, g6]
def isCode : Jvm.Cond → Bool
  | .code _ _ _ _ => true
  | _ => false
theorem all_split {L : List Jvm.Cond} {P : Jvm.Cond → Bool} (h1 : L.all (fun c => isCode c || P c) = true) (h2 : ∀ c ∈ L.filter isCode, P c = true) : L.all P = true := by
  refine List.all_eq_true.mpr fun c hc => ?_
  have h := List.all_eq_true.mp h1 c hc
  rcases Bool.eq_false_or_eq_true (isCode c) with hi | hi
  · exact h2 c (List.mem_filter.mpr ⟨hc, hi⟩)
  · simpa [hi] using h
set_option maxRecDepth 65536 in
theorem w_c0 : (Jvm.Cond.code x code maxLocals ret).before args0 about1 = true := code_word (m := ⟨1, 1⟩) (meth := k1m1) (c := k1c1) (by decide +kernel) rfl rfl rfl (by decide +kernel)
set_option maxRecDepth 65536 in
theorem w_c1 : (Jvm.Cond.code ({ cls := "com/example/physalia/physalia/model/Marking", name := "checkedCopy", desc := "([J)[J" } : Jvm.MethodName) prog_33_method_2_code (3 : Nat) (Option.some (Jvm.ClassFile.FieldType.array Jvm.ClassFile.FieldType.long))).before args0 about1 = true := code_word (m := ⟨2, 0⟩) (meth := k2m0) (c := k2c0) (by decide +kernel) rfl rfl rfl (by decide +kernel)
def codes1 : List Jvm.Cond := [Jvm.Cond.code x code maxLocals ret, Jvm.Cond.code ({ cls := "com/example/physalia/physalia/model/Marking", name := "checkedCopy", desc := "([J)[J" } : Jvm.MethodName) prog_33_method_2_code (3 : Nat) (Option.some (Jvm.ClassFile.FieldType.array Jvm.ClassFile.FieldType.long))]
set_option maxRecDepth 65536 in
theorem codes_eq : words1.filter isCode = codes1 := rfl
theorem w_codes : ∀ c ∈ words1.filter isCode, c.before args0 about1 = true := by
  rw [codes_eq]
  intro c hc
  simp only [codes1, List.mem_cons, List.not_mem_nil, or_false] at hc
  rcases hc with rfl | rfl
  · exact w_c0
  · exact w_c1
set_option maxRecDepth 65536 in
theorem w_t1 : words1.all (fun c => isCode c || c.before args0 about1) = true := by decide +kernel
theorem w_tables : (allAtoms (Jvm.Cond.code x code maxLocals ret :: tables_1)).before args0 about1 = true := by
  rw [allAtoms_all]
  show words1.all (fun c => c.before args0 about1) = true
  refine all_split ?_ w_codes
  rw [w_t1]
set_option maxRecDepth 65536 in
theorem w_case : (Jvm.Cond.and given_1 narrow_1).before args0 about1 = true := by decide +kernel
theorem w_applies : (headSpec (Jvm.Cond.code x code maxLocals ret :: tables_1) room_1).applies x e0.platform about1 = true :=
  (Spec.applies_iff w_frames).mpr ⟨w_running, w_runnable, w_alone, w_named, w_hears, w_ripe, w_room, w_tables⟩
theorem atStart : AtStart classFile x code maxLocals ret World_1 tables_1 room_1 Calls_1 rest_1 Pre_1 launch0 p0 e0 about1 theMethod args0 below0 :=
  ⟨lists_1, trivial, launch0.admits_env _ _ _, launch0.least_env, fairChoices_fair.cas, fairChoices_fair.clock, w_frames, w_args, w_heap, w_applies, trivial, trivial, w_case⟩
end start1
theorem witness_1 : WitnessClaimed_1 := ⟨start1.p0, start1.e0, start1.about1, start1.theMethod, start1.args0, start1.below0, start1.atStart⟩
end Jvm.Pilot.@@N@@

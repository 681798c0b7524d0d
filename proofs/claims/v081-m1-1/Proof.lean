import JvmDerived
import JvmDerived.Pilot.@@N@@Statement
import JvmDerived.Pilot.@@N@@Code
set_option linter.unusedVariables false
set_option linter.unusedSimpArgs false
namespace Jvm.Pilot.@@N@@
open Jvm Jvm.ClassFile Sem Op Lib Jvm.Free Jvm.Stand Jvm.LawKit Jvm.RoadKit Bundle Jvm.Pilot.@@N@@.Jvm.D
/-! own layer: forward walking in continuation style, arrays as functions -/
def own_R (tb : Tables) (e : Env) (below : List Frame) (P : State → Outcome → Prop) (st : State) : Prop := ∃ t o, Steps tb e below st t ∧ P t o
theorem own_fwd {tb : Tables} {e : Env} {below : List Frame} {P : State → Outcome → Prop} {st st' : State} (k : ∀ t, Steps tb e below st' t → Steps tb e below st t) (h : own_R tb e below P st') : own_R tb e below P st := by
  obtain ⟨t, o, h1, h2⟩ := h; exact ⟨t, o, k t h1, h2⟩
theorem own_trn {tb : Tables} {e : Env} {below : List Frame} {P : State → Outcome → Prop} {st st' : State} (k : Steps tb e below st st') (h : own_R tb e below P st') : own_R tb e below P st := own_fwd (fun _ q => k.trans q) h
theorem own_nm {tb : Tables} {e : Env} {below : List Frame} {P : State → Outcome → Prop} {st : State} (h : ∀ P' : State → Outcome → Prop, (∀ t o, P t o → P' t o) → own_R tb e below P' st) : own_R tb e below P st := h P fun _ _ q => q
/-- an array, n long, place i holds f i -/
def own_AV (Z : State) (h : Heap) (a : Addr) (ty : FieldType) (n : Nat) (f : Nat → Value) : Prop := ∃ c : Cell, Arr Z h a c ty ∧ c.slots.size = n ∧ n < 2 ^ 31 ∧ ∀ i, i < n → c.slots[i]? = some (f i)
abbrev own_AI (Z : State) (h : Heap) (a : Addr) (ty : FieldType) (n : Nat) (f : Nat → Int32) : Prop := own_AV Z h a ty n fun i => .int (f i)
abbrev own_AJ (Z : State) (h : Heap) (a : Addr) (n : Nat) (f : Nat → Int64) : Prop := own_AV Z h a .long n fun i => .long (f i)
def own_upd {α : Type} (f : Nat → α) (i : Nat) (x : α) : Nat → α := fun k => if k = i then x else f k
theorem own_upd_hit {α : Type} (f : Nat → α) (i : Nat) (x : α) : own_upd f i x i = x := if_pos rfl
theorem own_upd_miss {α : Type} (f : Nat → α) {i k : Nat} (x : α) (q : k ≠ i) : own_upd f i x k = f k := if_neg q
section Own
variable {p : Program} {l : Launch} {e : Env} {R : Room} {s : State} {m : MethodId} {args : Array Value} {below : List Frame} {meth : Method} {c : Code} {T : State} {locs : List Loc} {cells slots : Nat} {Z : State} {a0 : Array Value} {h h' : Heap} {a b : Addr} {ty : FieldType} {n : Nat} {f : Nat → Value} {v : Value} {sl : Nat}
theorem own_AV.lt (F : own_AV Z h a ty n f) : a < h.size := by obtain ⟨c, A, -⟩ := F; exact A.lt
theorem own_AV.bd (F : own_AV Z h a ty n f) : n < 2 ^ 31 := by obtain ⟨c, A, -, q, -⟩ := F; exact q
theorem own_AV.ext (F : own_AV Z h a ty n f) (E : Ext h h') : own_AV Z h' a ty n f := by obtain ⟨c, A, r⟩ := F; exact ⟨c, A.ext E, r⟩
theorem own_AV.other (F : own_AV Z h b ty n f) (W : Wr h h' a sl v) (q : b ≠ a) : own_AV Z h' b ty n f := by obtain ⟨c, A, r⟩ := F; exact ⟨c, A.other W q, r⟩
theorem own_AV.keep {ws : List Addr} (F : own_AV Z h a ty n f) (K : Keep h h' ws) (q : a ∉ ws) : own_AV Z h' a ty n f := by obtain ⟨c, A, r⟩ := F; exact ⟨c, ⟨K.2.1 a c A.1 q, A.2⟩, r⟩
theorem own_AV.cong {f' : Nat → Value} (F : own_AV Z h a ty n f) (q : ∀ i, i < n → f' i = f i) : own_AV Z h a ty n f' := by obtain ⟨c, A, r1, r2, r3⟩ := F; exact ⟨c, A, r1, r2, fun i hi => by rw [q i hi]; exact r3 i hi⟩
theorem own_clamp {j : Int32} {i : Nat} (hj : j.toInt = (i : Int)) : j.toNatClampNeg = i ∧ ¬ j < 0 := by
  have q0 : (0 : Int32).toInt = 0 := rfl
  exact ⟨by unfold Int32.toNatClampNeg; omega, by rw [Int32.lt_iff_toInt_lt]; omega⟩
theorem own_inb {cl : Cell} {j : Int32} {i : Nat} (hj : j.toInt = (i : Int)) (S : cl.slots.size = n) (hi : i < n) : ¬ (j < 0 ∨ cl.slots.size ≤ j.toNatClampNeg) := by
  obtain ⟨q1, q2⟩ := own_clamp hj
  rw [q1]; rintro (q | q)
  · exact q2 q
  · omega
theorem own_AV.new {k : ClassId} {z : Int32} (A : Arr Z h a (newA k ty z) ty) (hz : z.toInt = (n : Int)) : own_AV Z h a ty n (fun _ => defaultValue ty) := by
  obtain ⟨q1, q2⟩ := own_clamp hz
  have hb := z.toInt_lt
  refine ⟨_, A, by rw [sz_new]; exact q1, by omega, fun i hi => ?_⟩
  simp [newA, q1, hi]
theorem own_ldI (X : Stand p l e R s m args below meth c T locs cells slots) (hx : p.tables.exec = Jvm.exec) (hZ : Z.Warmed39 s.vm) (eT : T.heap = h) (F : own_AV Z h a .int n f) {j : Int32} (i : Nat) (hj : j.toInt = (i : Int)) (hi : i < n) {g : JFrame} (hg : g.method = m) {rest : List Value} (hs : g.stack = .int j :: .ref a :: rest) (hd : decode c.code g.pc = .ok (.iaload, 1)) :
    ∀ t, Steps p.tables e below (T.setTop { g with pc := g.pc + 1, stack := f i :: rest }) t → Steps p.tables e below (T.setTop g) t := fun t k => by
  obtain ⟨cl, A, S, -, H⟩ := F
  exact X.iaload hx (by rw [eT]; exact A.1) (State.isArrayOf_alike hZ.alike A.2.1) A.2.2 (own_inb hj S hi) (by rw [(own_clamp hj).1]; exact H i hi) hg hs hd t k
theorem own_ldS (X : Stand p l e R s m args below meth c T locs cells slots) (hx : p.tables.exec = Jvm.exec) (hZ : Z.Warmed39 s.vm) (eT : T.heap = h) (F : own_AV Z h a .short n f) {j : Int32} (i : Nat) (hj : j.toInt = (i : Int)) (hi : i < n) {g : JFrame} (hg : g.method = m) {rest : List Value} (hs : g.stack = .int j :: .ref a :: rest) (hd : decode c.code g.pc = .ok (.saload, 1)) :
    ∀ t, Steps p.tables e below (T.setTop { g with pc := g.pc + 1, stack := f i :: rest }) t → Steps p.tables e below (T.setTop g) t := fun t k => by
  obtain ⟨cl, A, S, -, H⟩ := F
  exact X.saload hx (by rw [eT]; exact A.1) (State.isArrayOf_alike hZ.alike A.2.1) A.2.2 (own_inb hj S hi) (by rw [(own_clamp hj).1]; exact H i hi) hg hs hd t k
theorem own_ldC (X : Stand p l e R s m args below meth c T locs cells slots) (hx : p.tables.exec = Jvm.exec) (hZ : Z.Warmed39 s.vm) (eT : T.heap = h) (F : own_AV Z h a .char n f) {j : Int32} (i : Nat) (hj : j.toInt = (i : Int)) (hi : i < n) {g : JFrame} (hg : g.method = m) {rest : List Value} (hs : g.stack = .int j :: .ref a :: rest) (hd : decode c.code g.pc = .ok (.caload, 1)) :
    ∀ t, Steps p.tables e below (T.setTop { g with pc := g.pc + 1, stack := f i :: rest }) t → Steps p.tables e below (T.setTop g) t := fun t k => by
  obtain ⟨cl, A, S, -, H⟩ := F
  exact X.caload hx (by rw [eT]; exact A.1) (State.isArrayOf_alike hZ.alike A.2.1) A.2.2 (own_inb hj S hi) (by rw [(own_clamp hj).1]; exact H i hi) hg hs hd t k
theorem own_ldJ (X : Stand p l e R s m args below meth c T locs cells slots) (hx : p.tables.exec = Jvm.exec) (hZ : Z.Warmed39 s.vm) (eT : T.heap = h) (F : own_AV Z h a .long n f) {j : Int32} (i : Nat) (hj : j.toInt = (i : Int)) (hi : i < n) {g : JFrame} (hg : g.method = m) {rest : List Value} (hs : g.stack = .int j :: .ref a :: rest) (hd : decode c.code g.pc = .ok (.laload, 1)) :
    ∀ t, Steps p.tables e below (T.setTop { g with pc := g.pc + 1, stack := f i :: rest }) t → Steps p.tables e below (T.setTop g) t := fun t k => by
  obtain ⟨cl, A, S, -, H⟩ := F
  exact X.laload hx (by rw [eT]; exact A.1) (State.isArrayOf_alike hZ.alike A.2.1) A.2.2 (own_inb hj S hi) (by rw [(own_clamp hj).1]; exact H i hi) hg hs hd t k
theorem own_len (X : Stand p l e R s m args below meth c T locs cells slots) (hx : p.tables.exec = Jvm.exec) (hZ : Z.Warmed39 s.vm) (eT : T.heap = h) (F : own_AV Z h a ty n f) (z : Int32) (hz : z.toInt = (n : Int)) {g : JFrame} (hg : g.method = m) {rest : List Value} (hs : g.stack = .ref a :: rest) (hd : decode c.code g.pc = .ok (.arraylength, 1)) :
    ∀ t, Steps p.tables e below (T.setTop { g with pc := g.pc + 1, stack := .int z :: rest }) t → Steps p.tables e below (T.setTop g) t := fun t k => by
  obtain ⟨cl, A, S, q, H⟩ := F
  have e1 : cl.slots.size.toInt32 = z := by
    rw [S]; apply Int32.toInt_inj.mp; rw [hz]; exact len_toInt q
  refine X.arraylength hx (by rw [eT]; exact A.1) (State.isArrayOf_alike hZ.alike A.2.1) hg hs hd t ?_
  rw [e1]; exact k
theorem own_AV.set {h' : Heap} {cl : Cell} {j : Int32} {i : Nat} {w : Value} (A : Arr Z h a cl ty) (S : cl.slots.size = n) (q : n < 2 ^ 31) (H : ∀ i, i < n → cl.slots[i]? = some (f i)) (hj : j.toInt = (i : Int)) (hi : i < n) (W : Wr h h' a j.toNatClampNeg w) : own_AV Z h' a ty n (own_upd f i w) := by
  rw [(own_clamp hj).1] at W
  refine ⟨_, A.same W, by rw [sz_set]; exact S, q, fun k hk => ?_⟩
  by_cases e : k = i
  · subst e; rw [own_upd_hit]; simp [Cell.setSlot, S, hi]
  · rw [own_upd_miss _ _ e]; simp only [Cell.setSlot]; rw [Array.getElem?_setIfInBounds_ne (Ne.symm e)]; exact H k hk
theorem own_stI {g0 : Nat → Int32} (X : Stand p l e R s m args below meth c T locs cells slots) (hx : p.tables.exec = Jvm.exec) (hZ : Z.Warmed39 s.vm) (eT : T.heap = h) (F : own_AI Z h a .int n g0) {j x : Int32} (i : Nat) (hj : j.toInt = (i : Int)) (hi : i < n) {g : JFrame} (hg : g.method = m) {rest : List Value} (hs : g.stack = .int x :: .int j :: .ref a :: rest) (hd : decode c.code g.pc = .ok (.iastore, 1)) :
    ∃ T' h', Stand p l e R s m args below meth c T' (locs ++ [⟨a, j.toNatClampNeg⟩]) cells slots ∧ T'.heap = h' ∧ Wr h h' a j.toNatClampNeg (.int x) ∧ own_AI Z h' a .int n (own_upd g0 i x) ∧ ∀ t, Steps p.tables e below (T'.setTop { g with pc := g.pc + 1, stack := rest }) t → Steps p.tables e below (T.setTop g) t := by
  obtain ⟨cl, A, S, q, H⟩ := F
  obtain ⟨T', h', X', e', W, st⟩ := stI X hx hZ eT A (own_inb hj S hi) hg hs hd
  exact ⟨T', h', X', e', W, (own_AV.set A S q H hj hi W).cong fun k _ => by simp only [own_upd]; split <;> rfl, st⟩
theorem own_stS {g0 : Nat → Int32} (X : Stand p l e R s m args below meth c T locs cells slots) (hx : p.tables.exec = Jvm.exec) (hZ : Z.Warmed39 s.vm) (eT : T.heap = h) (F : own_AI Z h a .short n g0) {j x : Int32} (i : Nat) (hj : j.toInt = (i : Int)) (hi : i < n) {g : JFrame} (hg : g.method = m) {rest : List Value} (hs : g.stack = .int x :: .int j :: .ref a :: rest) (hd : decode c.code g.pc = .ok (.sastore, 1)) :
    ∃ T' h', Stand p l e R s m args below meth c T' (locs ++ [⟨a, j.toNatClampNeg⟩]) cells slots ∧ T'.heap = h' ∧ Wr h h' a j.toNatClampNeg (.int (nar .short x)) ∧ own_AI Z h' a .short n (own_upd g0 i (nar .short x)) ∧ ∀ t, Steps p.tables e below (T'.setTop { g with pc := g.pc + 1, stack := rest }) t → Steps p.tables e below (T.setTop g) t := by
  obtain ⟨cl, A, S, q, H⟩ := F
  obtain ⟨T', h', X', e', W, st⟩ := stS X hx hZ eT A (own_inb hj S hi) hg hs hd
  exact ⟨T', h', X', e', W, (own_AV.set A S q H hj hi W).cong fun k _ => by simp only [own_upd]; split <;> rfl, st⟩
theorem own_stC {g0 : Nat → Int32} (X : Stand p l e R s m args below meth c T locs cells slots) (hx : p.tables.exec = Jvm.exec) (hZ : Z.Warmed39 s.vm) (eT : T.heap = h) (F : own_AI Z h a .char n g0) {j x : Int32} (i : Nat) (hj : j.toInt = (i : Int)) (hi : i < n) {g : JFrame} (hg : g.method = m) {rest : List Value} (hs : g.stack = .int x :: .int j :: .ref a :: rest) (hd : decode c.code g.pc = .ok (.castore, 1)) :
    ∃ T' h', Stand p l e R s m args below meth c T' (locs ++ [⟨a, j.toNatClampNeg⟩]) cells slots ∧ T'.heap = h' ∧ Wr h h' a j.toNatClampNeg (.int (nar .char x)) ∧ own_AI Z h' a .char n (own_upd g0 i (nar .char x)) ∧ ∀ t, Steps p.tables e below (T'.setTop { g with pc := g.pc + 1, stack := rest }) t → Steps p.tables e below (T.setTop g) t := by
  obtain ⟨cl, A, S, q, H⟩ := F
  obtain ⟨T', h', X', e', W, st⟩ := stC X hx hZ eT A (own_inb hj S hi) hg hs hd
  exact ⟨T', h', X', e', W, (own_AV.set A S q H hj hi W).cong fun k _ => by simp only [own_upd]; split <;> rfl, st⟩
theorem own_stJ {g0 : Nat → Int64} (X : Stand p l e R s m args below meth c T locs cells slots) (hx : p.tables.exec = Jvm.exec) (hZ : Z.Warmed39 s.vm) (eT : T.heap = h) (F : own_AJ Z h a n g0) {j : Int32} {x : Int64} (i : Nat) (hj : j.toInt = (i : Int)) (hi : i < n) {g : JFrame} (hg : g.method = m) {rest : List Value} (hs : g.stack = .long x :: .int j :: .ref a :: rest) (hd : decode c.code g.pc = .ok (.lastore, 1)) :
    ∃ T' h', Stand p l e R s m args below meth c T' (locs ++ [⟨a, j.toNatClampNeg⟩]) cells slots ∧ T'.heap = h' ∧ Wr h h' a j.toNatClampNeg (.long x) ∧ own_AJ Z h' a n (own_upd g0 i x) ∧ ∀ t, Steps p.tables e below (T'.setTop { g with pc := g.pc + 1, stack := rest }) t → Steps p.tables e below (T.setTop g) t := by
  obtain ⟨cl, A, S, q, H⟩ := F
  obtain ⟨T', h', X', e', W, st⟩ := stJ X hx hZ eT A (own_inb hj S hi) hg hs hd
  exact ⟨T', h', X', e', W, (own_AV.set A S q H hj hi W).cong fun k _ => by simp only [own_upd]; split <;> rfl, st⟩
theorem own_newA (X : Stand p l e R s m args below meth c T locs cells slots) (hx : p.tables.exec = Jvm.exec) (hZ : Z.Warmed39 s.vm) {aty : ArrayType} (w : (Cond.arrayClass (newarray.typeOf aty)).before a0 Z = true) (eT : T.heap = h) {z : Int32} (hz : z.toInt = (n : Int)) {cap : Nat} (hcap : n ≤ cap) {g : JFrame} (hg : g.method = m) (hd : decode c.code g.pc = .ok (.newarray aty, 2)) {rest : List Value} (hs : g.stack = .int z :: rest)
    (hb : cap * 8 ≤ 536870912) (hc : cells + 1 ≤ R.cells) (hl : slots + cap ≤ R.slots) {ad : String} (had : "[" ++ (newarray.typeOf aty).toString = ad) :
    ∃ T' h' b, b = h.size ∧ Stand p l e R s m args below meth c T' locs (cells + 1) (slots + cap) ∧ T'.heap = h' ∧ Ext h h' ∧ own_AV Z h' b (newarray.typeOf aty) n (fun _ => defaultValue (newarray.typeOf aty)) ∧ Exa Z h' b ad ∧
      ∀ t, Steps p.tables e below (T'.setTop { g with pc := g.pc + 2, stack := .ref b :: rest }) t → Steps p.tables e below (T.setTop g) t := by
  obtain ⟨q1, q2⟩ := own_clamp hz
  obtain ⟨T', h', k, X', e', E, A, Ea, st⟩ := newPE X hx hZ w eT hg hd hs q2 (by rw [q1]; exact hcap) hb hc hl had
  exact ⟨T', h', _, rfl, X', e', E, own_AV.new A hz, Ea, st⟩
end Own
def own_two {α : Type} (x y : α) : Nat → α
  | 0 => x
  | _ => y
theorem own_two_0 {α : Type} (x y : α) : own_two x y 0 = x := rfl
theorem own_two_1 {α : Type} (x y : α) : own_two x y 1 = y := rfl
theorem own_nlt {i n : Nat} (hi : i < n) (hn : n < 2 ^ 31) : i.toInt32 < n.toInt32 := by
  rw [Int32.lt_iff_toInt_lt, len_toInt hn, len_toInt (by omega)]; omega
theorem own_nge {i n : Nat} (hi : n ≤ i) (hn : i < 2 ^ 31) : ¬ i.toInt32 < n.toInt32 := by
  rw [Int32.lt_iff_toInt_lt, len_toInt hn, len_toInt (by omega)]; omega
theorem own_nsucc {i : Nat} (hn : i + 1 < 2 ^ 31) : i.toInt32 + (1 : Int32) = (i + 1).toInt32 := by
  have e1 : (1 : Int32).toInt = 1 := rfl
  have h1 := c_iadd i.toInt32 1
  have h2 := rng32 (i.toInt32 + 1)
  rw [← Int32.toInt_inj, len_toInt hn]
  rw [len_toInt (by omega), e1] at h1
  omega
theorem own_and3 (x : Int32) : (x &&& (3 : Int32)) = 0 ∨ (x &&& (3 : Int32)) = 1 ∨ (x &&& (3 : Int32)) = 2 ∨ (x &&& (3 : Int32)) = 3 := by
  have h := c_mask x 3 2 (by decide) (by decide)
  have e : ((2 ^ 2 : Nat) : Int) = 4 := by decide
  rw [e] at h
  have e0 : (0 : Int32).toInt = 0 := rfl
  have e1 : (1 : Int32).toInt = 1 := rfl
  have e2 : (2 : Int32).toInt = 2 := rfl
  have e3 : (3 : Int32).toInt = 3 := rfl
  simp only [← Int32.toInt_inj]
  omega
theorem own_z01 {z : Int32} (h : z = 0 ∨ z = 1) : narrow .boolean (.int z) = .int z ∧ fits .boolean (.int z) = true := by rcases h with rfl | rfl <;> exact ⟨rfl, rfl⟩
theorem own_d2_0 : decode prog_1_method_1_code 0 = .ok (.aload_n 0, 1) := by decide +kernel
theorem own_d2_1 : decode prog_1_method_1_code 1 = .ok (.invokespecial 1, 3) := by decide +kernel
theorem own_d2_4 : decode prog_1_method_1_code 4 = .ok (.aload_n 0, 1) := by decide +kernel
theorem own_d2_5 : decode prog_1_method_1_code 5 = .ok (.lload_n 1, 1) := by decide +kernel
theorem own_d2_6 : decode prog_1_method_1_code 6 = .ok (.putfield 7, 3) := by decide +kernel
theorem own_d2_9 : decode prog_1_method_1_code 9 = .ok (.aload_n 0, 1) := by decide +kernel
theorem own_d2_10 : decode prog_1_method_1_code 10 = .ok (.aload_n 3, 1) := by decide +kernel
theorem own_d2_11 : decode prog_1_method_1_code 11 = .ok (.putfield 13, 3) := by decide +kernel
theorem own_d2_14 : decode prog_1_method_1_code 14 = .ok (.aload_n 0, 1) := by decide +kernel
theorem own_d2_15 : decode prog_1_method_1_code 15 = .ok (.lload 4, 2) := by decide +kernel
theorem own_d2_17 : decode prog_1_method_1_code 17 = .ok (.putfield 17, 3) := by decide +kernel
theorem own_d2_20 : decode prog_1_method_1_code 20 = .ok (.aload_n 0, 1) := by decide +kernel
theorem own_d2_21 : decode prog_1_method_1_code 21 = .ok (.iload 6, 2) := by decide +kernel
theorem own_d2_23 : decode prog_1_method_1_code 23 = .ok (.putfield 20, 3) := by decide +kernel
theorem own_d2_26 : decode prog_1_method_1_code 26 = .ok (.return_, 1) := by decide +kernel
theorem own_pn0 : plainName "com/example/leaselock/leaselock/Answer" = true := by first | (simp [plainName, overriddenIn]; done) | decide +kernel
theorem own_ef2 (m : MethodId) (a1 : Addr) (q1 : Int64) (q2 : Int64) (p3 : Int32) : entryFrame m #[(.ref a1), (.long q1), .null, (.long q2), (.int p3)] 7 = mkF m 0 #[.val (.ref a1), .val (.long q1), .second, .val .null, .val (.long q2), .second, .val (.int p3)] [] := by first | (simp [entryFrame, mkF, argsToLocals, Value.category]; done) | rfl
def own_Q2 (Z : State) (a1 : Addr) (q1 q2 : Int64) (p3 : Int32) (h0 : Heap) (n0 : Nat) (v : Option Value) (h : Heap) (L : List Loc) : Prop := v = none ∧ Fr n0 L ∧ Keep h0 h [a1] ∧ Exa Z h a1 "com/example/leaselock/leaselock/Answer" ∧ Fld Z h a1 "com/example/leaselock/leaselock/Answer" "asked" "J" (.long q1) ∧ Fld Z h a1 "com/example/leaselock/leaselock/Answer" "grant" "Lcom/example/leaselock/leaselock/Grant;" .null ∧ Fld Z h a1 "com/example/leaselock/leaselock/Answer" "sleepNanos" "J" (.long q2) ∧ Fld Z h a1 "com/example/leaselock/leaselock/Answer" "endsAtRelease" "Z" (.int p3)
set_option maxRecDepth 65536 in
set_option maxHeartbeats 40000000 in
theorem own_rm2 (l : Launch) (Z : State) (a0 : Array Value) (hw : ∀ d ∈ tables_1, d.before a0 Z = true) (ws : List Jvm.Cond) (a1 : Addr) (q1 q2 : Int64) (p3 : Int32) (h0 : Heap) (n0 : Nat) (Z0 : n0 ≤ h0.size) (pE : Exa Z h0 a1 "com/example/leaselock/leaselock/Answer") (pF1 : Fld Z h0 a1 "com/example/leaselock/leaselock/Answer" "asked" "J" (.long (0 : Int64))) (pF2 : Fld Z h0 a1 "com/example/leaselock/leaselock/Answer" "grant" "Lcom/example/leaselock/leaselock/Grant;" .null) (pF3 : Fld Z h0 a1 "com/example/leaselock/leaselock/Answer" "sleepNanos" "J" (.long (0 : Int64))) (pF4 : Fld Z h0 a1 "com/example/leaselock/leaselock/Answer" "endsAtRelease" "Z" (.int (0 : Int32))) (pg : n0 ≤ a1) (pz : p3 = 0 ∨ p3 = 1) :
    MetFree l (⟨"com/example/leaselock/leaselock/Answer", "<init>", "(JLcom/example/leaselock/leaselock/Grant;JZ)V"⟩ : MethodName) (head1 (Jvm.Cond.code (⟨"com/example/leaselock/leaselock/Answer", "<init>", "(JLcom/example/leaselock/leaselock/Grant;JZ)V"⟩ : MethodName) prog_1_method_1_code 7 none :: ws) ({ frames := 1, cells := 0, slots := 0, locals := 12 } : Room)) (fun a U => a = #[(.ref a1), (.long q1), .null, (.long q2), (.int p3)] ∧ Z.Warmed39 U.vm ∧ U.heap = h0) (fun _ _ _ _ _ => True) (fun _ U o U' => ∃ v L, o = .returned v ∧ own_Q2 Z a1 q1 q2 p3 h0 n0 v U'.heap L ∧ FrameEnd U o U' L ({ frames := 1, cells := 0, slots := 0, locals := 12 } : Room).cells ({ frames := 1, cells := 0, slots := 0, locals := 12 } : Room).slots) := by
  refine MetFree.of_bodySF (plainFor_of_name own_pn0) hisR ?_
  intro p e s m args below meth c s₁ Bd hml0 hP hK
  obtain ⟨rfl, hZ, hh⟩ := hP
  have hx := Bd.exec
  have hby := Bd.bytes
  have hml : c.maxLocals = 7 := hml0
  have hown : s.vm.findClass "com/example/leaselock/leaselock/Answer" = some m.cls := findClass_of_methodNamed Bd.named
  have hnm := (name_of_methodNamed Bd.named Bd.method).1
  have X0 : Stand p l e ({ frames := 1, cells := 0, slots := 0, locals := 12 } : Room) s m #[(.ref a1), (.long q1), .null, (.long q2), (.int p3)] below meth c s₁ [] 0 0 := Stand.of_body Bd
  have e0 : s₁.heap = h0 := by rw [← hh, Bd.state]; rfl
  have N0 := Fr.nil n0
  refine own_nm (st := s₁.setTop (entryFrame m #[(.ref a1), (.long q1), .null, (.long q2), (.int p3)] 7)) fun P fin => ?_
  refine own_fwd (fun t k => castTop (own_ef2 m a1 q1 q2 p3) k) ?_
  show own_R p.tables e below P (s₁.setTop (mkF m 0 #[.val (.ref a1), .val (.long q1), .second, .val .null, .val (.long q2), .second, .val (.int p3)] []))
  have K0 := Keep.refl h0 [a1]
  refine own_fwd (fun t k => XS.aloadN X0.here hx rfl (hb hby own_d2_0) rfl rfl k) ?_
  show own_R p.tables e below P (s₁.setTop (mkF m 1 #[.val (.ref a1), .val (.long q1), .second, .val .null, .val (.long q2), .second, .val (.int p3)] [(.ref a1)]))
  obtain ⟨T1, X1, e1, st1⟩ := initO X0 hx hZ hown (hw _ (List.mem_of_getElem? (i := 9) rfl)) (hw _ (List.mem_of_getElem? (i := 10) rfl)) (hw _ (List.mem_of_getElem? (i := 11) rfl)) e0 (g := (mkF m 1 #[.val (.ref a1), .val (.long q1), .second, .val .null, .val (.long q2), .second, .val (.int p3)] [(.ref a1)])) rfl (by rw [hml]; rfl) rfl (hb hby own_d2_1) (by decide) (W := 0) (by show 2 * 0 + _ ≤ _; exact Nat.le_of_eq rfl) (by decide)
  refine own_fwd st1 ?_
  show own_R p.tables e below P (T1.setTop (mkF m 4 #[.val (.ref a1), .val (.long q1), .second, .val .null, .val (.long q2), .second, .val (.int p3)] []))
  refine own_fwd (fun t k => XS.aloadN X1.here hx rfl (hb hby own_d2_4) rfl rfl k) ?_
  show own_R p.tables e below P (T1.setTop (mkF m 5 #[.val (.ref a1), .val (.long q1), .second, .val .null, .val (.long q2), .second, .val (.int p3)] [(.ref a1)]))
  refine own_fwd (fun t k => XS.lloadN X1.here hx rfl (hb hby own_d2_5) rfl k) ?_
  show own_R p.tables e below P (T1.setTop (mkF m 6 #[.val (.ref a1), .val (.long q1), .second, .val .null, .val (.long q2), .second, .val (.int p3)] [(.long q1), (.ref a1)]))
  obtain ⟨T2, h2, X2, e2, W2, st2⟩ := putF X1 hx hZ hown (host := "") (Or.inl (hw _ (List.mem_of_getElem? (i := 12) rfl))) Via.refl e1 pF1 pE (Or.inr ⟨(hw _ (List.mem_of_getElem? (i := 13) rfl)), rfl, hnm⟩) (hw _ (List.mem_of_getElem? (i := 5) rfl)) (ty := .long) (by decide) rfl rfl (g := (mkF m 6 #[.val (.ref a1), .val (.long q1), .second, .val .null, .val (.long q2), .second, .val (.int p3)] [(.long q1), (.ref a1)])) rfl rfl (hb hby own_d2_6)
  have F2_ := pF1.same W2
  have pE_x2 := pE.wr W2
  have pF2_x2 := pF2.other W2 (Or.inr (slot_ne (Or.inr (hw _ (List.mem_of_getElem? (i := 15) rfl))) (Or.inr (hw _ (List.mem_of_getElem? (i := 13) rfl))) (by decide) (t := (.object "com/example/leaselock/leaselock/Grant")) (t' := .long) (by decide) (by decide)))
  have pF3_x2 := pF3.other W2 (Or.inr (slot_ne (Or.inr (hw _ (List.mem_of_getElem? (i := 17) rfl))) (Or.inr (hw _ (List.mem_of_getElem? (i := 13) rfl))) (by decide) (t := .long) (t' := .long) (by decide) (by decide)))
  have pF4_x2 := pF4.other W2 (Or.inr (slot_ne (Or.inr (hw _ (List.mem_of_getElem? (i := 19) rfl))) (Or.inr (hw _ (List.mem_of_getElem? (i := 13) rfl))) (by decide) (t := .boolean) (t' := .long) (by decide) (by decide)))
  have N2 := Fr.snoc X2 N0 pg
  have Z2 : n0 ≤ h2.size := by rw [W2.size]; exact Z0
  have K2 := K0.wr W2 (Or.inl (List.mem_of_getElem? (i := 0) rfl))
  have Y2 : h0.size ≤ h2.size := by rw [W2.size]; exact (Nat.le_refl h0.size)
  refine own_fwd st2 ?_
  show own_R p.tables e below P (T2.setTop (mkF m 9 #[.val (.ref a1), .val (.long q1), .second, .val .null, .val (.long q2), .second, .val (.int p3)] []))
  refine own_fwd (fun t k => XS.aloadN X2.here hx rfl (hb hby own_d2_9) rfl rfl k) ?_
  show own_R p.tables e below P (T2.setTop (mkF m 10 #[.val (.ref a1), .val (.long q1), .second, .val .null, .val (.long q2), .second, .val (.int p3)] [(.ref a1)]))
  refine own_fwd (fun t k => XS.aloadN X2.here hx rfl (hb hby own_d2_10) rfl rfl k) ?_
  show own_R p.tables e below P (T2.setTop (mkF m 11 #[.val (.ref a1), .val (.long q1), .second, .val .null, .val (.long q2), .second, .val (.int p3)] [.null, (.ref a1)]))
  obtain ⟨T3, h3, X3, e3, W3, st3⟩ := putF X2 hx hZ hown (host := "") (Or.inl (hw _ (List.mem_of_getElem? (i := 14) rfl))) Via.refl e2 pF2_x2 pE_x2 (Or.inr ⟨(hw _ (List.mem_of_getElem? (i := 15) rfl)), rfl, hnm⟩) (hw _ (List.mem_of_getElem? (i := 5) rfl)) (ty := (.object "com/example/leaselock/leaselock/Grant")) (by decide) rfl rfl (g := (mkF m 11 #[.val (.ref a1), .val (.long q1), .second, .val .null, .val (.long q2), .second, .val (.int p3)] [.null, (.ref a1)])) rfl rfl (hb hby own_d2_11)
  have F3_ := pF2_x2.same W3
  have pE_x3 := pE_x2.wr W3
  have F2__x3 := F2_.other W3 (Or.inr (slot_ne (Or.inr (hw _ (List.mem_of_getElem? (i := 13) rfl))) (Or.inr (hw _ (List.mem_of_getElem? (i := 15) rfl))) (by decide) (t := .long) (t' := (.object "com/example/leaselock/leaselock/Grant")) (by decide) (by decide)))
  have pF3_x3 := pF3_x2.other W3 (Or.inr (slot_ne (Or.inr (hw _ (List.mem_of_getElem? (i := 17) rfl))) (Or.inr (hw _ (List.mem_of_getElem? (i := 15) rfl))) (by decide) (t := .long) (t' := (.object "com/example/leaselock/leaselock/Grant")) (by decide) (by decide)))
  have pF4_x3 := pF4_x2.other W3 (Or.inr (slot_ne (Or.inr (hw _ (List.mem_of_getElem? (i := 19) rfl))) (Or.inr (hw _ (List.mem_of_getElem? (i := 15) rfl))) (by decide) (t := .boolean) (t' := (.object "com/example/leaselock/leaselock/Grant")) (by decide) (by decide)))
  have N3 := Fr.snoc X3 N2 pg
  have Z3 : n0 ≤ h3.size := by rw [W3.size]; exact Z2
  have K3 := K2.wr W3 (Or.inl (List.mem_of_getElem? (i := 0) rfl))
  have Y3 : h0.size ≤ h3.size := by rw [W3.size]; exact Y2
  refine own_fwd st3 ?_
  show own_R p.tables e below P (T3.setTop (mkF m 14 #[.val (.ref a1), .val (.long q1), .second, .val .null, .val (.long q2), .second, .val (.int p3)] []))
  refine own_fwd (fun t k => XS.aloadN X3.here hx rfl (hb hby own_d2_14) rfl rfl k) ?_
  show own_R p.tables e below P (T3.setTop (mkF m 15 #[.val (.ref a1), .val (.long q1), .second, .val .null, .val (.long q2), .second, .val (.int p3)] [(.ref a1)]))
  refine own_fwd (fun t k => XS.lload X3.here hx rfl (hb hby own_d2_15) rfl k) ?_
  show own_R p.tables e below P (T3.setTop (mkF m 17 #[.val (.ref a1), .val (.long q1), .second, .val .null, .val (.long q2), .second, .val (.int p3)] [(.long q2), (.ref a1)]))
  obtain ⟨T4, h4, X4, e4, W4, st4⟩ := putF X3 hx hZ hown (host := "") (Or.inl (hw _ (List.mem_of_getElem? (i := 16) rfl))) Via.refl e3 pF3_x3 pE_x3 (Or.inr ⟨(hw _ (List.mem_of_getElem? (i := 17) rfl)), rfl, hnm⟩) (hw _ (List.mem_of_getElem? (i := 5) rfl)) (ty := .long) (by decide) rfl rfl (g := (mkF m 17 #[.val (.ref a1), .val (.long q1), .second, .val .null, .val (.long q2), .second, .val (.int p3)] [(.long q2), (.ref a1)])) rfl rfl (hb hby own_d2_17)
  have F4_ := pF3_x3.same W4
  have pE_x4 := pE_x3.wr W4
  have F2__x4 := F2__x3.other W4 (Or.inr (slot_ne (Or.inr (hw _ (List.mem_of_getElem? (i := 13) rfl))) (Or.inr (hw _ (List.mem_of_getElem? (i := 17) rfl))) (by decide) (t := .long) (t' := .long) (by decide) (by decide)))
  have F3__x4 := F3_.other W4 (Or.inr (slot_ne (Or.inr (hw _ (List.mem_of_getElem? (i := 15) rfl))) (Or.inr (hw _ (List.mem_of_getElem? (i := 17) rfl))) (by decide) (t := (.object "com/example/leaselock/leaselock/Grant")) (t' := .long) (by decide) (by decide)))
  have pF4_x4 := pF4_x3.other W4 (Or.inr (slot_ne (Or.inr (hw _ (List.mem_of_getElem? (i := 19) rfl))) (Or.inr (hw _ (List.mem_of_getElem? (i := 17) rfl))) (by decide) (t := .boolean) (t' := .long) (by decide) (by decide)))
  have N4 := Fr.snoc X4 N3 pg
  have Z4 : n0 ≤ h4.size := by rw [W4.size]; exact Z3
  have K4 := K3.wr W4 (Or.inl (List.mem_of_getElem? (i := 0) rfl))
  have Y4 : h0.size ≤ h4.size := by rw [W4.size]; exact Y3
  refine own_fwd st4 ?_
  show own_R p.tables e below P (T4.setTop (mkF m 20 #[.val (.ref a1), .val (.long q1), .second, .val .null, .val (.long q2), .second, .val (.int p3)] []))
  refine own_fwd (fun t k => XS.aloadN X4.here hx rfl (hb hby own_d2_20) rfl rfl k) ?_
  show own_R p.tables e below P (T4.setTop (mkF m 21 #[.val (.ref a1), .val (.long q1), .second, .val .null, .val (.long q2), .second, .val (.int p3)] [(.ref a1)]))
  refine own_fwd (fun t k => XS.iload X4.here hx rfl (hb hby own_d2_21) rfl k) ?_
  show own_R p.tables e below P (T4.setTop (mkF m 23 #[.val (.ref a1), .val (.long q1), .second, .val .null, .val (.long q2), .second, .val (.int p3)] [(.int p3), (.ref a1)]))
  obtain ⟨T5, h5, X5, e5, W5, st5⟩ := putFN X4 hx hZ hown (hw _ (List.mem_of_getElem? (i := 18) rfl)) Via.refl e4 pF4_x4 pE_x4 (Or.inr ⟨(hw _ (List.mem_of_getElem? (i := 19) rfl)), rfl, hnm⟩) (hw _ (List.mem_of_getElem? (i := 5) rfl)) (ty := .boolean) (v' := (.int p3)) (by decide) (own_z01 pz).1 (own_z01 pz).2 (g := (mkF m 23 #[.val (.ref a1), .val (.long q1), .second, .val .null, .val (.long q2), .second, .val (.int p3)] [(.int p3), (.ref a1)])) rfl rfl (hb hby own_d2_23)
  have F5_ := pF4_x4.same W5
  have pE_x5 := pE_x4.wr W5
  have F2__x5 := F2__x4.other W5 (Or.inr (slot_ne (Or.inr (hw _ (List.mem_of_getElem? (i := 13) rfl))) (Or.inr (hw _ (List.mem_of_getElem? (i := 19) rfl))) (by decide) (t := .long) (t' := .boolean) (by decide) (by decide)))
  have F3__x5 := F3__x4.other W5 (Or.inr (slot_ne (Or.inr (hw _ (List.mem_of_getElem? (i := 15) rfl))) (Or.inr (hw _ (List.mem_of_getElem? (i := 19) rfl))) (by decide) (t := (.object "com/example/leaselock/leaselock/Grant")) (t' := .boolean) (by decide) (by decide)))
  have F4__x5 := F4_.other W5 (Or.inr (slot_ne (Or.inr (hw _ (List.mem_of_getElem? (i := 17) rfl))) (Or.inr (hw _ (List.mem_of_getElem? (i := 19) rfl))) (by decide) (t := .long) (t' := .boolean) (by decide) (by decide)))
  have N5 := Fr.snoc X5 N4 pg
  have Z5 : n0 ≤ h5.size := by rw [W5.size]; exact Z4
  have K5 := K4.wr W5 (Or.inl (List.mem_of_getElem? (i := 0) rfl))
  have Y5 : h0.size ≤ h5.size := by rw [W5.size]; exact Y4
  refine own_fwd st5 ?_
  show own_R p.tables e below P (T5.setTop (mkF m 26 #[.val (.ref a1), .val (.long q1), .second, .val .null, .val (.long q2), .second, .val (.int p3)] []))
  obtain ⟨fs6, hr6, hrun6, hended6, hW6, hsame6⟩ := X5.leave (v := none) (fun _ => rfl)
  refine ⟨_, _, X5.returnOut hx Bd.returns (hb hby own_d2_26) hr6, fin _ _ ⟨hrun6, hended6, _, _, rfl, ?_, ⟨_, rfl⟩, hW6, hsame6.mono (by decide) (by decide)⟩⟩
  show own_Q2 Z a1 q1 q2 p3 h0 n0 _ T5.heap _
  rw [e5]
  exact ⟨rfl, N5, K5, pE_x5, F2__x5, F3__x5, F4__x5, F5_⟩
theorem own_d1_0 : decode prog_1_method_3_code 0 = .ok (.new 8, 3) := by decide +kernel
theorem own_d1_3 : decode prog_1_method_3_code 3 = .ok (.dup, 1) := by decide +kernel
theorem own_d1_4 : decode prog_1_method_3_code 4 = .ok (.lload_n 0, 1) := by decide +kernel
theorem own_d1_5 : decode prog_1_method_3_code 5 = .ok (.aconst_null, 1) := by decide +kernel
theorem own_d1_6 : decode prog_1_method_3_code 6 = .ok (.lload_n 2, 1) := by decide +kernel
theorem own_d1_7 : decode prog_1_method_3_code 7 = .ok (.iconst 1, 1) := by decide +kernel
theorem own_d1_8 : decode prog_1_method_3_code 8 = .ok (.invokespecial 24, 3) := by decide +kernel
theorem own_d1_11 : decode prog_1_method_3_code 11 = .ok (.areturn, 1) := by decide +kernel
theorem own_pd0 : parseMethodDescriptor "(JLcom/example/leaselock/leaselock/Grant;JZ)V" = some ⟨[.long, (.object "com/example/leaselock/leaselock/Grant"), .long, .boolean], none⟩ := by decide +kernel
theorem own_ef1 (m : MethodId) (q1 : Int64) (q2 : Int64) : entryFrame m #[(.long q1), (.long q2)] 4 = mkF m 0 #[.val (.long q1), .second, .val (.long q2), .second] [] := by first | (simp [entryFrame, mkF, argsToLocals, Value.category]; done) | rfl
def own_Q1 (Z : State) (q1 q2 : Int64) (h0 : Heap) (n0 : Nat) (v : Option Value) (h : Heap) (L : List Loc) : Prop := ∃ b, v = some (.ref b) ∧ Fr n0 L ∧ n0 ≤ b ∧ Keep h0 h [] ∧ Exa Z h b "com/example/leaselock/leaselock/Answer" ∧ Fld Z h b "com/example/leaselock/leaselock/Answer" "asked" "J" (.long q1) ∧ Fld Z h b "com/example/leaselock/leaselock/Answer" "grant" "Lcom/example/leaselock/leaselock/Grant;" .null ∧ Fld Z h b "com/example/leaselock/leaselock/Answer" "sleepNanos" "J" (.long q2) ∧ Fld Z h b "com/example/leaselock/leaselock/Answer" "endsAtRelease" "Z" (.int (1 : Int32))
set_option maxRecDepth 65536 in
set_option maxHeartbeats 40000000 in
theorem own_rm1 (l : Launch) (Z : State) (a0 : Array Value) (hw : ∀ d ∈ tables_1, d.before a0 Z = true) (ws : List Jvm.Cond) (q1 q2 : Int64) (h0 : Heap) (n0 : Nat) (Z0 : n0 ≤ h0.size) :
    MetFree l (⟨"com/example/leaselock/leaselock/Answer", "held", "(JJ)Lcom/example/leaselock/leaselock/Answer;"⟩ : MethodName) (head1 (Jvm.Cond.code (⟨"com/example/leaselock/leaselock/Answer", "held", "(JJ)Lcom/example/leaselock/leaselock/Answer;"⟩ : MethodName) prog_1_method_3_code 4 (some (.object "com/example/leaselock/leaselock/Answer")) :: ws) ({ frames := 2, cells := 1, slots := 4, locals := 31 } : Room)) (fun a U => a = #[(.long q1), (.long q2)] ∧ Z.Warmed39 U.vm ∧ U.heap = h0) (fun _ _ _ _ _ => True) (fun _ U o U' => ∃ v L, o = .returned v ∧ own_Q1 Z q1 q2 h0 n0 v U'.heap L ∧ FrameEnd U o U' L ({ frames := 2, cells := 1, slots := 4, locals := 31 } : Room).cells ({ frames := 2, cells := 1, slots := 4, locals := 31 } : Room).slots) := by
  refine MetFree.of_bodySF (plainFor_of_name own_pn0) hisR ?_
  intro p e s m args below meth c s₁ Bd hml0 hP hK
  obtain ⟨rfl, hZ, hh⟩ := hP
  have hx := Bd.exec
  have hby := Bd.bytes
  have hml : c.maxLocals = 4 := hml0
  have hown : s.vm.findClass "com/example/leaselock/leaselock/Answer" = some m.cls := findClass_of_methodNamed Bd.named
  have hnm := (name_of_methodNamed Bd.named Bd.method).1
  have X0 : Stand p l e ({ frames := 2, cells := 1, slots := 4, locals := 31 } : Room) s m #[(.long q1), (.long q2)] below meth c s₁ [] 0 0 := Stand.of_body Bd
  have e0 : s₁.heap = h0 := by rw [← hh, Bd.state]; rfl
  have N0 := Fr.nil n0
  refine own_nm (st := s₁.setTop (entryFrame m #[(.long q1), (.long q2)] 4)) fun P fin => ?_
  refine own_fwd (fun t k => castTop (own_ef1 m q1 q2) k) ?_
  show own_R p.tables e below P (s₁.setTop (mkF m 0 #[.val (.long q1), .second, .val (.long q2), .second] []))
  have K0 := Keep.refl h0 []
  obtain ⟨T7, h7, X7, e7, E7, A7, D7, -, st7⟩ := newO X0 hx hZ hown (hw _ (List.mem_of_getElem? (i := 4) rfl)) (hw _ (List.mem_of_getElem? (i := 5) rfl)) (hw _ (List.mem_of_getElem? (i := 2) rfl)) e0 (g := (mkF m 0 #[.val (.long q1), .second, .val (.long q2), .second] [])) rfl (hb hby own_d1_0) (by decide) (by decide)
  obtain ⟨b7, g7⟩ : ∃ z, z = h0.size := ⟨_, rfl⟩
  rw [← g7] at A7 D7 st7
  have ge_b7 : n0 ≤ b7 := by rw [g7]; exact Z0
  have sz_b7 : h0.size ≤ b7 := by rw [g7]; exact (Nat.le_refl h0.size)
  have F7_asked : Fld Z h7 b7 "com/example/leaselock/leaselock/Answer" "asked" "J" (.long (0 : Int64)) := D7 (Or.inr (hw _ (List.mem_of_getElem? (i := 13) rfl))) (ty := .long) (by decide)
  have F7_grant : Fld Z h7 b7 "com/example/leaselock/leaselock/Answer" "grant" "Lcom/example/leaselock/leaselock/Grant;" .null := D7 (Or.inr (hw _ (List.mem_of_getElem? (i := 15) rfl))) (ty := (.object "com/example/leaselock/leaselock/Grant")) (by decide)
  have F7_sleepNanos : Fld Z h7 b7 "com/example/leaselock/leaselock/Answer" "sleepNanos" "J" (.long (0 : Int64)) := D7 (Or.inr (hw _ (List.mem_of_getElem? (i := 17) rfl))) (ty := .long) (by decide)
  have F7_endsAtRelease : Fld Z h7 b7 "com/example/leaselock/leaselock/Answer" "endsAtRelease" "Z" (.int (0 : Int32)) := D7 (Or.inr (hw _ (List.mem_of_getElem? (i := 19) rfl))) (ty := .boolean) (by decide)
  have Z7 : n0 ≤ h7.size := Nat.le_trans Z0 E7.1
  have K7 := K0.ext E7
  have Y7 : h0.size ≤ h7.size := Nat.le_trans (Nat.le_refl h0.size) E7.1
  refine own_fwd st7 ?_
  show own_R p.tables e below P (T7.setTop (mkF m 3 #[.val (.long q1), .second, .val (.long q2), .second] [(.ref b7)]))
  refine own_fwd (fun t k => XS.dup X7.here hx rfl (hb hby own_d1_3) rfl rfl k) ?_
  show own_R p.tables e below P (T7.setTop (mkF m 4 #[.val (.long q1), .second, .val (.long q2), .second] [(.ref b7), (.ref b7)]))
  refine own_fwd (fun t k => XS.lloadN X7.here hx rfl (hb hby own_d1_4) rfl k) ?_
  show own_R p.tables e below P (T7.setTop (mkF m 5 #[.val (.long q1), .second, .val (.long q2), .second] [(.long q1), (.ref b7), (.ref b7)]))
  refine own_fwd (fun t k => XS.aconstNull X7.here hx rfl (hb hby own_d1_5) k) ?_
  show own_R p.tables e below P (T7.setTop (mkF m 6 #[.val (.long q1), .second, .val (.long q2), .second] [.null, (.long q1), (.ref b7), (.ref b7)]))
  refine own_fwd (fun t k => XS.lloadN X7.here hx rfl (hb hby own_d1_6) rfl k) ?_
  show own_R p.tables e below P (T7.setTop (mkF m 7 #[.val (.long q1), .second, .val (.long q2), .second] [(.long q2), .null, (.long q1), (.ref b7), (.ref b7)]))
  refine own_fwd (fun t k => XS.iconst X7.here hx rfl (hb hby own_d1_7) k) ?_
  show own_R p.tables e below P (T7.setTop (mkF m 8 #[.val (.long q1), .second, .val (.long q2), .second] [(.int (1 : Int32)), (.long q2), .null, (.long q1), (.ref b7), (.ref b7)]))
  obtain ⟨_, _, ⟨T8, L8, k8, n8⟩, -, X8, ⟨Lc8, hQ8, l8, y8, z8⟩, st8⟩ := X7.specialBack hx (y := (⟨"com/example/leaselock/leaselock/Answer", "<init>", "(JLcom/example/leaselock/leaselock/Grant;JZ)V"⟩ : MethodName)) rfl hown (mvT hZ (hw _ (List.mem_of_getElem? (i := 6) rfl))) (mvT hZ (hw _ (List.mem_of_getElem? (i := 7) rfl))) (mvT hZ (hw _ (List.mem_of_getElem? (i := 8) rfl))) (by decide) (backOf (W := 1) (own_rm2 l Z a0 hw [] b7 q1 q2 (1 : Int32) h7 n0 Z7 A7 F7_asked F7_grant F7_sleepNanos F7_endsAtRelease ge_b7 (by decide)) hZ (hw _ (List.mem_of_getElem? (i := 8) rfl)) (hw _ (List.mem_of_getElem? (i := 2) rfl)) (by decide) (by decide)) (g := (mkF m 8 #[.val (.long q1), .second, .val (.long q2), .second] [(.int (1 : Int32)), (.long q2), .null, (.long q1), (.ref b7), (.ref b7)])) rfl (by rw [hml]; rfl) (Steps.refl _) (a := b7) (argsL := [(.long q1), .null, (.long q2), (.int (1 : Int32))]) (rest := [(.ref b7)]) (lenOf own_pd0 rfl) rfl (by show 2 * 0 + _ ≤ _; exact Nat.le_of_eq rfl) (hb hby own_d1_8) (fun _ _ => ⟨rfl, e7, (by decide : 1 + 0 ≤ _), (by decide : 4 + 0 ≤ _)⟩)
  dsimp only [Pt.U, Pt.locs, Pt.cells, Pt.slots] at X8 l8 y8 z8 st8 hQ8
  subst l8 y8 z8
  obtain ⟨h8, e8⟩ : ∃ z, T8.heap = z := ⟨_, rfl⟩
  rw [e8] at hQ8
  obtain ⟨hq8, N8q, K8, E8_, G8_, H8_, I8_, J8_⟩ := hQ8
  subst hq8
  have N8 := Fr.app N0 N8q
  have A7_x8 := A7.keep K8
  have Z8 : n0 ≤ h8.size := Nat.le_trans Z7 K8.1
  have KK8 := K7.trans K8 (allS (Or.inr sz_b7) all0)
  have Y8 : h0.size ≤ h8.size := Nat.le_trans Y7 K8.1
  refine own_trn st8 ?_
  show own_R p.tables e below P (T8.setTop (mkF m 11 #[.val (.long q1), .second, .val (.long q2), .second] [(.ref b7)]))
  obtain ⟨fs9, hr9, hrun9, hended9, hW9, hsame9⟩ := X8.leave (v := some (.ref b7)) (fun h => by rw [Bd.returns] at h; cases h)
  refine ⟨_, _, X8.areturnOut hx rfl Bd.returns rfl (hb hby own_d1_11) hr9, fin _ _ ⟨hrun9, hended9, _, _, rfl, ?_, ⟨_, rfl⟩, hW9, hsame9.mono (by decide) (by decide)⟩⟩
  show own_Q1 Z q1 q2 h0 n0 _ T8.heap _
  rw [e8]
  exact ⟨b7, rfl, N8, ge_b7, KK8, E8_, G8_, H8_, I8_, J8_⟩
theorem own_d4_0 : decode prog_1_method_6_code 0 = .ok (.aload_n 0, 1) := by decide +kernel
theorem own_d4_1 : decode prog_1_method_6_code 1 = .ok (.getfield 7, 3) := by decide +kernel
theorem own_d4_4 : decode prog_1_method_6_code 4 = .ok (.lreturn, 1) := by decide +kernel
theorem own_ef4 (m : MethodId) (a1 : Addr) : entryFrame m #[(.ref a1)] 1 = mkF m 0 #[.val (.ref a1)] [] := by first | (simp [entryFrame, mkF, argsToLocals, Value.category]; done) | rfl
def own_Q4 (Z : State) (a1 : Addr) (u : Int64) (h0 : Heap) (n0 : Nat) (v : Option Value) (h : Heap) (L : List Loc) : Prop := v = some (.long u) ∧ Fr n0 L ∧ h = h0
set_option maxRecDepth 65536 in
set_option maxHeartbeats 40000000 in
theorem own_rm4 (l : Launch) (Z : State) (a0 : Array Value) (hw : ∀ d ∈ tables_1, d.before a0 Z = true) (ws : List Jvm.Cond) (a1 : Addr) (u : Int64) (h0 : Heap) (n0 : Nat) (Z0 : n0 ≤ h0.size) (pF : Fld Z h0 a1 "com/example/leaselock/leaselock/Answer" "asked" "J" (.long u)) :
    MetFree l (⟨"com/example/leaselock/leaselock/Answer", "asked", "()J"⟩ : MethodName) (head1 (Jvm.Cond.code (⟨"com/example/leaselock/leaselock/Answer", "asked", "()J"⟩ : MethodName) prog_1_method_6_code 1 (some .long) :: ws) ({ frames := 0, cells := 0, slots := 0, locals := 0 } : Room)) (fun a U => a = #[(.ref a1)] ∧ Z.Warmed39 U.vm ∧ U.heap = h0) (fun _ _ _ _ _ => True) (fun _ U o U' => ∃ v L, o = .returned v ∧ own_Q4 Z a1 u h0 n0 v U'.heap L ∧ FrameEnd U o U' L ({ frames := 0, cells := 0, slots := 0, locals := 0 } : Room).cells ({ frames := 0, cells := 0, slots := 0, locals := 0 } : Room).slots) := by
  refine MetFree.of_bodySF (plainFor_of_name own_pn0) hisR ?_
  intro p e s m args below meth c s₁ Bd hml0 hP hK
  obtain ⟨rfl, hZ, hh⟩ := hP
  have hx := Bd.exec
  have hby := Bd.bytes
  have hml : c.maxLocals = 1 := hml0
  have hown : s.vm.findClass "com/example/leaselock/leaselock/Answer" = some m.cls := findClass_of_methodNamed Bd.named
  have hnm := (name_of_methodNamed Bd.named Bd.method).1
  have X0 : Stand p l e ({ frames := 0, cells := 0, slots := 0, locals := 0 } : Room) s m #[(.ref a1)] below meth c s₁ [] 0 0 := Stand.of_body Bd
  have e0 : s₁.heap = h0 := by rw [← hh, Bd.state]; rfl
  have N0 := Fr.nil n0
  refine own_nm (st := s₁.setTop (entryFrame m #[(.ref a1)] 1)) fun P fin => ?_
  refine own_fwd (fun t k => castTop (own_ef4 m a1) k) ?_
  show own_R p.tables e below P (s₁.setTop (mkF m 0 #[.val (.ref a1)] []))
  refine own_fwd (fun t k => XS.aloadN X0.here hx rfl (hb hby own_d4_0) rfl rfl k) ?_
  show own_R p.tables e below P (s₁.setTop (mkF m 1 #[.val (.ref a1)] [(.ref a1)]))
  obtain ⟨T10, X10, e10, st10⟩ := getF X0 hx hZ hown (host := "") (Or.inl (hw _ (List.mem_of_getElem? (i := 12) rfl))) Via.refl e0 pF (g := (mkF m 1 #[.val (.ref a1)] [(.ref a1)])) rfl rfl (hb hby own_d4_1)
  refine own_fwd st10 ?_
  show own_R p.tables e below P (T10.setTop (mkF m 4 #[.val (.ref a1)] [(.long u)]))
  obtain ⟨fs11, hr11, hrun11, hended11, hW11, hsame11⟩ := X10.leave (v := some (.long u)) (fun h => by rw [Bd.returns] at h; cases h)
  refine ⟨_, _, X10.lreturnOut hx Bd.returns (hb hby own_d4_4) hr11, fin _ _ ⟨hrun11, hended11, _, _, rfl, ?_, ⟨_, rfl⟩, hW11, hsame11.mono (by decide) (by decide)⟩⟩
  show own_Q4 Z a1 u h0 n0 _ T10.heap _
  rw [e10]
  exact ⟨rfl, N0, rfl⟩
theorem own_d6_0 : decode prog_1_method_8_code 0 = .ok (.aload_n 0, 1) := by decide +kernel
theorem own_d6_1 : decode prog_1_method_8_code 1 = .ok (.getfield 13, 3) := by decide +kernel
theorem own_d6_4 : decode prog_1_method_8_code 4 = .ok (.areturn, 1) := by decide +kernel
theorem own_ef6 (m : MethodId) (a1 : Addr) : entryFrame m #[(.ref a1)] 1 = mkF m 0 #[.val (.ref a1)] [] := by first | (simp [entryFrame, mkF, argsToLocals, Value.category]; done) | rfl
def own_Q6 (Z : State) (a1 : Addr)  (h0 : Heap) (n0 : Nat) (v : Option Value) (h : Heap) (L : List Loc) : Prop := v = some .null ∧ Fr n0 L ∧ h = h0
set_option maxRecDepth 65536 in
set_option maxHeartbeats 40000000 in
theorem own_rm6 (l : Launch) (Z : State) (a0 : Array Value) (hw : ∀ d ∈ tables_1, d.before a0 Z = true) (ws : List Jvm.Cond) (a1 : Addr)  (h0 : Heap) (n0 : Nat) (Z0 : n0 ≤ h0.size) (pF : Fld Z h0 a1 "com/example/leaselock/leaselock/Answer" "grant" "Lcom/example/leaselock/leaselock/Grant;" .null) :
    MetFree l (⟨"com/example/leaselock/leaselock/Answer", "grant", "()Lcom/example/leaselock/leaselock/Grant;"⟩ : MethodName) (head1 (Jvm.Cond.code (⟨"com/example/leaselock/leaselock/Answer", "grant", "()Lcom/example/leaselock/leaselock/Grant;"⟩ : MethodName) prog_1_method_8_code 1 (some (.object "com/example/leaselock/leaselock/Grant")) :: ws) ({ frames := 0, cells := 0, slots := 0, locals := 0 } : Room)) (fun a U => a = #[(.ref a1)] ∧ Z.Warmed39 U.vm ∧ U.heap = h0) (fun _ _ _ _ _ => True) (fun _ U o U' => ∃ v L, o = .returned v ∧ own_Q6 Z a1 h0 n0 v U'.heap L ∧ FrameEnd U o U' L ({ frames := 0, cells := 0, slots := 0, locals := 0 } : Room).cells ({ frames := 0, cells := 0, slots := 0, locals := 0 } : Room).slots) := by
  refine MetFree.of_bodySF (plainFor_of_name own_pn0) hisR ?_
  intro p e s m args below meth c s₁ Bd hml0 hP hK
  obtain ⟨rfl, hZ, hh⟩ := hP
  have hx := Bd.exec
  have hby := Bd.bytes
  have hml : c.maxLocals = 1 := hml0
  have hown : s.vm.findClass "com/example/leaselock/leaselock/Answer" = some m.cls := findClass_of_methodNamed Bd.named
  have hnm := (name_of_methodNamed Bd.named Bd.method).1
  have X0 : Stand p l e ({ frames := 0, cells := 0, slots := 0, locals := 0 } : Room) s m #[(.ref a1)] below meth c s₁ [] 0 0 := Stand.of_body Bd
  have e0 : s₁.heap = h0 := by rw [← hh, Bd.state]; rfl
  have N0 := Fr.nil n0
  refine own_nm (st := s₁.setTop (entryFrame m #[(.ref a1)] 1)) fun P fin => ?_
  refine own_fwd (fun t k => castTop (own_ef6 m a1) k) ?_
  show own_R p.tables e below P (s₁.setTop (mkF m 0 #[.val (.ref a1)] []))
  refine own_fwd (fun t k => XS.aloadN X0.here hx rfl (hb hby own_d6_0) rfl rfl k) ?_
  show own_R p.tables e below P (s₁.setTop (mkF m 1 #[.val (.ref a1)] [(.ref a1)]))
  obtain ⟨T12, X12, e12, st12⟩ := getF X0 hx hZ hown (host := "") (Or.inl (hw _ (List.mem_of_getElem? (i := 14) rfl))) Via.refl e0 pF (g := (mkF m 1 #[.val (.ref a1)] [(.ref a1)])) rfl rfl (hb hby own_d6_1)
  refine own_fwd st12 ?_
  show own_R p.tables e below P (T12.setTop (mkF m 4 #[.val (.ref a1)] [.null]))
  obtain ⟨fs13, hr13, hrun13, hended13, hW13, hsame13⟩ := X12.leave (v := some .null) (fun h => by rw [Bd.returns] at h; cases h)
  refine ⟨_, _, X12.areturnOut hx rfl Bd.returns rfl (hb hby own_d6_4) hr13, fin _ _ ⟨hrun13, hended13, _, _, rfl, ?_, ⟨_, rfl⟩, hW13, hsame13.mono (by decide) (by decide)⟩⟩
  show own_Q6 Z a1 h0 n0 _ T12.heap _
  rw [e12]
  exact ⟨rfl, N0, rfl⟩
theorem own_d7_0 : decode prog_1_method_9_code 0 = .ok (.aload_n 0, 1) := by decide +kernel
theorem own_d7_1 : decode prog_1_method_9_code 1 = .ok (.getfield 17, 3) := by decide +kernel
theorem own_d7_4 : decode prog_1_method_9_code 4 = .ok (.lreturn, 1) := by decide +kernel
theorem own_ef7 (m : MethodId) (a1 : Addr) : entryFrame m #[(.ref a1)] 1 = mkF m 0 #[.val (.ref a1)] [] := by first | (simp [entryFrame, mkF, argsToLocals, Value.category]; done) | rfl
def own_Q7 (Z : State) (a1 : Addr) (u : Int64) (h0 : Heap) (n0 : Nat) (v : Option Value) (h : Heap) (L : List Loc) : Prop := v = some (.long u) ∧ Fr n0 L ∧ h = h0
set_option maxRecDepth 65536 in
set_option maxHeartbeats 40000000 in
theorem own_rm7 (l : Launch) (Z : State) (a0 : Array Value) (hw : ∀ d ∈ tables_1, d.before a0 Z = true) (ws : List Jvm.Cond) (a1 : Addr) (u : Int64) (h0 : Heap) (n0 : Nat) (Z0 : n0 ≤ h0.size) (pF : Fld Z h0 a1 "com/example/leaselock/leaselock/Answer" "sleepNanos" "J" (.long u)) :
    MetFree l (⟨"com/example/leaselock/leaselock/Answer", "sleepNanos", "()J"⟩ : MethodName) (head1 (Jvm.Cond.code (⟨"com/example/leaselock/leaselock/Answer", "sleepNanos", "()J"⟩ : MethodName) prog_1_method_9_code 1 (some .long) :: ws) ({ frames := 0, cells := 0, slots := 0, locals := 0 } : Room)) (fun a U => a = #[(.ref a1)] ∧ Z.Warmed39 U.vm ∧ U.heap = h0) (fun _ _ _ _ _ => True) (fun _ U o U' => ∃ v L, o = .returned v ∧ own_Q7 Z a1 u h0 n0 v U'.heap L ∧ FrameEnd U o U' L ({ frames := 0, cells := 0, slots := 0, locals := 0 } : Room).cells ({ frames := 0, cells := 0, slots := 0, locals := 0 } : Room).slots) := by
  refine MetFree.of_bodySF (plainFor_of_name own_pn0) hisR ?_
  intro p e s m args below meth c s₁ Bd hml0 hP hK
  obtain ⟨rfl, hZ, hh⟩ := hP
  have hx := Bd.exec
  have hby := Bd.bytes
  have hml : c.maxLocals = 1 := hml0
  have hown : s.vm.findClass "com/example/leaselock/leaselock/Answer" = some m.cls := findClass_of_methodNamed Bd.named
  have hnm := (name_of_methodNamed Bd.named Bd.method).1
  have X0 : Stand p l e ({ frames := 0, cells := 0, slots := 0, locals := 0 } : Room) s m #[(.ref a1)] below meth c s₁ [] 0 0 := Stand.of_body Bd
  have e0 : s₁.heap = h0 := by rw [← hh, Bd.state]; rfl
  have N0 := Fr.nil n0
  refine own_nm (st := s₁.setTop (entryFrame m #[(.ref a1)] 1)) fun P fin => ?_
  refine own_fwd (fun t k => castTop (own_ef7 m a1) k) ?_
  show own_R p.tables e below P (s₁.setTop (mkF m 0 #[.val (.ref a1)] []))
  refine own_fwd (fun t k => XS.aloadN X0.here hx rfl (hb hby own_d7_0) rfl rfl k) ?_
  show own_R p.tables e below P (s₁.setTop (mkF m 1 #[.val (.ref a1)] [(.ref a1)]))
  obtain ⟨T14, X14, e14, st14⟩ := getF X0 hx hZ hown (host := "") (Or.inl (hw _ (List.mem_of_getElem? (i := 16) rfl))) Via.refl e0 pF (g := (mkF m 1 #[.val (.ref a1)] [(.ref a1)])) rfl rfl (hb hby own_d7_1)
  refine own_fwd st14 ?_
  show own_R p.tables e below P (T14.setTop (mkF m 4 #[.val (.ref a1)] [(.long u)]))
  obtain ⟨fs15, hr15, hrun15, hended15, hW15, hsame15⟩ := X14.leave (v := some (.long u)) (fun h => by rw [Bd.returns] at h; cases h)
  refine ⟨_, _, X14.lreturnOut hx Bd.returns (hb hby own_d7_4) hr15, fin _ _ ⟨hrun15, hended15, _, _, rfl, ?_, ⟨_, rfl⟩, hW15, hsame15.mono (by decide) (by decide)⟩⟩
  show own_Q7 Z a1 u h0 n0 _ T14.heap _
  rw [e14]
  exact ⟨rfl, N0, rfl⟩
theorem own_d8_0 : decode prog_1_method_10_code 0 = .ok (.aload_n 0, 1) := by decide +kernel
theorem own_d8_1 : decode prog_1_method_10_code 1 = .ok (.getfield 20, 3) := by decide +kernel
theorem own_d8_4 : decode prog_1_method_10_code 4 = .ok (.ireturn, 1) := by decide +kernel
theorem own_ef8 (m : MethodId) (a1 : Addr) : entryFrame m #[(.ref a1)] 1 = mkF m 0 #[.val (.ref a1)] [] := by first | (simp [entryFrame, mkF, argsToLocals, Value.category]; done) | rfl
def own_Q8 (Z : State) (a1 : Addr) (u : Int32) (h0 : Heap) (n0 : Nat) (v : Option Value) (h : Heap) (L : List Loc) : Prop := v = some (.int u) ∧ Fr n0 L ∧ h = h0
set_option maxRecDepth 65536 in
set_option maxHeartbeats 40000000 in
theorem own_rm8 (l : Launch) (Z : State) (a0 : Array Value) (hw : ∀ d ∈ tables_1, d.before a0 Z = true) (ws : List Jvm.Cond) (a1 : Addr) (u : Int32) (h0 : Heap) (n0 : Nat) (Z0 : n0 ≤ h0.size) (pF : Fld Z h0 a1 "com/example/leaselock/leaselock/Answer" "endsAtRelease" "Z" (.int u)) (pz : u = 0 ∨ u = 1) :
    MetFree l (⟨"com/example/leaselock/leaselock/Answer", "endsAtRelease", "()Z"⟩ : MethodName) (head1 (Jvm.Cond.code (⟨"com/example/leaselock/leaselock/Answer", "endsAtRelease", "()Z"⟩ : MethodName) prog_1_method_10_code 1 (some .boolean) :: ws) ({ frames := 0, cells := 0, slots := 0, locals := 0 } : Room)) (fun a U => a = #[(.ref a1)] ∧ Z.Warmed39 U.vm ∧ U.heap = h0) (fun _ _ _ _ _ => True) (fun _ U o U' => ∃ v L, o = .returned v ∧ own_Q8 Z a1 u h0 n0 v U'.heap L ∧ FrameEnd U o U' L ({ frames := 0, cells := 0, slots := 0, locals := 0 } : Room).cells ({ frames := 0, cells := 0, slots := 0, locals := 0 } : Room).slots) := by
  refine MetFree.of_bodySF (plainFor_of_name own_pn0) hisR ?_
  intro p e s m args below meth c s₁ Bd hml0 hP hK
  obtain ⟨rfl, hZ, hh⟩ := hP
  have hx := Bd.exec
  have hby := Bd.bytes
  have hml : c.maxLocals = 1 := hml0
  have hown : s.vm.findClass "com/example/leaselock/leaselock/Answer" = some m.cls := findClass_of_methodNamed Bd.named
  have hnm := (name_of_methodNamed Bd.named Bd.method).1
  have X0 : Stand p l e ({ frames := 0, cells := 0, slots := 0, locals := 0 } : Room) s m #[(.ref a1)] below meth c s₁ [] 0 0 := Stand.of_body Bd
  have e0 : s₁.heap = h0 := by rw [← hh, Bd.state]; rfl
  have N0 := Fr.nil n0
  refine own_nm (st := s₁.setTop (entryFrame m #[(.ref a1)] 1)) fun P fin => ?_
  refine own_fwd (fun t k => castTop (own_ef8 m a1) k) ?_
  show own_R p.tables e below P (s₁.setTop (mkF m 0 #[.val (.ref a1)] []))
  refine own_fwd (fun t k => XS.aloadN X0.here hx rfl (hb hby own_d8_0) rfl rfl k) ?_
  show own_R p.tables e below P (s₁.setTop (mkF m 1 #[.val (.ref a1)] [(.ref a1)]))
  obtain ⟨T16, X16, e16, st16⟩ := getF X0 hx hZ hown (host := "") (Or.inl (hw _ (List.mem_of_getElem? (i := 18) rfl))) Via.refl e0 pF (g := (mkF m 1 #[.val (.ref a1)] [(.ref a1)])) rfl rfl (hb hby own_d8_1)
  refine own_fwd st16 ?_
  show own_R p.tables e below P (T16.setTop (mkF m 4 #[.val (.ref a1)] [(.int u)]))
  obtain ⟨fs17, hr17, hrun17, hended17, hW17, hsame17⟩ := X16.leave (v := some (.int u)) (fun h => by rw [Bd.returns] at h; cases h)
  refine ⟨_, _, X16.ireturnOut hx (w := u) Bd.returns (own_z01 pz).1 (by simp) (hb hby own_d8_4) hr17, fin _ _ ⟨hrun17, hended17, _, _, rfl, ?_, ⟨_, rfl⟩, hW17, hsame17.mono (by decide) (by decide)⟩⟩
  show own_Q8 Z a1 u h0 n0 _ T16.heap _
  rw [e16]
  exact ⟨rfl, N0, rfl⟩
theorem own_d5_0 : decode prog_1_method_7_code 0 = .ok (.aload_n 0, 1) := by decide +kernel
theorem own_d5_1 : decode prog_1_method_7_code 1 = .ok (.getfield 13, 3) := by decide +kernel
theorem own_d5_4 : decode prog_1_method_7_code 4 = .ok (.ifnull 7, 3) := by decide +kernel
theorem own_d5_7 : decode prog_1_method_7_code 7 = .ok (.iconst 1, 1) := by decide +kernel
theorem own_d5_8 : decode prog_1_method_7_code 8 = .ok (.goto 4, 3) := by decide +kernel
theorem own_d5_11 : decode prog_1_method_7_code 11 = .ok (.iconst 0, 1) := by decide +kernel
theorem own_d5_12 : decode prog_1_method_7_code 12 = .ok (.ireturn, 1) := by decide +kernel
theorem own_ef5 (m : MethodId) (a1 : Addr) : entryFrame m #[(.ref a1)] 1 = mkF m 0 #[.val (.ref a1)] [] := by first | (simp [entryFrame, mkF, argsToLocals, Value.category]; done) | rfl
def own_Q5 (Z : State) (a1 : Addr)  (h0 : Heap) (n0 : Nat) (v : Option Value) (h : Heap) (L : List Loc) : Prop := v = some (.int (0 : Int32)) ∧ Fr n0 L ∧ h = h0
set_option maxRecDepth 65536 in
set_option maxHeartbeats 40000000 in
theorem own_rm5 (l : Launch) (Z : State) (a0 : Array Value) (hw : ∀ d ∈ tables_1, d.before a0 Z = true) (ws : List Jvm.Cond) (a1 : Addr)  (h0 : Heap) (n0 : Nat) (Z0 : n0 ≤ h0.size) (pF : Fld Z h0 a1 "com/example/leaselock/leaselock/Answer" "grant" "Lcom/example/leaselock/leaselock/Grant;" .null) :
    MetFree l (⟨"com/example/leaselock/leaselock/Answer", "granted", "()Z"⟩ : MethodName) (head1 (Jvm.Cond.code (⟨"com/example/leaselock/leaselock/Answer", "granted", "()Z"⟩ : MethodName) prog_1_method_7_code 1 (some .boolean) :: ws) ({ frames := 0, cells := 0, slots := 0, locals := 0 } : Room)) (fun a U => a = #[(.ref a1)] ∧ Z.Warmed39 U.vm ∧ U.heap = h0) (fun _ _ _ _ _ => True) (fun _ U o U' => ∃ v L, o = .returned v ∧ own_Q5 Z a1 h0 n0 v U'.heap L ∧ FrameEnd U o U' L ({ frames := 0, cells := 0, slots := 0, locals := 0 } : Room).cells ({ frames := 0, cells := 0, slots := 0, locals := 0 } : Room).slots) := by
  refine MetFree.of_bodySF (plainFor_of_name own_pn0) hisR ?_
  intro p e s m args below meth c s₁ Bd hml0 hP hK
  obtain ⟨rfl, hZ, hh⟩ := hP
  have hx := Bd.exec
  have hby := Bd.bytes
  have hml : c.maxLocals = 1 := hml0
  have hown : s.vm.findClass "com/example/leaselock/leaselock/Answer" = some m.cls := findClass_of_methodNamed Bd.named
  have hnm := (name_of_methodNamed Bd.named Bd.method).1
  have X0 : Stand p l e ({ frames := 0, cells := 0, slots := 0, locals := 0 } : Room) s m #[(.ref a1)] below meth c s₁ [] 0 0 := Stand.of_body Bd
  have e0 : s₁.heap = h0 := by rw [← hh, Bd.state]; rfl
  have N0 := Fr.nil n0
  refine own_nm (st := s₁.setTop (entryFrame m #[(.ref a1)] 1)) fun P fin => ?_
  refine own_fwd (fun t k => castTop (own_ef5 m a1) k) ?_
  show own_R p.tables e below P (s₁.setTop (mkF m 0 #[.val (.ref a1)] []))
  refine own_fwd (fun t k => XS.aloadN X0.here hx rfl (hb hby own_d5_0) rfl rfl k) ?_
  show own_R p.tables e below P (s₁.setTop (mkF m 1 #[.val (.ref a1)] [(.ref a1)]))
  obtain ⟨T18, X18, e18, st18⟩ := getF X0 hx hZ hown (host := "") (Or.inl (hw _ (List.mem_of_getElem? (i := 14) rfl))) Via.refl e0 pF (g := (mkF m 1 #[.val (.ref a1)] [(.ref a1)])) rfl rfl (hb hby own_d5_1)
  refine own_fwd st18 ?_
  show own_R p.tables e below P (T18.setTop (mkF m 4 #[.val (.ref a1)] [.null]))
  refine own_fwd (fun t k => XS.ifnullYes X18.here hx rfl (pc0 := 4) (pc' := 11) rfl (hb hby own_d5_4) rfl (by decide) (by decide) k) ?_
  show own_R p.tables e below P (T18.setTop (mkF m 11 #[.val (.ref a1)] []))
  refine own_fwd (fun t k => XS.iconst X18.here hx rfl (hb hby own_d5_11) k) ?_
  show own_R p.tables e below P (T18.setTop (mkF m 12 #[.val (.ref a1)] [(.int (0 : Int32))]))
  obtain ⟨fs19, hr19, hrun19, hended19, hW19, hsame19⟩ := X18.leave (v := some (.int (0 : Int32))) (fun h => by rw [Bd.returns] at h; cases h)
  refine ⟨_, _, X18.ireturnOut hx (w := (0 : Int32)) Bd.returns rfl (by simp) (hb hby own_d5_12) hr19, fin _ _ ⟨hrun19, hended19, _, _, rfl, ?_, ⟨_, rfl⟩, hW19, hsame19.mono (by decide) (by decide)⟩⟩
  show own_Q5 Z a1 h0 n0 _ T18.heap _
  rw [e18]
  exact ⟨rfl, N0, rfl⟩
theorem own_d9_0 : decode prog_1_method_5_code 0 = .ok (.aload_n 0, 1) := by decide +kernel
theorem own_d9_1 : decode prog_1_method_5_code 1 = .ok (.astore_n 3, 1) := by decide +kernel
theorem own_d9_2 : decode prog_1_method_5_code 2 = .ok (.aload_n 0, 1) := by decide +kernel
theorem own_d9_3 : decode prog_1_method_5_code 3 = .ok (.getfield 13, 3) := by decide +kernel
theorem own_d9_6 : decode prog_1_method_5_code 6 = .ok (.ifnonnull 30, 3) := by decide +kernel
theorem own_d9_9 : decode prog_1_method_5_code 9 = .ok (.aload_n 0, 1) := by decide +kernel
theorem own_d9_10 : decode prog_1_method_5_code 10 = .ok (.getfield 17, 3) := by decide +kernel
theorem own_d9_13 : decode prog_1_method_5_code 13 = .ok (.lload_n 1, 1) := by decide +kernel
theorem own_d9_14 : decode prog_1_method_5_code 14 = .ok (.lcmp, 1) := by decide +kernel
theorem own_d9_15 : decode prog_1_method_5_code 15 = .ok (.ifCond .le 21, 3) := by decide +kernel
theorem own_d9_18 : decode prog_1_method_5_code 18 = .ok (.new 8, 3) := by decide +kernel
theorem own_d9_21 : decode prog_1_method_5_code 21 = .ok (.dup, 1) := by decide +kernel
theorem own_d9_22 : decode prog_1_method_5_code 22 = .ok (.aload_n 0, 1) := by decide +kernel
theorem own_d9_23 : decode prog_1_method_5_code 23 = .ok (.getfield 7, 3) := by decide +kernel
theorem own_d9_26 : decode prog_1_method_5_code 26 = .ok (.aconst_null, 1) := by decide +kernel
theorem own_d9_27 : decode prog_1_method_5_code 27 = .ok (.lload_n 1, 1) := by decide +kernel
theorem own_d9_28 : decode prog_1_method_5_code 28 = .ok (.aload_n 0, 1) := by decide +kernel
theorem own_d9_29 : decode prog_1_method_5_code 29 = .ok (.getfield 20, 3) := by decide +kernel
theorem own_d9_32 : decode prog_1_method_5_code 32 = .ok (.invokespecial 24, 3) := by decide +kernel
theorem own_d9_35 : decode prog_1_method_5_code 35 = .ok (.astore_n 3, 1) := by decide +kernel
theorem own_d9_36 : decode prog_1_method_5_code 36 = .ok (.aload_n 3, 1) := by decide +kernel
theorem own_d9_37 : decode prog_1_method_5_code 37 = .ok (.areturn, 1) := by decide +kernel
theorem own_ef9 (m : MethodId) (a1 : Addr) (q3 : Int64) : entryFrame m #[(.ref a1), (.long q3)] 4 = mkF m 0 #[.val (.ref a1), .val (.long q3), .second, .unset] [] := by first | (simp [entryFrame, mkF, argsToLocals, Value.category]; done) | rfl
def own_Q9 (Z : State) (a1 : Addr) (q3 q1 q2 : Int64) (pp : Int32) (h0 : Heap) (n0 : Nat) (v : Option Value) (h : Heap) (L : List Loc) : Prop := ∃ b, v = some (.ref b) ∧ Fr n0 L ∧ n0 ≤ b ∧ Keep h0 h [] ∧ Exa Z h b "com/example/leaselock/leaselock/Answer" ∧ Fld Z h b "com/example/leaselock/leaselock/Answer" "asked" "J" (.long q1) ∧ Fld Z h b "com/example/leaselock/leaselock/Answer" "grant" "Lcom/example/leaselock/leaselock/Grant;" .null ∧ Fld Z h b "com/example/leaselock/leaselock/Answer" "sleepNanos" "J" (.long (if q3 < q2 then q3 else q2)) ∧ Fld Z h b "com/example/leaselock/leaselock/Answer" "endsAtRelease" "Z" (.int pp)
set_option maxRecDepth 65536 in
set_option maxHeartbeats 40000000 in
theorem own_rm9 (l : Launch) (Z : State) (a0 : Array Value) (hw : ∀ d ∈ tables_1, d.before a0 Z = true) (ws : List Jvm.Cond) (a1 : Addr) (q3 q1 q2 : Int64) (pp : Int32) (h0 : Heap) (n0 : Nat) (Z0 : n0 ≤ h0.size) (pE : Exa Z h0 a1 "com/example/leaselock/leaselock/Answer") (pF1 : Fld Z h0 a1 "com/example/leaselock/leaselock/Answer" "asked" "J" (.long q1)) (pF2 : Fld Z h0 a1 "com/example/leaselock/leaselock/Answer" "grant" "Lcom/example/leaselock/leaselock/Grant;" .null) (pF3 : Fld Z h0 a1 "com/example/leaselock/leaselock/Answer" "sleepNanos" "J" (.long q2)) (pF4 : Fld Z h0 a1 "com/example/leaselock/leaselock/Answer" "endsAtRelease" "Z" (.int pp)) (pg : n0 ≤ a1) (pz : pp = 0 ∨ pp = 1) :
    MetFree l (⟨"com/example/leaselock/leaselock/Answer", "sleepingAtMost", "(J)Lcom/example/leaselock/leaselock/Answer;"⟩ : MethodName) (head1 (Jvm.Cond.code (⟨"com/example/leaselock/leaselock/Answer", "sleepingAtMost", "(J)Lcom/example/leaselock/leaselock/Answer;"⟩ : MethodName) prog_1_method_5_code 4 (some (.object "com/example/leaselock/leaselock/Answer")) :: ws) ({ frames := 2, cells := 1, slots := 4, locals := 31 } : Room)) (fun a U => a = #[(.ref a1), (.long q3)] ∧ Z.Warmed39 U.vm ∧ U.heap = h0) (fun _ _ _ _ _ => True) (fun _ U o U' => ∃ v L, o = .returned v ∧ own_Q9 Z a1 q3 q1 q2 pp h0 n0 v U'.heap L ∧ FrameEnd U o U' L ({ frames := 2, cells := 1, slots := 4, locals := 31 } : Room).cells ({ frames := 2, cells := 1, slots := 4, locals := 31 } : Room).slots) := by
  refine MetFree.of_bodySF (plainFor_of_name own_pn0) hisR ?_
  intro p e s m args below meth c s₁ Bd hml0 hP hK
  obtain ⟨rfl, hZ, hh⟩ := hP
  have hx := Bd.exec
  have hby := Bd.bytes
  have hml : c.maxLocals = 4 := hml0
  have hown : s.vm.findClass "com/example/leaselock/leaselock/Answer" = some m.cls := findClass_of_methodNamed Bd.named
  have hnm := (name_of_methodNamed Bd.named Bd.method).1
  have X0 : Stand p l e ({ frames := 2, cells := 1, slots := 4, locals := 31 } : Room) s m #[(.ref a1), (.long q3)] below meth c s₁ [] 0 0 := Stand.of_body Bd
  have e0 : s₁.heap = h0 := by rw [← hh, Bd.state]; rfl
  have N0 := Fr.nil n0
  refine own_nm (st := s₁.setTop (entryFrame m #[(.ref a1), (.long q3)] 4)) fun P fin => ?_
  refine own_fwd (fun t k => castTop (own_ef9 m a1 q3) k) ?_
  show own_R p.tables e below P (s₁.setTop (mkF m 0 #[.val (.ref a1), .val (.long q3), .second, .unset] []))
  have K0 := Keep.refl h0 []
  refine own_fwd (fun t k => XS.aloadN X0.here hx rfl (hb hby own_d9_0) rfl rfl k) ?_
  show own_R p.tables e below P (s₁.setTop (mkF m 1 #[.val (.ref a1), .val (.long q3), .second, .unset] [(.ref a1)]))
  refine own_fwd (fun t k => XS.astoreN X0.here hx rfl (hb hby own_d9_1) rfl rfl (l' := #[.val (.ref a1), .val (.long q3), .second, .val (.ref a1)]) rfl k) ?_
  show own_R p.tables e below P (s₁.setTop (mkF m 2 #[.val (.ref a1), .val (.long q3), .second, .val (.ref a1)] []))
  refine own_fwd (fun t k => XS.aloadN X0.here hx rfl (hb hby own_d9_2) rfl rfl k) ?_
  show own_R p.tables e below P (s₁.setTop (mkF m 3 #[.val (.ref a1), .val (.long q3), .second, .val (.ref a1)] [(.ref a1)]))
  obtain ⟨T20, X20, e20, st20⟩ := getF X0 hx hZ hown (host := "") (Or.inl (hw _ (List.mem_of_getElem? (i := 14) rfl))) Via.refl e0 pF2 (g := (mkF m 3 #[.val (.ref a1), .val (.long q3), .second, .val (.ref a1)] [(.ref a1)])) rfl rfl (hb hby own_d9_3)
  refine own_fwd st20 ?_
  show own_R p.tables e below P (T20.setTop (mkF m 6 #[.val (.ref a1), .val (.long q3), .second, .val (.ref a1)] [.null]))
  refine own_fwd (fun t k => XS.ifnonnullNo X20.here hx rfl (hb hby own_d9_6) rfl k) ?_
  show own_R p.tables e below P (T20.setTop (mkF m 9 #[.val (.ref a1), .val (.long q3), .second, .val (.ref a1)] []))
  refine own_fwd (fun t k => XS.aloadN X20.here hx rfl (hb hby own_d9_9) rfl rfl k) ?_
  show own_R p.tables e below P (T20.setTop (mkF m 10 #[.val (.ref a1), .val (.long q3), .second, .val (.ref a1)] [(.ref a1)]))
  obtain ⟨T21, X21, e21, st21⟩ := getF X20 hx hZ hown (host := "") (Or.inl (hw _ (List.mem_of_getElem? (i := 16) rfl))) Via.refl e20 pF3 (g := (mkF m 10 #[.val (.ref a1), .val (.long q3), .second, .val (.ref a1)] [(.ref a1)])) rfl rfl (hb hby own_d9_10)
  refine own_fwd st21 ?_
  show own_R p.tables e below P (T21.setTop (mkF m 13 #[.val (.ref a1), .val (.long q3), .second, .val (.ref a1)] [(.long q2)]))
  refine own_fwd (fun t k => XS.lloadN X21.here hx rfl (hb hby own_d9_13) rfl k) ?_
  show own_R p.tables e below P (T21.setTop (mkF m 14 #[.val (.ref a1), .val (.long q3), .second, .val (.ref a1)] [(.long q3), (.long q2)]))
  refine own_fwd (fun t k => XS.lcmp X21.here hx rfl (hb hby own_d9_14) rfl k) ?_
  show own_R p.tables e below P (T21.setTop (mkF m 15 #[.val (.ref a1), .val (.long q3), .second, .val (.ref a1)] [(.int (lcmpW q2 q3))]))
  by_cases hc22 : (0 : Int32) < (lcmpW q2 q3)
  · refine own_fwd (fun t k => XS.ifNo X21.here hx rfl (hb hby own_d9_15) rfl ((if0 _ _).trans (tlt hc22).2.2.2) k) ?_
    show own_R p.tables e below P (T21.setTop (mkF m 18 #[.val (.ref a1), .val (.long q3), .second, .val (.ref a1)] []))
    obtain ⟨T23, h23, X23, e23, E23, A23, D23, -, st23⟩ := newO X21 hx hZ hown (hw _ (List.mem_of_getElem? (i := 4) rfl)) (hw _ (List.mem_of_getElem? (i := 5) rfl)) (hw _ (List.mem_of_getElem? (i := 2) rfl)) e21 (g := (mkF m 18 #[.val (.ref a1), .val (.long q3), .second, .val (.ref a1)] [])) rfl (hb hby own_d9_18) (by decide) (by decide)
    obtain ⟨b23, g23⟩ : ∃ z, z = h0.size := ⟨_, rfl⟩
    rw [← g23] at A23 D23 st23
    have ne23_a1 : a1 ≠ b23 := Nat.ne_of_lt (by rw [g23]; exact pE.lt)
    have ge_b23 : n0 ≤ b23 := by rw [g23]; exact Z0
    have sz_b23 : h0.size ≤ b23 := by rw [g23]; exact (Nat.le_refl h0.size)
    have pE_x23 := pE.ext E23
    have pF1_x23 := pF1.ext E23
    have pF2_x23 := pF2.ext E23
    have pF3_x23 := pF3.ext E23
    have pF4_x23 := pF4.ext E23
    have F23_asked : Fld Z h23 b23 "com/example/leaselock/leaselock/Answer" "asked" "J" (.long (0 : Int64)) := D23 (Or.inr (hw _ (List.mem_of_getElem? (i := 13) rfl))) (ty := .long) (by decide)
    have F23_grant : Fld Z h23 b23 "com/example/leaselock/leaselock/Answer" "grant" "Lcom/example/leaselock/leaselock/Grant;" .null := D23 (Or.inr (hw _ (List.mem_of_getElem? (i := 15) rfl))) (ty := (.object "com/example/leaselock/leaselock/Grant")) (by decide)
    have F23_sleepNanos : Fld Z h23 b23 "com/example/leaselock/leaselock/Answer" "sleepNanos" "J" (.long (0 : Int64)) := D23 (Or.inr (hw _ (List.mem_of_getElem? (i := 17) rfl))) (ty := .long) (by decide)
    have F23_endsAtRelease : Fld Z h23 b23 "com/example/leaselock/leaselock/Answer" "endsAtRelease" "Z" (.int (0 : Int32)) := D23 (Or.inr (hw _ (List.mem_of_getElem? (i := 19) rfl))) (ty := .boolean) (by decide)
    have Z23 : n0 ≤ h23.size := Nat.le_trans Z0 E23.1
    have K23 := K0.ext E23
    have Y23 : h0.size ≤ h23.size := Nat.le_trans (Nat.le_refl h0.size) E23.1
    refine own_fwd st23 ?_
    show own_R p.tables e below P (T23.setTop (mkF m 21 #[.val (.ref a1), .val (.long q3), .second, .val (.ref a1)] [(.ref b23)]))
    refine own_fwd (fun t k => XS.dup X23.here hx rfl (hb hby own_d9_21) rfl rfl k) ?_
    show own_R p.tables e below P (T23.setTop (mkF m 22 #[.val (.ref a1), .val (.long q3), .second, .val (.ref a1)] [(.ref b23), (.ref b23)]))
    refine own_fwd (fun t k => XS.aloadN X23.here hx rfl (hb hby own_d9_22) rfl rfl k) ?_
    show own_R p.tables e below P (T23.setTop (mkF m 23 #[.val (.ref a1), .val (.long q3), .second, .val (.ref a1)] [(.ref a1), (.ref b23), (.ref b23)]))
    obtain ⟨T24, X24, e24, st24⟩ := getF X23 hx hZ hown (host := "") (Or.inl (hw _ (List.mem_of_getElem? (i := 12) rfl))) Via.refl e23 pF1_x23 (g := (mkF m 23 #[.val (.ref a1), .val (.long q3), .second, .val (.ref a1)] [(.ref a1), (.ref b23), (.ref b23)])) rfl rfl (hb hby own_d9_23)
    refine own_fwd st24 ?_
    show own_R p.tables e below P (T24.setTop (mkF m 26 #[.val (.ref a1), .val (.long q3), .second, .val (.ref a1)] [(.long q1), (.ref b23), (.ref b23)]))
    refine own_fwd (fun t k => XS.aconstNull X24.here hx rfl (hb hby own_d9_26) k) ?_
    show own_R p.tables e below P (T24.setTop (mkF m 27 #[.val (.ref a1), .val (.long q3), .second, .val (.ref a1)] [.null, (.long q1), (.ref b23), (.ref b23)]))
    refine own_fwd (fun t k => XS.lloadN X24.here hx rfl (hb hby own_d9_27) rfl k) ?_
    show own_R p.tables e below P (T24.setTop (mkF m 28 #[.val (.ref a1), .val (.long q3), .second, .val (.ref a1)] [(.long q3), .null, (.long q1), (.ref b23), (.ref b23)]))
    refine own_fwd (fun t k => XS.aloadN X24.here hx rfl (hb hby own_d9_28) rfl rfl k) ?_
    show own_R p.tables e below P (T24.setTop (mkF m 29 #[.val (.ref a1), .val (.long q3), .second, .val (.ref a1)] [(.ref a1), (.long q3), .null, (.long q1), (.ref b23), (.ref b23)]))
    obtain ⟨T25, X25, e25, st25⟩ := getF X24 hx hZ hown (host := "") (Or.inl (hw _ (List.mem_of_getElem? (i := 18) rfl))) Via.refl e24 pF4_x23 (g := (mkF m 29 #[.val (.ref a1), .val (.long q3), .second, .val (.ref a1)] [(.ref a1), (.long q3), .null, (.long q1), (.ref b23), (.ref b23)])) rfl rfl (hb hby own_d9_29)
    refine own_fwd st25 ?_
    show own_R p.tables e below P (T25.setTop (mkF m 32 #[.val (.ref a1), .val (.long q3), .second, .val (.ref a1)] [(.int pp), (.long q3), .null, (.long q1), (.ref b23), (.ref b23)]))
    obtain ⟨_, _, ⟨T26, L26, k26, n26⟩, -, X26, ⟨Lc26, hQ26, l26, y26, z26⟩, st26⟩ := X25.specialBack hx (y := (⟨"com/example/leaselock/leaselock/Answer", "<init>", "(JLcom/example/leaselock/leaselock/Grant;JZ)V"⟩ : MethodName)) rfl hown (mvT hZ (hw _ (List.mem_of_getElem? (i := 6) rfl))) (mvT hZ (hw _ (List.mem_of_getElem? (i := 7) rfl))) (mvT hZ (hw _ (List.mem_of_getElem? (i := 8) rfl))) (by decide) (backOf (W := 1) (own_rm2 l Z a0 hw [] b23 q1 q3 pp h23 n0 Z23 A23 F23_asked F23_grant F23_sleepNanos F23_endsAtRelease ge_b23 pz) hZ (hw _ (List.mem_of_getElem? (i := 8) rfl)) (hw _ (List.mem_of_getElem? (i := 2) rfl)) (by decide) (by decide)) (g := (mkF m 32 #[.val (.ref a1), .val (.long q3), .second, .val (.ref a1)] [(.int pp), (.long q3), .null, (.long q1), (.ref b23), (.ref b23)])) rfl (by rw [hml]; rfl) (Steps.refl _) (a := b23) (argsL := [(.long q1), .null, (.long q3), (.int pp)]) (rest := [(.ref b23)]) (lenOf own_pd0 rfl) rfl (by show 2 * 0 + _ ≤ _; exact Nat.le_of_eq rfl) (hb hby own_d9_32) (fun _ _ => ⟨rfl, e25, (by decide : 1 + 0 ≤ _), (by decide : 4 + 0 ≤ _)⟩)
    dsimp only [Pt.U, Pt.locs, Pt.cells, Pt.slots] at X26 l26 y26 z26 st26 hQ26
    subst l26 y26 z26
    obtain ⟨h26, e26⟩ : ∃ z, T26.heap = z := ⟨_, rfl⟩
    rw [e26] at hQ26
    obtain ⟨hq26, N26q, K26, E26_, G26_, H26_, I26_, J26_⟩ := hQ26
    subst hq26
    have N26 := Fr.app N0 N26q
    have pE_x26 := pE_x23.keep K26
    have pF1_x26 := pF1_x23.keep K26 (ninS ne23_a1 nin0)
    have pF2_x26 := pF2_x23.keep K26 (ninS ne23_a1 nin0)
    have pF3_x26 := pF3_x23.keep K26 (ninS ne23_a1 nin0)
    have pF4_x26 := pF4_x23.keep K26 (ninS ne23_a1 nin0)
    have A23_x26 := A23.keep K26
    have Z26 : n0 ≤ h26.size := Nat.le_trans Z23 K26.1
    have KK26 := K23.trans K26 (allS (Or.inr sz_b23) all0)
    have Y26 : h0.size ≤ h26.size := Nat.le_trans Y23 K26.1
    refine own_trn st26 ?_
    show own_R p.tables e below P (T26.setTop (mkF m 35 #[.val (.ref a1), .val (.long q3), .second, .val (.ref a1)] [(.ref b23)]))
    refine own_fwd (fun t k => XS.astoreN X26.here hx rfl (hb hby own_d9_35) rfl rfl (l' := #[.val (.ref a1), .val (.long q3), .second, .val (.ref b23)]) rfl k) ?_
    show own_R p.tables e below P (T26.setTop (mkF m 36 #[.val (.ref a1), .val (.long q3), .second, .val (.ref b23)] []))
    refine own_fwd (fun t k => XS.aloadN X26.here hx rfl (hb hby own_d9_36) rfl rfl k) ?_
    show own_R p.tables e below P (T26.setTop (mkF m 37 #[.val (.ref a1), .val (.long q3), .second, .val (.ref b23)] [(.ref b23)]))
    obtain ⟨fs27, hr27, hrun27, hended27, hW27, hsame27⟩ := X26.leave (v := some (.ref b23)) (fun h => by rw [Bd.returns] at h; cases h)
    refine ⟨_, _, X26.areturnOut hx rfl Bd.returns rfl (hb hby own_d9_37) hr27, fin _ _ ⟨hrun27, hended27, _, _, rfl, ?_, ⟨_, rfl⟩, hW27, hsame27.mono (by decide) (by decide)⟩⟩
    show own_Q9 Z a1 q3 q1 q2 pp h0 n0 _ T26.heap _
    rw [e26]
    exact ⟨b23, rfl, N26, ge_b23, KK26, E26_, G26_, H26_, (by rw [if_pos ((lw_gt _ _).mp hc22)]; exact I26_), J26_⟩
  · refine own_fwd (fun t k => XS.ifYes X21.here hx rfl (pc0 := 15) (pc' := 36) rfl (hb hby own_d9_15) rfl ((if0 _ _).trans (flt hc22).2.2.2) (by decide) (by decide) k) ?_
    show own_R p.tables e below P (T21.setTop (mkF m 36 #[.val (.ref a1), .val (.long q3), .second, .val (.ref a1)] []))
    refine own_fwd (fun t k => XS.aloadN X21.here hx rfl (hb hby own_d9_36) rfl rfl k) ?_
    show own_R p.tables e below P (T21.setTop (mkF m 37 #[.val (.ref a1), .val (.long q3), .second, .val (.ref a1)] [(.ref a1)]))
    obtain ⟨fs28, hr28, hrun28, hended28, hW28, hsame28⟩ := X21.leave (v := some (.ref a1)) (fun h => by rw [Bd.returns] at h; cases h)
    refine ⟨_, _, X21.areturnOut hx rfl Bd.returns rfl (hb hby own_d9_37) hr28, fin _ _ ⟨hrun28, hended28, _, _, rfl, ?_, ⟨_, rfl⟩, hW28, hsame28.mono (by decide) (by decide)⟩⟩
    show own_Q9 Z a1 q3 q1 q2 pp h0 n0 _ T21.heap _
    rw [e21]
    exact ⟨a1, rfl, N0, pg, K0, pE, pF1, pF2, (by rw [if_neg (fun q => hc22 ((lw_gt _ _).mpr q))]; exact pF3), pF4⟩
theorem own_d10_0 : decode jdk_29_method_70_code 0 = .ok (.lload_n 0, 1) := by decide +kernel
theorem own_d10_1 : decode jdk_29_method_70_code 1 = .ok (.lload_n 2, 1) := by decide +kernel
theorem own_d10_2 : decode jdk_29_method_70_code 2 = .ok (.lcmp, 1) := by decide +kernel
theorem own_d10_3 : decode jdk_29_method_70_code 3 = .ok (.ifCond .gt 7, 3) := by decide +kernel
theorem own_d10_6 : decode jdk_29_method_70_code 6 = .ok (.lload_n 0, 1) := by decide +kernel
theorem own_d10_7 : decode jdk_29_method_70_code 7 = .ok (.goto 4, 3) := by decide +kernel
theorem own_d10_10 : decode jdk_29_method_70_code 10 = .ok (.lload_n 2, 1) := by decide +kernel
theorem own_d10_11 : decode jdk_29_method_70_code 11 = .ok (.lreturn, 1) := by decide +kernel
theorem own_ef10 (m : MethodId) (q1 : Int64) (q2 : Int64) : entryFrame m #[(.long q1), (.long q2)] 4 = mkF m 0 #[.val (.long q1), .second, .val (.long q2), .second] [] := by first | (simp [entryFrame, mkF, argsToLocals, Value.category]; done) | rfl
def own_Q10 (Z : State) (q1 q2 : Int64) (h0 : Heap) (n0 : Nat) (v : Option Value) (h : Heap) (L : List Loc) : Prop := v = some (.long (if q2 < q1 then q2 else q1)) ∧ Fr n0 L ∧ h = h0
set_option maxRecDepth 65536 in
set_option maxHeartbeats 40000000 in
theorem own_rm10 (l : Launch) (Z : State) (a0 : Array Value) (hw : ∀ d ∈ tables_1, d.before a0 Z = true) (ws : List Jvm.Cond) (q1 q2 : Int64) (h0 : Heap) (n0 : Nat) (Z0 : n0 ≤ h0.size) :
    MetFree l (⟨"java/lang/Math", "min", "(JJ)J"⟩ : MethodName) (head1 (Jvm.Cond.code (⟨"java/lang/Math", "min", "(JJ)J"⟩ : MethodName) jdk_29_method_70_code 4 (some .long) :: ws) ({ frames := 0, cells := 0, slots := 0, locals := 0 } : Room)) (fun a U => a = #[(.long q1), (.long q2)] ∧ Z.Warmed39 U.vm ∧ U.heap = h0) (fun _ _ _ _ _ => True) (fun _ U o U' => ∃ v L, o = .returned v ∧ own_Q10 Z q1 q2 h0 n0 v U'.heap L ∧ FrameEnd U o U' L ({ frames := 0, cells := 0, slots := 0, locals := 0 } : Room).cells ({ frames := 0, cells := 0, slots := 0, locals := 0 } : Room).slots) := by
  refine MetFree.of_bodySF (Jvm.Free.JP.mathPlain rfl (by decide +kernel)) hisR ?_
  intro p e s m args below meth c s₁ Bd hml0 hP hK
  obtain ⟨rfl, hZ, hh⟩ := hP
  have hx := Bd.exec
  have hby := Bd.bytes
  have hml : c.maxLocals = 4 := hml0
  have hown : s.vm.findClass "java/lang/Math" = some m.cls := findClass_of_methodNamed Bd.named
  have hnm := (name_of_methodNamed Bd.named Bd.method).1
  have X0 : Stand p l e ({ frames := 0, cells := 0, slots := 0, locals := 0 } : Room) s m #[(.long q1), (.long q2)] below meth c s₁ [] 0 0 := Stand.of_body Bd
  have e0 : s₁.heap = h0 := by rw [← hh, Bd.state]; rfl
  have N0 := Fr.nil n0
  refine own_nm (st := s₁.setTop (entryFrame m #[(.long q1), (.long q2)] 4)) fun P fin => ?_
  refine own_fwd (fun t k => castTop (own_ef10 m q1 q2) k) ?_
  show own_R p.tables e below P (s₁.setTop (mkF m 0 #[.val (.long q1), .second, .val (.long q2), .second] []))
  refine own_fwd (fun t k => XS.lloadN X0.here hx rfl (hb hby own_d10_0) rfl k) ?_
  show own_R p.tables e below P (s₁.setTop (mkF m 1 #[.val (.long q1), .second, .val (.long q2), .second] [(.long q1)]))
  refine own_fwd (fun t k => XS.lloadN X0.here hx rfl (hb hby own_d10_1) rfl k) ?_
  show own_R p.tables e below P (s₁.setTop (mkF m 2 #[.val (.long q1), .second, .val (.long q2), .second] [(.long q2), (.long q1)]))
  refine own_fwd (fun t k => XS.lcmp X0.here hx rfl (hb hby own_d10_2) rfl k) ?_
  show own_R p.tables e below P (s₁.setTop (mkF m 3 #[.val (.long q1), .second, .val (.long q2), .second] [(.int (lcmpW q1 q2))]))
  by_cases hc29 : (0 : Int32) < (lcmpW q1 q2)
  · refine own_fwd (fun t k => XS.ifYes X0.here hx rfl (pc0 := 3) (pc' := 10) rfl (hb hby own_d10_3) rfl ((if0 _ _).trans (tlt hc29).2.2.1) (by decide) (by decide) k) ?_
    show own_R p.tables e below P (s₁.setTop (mkF m 10 #[.val (.long q1), .second, .val (.long q2), .second] []))
    refine own_fwd (fun t k => XS.lloadN X0.here hx rfl (hb hby own_d10_10) rfl k) ?_
    show own_R p.tables e below P (s₁.setTop (mkF m 11 #[.val (.long q1), .second, .val (.long q2), .second] [(.long q2)]))
    obtain ⟨fs30, hr30, hrun30, hended30, hW30, hsame30⟩ := X0.leave (v := some (.long q2)) (fun h => by rw [Bd.returns] at h; cases h)
    refine ⟨_, _, X0.lreturnOut hx Bd.returns (hb hby own_d10_11) hr30, fin _ _ ⟨hrun30, hended30, _, _, rfl, ?_, ⟨_, rfl⟩, hW30, hsame30.mono (by decide) (by decide)⟩⟩
    show own_Q10 Z q1 q2 h0 n0 _ s₁.heap _
    rw [e0]
    exact ⟨by rw [if_pos ((lw_gt _ _).mp hc29)], N0, rfl⟩
  · refine own_fwd (fun t k => XS.ifNo X0.here hx rfl (hb hby own_d10_3) rfl ((if0 _ _).trans (flt hc29).2.2.1) k) ?_
    show own_R p.tables e below P (s₁.setTop (mkF m 6 #[.val (.long q1), .second, .val (.long q2), .second] []))
    refine own_fwd (fun t k => XS.lloadN X0.here hx rfl (hb hby own_d10_6) rfl k) ?_
    show own_R p.tables e below P (s₁.setTop (mkF m 7 #[.val (.long q1), .second, .val (.long q2), .second] [(.long q1)]))
    refine own_fwd (fun t k => XS.goto X0.here hx rfl (pc0 := 7) (pc' := 11) rfl (hb hby own_d10_7) (by decide) (by decide) k) ?_
    show own_R p.tables e below P (s₁.setTop (mkF m 11 #[.val (.long q1), .second, .val (.long q2), .second] [(.long q1)]))
    obtain ⟨fs31, hr31, hrun31, hended31, hW31, hsame31⟩ := X0.leave (v := some (.long q1)) (fun h => by rw [Bd.returns] at h; cases h)
    refine ⟨_, _, X0.lreturnOut hx Bd.returns (hb hby own_d10_11) hr31, fin _ _ ⟨hrun31, hended31, _, _, rfl, ?_, ⟨_, rfl⟩, hW31, hsame31.mono (by decide) (by decide)⟩⟩
    show own_Q10 Z q1 q2 h0 n0 _ s₁.heap _
    rw [e0]
    exact ⟨by rw [if_neg (fun q => hc29 ((lw_gt _ _).mpr q))], N0, rfl⟩
theorem own_pn1 : plainName "com/example/leaselock/leaselock/AnswerHeldPinLaw" = true := by first | (simp [plainName, overriddenIn]; done) | decide +kernel
theorem own_pd1 : parseMethodDescriptor "(JJ)Lcom/example/leaselock/leaselock/Answer;" = some ⟨[.long, .long], some (.object "com/example/leaselock/leaselock/Answer")⟩ := by decide +kernel
theorem own_pd2 : parseMethodDescriptor "()J" = some ⟨[], some .long⟩ := by decide +kernel
theorem own_pd3 : parseMethodDescriptor "()Z" = some ⟨[], some .boolean⟩ := by decide +kernel
theorem own_pd4 : parseMethodDescriptor "()Lcom/example/leaselock/leaselock/Grant;" = some ⟨[], some (.object "com/example/leaselock/leaselock/Grant")⟩ := by decide +kernel
theorem own_pd5 : parseMethodDescriptor "(J)Lcom/example/leaselock/leaselock/Answer;" = some ⟨[.long], some (.object "com/example/leaselock/leaselock/Answer")⟩ := by decide +kernel
theorem own_pd6 : parseMethodDescriptor "(JJ)J" = some ⟨[.long, .long], some .long⟩ := by decide +kernel
theorem own_eflaw (m : MethodId) (p0 : Int64) (p1 : Int64) (p2 : Int64) : entryFrame m #[(.long p0), (.long p1), (.long p2)] maxLocals = mkF m 0 #[.val (.long p0), .second, .val (.long p1), .second, .val (.long p2), .second, .unset, .unset, .unset] [] := by first | (simp [entryFrame, mkF, argsToLocals, Value.category, maxLocals]; done) | rfl
def own_Qlaw (Z : State) (p0 p1 p2 : Int64) (h0 : Heap) (n0 : Nat) (v : Option Value) (h : Heap) (L : List Loc) : Prop := v = some (.int 1) ∧ Fr n0 L
set_option maxRecDepth 65536 in
set_option maxHeartbeats 40000000 in
theorem own_rmlaw (l : Launch) (Z : State) (a0 : Array Value) (hw : ∀ d ∈ tables_1, d.before a0 Z = true) (ws : List Jvm.Cond) (p0 p1 p2 : Int64) (h0 : Heap) (n0 : Nat) (Z0 : n0 ≤ h0.size) :
    MetFree l x (head1 (Jvm.Cond.code x code maxLocals ret :: ws) room_1) (fun a U => a = #[(.long p0), (.long p1), (.long p2)] ∧ Z.Warmed39 U.vm ∧ U.heap = h0) (fun _ _ _ _ _ => True) (fun _ U o U' => ∃ v L, o = .returned v ∧ own_Qlaw Z p0 p1 p2 h0 n0 v U'.heap L ∧ FrameEnd U o U' L 16 128) := by
  refine MetFree.of_bodySF (plainFor_of_name own_pn1) hisR ?_
  intro p e s m args below meth c s₁ Bd hml0 hP hK
  obtain ⟨rfl, hZ, hh⟩ := hP
  have hx := Bd.exec
  have hby := Bd.bytes
  have hml : c.maxLocals = 9 := hml0
  have hown : s.vm.findClass "com/example/leaselock/leaselock/AnswerHeldPinLaw" = some m.cls := findClass_of_methodNamed Bd.named
  have hnm := (name_of_methodNamed Bd.named Bd.method).1
  have X0 : Stand p l e room_1 s m #[(.long p0), (.long p1), (.long p2)] below meth c s₁ [] 0 0 := Stand.of_body Bd
  have e0 : s₁.heap = h0 := by rw [← hh, Bd.state]; rfl
  have N0 := Fr.nil n0
  refine own_nm (st := s₁.setTop (entryFrame m #[(.long p0), (.long p1), (.long p2)] maxLocals)) fun P fin => ?_
  refine own_fwd (fun t k => castTop (own_eflaw m p0 p1 p2) k) ?_
  show own_R p.tables e below P (s₁.setTop (mkF m 0 #[.val (.long p0), .second, .val (.long p1), .second, .val (.long p2), .second, .unset, .unset, .unset] []))
  refine own_fwd (fun t k => XS.lloadN X0.here hx rfl (hb hby at_0) rfl k) ?_
  show own_R p.tables e below P (s₁.setTop (mkF m 1 #[.val (.long p0), .second, .val (.long p1), .second, .val (.long p2), .second, .unset, .unset, .unset] [(.long p0)]))
  refine own_fwd (fun t k => XS.lloadN X0.here hx rfl (hb hby at_1) rfl k) ?_
  show own_R p.tables e below P (s₁.setTop (mkF m 2 #[.val (.long p0), .second, .val (.long p1), .second, .val (.long p2), .second, .unset, .unset, .unset] [(.long p1), (.long p0)]))
  obtain ⟨_, _, ⟨T32, L32, k32, n32⟩, -, X32, ⟨Lc32, hQ32, l32, y32, z32⟩, st32⟩ := Jvm.LawKit.callS X0 hx (y := (⟨"com/example/leaselock/leaselock/Answer", "held", "(JJ)Lcom/example/leaselock/leaselock/Answer;"⟩ : MethodName)) hown (mvT hZ (hw _ (List.mem_of_getElem? (i := 0) rfl))) (mvT hZ (hw _ (List.mem_of_getElem? (i := 1) rfl))) (mvT hZ (hw _ (List.mem_of_getElem? (i := 2) rfl))) (mvT hZ (hw _ (List.mem_of_getElem? (i := 3) rfl))) (by decide) (backOf (W := 0) (own_rm1 l Z a0 hw [] p0 p1 h0 n0 Z0 ) hZ (hw _ (List.mem_of_getElem? (i := 3) rfl)) (hw _ (List.mem_of_getElem? (i := 2) rfl)) (by decide) (by decide)) (g := (mkF m 2 #[.val (.long p0), .second, .val (.long p1), .second, .val (.long p2), .second, .unset, .unset, .unset] [(.long p1), (.long p0)])) rfl (by rw [hml]; rfl) (argsL := [(.long p0), (.long p1)]) (rest := []) (lenOf own_pd1 rfl) rfl (by show 2 * 0 + _ ≤ _; exact Nat.le_of_eq rfl) (hb hby at_2) (fun _ _ => ⟨rfl, e0, (by decide : 0 + 1 ≤ _), (by decide : 0 + 4 ≤ _)⟩)
  dsimp only [Pt.U, Pt.locs, Pt.cells, Pt.slots] at X32 l32 y32 z32 st32 hQ32
  subst l32 y32 z32
  obtain ⟨h32, e32⟩ : ∃ z, T32.heap = z := ⟨_, rfl⟩
  rw [e32] at hQ32
  obtain ⟨o32, hq32, N32q, ge_o32, K32, E32_, G32_, H32_, I32_, J32_⟩ := hQ32
  subst hq32
  have N32 := Fr.app N0 N32q
  have Z32 : n0 ≤ h32.size := Nat.le_trans Z0 K32.1
  have Y32 : h0.size ≤ h32.size := Nat.le_trans (Nat.le_refl h0.size) K32.1
  refine own_fwd st32 ?_
  show own_R p.tables e below P (T32.setTop (mkF m 5 #[.val (.long p0), .second, .val (.long p1), .second, .val (.long p2), .second, .unset, .unset, .unset] [(.ref o32)]))
  refine own_fwd (fun t k => XS.astore X32.here hx rfl (hb hby at_5) rfl rfl (l' := #[.val (.long p0), .second, .val (.long p1), .second, .val (.long p2), .second, .val (.ref o32), .unset, .unset]) rfl k) ?_
  show own_R p.tables e below P (T32.setTop (mkF m 7 #[.val (.long p0), .second, .val (.long p1), .second, .val (.long p2), .second, .val (.ref o32), .unset, .unset] []))
  refine own_fwd (fun t k => XS.aload X32.here hx rfl (hb hby at_7) rfl rfl k) ?_
  show own_R p.tables e below P (T32.setTop (mkF m 9 #[.val (.long p0), .second, .val (.long p1), .second, .val (.long p2), .second, .val (.ref o32), .unset, .unset] [(.ref o32)]))
  obtain ⟨cq33, kq33, q33a, q33b, q33c⟩ := isOf hZ e32 E32_
  obtain ⟨_, _, ⟨T33, L33, k33, n33⟩, -, X33, ⟨Lc33, hQ33, l33, y33, z33⟩, st33⟩ := X32.virtualBack hx (y := (⟨"com/example/leaselock/leaselock/Answer", "asked", "()J"⟩ : MethodName)) (z := (⟨"com/example/leaselock/leaselock/Answer", "asked", "()J"⟩ : MethodName)) hown (mvT hZ (hw _ (List.mem_of_getElem? (i := 20) rfl))) (mvT hZ (hw _ (List.mem_of_getElem? (i := 21) rfl))) (notFace_of_selects (args := #[]) (mvT hZ (hw _ (List.mem_of_getElem? (i := 23) rfl)))) (mvT hZ (hw _ (List.mem_of_getElem? (i := 23) rfl))) (mvT hZ (hw _ (List.mem_of_getElem? (i := 22) rfl))) (by decide) (backOf (W := 0) (own_rm4 l Z a0 hw [] o32 p0 h32 n0 Z32 G32_ ) hZ (hw _ (List.mem_of_getElem? (i := 24) rfl)) (hw _ (List.mem_of_getElem? (i := 2) rfl)) (by decide) (by decide)) q33a q33c (g := (mkF m 9 #[.val (.long p0), .second, .val (.long p1), .second, .val (.long p2), .second, .val (.ref o32), .unset, .unset] [(.ref o32)])) rfl (by rw [hml]; rfl) (Steps.refl _) (argsL := []) (rest := []) (lenOf own_pd2 rfl) rfl (by show 2 * 0 + _ ≤ _; exact Nat.le_of_eq rfl) (hb hby at_9) (fun _ _ => ⟨rfl, e32, (by decide : 1 + 0 ≤ _), (by decide : 4 + 0 ≤ _)⟩)
  dsimp only [Pt.U, Pt.locs, Pt.cells, Pt.slots] at X33 l33 y33 z33 st33 hQ33
  subst l33 y33 z33
  obtain ⟨h33, e33⟩ : ∃ z, T33.heap = z := ⟨_, rfl⟩
  rw [e33] at hQ33
  obtain ⟨hq33, N33q, q33⟩ := hQ33
  rw [q33] at e33
  subst hq33
  have N33 := Fr.app N32 N33q
  refine own_trn st33 ?_
  show own_R p.tables e below P (T33.setTop (mkF m 12 #[.val (.long p0), .second, .val (.long p1), .second, .val (.long p2), .second, .val (.ref o32), .unset, .unset] [(.long p0)]))
  refine own_fwd (fun t k => XS.lloadN X33.here hx rfl (hb hby at_12) rfl k) ?_
  show own_R p.tables e below P (T33.setTop (mkF m 13 #[.val (.long p0), .second, .val (.long p1), .second, .val (.long p2), .second, .val (.ref o32), .unset, .unset] [(.long p0), (.long p0)]))
  refine own_fwd (fun t k => XS.lcmp X33.here hx rfl (hb hby at_13) rfl k) ?_
  show own_R p.tables e below P (T33.setTop (mkF m 14 #[.val (.long p0), .second, .val (.long p1), .second, .val (.long p2), .second, .val (.ref o32), .unset, .unset] [(.int (lcmpW p0 p0))]))
  have hc34 : (lcmpW p0 p0) = (0 : Int32) := (lw_eq _ _).mpr rfl
  refine own_fwd (fun t k => XS.ifNo X33.here hx rfl (hb hby at_14) rfl ((if0 _ _).trans (teq hc34).2) k) ?_
  show own_R p.tables e below P (T33.setTop (mkF m 17 #[.val (.long p0), .second, .val (.long p1), .second, .val (.long p2), .second, .val (.ref o32), .unset, .unset] []))
  refine own_fwd (fun t k => XS.aload X33.here hx rfl (hb hby at_17) rfl rfl k) ?_
  show own_R p.tables e below P (T33.setTop (mkF m 19 #[.val (.long p0), .second, .val (.long p1), .second, .val (.long p2), .second, .val (.ref o32), .unset, .unset] [(.ref o32)]))
  obtain ⟨cq35, kq35, q35a, q35b, q35c⟩ := isOf hZ e33 E32_
  obtain ⟨_, _, ⟨T35, L35, k35, n35⟩, -, X35, ⟨Lc35, hQ35, l35, y35, z35⟩, st35⟩ := X33.virtualBack hx (y := (⟨"com/example/leaselock/leaselock/Answer", "granted", "()Z"⟩ : MethodName)) (z := (⟨"com/example/leaselock/leaselock/Answer", "granted", "()Z"⟩ : MethodName)) hown (mvT hZ (hw _ (List.mem_of_getElem? (i := 25) rfl))) (mvT hZ (hw _ (List.mem_of_getElem? (i := 26) rfl))) (notFace_of_selects (args := #[]) (mvT hZ (hw _ (List.mem_of_getElem? (i := 28) rfl)))) (mvT hZ (hw _ (List.mem_of_getElem? (i := 28) rfl))) (mvT hZ (hw _ (List.mem_of_getElem? (i := 27) rfl))) (by decide) (backOf (W := 0) (own_rm5 l Z a0 hw [] o32  h32 n0 Z32 H32_ ) hZ (hw _ (List.mem_of_getElem? (i := 29) rfl)) (hw _ (List.mem_of_getElem? (i := 2) rfl)) (by decide) (by decide)) q35a q35c (g := (mkF m 19 #[.val (.long p0), .second, .val (.long p1), .second, .val (.long p2), .second, .val (.ref o32), .unset, .unset] [(.ref o32)])) rfl (by rw [hml]; rfl) (Steps.refl _) (argsL := []) (rest := []) (lenOf own_pd3 rfl) rfl (by show 2 * 0 + _ ≤ _; exact Nat.le_of_eq rfl) (hb hby at_19) (fun _ _ => ⟨rfl, e33, (by decide : 1 + 0 ≤ _), (by decide : 4 + 0 ≤ _)⟩)
  dsimp only [Pt.U, Pt.locs, Pt.cells, Pt.slots] at X35 l35 y35 z35 st35 hQ35
  subst l35 y35 z35
  obtain ⟨h35, e35⟩ : ∃ z, T35.heap = z := ⟨_, rfl⟩
  rw [e35] at hQ35
  obtain ⟨hq35, N35q, q35⟩ := hQ35
  rw [q35] at e35
  subst hq35
  have N35 := Fr.app N33 N35q
  refine own_trn st35 ?_
  show own_R p.tables e below P (T35.setTop (mkF m 22 #[.val (.long p0), .second, .val (.long p1), .second, .val (.long p2), .second, .val (.ref o32), .unset, .unset] [(.int (0 : Int32))]))
  have hc36 : (0 : Int32) = (0 : Int32) := (by decide)
  refine own_fwd (fun t k => XS.ifNo X35.here hx rfl (hb hby at_22) rfl ((if0 _ _).trans (teq hc36).2) k) ?_
  show own_R p.tables e below P (T35.setTop (mkF m 25 #[.val (.long p0), .second, .val (.long p1), .second, .val (.long p2), .second, .val (.ref o32), .unset, .unset] []))
  refine own_fwd (fun t k => XS.aload X35.here hx rfl (hb hby at_25) rfl rfl k) ?_
  show own_R p.tables e below P (T35.setTop (mkF m 27 #[.val (.long p0), .second, .val (.long p1), .second, .val (.long p2), .second, .val (.ref o32), .unset, .unset] [(.ref o32)]))
  obtain ⟨cq37, kq37, q37a, q37b, q37c⟩ := isOf hZ e35 E32_
  obtain ⟨_, _, ⟨T37, L37, k37, n37⟩, -, X37, ⟨Lc37, hQ37, l37, y37, z37⟩, st37⟩ := X35.virtualBack hx (y := (⟨"com/example/leaselock/leaselock/Answer", "grant", "()Lcom/example/leaselock/leaselock/Grant;"⟩ : MethodName)) (z := (⟨"com/example/leaselock/leaselock/Answer", "grant", "()Lcom/example/leaselock/leaselock/Grant;"⟩ : MethodName)) hown (mvT hZ (hw _ (List.mem_of_getElem? (i := 30) rfl))) (mvT hZ (hw _ (List.mem_of_getElem? (i := 31) rfl))) (notFace_of_selects (args := #[]) (mvT hZ (hw _ (List.mem_of_getElem? (i := 33) rfl)))) (mvT hZ (hw _ (List.mem_of_getElem? (i := 33) rfl))) (mvT hZ (hw _ (List.mem_of_getElem? (i := 32) rfl))) (by decide) (backOf (W := 0) (own_rm6 l Z a0 hw [] o32  h32 n0 Z32 H32_ ) hZ (hw _ (List.mem_of_getElem? (i := 34) rfl)) (hw _ (List.mem_of_getElem? (i := 2) rfl)) (by decide) (by decide)) q37a q37c (g := (mkF m 27 #[.val (.long p0), .second, .val (.long p1), .second, .val (.long p2), .second, .val (.ref o32), .unset, .unset] [(.ref o32)])) rfl (by rw [hml]; rfl) (Steps.refl _) (argsL := []) (rest := []) (lenOf own_pd4 rfl) rfl (by show 2 * 0 + _ ≤ _; exact Nat.le_of_eq rfl) (hb hby at_27) (fun _ _ => ⟨rfl, e35, (by decide : 1 + 0 ≤ _), (by decide : 4 + 0 ≤ _)⟩)
  dsimp only [Pt.U, Pt.locs, Pt.cells, Pt.slots] at X37 l37 y37 z37 st37 hQ37
  subst l37 y37 z37
  obtain ⟨h37, e37⟩ : ∃ z, T37.heap = z := ⟨_, rfl⟩
  rw [e37] at hQ37
  obtain ⟨hq37, N37q, q37⟩ := hQ37
  rw [q37] at e37
  subst hq37
  have N37 := Fr.app N35 N37q
  refine own_trn st37 ?_
  show own_R p.tables e below P (T37.setTop (mkF m 30 #[.val (.long p0), .second, .val (.long p1), .second, .val (.long p2), .second, .val (.ref o32), .unset, .unset] [.null]))
  refine own_fwd (fun t k => XS.ifnonnullNo X37.here hx rfl (hb hby at_30) rfl k) ?_
  show own_R p.tables e below P (T37.setTop (mkF m 33 #[.val (.long p0), .second, .val (.long p1), .second, .val (.long p2), .second, .val (.ref o32), .unset, .unset] []))
  refine own_fwd (fun t k => XS.aload X37.here hx rfl (hb hby at_33) rfl rfl k) ?_
  show own_R p.tables e below P (T37.setTop (mkF m 35 #[.val (.long p0), .second, .val (.long p1), .second, .val (.long p2), .second, .val (.ref o32), .unset, .unset] [(.ref o32)]))
  obtain ⟨cq38, kq38, q38a, q38b, q38c⟩ := isOf hZ e37 E32_
  obtain ⟨_, _, ⟨T38, L38, k38, n38⟩, -, X38, ⟨Lc38, hQ38, l38, y38, z38⟩, st38⟩ := X37.virtualBack hx (y := (⟨"com/example/leaselock/leaselock/Answer", "sleepNanos", "()J"⟩ : MethodName)) (z := (⟨"com/example/leaselock/leaselock/Answer", "sleepNanos", "()J"⟩ : MethodName)) hown (mvT hZ (hw _ (List.mem_of_getElem? (i := 35) rfl))) (mvT hZ (hw _ (List.mem_of_getElem? (i := 36) rfl))) (notFace_of_selects (args := #[]) (mvT hZ (hw _ (List.mem_of_getElem? (i := 38) rfl)))) (mvT hZ (hw _ (List.mem_of_getElem? (i := 38) rfl))) (mvT hZ (hw _ (List.mem_of_getElem? (i := 37) rfl))) (by decide) (backOf (W := 0) (own_rm7 l Z a0 hw [] o32 p1 h32 n0 Z32 I32_ ) hZ (hw _ (List.mem_of_getElem? (i := 39) rfl)) (hw _ (List.mem_of_getElem? (i := 2) rfl)) (by decide) (by decide)) q38a q38c (g := (mkF m 35 #[.val (.long p0), .second, .val (.long p1), .second, .val (.long p2), .second, .val (.ref o32), .unset, .unset] [(.ref o32)])) rfl (by rw [hml]; rfl) (Steps.refl _) (argsL := []) (rest := []) (lenOf own_pd2 rfl) rfl (by show 2 * 0 + _ ≤ _; exact Nat.le_of_eq rfl) (hb hby at_35) (fun _ _ => ⟨rfl, e37, (by decide : 1 + 0 ≤ _), (by decide : 4 + 0 ≤ _)⟩)
  dsimp only [Pt.U, Pt.locs, Pt.cells, Pt.slots] at X38 l38 y38 z38 st38 hQ38
  subst l38 y38 z38
  obtain ⟨h38, e38⟩ : ∃ z, T38.heap = z := ⟨_, rfl⟩
  rw [e38] at hQ38
  obtain ⟨hq38, N38q, q38⟩ := hQ38
  rw [q38] at e38
  subst hq38
  have N38 := Fr.app N37 N38q
  refine own_trn st38 ?_
  show own_R p.tables e below P (T38.setTop (mkF m 38 #[.val (.long p0), .second, .val (.long p1), .second, .val (.long p2), .second, .val (.ref o32), .unset, .unset] [(.long p1)]))
  refine own_fwd (fun t k => XS.lloadN X38.here hx rfl (hb hby at_38) rfl k) ?_
  show own_R p.tables e below P (T38.setTop (mkF m 39 #[.val (.long p0), .second, .val (.long p1), .second, .val (.long p2), .second, .val (.ref o32), .unset, .unset] [(.long p1), (.long p1)]))
  refine own_fwd (fun t k => XS.lcmp X38.here hx rfl (hb hby at_39) rfl k) ?_
  show own_R p.tables e below P (T38.setTop (mkF m 40 #[.val (.long p0), .second, .val (.long p1), .second, .val (.long p2), .second, .val (.ref o32), .unset, .unset] [(.int (lcmpW p1 p1))]))
  have hc39 : (lcmpW p1 p1) = (0 : Int32) := (lw_eq _ _).mpr rfl
  refine own_fwd (fun t k => XS.ifNo X38.here hx rfl (hb hby at_40) rfl ((if0 _ _).trans (teq hc39).2) k) ?_
  show own_R p.tables e below P (T38.setTop (mkF m 43 #[.val (.long p0), .second, .val (.long p1), .second, .val (.long p2), .second, .val (.ref o32), .unset, .unset] []))
  refine own_fwd (fun t k => XS.aload X38.here hx rfl (hb hby at_43) rfl rfl k) ?_
  show own_R p.tables e below P (T38.setTop (mkF m 45 #[.val (.long p0), .second, .val (.long p1), .second, .val (.long p2), .second, .val (.ref o32), .unset, .unset] [(.ref o32)]))
  obtain ⟨cq40, kq40, q40a, q40b, q40c⟩ := isOf hZ e38 E32_
  obtain ⟨_, _, ⟨T40, L40, k40, n40⟩, -, X40, ⟨Lc40, hQ40, l40, y40, z40⟩, st40⟩ := X38.virtualBack hx (y := (⟨"com/example/leaselock/leaselock/Answer", "endsAtRelease", "()Z"⟩ : MethodName)) (z := (⟨"com/example/leaselock/leaselock/Answer", "endsAtRelease", "()Z"⟩ : MethodName)) hown (mvT hZ (hw _ (List.mem_of_getElem? (i := 40) rfl))) (mvT hZ (hw _ (List.mem_of_getElem? (i := 41) rfl))) (notFace_of_selects (args := #[]) (mvT hZ (hw _ (List.mem_of_getElem? (i := 43) rfl)))) (mvT hZ (hw _ (List.mem_of_getElem? (i := 43) rfl))) (mvT hZ (hw _ (List.mem_of_getElem? (i := 42) rfl))) (by decide) (backOf (W := 0) (own_rm8 l Z a0 hw [] o32 (1 : Int32) h32 n0 Z32 J32_ (by decide)) hZ (hw _ (List.mem_of_getElem? (i := 44) rfl)) (hw _ (List.mem_of_getElem? (i := 2) rfl)) (by decide) (by decide)) q40a q40c (g := (mkF m 45 #[.val (.long p0), .second, .val (.long p1), .second, .val (.long p2), .second, .val (.ref o32), .unset, .unset] [(.ref o32)])) rfl (by rw [hml]; rfl) (Steps.refl _) (argsL := []) (rest := []) (lenOf own_pd3 rfl) rfl (by show 2 * 0 + _ ≤ _; exact Nat.le_of_eq rfl) (hb hby at_45) (fun _ _ => ⟨rfl, e38, (by decide : 1 + 0 ≤ _), (by decide : 4 + 0 ≤ _)⟩)
  dsimp only [Pt.U, Pt.locs, Pt.cells, Pt.slots] at X40 l40 y40 z40 st40 hQ40
  subst l40 y40 z40
  obtain ⟨h40, e40⟩ : ∃ z, T40.heap = z := ⟨_, rfl⟩
  rw [e40] at hQ40
  obtain ⟨hq40, N40q, q40⟩ := hQ40
  rw [q40] at e40
  subst hq40
  have N40 := Fr.app N38 N40q
  refine own_trn st40 ?_
  show own_R p.tables e below P (T40.setTop (mkF m 48 #[.val (.long p0), .second, .val (.long p1), .second, .val (.long p2), .second, .val (.ref o32), .unset, .unset] [(.int (1 : Int32))]))
  have hc41 : ¬ ((1 : Int32) = (0 : Int32)) := (by decide)
  refine own_fwd (fun t k => XS.ifNo X40.here hx rfl (hb hby at_48) rfl ((if0 _ _).trans (feq hc41).1) k) ?_
  show own_R p.tables e below P (T40.setTop (mkF m 51 #[.val (.long p0), .second, .val (.long p1), .second, .val (.long p2), .second, .val (.ref o32), .unset, .unset] []))
  refine own_fwd (fun t k => XS.iconst X40.here hx rfl (hb hby at_51) k) ?_
  show own_R p.tables e below P (T40.setTop (mkF m 52 #[.val (.long p0), .second, .val (.long p1), .second, .val (.long p2), .second, .val (.ref o32), .unset, .unset] [(.int (1 : Int32))]))
  refine own_fwd (fun t k => XS.goto X40.here hx rfl (pc0 := 52) (pc' := 56) rfl (hb hby at_52) (by decide) (by decide) k) ?_
  show own_R p.tables e below P (T40.setTop (mkF m 56 #[.val (.long p0), .second, .val (.long p1), .second, .val (.long p2), .second, .val (.ref o32), .unset, .unset] [(.int (1 : Int32))]))
  refine own_fwd (fun t k => XS.istore X40.here hx rfl (hb hby at_56) rfl (l' := #[.val (.long p0), .second, .val (.long p1), .second, .val (.long p2), .second, .val (.ref o32), .val (.int (1 : Int32)), .unset]) rfl k) ?_
  show own_R p.tables e below P (T40.setTop (mkF m 58 #[.val (.long p0), .second, .val (.long p1), .second, .val (.long p2), .second, .val (.ref o32), .val (.int (1 : Int32)), .unset] []))
  refine own_fwd (fun t k => XS.aload X40.here hx rfl (hb hby at_58) rfl rfl k) ?_
  show own_R p.tables e below P (T40.setTop (mkF m 60 #[.val (.long p0), .second, .val (.long p1), .second, .val (.long p2), .second, .val (.ref o32), .val (.int (1 : Int32)), .unset] [(.ref o32)]))
  refine own_fwd (fun t k => XS.lload X40.here hx rfl (hb hby at_60) rfl k) ?_
  show own_R p.tables e below P (T40.setTop (mkF m 62 #[.val (.long p0), .second, .val (.long p1), .second, .val (.long p2), .second, .val (.ref o32), .val (.int (1 : Int32)), .unset] [(.long p2), (.ref o32)]))
  obtain ⟨cq42, kq42, q42a, q42b, q42c⟩ := isOf hZ e40 E32_
  obtain ⟨_, _, ⟨T42, L42, k42, n42⟩, -, X42, ⟨Lc42, hQ42, l42, y42, z42⟩, st42⟩ := X40.virtualBack hx (y := (⟨"com/example/leaselock/leaselock/Answer", "sleepingAtMost", "(J)Lcom/example/leaselock/leaselock/Answer;"⟩ : MethodName)) (z := (⟨"com/example/leaselock/leaselock/Answer", "sleepingAtMost", "(J)Lcom/example/leaselock/leaselock/Answer;"⟩ : MethodName)) hown (mvT hZ (hw _ (List.mem_of_getElem? (i := 45) rfl))) (mvT hZ (hw _ (List.mem_of_getElem? (i := 46) rfl))) (notFace_of_selects (args := #[]) (mvT hZ (hw _ (List.mem_of_getElem? (i := 48) rfl)))) (mvT hZ (hw _ (List.mem_of_getElem? (i := 48) rfl))) (mvT hZ (hw _ (List.mem_of_getElem? (i := 47) rfl))) (by decide) (backOf (W := 0) (own_rm9 l Z a0 hw [] o32 p2 p0 p1 (1 : Int32) h32 n0 Z32 E32_ G32_ H32_ I32_ J32_ ge_o32 (by decide)) hZ (hw _ (List.mem_of_getElem? (i := 49) rfl)) (hw _ (List.mem_of_getElem? (i := 2) rfl)) (by decide) (by decide)) q42a q42c (g := (mkF m 62 #[.val (.long p0), .second, .val (.long p1), .second, .val (.long p2), .second, .val (.ref o32), .val (.int (1 : Int32)), .unset] [(.long p2), (.ref o32)])) rfl (by rw [hml]; rfl) (Steps.refl _) (argsL := [(.long p2)]) (rest := []) (lenOf own_pd5 rfl) rfl (by show 2 * 0 + _ ≤ _; exact Nat.le_of_eq rfl) (hb hby at_62) (fun _ _ => ⟨rfl, e40, (by decide : 1 + 1 ≤ _), (by decide : 4 + 4 ≤ _)⟩)
  dsimp only [Pt.U, Pt.locs, Pt.cells, Pt.slots] at X42 l42 y42 z42 st42 hQ42
  subst l42 y42 z42
  obtain ⟨h42, e42⟩ : ∃ z, T42.heap = z := ⟨_, rfl⟩
  rw [e42] at hQ42
  obtain ⟨o42, hq42, N42q, ge_o42, K42, E42_, G42_, H42_, I42_, J42_⟩ := hQ42
  subst hq42
  have N42 := Fr.app N40 N42q
  have E32__x42 := E32_.keep K42
  have G32__x42 := G32_.keep K42 nin0
  have H32__x42 := H32_.keep K42 nin0
  have I32__x42 := I32_.keep K42 nin0
  have J32__x42 := J32_.keep K42 nin0
  have Z42 : n0 ≤ h42.size := Nat.le_trans Z32 K42.1
  have Y42 : h0.size ≤ h42.size := Nat.le_trans Y32 K42.1
  refine own_trn st42 ?_
  show own_R p.tables e below P (T42.setTop (mkF m 65 #[.val (.long p0), .second, .val (.long p1), .second, .val (.long p2), .second, .val (.ref o32), .val (.int (1 : Int32)), .unset] [(.ref o42)]))
  refine own_fwd (fun t k => XS.astore X42.here hx rfl (hb hby at_65) rfl rfl (l' := #[.val (.long p0), .second, .val (.long p1), .second, .val (.long p2), .second, .val (.ref o32), .val (.int (1 : Int32)), .val (.ref o42)]) rfl k) ?_
  show own_R p.tables e below P (T42.setTop (mkF m 67 #[.val (.long p0), .second, .val (.long p1), .second, .val (.long p2), .second, .val (.ref o32), .val (.int (1 : Int32)), .val (.ref o42)] []))
  refine own_fwd (fun t k => XS.iload X42.here hx rfl (hb hby at_67) rfl k) ?_
  show own_R p.tables e below P (T42.setTop (mkF m 69 #[.val (.long p0), .second, .val (.long p1), .second, .val (.long p2), .second, .val (.ref o32), .val (.int (1 : Int32)), .val (.ref o42)] [(.int (1 : Int32))]))
  have hc43 : ¬ ((1 : Int32) = (0 : Int32)) := (by decide)
  refine own_fwd (fun t k => XS.ifNo X42.here hx rfl (hb hby at_69) rfl ((if0 _ _).trans (feq hc43).1) k) ?_
  show own_R p.tables e below P (T42.setTop (mkF m 72 #[.val (.long p0), .second, .val (.long p1), .second, .val (.long p2), .second, .val (.ref o32), .val (.int (1 : Int32)), .val (.ref o42)] []))
  refine own_fwd (fun t k => XS.aload X42.here hx rfl (hb hby at_72) rfl rfl k) ?_
  show own_R p.tables e below P (T42.setTop (mkF m 74 #[.val (.long p0), .second, .val (.long p1), .second, .val (.long p2), .second, .val (.ref o32), .val (.int (1 : Int32)), .val (.ref o42)] [(.ref o42)]))
  obtain ⟨cq44, kq44, q44a, q44b, q44c⟩ := isOf hZ e42 E42_
  obtain ⟨_, _, ⟨T44, L44, k44, n44⟩, -, X44, ⟨Lc44, hQ44, l44, y44, z44⟩, st44⟩ := X42.virtualBack hx (y := (⟨"com/example/leaselock/leaselock/Answer", "asked", "()J"⟩ : MethodName)) (z := (⟨"com/example/leaselock/leaselock/Answer", "asked", "()J"⟩ : MethodName)) hown (mvT hZ (hw _ (List.mem_of_getElem? (i := 20) rfl))) (mvT hZ (hw _ (List.mem_of_getElem? (i := 21) rfl))) (notFace_of_selects (args := #[]) (mvT hZ (hw _ (List.mem_of_getElem? (i := 23) rfl)))) (mvT hZ (hw _ (List.mem_of_getElem? (i := 23) rfl))) (mvT hZ (hw _ (List.mem_of_getElem? (i := 22) rfl))) (by decide) (backOf (W := 0) (own_rm4 l Z a0 hw [] o42 p0 h42 n0 Z42 G42_ ) hZ (hw _ (List.mem_of_getElem? (i := 24) rfl)) (hw _ (List.mem_of_getElem? (i := 2) rfl)) (by decide) (by decide)) q44a q44c (g := (mkF m 74 #[.val (.long p0), .second, .val (.long p1), .second, .val (.long p2), .second, .val (.ref o32), .val (.int (1 : Int32)), .val (.ref o42)] [(.ref o42)])) rfl (by rw [hml]; rfl) (Steps.refl _) (argsL := []) (rest := []) (lenOf own_pd2 rfl) rfl (by show 2 * 0 + _ ≤ _; exact Nat.le_of_eq rfl) (hb hby at_74) (fun _ _ => ⟨rfl, e42, (by decide : 2 + 0 ≤ _), (by decide : 8 + 0 ≤ _)⟩)
  dsimp only [Pt.U, Pt.locs, Pt.cells, Pt.slots] at X44 l44 y44 z44 st44 hQ44
  subst l44 y44 z44
  obtain ⟨h44, e44⟩ : ∃ z, T44.heap = z := ⟨_, rfl⟩
  rw [e44] at hQ44
  obtain ⟨hq44, N44q, q44⟩ := hQ44
  rw [q44] at e44
  subst hq44
  have N44 := Fr.app N42 N44q
  refine own_trn st44 ?_
  show own_R p.tables e below P (T44.setTop (mkF m 77 #[.val (.long p0), .second, .val (.long p1), .second, .val (.long p2), .second, .val (.ref o32), .val (.int (1 : Int32)), .val (.ref o42)] [(.long p0)]))
  refine own_fwd (fun t k => XS.lloadN X44.here hx rfl (hb hby at_77) rfl k) ?_
  show own_R p.tables e below P (T44.setTop (mkF m 78 #[.val (.long p0), .second, .val (.long p1), .second, .val (.long p2), .second, .val (.ref o32), .val (.int (1 : Int32)), .val (.ref o42)] [(.long p0), (.long p0)]))
  refine own_fwd (fun t k => XS.lcmp X44.here hx rfl (hb hby at_78) rfl k) ?_
  show own_R p.tables e below P (T44.setTop (mkF m 79 #[.val (.long p0), .second, .val (.long p1), .second, .val (.long p2), .second, .val (.ref o32), .val (.int (1 : Int32)), .val (.ref o42)] [(.int (lcmpW p0 p0))]))
  have hc45 : (lcmpW p0 p0) = (0 : Int32) := (lw_eq _ _).mpr rfl
  refine own_fwd (fun t k => XS.ifNo X44.here hx rfl (hb hby at_79) rfl ((if0 _ _).trans (teq hc45).2) k) ?_
  show own_R p.tables e below P (T44.setTop (mkF m 82 #[.val (.long p0), .second, .val (.long p1), .second, .val (.long p2), .second, .val (.ref o32), .val (.int (1 : Int32)), .val (.ref o42)] []))
  refine own_fwd (fun t k => XS.aload X44.here hx rfl (hb hby at_82) rfl rfl k) ?_
  show own_R p.tables e below P (T44.setTop (mkF m 84 #[.val (.long p0), .second, .val (.long p1), .second, .val (.long p2), .second, .val (.ref o32), .val (.int (1 : Int32)), .val (.ref o42)] [(.ref o42)]))
  obtain ⟨cq46, kq46, q46a, q46b, q46c⟩ := isOf hZ e44 E42_
  obtain ⟨_, _, ⟨T46, L46, k46, n46⟩, -, X46, ⟨Lc46, hQ46, l46, y46, z46⟩, st46⟩ := X44.virtualBack hx (y := (⟨"com/example/leaselock/leaselock/Answer", "grant", "()Lcom/example/leaselock/leaselock/Grant;"⟩ : MethodName)) (z := (⟨"com/example/leaselock/leaselock/Answer", "grant", "()Lcom/example/leaselock/leaselock/Grant;"⟩ : MethodName)) hown (mvT hZ (hw _ (List.mem_of_getElem? (i := 30) rfl))) (mvT hZ (hw _ (List.mem_of_getElem? (i := 31) rfl))) (notFace_of_selects (args := #[]) (mvT hZ (hw _ (List.mem_of_getElem? (i := 33) rfl)))) (mvT hZ (hw _ (List.mem_of_getElem? (i := 33) rfl))) (mvT hZ (hw _ (List.mem_of_getElem? (i := 32) rfl))) (by decide) (backOf (W := 0) (own_rm6 l Z a0 hw [] o42  h42 n0 Z42 H42_ ) hZ (hw _ (List.mem_of_getElem? (i := 34) rfl)) (hw _ (List.mem_of_getElem? (i := 2) rfl)) (by decide) (by decide)) q46a q46c (g := (mkF m 84 #[.val (.long p0), .second, .val (.long p1), .second, .val (.long p2), .second, .val (.ref o32), .val (.int (1 : Int32)), .val (.ref o42)] [(.ref o42)])) rfl (by rw [hml]; rfl) (Steps.refl _) (argsL := []) (rest := []) (lenOf own_pd4 rfl) rfl (by show 2 * 0 + _ ≤ _; exact Nat.le_of_eq rfl) (hb hby at_84) (fun _ _ => ⟨rfl, e44, (by decide : 2 + 0 ≤ _), (by decide : 8 + 0 ≤ _)⟩)
  dsimp only [Pt.U, Pt.locs, Pt.cells, Pt.slots] at X46 l46 y46 z46 st46 hQ46
  subst l46 y46 z46
  obtain ⟨h46, e46⟩ : ∃ z, T46.heap = z := ⟨_, rfl⟩
  rw [e46] at hQ46
  obtain ⟨hq46, N46q, q46⟩ := hQ46
  rw [q46] at e46
  subst hq46
  have N46 := Fr.app N44 N46q
  refine own_trn st46 ?_
  show own_R p.tables e below P (T46.setTop (mkF m 87 #[.val (.long p0), .second, .val (.long p1), .second, .val (.long p2), .second, .val (.ref o32), .val (.int (1 : Int32)), .val (.ref o42)] [.null]))
  refine own_fwd (fun t k => XS.ifnonnullNo X46.here hx rfl (hb hby at_87) rfl k) ?_
  show own_R p.tables e below P (T46.setTop (mkF m 90 #[.val (.long p0), .second, .val (.long p1), .second, .val (.long p2), .second, .val (.ref o32), .val (.int (1 : Int32)), .val (.ref o42)] []))
  refine own_fwd (fun t k => XS.aload X46.here hx rfl (hb hby at_90) rfl rfl k) ?_
  show own_R p.tables e below P (T46.setTop (mkF m 92 #[.val (.long p0), .second, .val (.long p1), .second, .val (.long p2), .second, .val (.ref o32), .val (.int (1 : Int32)), .val (.ref o42)] [(.ref o42)]))
  obtain ⟨cq47, kq47, q47a, q47b, q47c⟩ := isOf hZ e46 E42_
  obtain ⟨_, _, ⟨T47, L47, k47, n47⟩, -, X47, ⟨Lc47, hQ47, l47, y47, z47⟩, st47⟩ := X46.virtualBack hx (y := (⟨"com/example/leaselock/leaselock/Answer", "sleepNanos", "()J"⟩ : MethodName)) (z := (⟨"com/example/leaselock/leaselock/Answer", "sleepNanos", "()J"⟩ : MethodName)) hown (mvT hZ (hw _ (List.mem_of_getElem? (i := 35) rfl))) (mvT hZ (hw _ (List.mem_of_getElem? (i := 36) rfl))) (notFace_of_selects (args := #[]) (mvT hZ (hw _ (List.mem_of_getElem? (i := 38) rfl)))) (mvT hZ (hw _ (List.mem_of_getElem? (i := 38) rfl))) (mvT hZ (hw _ (List.mem_of_getElem? (i := 37) rfl))) (by decide) (backOf (W := 0) (own_rm7 l Z a0 hw [] o42 (if p2 < p1 then p2 else p1) h42 n0 Z42 I42_ ) hZ (hw _ (List.mem_of_getElem? (i := 39) rfl)) (hw _ (List.mem_of_getElem? (i := 2) rfl)) (by decide) (by decide)) q47a q47c (g := (mkF m 92 #[.val (.long p0), .second, .val (.long p1), .second, .val (.long p2), .second, .val (.ref o32), .val (.int (1 : Int32)), .val (.ref o42)] [(.ref o42)])) rfl (by rw [hml]; rfl) (Steps.refl _) (argsL := []) (rest := []) (lenOf own_pd2 rfl) rfl (by show 2 * 0 + _ ≤ _; exact Nat.le_of_eq rfl) (hb hby at_92) (fun _ _ => ⟨rfl, e46, (by decide : 2 + 0 ≤ _), (by decide : 8 + 0 ≤ _)⟩)
  dsimp only [Pt.U, Pt.locs, Pt.cells, Pt.slots] at X47 l47 y47 z47 st47 hQ47
  subst l47 y47 z47
  obtain ⟨h47, e47⟩ : ∃ z, T47.heap = z := ⟨_, rfl⟩
  rw [e47] at hQ47
  obtain ⟨hq47, N47q, q47⟩ := hQ47
  rw [q47] at e47
  subst hq47
  have N47 := Fr.app N46 N47q
  refine own_trn st47 ?_
  show own_R p.tables e below P (T47.setTop (mkF m 95 #[.val (.long p0), .second, .val (.long p1), .second, .val (.long p2), .second, .val (.ref o32), .val (.int (1 : Int32)), .val (.ref o42)] [(.long (if p2 < p1 then p2 else p1))]))
  refine own_fwd (fun t k => XS.lloadN X47.here hx rfl (hb hby at_95) rfl k) ?_
  show own_R p.tables e below P (T47.setTop (mkF m 96 #[.val (.long p0), .second, .val (.long p1), .second, .val (.long p2), .second, .val (.ref o32), .val (.int (1 : Int32)), .val (.ref o42)] [(.long p1), (.long (if p2 < p1 then p2 else p1))]))
  refine own_fwd (fun t k => XS.lload X47.here hx rfl (hb hby at_96) rfl k) ?_
  show own_R p.tables e below P (T47.setTop (mkF m 98 #[.val (.long p0), .second, .val (.long p1), .second, .val (.long p2), .second, .val (.ref o32), .val (.int (1 : Int32)), .val (.ref o42)] [(.long p2), (.long p1), (.long (if p2 < p1 then p2 else p1))]))
  obtain ⟨_, _, ⟨T48, L48, k48, n48⟩, -, X48, ⟨Lc48, hQ48, l48, y48, z48⟩, st48⟩ := Jvm.LawKit.callS X47 hx (y := (⟨"java/lang/Math", "min", "(JJ)J"⟩ : MethodName)) hown (mvT hZ (hw _ (List.mem_of_getElem? (i := 50) rfl))) (mvT hZ (hw _ (List.mem_of_getElem? (i := 51) rfl))) (mvT hZ (hw _ (List.mem_of_getElem? (i := 52) rfl))) (mvT hZ (hw _ (List.mem_of_getElem? (i := 53) rfl))) (by decide) (backOf (W := 2) (own_rm10 l Z a0 hw [] p1 p2 h42 n0 Z42 ) hZ (hw _ (List.mem_of_getElem? (i := 53) rfl)) (hw _ (List.mem_of_getElem? (i := 52) rfl)) (by decide) (by decide)) (g := (mkF m 98 #[.val (.long p0), .second, .val (.long p1), .second, .val (.long p2), .second, .val (.ref o32), .val (.int (1 : Int32)), .val (.ref o42)] [(.long p2), (.long p1), (.long (if p2 < p1 then p2 else p1))])) rfl (by rw [hml]; rfl) (argsL := [(.long p1), (.long p2)]) (rest := [(.long (if p2 < p1 then p2 else p1))]) (lenOf own_pd6 rfl) rfl (by show 2 * 0 + _ ≤ _; exact Nat.le_of_eq rfl) (hb hby at_98) (fun _ _ => ⟨rfl, e47, (by decide : 2 + 0 ≤ _), (by decide : 8 + 0 ≤ _)⟩)
  dsimp only [Pt.U, Pt.locs, Pt.cells, Pt.slots] at X48 l48 y48 z48 st48 hQ48
  subst l48 y48 z48
  obtain ⟨h48, e48⟩ : ∃ z, T48.heap = z := ⟨_, rfl⟩
  rw [e48] at hQ48
  obtain ⟨hq48, N48q, q48⟩ := hQ48
  rw [q48] at e48
  subst hq48
  have N48 := Fr.app N47 N48q
  refine own_fwd st48 ?_
  show own_R p.tables e below P (T48.setTop (mkF m 101 #[.val (.long p0), .second, .val (.long p1), .second, .val (.long p2), .second, .val (.ref o32), .val (.int (1 : Int32)), .val (.ref o42)] [(.long (if p2 < p1 then p2 else p1)), (.long (if p2 < p1 then p2 else p1))]))
  refine own_fwd (fun t k => XS.lcmp X48.here hx rfl (hb hby at_101) rfl k) ?_
  show own_R p.tables e below P (T48.setTop (mkF m 102 #[.val (.long p0), .second, .val (.long p1), .second, .val (.long p2), .second, .val (.ref o32), .val (.int (1 : Int32)), .val (.ref o42)] [(.int (lcmpW (if p2 < p1 then p2 else p1) (if p2 < p1 then p2 else p1)))]))
  have hc49 : (lcmpW (if p2 < p1 then p2 else p1) (if p2 < p1 then p2 else p1)) = (0 : Int32) := (lw_eq _ _).mpr rfl
  refine own_fwd (fun t k => XS.ifNo X48.here hx rfl (hb hby at_102) rfl ((if0 _ _).trans (teq hc49).2) k) ?_
  show own_R p.tables e below P (T48.setTop (mkF m 105 #[.val (.long p0), .second, .val (.long p1), .second, .val (.long p2), .second, .val (.ref o32), .val (.int (1 : Int32)), .val (.ref o42)] []))
  refine own_fwd (fun t k => XS.aload X48.here hx rfl (hb hby at_105) rfl rfl k) ?_
  show own_R p.tables e below P (T48.setTop (mkF m 107 #[.val (.long p0), .second, .val (.long p1), .second, .val (.long p2), .second, .val (.ref o32), .val (.int (1 : Int32)), .val (.ref o42)] [(.ref o42)]))
  obtain ⟨cq50, kq50, q50a, q50b, q50c⟩ := isOf hZ e48 E42_
  obtain ⟨_, _, ⟨T50, L50, k50, n50⟩, -, X50, ⟨Lc50, hQ50, l50, y50, z50⟩, st50⟩ := X48.virtualBack hx (y := (⟨"com/example/leaselock/leaselock/Answer", "endsAtRelease", "()Z"⟩ : MethodName)) (z := (⟨"com/example/leaselock/leaselock/Answer", "endsAtRelease", "()Z"⟩ : MethodName)) hown (mvT hZ (hw _ (List.mem_of_getElem? (i := 40) rfl))) (mvT hZ (hw _ (List.mem_of_getElem? (i := 41) rfl))) (notFace_of_selects (args := #[]) (mvT hZ (hw _ (List.mem_of_getElem? (i := 43) rfl)))) (mvT hZ (hw _ (List.mem_of_getElem? (i := 43) rfl))) (mvT hZ (hw _ (List.mem_of_getElem? (i := 42) rfl))) (by decide) (backOf (W := 0) (own_rm8 l Z a0 hw [] o42 (1 : Int32) h42 n0 Z42 J42_ (by decide)) hZ (hw _ (List.mem_of_getElem? (i := 44) rfl)) (hw _ (List.mem_of_getElem? (i := 2) rfl)) (by decide) (by decide)) q50a q50c (g := (mkF m 107 #[.val (.long p0), .second, .val (.long p1), .second, .val (.long p2), .second, .val (.ref o32), .val (.int (1 : Int32)), .val (.ref o42)] [(.ref o42)])) rfl (by rw [hml]; rfl) (Steps.refl _) (argsL := []) (rest := []) (lenOf own_pd3 rfl) rfl (by show 2 * 0 + _ ≤ _; exact Nat.le_of_eq rfl) (hb hby at_107) (fun _ _ => ⟨rfl, e48, (by decide : 2 + 0 ≤ _), (by decide : 8 + 0 ≤ _)⟩)
  dsimp only [Pt.U, Pt.locs, Pt.cells, Pt.slots] at X50 l50 y50 z50 st50 hQ50
  subst l50 y50 z50
  obtain ⟨h50, e50⟩ : ∃ z, T50.heap = z := ⟨_, rfl⟩
  rw [e50] at hQ50
  obtain ⟨hq50, N50q, q50⟩ := hQ50
  rw [q50] at e50
  subst hq50
  have N50 := Fr.app N48 N50q
  refine own_trn st50 ?_
  show own_R p.tables e below P (T50.setTop (mkF m 110 #[.val (.long p0), .second, .val (.long p1), .second, .val (.long p2), .second, .val (.ref o32), .val (.int (1 : Int32)), .val (.ref o42)] [(.int (1 : Int32))]))
  have hc51 : ¬ ((1 : Int32) = (0 : Int32)) := (by decide)
  refine own_fwd (fun t k => XS.ifNo X50.here hx rfl (hb hby at_110) rfl ((if0 _ _).trans (feq hc51).1) k) ?_
  show own_R p.tables e below P (T50.setTop (mkF m 113 #[.val (.long p0), .second, .val (.long p1), .second, .val (.long p2), .second, .val (.ref o32), .val (.int (1 : Int32)), .val (.ref o42)] []))
  refine own_fwd (fun t k => XS.iconst X50.here hx rfl (hb hby at_113) k) ?_
  show own_R p.tables e below P (T50.setTop (mkF m 114 #[.val (.long p0), .second, .val (.long p1), .second, .val (.long p2), .second, .val (.ref o32), .val (.int (1 : Int32)), .val (.ref o42)] [(.int (1 : Int32))]))
  refine own_fwd (fun t k => XS.goto X50.here hx rfl (pc0 := 114) (pc' := 118) rfl (hb hby at_114) (by decide) (by decide) k) ?_
  show own_R p.tables e below P (T50.setTop (mkF m 118 #[.val (.long p0), .second, .val (.long p1), .second, .val (.long p2), .second, .val (.ref o32), .val (.int (1 : Int32)), .val (.ref o42)] [(.int (1 : Int32))]))
  refine own_fwd (fun t k => XS.istore X50.here hx rfl (hb hby at_118) rfl (l' := #[.val (.long p0), .second, .val (.long p1), .second, .val (.long p2), .second, .val (.ref o32), .val (.int (1 : Int32)), .val (.ref o42)]) rfl k) ?_
  show own_R p.tables e below P (T50.setTop (mkF m 120 #[.val (.long p0), .second, .val (.long p1), .second, .val (.long p2), .second, .val (.ref o32), .val (.int (1 : Int32)), .val (.ref o42)] []))
  refine own_fwd (fun t k => XS.iload X50.here hx rfl (hb hby at_120) rfl k) ?_
  show own_R p.tables e below P (T50.setTop (mkF m 122 #[.val (.long p0), .second, .val (.long p1), .second, .val (.long p2), .second, .val (.ref o32), .val (.int (1 : Int32)), .val (.ref o42)] [(.int (1 : Int32))]))
  obtain ⟨fs52, hr52, hrun52, hended52, hW52, hsame52⟩ := X50.leave (v := some (.int (1 : Int32))) (fun h => by rw [Bd.returns] at h; cases h)
  refine ⟨_, _, X50.ireturnOut hx (w := (1 : Int32)) Bd.returns rfl (by simp) (hb hby at_122) hr52, fin _ _ ⟨hrun52, hended52, _, _, rfl, ?_, ⟨_, rfl⟩, hW52, hsame52.mono (by decide) (by decide)⟩⟩
  show own_Qlaw Z p0 p1 p2 h0 n0 _ T50.heap _
  rw [e50]
  exact ⟨rfl, N50⟩
set_option maxRecDepth 65536 in
set_option maxHeartbeats 40000000 in
theorem own_comes {Post : Tables → Env → Array Value → State → Outcome → State → Prop} (hpost : ∀ tb e args s v u, (limb_1_1.after args s (.returned v) u = true ∧ limb_1_2.after args s (.returned v) u = true ∧ True) → FrameEnd s (.returned v) u (Jvm.fieldLocs frame_1_writes args s ++ Jvm.arrayLocs frame_1_arrays args s ++ Jvm.staticLocs frame_1_statics s) 16 128 → Post tb e args s (.returned v) u) :
    ArmFor flags0 classFile x code maxLocals ret World_1 tables_1 room_1 Calls_1 rest_1 Pre_1 Post := by
  intro l hfl _ _ p e ha hc hk s m args below hf hA hF happ hP
  obtain ⟨hcalls, hrest, hpre⟩ := hP
  obtain ⟨-, -, -, hnamed, -, -, -, hat⟩ := (Spec.applies_iff hf).mp happ
  obtain ⟨hg, hn⟩ := and_e (Cond.before_iff.mp (show (Jvm.Cond.and given_1 narrow_1).before args s = true from hpre))
  obtain ⟨g1, g2⟩ := and_e hg
  obtain ⟨g3, g4⟩ := and_e g2
  obtain ⟨g5, g6⟩ := and_e g4
  obtain ⟨w0, w1, w2, rfl⟩ : ∃ w0 w1 w2 : Value, args = #[w0, w1, w2] := by
    have hs : args.size = 3 := by simpa [Cond.value, given_1] using g1
    obtain ⟨L⟩ := args
    match L, hs with
    | [w0, w1, w2], _ => exact ⟨w0, w1, w2, rfl⟩
  have hw := fun d (hd : d ∈ tables_1) => atoms_spec (ws := Jvm.Cond.code x code maxLocals ret :: tables_1) hat d (List.mem_cons_of_mem _ hd)
  obtain ⟨i0, ei0⟩ := isL_v g3
  obtain rfl : w0 = (.long i0) := Option.some.inj ei0
  obtain ⟨i1, ei1⟩ := isL_v g5
  obtain rfl : w1 = (.long i1) := Option.some.inj ei1
  obtain ⟨i2, ei2⟩ := isL_v g6
  obtain rfl : w2 = (.long i2) := Option.some.inj ei2
  obtain ⟨n, o, h1, h2, h3, _, L, rfl, ⟨rfl, N⟩, hq⟩ := own_rmlaw l s _ hw tables_1 i0 i1 i2 s.heap s.heap.size (Nat.le_refl _) p e ha hc hk s m _ below hf ((Spec.applies_iff_loose hf).mp happ).1 ⟨rfl, State.Warmed39.refl s, rfl⟩ trivial
  refine ⟨n, _, h1, h2, h3, hpost _ _ _ _ _ _ ⟨Cond.after_iff.mpr rfl, Cond.after_iff.mpr (eq_i res_at (Term.int_eval (1)) rfl), trivial⟩ ⟨hq.1, hq.2.1, (hq.2.2.sift fun y hy => Or.inr (N y hy)).mono (by decide) (by decide)⟩⟩
theorem main_1_1 : Claimed_1_1 := own_comes fun _ _ _ _ _ _ h hF => ⟨h.1, hF⟩
theorem main_1_2 : Claimed_1_2 := own_comes fun _ _ _ _ _ _ h hF => ⟨h.2.1, hF⟩
end Jvm.Pilot.@@N@@
namespace Jvm.Pilot.@@N@@
open Jvm Jvm.ClassFile Sem Op Lib Jvm.Free Jvm.Stand Jvm.Pilot.@@N@@.Jvm.D
/-! MADE BY PROGRAM (witnessworld.py) out of the Statement's table words and the real class files: 10 classes; the members and pool entries that the words name. The judged class is class 1, her method 1. -/
namespace start1
open Jvm.ClassFile
def u (s : String) : CpInfo := .utf8 (stringToUtf16 s)
/-- a pool by its gaps: so many unusable entries, then the entry; so many at the end -/
def gap : Nat → List CpInfo → List CpInfo
  | 0, r => r
  | n + 1, r => .unusable :: gap n r
def poolList (es : List (Nat × CpInfo)) (last : Nat) : List CpInfo := es.foldr (fun e r => gap e.1 (e.2 :: r)) (gap last [])
def pool (es : List (Nat × CpInfo)) (last : Nat) : Array CpInfo := ⟨poolList es last⟩
def fileOf (pool : Array CpInfo) (this : Nat) (attrs : Array Attribute := #[]) (ms : Array MethodInfo := #[]) (fl : Nat := 33) (sup : Nat := 0) (ifs : Array Nat := #[]) (fds : Array FieldInfo := #[]) : ClassFile where
  minorVersion := 0
  majorVersion := 65
  constantPool := pool
  accessFlags := fl
  thisClass := this
  superClass := sup
  interfaces := ifs
  fields := fds
  methods := ms
  attributes := attrs
def plain (name : String) (sup : Option ClassId) : Class where
  name := name
  kind := .ordinary
  loader := none
  accessFlags := 33
  super := sup
  interfaces := #[]
  cf := none
  fields := #[]
  methods := #[]
  instanceTypes := #[]
  staticTypes := #[]
  resolved := #[]
  callSites := []
  init := .initialized
  statics := none
  mirror := none

def pool0 : Array CpInfo := pool [(5, u "<init>"), (0, u "()V"), (1, .class_ 10), (1, u "java/lang/Object")] 113

def k0c0 : Code := { maxStack := 0, maxLocals := 1, code := object_method_1_code, exceptionTable := #[], attributes := #[] }
def k0m0 : Method := { name := "<init>", desc := "()V", sig := { parameters := [], returnType := none }, accessFlags := 1, code := some k0c0 }
/-- java/lang/Object -/
def k0 : Class := { plain "java/lang/Object" none with
  accessFlags := 33
  interfaces := #[]
  cf := some (fileOf pool0 8 #[] #[{ accessFlags := 1, nameIndex := 5, descriptorIndex := 6, attributes := #[] }] 33 0 #[] #[])
  fields := #[]
  methods := #[k0m0]
  instanceTypes := #[]
  staticTypes := #[]
  resolved := Array.replicate 124 none
  statics := none }

def pool1 : Array CpInfo := pool [(2, .class_ 4), (1, u "java/lang/Object"), (0, u "<init>"), (0, u "()V"), (0, .methodref 8 9), (0, .class_ 10), (0, .nameAndType 11 12), (0, u "com/example/leaselock/leaselock/Answer"), (0, u "held"), (0, u "(JJ)Lcom/example/leaselock/leaselock/Answer;"), (0, .methodref 8 14), (0, .nameAndType 15 16), (0, u "asked"), (0, u "()J"), (0, .methodref 8 18), (0, .nameAndType 19 20), (0, u "granted"), (0, u "()Z"), (0, .methodref 8 22), (0, .nameAndType 23 24), (0, u "grant"), (0, u "()Lcom/example/leaselock/leaselock/Grant;"), (0, .methodref 8 26), (0, .nameAndType 27 16), (0, u "sleepNanos"), (0, .methodref 8 29), (0, .nameAndType 30 20), (0, u "endsAtRelease"), (0, .methodref 8 32), (0, .nameAndType 33 34), (0, u "sleepingAtMost"), (0, u "(J)Lcom/example/leaselock/leaselock/Answer;"), (0, .methodref 36 37), (0, .class_ 38), (0, .nameAndType 39 40), (0, u "java/lang/Math"), (0, u "min"), (0, u "(JJ)J"), (0, .class_ 42), (0, u "com/example/leaselock/leaselock/AnswerHeldPinLaw"), (2, u "law"), (0, u "(JJJ)Z")] 3

def k1m0 : Method := { name := "<init>", desc := "()V", sig := { parameters := [], returnType := none }, accessFlags := 1, code := none }
def k1c1 : Code := { maxStack := 6, maxLocals := 9, code := code, exceptionTable := #[], attributes := #[] }
def k1m1 : Method := { name := "law", desc := "(JJJ)Z", sig := { parameters := [.long, .long, .long], returnType := some .boolean }, accessFlags := 9, code := some k1c1 }
/-- com/example/leaselock/leaselock/AnswerHeldPinLaw -/
def k1 : Class := { plain "com/example/leaselock/leaselock/AnswerHeldPinLaw" (some 0) with
  accessFlags := 49
  interfaces := #[]
  cf := some (fileOf pool1 41 #[] #[{ accessFlags := 1, nameIndex := 5, descriptorIndex := 6, attributes := #[] }, { accessFlags := 9, nameIndex := 45, descriptorIndex := 46, attributes := #[] }] 49 2 #[] #[])
  fields := #[]
  methods := #[k1m0, k1m1]
  instanceTypes := #[]
  staticTypes := #[]
  resolved := Array.replicate 50 none
  statics := none }

def pool2 : Array CpInfo := pool [(1, .methodref 2 3), (0, .class_ 4), (0, .nameAndType 5 6), (0, u "java/lang/Object"), (0, u "<init>"), (0, u "()V"), (0, .fieldref 8 9), (0, .class_ 10), (0, .nameAndType 11 12), (0, u "com/example/leaselock/leaselock/Answer"), (0, u "asked"), (0, u "J"), (0, .fieldref 8 14), (0, .nameAndType 15 16), (0, u "grant"), (0, u "Lcom/example/leaselock/leaselock/Grant;"), (0, .fieldref 8 18), (0, .nameAndType 19 12), (0, u "sleepNanos"), (0, .fieldref 8 21), (0, .nameAndType 22 23), (0, u "endsAtRelease"), (0, u "Z"), (0, .methodref 8 25), (0, .nameAndType 5 26), (0, u "(JLcom/example/leaselock/leaselock/Grant;JZ)V"), (2, u "granted"), (1, u "held"), (0, u "(JJ)Lcom/example/leaselock/leaselock/Answer;"), (1, u "sleepingAtMost"), (0, u "(J)Lcom/example/leaselock/leaselock/Answer;"), (1, u "()J"), (0, u "()Z"), (0, u "()Lcom/example/leaselock/leaselock/Grant;")] 2

def k2c0 : Code := { maxStack := 3, maxLocals := 7, code := prog_1_method_1_code, exceptionTable := #[], attributes := #[] }
def k2m0 : Method := { name := "<init>", desc := "(JLcom/example/leaselock/leaselock/Grant;JZ)V", sig := { parameters := [.long, (.object "com/example/leaselock/leaselock/Grant"), .long, .boolean], returnType := none }, accessFlags := 2, code := some k2c0 }
def k2c1 : Code := { maxStack := 8, maxLocals := 4, code := prog_1_method_3_code, exceptionTable := #[], attributes := #[] }
def k2m1 : Method := { name := "held", desc := "(JJ)Lcom/example/leaselock/leaselock/Answer;", sig := { parameters := [.long, .long], returnType := some (.object "com/example/leaselock/leaselock/Answer") }, accessFlags := 8, code := some k2c1 }
def k2c2 : Code := { maxStack := 8, maxLocals := 4, code := prog_1_method_5_code, exceptionTable := #[], attributes := #[] }
def k2m2 : Method := { name := "sleepingAtMost", desc := "(J)Lcom/example/leaselock/leaselock/Answer;", sig := { parameters := [.long], returnType := some (.object "com/example/leaselock/leaselock/Answer") }, accessFlags := 0, code := some k2c2 }
def k2c3 : Code := { maxStack := 2, maxLocals := 1, code := prog_1_method_6_code, exceptionTable := #[], attributes := #[] }
def k2m3 : Method := { name := "asked", desc := "()J", sig := { parameters := [], returnType := some .long }, accessFlags := 0, code := some k2c3 }
def k2c4 : Code := { maxStack := 1, maxLocals := 1, code := prog_1_method_7_code, exceptionTable := #[], attributes := #[] }
def k2m4 : Method := { name := "granted", desc := "()Z", sig := { parameters := [], returnType := some .boolean }, accessFlags := 0, code := some k2c4 }
def k2c5 : Code := { maxStack := 1, maxLocals := 1, code := prog_1_method_8_code, exceptionTable := #[], attributes := #[] }
def k2m5 : Method := { name := "grant", desc := "()Lcom/example/leaselock/leaselock/Grant;", sig := { parameters := [], returnType := some (.object "com/example/leaselock/leaselock/Grant") }, accessFlags := 0, code := some k2c5 }
def k2c6 : Code := { maxStack := 2, maxLocals := 1, code := prog_1_method_9_code, exceptionTable := #[], attributes := #[] }
def k2m6 : Method := { name := "sleepNanos", desc := "()J", sig := { parameters := [], returnType := some .long }, accessFlags := 0, code := some k2c6 }
def k2c7 : Code := { maxStack := 1, maxLocals := 1, code := prog_1_method_10_code, exceptionTable := #[], attributes := #[] }
def k2m7 : Method := { name := "endsAtRelease", desc := "()Z", sig := { parameters := [], returnType := some .boolean }, accessFlags := 0, code := some k2c7 }
/-- com/example/leaselock/leaselock/Answer -/
def k2 : Class := { plain "com/example/leaselock/leaselock/Answer" (some 0) with
  accessFlags := 32
  interfaces := #[]
  cf := some (fileOf pool2 8 #[] #[{ accessFlags := 2, nameIndex := 5, descriptorIndex := 26, attributes := #[] }, { accessFlags := 8, nameIndex := 31, descriptorIndex := 32, attributes := #[] }, { accessFlags := 0, nameIndex := 34, descriptorIndex := 35, attributes := #[] }, { accessFlags := 0, nameIndex := 11, descriptorIndex := 37, attributes := #[] }, { accessFlags := 0, nameIndex := 29, descriptorIndex := 38, attributes := #[] }, { accessFlags := 0, nameIndex := 15, descriptorIndex := 39, attributes := #[] }, { accessFlags := 0, nameIndex := 19, descriptorIndex := 37, attributes := #[] }, { accessFlags := 0, nameIndex := 22, descriptorIndex := 38, attributes := #[] }] 32 2 #[] #[{ accessFlags := 18, nameIndex := 11, descriptorIndex := 12, attributes := #[] }, { accessFlags := 18, nameIndex := 15, descriptorIndex := 16, attributes := #[] }, { accessFlags := 18, nameIndex := 19, descriptorIndex := 12, attributes := #[] }, { accessFlags := 18, nameIndex := 22, descriptorIndex := 23, attributes := #[] }])
  fields := #[{ name := "asked", type := .long, accessFlags := 18, slot := 0, constantValue := 0 }, { name := "grant", type := (.object "com/example/leaselock/leaselock/Grant"), accessFlags := 18, slot := 1, constantValue := 0 }, { name := "sleepNanos", type := .long, accessFlags := 18, slot := 2, constantValue := 0 }, { name := "endsAtRelease", type := .boolean, accessFlags := 18, slot := 3, constantValue := 0 }]
  methods := #[k2m0, k2m1, k2m2, k2m3, k2m4, k2m5, k2m6, k2m7]
  instanceTypes := #[.long, (.object "com/example/leaselock/leaselock/Grant"), .long, .boolean]
  staticTypes := #[]
  resolved := Array.replicate 42 none
  statics := none }

def pool3 : Array CpInfo := pool [(1, .class_ 2), (0, u "java/lang/Math"), (1, .class_ 6), (1, u "java/lang/Object"), (0, u "<init>"), (0, u "()V"), (89, .class_ 100), (1, u "java/lang/Math$RandomNumberGeneratorHolder"), (20, u "(JJ)J"), (50, u "negativeZeroFloatBits"), (0, u "J"), (2, u "negativeZeroDoubleBits"), (24, u "min"), (43, u "$assertionsDisabled"), (0, u "Z"), (91, u "twoToTheDoubleScaleDown"), (0, u "D"), (4, u "twoToTheDoubleScaleUp"), (9, u "E"), (3, u "PI"), (2, u "TAU"), (2, u "DEGREES_TO_RADIANS"), (0, u "RADIANS_TO_DEGREES")] 94

def k3m0 : Method := { name := "<init>", desc := "()V", sig := { parameters := [], returnType := none }, accessFlags := 2, code := none }
def k3c1 : Code := { maxStack := 4, maxLocals := 4, code := jdk_29_method_70_code, exceptionTable := #[], attributes := #[] }
def k3m1 : Method := { name := "min", desc := "(JJ)J", sig := { parameters := [.long, .long], returnType := some .long }, accessFlags := 9, code := some k3c1 }
/-- java/lang/Math -/
def k3 : Class := { plain "java/lang/Math" (some 0) with
  accessFlags := 49
  interfaces := #[]
  cf := some (fileOf pool3 1 #[.nestMembers #[98]] #[{ accessFlags := 2, nameIndex := 7, descriptorIndex := 8, attributes := #[] }, { accessFlags := 9, nameIndex := 201, descriptorIndex := 121, attributes := #[] }] 49 4 #[] #[{ accessFlags := 25, nameIndex := 354, descriptorIndex := 339, attributes := #[] }, { accessFlags := 25, nameIndex := 358, descriptorIndex := 339, attributes := #[] }, { accessFlags := 25, nameIndex := 361, descriptorIndex := 339, attributes := #[] }, { accessFlags := 26, nameIndex := 364, descriptorIndex := 339, attributes := #[] }, { accessFlags := 26, nameIndex := 365, descriptorIndex := 339, attributes := #[] }, { accessFlags := 26, nameIndex := 172, descriptorIndex := 173, attributes := #[] }, { accessFlags := 26, nameIndex := 176, descriptorIndex := 173, attributes := #[] }, { accessFlags := 8, nameIndex := 344, descriptorIndex := 339, attributes := #[] }, { accessFlags := 8, nameIndex := 338, descriptorIndex := 339, attributes := #[] }, { accessFlags := 4120, nameIndex := 245, descriptorIndex := 246, attributes := #[] }])
  fields := #[{ name := "E", type := .double, accessFlags := 25, slot := 0, constantValue := 0 }, { name := "PI", type := .double, accessFlags := 25, slot := 1, constantValue := 0 }, { name := "TAU", type := .double, accessFlags := 25, slot := 2, constantValue := 0 }, { name := "DEGREES_TO_RADIANS", type := .double, accessFlags := 26, slot := 3, constantValue := 0 }, { name := "RADIANS_TO_DEGREES", type := .double, accessFlags := 26, slot := 4, constantValue := 0 }, { name := "negativeZeroFloatBits", type := .long, accessFlags := 26, slot := 5, constantValue := 0 }, { name := "negativeZeroDoubleBits", type := .long, accessFlags := 26, slot := 6, constantValue := 0 }, { name := "twoToTheDoubleScaleUp", type := .double, accessFlags := 8, slot := 7, constantValue := 0 }, { name := "twoToTheDoubleScaleDown", type := .double, accessFlags := 8, slot := 8, constantValue := 0 }, { name := "$assertionsDisabled", type := .boolean, accessFlags := 4120, slot := 9, constantValue := 0 }]
  methods := #[k3m0, k3m1]
  instanceTypes := #[]
  staticTypes := #[.double, .double, .double, .double, .double, .long, .long, .double, .double, .boolean]
  resolved := Array.replicate 460 none
  statics := none }

def pool4 : Array CpInfo := pool [(1, u "java/lang/Cloneable"), (0, .class_ 1), (0, u "java/lang/Object"), (0, .class_ 3)] 3

/-- java/lang/Cloneable -/
def k4 : Class := { plain "java/lang/Cloneable" (some 0) with
  accessFlags := 1537
  interfaces := #[]
  cf := some (fileOf pool4 2 #[] #[] 1537 4 #[] #[])
  fields := #[]
  methods := #[]
  instanceTypes := #[]
  staticTypes := #[]
  resolved := Array.replicate 8 none
  statics := none }

def pool5 : Array CpInfo := pool [(1, u "java/io/Serializable"), (0, .class_ 1), (0, u "java/lang/Object"), (0, .class_ 3)] 3

/-- java/io/Serializable -/
def k5 : Class := { plain "java/io/Serializable" (some 0) with
  accessFlags := 1537
  interfaces := #[]
  cf := some (fileOf pool5 2 #[] #[] 1537 4 #[] #[])
  fields := #[]
  methods := #[]
  instanceTypes := #[]
  staticTypes := #[]
  resolved := Array.replicate 8 none
  statics := none }

/-- the primitive byte -/
def k6 : Class := { plain "byte" none with kind := .primitive 'B', accessFlags := 0x411 }
/-- [B -/
def k7 : Class := { plain "[B" (some 0) with kind := .array 6 .byte, interfaces := #[4, 5], accessFlags := 1041 }

/-- the primitive int -/
def k8 : Class := { plain "int" none with kind := .primitive 'I', accessFlags := 0x411 }
/-- [I -/
def k9 : Class := { plain "[I" (some 0) with kind := .array 8 .int, interfaces := #[4, 5], accessFlags := 1041 }

def heap : Heap := #[]
def classes : Array Class := #[k0, k1, k2, k3, k4, k5, k6, k7, k8, k9]
def interned : List (Array UInt16 × Addr) := []
def slotsUsed : Nat := 0
def theMethod : MethodId := ⟨1, 1⟩
def args0 : Array Value := #[.long 5, .long 9, .long 3]
def aboutOver (below : List Frame) : State where
  vm := { classes := classes, interned := interned.toArray }
  heap := heap
  slotsUsed := slotsUsed
  threads := #[{ frames := .invoking theMethod args0 :: below }]
def below0 : List Frame := [.native { method := ⟨0, 0⟩, args := #[] }]
def about1 : State := aboutOver below0
def p0 : Program := .bare "" "" ""
def e0 : Env := launch0.env 0 0 0
theorem w_frames : about1.frames = Frame.invoking theMethod args0 :: below0 := rfl
set_option maxRecDepth 65536 in
theorem w_args : argsFit about1.vm theMethod args0 = true := by decide +kernel
set_option maxRecDepth 65536 in
theorem w_heap : heapFits about1 = true := by decide +kernel
set_option maxRecDepth 65536 in
theorem w_runnable : about1.curStatus? = some .runnable := by decide +kernel
set_option maxRecDepth 65536 in
theorem w_alone : about1.alone = true := by decide +kernel
set_option maxRecDepth 65536 in
theorem w_named : about1.methodNamed? x = some theMethod := by decide +kernel
set_option maxRecDepth 65536 in
theorem w_hears : about1.hears theMethod below0 = true := by decide +kernel
set_option maxRecDepth 65536 in
theorem w_ripe : about1.ripe theMethod args0 below0 = true := by decide +kernel
theorem w_running : about1.status = .running := rfl
set_option maxRecDepth 65536 in
theorem w_room : about1.hasRoom e0.platform room_1 = true :=
  launch0.hasRoom_least _ room_1 (by decide +kernel) (by decide +kernel) (by decide +kernel) (by decide +kernel) (by decide +kernel) (by decide +kernel)
theorem allAtoms_all (ts : List Jvm.Cond) (a : Array Jvm.Value) (st : Jvm.State) : (allAtoms ts).before a st = ts.all (fun c => c.before a st) := by
  induction ts with
  | nil => rfl
  | cons c t ih =>
    show (Jvm.Cond.and c (allAtoms t)).before a st = _
    rw [Jvm.Cond.before_and, ih, List.all_cons]
def words1 : List Jvm.Cond := Jvm.Cond.code x code maxLocals ret :: tables_1
/-- a 'code' word, met by the world's own term for the bytes: nothing is compared byte by byte -/
theorem code_word {y : MethodName} {bytes : ByteArray} {mx : Nat} {rt : Option FieldType} {a : Array Value} {s : State} {m : MethodId} {meth : Method} {c : Code} (h1 : s.methodNamed? y = some m) (h2 : s.vm.method? m = some meth) (h3 : meth.code = some c) (h4 : c.code = bytes)
    (h5 : (c.maxLocals == mx && c.exceptionTable.isEmpty && decide (c.maxStack ≤ mostOperands) && decide (meth.sig.returnType = rt) && !meth.locks && decide (parseMethodDescriptor y.desc = some meth.sig)) = true) : (Jvm.Cond.code y bytes mx rt).before a s = true := by
  simp only [Bool.and_eq_true, beq_iff_eq, Bool.not_eq_true', decide_eq_true_eq] at h5
  obtain ⟨⟨⟨⟨⟨g1, g2⟩, g3⟩, g4⟩, g5⟩, g6⟩ := h5
  simp [Cond.before, Cond.holds, Cond.value, h1, h2, h3, h4, g1, g2, g3, g4, g5, g6]
def isCode : Jvm.Cond → Bool
  | .code _ _ _ _ => true
  | _ => false
theorem all_split {L : List Jvm.Cond} {P : Jvm.Cond → Bool} (h1 : L.all (fun c => isCode c || P c) = true) (h2 : ∀ c ∈ L.filter isCode, P c = true) : L.all P = true := by
  refine List.all_eq_true.mpr fun c hc => ?_
  have h := List.all_eq_true.mp h1 c hc
  rcases Bool.eq_false_or_eq_true (isCode c) with hi | hi
  · exact h2 c (List.mem_filter.mpr ⟨hc, hi⟩)
  · simpa [hi] using h
set_option maxRecDepth 65536 in
theorem w_c0 : (Jvm.Cond.code x code maxLocals ret).before args0 about1 = true := code_word (m := ⟨1, 1⟩) (meth := k1m1) (c := k1c1) (by decide +kernel) rfl rfl rfl (by decide +kernel)
set_option maxRecDepth 65536 in
theorem w_c1 : (Jvm.Cond.code ({ cls := "com/example/leaselock/leaselock/Answer", name := "held", desc := "(JJ)Lcom/example/leaselock/leaselock/Answer;" } : Jvm.MethodName) prog_1_method_3_code (4 : Nat) (Option.some (Jvm.ClassFile.FieldType.object "com/example/leaselock/leaselock/Answer"))).before args0 about1 = true := code_word (m := ⟨2, 1⟩) (meth := k2m1) (c := k2c1) (by decide +kernel) rfl rfl rfl (by decide +kernel)
set_option maxRecDepth 65536 in
theorem w_c2 : (Jvm.Cond.code ({ cls := "com/example/leaselock/leaselock/Answer", name := "<init>", desc := "(JLcom/example/leaselock/leaselock/Grant;JZ)V" } : Jvm.MethodName) prog_1_method_1_code (7 : Nat) (Option.none : Option Jvm.ClassFile.FieldType)).before args0 about1 = true := code_word (m := ⟨2, 0⟩) (meth := k2m0) (c := k2c0) (by decide +kernel) rfl rfl rfl (by decide +kernel)
set_option maxRecDepth 65536 in
theorem w_c3 : (Jvm.Cond.code ({ cls := "java/lang/Object", name := "<init>", desc := "()V" } : Jvm.MethodName) object_method_1_code (1 : Nat) (Option.none : Option Jvm.ClassFile.FieldType)).before args0 about1 = true := code_word (m := ⟨0, 0⟩) (meth := k0m0) (c := k0c0) (by decide +kernel) rfl rfl rfl (by decide +kernel)
set_option maxRecDepth 65536 in
theorem w_c4 : (Jvm.Cond.code ({ cls := "com/example/leaselock/leaselock/Answer", name := "asked", desc := "()J" } : Jvm.MethodName) prog_1_method_6_code (1 : Nat) (Option.some Jvm.ClassFile.FieldType.long)).before args0 about1 = true := code_word (m := ⟨2, 3⟩) (meth := k2m3) (c := k2c3) (by decide +kernel) rfl rfl rfl (by decide +kernel)
set_option maxRecDepth 65536 in
theorem w_c5 : (Jvm.Cond.code ({ cls := "com/example/leaselock/leaselock/Answer", name := "granted", desc := "()Z" } : Jvm.MethodName) prog_1_method_7_code (1 : Nat) (Option.some Jvm.ClassFile.FieldType.boolean)).before args0 about1 = true := code_word (m := ⟨2, 4⟩) (meth := k2m4) (c := k2c4) (by decide +kernel) rfl rfl rfl (by decide +kernel)
set_option maxRecDepth 65536 in
theorem w_c6 : (Jvm.Cond.code ({ cls := "com/example/leaselock/leaselock/Answer", name := "grant", desc := "()Lcom/example/leaselock/leaselock/Grant;" } : Jvm.MethodName) prog_1_method_8_code (1 : Nat) (Option.some (Jvm.ClassFile.FieldType.object "com/example/leaselock/leaselock/Grant"))).before args0 about1 = true := code_word (m := ⟨2, 5⟩) (meth := k2m5) (c := k2c5) (by decide +kernel) rfl rfl rfl (by decide +kernel)
set_option maxRecDepth 65536 in
theorem w_c7 : (Jvm.Cond.code ({ cls := "com/example/leaselock/leaselock/Answer", name := "sleepNanos", desc := "()J" } : Jvm.MethodName) prog_1_method_9_code (1 : Nat) (Option.some Jvm.ClassFile.FieldType.long)).before args0 about1 = true := code_word (m := ⟨2, 6⟩) (meth := k2m6) (c := k2c6) (by decide +kernel) rfl rfl rfl (by decide +kernel)
set_option maxRecDepth 65536 in
theorem w_c8 : (Jvm.Cond.code ({ cls := "com/example/leaselock/leaselock/Answer", name := "endsAtRelease", desc := "()Z" } : Jvm.MethodName) prog_1_method_10_code (1 : Nat) (Option.some Jvm.ClassFile.FieldType.boolean)).before args0 about1 = true := code_word (m := ⟨2, 7⟩) (meth := k2m7) (c := k2c7) (by decide +kernel) rfl rfl rfl (by decide +kernel)
set_option maxRecDepth 65536 in
theorem w_c9 : (Jvm.Cond.code ({ cls := "com/example/leaselock/leaselock/Answer", name := "sleepingAtMost", desc := "(J)Lcom/example/leaselock/leaselock/Answer;" } : Jvm.MethodName) prog_1_method_5_code (4 : Nat) (Option.some (Jvm.ClassFile.FieldType.object "com/example/leaselock/leaselock/Answer"))).before args0 about1 = true := code_word (m := ⟨2, 2⟩) (meth := k2m2) (c := k2c2) (by decide +kernel) rfl rfl rfl (by decide +kernel)
set_option maxRecDepth 65536 in
theorem w_c10 : (Jvm.Cond.code ({ cls := "java/lang/Math", name := "min", desc := "(JJ)J" } : Jvm.MethodName) jdk_29_method_70_code (4 : Nat) (Option.some Jvm.ClassFile.FieldType.long)).before args0 about1 = true := code_word (m := ⟨3, 1⟩) (meth := k3m1) (c := k3c1) (by decide +kernel) rfl rfl rfl (by decide +kernel)
def codes1 : List Jvm.Cond := [Jvm.Cond.code x code maxLocals ret, Jvm.Cond.code ({ cls := "com/example/leaselock/leaselock/Answer", name := "held", desc := "(JJ)Lcom/example/leaselock/leaselock/Answer;" } : Jvm.MethodName) prog_1_method_3_code (4 : Nat) (Option.some (Jvm.ClassFile.FieldType.object "com/example/leaselock/leaselock/Answer")), Jvm.Cond.code ({ cls := "com/example/leaselock/leaselock/Answer", name := "<init>", desc := "(JLcom/example/leaselock/leaselock/Grant;JZ)V" } : Jvm.MethodName) prog_1_method_1_code (7 : Nat) (Option.none : Option Jvm.ClassFile.FieldType), Jvm.Cond.code ({ cls := "java/lang/Object", name := "<init>", desc := "()V" } : Jvm.MethodName) object_method_1_code (1 : Nat) (Option.none : Option Jvm.ClassFile.FieldType), Jvm.Cond.code ({ cls := "com/example/leaselock/leaselock/Answer", name := "asked", desc := "()J" } : Jvm.MethodName) prog_1_method_6_code (1 : Nat) (Option.some Jvm.ClassFile.FieldType.long), Jvm.Cond.code ({ cls := "com/example/leaselock/leaselock/Answer", name := "granted", desc := "()Z" } : Jvm.MethodName) prog_1_method_7_code (1 : Nat) (Option.some Jvm.ClassFile.FieldType.boolean), Jvm.Cond.code ({ cls := "com/example/leaselock/leaselock/Answer", name := "grant", desc := "()Lcom/example/leaselock/leaselock/Grant;" } : Jvm.MethodName) prog_1_method_8_code (1 : Nat) (Option.some (Jvm.ClassFile.FieldType.object "com/example/leaselock/leaselock/Grant")), Jvm.Cond.code ({ cls := "com/example/leaselock/leaselock/Answer", name := "sleepNanos", desc := "()J" } : Jvm.MethodName) prog_1_method_9_code (1 : Nat) (Option.some Jvm.ClassFile.FieldType.long), Jvm.Cond.code ({ cls := "com/example/leaselock/leaselock/Answer", name := "endsAtRelease", desc := "()Z" } : Jvm.MethodName) prog_1_method_10_code (1 : Nat) (Option.some Jvm.ClassFile.FieldType.boolean), Jvm.Cond.code ({ cls := "com/example/leaselock/leaselock/Answer", name := "sleepingAtMost", desc := "(J)Lcom/example/leaselock/leaselock/Answer;" } : Jvm.MethodName) prog_1_method_5_code (4 : Nat) (Option.some (Jvm.ClassFile.FieldType.object "com/example/leaselock/leaselock/Answer")), Jvm.Cond.code ({ cls := "java/lang/Math", name := "min", desc := "(JJ)J" } : Jvm.MethodName) jdk_29_method_70_code (4 : Nat) (Option.some Jvm.ClassFile.FieldType.long)]
set_option maxRecDepth 65536 in
theorem codes_eq : words1.filter isCode = codes1 := rfl
theorem w_codes : ∀ c ∈ words1.filter isCode, c.before args0 about1 = true := by
  rw [codes_eq]
  intro c hc
  simp only [codes1, List.mem_cons, List.not_mem_nil, or_false] at hc
  rcases hc with rfl | rfl | rfl | rfl | rfl | rfl | rfl | rfl | rfl | rfl | rfl
  · exact w_c0
  · exact w_c1
  · exact w_c2
  · exact w_c3
  · exact w_c4
  · exact w_c5
  · exact w_c6
  · exact w_c7
  · exact w_c8
  · exact w_c9
  · exact w_c10
set_option maxRecDepth 65536 in
theorem w_t1 : (words1.take 24).all (fun c => isCode c || c.before args0 about1) = true := by decide +kernel
set_option maxRecDepth 65536 in
theorem w_t2 : ((words1.drop 24).take 24).all (fun c => isCode c || c.before args0 about1) = true := by decide +kernel
set_option maxRecDepth 65536 in
theorem w_t3 : ((words1.drop 24).drop 24).all (fun c => isCode c || c.before args0 about1) = true := by decide +kernel
theorem w_tables : (allAtoms (Jvm.Cond.code x code maxLocals ret :: tables_1)).before args0 about1 = true := by
  rw [allAtoms_all]
  show words1.all (fun c => c.before args0 about1) = true
  refine all_split ?_ w_codes
  rw [← List.take_append_drop 24 words1, List.all_append, w_t1, ← List.take_append_drop 24 (words1.drop 24), List.all_append, w_t2, w_t3]
  rfl
set_option maxRecDepth 65536 in
theorem w_case : (Jvm.Cond.and given_1 narrow_1).before args0 about1 = true := by decide +kernel
theorem w_applies : (headSpec (Jvm.Cond.code x code maxLocals ret :: tables_1) room_1).applies x e0.platform about1 = true :=
  (Spec.applies_iff w_frames).mpr ⟨w_running, w_runnable, w_alone, w_named, w_hears, w_ripe, w_room, w_tables⟩
theorem atStart : AtStart classFile x code maxLocals ret World_1 tables_1 room_1 Calls_1 rest_1 Pre_1 launch0 p0 e0 about1 theMethod args0 below0 :=
  ⟨lists_1, trivial, launch0.admits_env _ _ _, launch0.least_env, fairChoices_fair.cas, fairChoices_fair.clock, w_frames, w_args, w_heap, w_applies, trivial, trivial, w_case⟩
end start1
theorem witness_1 : WitnessClaimed_1 := ⟨start1.p0, start1.e0, start1.about1, start1.theMethod, start1.args0, start1.below0, start1.atStart⟩
end Jvm.Pilot.@@N@@

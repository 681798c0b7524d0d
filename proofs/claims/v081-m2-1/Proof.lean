import JvmDerived
import JvmDerived.Pilot.@@N@@Statement
import JvmDerived.Pilot.@@N@@Code
set_option linter.unusedVariables false
set_option linter.unusedSimpArgs false
namespace Jvm.Pilot.@@N@@
open Jvm Jvm.ClassFile Sem Op Lib Jvm.Free Jvm.Stand Jvm.LawKit Jvm.RoadKit Bundle Jvm.Pilot.@@N@@.Jvm.D
/-! own layer: forward walking in continuation style, arrays as functions -/
def own_R (tb : Tables) (e : Env) (below : List Frame) (P : State → Outcome → Prop) (st : State) : Prop := ∃ t o, Steps tb e below st t ∧ P t o
theorem own_fwd {tb : Tables} {e : Env} {below : List Frame} {P : State → Outcome → Prop} {st st' : State} (k : ∀ t, Steps tb e below st' t → Steps tb e below st t) (h : own_R tb e below P st') : own_R tb e below P st := by
  obtain ⟨t, o, h1, h2⟩ := h; exact ⟨t, o, k t h1, h2⟩
theorem own_trn {tb : Tables} {e : Env} {below : List Frame} {P : State → Outcome → Prop} {st st' : State} (k : Steps tb e below st st') (h : own_R tb e below P st') : own_R tb e below P st := own_fwd (fun _ q => k.trans q) h
theorem own_nm {tb : Tables} {e : Env} {below : List Frame} {P : State → Outcome → Prop} {st : State} (h : ∀ P' : State → Outcome → Prop, (∀ t o, P t o → P' t o) → own_R tb e below P' st) : own_R tb e below P st := h P fun _ _ q => q
/-- an array, n long, place i holds f i -/
def own_AV (Z : State) (h : Heap) (a : Addr) (ty : FieldType) (n : Nat) (f : Nat → Value) : Prop := ∃ c : Cell, Arr Z h a c ty ∧ c.slots.size = n ∧ n < 2 ^ 31 ∧ ∀ i, i < n → c.slots[i]? = some (f i)
abbrev own_AI (Z : State) (h : Heap) (a : Addr) (ty : FieldType) (n : Nat) (f : Nat → Int32) : Prop := own_AV Z h a ty n fun i => .int (f i)
abbrev own_AJ (Z : State) (h : Heap) (a : Addr) (n : Nat) (f : Nat → Int64) : Prop := own_AV Z h a .long n fun i => .long (f i)
def own_upd {α : Type} (f : Nat → α) (i : Nat) (x : α) : Nat → α := fun k => if k = i then x else f k
theorem own_upd_hit {α : Type} (f : Nat → α) (i : Nat) (x : α) : own_upd f i x i = x := if_pos rfl
theorem own_upd_miss {α : Type} (f : Nat → α) {i k : Nat} (x : α) (q : k ≠ i) : own_upd f i x k = f k := if_neg q
section Own
variable {p : Program} {l : Launch} {e : Env} {R : Room} {s : State} {m : MethodId} {args : Array Value} {below : List Frame} {meth : Method} {c : Code} {T : State} {locs : List Loc} {cells slots : Nat} {Z : State} {a0 : Array Value} {h h' : Heap} {a b : Addr} {ty : FieldType} {n : Nat} {f : Nat → Value} {v : Value} {sl : Nat}
theorem own_AV.lt (F : own_AV Z h a ty n f) : a < h.size := by obtain ⟨c, A, -⟩ := F; exact A.lt
theorem own_AV.bd (F : own_AV Z h a ty n f) : n < 2 ^ 31 := by obtain ⟨c, A, -, q, -⟩ := F; exact q
theorem own_AV.ext (F : own_AV Z h a ty n f) (E : Ext h h') : own_AV Z h' a ty n f := by obtain ⟨c, A, r⟩ := F; exact ⟨c, A.ext E, r⟩
theorem own_AV.other (F : own_AV Z h b ty n f) (W : Wr h h' a sl v) (q : b ≠ a) : own_AV Z h' b ty n f := by obtain ⟨c, A, r⟩ := F; exact ⟨c, A.other W q, r⟩
theorem own_AV.keep {ws : List Addr} (F : own_AV Z h a ty n f) (K : Keep h h' ws) (q : a ∉ ws) : own_AV Z h' a ty n f := by obtain ⟨c, A, r⟩ := F; exact ⟨c, ⟨K.2.1 a c A.1 q, A.2⟩, r⟩
theorem own_AV.cong {f' : Nat → Value} (F : own_AV Z h a ty n f) (q : ∀ i, i < n → f' i = f i) : own_AV Z h a ty n f' := by obtain ⟨c, A, r1, r2, r3⟩ := F; exact ⟨c, A, r1, r2, fun i hi => by rw [q i hi]; exact r3 i hi⟩
theorem own_clamp {j : Int32} {i : Nat} (hj : j.toInt = (i : Int)) : j.toNatClampNeg = i ∧ ¬ j < 0 := by
  have q0 : (0 : Int32).toInt = 0 := rfl
  exact ⟨by unfold Int32.toNatClampNeg; omega, by rw [Int32.lt_iff_toInt_lt]; omega⟩
theorem own_inb {cl : Cell} {j : Int32} {i : Nat} (hj : j.toInt = (i : Int)) (S : cl.slots.size = n) (hi : i < n) : ¬ (j < 0 ∨ cl.slots.size ≤ j.toNatClampNeg) := by
  obtain ⟨q1, q2⟩ := own_clamp hj
  rw [q1]; rintro (q | q)
  · exact q2 q
  · omega
theorem own_AV.new {k : ClassId} {z : Int32} (A : Arr Z h a (newA k ty z) ty) (hz : z.toInt = (n : Int)) : own_AV Z h a ty n (fun _ => defaultValue ty) := by
  obtain ⟨q1, q2⟩ := own_clamp hz
  have hb := z.toInt_lt
  refine ⟨_, A, by rw [sz_new]; exact q1, by omega, fun i hi => ?_⟩
  simp [newA, q1, hi]
theorem own_ldI (X : Stand p l e R s m args below meth c T locs cells slots) (hx : p.tables.exec = Jvm.exec) (hZ : Z.Warmed39 s.vm) (eT : T.heap = h) (F : own_AV Z h a .int n f) {j : Int32} (i : Nat) (hj : j.toInt = (i : Int)) (hi : i < n) {g : JFrame} (hg : g.method = m) {rest : List Value} (hs : g.stack = .int j :: .ref a :: rest) (hd : decode c.code g.pc = .ok (.iaload, 1)) :
    ∀ t, Steps p.tables e below (T.setTop { g with pc := g.pc + 1, stack := f i :: rest }) t → Steps p.tables e below (T.setTop g) t := fun t k => by
  obtain ⟨cl, A, S, -, H⟩ := F
  exact X.iaload hx (by rw [eT]; exact A.1) (State.isArrayOf_alike hZ.alike A.2.1) A.2.2 (own_inb hj S hi) (by rw [(own_clamp hj).1]; exact H i hi) hg hs hd t k
theorem own_ldS (X : Stand p l e R s m args below meth c T locs cells slots) (hx : p.tables.exec = Jvm.exec) (hZ : Z.Warmed39 s.vm) (eT : T.heap = h) (F : own_AV Z h a .short n f) {j : Int32} (i : Nat) (hj : j.toInt = (i : Int)) (hi : i < n) {g : JFrame} (hg : g.method = m) {rest : List Value} (hs : g.stack = .int j :: .ref a :: rest) (hd : decode c.code g.pc = .ok (.saload, 1)) :
    ∀ t, Steps p.tables e below (T.setTop { g with pc := g.pc + 1, stack := f i :: rest }) t → Steps p.tables e below (T.setTop g) t := fun t k => by
  obtain ⟨cl, A, S, -, H⟩ := F
  exact X.saload hx (by rw [eT]; exact A.1) (State.isArrayOf_alike hZ.alike A.2.1) A.2.2 (own_inb hj S hi) (by rw [(own_clamp hj).1]; exact H i hi) hg hs hd t k
theorem own_ldC (X : Stand p l e R s m args below meth c T locs cells slots) (hx : p.tables.exec = Jvm.exec) (hZ : Z.Warmed39 s.vm) (eT : T.heap = h) (F : own_AV Z h a .char n f) {j : Int32} (i : Nat) (hj : j.toInt = (i : Int)) (hi : i < n) {g : JFrame} (hg : g.method = m) {rest : List Value} (hs : g.stack = .int j :: .ref a :: rest) (hd : decode c.code g.pc = .ok (.caload, 1)) :
    ∀ t, Steps p.tables e below (T.setTop { g with pc := g.pc + 1, stack := f i :: rest }) t → Steps p.tables e below (T.setTop g) t := fun t k => by
  obtain ⟨cl, A, S, -, H⟩ := F
  exact X.caload hx (by rw [eT]; exact A.1) (State.isArrayOf_alike hZ.alike A.2.1) A.2.2 (own_inb hj S hi) (by rw [(own_clamp hj).1]; exact H i hi) hg hs hd t k
theorem own_ldJ (X : Stand p l e R s m args below meth c T locs cells slots) (hx : p.tables.exec = Jvm.exec) (hZ : Z.Warmed39 s.vm) (eT : T.heap = h) (F : own_AV Z h a .long n f) {j : Int32} (i : Nat) (hj : j.toInt = (i : Int)) (hi : i < n) {g : JFrame} (hg : g.method = m) {rest : List Value} (hs : g.stack = .int j :: .ref a :: rest) (hd : decode c.code g.pc = .ok (.laload, 1)) :
    ∀ t, Steps p.tables e below (T.setTop { g with pc := g.pc + 1, stack := f i :: rest }) t → Steps p.tables e below (T.setTop g) t := fun t k => by
  obtain ⟨cl, A, S, -, H⟩ := F
  exact X.laload hx (by rw [eT]; exact A.1) (State.isArrayOf_alike hZ.alike A.2.1) A.2.2 (own_inb hj S hi) (by rw [(own_clamp hj).1]; exact H i hi) hg hs hd t k
theorem own_len (X : Stand p l e R s m args below meth c T locs cells slots) (hx : p.tables.exec = Jvm.exec) (hZ : Z.Warmed39 s.vm) (eT : T.heap = h) (F : own_AV Z h a ty n f) (z : Int32) (hz : z.toInt = (n : Int)) {g : JFrame} (hg : g.method = m) {rest : List Value} (hs : g.stack = .ref a :: rest) (hd : decode c.code g.pc = .ok (.arraylength, 1)) :
    ∀ t, Steps p.tables e below (T.setTop { g with pc := g.pc + 1, stack := .int z :: rest }) t → Steps p.tables e below (T.setTop g) t := fun t k => by
  obtain ⟨cl, A, S, q, H⟩ := F
  have e1 : cl.slots.size.toInt32 = z := by
    rw [S]; apply Int32.toInt_inj.mp; rw [hz]; exact len_toInt q
  refine X.arraylength hx (by rw [eT]; exact A.1) (State.isArrayOf_alike hZ.alike A.2.1) hg hs hd t ?_
  rw [e1]; exact k
theorem own_AV.set {h' : Heap} {cl : Cell} {j : Int32} {i : Nat} {w : Value} (A : Arr Z h a cl ty) (S : cl.slots.size = n) (q : n < 2 ^ 31) (H : ∀ i, i < n → cl.slots[i]? = some (f i)) (hj : j.toInt = (i : Int)) (hi : i < n) (W : Wr h h' a j.toNatClampNeg w) : own_AV Z h' a ty n (own_upd f i w) := by
  rw [(own_clamp hj).1] at W
  refine ⟨_, A.same W, by rw [sz_set]; exact S, q, fun k hk => ?_⟩
  by_cases e : k = i
  · subst e; rw [own_upd_hit]; simp [Cell.setSlot, S, hi]
  · rw [own_upd_miss _ _ e]; simp only [Cell.setSlot]; rw [Array.getElem?_setIfInBounds_ne (Ne.symm e)]; exact H k hk
theorem own_stI {g0 : Nat → Int32} (X : Stand p l e R s m args below meth c T locs cells slots) (hx : p.tables.exec = Jvm.exec) (hZ : Z.Warmed39 s.vm) (eT : T.heap = h) (F : own_AI Z h a .int n g0) {j x : Int32} (i : Nat) (hj : j.toInt = (i : Int)) (hi : i < n) {g : JFrame} (hg : g.method = m) {rest : List Value} (hs : g.stack = .int x :: .int j :: .ref a :: rest) (hd : decode c.code g.pc = .ok (.iastore, 1)) :
    ∃ T' h', Stand p l e R s m args below meth c T' (locs ++ [⟨a, j.toNatClampNeg⟩]) cells slots ∧ T'.heap = h' ∧ Wr h h' a j.toNatClampNeg (.int x) ∧ own_AI Z h' a .int n (own_upd g0 i x) ∧ ∀ t, Steps p.tables e below (T'.setTop { g with pc := g.pc + 1, stack := rest }) t → Steps p.tables e below (T.setTop g) t := by
  obtain ⟨cl, A, S, q, H⟩ := F
  obtain ⟨T', h', X', e', W, st⟩ := stI X hx hZ eT A (own_inb hj S hi) hg hs hd
  exact ⟨T', h', X', e', W, (own_AV.set A S q H hj hi W).cong fun k _ => by simp only [own_upd]; split <;> rfl, st⟩
theorem own_stS {g0 : Nat → Int32} (X : Stand p l e R s m args below meth c T locs cells slots) (hx : p.tables.exec = Jvm.exec) (hZ : Z.Warmed39 s.vm) (eT : T.heap = h) (F : own_AI Z h a .short n g0) {j x : Int32} (i : Nat) (hj : j.toInt = (i : Int)) (hi : i < n) {g : JFrame} (hg : g.method = m) {rest : List Value} (hs : g.stack = .int x :: .int j :: .ref a :: rest) (hd : decode c.code g.pc = .ok (.sastore, 1)) :
    ∃ T' h', Stand p l e R s m args below meth c T' (locs ++ [⟨a, j.toNatClampNeg⟩]) cells slots ∧ T'.heap = h' ∧ Wr h h' a j.toNatClampNeg (.int (nar .short x)) ∧ own_AI Z h' a .short n (own_upd g0 i (nar .short x)) ∧ ∀ t, Steps p.tables e below (T'.setTop { g with pc := g.pc + 1, stack := rest }) t → Steps p.tables e below (T.setTop g) t := by
  obtain ⟨cl, A, S, q, H⟩ := F
  obtain ⟨T', h', X', e', W, st⟩ := stS X hx hZ eT A (own_inb hj S hi) hg hs hd
  exact ⟨T', h', X', e', W, (own_AV.set A S q H hj hi W).cong fun k _ => by simp only [own_upd]; split <;> rfl, st⟩
theorem own_stC {g0 : Nat → Int32} (X : Stand p l e R s m args below meth c T locs cells slots) (hx : p.tables.exec = Jvm.exec) (hZ : Z.Warmed39 s.vm) (eT : T.heap = h) (F : own_AI Z h a .char n g0) {j x : Int32} (i : Nat) (hj : j.toInt = (i : Int)) (hi : i < n) {g : JFrame} (hg : g.method = m) {rest : List Value} (hs : g.stack = .int x :: .int j :: .ref a :: rest) (hd : decode c.code g.pc = .ok (.castore, 1)) :
    ∃ T' h', Stand p l e R s m args below meth c T' (locs ++ [⟨a, j.toNatClampNeg⟩]) cells slots ∧ T'.heap = h' ∧ Wr h h' a j.toNatClampNeg (.int (nar .char x)) ∧ own_AI Z h' a .char n (own_upd g0 i (nar .char x)) ∧ ∀ t, Steps p.tables e below (T'.setTop { g with pc := g.pc + 1, stack := rest }) t → Steps p.tables e below (T.setTop g) t := by
  obtain ⟨cl, A, S, q, H⟩ := F
  obtain ⟨T', h', X', e', W, st⟩ := stC X hx hZ eT A (own_inb hj S hi) hg hs hd
  exact ⟨T', h', X', e', W, (own_AV.set A S q H hj hi W).cong fun k _ => by simp only [own_upd]; split <;> rfl, st⟩
theorem own_stJ {g0 : Nat → Int64} (X : Stand p l e R s m args below meth c T locs cells slots) (hx : p.tables.exec = Jvm.exec) (hZ : Z.Warmed39 s.vm) (eT : T.heap = h) (F : own_AJ Z h a n g0) {j : Int32} {x : Int64} (i : Nat) (hj : j.toInt = (i : Int)) (hi : i < n) {g : JFrame} (hg : g.method = m) {rest : List Value} (hs : g.stack = .long x :: .int j :: .ref a :: rest) (hd : decode c.code g.pc = .ok (.lastore, 1)) :
    ∃ T' h', Stand p l e R s m args below meth c T' (locs ++ [⟨a, j.toNatClampNeg⟩]) cells slots ∧ T'.heap = h' ∧ Wr h h' a j.toNatClampNeg (.long x) ∧ own_AJ Z h' a n (own_upd g0 i x) ∧ ∀ t, Steps p.tables e below (T'.setTop { g with pc := g.pc + 1, stack := rest }) t → Steps p.tables e below (T.setTop g) t := by
  obtain ⟨cl, A, S, q, H⟩ := F
  obtain ⟨T', h', X', e', W, st⟩ := stJ X hx hZ eT A (own_inb hj S hi) hg hs hd
  exact ⟨T', h', X', e', W, (own_AV.set A S q H hj hi W).cong fun k _ => by simp only [own_upd]; split <;> rfl, st⟩
theorem own_newA (X : Stand p l e R s m args below meth c T locs cells slots) (hx : p.tables.exec = Jvm.exec) (hZ : Z.Warmed39 s.vm) {aty : ArrayType} (w : (Cond.arrayClass (newarray.typeOf aty)).before a0 Z = true) (eT : T.heap = h) {z : Int32} (hz : z.toInt = (n : Int)) {cap : Nat} (hcap : n ≤ cap) {g : JFrame} (hg : g.method = m) (hd : decode c.code g.pc = .ok (.newarray aty, 2)) {rest : List Value} (hs : g.stack = .int z :: rest)
    (hb : cap * 8 ≤ 536870912) (hc : cells + 1 ≤ R.cells) (hl : slots + cap ≤ R.slots) {ad : String} (had : "[" ++ (newarray.typeOf aty).toString = ad) :
    ∃ T' h' b, b = h.size ∧ Stand p l e R s m args below meth c T' locs (cells + 1) (slots + cap) ∧ T'.heap = h' ∧ Ext h h' ∧ own_AV Z h' b (newarray.typeOf aty) n (fun _ => defaultValue (newarray.typeOf aty)) ∧ Exa Z h' b ad ∧
      ∀ t, Steps p.tables e below (T'.setTop { g with pc := g.pc + 2, stack := .ref b :: rest }) t → Steps p.tables e below (T.setTop g) t := by
  obtain ⟨q1, q2⟩ := own_clamp hz
  obtain ⟨T', h', k, X', e', E, A, Ea, st⟩ := newPE X hx hZ w eT hg hd hs q2 (by rw [q1]; exact hcap) hb hc hl had
  exact ⟨T', h', _, rfl, X', e', E, own_AV.new A hz, Ea, st⟩
end Own
def own_two {α : Type} (x y : α) : Nat → α
  | 0 => x
  | _ => y
theorem own_two_0 {α : Type} (x y : α) : own_two x y 0 = x := rfl
theorem own_two_1 {α : Type} (x y : α) : own_two x y 1 = y := rfl
theorem own_nlt {i n : Nat} (hi : i < n) (hn : n < 2 ^ 31) : i.toInt32 < n.toInt32 := by
  rw [Int32.lt_iff_toInt_lt, len_toInt hn, len_toInt (by omega)]; omega
theorem own_nge {i n : Nat} (hi : n ≤ i) (hn : i < 2 ^ 31) : ¬ i.toInt32 < n.toInt32 := by
  rw [Int32.lt_iff_toInt_lt, len_toInt hn, len_toInt (by omega)]; omega
theorem own_nsucc {i : Nat} (hn : i + 1 < 2 ^ 31) : i.toInt32 + (1 : Int32) = (i + 1).toInt32 := by
  have e1 : (1 : Int32).toInt = 1 := rfl
  have h1 := c_iadd i.toInt32 1
  have h2 := rng32 (i.toInt32 + 1)
  rw [← Int32.toInt_inj, len_toInt hn]
  rw [len_toInt (by omega), e1] at h1
  omega
theorem own_and3 (x : Int32) : (x &&& (3 : Int32)) = 0 ∨ (x &&& (3 : Int32)) = 1 ∨ (x &&& (3 : Int32)) = 2 ∨ (x &&& (3 : Int32)) = 3 := by
  have h := c_mask x 3 2 (by decide) (by decide)
  have e : ((2 ^ 2 : Nat) : Int) = 4 := by decide
  rw [e] at h
  have e0 : (0 : Int32).toInt = 0 := rfl
  have e1 : (1 : Int32).toInt = 1 := rfl
  have e2 : (2 : Int32).toInt = 2 := rfl
  have e3 : (3 : Int32).toInt = 3 := rfl
  simp only [← Int32.toInt_inj]
  omega
theorem own_z01 {z : Int32} (h : z = 0 ∨ z = 1) : narrow .boolean (.int z) = .int z ∧ fits .boolean (.int z) = true := by rcases h with rfl | rfl <;> exact ⟨rfl, rfl⟩
theorem own_d2_0 : decode prog_1_method_1_code 0 = .ok (.aload_n 0, 1) := by decide +kernel
theorem own_d2_1 : decode prog_1_method_1_code 1 = .ok (.invokespecial 1, 3) := by decide +kernel
theorem own_d2_4 : decode prog_1_method_1_code 4 = .ok (.aload_n 0, 1) := by decide +kernel
theorem own_d2_5 : decode prog_1_method_1_code 5 = .ok (.lload_n 1, 1) := by decide +kernel
theorem own_d2_6 : decode prog_1_method_1_code 6 = .ok (.putfield 7, 3) := by decide +kernel
theorem own_d2_9 : decode prog_1_method_1_code 9 = .ok (.aload_n 0, 1) := by decide +kernel
theorem own_d2_10 : decode prog_1_method_1_code 10 = .ok (.aload_n 3, 1) := by decide +kernel
theorem own_d2_11 : decode prog_1_method_1_code 11 = .ok (.putfield 13, 3) := by decide +kernel
theorem own_d2_14 : decode prog_1_method_1_code 14 = .ok (.aload_n 0, 1) := by decide +kernel
theorem own_d2_15 : decode prog_1_method_1_code 15 = .ok (.lload 4, 2) := by decide +kernel
theorem own_d2_17 : decode prog_1_method_1_code 17 = .ok (.putfield 17, 3) := by decide +kernel
theorem own_d2_20 : decode prog_1_method_1_code 20 = .ok (.aload_n 0, 1) := by decide +kernel
theorem own_d2_21 : decode prog_1_method_1_code 21 = .ok (.iload 6, 2) := by decide +kernel
theorem own_d2_23 : decode prog_1_method_1_code 23 = .ok (.putfield 20, 3) := by decide +kernel
theorem own_d2_26 : decode prog_1_method_1_code 26 = .ok (.return_, 1) := by decide +kernel
theorem own_pn0 : plainName "com/example/leaselock/leaselock/Answer" = true := by first | (simp [plainName, overriddenIn]; done) | decide +kernel
theorem own_ef2 (m : MethodId) (a1 : Addr) (q1 : Int64) (q2 : Int64) (p3 : Int32) : entryFrame m #[(.ref a1), (.long q1), .null, (.long q2), (.int p3)] 7 = mkF m 0 #[.val (.ref a1), .val (.long q1), .second, .val .null, .val (.long q2), .second, .val (.int p3)] [] := by first | (simp [entryFrame, mkF, argsToLocals, Value.category]; done) | rfl
def own_Q2 (Z : State) (a1 : Addr) (q1 q2 : Int64) (p3 : Int32) (h0 : Heap) (n0 : Nat) (v : Option Value) (h : Heap) (L : List Loc) : Prop := v = none ∧ Fr n0 L ∧ Keep h0 h [a1] ∧ Exa Z h a1 "com/example/leaselock/leaselock/Answer" ∧ Fld Z h a1 "com/example/leaselock/leaselock/Answer" "asked" "J" (.long q1) ∧ Fld Z h a1 "com/example/leaselock/leaselock/Answer" "grant" "Lcom/example/leaselock/leaselock/Grant;" .null ∧ Fld Z h a1 "com/example/leaselock/leaselock/Answer" "sleepNanos" "J" (.long q2) ∧ Fld Z h a1 "com/example/leaselock/leaselock/Answer" "endsAtRelease" "Z" (.int p3)
set_option maxRecDepth 65536 in
set_option maxHeartbeats 40000000 in
theorem own_rm2 (l : Launch) (Z : State) (a0 : Array Value) (hw : ∀ d ∈ tables_1, d.before a0 Z = true) (ws : List Jvm.Cond) (a1 : Addr) (q1 q2 : Int64) (p3 : Int32) (h0 : Heap) (n0 : Nat) (Z0 : n0 ≤ h0.size) (pE : Exa Z h0 a1 "com/example/leaselock/leaselock/Answer") (pF1 : Fld Z h0 a1 "com/example/leaselock/leaselock/Answer" "asked" "J" (.long (0 : Int64))) (pF2 : Fld Z h0 a1 "com/example/leaselock/leaselock/Answer" "grant" "Lcom/example/leaselock/leaselock/Grant;" .null) (pF3 : Fld Z h0 a1 "com/example/leaselock/leaselock/Answer" "sleepNanos" "J" (.long (0 : Int64))) (pF4 : Fld Z h0 a1 "com/example/leaselock/leaselock/Answer" "endsAtRelease" "Z" (.int (0 : Int32))) (pg : n0 ≤ a1) (pz : p3 = 0 ∨ p3 = 1) :
    MetFree l (⟨"com/example/leaselock/leaselock/Answer", "<init>", "(JLcom/example/leaselock/leaselock/Grant;JZ)V"⟩ : MethodName) (head1 (Jvm.Cond.code (⟨"com/example/leaselock/leaselock/Answer", "<init>", "(JLcom/example/leaselock/leaselock/Grant;JZ)V"⟩ : MethodName) prog_1_method_1_code 7 none :: ws) ({ frames := 1, cells := 0, slots := 0, locals := 12 } : Room)) (fun a U => a = #[(.ref a1), (.long q1), .null, (.long q2), (.int p3)] ∧ Z.Warmed39 U.vm ∧ U.heap = h0) (fun _ _ _ _ _ => True) (fun _ U o U' => ∃ v L, o = .returned v ∧ own_Q2 Z a1 q1 q2 p3 h0 n0 v U'.heap L ∧ FrameEnd U o U' L ({ frames := 1, cells := 0, slots := 0, locals := 12 } : Room).cells ({ frames := 1, cells := 0, slots := 0, locals := 12 } : Room).slots) := by
  refine MetFree.of_bodySF (plainFor_of_name own_pn0) hisR ?_
  intro p e s m args below meth c s₁ Bd hml0 hP hK
  obtain ⟨rfl, hZ, hh⟩ := hP
  have hx := Bd.exec
  have hby := Bd.bytes
  have hml : c.maxLocals = 7 := hml0
  have hown : s.vm.findClass "com/example/leaselock/leaselock/Answer" = some m.cls := findClass_of_methodNamed Bd.named
  have hnm := (name_of_methodNamed Bd.named Bd.method).1
  have X0 : Stand p l e ({ frames := 1, cells := 0, slots := 0, locals := 12 } : Room) s m #[(.ref a1), (.long q1), .null, (.long q2), (.int p3)] below meth c s₁ [] 0 0 := Stand.of_body Bd
  have e0 : s₁.heap = h0 := by rw [← hh, Bd.state]; rfl
  have N0 := Fr.nil n0
  refine own_nm (st := s₁.setTop (entryFrame m #[(.ref a1), (.long q1), .null, (.long q2), (.int p3)] 7)) fun P fin => ?_
  refine own_fwd (fun t k => castTop (own_ef2 m a1 q1 q2 p3) k) ?_
  show own_R p.tables e below P (s₁.setTop (mkF m 0 #[.val (.ref a1), .val (.long q1), .second, .val .null, .val (.long q2), .second, .val (.int p3)] []))
  have K0 := Keep.refl h0 [a1]
  refine own_fwd (fun t k => XS.aloadN X0.here hx rfl (hb hby own_d2_0) rfl rfl k) ?_
  show own_R p.tables e below P (s₁.setTop (mkF m 1 #[.val (.ref a1), .val (.long q1), .second, .val .null, .val (.long q2), .second, .val (.int p3)] [(.ref a1)]))
  obtain ⟨T1, X1, e1, st1⟩ := initO X0 hx hZ hown (hw _ (List.mem_of_getElem? (i := 9) rfl)) (hw _ (List.mem_of_getElem? (i := 10) rfl)) (hw _ (List.mem_of_getElem? (i := 11) rfl)) e0 (g := (mkF m 1 #[.val (.ref a1), .val (.long q1), .second, .val .null, .val (.long q2), .second, .val (.int p3)] [(.ref a1)])) rfl (by rw [hml]; rfl) rfl (hb hby own_d2_1) (by decide) (W := 0) (by show 2 * 0 + _ ≤ _; exact Nat.le_of_eq rfl) (by decide)
  refine own_fwd st1 ?_
  show own_R p.tables e below P (T1.setTop (mkF m 4 #[.val (.ref a1), .val (.long q1), .second, .val .null, .val (.long q2), .second, .val (.int p3)] []))
  refine own_fwd (fun t k => XS.aloadN X1.here hx rfl (hb hby own_d2_4) rfl rfl k) ?_
  show own_R p.tables e below P (T1.setTop (mkF m 5 #[.val (.ref a1), .val (.long q1), .second, .val .null, .val (.long q2), .second, .val (.int p3)] [(.ref a1)]))
  refine own_fwd (fun t k => XS.lloadN X1.here hx rfl (hb hby own_d2_5) rfl k) ?_
  show own_R p.tables e below P (T1.setTop (mkF m 6 #[.val (.ref a1), .val (.long q1), .second, .val .null, .val (.long q2), .second, .val (.int p3)] [(.long q1), (.ref a1)]))
  obtain ⟨T2, h2, X2, e2, W2, st2⟩ := putF X1 hx hZ hown (host := "") (Or.inl (hw _ (List.mem_of_getElem? (i := 12) rfl))) Via.refl e1 pF1 pE (Or.inr ⟨(hw _ (List.mem_of_getElem? (i := 13) rfl)), rfl, hnm⟩) (hw _ (List.mem_of_getElem? (i := 5) rfl)) (ty := .long) (by decide) rfl rfl (g := (mkF m 6 #[.val (.ref a1), .val (.long q1), .second, .val .null, .val (.long q2), .second, .val (.int p3)] [(.long q1), (.ref a1)])) rfl rfl (hb hby own_d2_6)
  have F2_ := pF1.same W2
  have pE_x2 := pE.wr W2
  have pF2_x2 := pF2.other W2 (Or.inr (slot_ne (Or.inr (hw _ (List.mem_of_getElem? (i := 15) rfl))) (Or.inr (hw _ (List.mem_of_getElem? (i := 13) rfl))) (by decide) (t := (.object "com/example/leaselock/leaselock/Grant")) (t' := .long) (by decide) (by decide)))
  have pF3_x2 := pF3.other W2 (Or.inr (slot_ne (Or.inr (hw _ (List.mem_of_getElem? (i := 17) rfl))) (Or.inr (hw _ (List.mem_of_getElem? (i := 13) rfl))) (by decide) (t := .long) (t' := .long) (by decide) (by decide)))
  have pF4_x2 := pF4.other W2 (Or.inr (slot_ne (Or.inr (hw _ (List.mem_of_getElem? (i := 19) rfl))) (Or.inr (hw _ (List.mem_of_getElem? (i := 13) rfl))) (by decide) (t := .boolean) (t' := .long) (by decide) (by decide)))
  have N2 := Fr.snoc X2 N0 pg
  have Z2 : n0 ≤ h2.size := by rw [W2.size]; exact Z0
  have K2 := K0.wr W2 (Or.inl (List.mem_of_getElem? (i := 0) rfl))
  have Y2 : h0.size ≤ h2.size := by rw [W2.size]; exact (Nat.le_refl h0.size)
  refine own_fwd st2 ?_
  show own_R p.tables e below P (T2.setTop (mkF m 9 #[.val (.ref a1), .val (.long q1), .second, .val .null, .val (.long q2), .second, .val (.int p3)] []))
  refine own_fwd (fun t k => XS.aloadN X2.here hx rfl (hb hby own_d2_9) rfl rfl k) ?_
  show own_R p.tables e below P (T2.setTop (mkF m 10 #[.val (.ref a1), .val (.long q1), .second, .val .null, .val (.long q2), .second, .val (.int p3)] [(.ref a1)]))
  refine own_fwd (fun t k => XS.aloadN X2.here hx rfl (hb hby own_d2_10) rfl rfl k) ?_
  show own_R p.tables e below P (T2.setTop (mkF m 11 #[.val (.ref a1), .val (.long q1), .second, .val .null, .val (.long q2), .second, .val (.int p3)] [.null, (.ref a1)]))
  obtain ⟨T3, h3, X3, e3, W3, st3⟩ := putF X2 hx hZ hown (host := "") (Or.inl (hw _ (List.mem_of_getElem? (i := 14) rfl))) Via.refl e2 pF2_x2 pE_x2 (Or.inr ⟨(hw _ (List.mem_of_getElem? (i := 15) rfl)), rfl, hnm⟩) (hw _ (List.mem_of_getElem? (i := 5) rfl)) (ty := (.object "com/example/leaselock/leaselock/Grant")) (by decide) rfl rfl (g := (mkF m 11 #[.val (.ref a1), .val (.long q1), .second, .val .null, .val (.long q2), .second, .val (.int p3)] [.null, (.ref a1)])) rfl rfl (hb hby own_d2_11)
  have F3_ := pF2_x2.same W3
  have pE_x3 := pE_x2.wr W3
  have F2__x3 := F2_.other W3 (Or.inr (slot_ne (Or.inr (hw _ (List.mem_of_getElem? (i := 13) rfl))) (Or.inr (hw _ (List.mem_of_getElem? (i := 15) rfl))) (by decide) (t := .long) (t' := (.object "com/example/leaselock/leaselock/Grant")) (by decide) (by decide)))
  have pF3_x3 := pF3_x2.other W3 (Or.inr (slot_ne (Or.inr (hw _ (List.mem_of_getElem? (i := 17) rfl))) (Or.inr (hw _ (List.mem_of_getElem? (i := 15) rfl))) (by decide) (t := .long) (t' := (.object "com/example/leaselock/leaselock/Grant")) (by decide) (by decide)))
  have pF4_x3 := pF4_x2.other W3 (Or.inr (slot_ne (Or.inr (hw _ (List.mem_of_getElem? (i := 19) rfl))) (Or.inr (hw _ (List.mem_of_getElem? (i := 15) rfl))) (by decide) (t := .boolean) (t' := (.object "com/example/leaselock/leaselock/Grant")) (by decide) (by decide)))
  have N3 := Fr.snoc X3 N2 pg
  have Z3 : n0 ≤ h3.size := by rw [W3.size]; exact Z2
  have K3 := K2.wr W3 (Or.inl (List.mem_of_getElem? (i := 0) rfl))
  have Y3 : h0.size ≤ h3.size := by rw [W3.size]; exact Y2
  refine own_fwd st3 ?_
  show own_R p.tables e below P (T3.setTop (mkF m 14 #[.val (.ref a1), .val (.long q1), .second, .val .null, .val (.long q2), .second, .val (.int p3)] []))
  refine own_fwd (fun t k => XS.aloadN X3.here hx rfl (hb hby own_d2_14) rfl rfl k) ?_
  show own_R p.tables e below P (T3.setTop (mkF m 15 #[.val (.ref a1), .val (.long q1), .second, .val .null, .val (.long q2), .second, .val (.int p3)] [(.ref a1)]))
  refine own_fwd (fun t k => XS.lload X3.here hx rfl (hb hby own_d2_15) rfl k) ?_
  show own_R p.tables e below P (T3.setTop (mkF m 17 #[.val (.ref a1), .val (.long q1), .second, .val .null, .val (.long q2), .second, .val (.int p3)] [(.long q2), (.ref a1)]))
  obtain ⟨T4, h4, X4, e4, W4, st4⟩ := putF X3 hx hZ hown (host := "") (Or.inl (hw _ (List.mem_of_getElem? (i := 16) rfl))) Via.refl e3 pF3_x3 pE_x3 (Or.inr ⟨(hw _ (List.mem_of_getElem? (i := 17) rfl)), rfl, hnm⟩) (hw _ (List.mem_of_getElem? (i := 5) rfl)) (ty := .long) (by decide) rfl rfl (g := (mkF m 17 #[.val (.ref a1), .val (.long q1), .second, .val .null, .val (.long q2), .second, .val (.int p3)] [(.long q2), (.ref a1)])) rfl rfl (hb hby own_d2_17)
  have F4_ := pF3_x3.same W4
  have pE_x4 := pE_x3.wr W4
  have F2__x4 := F2__x3.other W4 (Or.inr (slot_ne (Or.inr (hw _ (List.mem_of_getElem? (i := 13) rfl))) (Or.inr (hw _ (List.mem_of_getElem? (i := 17) rfl))) (by decide) (t := .long) (t' := .long) (by decide) (by decide)))
  have F3__x4 := F3_.other W4 (Or.inr (slot_ne (Or.inr (hw _ (List.mem_of_getElem? (i := 15) rfl))) (Or.inr (hw _ (List.mem_of_getElem? (i := 17) rfl))) (by decide) (t := (.object "com/example/leaselock/leaselock/Grant")) (t' := .long) (by decide) (by decide)))
  have pF4_x4 := pF4_x3.other W4 (Or.inr (slot_ne (Or.inr (hw _ (List.mem_of_getElem? (i := 19) rfl))) (Or.inr (hw _ (List.mem_of_getElem? (i := 17) rfl))) (by decide) (t := .boolean) (t' := .long) (by decide) (by decide)))
  have N4 := Fr.snoc X4 N3 pg
  have Z4 : n0 ≤ h4.size := by rw [W4.size]; exact Z3
  have K4 := K3.wr W4 (Or.inl (List.mem_of_getElem? (i := 0) rfl))
  have Y4 : h0.size ≤ h4.size := by rw [W4.size]; exact Y3
  refine own_fwd st4 ?_
  show own_R p.tables e below P (T4.setTop (mkF m 20 #[.val (.ref a1), .val (.long q1), .second, .val .null, .val (.long q2), .second, .val (.int p3)] []))
  refine own_fwd (fun t k => XS.aloadN X4.here hx rfl (hb hby own_d2_20) rfl rfl k) ?_
  show own_R p.tables e below P (T4.setTop (mkF m 21 #[.val (.ref a1), .val (.long q1), .second, .val .null, .val (.long q2), .second, .val (.int p3)] [(.ref a1)]))
  refine own_fwd (fun t k => XS.iload X4.here hx rfl (hb hby own_d2_21) rfl k) ?_
  show own_R p.tables e below P (T4.setTop (mkF m 23 #[.val (.ref a1), .val (.long q1), .second, .val .null, .val (.long q2), .second, .val (.int p3)] [(.int p3), (.ref a1)]))
  obtain ⟨T5, h5, X5, e5, W5, st5⟩ := putFN X4 hx hZ hown (hw _ (List.mem_of_getElem? (i := 18) rfl)) Via.refl e4 pF4_x4 pE_x4 (Or.inr ⟨(hw _ (List.mem_of_getElem? (i := 19) rfl)), rfl, hnm⟩) (hw _ (List.mem_of_getElem? (i := 5) rfl)) (ty := .boolean) (v' := (.int p3)) (by decide) (own_z01 pz).1 (own_z01 pz).2 (g := (mkF m 23 #[.val (.ref a1), .val (.long q1), .second, .val .null, .val (.long q2), .second, .val (.int p3)] [(.int p3), (.ref a1)])) rfl rfl (hb hby own_d2_23)
  have F5_ := pF4_x4.same W5
  have pE_x5 := pE_x4.wr W5
  have F2__x5 := F2__x4.other W5 (Or.inr (slot_ne (Or.inr (hw _ (List.mem_of_getElem? (i := 13) rfl))) (Or.inr (hw _ (List.mem_of_getElem? (i := 19) rfl))) (by decide) (t := .long) (t' := .boolean) (by decide) (by decide)))
  have F3__x5 := F3__x4.other W5 (Or.inr (slot_ne (Or.inr (hw _ (List.mem_of_getElem? (i := 15) rfl))) (Or.inr (hw _ (List.mem_of_getElem? (i := 19) rfl))) (by decide) (t := (.object "com/example/leaselock/leaselock/Grant")) (t' := .boolean) (by decide) (by decide)))
  have F4__x5 := F4_.other W5 (Or.inr (slot_ne (Or.inr (hw _ (List.mem_of_getElem? (i := 17) rfl))) (Or.inr (hw _ (List.mem_of_getElem? (i := 19) rfl))) (by decide) (t := .long) (t' := .boolean) (by decide) (by decide)))
  have N5 := Fr.snoc X5 N4 pg
  have Z5 : n0 ≤ h5.size := by rw [W5.size]; exact Z4
  have K5 := K4.wr W5 (Or.inl (List.mem_of_getElem? (i := 0) rfl))
  have Y5 : h0.size ≤ h5.size := by rw [W5.size]; exact Y4
  refine own_fwd st5 ?_
  show own_R p.tables e below P (T5.setTop (mkF m 26 #[.val (.ref a1), .val (.long q1), .second, .val .null, .val (.long q2), .second, .val (.int p3)] []))
  obtain ⟨fs6, hr6, hrun6, hended6, hW6, hsame6⟩ := X5.leave (v := none) (fun _ => rfl)
  refine ⟨_, _, X5.returnOut hx Bd.returns (hb hby own_d2_26) hr6, fin _ _ ⟨hrun6, hended6, _, _, rfl, ?_, ⟨_, rfl⟩, hW6, hsame6.mono (by decide) (by decide)⟩⟩
  show own_Q2 Z a1 q1 q2 p3 h0 n0 _ T5.heap _
  rw [e5]
  exact ⟨rfl, N5, K5, pE_x5, F2__x5, F3__x5, F4__x5, F5_⟩
theorem own_d1_0 : decode prog_1_method_4_code 0 = .ok (.new 8, 3) := by decide +kernel
theorem own_d1_3 : decode prog_1_method_4_code 3 = .ok (.dup, 1) := by decide +kernel
theorem own_d1_4 : decode prog_1_method_4_code 4 = .ok (.lload_n 0, 1) := by decide +kernel
theorem own_d1_5 : decode prog_1_method_4_code 5 = .ok (.aconst_null, 1) := by decide +kernel
theorem own_d1_6 : decode prog_1_method_4_code 6 = .ok (.lload_n 2, 1) := by decide +kernel
theorem own_d1_7 : decode prog_1_method_4_code 7 = .ok (.iconst 0, 1) := by decide +kernel
theorem own_d1_8 : decode prog_1_method_4_code 8 = .ok (.invokespecial 24, 3) := by decide +kernel
theorem own_d1_11 : decode prog_1_method_4_code 11 = .ok (.areturn, 1) := by decide +kernel
theorem own_pd0 : parseMethodDescriptor "(JLcom/example/leaselock/leaselock/Grant;JZ)V" = some ⟨[.long, (.object "com/example/leaselock/leaselock/Grant"), .long, .boolean], none⟩ := by decide +kernel
theorem own_ef1 (m : MethodId) (q1 : Int64) (q2 : Int64) : entryFrame m #[(.long q1), (.long q2)] 4 = mkF m 0 #[.val (.long q1), .second, .val (.long q2), .second] [] := by first | (simp [entryFrame, mkF, argsToLocals, Value.category]; done) | rfl
def own_Q1 (Z : State) (q1 q2 : Int64) (h0 : Heap) (n0 : Nat) (v : Option Value) (h : Heap) (L : List Loc) : Prop := ∃ b, v = some (.ref b) ∧ Fr n0 L ∧ n0 ≤ b ∧ Keep h0 h [] ∧ Exa Z h b "com/example/leaselock/leaselock/Answer" ∧ Fld Z h b "com/example/leaselock/leaselock/Answer" "asked" "J" (.long q1) ∧ Fld Z h b "com/example/leaselock/leaselock/Answer" "grant" "Lcom/example/leaselock/leaselock/Grant;" .null ∧ Fld Z h b "com/example/leaselock/leaselock/Answer" "sleepNanos" "J" (.long q2) ∧ Fld Z h b "com/example/leaselock/leaselock/Answer" "endsAtRelease" "Z" (.int (0 : Int32))
set_option maxRecDepth 65536 in
set_option maxHeartbeats 40000000 in
theorem own_rm1 (l : Launch) (Z : State) (a0 : Array Value) (hw : ∀ d ∈ tables_1, d.before a0 Z = true) (ws : List Jvm.Cond) (q1 q2 : Int64) (h0 : Heap) (n0 : Nat) (Z0 : n0 ≤ h0.size) :
    MetFree l (⟨"com/example/leaselock/leaselock/Answer", "retry", "(JJ)Lcom/example/leaselock/leaselock/Answer;"⟩ : MethodName) (head1 (Jvm.Cond.code (⟨"com/example/leaselock/leaselock/Answer", "retry", "(JJ)Lcom/example/leaselock/leaselock/Answer;"⟩ : MethodName) prog_1_method_4_code 4 (some (.object "com/example/leaselock/leaselock/Answer")) :: ws) ({ frames := 2, cells := 1, slots := 4, locals := 31 } : Room)) (fun a U => a = #[(.long q1), (.long q2)] ∧ Z.Warmed39 U.vm ∧ U.heap = h0) (fun _ _ _ _ _ => True) (fun _ U o U' => ∃ v L, o = .returned v ∧ own_Q1 Z q1 q2 h0 n0 v U'.heap L ∧ FrameEnd U o U' L ({ frames := 2, cells := 1, slots := 4, locals := 31 } : Room).cells ({ frames := 2, cells := 1, slots := 4, locals := 31 } : Room).slots) := by
  refine MetFree.of_bodySF (plainFor_of_name own_pn0) hisR ?_
  intro p e s m args below meth c s₁ Bd hml0 hP hK
  obtain ⟨rfl, hZ, hh⟩ := hP
  have hx := Bd.exec
  have hby := Bd.bytes
  have hml : c.maxLocals = 4 := hml0
  have hown : s.vm.findClass "com/example/leaselock/leaselock/Answer" = some m.cls := findClass_of_methodNamed Bd.named
  have hnm := (name_of_methodNamed Bd.named Bd.method).1
  have X0 : Stand p l e ({ frames := 2, cells := 1, slots := 4, locals := 31 } : Room) s m #[(.long q1), (.long q2)] below meth c s₁ [] 0 0 := Stand.of_body Bd
  have e0 : s₁.heap = h0 := by rw [← hh, Bd.state]; rfl
  have N0 := Fr.nil n0
  refine own_nm (st := s₁.setTop (entryFrame m #[(.long q1), (.long q2)] 4)) fun P fin => ?_
  refine own_fwd (fun t k => castTop (own_ef1 m q1 q2) k) ?_
  show own_R p.tables e below P (s₁.setTop (mkF m 0 #[.val (.long q1), .second, .val (.long q2), .second] []))
  have K0 := Keep.refl h0 []
  obtain ⟨T7, h7, X7, e7, E7, A7, D7, -, st7⟩ := newO X0 hx hZ hown (hw _ (List.mem_of_getElem? (i := 4) rfl)) (hw _ (List.mem_of_getElem? (i := 5) rfl)) (hw _ (List.mem_of_getElem? (i := 2) rfl)) e0 (g := (mkF m 0 #[.val (.long q1), .second, .val (.long q2), .second] [])) rfl (hb hby own_d1_0) (by decide) (by decide)
  obtain ⟨b7, g7⟩ : ∃ z, z = h0.size := ⟨_, rfl⟩
  rw [← g7] at A7 D7 st7
  have ge_b7 : n0 ≤ b7 := by rw [g7]; exact Z0
  have sz_b7 : h0.size ≤ b7 := by rw [g7]; exact (Nat.le_refl h0.size)
  have F7_asked : Fld Z h7 b7 "com/example/leaselock/leaselock/Answer" "asked" "J" (.long (0 : Int64)) := D7 (Or.inr (hw _ (List.mem_of_getElem? (i := 13) rfl))) (ty := .long) (by decide)
  have F7_grant : Fld Z h7 b7 "com/example/leaselock/leaselock/Answer" "grant" "Lcom/example/leaselock/leaselock/Grant;" .null := D7 (Or.inr (hw _ (List.mem_of_getElem? (i := 15) rfl))) (ty := (.object "com/example/leaselock/leaselock/Grant")) (by decide)
  have F7_sleepNanos : Fld Z h7 b7 "com/example/leaselock/leaselock/Answer" "sleepNanos" "J" (.long (0 : Int64)) := D7 (Or.inr (hw _ (List.mem_of_getElem? (i := 17) rfl))) (ty := .long) (by decide)
  have F7_endsAtRelease : Fld Z h7 b7 "com/example/leaselock/leaselock/Answer" "endsAtRelease" "Z" (.int (0 : Int32)) := D7 (Or.inr (hw _ (List.mem_of_getElem? (i := 19) rfl))) (ty := .boolean) (by decide)
  have Z7 : n0 ≤ h7.size := Nat.le_trans Z0 E7.1
  have K7 := K0.ext E7
  have Y7 : h0.size ≤ h7.size := Nat.le_trans (Nat.le_refl h0.size) E7.1
  refine own_fwd st7 ?_
  show own_R p.tables e below P (T7.setTop (mkF m 3 #[.val (.long q1), .second, .val (.long q2), .second] [(.ref b7)]))
  refine own_fwd (fun t k => XS.dup X7.here hx rfl (hb hby own_d1_3) rfl rfl k) ?_
  show own_R p.tables e below P (T7.setTop (mkF m 4 #[.val (.long q1), .second, .val (.long q2), .second] [(.ref b7), (.ref b7)]))
  refine own_fwd (fun t k => XS.lloadN X7.here hx rfl (hb hby own_d1_4) rfl k) ?_
  show own_R p.tables e below P (T7.setTop (mkF m 5 #[.val (.long q1), .second, .val (.long q2), .second] [(.long q1), (.ref b7), (.ref b7)]))
  refine own_fwd (fun t k => XS.aconstNull X7.here hx rfl (hb hby own_d1_5) k) ?_
  show own_R p.tables e below P (T7.setTop (mkF m 6 #[.val (.long q1), .second, .val (.long q2), .second] [.null, (.long q1), (.ref b7), (.ref b7)]))
  refine own_fwd (fun t k => XS.lloadN X7.here hx rfl (hb hby own_d1_6) rfl k) ?_
  show own_R p.tables e below P (T7.setTop (mkF m 7 #[.val (.long q1), .second, .val (.long q2), .second] [(.long q2), .null, (.long q1), (.ref b7), (.ref b7)]))
  refine own_fwd (fun t k => XS.iconst X7.here hx rfl (hb hby own_d1_7) k) ?_
  show own_R p.tables e below P (T7.setTop (mkF m 8 #[.val (.long q1), .second, .val (.long q2), .second] [(.int (0 : Int32)), (.long q2), .null, (.long q1), (.ref b7), (.ref b7)]))
  obtain ⟨_, _, ⟨T8, L8, k8, n8⟩, -, X8, ⟨Lc8, hQ8, l8, y8, z8⟩, st8⟩ := X7.specialBack hx (y := (⟨"com/example/leaselock/leaselock/Answer", "<init>", "(JLcom/example/leaselock/leaselock/Grant;JZ)V"⟩ : MethodName)) rfl hown (mvT hZ (hw _ (List.mem_of_getElem? (i := 6) rfl))) (mvT hZ (hw _ (List.mem_of_getElem? (i := 7) rfl))) (mvT hZ (hw _ (List.mem_of_getElem? (i := 8) rfl))) (by decide) (backOf (W := 1) (own_rm2 l Z a0 hw [] b7 q1 q2 (0 : Int32) h7 n0 Z7 A7 F7_asked F7_grant F7_sleepNanos F7_endsAtRelease ge_b7 (by decide)) hZ (hw _ (List.mem_of_getElem? (i := 8) rfl)) (hw _ (List.mem_of_getElem? (i := 2) rfl)) (by decide) (by decide)) (g := (mkF m 8 #[.val (.long q1), .second, .val (.long q2), .second] [(.int (0 : Int32)), (.long q2), .null, (.long q1), (.ref b7), (.ref b7)])) rfl (by rw [hml]; rfl) (Steps.refl _) (a := b7) (argsL := [(.long q1), .null, (.long q2), (.int (0 : Int32))]) (rest := [(.ref b7)]) (lenOf own_pd0 rfl) rfl (by show 2 * 0 + _ ≤ _; exact Nat.le_of_eq rfl) (hb hby own_d1_8) (fun _ _ => ⟨rfl, e7, (by decide : 1 + 0 ≤ _), (by decide : 4 + 0 ≤ _)⟩)
  dsimp only [Pt.U, Pt.locs, Pt.cells, Pt.slots] at X8 l8 y8 z8 st8 hQ8
  subst l8 y8 z8
  obtain ⟨h8, e8⟩ : ∃ z, T8.heap = z := ⟨_, rfl⟩
  rw [e8] at hQ8
  obtain ⟨hq8, N8q, K8, E8_, G8_, H8_, I8_, J8_⟩ := hQ8
  subst hq8
  have N8 := Fr.app N0 N8q
  have A7_x8 := A7.keep K8
  have Z8 : n0 ≤ h8.size := Nat.le_trans Z7 K8.1
  have KK8 := K7.trans K8 (allS (Or.inr sz_b7) all0)
  have Y8 : h0.size ≤ h8.size := Nat.le_trans Y7 K8.1
  refine own_trn st8 ?_
  show own_R p.tables e below P (T8.setTop (mkF m 11 #[.val (.long q1), .second, .val (.long q2), .second] [(.ref b7)]))
  obtain ⟨fs9, hr9, hrun9, hended9, hW9, hsame9⟩ := X8.leave (v := some (.ref b7)) (fun h => by rw [Bd.returns] at h; cases h)
  refine ⟨_, _, X8.areturnOut hx rfl Bd.returns rfl (hb hby own_d1_11) hr9, fin _ _ ⟨hrun9, hended9, _, _, rfl, ?_, ⟨_, rfl⟩, hW9, hsame9.mono (by decide) (by decide)⟩⟩
  show own_Q1 Z q1 q2 h0 n0 _ T8.heap _
  rw [e8]
  exact ⟨b7, rfl, N8, ge_b7, KK8, E8_, G8_, H8_, I8_, J8_⟩
theorem own_d4_0 : decode prog_1_method_6_code 0 = .ok (.aload_n 0, 1) := by decide +kernel
theorem own_d4_1 : decode prog_1_method_6_code 1 = .ok (.getfield 7, 3) := by decide +kernel
theorem own_d4_4 : decode prog_1_method_6_code 4 = .ok (.lreturn, 1) := by decide +kernel
theorem own_ef4 (m : MethodId) (a1 : Addr) : entryFrame m #[(.ref a1)] 1 = mkF m 0 #[.val (.ref a1)] [] := by first | (simp [entryFrame, mkF, argsToLocals, Value.category]; done) | rfl
def own_Q4 (Z : State) (a1 : Addr) (u : Int64) (h0 : Heap) (n0 : Nat) (v : Option Value) (h : Heap) (L : List Loc) : Prop := v = some (.long u) ∧ Fr n0 L ∧ h = h0
set_option maxRecDepth 65536 in
set_option maxHeartbeats 40000000 in
theorem own_rm4 (l : Launch) (Z : State) (a0 : Array Value) (hw : ∀ d ∈ tables_1, d.before a0 Z = true) (ws : List Jvm.Cond) (a1 : Addr) (u : Int64) (h0 : Heap) (n0 : Nat) (Z0 : n0 ≤ h0.size) (pF : Fld Z h0 a1 "com/example/leaselock/leaselock/Answer" "asked" "J" (.long u)) :
    MetFree l (⟨"com/example/leaselock/leaselock/Answer", "asked", "()J"⟩ : MethodName) (head1 (Jvm.Cond.code (⟨"com/example/leaselock/leaselock/Answer", "asked", "()J"⟩ : MethodName) prog_1_method_6_code 1 (some .long) :: ws) ({ frames := 0, cells := 0, slots := 0, locals := 0 } : Room)) (fun a U => a = #[(.ref a1)] ∧ Z.Warmed39 U.vm ∧ U.heap = h0) (fun _ _ _ _ _ => True) (fun _ U o U' => ∃ v L, o = .returned v ∧ own_Q4 Z a1 u h0 n0 v U'.heap L ∧ FrameEnd U o U' L ({ frames := 0, cells := 0, slots := 0, locals := 0 } : Room).cells ({ frames := 0, cells := 0, slots := 0, locals := 0 } : Room).slots) := by
  refine MetFree.of_bodySF (plainFor_of_name own_pn0) hisR ?_
  intro p e s m args below meth c s₁ Bd hml0 hP hK
  obtain ⟨rfl, hZ, hh⟩ := hP
  have hx := Bd.exec
  have hby := Bd.bytes
  have hml : c.maxLocals = 1 := hml0
  have hown : s.vm.findClass "com/example/leaselock/leaselock/Answer" = some m.cls := findClass_of_methodNamed Bd.named
  have hnm := (name_of_methodNamed Bd.named Bd.method).1
  have X0 : Stand p l e ({ frames := 0, cells := 0, slots := 0, locals := 0 } : Room) s m #[(.ref a1)] below meth c s₁ [] 0 0 := Stand.of_body Bd
  have e0 : s₁.heap = h0 := by rw [← hh, Bd.state]; rfl
  have N0 := Fr.nil n0
  refine own_nm (st := s₁.setTop (entryFrame m #[(.ref a1)] 1)) fun P fin => ?_
  refine own_fwd (fun t k => castTop (own_ef4 m a1) k) ?_
  show own_R p.tables e below P (s₁.setTop (mkF m 0 #[.val (.ref a1)] []))
  refine own_fwd (fun t k => XS.aloadN X0.here hx rfl (hb hby own_d4_0) rfl rfl k) ?_
  show own_R p.tables e below P (s₁.setTop (mkF m 1 #[.val (.ref a1)] [(.ref a1)]))
  obtain ⟨T10, X10, e10, st10⟩ := getF X0 hx hZ hown (host := "") (Or.inl (hw _ (List.mem_of_getElem? (i := 12) rfl))) Via.refl e0 pF (g := (mkF m 1 #[.val (.ref a1)] [(.ref a1)])) rfl rfl (hb hby own_d4_1)
  refine own_fwd st10 ?_
  show own_R p.tables e below P (T10.setTop (mkF m 4 #[.val (.ref a1)] [(.long u)]))
  obtain ⟨fs11, hr11, hrun11, hended11, hW11, hsame11⟩ := X10.leave (v := some (.long u)) (fun h => by rw [Bd.returns] at h; cases h)
  refine ⟨_, _, X10.lreturnOut hx Bd.returns (hb hby own_d4_4) hr11, fin _ _ ⟨hrun11, hended11, _, _, rfl, ?_, ⟨_, rfl⟩, hW11, hsame11.mono (by decide) (by decide)⟩⟩
  show own_Q4 Z a1 u h0 n0 _ T10.heap _
  rw [e10]
  exact ⟨rfl, N0, rfl⟩
theorem own_d6_0 : decode prog_1_method_8_code 0 = .ok (.aload_n 0, 1) := by decide +kernel
theorem own_d6_1 : decode prog_1_method_8_code 1 = .ok (.getfield 13, 3) := by decide +kernel
theorem own_d6_4 : decode prog_1_method_8_code 4 = .ok (.areturn, 1) := by decide +kernel
theorem own_ef6 (m : MethodId) (a1 : Addr) : entryFrame m #[(.ref a1)] 1 = mkF m 0 #[.val (.ref a1)] [] := by first | (simp [entryFrame, mkF, argsToLocals, Value.category]; done) | rfl
def own_Q6 (Z : State) (a1 : Addr)  (h0 : Heap) (n0 : Nat) (v : Option Value) (h : Heap) (L : List Loc) : Prop := v = some .null ∧ Fr n0 L ∧ h = h0
set_option maxRecDepth 65536 in
set_option maxHeartbeats 40000000 in
theorem own_rm6 (l : Launch) (Z : State) (a0 : Array Value) (hw : ∀ d ∈ tables_1, d.before a0 Z = true) (ws : List Jvm.Cond) (a1 : Addr)  (h0 : Heap) (n0 : Nat) (Z0 : n0 ≤ h0.size) (pF : Fld Z h0 a1 "com/example/leaselock/leaselock/Answer" "grant" "Lcom/example/leaselock/leaselock/Grant;" .null) :
    MetFree l (⟨"com/example/leaselock/leaselock/Answer", "grant", "()Lcom/example/leaselock/leaselock/Grant;"⟩ : MethodName) (head1 (Jvm.Cond.code (⟨"com/example/leaselock/leaselock/Answer", "grant", "()Lcom/example/leaselock/leaselock/Grant;"⟩ : MethodName) prog_1_method_8_code 1 (some (.object "com/example/leaselock/leaselock/Grant")) :: ws) ({ frames := 0, cells := 0, slots := 0, locals := 0 } : Room)) (fun a U => a = #[(.ref a1)] ∧ Z.Warmed39 U.vm ∧ U.heap = h0) (fun _ _ _ _ _ => True) (fun _ U o U' => ∃ v L, o = .returned v ∧ own_Q6 Z a1 h0 n0 v U'.heap L ∧ FrameEnd U o U' L ({ frames := 0, cells := 0, slots := 0, locals := 0 } : Room).cells ({ frames := 0, cells := 0, slots := 0, locals := 0 } : Room).slots) := by
  refine MetFree.of_bodySF (plainFor_of_name own_pn0) hisR ?_
  intro p e s m args below meth c s₁ Bd hml0 hP hK
  obtain ⟨rfl, hZ, hh⟩ := hP
  have hx := Bd.exec
  have hby := Bd.bytes
  have hml : c.maxLocals = 1 := hml0
  have hown : s.vm.findClass "com/example/leaselock/leaselock/Answer" = some m.cls := findClass_of_methodNamed Bd.named
  have hnm := (name_of_methodNamed Bd.named Bd.method).1
  have X0 : Stand p l e ({ frames := 0, cells := 0, slots := 0, locals := 0 } : Room) s m #[(.ref a1)] below meth c s₁ [] 0 0 := Stand.of_body Bd
  have e0 : s₁.heap = h0 := by rw [← hh, Bd.state]; rfl
  have N0 := Fr.nil n0
  refine own_nm (st := s₁.setTop (entryFrame m #[(.ref a1)] 1)) fun P fin => ?_
  refine own_fwd (fun t k => castTop (own_ef6 m a1) k) ?_
  show own_R p.tables e below P (s₁.setTop (mkF m 0 #[.val (.ref a1)] []))
  refine own_fwd (fun t k => XS.aloadN X0.here hx rfl (hb hby own_d6_0) rfl rfl k) ?_
  show own_R p.tables e below P (s₁.setTop (mkF m 1 #[.val (.ref a1)] [(.ref a1)]))
  obtain ⟨T12, X12, e12, st12⟩ := getF X0 hx hZ hown (host := "") (Or.inl (hw _ (List.mem_of_getElem? (i := 14) rfl))) Via.refl e0 pF (g := (mkF m 1 #[.val (.ref a1)] [(.ref a1)])) rfl rfl (hb hby own_d6_1)
  refine own_fwd st12 ?_
  show own_R p.tables e below P (T12.setTop (mkF m 4 #[.val (.ref a1)] [.null]))
  obtain ⟨fs13, hr13, hrun13, hended13, hW13, hsame13⟩ := X12.leave (v := some .null) (fun h => by rw [Bd.returns] at h; cases h)
  refine ⟨_, _, X12.areturnOut hx rfl Bd.returns rfl (hb hby own_d6_4) hr13, fin _ _ ⟨hrun13, hended13, _, _, rfl, ?_, ⟨_, rfl⟩, hW13, hsame13.mono (by decide) (by decide)⟩⟩
  show own_Q6 Z a1 h0 n0 _ T12.heap _
  rw [e12]
  exact ⟨rfl, N0, rfl⟩
theorem own_d7_0 : decode prog_1_method_9_code 0 = .ok (.aload_n 0, 1) := by decide +kernel
theorem own_d7_1 : decode prog_1_method_9_code 1 = .ok (.getfield 17, 3) := by decide +kernel
theorem own_d7_4 : decode prog_1_method_9_code 4 = .ok (.lreturn, 1) := by decide +kernel
theorem own_ef7 (m : MethodId) (a1 : Addr) : entryFrame m #[(.ref a1)] 1 = mkF m 0 #[.val (.ref a1)] [] := by first | (simp [entryFrame, mkF, argsToLocals, Value.category]; done) | rfl
def own_Q7 (Z : State) (a1 : Addr) (u : Int64) (h0 : Heap) (n0 : Nat) (v : Option Value) (h : Heap) (L : List Loc) : Prop := v = some (.long u) ∧ Fr n0 L ∧ h = h0
set_option maxRecDepth 65536 in
set_option maxHeartbeats 40000000 in
theorem own_rm7 (l : Launch) (Z : State) (a0 : Array Value) (hw : ∀ d ∈ tables_1, d.before a0 Z = true) (ws : List Jvm.Cond) (a1 : Addr) (u : Int64) (h0 : Heap) (n0 : Nat) (Z0 : n0 ≤ h0.size) (pF : Fld Z h0 a1 "com/example/leaselock/leaselock/Answer" "sleepNanos" "J" (.long u)) :
    MetFree l (⟨"com/example/leaselock/leaselock/Answer", "sleepNanos", "()J"⟩ : MethodName) (head1 (Jvm.Cond.code (⟨"com/example/leaselock/leaselock/Answer", "sleepNanos", "()J"⟩ : MethodName) prog_1_method_9_code 1 (some .long) :: ws) ({ frames := 0, cells := 0, slots := 0, locals := 0 } : Room)) (fun a U => a = #[(.ref a1)] ∧ Z.Warmed39 U.vm ∧ U.heap = h0) (fun _ _ _ _ _ => True) (fun _ U o U' => ∃ v L, o = .returned v ∧ own_Q7 Z a1 u h0 n0 v U'.heap L ∧ FrameEnd U o U' L ({ frames := 0, cells := 0, slots := 0, locals := 0 } : Room).cells ({ frames := 0, cells := 0, slots := 0, locals := 0 } : Room).slots) := by
  refine MetFree.of_bodySF (plainFor_of_name own_pn0) hisR ?_
  intro p e s m args below meth c s₁ Bd hml0 hP hK
  obtain ⟨rfl, hZ, hh⟩ := hP
  have hx := Bd.exec
  have hby := Bd.bytes
  have hml : c.maxLocals = 1 := hml0
  have hown : s.vm.findClass "com/example/leaselock/leaselock/Answer" = some m.cls := findClass_of_methodNamed Bd.named
  have hnm := (name_of_methodNamed Bd.named Bd.method).1
  have X0 : Stand p l e ({ frames := 0, cells := 0, slots := 0, locals := 0 } : Room) s m #[(.ref a1)] below meth c s₁ [] 0 0 := Stand.of_body Bd
  have e0 : s₁.heap = h0 := by rw [← hh, Bd.state]; rfl
  have N0 := Fr.nil n0
  refine own_nm (st := s₁.setTop (entryFrame m #[(.ref a1)] 1)) fun P fin => ?_
  refine own_fwd (fun t k => castTop (own_ef7 m a1) k) ?_
  show own_R p.tables e below P (s₁.setTop (mkF m 0 #[.val (.ref a1)] []))
  refine own_fwd (fun t k => XS.aloadN X0.here hx rfl (hb hby own_d7_0) rfl rfl k) ?_
  show own_R p.tables e below P (s₁.setTop (mkF m 1 #[.val (.ref a1)] [(.ref a1)]))
  obtain ⟨T14, X14, e14, st14⟩ := getF X0 hx hZ hown (host := "") (Or.inl (hw _ (List.mem_of_getElem? (i := 16) rfl))) Via.refl e0 pF (g := (mkF m 1 #[.val (.ref a1)] [(.ref a1)])) rfl rfl (hb hby own_d7_1)
  refine own_fwd st14 ?_
  show own_R p.tables e below P (T14.setTop (mkF m 4 #[.val (.ref a1)] [(.long u)]))
  obtain ⟨fs15, hr15, hrun15, hended15, hW15, hsame15⟩ := X14.leave (v := some (.long u)) (fun h => by rw [Bd.returns] at h; cases h)
  refine ⟨_, _, X14.lreturnOut hx Bd.returns (hb hby own_d7_4) hr15, fin _ _ ⟨hrun15, hended15, _, _, rfl, ?_, ⟨_, rfl⟩, hW15, hsame15.mono (by decide) (by decide)⟩⟩
  show own_Q7 Z a1 u h0 n0 _ T14.heap _
  rw [e14]
  exact ⟨rfl, N0, rfl⟩
theorem own_d8_0 : decode prog_1_method_10_code 0 = .ok (.aload_n 0, 1) := by decide +kernel
theorem own_d8_1 : decode prog_1_method_10_code 1 = .ok (.getfield 20, 3) := by decide +kernel
theorem own_d8_4 : decode prog_1_method_10_code 4 = .ok (.ireturn, 1) := by decide +kernel
theorem own_ef8 (m : MethodId) (a1 : Addr) : entryFrame m #[(.ref a1)] 1 = mkF m 0 #[.val (.ref a1)] [] := by first | (simp [entryFrame, mkF, argsToLocals, Value.category]; done) | rfl
def own_Q8 (Z : State) (a1 : Addr) (u : Int32) (h0 : Heap) (n0 : Nat) (v : Option Value) (h : Heap) (L : List Loc) : Prop := v = some (.int u) ∧ Fr n0 L ∧ h = h0
set_option maxRecDepth 65536 in
set_option maxHeartbeats 40000000 in
theorem own_rm8 (l : Launch) (Z : State) (a0 : Array Value) (hw : ∀ d ∈ tables_1, d.before a0 Z = true) (ws : List Jvm.Cond) (a1 : Addr) (u : Int32) (h0 : Heap) (n0 : Nat) (Z0 : n0 ≤ h0.size) (pF : Fld Z h0 a1 "com/example/leaselock/leaselock/Answer" "endsAtRelease" "Z" (.int u)) (pz : u = 0 ∨ u = 1) :
    MetFree l (⟨"com/example/leaselock/leaselock/Answer", "endsAtRelease", "()Z"⟩ : MethodName) (head1 (Jvm.Cond.code (⟨"com/example/leaselock/leaselock/Answer", "endsAtRelease", "()Z"⟩ : MethodName) prog_1_method_10_code 1 (some .boolean) :: ws) ({ frames := 0, cells := 0, slots := 0, locals := 0 } : Room)) (fun a U => a = #[(.ref a1)] ∧ Z.Warmed39 U.vm ∧ U.heap = h0) (fun _ _ _ _ _ => True) (fun _ U o U' => ∃ v L, o = .returned v ∧ own_Q8 Z a1 u h0 n0 v U'.heap L ∧ FrameEnd U o U' L ({ frames := 0, cells := 0, slots := 0, locals := 0 } : Room).cells ({ frames := 0, cells := 0, slots := 0, locals := 0 } : Room).slots) := by
  refine MetFree.of_bodySF (plainFor_of_name own_pn0) hisR ?_
  intro p e s m args below meth c s₁ Bd hml0 hP hK
  obtain ⟨rfl, hZ, hh⟩ := hP
  have hx := Bd.exec
  have hby := Bd.bytes
  have hml : c.maxLocals = 1 := hml0
  have hown : s.vm.findClass "com/example/leaselock/leaselock/Answer" = some m.cls := findClass_of_methodNamed Bd.named
  have hnm := (name_of_methodNamed Bd.named Bd.method).1
  have X0 : Stand p l e ({ frames := 0, cells := 0, slots := 0, locals := 0 } : Room) s m #[(.ref a1)] below meth c s₁ [] 0 0 := Stand.of_body Bd
  have e0 : s₁.heap = h0 := by rw [← hh, Bd.state]; rfl
  have N0 := Fr.nil n0
  refine own_nm (st := s₁.setTop (entryFrame m #[(.ref a1)] 1)) fun P fin => ?_
  refine own_fwd (fun t k => castTop (own_ef8 m a1) k) ?_
  show own_R p.tables e below P (s₁.setTop (mkF m 0 #[.val (.ref a1)] []))
  refine own_fwd (fun t k => XS.aloadN X0.here hx rfl (hb hby own_d8_0) rfl rfl k) ?_
  show own_R p.tables e below P (s₁.setTop (mkF m 1 #[.val (.ref a1)] [(.ref a1)]))
  obtain ⟨T16, X16, e16, st16⟩ := getF X0 hx hZ hown (host := "") (Or.inl (hw _ (List.mem_of_getElem? (i := 18) rfl))) Via.refl e0 pF (g := (mkF m 1 #[.val (.ref a1)] [(.ref a1)])) rfl rfl (hb hby own_d8_1)
  refine own_fwd st16 ?_
  show own_R p.tables e below P (T16.setTop (mkF m 4 #[.val (.ref a1)] [(.int u)]))
  obtain ⟨fs17, hr17, hrun17, hended17, hW17, hsame17⟩ := X16.leave (v := some (.int u)) (fun h => by rw [Bd.returns] at h; cases h)
  refine ⟨_, _, X16.ireturnOut hx (w := u) Bd.returns (own_z01 pz).1 (by simp) (hb hby own_d8_4) hr17, fin _ _ ⟨hrun17, hended17, _, _, rfl, ?_, ⟨_, rfl⟩, hW17, hsame17.mono (by decide) (by decide)⟩⟩
  show own_Q8 Z a1 u h0 n0 _ T16.heap _
  rw [e16]
  exact ⟨rfl, N0, rfl⟩
theorem own_d5_0 : decode prog_1_method_7_code 0 = .ok (.aload_n 0, 1) := by decide +kernel
theorem own_d5_1 : decode prog_1_method_7_code 1 = .ok (.getfield 13, 3) := by decide +kernel
theorem own_d5_4 : decode prog_1_method_7_code 4 = .ok (.ifnull 7, 3) := by decide +kernel
theorem own_d5_7 : decode prog_1_method_7_code 7 = .ok (.iconst 1, 1) := by decide +kernel
theorem own_d5_8 : decode prog_1_method_7_code 8 = .ok (.goto 4, 3) := by decide +kernel
theorem own_d5_11 : decode prog_1_method_7_code 11 = .ok (.iconst 0, 1) := by decide +kernel
theorem own_d5_12 : decode prog_1_method_7_code 12 = .ok (.ireturn, 1) := by decide +kernel
theorem own_ef5 (m : MethodId) (a1 : Addr) : entryFrame m #[(.ref a1)] 1 = mkF m 0 #[.val (.ref a1)] [] := by first | (simp [entryFrame, mkF, argsToLocals, Value.category]; done) | rfl
def own_Q5 (Z : State) (a1 : Addr)  (h0 : Heap) (n0 : Nat) (v : Option Value) (h : Heap) (L : List Loc) : Prop := v = some (.int (0 : Int32)) ∧ Fr n0 L ∧ h = h0
set_option maxRecDepth 65536 in
set_option maxHeartbeats 40000000 in
theorem own_rm5 (l : Launch) (Z : State) (a0 : Array Value) (hw : ∀ d ∈ tables_1, d.before a0 Z = true) (ws : List Jvm.Cond) (a1 : Addr)  (h0 : Heap) (n0 : Nat) (Z0 : n0 ≤ h0.size) (pF : Fld Z h0 a1 "com/example/leaselock/leaselock/Answer" "grant" "Lcom/example/leaselock/leaselock/Grant;" .null) :
    MetFree l (⟨"com/example/leaselock/leaselock/Answer", "granted", "()Z"⟩ : MethodName) (head1 (Jvm.Cond.code (⟨"com/example/leaselock/leaselock/Answer", "granted", "()Z"⟩ : MethodName) prog_1_method_7_code 1 (some .boolean) :: ws) ({ frames := 0, cells := 0, slots := 0, locals := 0 } : Room)) (fun a U => a = #[(.ref a1)] ∧ Z.Warmed39 U.vm ∧ U.heap = h0) (fun _ _ _ _ _ => True) (fun _ U o U' => ∃ v L, o = .returned v ∧ own_Q5 Z a1 h0 n0 v U'.heap L ∧ FrameEnd U o U' L ({ frames := 0, cells := 0, slots := 0, locals := 0 } : Room).cells ({ frames := 0, cells := 0, slots := 0, locals := 0 } : Room).slots) := by
  refine MetFree.of_bodySF (plainFor_of_name own_pn0) hisR ?_
  intro p e s m args below meth c s₁ Bd hml0 hP hK
  obtain ⟨rfl, hZ, hh⟩ := hP
  have hx := Bd.exec
  have hby := Bd.bytes
  have hml : c.maxLocals = 1 := hml0
  have hown : s.vm.findClass "com/example/leaselock/leaselock/Answer" = some m.cls := findClass_of_methodNamed Bd.named
  have hnm := (name_of_methodNamed Bd.named Bd.method).1
  have X0 : Stand p l e ({ frames := 0, cells := 0, slots := 0, locals := 0 } : Room) s m #[(.ref a1)] below meth c s₁ [] 0 0 := Stand.of_body Bd
  have e0 : s₁.heap = h0 := by rw [← hh, Bd.state]; rfl
  have N0 := Fr.nil n0
  refine own_nm (st := s₁.setTop (entryFrame m #[(.ref a1)] 1)) fun P fin => ?_
  refine own_fwd (fun t k => castTop (own_ef5 m a1) k) ?_
  show own_R p.tables e below P (s₁.setTop (mkF m 0 #[.val (.ref a1)] []))
  refine own_fwd (fun t k => XS.aloadN X0.here hx rfl (hb hby own_d5_0) rfl rfl k) ?_
  show own_R p.tables e below P (s₁.setTop (mkF m 1 #[.val (.ref a1)] [(.ref a1)]))
  obtain ⟨T18, X18, e18, st18⟩ := getF X0 hx hZ hown (host := "") (Or.inl (hw _ (List.mem_of_getElem? (i := 14) rfl))) Via.refl e0 pF (g := (mkF m 1 #[.val (.ref a1)] [(.ref a1)])) rfl rfl (hb hby own_d5_1)
  refine own_fwd st18 ?_
  show own_R p.tables e below P (T18.setTop (mkF m 4 #[.val (.ref a1)] [.null]))
  refine own_fwd (fun t k => XS.ifnullYes X18.here hx rfl (pc0 := 4) (pc' := 11) rfl (hb hby own_d5_4) rfl (by decide) (by decide) k) ?_
  show own_R p.tables e below P (T18.setTop (mkF m 11 #[.val (.ref a1)] []))
  refine own_fwd (fun t k => XS.iconst X18.here hx rfl (hb hby own_d5_11) k) ?_
  show own_R p.tables e below P (T18.setTop (mkF m 12 #[.val (.ref a1)] [(.int (0 : Int32))]))
  obtain ⟨fs19, hr19, hrun19, hended19, hW19, hsame19⟩ := X18.leave (v := some (.int (0 : Int32))) (fun h => by rw [Bd.returns] at h; cases h)
  refine ⟨_, _, X18.ireturnOut hx (w := (0 : Int32)) Bd.returns rfl (by simp) (hb hby own_d5_12) hr19, fin _ _ ⟨hrun19, hended19, _, _, rfl, ?_, ⟨_, rfl⟩, hW19, hsame19.mono (by decide) (by decide)⟩⟩
  show own_Q5 Z a1 h0 n0 _ T18.heap _
  rw [e18]
  exact ⟨rfl, N0, rfl⟩
theorem own_d9_0 : decode prog_1_method_5_code 0 = .ok (.aload_n 0, 1) := by decide +kernel
theorem own_d9_1 : decode prog_1_method_5_code 1 = .ok (.astore_n 3, 1) := by decide +kernel
theorem own_d9_2 : decode prog_1_method_5_code 2 = .ok (.aload_n 0, 1) := by decide +kernel
theorem own_d9_3 : decode prog_1_method_5_code 3 = .ok (.getfield 13, 3) := by decide +kernel
theorem own_d9_6 : decode prog_1_method_5_code 6 = .ok (.ifnonnull 30, 3) := by decide +kernel
theorem own_d9_9 : decode prog_1_method_5_code 9 = .ok (.aload_n 0, 1) := by decide +kernel
theorem own_d9_10 : decode prog_1_method_5_code 10 = .ok (.getfield 17, 3) := by decide +kernel
theorem own_d9_13 : decode prog_1_method_5_code 13 = .ok (.lload_n 1, 1) := by decide +kernel
theorem own_d9_14 : decode prog_1_method_5_code 14 = .ok (.lcmp, 1) := by decide +kernel
theorem own_d9_15 : decode prog_1_method_5_code 15 = .ok (.ifCond .le 21, 3) := by decide +kernel
theorem own_d9_18 : decode prog_1_method_5_code 18 = .ok (.new 8, 3) := by decide +kernel
theorem own_d9_21 : decode prog_1_method_5_code 21 = .ok (.dup, 1) := by decide +kernel
theorem own_d9_22 : decode prog_1_method_5_code 22 = .ok (.aload_n 0, 1) := by decide +kernel
theorem own_d9_23 : decode prog_1_method_5_code 23 = .ok (.getfield 7, 3) := by decide +kernel
theorem own_d9_26 : decode prog_1_method_5_code 26 = .ok (.aconst_null, 1) := by decide +kernel
theorem own_d9_27 : decode prog_1_method_5_code 27 = .ok (.lload_n 1, 1) := by decide +kernel
theorem own_d9_28 : decode prog_1_method_5_code 28 = .ok (.aload_n 0, 1) := by decide +kernel
theorem own_d9_29 : decode prog_1_method_5_code 29 = .ok (.getfield 20, 3) := by decide +kernel
theorem own_d9_32 : decode prog_1_method_5_code 32 = .ok (.invokespecial 24, 3) := by decide +kernel
theorem own_d9_35 : decode prog_1_method_5_code 35 = .ok (.astore_n 3, 1) := by decide +kernel
theorem own_d9_36 : decode prog_1_method_5_code 36 = .ok (.aload_n 3, 1) := by decide +kernel
theorem own_d9_37 : decode prog_1_method_5_code 37 = .ok (.areturn, 1) := by decide +kernel
theorem own_ef9 (m : MethodId) (a1 : Addr) (q3 : Int64) : entryFrame m #[(.ref a1), (.long q3)] 4 = mkF m 0 #[.val (.ref a1), .val (.long q3), .second, .unset] [] := by first | (simp [entryFrame, mkF, argsToLocals, Value.category]; done) | rfl
def own_Q9 (Z : State) (a1 : Addr) (q3 q1 q2 : Int64) (pp : Int32) (h0 : Heap) (n0 : Nat) (v : Option Value) (h : Heap) (L : List Loc) : Prop := ∃ b, v = some (.ref b) ∧ Fr n0 L ∧ n0 ≤ b ∧ Keep h0 h [] ∧ Exa Z h b "com/example/leaselock/leaselock/Answer" ∧ Fld Z h b "com/example/leaselock/leaselock/Answer" "asked" "J" (.long q1) ∧ Fld Z h b "com/example/leaselock/leaselock/Answer" "grant" "Lcom/example/leaselock/leaselock/Grant;" .null ∧ Fld Z h b "com/example/leaselock/leaselock/Answer" "sleepNanos" "J" (.long (if q3 < q2 then q3 else q2)) ∧ Fld Z h b "com/example/leaselock/leaselock/Answer" "endsAtRelease" "Z" (.int pp)
set_option maxRecDepth 65536 in
set_option maxHeartbeats 40000000 in
theorem own_rm9 (l : Launch) (Z : State) (a0 : Array Value) (hw : ∀ d ∈ tables_1, d.before a0 Z = true) (ws : List Jvm.Cond) (a1 : Addr) (q3 q1 q2 : Int64) (pp : Int32) (h0 : Heap) (n0 : Nat) (Z0 : n0 ≤ h0.size) (pE : Exa Z h0 a1 "com/example/leaselock/leaselock/Answer") (pF1 : Fld Z h0 a1 "com/example/leaselock/leaselock/Answer" "asked" "J" (.long q1)) (pF2 : Fld Z h0 a1 "com/example/leaselock/leaselock/Answer" "grant" "Lcom/example/leaselock/leaselock/Grant;" .null) (pF3 : Fld Z h0 a1 "com/example/leaselock/leaselock/Answer" "sleepNanos" "J" (.long q2)) (pF4 : Fld Z h0 a1 "com/example/leaselock/leaselock/Answer" "endsAtRelease" "Z" (.int pp)) (pg : n0 ≤ a1) (pz : pp = 0 ∨ pp = 1) :
    MetFree l (⟨"com/example/leaselock/leaselock/Answer", "sleepingAtMost", "(J)Lcom/example/leaselock/leaselock/Answer;"⟩ : MethodName) (head1 (Jvm.Cond.code (⟨"com/example/leaselock/leaselock/Answer", "sleepingAtMost", "(J)Lcom/example/leaselock/leaselock/Answer;"⟩ : MethodName) prog_1_method_5_code 4 (some (.object "com/example/leaselock/leaselock/Answer")) :: ws) ({ frames := 2, cells := 1, slots := 4, locals := 31 } : Room)) (fun a U => a = #[(.ref a1), (.long q3)] ∧ Z.Warmed39 U.vm ∧ U.heap = h0) (fun _ _ _ _ _ => True) (fun _ U o U' => ∃ v L, o = .returned v ∧ own_Q9 Z a1 q3 q1 q2 pp h0 n0 v U'.heap L ∧ FrameEnd U o U' L ({ frames := 2, cells := 1, slots := 4, locals := 31 } : Room).cells ({ frames := 2, cells := 1, slots := 4, locals := 31 } : Room).slots) := by
  refine MetFree.of_bodySF (plainFor_of_name own_pn0) hisR ?_
  intro p e s m args below meth c s₁ Bd hml0 hP hK
  obtain ⟨rfl, hZ, hh⟩ := hP
  have hx := Bd.exec
  have hby := Bd.bytes
  have hml : c.maxLocals = 4 := hml0
  have hown : s.vm.findClass "com/example/leaselock/leaselock/Answer" = some m.cls := findClass_of_methodNamed Bd.named
  have hnm := (name_of_methodNamed Bd.named Bd.method).1
  have X0 : Stand p l e ({ frames := 2, cells := 1, slots := 4, locals := 31 } : Room) s m #[(.ref a1), (.long q3)] below meth c s₁ [] 0 0 := Stand.of_body Bd
  have e0 : s₁.heap = h0 := by rw [← hh, Bd.state]; rfl
  have N0 := Fr.nil n0
  refine own_nm (st := s₁.setTop (entryFrame m #[(.ref a1), (.long q3)] 4)) fun P fin => ?_
  refine own_fwd (fun t k => castTop (own_ef9 m a1 q3) k) ?_
  show own_R p.tables e below P (s₁.setTop (mkF m 0 #[.val (.ref a1), .val (.long q3), .second, .unset] []))
  have K0 := Keep.refl h0 []
  refine own_fwd (fun t k => XS.aloadN X0.here hx rfl (hb hby own_d9_0) rfl rfl k) ?_
  show own_R p.tables e below P (s₁.setTop (mkF m 1 #[.val (.ref a1), .val (.long q3), .second, .unset] [(.ref a1)]))
  refine own_fwd (fun t k => XS.astoreN X0.here hx rfl (hb hby own_d9_1) rfl rfl (l' := #[.val (.ref a1), .val (.long q3), .second, .val (.ref a1)]) rfl k) ?_
  show own_R p.tables e below P (s₁.setTop (mkF m 2 #[.val (.ref a1), .val (.long q3), .second, .val (.ref a1)] []))
  refine own_fwd (fun t k => XS.aloadN X0.here hx rfl (hb hby own_d9_2) rfl rfl k) ?_
  show own_R p.tables e below P (s₁.setTop (mkF m 3 #[.val (.ref a1), .val (.long q3), .second, .val (.ref a1)] [(.ref a1)]))
  obtain ⟨T20, X20, e20, st20⟩ := getF X0 hx hZ hown (host := "") (Or.inl (hw _ (List.mem_of_getElem? (i := 14) rfl))) Via.refl e0 pF2 (g := (mkF m 3 #[.val (.ref a1), .val (.long q3), .second, .val (.ref a1)] [(.ref a1)])) rfl rfl (hb hby own_d9_3)
  refine own_fwd st20 ?_
  show own_R p.tables e below P (T20.setTop (mkF m 6 #[.val (.ref a1), .val (.long q3), .second, .val (.ref a1)] [.null]))
  refine own_fwd (fun t k => XS.ifnonnullNo X20.here hx rfl (hb hby own_d9_6) rfl k) ?_
  show own_R p.tables e below P (T20.setTop (mkF m 9 #[.val (.ref a1), .val (.long q3), .second, .val (.ref a1)] []))
  refine own_fwd (fun t k => XS.aloadN X20.here hx rfl (hb hby own_d9_9) rfl rfl k) ?_
  show own_R p.tables e below P (T20.setTop (mkF m 10 #[.val (.ref a1), .val (.long q3), .second, .val (.ref a1)] [(.ref a1)]))
  obtain ⟨T21, X21, e21, st21⟩ := getF X20 hx hZ hown (host := "") (Or.inl (hw _ (List.mem_of_getElem? (i := 16) rfl))) Via.refl e20 pF3 (g := (mkF m 10 #[.val (.ref a1), .val (.long q3), .second, .val (.ref a1)] [(.ref a1)])) rfl rfl (hb hby own_d9_10)
  refine own_fwd st21 ?_
  show own_R p.tables e below P (T21.setTop (mkF m 13 #[.val (.ref a1), .val (.long q3), .second, .val (.ref a1)] [(.long q2)]))
  refine own_fwd (fun t k => XS.lloadN X21.here hx rfl (hb hby own_d9_13) rfl k) ?_
  show own_R p.tables e below P (T21.setTop (mkF m 14 #[.val (.ref a1), .val (.long q3), .second, .val (.ref a1)] [(.long q3), (.long q2)]))
  refine own_fwd (fun t k => XS.lcmp X21.here hx rfl (hb hby own_d9_14) rfl k) ?_
  show own_R p.tables e below P (T21.setTop (mkF m 15 #[.val (.ref a1), .val (.long q3), .second, .val (.ref a1)] [(.int (lcmpW q2 q3))]))
  by_cases hc22 : (0 : Int32) < (lcmpW q2 q3)
  · refine own_fwd (fun t k => XS.ifNo X21.here hx rfl (hb hby own_d9_15) rfl ((if0 _ _).trans (tlt hc22).2.2.2) k) ?_
    show own_R p.tables e below P (T21.setTop (mkF m 18 #[.val (.ref a1), .val (.long q3), .second, .val (.ref a1)] []))
    obtain ⟨T23, h23, X23, e23, E23, A23, D23, -, st23⟩ := newO X21 hx hZ hown (hw _ (List.mem_of_getElem? (i := 4) rfl)) (hw _ (List.mem_of_getElem? (i := 5) rfl)) (hw _ (List.mem_of_getElem? (i := 2) rfl)) e21 (g := (mkF m 18 #[.val (.ref a1), .val (.long q3), .second, .val (.ref a1)] [])) rfl (hb hby own_d9_18) (by decide) (by decide)
    obtain ⟨b23, g23⟩ : ∃ z, z = h0.size := ⟨_, rfl⟩
    rw [← g23] at A23 D23 st23
    have ne23_a1 : a1 ≠ b23 := Nat.ne_of_lt (by rw [g23]; exact pE.lt)
    have ge_b23 : n0 ≤ b23 := by rw [g23]; exact Z0
    have sz_b23 : h0.size ≤ b23 := by rw [g23]; exact (Nat.le_refl h0.size)
    have pE_x23 := pE.ext E23
    have pF1_x23 := pF1.ext E23
    have pF2_x23 := pF2.ext E23
    have pF3_x23 := pF3.ext E23
    have pF4_x23 := pF4.ext E23
    have F23_asked : Fld Z h23 b23 "com/example/leaselock/leaselock/Answer" "asked" "J" (.long (0 : Int64)) := D23 (Or.inr (hw _ (List.mem_of_getElem? (i := 13) rfl))) (ty := .long) (by decide)
    have F23_grant : Fld Z h23 b23 "com/example/leaselock/leaselock/Answer" "grant" "Lcom/example/leaselock/leaselock/Grant;" .null := D23 (Or.inr (hw _ (List.mem_of_getElem? (i := 15) rfl))) (ty := (.object "com/example/leaselock/leaselock/Grant")) (by decide)
    have F23_sleepNanos : Fld Z h23 b23 "com/example/leaselock/leaselock/Answer" "sleepNanos" "J" (.long (0 : Int64)) := D23 (Or.inr (hw _ (List.mem_of_getElem? (i := 17) rfl))) (ty := .long) (by decide)
    have F23_endsAtRelease : Fld Z h23 b23 "com/example/leaselock/leaselock/Answer" "endsAtRelease" "Z" (.int (0 : Int32)) := D23 (Or.inr (hw _ (List.mem_of_getElem? (i := 19) rfl))) (ty := .boolean) (by decide)
    have Z23 : n0 ≤ h23.size := Nat.le_trans Z0 E23.1
    have K23 := K0.ext E23
    have Y23 : h0.size ≤ h23.size := Nat.le_trans (Nat.le_refl h0.size) E23.1
    refine own_fwd st23 ?_
    show own_R p.tables e below P (T23.setTop (mkF m 21 #[.val (.ref a1), .val (.long q3), .second, .val (.ref a1)] [(.ref b23)]))
    refine own_fwd (fun t k => XS.dup X23.here hx rfl (hb hby own_d9_21) rfl rfl k) ?_
    show own_R p.tables e below P (T23.setTop (mkF m 22 #[.val (.ref a1), .val (.long q3), .second, .val (.ref a1)] [(.ref b23), (.ref b23)]))
    refine own_fwd (fun t k => XS.aloadN X23.here hx rfl (hb hby own_d9_22) rfl rfl k) ?_
    show own_R p.tables e below P (T23.setTop (mkF m 23 #[.val (.ref a1), .val (.long q3), .second, .val (.ref a1)] [(.ref a1), (.ref b23), (.ref b23)]))
    obtain ⟨T24, X24, e24, st24⟩ := getF X23 hx hZ hown (host := "") (Or.inl (hw _ (List.mem_of_getElem? (i := 12) rfl))) Via.refl e23 pF1_x23 (g := (mkF m 23 #[.val (.ref a1), .val (.long q3), .second, .val (.ref a1)] [(.ref a1), (.ref b23), (.ref b23)])) rfl rfl (hb hby own_d9_23)
    refine own_fwd st24 ?_
    show own_R p.tables e below P (T24.setTop (mkF m 26 #[.val (.ref a1), .val (.long q3), .second, .val (.ref a1)] [(.long q1), (.ref b23), (.ref b23)]))
    refine own_fwd (fun t k => XS.aconstNull X24.here hx rfl (hb hby own_d9_26) k) ?_
    show own_R p.tables e below P (T24.setTop (mkF m 27 #[.val (.ref a1), .val (.long q3), .second, .val (.ref a1)] [.null, (.long q1), (.ref b23), (.ref b23)]))
    refine own_fwd (fun t k => XS.lloadN X24.here hx rfl (hb hby own_d9_27) rfl k) ?_
    show own_R p.tables e below P (T24.setTop (mkF m 28 #[.val (.ref a1), .val (.long q3), .second, .val (.ref a1)] [(.long q3), .null, (.long q1), (.ref b23), (.ref b23)]))
    refine own_fwd (fun t k => XS.aloadN X24.here hx rfl (hb hby own_d9_28) rfl rfl k) ?_
    show own_R p.tables e below P (T24.setTop (mkF m 29 #[.val (.ref a1), .val (.long q3), .second, .val (.ref a1)] [(.ref a1), (.long q3), .null, (.long q1), (.ref b23), (.ref b23)]))
    obtain ⟨T25, X25, e25, st25⟩ := getF X24 hx hZ hown (host := "") (Or.inl (hw _ (List.mem_of_getElem? (i := 18) rfl))) Via.refl e24 pF4_x23 (g := (mkF m 29 #[.val (.ref a1), .val (.long q3), .second, .val (.ref a1)] [(.ref a1), (.long q3), .null, (.long q1), (.ref b23), (.ref b23)])) rfl rfl (hb hby own_d9_29)
    refine own_fwd st25 ?_
    show own_R p.tables e below P (T25.setTop (mkF m 32 #[.val (.ref a1), .val (.long q3), .second, .val (.ref a1)] [(.int pp), (.long q3), .null, (.long q1), (.ref b23), (.ref b23)]))
    obtain ⟨_, _, ⟨T26, L26, k26, n26⟩, -, X26, ⟨Lc26, hQ26, l26, y26, z26⟩, st26⟩ := X25.specialBack hx (y := (⟨"com/example/leaselock/leaselock/Answer", "<init>", "(JLcom/example/leaselock/leaselock/Grant;JZ)V"⟩ : MethodName)) rfl hown (mvT hZ (hw _ (List.mem_of_getElem? (i := 6) rfl))) (mvT hZ (hw _ (List.mem_of_getElem? (i := 7) rfl))) (mvT hZ (hw _ (List.mem_of_getElem? (i := 8) rfl))) (by decide) (backOf (W := 1) (own_rm2 l Z a0 hw [] b23 q1 q3 pp h23 n0 Z23 A23 F23_asked F23_grant F23_sleepNanos F23_endsAtRelease ge_b23 pz) hZ (hw _ (List.mem_of_getElem? (i := 8) rfl)) (hw _ (List.mem_of_getElem? (i := 2) rfl)) (by decide) (by decide)) (g := (mkF m 32 #[.val (.ref a1), .val (.long q3), .second, .val (.ref a1)] [(.int pp), (.long q3), .null, (.long q1), (.ref b23), (.ref b23)])) rfl (by rw [hml]; rfl) (Steps.refl _) (a := b23) (argsL := [(.long q1), .null, (.long q3), (.int pp)]) (rest := [(.ref b23)]) (lenOf own_pd0 rfl) rfl (by show 2 * 0 + _ ≤ _; exact Nat.le_of_eq rfl) (hb hby own_d9_32) (fun _ _ => ⟨rfl, e25, (by decide : 1 + 0 ≤ _), (by decide : 4 + 0 ≤ _)⟩)
    dsimp only [Pt.U, Pt.locs, Pt.cells, Pt.slots] at X26 l26 y26 z26 st26 hQ26
    subst l26 y26 z26
    obtain ⟨h26, e26⟩ : ∃ z, T26.heap = z := ⟨_, rfl⟩
    rw [e26] at hQ26
    obtain ⟨hq26, N26q, K26, E26_, G26_, H26_, I26_, J26_⟩ := hQ26
    subst hq26
    have N26 := Fr.app N0 N26q
    have pE_x26 := pE_x23.keep K26
    have pF1_x26 := pF1_x23.keep K26 (ninS ne23_a1 nin0)
    have pF2_x26 := pF2_x23.keep K26 (ninS ne23_a1 nin0)
    have pF3_x26 := pF3_x23.keep K26 (ninS ne23_a1 nin0)
    have pF4_x26 := pF4_x23.keep K26 (ninS ne23_a1 nin0)
    have A23_x26 := A23.keep K26
    have Z26 : n0 ≤ h26.size := Nat.le_trans Z23 K26.1
    have KK26 := K23.trans K26 (allS (Or.inr sz_b23) all0)
    have Y26 : h0.size ≤ h26.size := Nat.le_trans Y23 K26.1
    refine own_trn st26 ?_
    show own_R p.tables e below P (T26.setTop (mkF m 35 #[.val (.ref a1), .val (.long q3), .second, .val (.ref a1)] [(.ref b23)]))
    refine own_fwd (fun t k => XS.astoreN X26.here hx rfl (hb hby own_d9_35) rfl rfl (l' := #[.val (.ref a1), .val (.long q3), .second, .val (.ref b23)]) rfl k) ?_
    show own_R p.tables e below P (T26.setTop (mkF m 36 #[.val (.ref a1), .val (.long q3), .second, .val (.ref b23)] []))
    refine own_fwd (fun t k => XS.aloadN X26.here hx rfl (hb hby own_d9_36) rfl rfl k) ?_
    show own_R p.tables e below P (T26.setTop (mkF m 37 #[.val (.ref a1), .val (.long q3), .second, .val (.ref b23)] [(.ref b23)]))
    obtain ⟨fs27, hr27, hrun27, hended27, hW27, hsame27⟩ := X26.leave (v := some (.ref b23)) (fun h => by rw [Bd.returns] at h; cases h)
    refine ⟨_, _, X26.areturnOut hx rfl Bd.returns rfl (hb hby own_d9_37) hr27, fin _ _ ⟨hrun27, hended27, _, _, rfl, ?_, ⟨_, rfl⟩, hW27, hsame27.mono (by decide) (by decide)⟩⟩
    show own_Q9 Z a1 q3 q1 q2 pp h0 n0 _ T26.heap _
    rw [e26]
    exact ⟨b23, rfl, N26, ge_b23, KK26, E26_, G26_, H26_, (by rw [if_pos ((lw_gt _ _).mp hc22)]; exact I26_), J26_⟩
  · refine own_fwd (fun t k => XS.ifYes X21.here hx rfl (pc0 := 15) (pc' := 36) rfl (hb hby own_d9_15) rfl ((if0 _ _).trans (flt hc22).2.2.2) (by decide) (by decide) k) ?_
    show own_R p.tables e below P (T21.setTop (mkF m 36 #[.val (.ref a1), .val (.long q3), .second, .val (.ref a1)] []))
    refine own_fwd (fun t k => XS.aloadN X21.here hx rfl (hb hby own_d9_36) rfl rfl k) ?_
    show own_R p.tables e below P (T21.setTop (mkF m 37 #[.val (.ref a1), .val (.long q3), .second, .val (.ref a1)] [(.ref a1)]))
    obtain ⟨fs28, hr28, hrun28, hended28, hW28, hsame28⟩ := X21.leave (v := some (.ref a1)) (fun h => by rw [Bd.returns] at h; cases h)
    refine ⟨_, _, X21.areturnOut hx rfl Bd.returns rfl (hb hby own_d9_37) hr28, fin _ _ ⟨hrun28, hended28, _, _, rfl, ?_, ⟨_, rfl⟩, hW28, hsame28.mono (by decide) (by decide)⟩⟩
    show own_Q9 Z a1 q3 q1 q2 pp h0 n0 _ T21.heap _
    rw [e21]
    exact ⟨a1, rfl, N0, pg, K0, pE, pF1, pF2, (by rw [if_neg (fun q => hc22 ((lw_gt _ _).mpr q))]; exact pF3), pF4⟩
theorem own_pn1 : plainName "com/example/leaselock/leaselock/AnswerRetryPinLaw" = true := by first | (simp [plainName, overriddenIn]; done) | decide +kernel
theorem own_pd1 : parseMethodDescriptor "(JJ)Lcom/example/leaselock/leaselock/Answer;" = some ⟨[.long, .long], some (.object "com/example/leaselock/leaselock/Answer")⟩ := by decide +kernel
theorem own_pd2 : parseMethodDescriptor "()J" = some ⟨[], some .long⟩ := by decide +kernel
theorem own_pd3 : parseMethodDescriptor "()Z" = some ⟨[], some .boolean⟩ := by decide +kernel
theorem own_pd4 : parseMethodDescriptor "()Lcom/example/leaselock/leaselock/Grant;" = some ⟨[], some (.object "com/example/leaselock/leaselock/Grant")⟩ := by decide +kernel
theorem own_pd5 : parseMethodDescriptor "(J)Lcom/example/leaselock/leaselock/Answer;" = some ⟨[.long], some (.object "com/example/leaselock/leaselock/Answer")⟩ := by decide +kernel
theorem own_eflaw (m : MethodId) (p0 : Int64) (p1 : Int64) (p2 : Int64) : entryFrame m #[(.long p0), (.long p1), (.long p2)] maxLocals = mkF m 0 #[.val (.long p0), .second, .val (.long p1), .second, .val (.long p2), .second, .unset, .unset, .unset, .unset, .unset] [] := by first | (simp [entryFrame, mkF, argsToLocals, Value.category, maxLocals]; done) | rfl
def own_Qlaw (Z : State) (p0 p1 p2 : Int64) (h0 : Heap) (n0 : Nat) (v : Option Value) (h : Heap) (L : List Loc) : Prop := v = some (.int 1) ∧ Fr n0 L
set_option maxRecDepth 65536 in
set_option maxHeartbeats 40000000 in
theorem own_rmlaw (l : Launch) (Z : State) (a0 : Array Value) (hw : ∀ d ∈ tables_1, d.before a0 Z = true) (ws : List Jvm.Cond) (p0 p1 p2 : Int64) (h0 : Heap) (n0 : Nat) (Z0 : n0 ≤ h0.size) :
    MetFree l x (head1 (Jvm.Cond.code x code maxLocals ret :: ws) room_1) (fun a U => a = #[(.long p0), (.long p1), (.long p2)] ∧ Z.Warmed39 U.vm ∧ U.heap = h0) (fun _ _ _ _ _ => True) (fun _ U o U' => ∃ v L, o = .returned v ∧ own_Qlaw Z p0 p1 p2 h0 n0 v U'.heap L ∧ FrameEnd U o U' L 16 128) := by
  refine MetFree.of_bodySF (plainFor_of_name own_pn1) hisR ?_
  intro p e s m args below meth c s₁ Bd hml0 hP hK
  obtain ⟨rfl, hZ, hh⟩ := hP
  have hx := Bd.exec
  have hby := Bd.bytes
  have hml : c.maxLocals = 11 := hml0
  have hown : s.vm.findClass "com/example/leaselock/leaselock/AnswerRetryPinLaw" = some m.cls := findClass_of_methodNamed Bd.named
  have hnm := (name_of_methodNamed Bd.named Bd.method).1
  have X0 : Stand p l e room_1 s m #[(.long p0), (.long p1), (.long p2)] below meth c s₁ [] 0 0 := Stand.of_body Bd
  have e0 : s₁.heap = h0 := by rw [← hh, Bd.state]; rfl
  have N0 := Fr.nil n0
  refine own_nm (st := s₁.setTop (entryFrame m #[(.long p0), (.long p1), (.long p2)] maxLocals)) fun P fin => ?_
  refine own_fwd (fun t k => castTop (own_eflaw m p0 p1 p2) k) ?_
  show own_R p.tables e below P (s₁.setTop (mkF m 0 #[.val (.long p0), .second, .val (.long p1), .second, .val (.long p2), .second, .unset, .unset, .unset, .unset, .unset] []))
  refine own_fwd (fun t k => XS.lloadN X0.here hx rfl (hb hby at_0) rfl k) ?_
  show own_R p.tables e below P (s₁.setTop (mkF m 1 #[.val (.long p0), .second, .val (.long p1), .second, .val (.long p2), .second, .unset, .unset, .unset, .unset, .unset] [(.long p0)]))
  refine own_fwd (fun t k => XS.lloadN X0.here hx rfl (hb hby at_1) rfl k) ?_
  show own_R p.tables e below P (s₁.setTop (mkF m 2 #[.val (.long p0), .second, .val (.long p1), .second, .val (.long p2), .second, .unset, .unset, .unset, .unset, .unset] [(.long p1), (.long p0)]))
  obtain ⟨_, _, ⟨T29, L29, k29, n29⟩, -, X29, ⟨Lc29, hQ29, l29, y29, z29⟩, st29⟩ := Jvm.LawKit.callS X0 hx (y := (⟨"com/example/leaselock/leaselock/Answer", "retry", "(JJ)Lcom/example/leaselock/leaselock/Answer;"⟩ : MethodName)) hown (mvT hZ (hw _ (List.mem_of_getElem? (i := 0) rfl))) (mvT hZ (hw _ (List.mem_of_getElem? (i := 1) rfl))) (mvT hZ (hw _ (List.mem_of_getElem? (i := 2) rfl))) (mvT hZ (hw _ (List.mem_of_getElem? (i := 3) rfl))) (by decide) (backOf (W := 0) (own_rm1 l Z a0 hw [] p0 p1 h0 n0 Z0 ) hZ (hw _ (List.mem_of_getElem? (i := 3) rfl)) (hw _ (List.mem_of_getElem? (i := 2) rfl)) (by decide) (by decide)) (g := (mkF m 2 #[.val (.long p0), .second, .val (.long p1), .second, .val (.long p2), .second, .unset, .unset, .unset, .unset, .unset] [(.long p1), (.long p0)])) rfl (by rw [hml]; rfl) (argsL := [(.long p0), (.long p1)]) (rest := []) (lenOf own_pd1 rfl) rfl (by show 2 * 0 + _ ≤ _; exact Nat.le_of_eq rfl) (hb hby at_2) (fun _ _ => ⟨rfl, e0, (by decide : 0 + 1 ≤ _), (by decide : 0 + 4 ≤ _)⟩)
  dsimp only [Pt.U, Pt.locs, Pt.cells, Pt.slots] at X29 l29 y29 z29 st29 hQ29
  subst l29 y29 z29
  obtain ⟨h29, e29⟩ : ∃ z, T29.heap = z := ⟨_, rfl⟩
  rw [e29] at hQ29
  obtain ⟨o29, hq29, N29q, ge_o29, K29, E29_, G29_, H29_, I29_, J29_⟩ := hQ29
  subst hq29
  have N29 := Fr.app N0 N29q
  have Z29 : n0 ≤ h29.size := Nat.le_trans Z0 K29.1
  have Y29 : h0.size ≤ h29.size := Nat.le_trans (Nat.le_refl h0.size) K29.1
  refine own_fwd st29 ?_
  show own_R p.tables e below P (T29.setTop (mkF m 5 #[.val (.long p0), .second, .val (.long p1), .second, .val (.long p2), .second, .unset, .unset, .unset, .unset, .unset] [(.ref o29)]))
  refine own_fwd (fun t k => XS.astore X29.here hx rfl (hb hby at_5) rfl rfl (l' := #[.val (.long p0), .second, .val (.long p1), .second, .val (.long p2), .second, .val (.ref o29), .unset, .unset, .unset, .unset]) rfl k) ?_
  show own_R p.tables e below P (T29.setTop (mkF m 7 #[.val (.long p0), .second, .val (.long p1), .second, .val (.long p2), .second, .val (.ref o29), .unset, .unset, .unset, .unset] []))
  refine own_fwd (fun t k => XS.aload X29.here hx rfl (hb hby at_7) rfl rfl k) ?_
  show own_R p.tables e below P (T29.setTop (mkF m 9 #[.val (.long p0), .second, .val (.long p1), .second, .val (.long p2), .second, .val (.ref o29), .unset, .unset, .unset, .unset] [(.ref o29)]))
  obtain ⟨cq30, kq30, q30a, q30b, q30c⟩ := isOf hZ e29 E29_
  obtain ⟨_, _, ⟨T30, L30, k30, n30⟩, -, X30, ⟨Lc30, hQ30, l30, y30, z30⟩, st30⟩ := X29.virtualBack hx (y := (⟨"com/example/leaselock/leaselock/Answer", "asked", "()J"⟩ : MethodName)) (z := (⟨"com/example/leaselock/leaselock/Answer", "asked", "()J"⟩ : MethodName)) hown (mvT hZ (hw _ (List.mem_of_getElem? (i := 20) rfl))) (mvT hZ (hw _ (List.mem_of_getElem? (i := 21) rfl))) (notFace_of_selects (args := #[]) (mvT hZ (hw _ (List.mem_of_getElem? (i := 23) rfl)))) (mvT hZ (hw _ (List.mem_of_getElem? (i := 23) rfl))) (mvT hZ (hw _ (List.mem_of_getElem? (i := 22) rfl))) (by decide) (backOf (W := 0) (own_rm4 l Z a0 hw [] o29 p0 h29 n0 Z29 G29_ ) hZ (hw _ (List.mem_of_getElem? (i := 24) rfl)) (hw _ (List.mem_of_getElem? (i := 2) rfl)) (by decide) (by decide)) q30a q30c (g := (mkF m 9 #[.val (.long p0), .second, .val (.long p1), .second, .val (.long p2), .second, .val (.ref o29), .unset, .unset, .unset, .unset] [(.ref o29)])) rfl (by rw [hml]; rfl) (Steps.refl _) (argsL := []) (rest := []) (lenOf own_pd2 rfl) rfl (by show 2 * 0 + _ ≤ _; exact Nat.le_of_eq rfl) (hb hby at_9) (fun _ _ => ⟨rfl, e29, (by decide : 1 + 0 ≤ _), (by decide : 4 + 0 ≤ _)⟩)
  dsimp only [Pt.U, Pt.locs, Pt.cells, Pt.slots] at X30 l30 y30 z30 st30 hQ30
  subst l30 y30 z30
  obtain ⟨h30, e30⟩ : ∃ z, T30.heap = z := ⟨_, rfl⟩
  rw [e30] at hQ30
  obtain ⟨hq30, N30q, q30⟩ := hQ30
  rw [q30] at e30
  subst hq30
  have N30 := Fr.app N29 N30q
  refine own_trn st30 ?_
  show own_R p.tables e below P (T30.setTop (mkF m 12 #[.val (.long p0), .second, .val (.long p1), .second, .val (.long p2), .second, .val (.ref o29), .unset, .unset, .unset, .unset] [(.long p0)]))
  refine own_fwd (fun t k => XS.lloadN X30.here hx rfl (hb hby at_12) rfl k) ?_
  show own_R p.tables e below P (T30.setTop (mkF m 13 #[.val (.long p0), .second, .val (.long p1), .second, .val (.long p2), .second, .val (.ref o29), .unset, .unset, .unset, .unset] [(.long p0), (.long p0)]))
  refine own_fwd (fun t k => XS.lcmp X30.here hx rfl (hb hby at_13) rfl k) ?_
  show own_R p.tables e below P (T30.setTop (mkF m 14 #[.val (.long p0), .second, .val (.long p1), .second, .val (.long p2), .second, .val (.ref o29), .unset, .unset, .unset, .unset] [(.int (lcmpW p0 p0))]))
  have hc31 : (lcmpW p0 p0) = (0 : Int32) := (lw_eq _ _).mpr rfl
  refine own_fwd (fun t k => XS.ifNo X30.here hx rfl (hb hby at_14) rfl ((if0 _ _).trans (teq hc31).2) k) ?_
  show own_R p.tables e below P (T30.setTop (mkF m 17 #[.val (.long p0), .second, .val (.long p1), .second, .val (.long p2), .second, .val (.ref o29), .unset, .unset, .unset, .unset] []))
  refine own_fwd (fun t k => XS.iconst X30.here hx rfl (hb hby at_17) k) ?_
  show own_R p.tables e below P (T30.setTop (mkF m 18 #[.val (.long p0), .second, .val (.long p1), .second, .val (.long p2), .second, .val (.ref o29), .unset, .unset, .unset, .unset] [(.int (1 : Int32))]))
  refine own_fwd (fun t k => XS.goto X30.here hx rfl (pc0 := 18) (pc' := 22) rfl (hb hby at_18) (by decide) (by decide) k) ?_
  show own_R p.tables e below P (T30.setTop (mkF m 22 #[.val (.long p0), .second, .val (.long p1), .second, .val (.long p2), .second, .val (.ref o29), .unset, .unset, .unset, .unset] [(.int (1 : Int32))]))
  refine own_fwd (fun t k => XS.istore X30.here hx rfl (hb hby at_22) rfl (l' := #[.val (.long p0), .second, .val (.long p1), .second, .val (.long p2), .second, .val (.ref o29), .val (.int (1 : Int32)), .unset, .unset, .unset]) rfl k) ?_
  show own_R p.tables e below P (T30.setTop (mkF m 24 #[.val (.long p0), .second, .val (.long p1), .second, .val (.long p2), .second, .val (.ref o29), .val (.int (1 : Int32)), .unset, .unset, .unset] []))
  refine own_fwd (fun t k => XS.iload X30.here hx rfl (hb hby at_24) rfl k) ?_
  show own_R p.tables e below P (T30.setTop (mkF m 26 #[.val (.long p0), .second, .val (.long p1), .second, .val (.long p2), .second, .val (.ref o29), .val (.int (1 : Int32)), .unset, .unset, .unset] [(.int (1 : Int32))]))
  have hc32 : ¬ ((1 : Int32) = (0 : Int32)) := (by decide)
  refine own_fwd (fun t k => XS.ifNo X30.here hx rfl (hb hby at_26) rfl ((if0 _ _).trans (feq hc32).1) k) ?_
  show own_R p.tables e below P (T30.setTop (mkF m 29 #[.val (.long p0), .second, .val (.long p1), .second, .val (.long p2), .second, .val (.ref o29), .val (.int (1 : Int32)), .unset, .unset, .unset] []))
  refine own_fwd (fun t k => XS.aload X30.here hx rfl (hb hby at_29) rfl rfl k) ?_
  show own_R p.tables e below P (T30.setTop (mkF m 31 #[.val (.long p0), .second, .val (.long p1), .second, .val (.long p2), .second, .val (.ref o29), .val (.int (1 : Int32)), .unset, .unset, .unset] [(.ref o29)]))
  obtain ⟨cq33, kq33, q33a, q33b, q33c⟩ := isOf hZ e30 E29_
  obtain ⟨_, _, ⟨T33, L33, k33, n33⟩, -, X33, ⟨Lc33, hQ33, l33, y33, z33⟩, st33⟩ := X30.virtualBack hx (y := (⟨"com/example/leaselock/leaselock/Answer", "granted", "()Z"⟩ : MethodName)) (z := (⟨"com/example/leaselock/leaselock/Answer", "granted", "()Z"⟩ : MethodName)) hown (mvT hZ (hw _ (List.mem_of_getElem? (i := 25) rfl))) (mvT hZ (hw _ (List.mem_of_getElem? (i := 26) rfl))) (notFace_of_selects (args := #[]) (mvT hZ (hw _ (List.mem_of_getElem? (i := 28) rfl)))) (mvT hZ (hw _ (List.mem_of_getElem? (i := 28) rfl))) (mvT hZ (hw _ (List.mem_of_getElem? (i := 27) rfl))) (by decide) (backOf (W := 0) (own_rm5 l Z a0 hw [] o29  h29 n0 Z29 H29_ ) hZ (hw _ (List.mem_of_getElem? (i := 29) rfl)) (hw _ (List.mem_of_getElem? (i := 2) rfl)) (by decide) (by decide)) q33a q33c (g := (mkF m 31 #[.val (.long p0), .second, .val (.long p1), .second, .val (.long p2), .second, .val (.ref o29), .val (.int (1 : Int32)), .unset, .unset, .unset] [(.ref o29)])) rfl (by rw [hml]; rfl) (Steps.refl _) (argsL := []) (rest := []) (lenOf own_pd3 rfl) rfl (by show 2 * 0 + _ ≤ _; exact Nat.le_of_eq rfl) (hb hby at_31) (fun _ _ => ⟨rfl, e30, (by decide : 1 + 0 ≤ _), (by decide : 4 + 0 ≤ _)⟩)
  dsimp only [Pt.U, Pt.locs, Pt.cells, Pt.slots] at X33 l33 y33 z33 st33 hQ33
  subst l33 y33 z33
  obtain ⟨h33, e33⟩ : ∃ z, T33.heap = z := ⟨_, rfl⟩
  rw [e33] at hQ33
  obtain ⟨hq33, N33q, q33⟩ := hQ33
  rw [q33] at e33
  subst hq33
  have N33 := Fr.app N30 N33q
  refine own_trn st33 ?_
  show own_R p.tables e below P (T33.setTop (mkF m 34 #[.val (.long p0), .second, .val (.long p1), .second, .val (.long p2), .second, .val (.ref o29), .val (.int (1 : Int32)), .unset, .unset, .unset] [(.int (0 : Int32))]))
  have hc34 : (0 : Int32) = (0 : Int32) := (by decide)
  refine own_fwd (fun t k => XS.ifNo X33.here hx rfl (hb hby at_34) rfl ((if0 _ _).trans (teq hc34).2) k) ?_
  show own_R p.tables e below P (T33.setTop (mkF m 37 #[.val (.long p0), .second, .val (.long p1), .second, .val (.long p2), .second, .val (.ref o29), .val (.int (1 : Int32)), .unset, .unset, .unset] []))
  refine own_fwd (fun t k => XS.iconst X33.here hx rfl (hb hby at_37) k) ?_
  show own_R p.tables e below P (T33.setTop (mkF m 38 #[.val (.long p0), .second, .val (.long p1), .second, .val (.long p2), .second, .val (.ref o29), .val (.int (1 : Int32)), .unset, .unset, .unset] [(.int (1 : Int32))]))
  refine own_fwd (fun t k => XS.goto X33.here hx rfl (pc0 := 38) (pc' := 42) rfl (hb hby at_38) (by decide) (by decide) k) ?_
  show own_R p.tables e below P (T33.setTop (mkF m 42 #[.val (.long p0), .second, .val (.long p1), .second, .val (.long p2), .second, .val (.ref o29), .val (.int (1 : Int32)), .unset, .unset, .unset] [(.int (1 : Int32))]))
  refine own_fwd (fun t k => XS.istore X33.here hx rfl (hb hby at_42) rfl (l' := #[.val (.long p0), .second, .val (.long p1), .second, .val (.long p2), .second, .val (.ref o29), .val (.int (1 : Int32)), .unset, .unset, .unset]) rfl k) ?_
  show own_R p.tables e below P (T33.setTop (mkF m 44 #[.val (.long p0), .second, .val (.long p1), .second, .val (.long p2), .second, .val (.ref o29), .val (.int (1 : Int32)), .unset, .unset, .unset] []))
  refine own_fwd (fun t k => XS.iload X33.here hx rfl (hb hby at_44) rfl k) ?_
  show own_R p.tables e below P (T33.setTop (mkF m 46 #[.val (.long p0), .second, .val (.long p1), .second, .val (.long p2), .second, .val (.ref o29), .val (.int (1 : Int32)), .unset, .unset, .unset] [(.int (1 : Int32))]))
  have hc35 : ¬ ((1 : Int32) = (0 : Int32)) := (by decide)
  refine own_fwd (fun t k => XS.ifNo X33.here hx rfl (hb hby at_46) rfl ((if0 _ _).trans (feq hc35).1) k) ?_
  show own_R p.tables e below P (T33.setTop (mkF m 49 #[.val (.long p0), .second, .val (.long p1), .second, .val (.long p2), .second, .val (.ref o29), .val (.int (1 : Int32)), .unset, .unset, .unset] []))
  refine own_fwd (fun t k => XS.aload X33.here hx rfl (hb hby at_49) rfl rfl k) ?_
  show own_R p.tables e below P (T33.setTop (mkF m 51 #[.val (.long p0), .second, .val (.long p1), .second, .val (.long p2), .second, .val (.ref o29), .val (.int (1 : Int32)), .unset, .unset, .unset] [(.ref o29)]))
  obtain ⟨cq36, kq36, q36a, q36b, q36c⟩ := isOf hZ e33 E29_
  obtain ⟨_, _, ⟨T36, L36, k36, n36⟩, -, X36, ⟨Lc36, hQ36, l36, y36, z36⟩, st36⟩ := X33.virtualBack hx (y := (⟨"com/example/leaselock/leaselock/Answer", "grant", "()Lcom/example/leaselock/leaselock/Grant;"⟩ : MethodName)) (z := (⟨"com/example/leaselock/leaselock/Answer", "grant", "()Lcom/example/leaselock/leaselock/Grant;"⟩ : MethodName)) hown (mvT hZ (hw _ (List.mem_of_getElem? (i := 30) rfl))) (mvT hZ (hw _ (List.mem_of_getElem? (i := 31) rfl))) (notFace_of_selects (args := #[]) (mvT hZ (hw _ (List.mem_of_getElem? (i := 33) rfl)))) (mvT hZ (hw _ (List.mem_of_getElem? (i := 33) rfl))) (mvT hZ (hw _ (List.mem_of_getElem? (i := 32) rfl))) (by decide) (backOf (W := 0) (own_rm6 l Z a0 hw [] o29  h29 n0 Z29 H29_ ) hZ (hw _ (List.mem_of_getElem? (i := 34) rfl)) (hw _ (List.mem_of_getElem? (i := 2) rfl)) (by decide) (by decide)) q36a q36c (g := (mkF m 51 #[.val (.long p0), .second, .val (.long p1), .second, .val (.long p2), .second, .val (.ref o29), .val (.int (1 : Int32)), .unset, .unset, .unset] [(.ref o29)])) rfl (by rw [hml]; rfl) (Steps.refl _) (argsL := []) (rest := []) (lenOf own_pd4 rfl) rfl (by show 2 * 0 + _ ≤ _; exact Nat.le_of_eq rfl) (hb hby at_51) (fun _ _ => ⟨rfl, e33, (by decide : 1 + 0 ≤ _), (by decide : 4 + 0 ≤ _)⟩)
  dsimp only [Pt.U, Pt.locs, Pt.cells, Pt.slots] at X36 l36 y36 z36 st36 hQ36
  subst l36 y36 z36
  obtain ⟨h36, e36⟩ : ∃ z, T36.heap = z := ⟨_, rfl⟩
  rw [e36] at hQ36
  obtain ⟨hq36, N36q, q36⟩ := hQ36
  rw [q36] at e36
  subst hq36
  have N36 := Fr.app N33 N36q
  refine own_trn st36 ?_
  show own_R p.tables e below P (T36.setTop (mkF m 54 #[.val (.long p0), .second, .val (.long p1), .second, .val (.long p2), .second, .val (.ref o29), .val (.int (1 : Int32)), .unset, .unset, .unset] [.null]))
  refine own_fwd (fun t k => XS.ifnonnullNo X36.here hx rfl (hb hby at_54) rfl k) ?_
  show own_R p.tables e below P (T36.setTop (mkF m 57 #[.val (.long p0), .second, .val (.long p1), .second, .val (.long p2), .second, .val (.ref o29), .val (.int (1 : Int32)), .unset, .unset, .unset] []))
  refine own_fwd (fun t k => XS.iconst X36.here hx rfl (hb hby at_57) k) ?_
  show own_R p.tables e below P (T36.setTop (mkF m 58 #[.val (.long p0), .second, .val (.long p1), .second, .val (.long p2), .second, .val (.ref o29), .val (.int (1 : Int32)), .unset, .unset, .unset] [(.int (1 : Int32))]))
  refine own_fwd (fun t k => XS.goto X36.here hx rfl (pc0 := 58) (pc' := 62) rfl (hb hby at_58) (by decide) (by decide) k) ?_
  show own_R p.tables e below P (T36.setTop (mkF m 62 #[.val (.long p0), .second, .val (.long p1), .second, .val (.long p2), .second, .val (.ref o29), .val (.int (1 : Int32)), .unset, .unset, .unset] [(.int (1 : Int32))]))
  refine own_fwd (fun t k => XS.istore X36.here hx rfl (hb hby at_62) rfl (l' := #[.val (.long p0), .second, .val (.long p1), .second, .val (.long p2), .second, .val (.ref o29), .val (.int (1 : Int32)), .unset, .unset, .unset]) rfl k) ?_
  show own_R p.tables e below P (T36.setTop (mkF m 64 #[.val (.long p0), .second, .val (.long p1), .second, .val (.long p2), .second, .val (.ref o29), .val (.int (1 : Int32)), .unset, .unset, .unset] []))
  refine own_fwd (fun t k => XS.iload X36.here hx rfl (hb hby at_64) rfl k) ?_
  show own_R p.tables e below P (T36.setTop (mkF m 66 #[.val (.long p0), .second, .val (.long p1), .second, .val (.long p2), .second, .val (.ref o29), .val (.int (1 : Int32)), .unset, .unset, .unset] [(.int (1 : Int32))]))
  have hc37 : ¬ ((1 : Int32) = (0 : Int32)) := (by decide)
  refine own_fwd (fun t k => XS.ifNo X36.here hx rfl (hb hby at_66) rfl ((if0 _ _).trans (feq hc37).1) k) ?_
  show own_R p.tables e below P (T36.setTop (mkF m 69 #[.val (.long p0), .second, .val (.long p1), .second, .val (.long p2), .second, .val (.ref o29), .val (.int (1 : Int32)), .unset, .unset, .unset] []))
  refine own_fwd (fun t k => XS.aload X36.here hx rfl (hb hby at_69) rfl rfl k) ?_
  show own_R p.tables e below P (T36.setTop (mkF m 71 #[.val (.long p0), .second, .val (.long p1), .second, .val (.long p2), .second, .val (.ref o29), .val (.int (1 : Int32)), .unset, .unset, .unset] [(.ref o29)]))
  obtain ⟨cq38, kq38, q38a, q38b, q38c⟩ := isOf hZ e36 E29_
  obtain ⟨_, _, ⟨T38, L38, k38, n38⟩, -, X38, ⟨Lc38, hQ38, l38, y38, z38⟩, st38⟩ := X36.virtualBack hx (y := (⟨"com/example/leaselock/leaselock/Answer", "sleepNanos", "()J"⟩ : MethodName)) (z := (⟨"com/example/leaselock/leaselock/Answer", "sleepNanos", "()J"⟩ : MethodName)) hown (mvT hZ (hw _ (List.mem_of_getElem? (i := 35) rfl))) (mvT hZ (hw _ (List.mem_of_getElem? (i := 36) rfl))) (notFace_of_selects (args := #[]) (mvT hZ (hw _ (List.mem_of_getElem? (i := 38) rfl)))) (mvT hZ (hw _ (List.mem_of_getElem? (i := 38) rfl))) (mvT hZ (hw _ (List.mem_of_getElem? (i := 37) rfl))) (by decide) (backOf (W := 0) (own_rm7 l Z a0 hw [] o29 p1 h29 n0 Z29 I29_ ) hZ (hw _ (List.mem_of_getElem? (i := 39) rfl)) (hw _ (List.mem_of_getElem? (i := 2) rfl)) (by decide) (by decide)) q38a q38c (g := (mkF m 71 #[.val (.long p0), .second, .val (.long p1), .second, .val (.long p2), .second, .val (.ref o29), .val (.int (1 : Int32)), .unset, .unset, .unset] [(.ref o29)])) rfl (by rw [hml]; rfl) (Steps.refl _) (argsL := []) (rest := []) (lenOf own_pd2 rfl) rfl (by show 2 * 0 + _ ≤ _; exact Nat.le_of_eq rfl) (hb hby at_71) (fun _ _ => ⟨rfl, e36, (by decide : 1 + 0 ≤ _), (by decide : 4 + 0 ≤ _)⟩)
  dsimp only [Pt.U, Pt.locs, Pt.cells, Pt.slots] at X38 l38 y38 z38 st38 hQ38
  subst l38 y38 z38
  obtain ⟨h38, e38⟩ : ∃ z, T38.heap = z := ⟨_, rfl⟩
  rw [e38] at hQ38
  obtain ⟨hq38, N38q, q38⟩ := hQ38
  rw [q38] at e38
  subst hq38
  have N38 := Fr.app N36 N38q
  refine own_trn st38 ?_
  show own_R p.tables e below P (T38.setTop (mkF m 74 #[.val (.long p0), .second, .val (.long p1), .second, .val (.long p2), .second, .val (.ref o29), .val (.int (1 : Int32)), .unset, .unset, .unset] [(.long p1)]))
  refine own_fwd (fun t k => XS.lloadN X38.here hx rfl (hb hby at_74) rfl k) ?_
  show own_R p.tables e below P (T38.setTop (mkF m 75 #[.val (.long p0), .second, .val (.long p1), .second, .val (.long p2), .second, .val (.ref o29), .val (.int (1 : Int32)), .unset, .unset, .unset] [(.long p1), (.long p1)]))
  refine own_fwd (fun t k => XS.lcmp X38.here hx rfl (hb hby at_75) rfl k) ?_
  show own_R p.tables e below P (T38.setTop (mkF m 76 #[.val (.long p0), .second, .val (.long p1), .second, .val (.long p2), .second, .val (.ref o29), .val (.int (1 : Int32)), .unset, .unset, .unset] [(.int (lcmpW p1 p1))]))
  have hc39 : (lcmpW p1 p1) = (0 : Int32) := (lw_eq _ _).mpr rfl
  refine own_fwd (fun t k => XS.ifNo X38.here hx rfl (hb hby at_76) rfl ((if0 _ _).trans (teq hc39).2) k) ?_
  show own_R p.tables e below P (T38.setTop (mkF m 79 #[.val (.long p0), .second, .val (.long p1), .second, .val (.long p2), .second, .val (.ref o29), .val (.int (1 : Int32)), .unset, .unset, .unset] []))
  refine own_fwd (fun t k => XS.iconst X38.here hx rfl (hb hby at_79) k) ?_
  show own_R p.tables e below P (T38.setTop (mkF m 80 #[.val (.long p0), .second, .val (.long p1), .second, .val (.long p2), .second, .val (.ref o29), .val (.int (1 : Int32)), .unset, .unset, .unset] [(.int (1 : Int32))]))
  refine own_fwd (fun t k => XS.goto X38.here hx rfl (pc0 := 80) (pc' := 84) rfl (hb hby at_80) (by decide) (by decide) k) ?_
  show own_R p.tables e below P (T38.setTop (mkF m 84 #[.val (.long p0), .second, .val (.long p1), .second, .val (.long p2), .second, .val (.ref o29), .val (.int (1 : Int32)), .unset, .unset, .unset] [(.int (1 : Int32))]))
  refine own_fwd (fun t k => XS.istore X38.here hx rfl (hb hby at_84) rfl (l' := #[.val (.long p0), .second, .val (.long p1), .second, .val (.long p2), .second, .val (.ref o29), .val (.int (1 : Int32)), .unset, .unset, .unset]) rfl k) ?_
  show own_R p.tables e below P (T38.setTop (mkF m 86 #[.val (.long p0), .second, .val (.long p1), .second, .val (.long p2), .second, .val (.ref o29), .val (.int (1 : Int32)), .unset, .unset, .unset] []))
  refine own_fwd (fun t k => XS.iload X38.here hx rfl (hb hby at_86) rfl k) ?_
  show own_R p.tables e below P (T38.setTop (mkF m 88 #[.val (.long p0), .second, .val (.long p1), .second, .val (.long p2), .second, .val (.ref o29), .val (.int (1 : Int32)), .unset, .unset, .unset] [(.int (1 : Int32))]))
  have hc40 : ¬ ((1 : Int32) = (0 : Int32)) := (by decide)
  refine own_fwd (fun t k => XS.ifNo X38.here hx rfl (hb hby at_88) rfl ((if0 _ _).trans (feq hc40).1) k) ?_
  show own_R p.tables e below P (T38.setTop (mkF m 91 #[.val (.long p0), .second, .val (.long p1), .second, .val (.long p2), .second, .val (.ref o29), .val (.int (1 : Int32)), .unset, .unset, .unset] []))
  refine own_fwd (fun t k => XS.aload X38.here hx rfl (hb hby at_91) rfl rfl k) ?_
  show own_R p.tables e below P (T38.setTop (mkF m 93 #[.val (.long p0), .second, .val (.long p1), .second, .val (.long p2), .second, .val (.ref o29), .val (.int (1 : Int32)), .unset, .unset, .unset] [(.ref o29)]))
  obtain ⟨cq41, kq41, q41a, q41b, q41c⟩ := isOf hZ e38 E29_
  obtain ⟨_, _, ⟨T41, L41, k41, n41⟩, -, X41, ⟨Lc41, hQ41, l41, y41, z41⟩, st41⟩ := X38.virtualBack hx (y := (⟨"com/example/leaselock/leaselock/Answer", "endsAtRelease", "()Z"⟩ : MethodName)) (z := (⟨"com/example/leaselock/leaselock/Answer", "endsAtRelease", "()Z"⟩ : MethodName)) hown (mvT hZ (hw _ (List.mem_of_getElem? (i := 40) rfl))) (mvT hZ (hw _ (List.mem_of_getElem? (i := 41) rfl))) (notFace_of_selects (args := #[]) (mvT hZ (hw _ (List.mem_of_getElem? (i := 43) rfl)))) (mvT hZ (hw _ (List.mem_of_getElem? (i := 43) rfl))) (mvT hZ (hw _ (List.mem_of_getElem? (i := 42) rfl))) (by decide) (backOf (W := 0) (own_rm8 l Z a0 hw [] o29 (0 : Int32) h29 n0 Z29 J29_ (by decide)) hZ (hw _ (List.mem_of_getElem? (i := 44) rfl)) (hw _ (List.mem_of_getElem? (i := 2) rfl)) (by decide) (by decide)) q41a q41c (g := (mkF m 93 #[.val (.long p0), .second, .val (.long p1), .second, .val (.long p2), .second, .val (.ref o29), .val (.int (1 : Int32)), .unset, .unset, .unset] [(.ref o29)])) rfl (by rw [hml]; rfl) (Steps.refl _) (argsL := []) (rest := []) (lenOf own_pd3 rfl) rfl (by show 2 * 0 + _ ≤ _; exact Nat.le_of_eq rfl) (hb hby at_93) (fun _ _ => ⟨rfl, e38, (by decide : 1 + 0 ≤ _), (by decide : 4 + 0 ≤ _)⟩)
  dsimp only [Pt.U, Pt.locs, Pt.cells, Pt.slots] at X41 l41 y41 z41 st41 hQ41
  subst l41 y41 z41
  obtain ⟨h41, e41⟩ : ∃ z, T41.heap = z := ⟨_, rfl⟩
  rw [e41] at hQ41
  obtain ⟨hq41, N41q, q41⟩ := hQ41
  rw [q41] at e41
  subst hq41
  have N41 := Fr.app N38 N41q
  refine own_trn st41 ?_
  show own_R p.tables e below P (T41.setTop (mkF m 96 #[.val (.long p0), .second, .val (.long p1), .second, .val (.long p2), .second, .val (.ref o29), .val (.int (1 : Int32)), .unset, .unset, .unset] [(.int (0 : Int32))]))
  have hc42 : (0 : Int32) = (0 : Int32) := (by decide)
  refine own_fwd (fun t k => XS.ifNo X41.here hx rfl (hb hby at_96) rfl ((if0 _ _).trans (teq hc42).2) k) ?_
  show own_R p.tables e below P (T41.setTop (mkF m 99 #[.val (.long p0), .second, .val (.long p1), .second, .val (.long p2), .second, .val (.ref o29), .val (.int (1 : Int32)), .unset, .unset, .unset] []))
  refine own_fwd (fun t k => XS.iconst X41.here hx rfl (hb hby at_99) k) ?_
  show own_R p.tables e below P (T41.setTop (mkF m 100 #[.val (.long p0), .second, .val (.long p1), .second, .val (.long p2), .second, .val (.ref o29), .val (.int (1 : Int32)), .unset, .unset, .unset] [(.int (1 : Int32))]))
  refine own_fwd (fun t k => XS.goto X41.here hx rfl (pc0 := 100) (pc' := 104) rfl (hb hby at_100) (by decide) (by decide) k) ?_
  show own_R p.tables e below P (T41.setTop (mkF m 104 #[.val (.long p0), .second, .val (.long p1), .second, .val (.long p2), .second, .val (.ref o29), .val (.int (1 : Int32)), .unset, .unset, .unset] [(.int (1 : Int32))]))
  refine own_fwd (fun t k => XS.istore X41.here hx rfl (hb hby at_104) rfl (l' := #[.val (.long p0), .second, .val (.long p1), .second, .val (.long p2), .second, .val (.ref o29), .val (.int (1 : Int32)), .unset, .unset, .unset]) rfl k) ?_
  show own_R p.tables e below P (T41.setTop (mkF m 106 #[.val (.long p0), .second, .val (.long p1), .second, .val (.long p2), .second, .val (.ref o29), .val (.int (1 : Int32)), .unset, .unset, .unset] []))
  refine own_fwd (fun t k => XS.aload X41.here hx rfl (hb hby at_106) rfl rfl k) ?_
  show own_R p.tables e below P (T41.setTop (mkF m 108 #[.val (.long p0), .second, .val (.long p1), .second, .val (.long p2), .second, .val (.ref o29), .val (.int (1 : Int32)), .unset, .unset, .unset] [(.ref o29)]))
  refine own_fwd (fun t k => XS.lload X41.here hx rfl (hb hby at_108) rfl k) ?_
  show own_R p.tables e below P (T41.setTop (mkF m 110 #[.val (.long p0), .second, .val (.long p1), .second, .val (.long p2), .second, .val (.ref o29), .val (.int (1 : Int32)), .unset, .unset, .unset] [(.long p2), (.ref o29)]))
  obtain ⟨cq43, kq43, q43a, q43b, q43c⟩ := isOf hZ e41 E29_
  obtain ⟨_, _, ⟨T43, L43, k43, n43⟩, -, X43, ⟨Lc43, hQ43, l43, y43, z43⟩, st43⟩ := X41.virtualBack hx (y := (⟨"com/example/leaselock/leaselock/Answer", "sleepingAtMost", "(J)Lcom/example/leaselock/leaselock/Answer;"⟩ : MethodName)) (z := (⟨"com/example/leaselock/leaselock/Answer", "sleepingAtMost", "(J)Lcom/example/leaselock/leaselock/Answer;"⟩ : MethodName)) hown (mvT hZ (hw _ (List.mem_of_getElem? (i := 45) rfl))) (mvT hZ (hw _ (List.mem_of_getElem? (i := 46) rfl))) (notFace_of_selects (args := #[]) (mvT hZ (hw _ (List.mem_of_getElem? (i := 48) rfl)))) (mvT hZ (hw _ (List.mem_of_getElem? (i := 48) rfl))) (mvT hZ (hw _ (List.mem_of_getElem? (i := 47) rfl))) (by decide) (backOf (W := 0) (own_rm9 l Z a0 hw [] o29 p2 p0 p1 (0 : Int32) h29 n0 Z29 E29_ G29_ H29_ I29_ J29_ ge_o29 (by decide)) hZ (hw _ (List.mem_of_getElem? (i := 49) rfl)) (hw _ (List.mem_of_getElem? (i := 2) rfl)) (by decide) (by decide)) q43a q43c (g := (mkF m 110 #[.val (.long p0), .second, .val (.long p1), .second, .val (.long p2), .second, .val (.ref o29), .val (.int (1 : Int32)), .unset, .unset, .unset] [(.long p2), (.ref o29)])) rfl (by rw [hml]; rfl) (Steps.refl _) (argsL := [(.long p2)]) (rest := []) (lenOf own_pd5 rfl) rfl (by show 2 * 0 + _ ≤ _; exact Nat.le_of_eq rfl) (hb hby at_110) (fun _ _ => ⟨rfl, e41, (by decide : 1 + 1 ≤ _), (by decide : 4 + 4 ≤ _)⟩)
  dsimp only [Pt.U, Pt.locs, Pt.cells, Pt.slots] at X43 l43 y43 z43 st43 hQ43
  subst l43 y43 z43
  obtain ⟨h43, e43⟩ : ∃ z, T43.heap = z := ⟨_, rfl⟩
  rw [e43] at hQ43
  obtain ⟨o43, hq43, N43q, ge_o43, K43, E43_, G43_, H43_, I43_, J43_⟩ := hQ43
  subst hq43
  have N43 := Fr.app N41 N43q
  have E29__x43 := E29_.keep K43
  have G29__x43 := G29_.keep K43 nin0
  have H29__x43 := H29_.keep K43 nin0
  have I29__x43 := I29_.keep K43 nin0
  have J29__x43 := J29_.keep K43 nin0
  have Z43 : n0 ≤ h43.size := Nat.le_trans Z29 K43.1
  have Y43 : h0.size ≤ h43.size := Nat.le_trans Y29 K43.1
  refine own_trn st43 ?_
  show own_R p.tables e below P (T43.setTop (mkF m 113 #[.val (.long p0), .second, .val (.long p1), .second, .val (.long p2), .second, .val (.ref o29), .val (.int (1 : Int32)), .unset, .unset, .unset] [(.ref o43)]))
  refine own_fwd (fun t k => XS.astore X43.here hx rfl (hb hby at_113) rfl rfl (l' := #[.val (.long p0), .second, .val (.long p1), .second, .val (.long p2), .second, .val (.ref o29), .val (.int (1 : Int32)), .val (.ref o43), .unset, .unset]) rfl k) ?_
  show own_R p.tables e below P (T43.setTop (mkF m 115 #[.val (.long p0), .second, .val (.long p1), .second, .val (.long p2), .second, .val (.ref o29), .val (.int (1 : Int32)), .val (.ref o43), .unset, .unset] []))
  refine own_fwd (fun t k => XS.lloadN X43.here hx rfl (hb hby at_115) rfl k) ?_
  show own_R p.tables e below P (T43.setTop (mkF m 116 #[.val (.long p0), .second, .val (.long p1), .second, .val (.long p2), .second, .val (.ref o29), .val (.int (1 : Int32)), .val (.ref o43), .unset, .unset] [(.long p1)]))
  refine own_fwd (fun t k => XS.lstore X43.here hx rfl (hb hby at_116) rfl (l' := #[.val (.long p0), .second, .val (.long p1), .second, .val (.long p2), .second, .val (.ref o29), .val (.int (1 : Int32)), .val (.ref o43), .val (.long p1), .second]) rfl k) ?_
  show own_R p.tables e below P (T43.setTop (mkF m 118 #[.val (.long p0), .second, .val (.long p1), .second, .val (.long p2), .second, .val (.ref o29), .val (.int (1 : Int32)), .val (.ref o43), .val (.long p1), .second] []))
  refine own_fwd (fun t k => XS.lload X43.here hx rfl (hb hby at_118) rfl k) ?_
  show own_R p.tables e below P (T43.setTop (mkF m 120 #[.val (.long p0), .second, .val (.long p1), .second, .val (.long p2), .second, .val (.ref o29), .val (.int (1 : Int32)), .val (.ref o43), .val (.long p1), .second] [(.long p2)]))
  refine own_fwd (fun t k => XS.lloadN X43.here hx rfl (hb hby at_120) rfl k) ?_
  show own_R p.tables e below P (T43.setTop (mkF m 121 #[.val (.long p0), .second, .val (.long p1), .second, .val (.long p2), .second, .val (.ref o29), .val (.int (1 : Int32)), .val (.ref o43), .val (.long p1), .second] [(.long p1), (.long p2)]))
  refine own_fwd (fun t k => XS.lcmp X43.here hx rfl (hb hby at_121) rfl k) ?_
  show own_R p.tables e below P (T43.setTop (mkF m 122 #[.val (.long p0), .second, .val (.long p1), .second, .val (.long p2), .second, .val (.ref o29), .val (.int (1 : Int32)), .val (.ref o43), .val (.long p1), .second] [(.int (lcmpW p2 p1))]))
  by_cases hc44 : (lcmpW p2 p1) < (0 : Int32)
  · refine own_fwd (fun t k => XS.ifNo X43.here hx rfl (hb hby at_122) rfl ((if0 _ _).trans (tlt hc44).2.1) k) ?_
    show own_R p.tables e below P (T43.setTop (mkF m 125 #[.val (.long p0), .second, .val (.long p1), .second, .val (.long p2), .second, .val (.ref o29), .val (.int (1 : Int32)), .val (.ref o43), .val (.long p1), .second] []))
    refine own_fwd (fun t k => XS.lload X43.here hx rfl (hb hby at_125) rfl k) ?_
    show own_R p.tables e below P (T43.setTop (mkF m 127 #[.val (.long p0), .second, .val (.long p1), .second, .val (.long p2), .second, .val (.ref o29), .val (.int (1 : Int32)), .val (.ref o43), .val (.long p1), .second] [(.long p2)]))
    refine own_fwd (fun t k => XS.lstore X43.here hx rfl (hb hby at_127) rfl (l' := #[.val (.long p0), .second, .val (.long p1), .second, .val (.long p2), .second, .val (.ref o29), .val (.int (1 : Int32)), .val (.ref o43), .val (.long p2), .second]) rfl k) ?_
    show own_R p.tables e below P (T43.setTop (mkF m 129 #[.val (.long p0), .second, .val (.long p1), .second, .val (.long p2), .second, .val (.ref o29), .val (.int (1 : Int32)), .val (.ref o43), .val (.long p2), .second] []))
    refine own_fwd (fun t k => XS.iload X43.here hx rfl (hb hby at_129) rfl k) ?_
    show own_R p.tables e below P (T43.setTop (mkF m 131 #[.val (.long p0), .second, .val (.long p1), .second, .val (.long p2), .second, .val (.ref o29), .val (.int (1 : Int32)), .val (.ref o43), .val (.long p2), .second] [(.int (1 : Int32))]))
    have hc45 : ¬ ((1 : Int32) = (0 : Int32)) := (by decide)
    refine own_fwd (fun t k => XS.ifNo X43.here hx rfl (hb hby at_131) rfl ((if0 _ _).trans (feq hc45).1) k) ?_
    show own_R p.tables e below P (T43.setTop (mkF m 134 #[.val (.long p0), .second, .val (.long p1), .second, .val (.long p2), .second, .val (.ref o29), .val (.int (1 : Int32)), .val (.ref o43), .val (.long p2), .second] []))
    refine own_fwd (fun t k => XS.aload X43.here hx rfl (hb hby at_134) rfl rfl k) ?_
    show own_R p.tables e below P (T43.setTop (mkF m 136 #[.val (.long p0), .second, .val (.long p1), .second, .val (.long p2), .second, .val (.ref o29), .val (.int (1 : Int32)), .val (.ref o43), .val (.long p2), .second] [(.ref o43)]))
    obtain ⟨cq46, kq46, q46a, q46b, q46c⟩ := isOf hZ e43 E43_
    obtain ⟨_, _, ⟨T46, L46, k46, n46⟩, -, X46, ⟨Lc46, hQ46, l46, y46, z46⟩, st46⟩ := X43.virtualBack hx (y := (⟨"com/example/leaselock/leaselock/Answer", "asked", "()J"⟩ : MethodName)) (z := (⟨"com/example/leaselock/leaselock/Answer", "asked", "()J"⟩ : MethodName)) hown (mvT hZ (hw _ (List.mem_of_getElem? (i := 20) rfl))) (mvT hZ (hw _ (List.mem_of_getElem? (i := 21) rfl))) (notFace_of_selects (args := #[]) (mvT hZ (hw _ (List.mem_of_getElem? (i := 23) rfl)))) (mvT hZ (hw _ (List.mem_of_getElem? (i := 23) rfl))) (mvT hZ (hw _ (List.mem_of_getElem? (i := 22) rfl))) (by decide) (backOf (W := 0) (own_rm4 l Z a0 hw [] o43 p0 h43 n0 Z43 G43_ ) hZ (hw _ (List.mem_of_getElem? (i := 24) rfl)) (hw _ (List.mem_of_getElem? (i := 2) rfl)) (by decide) (by decide)) q46a q46c (g := (mkF m 136 #[.val (.long p0), .second, .val (.long p1), .second, .val (.long p2), .second, .val (.ref o29), .val (.int (1 : Int32)), .val (.ref o43), .val (.long p2), .second] [(.ref o43)])) rfl (by rw [hml]; rfl) (Steps.refl _) (argsL := []) (rest := []) (lenOf own_pd2 rfl) rfl (by show 2 * 0 + _ ≤ _; exact Nat.le_of_eq rfl) (hb hby at_136) (fun _ _ => ⟨rfl, e43, (by decide : 2 + 0 ≤ _), (by decide : 8 + 0 ≤ _)⟩)
    dsimp only [Pt.U, Pt.locs, Pt.cells, Pt.slots] at X46 l46 y46 z46 st46 hQ46
    subst l46 y46 z46
    obtain ⟨h46, e46⟩ : ∃ z, T46.heap = z := ⟨_, rfl⟩
    rw [e46] at hQ46
    obtain ⟨hq46, N46q, q46⟩ := hQ46
    rw [q46] at e46
    subst hq46
    have N46 := Fr.app N43 N46q
    refine own_trn st46 ?_
    show own_R p.tables e below P (T46.setTop (mkF m 139 #[.val (.long p0), .second, .val (.long p1), .second, .val (.long p2), .second, .val (.ref o29), .val (.int (1 : Int32)), .val (.ref o43), .val (.long p2), .second] [(.long p0)]))
    refine own_fwd (fun t k => XS.lloadN X46.here hx rfl (hb hby at_139) rfl k) ?_
    show own_R p.tables e below P (T46.setTop (mkF m 140 #[.val (.long p0), .second, .val (.long p1), .second, .val (.long p2), .second, .val (.ref o29), .val (.int (1 : Int32)), .val (.ref o43), .val (.long p2), .second] [(.long p0), (.long p0)]))
    refine own_fwd (fun t k => XS.lcmp X46.here hx rfl (hb hby at_140) rfl k) ?_
    show own_R p.tables e below P (T46.setTop (mkF m 141 #[.val (.long p0), .second, .val (.long p1), .second, .val (.long p2), .second, .val (.ref o29), .val (.int (1 : Int32)), .val (.ref o43), .val (.long p2), .second] [(.int (lcmpW p0 p0))]))
    have hc47 : (lcmpW p0 p0) = (0 : Int32) := (lw_eq _ _).mpr rfl
    refine own_fwd (fun t k => XS.ifNo X46.here hx rfl (hb hby at_141) rfl ((if0 _ _).trans (teq hc47).2) k) ?_
    show own_R p.tables e below P (T46.setTop (mkF m 144 #[.val (.long p0), .second, .val (.long p1), .second, .val (.long p2), .second, .val (.ref o29), .val (.int (1 : Int32)), .val (.ref o43), .val (.long p2), .second] []))
    refine own_fwd (fun t k => XS.iconst X46.here hx rfl (hb hby at_144) k) ?_
    show own_R p.tables e below P (T46.setTop (mkF m 145 #[.val (.long p0), .second, .val (.long p1), .second, .val (.long p2), .second, .val (.ref o29), .val (.int (1 : Int32)), .val (.ref o43), .val (.long p2), .second] [(.int (1 : Int32))]))
    refine own_fwd (fun t k => XS.goto X46.here hx rfl (pc0 := 145) (pc' := 149) rfl (hb hby at_145) (by decide) (by decide) k) ?_
    show own_R p.tables e below P (T46.setTop (mkF m 149 #[.val (.long p0), .second, .val (.long p1), .second, .val (.long p2), .second, .val (.ref o29), .val (.int (1 : Int32)), .val (.ref o43), .val (.long p2), .second] [(.int (1 : Int32))]))
    refine own_fwd (fun t k => XS.istore X46.here hx rfl (hb hby at_149) rfl (l' := #[.val (.long p0), .second, .val (.long p1), .second, .val (.long p2), .second, .val (.ref o29), .val (.int (1 : Int32)), .val (.ref o43), .val (.long p2), .second]) rfl k) ?_
    show own_R p.tables e below P (T46.setTop (mkF m 151 #[.val (.long p0), .second, .val (.long p1), .second, .val (.long p2), .second, .val (.ref o29), .val (.int (1 : Int32)), .val (.ref o43), .val (.long p2), .second] []))
    refine own_fwd (fun t k => XS.iload X46.here hx rfl (hb hby at_151) rfl k) ?_
    show own_R p.tables e below P (T46.setTop (mkF m 153 #[.val (.long p0), .second, .val (.long p1), .second, .val (.long p2), .second, .val (.ref o29), .val (.int (1 : Int32)), .val (.ref o43), .val (.long p2), .second] [(.int (1 : Int32))]))
    have hc48 : ¬ ((1 : Int32) = (0 : Int32)) := (by decide)
    refine own_fwd (fun t k => XS.ifNo X46.here hx rfl (hb hby at_153) rfl ((if0 _ _).trans (feq hc48).1) k) ?_
    show own_R p.tables e below P (T46.setTop (mkF m 156 #[.val (.long p0), .second, .val (.long p1), .second, .val (.long p2), .second, .val (.ref o29), .val (.int (1 : Int32)), .val (.ref o43), .val (.long p2), .second] []))
    refine own_fwd (fun t k => XS.aload X46.here hx rfl (hb hby at_156) rfl rfl k) ?_
    show own_R p.tables e below P (T46.setTop (mkF m 158 #[.val (.long p0), .second, .val (.long p1), .second, .val (.long p2), .second, .val (.ref o29), .val (.int (1 : Int32)), .val (.ref o43), .val (.long p2), .second] [(.ref o43)]))
    obtain ⟨cq49, kq49, q49a, q49b, q49c⟩ := isOf hZ e46 E43_
    obtain ⟨_, _, ⟨T49, L49, k49, n49⟩, -, X49, ⟨Lc49, hQ49, l49, y49, z49⟩, st49⟩ := X46.virtualBack hx (y := (⟨"com/example/leaselock/leaselock/Answer", "sleepNanos", "()J"⟩ : MethodName)) (z := (⟨"com/example/leaselock/leaselock/Answer", "sleepNanos", "()J"⟩ : MethodName)) hown (mvT hZ (hw _ (List.mem_of_getElem? (i := 35) rfl))) (mvT hZ (hw _ (List.mem_of_getElem? (i := 36) rfl))) (notFace_of_selects (args := #[]) (mvT hZ (hw _ (List.mem_of_getElem? (i := 38) rfl)))) (mvT hZ (hw _ (List.mem_of_getElem? (i := 38) rfl))) (mvT hZ (hw _ (List.mem_of_getElem? (i := 37) rfl))) (by decide) (backOf (W := 0) (own_rm7 l Z a0 hw [] o43 (if p2 < p1 then p2 else p1) h43 n0 Z43 I43_ ) hZ (hw _ (List.mem_of_getElem? (i := 39) rfl)) (hw _ (List.mem_of_getElem? (i := 2) rfl)) (by decide) (by decide)) q49a q49c (g := (mkF m 158 #[.val (.long p0), .second, .val (.long p1), .second, .val (.long p2), .second, .val (.ref o29), .val (.int (1 : Int32)), .val (.ref o43), .val (.long p2), .second] [(.ref o43)])) rfl (by rw [hml]; rfl) (Steps.refl _) (argsL := []) (rest := []) (lenOf own_pd2 rfl) rfl (by show 2 * 0 + _ ≤ _; exact Nat.le_of_eq rfl) (hb hby at_158) (fun _ _ => ⟨rfl, e46, (by decide : 2 + 0 ≤ _), (by decide : 8 + 0 ≤ _)⟩)
    dsimp only [Pt.U, Pt.locs, Pt.cells, Pt.slots] at X49 l49 y49 z49 st49 hQ49
    subst l49 y49 z49
    obtain ⟨h49, e49⟩ : ∃ z, T49.heap = z := ⟨_, rfl⟩
    rw [e49] at hQ49
    obtain ⟨hq49, N49q, q49⟩ := hQ49
    rw [q49] at e49
    subst hq49
    have N49 := Fr.app N46 N49q
    refine own_trn st49 ?_
    show own_R p.tables e below P (T49.setTop (mkF m 161 #[.val (.long p0), .second, .val (.long p1), .second, .val (.long p2), .second, .val (.ref o29), .val (.int (1 : Int32)), .val (.ref o43), .val (.long p2), .second] [(.long (if p2 < p1 then p2 else p1))]))
    refine own_fwd (fun t k => XS.lload X49.here hx rfl (hb hby at_161) rfl k) ?_
    show own_R p.tables e below P (T49.setTop (mkF m 163 #[.val (.long p0), .second, .val (.long p1), .second, .val (.long p2), .second, .val (.ref o29), .val (.int (1 : Int32)), .val (.ref o43), .val (.long p2), .second] [(.long p2), (.long (if p2 < p1 then p2 else p1))]))
    refine own_fwd (fun t k => XS.lcmp X49.here hx rfl (hb hby at_163) rfl k) ?_
    show own_R p.tables e below P (T49.setTop (mkF m 164 #[.val (.long p0), .second, .val (.long p1), .second, .val (.long p2), .second, .val (.ref o29), .val (.int (1 : Int32)), .val (.ref o43), .val (.long p2), .second] [(.int (lcmpW (if p2 < p1 then p2 else p1) p2))]))
    have hc50 : (lcmpW (if p2 < p1 then p2 else p1) p2) = (0 : Int32) := (lw_eq _ _).mpr (if_pos ((lw_lt _ _).mp hc44))
    refine own_fwd (fun t k => XS.ifNo X49.here hx rfl (hb hby at_164) rfl ((if0 _ _).trans (teq hc50).2) k) ?_
    show own_R p.tables e below P (T49.setTop (mkF m 167 #[.val (.long p0), .second, .val (.long p1), .second, .val (.long p2), .second, .val (.ref o29), .val (.int (1 : Int32)), .val (.ref o43), .val (.long p2), .second] []))
    refine own_fwd (fun t k => XS.iconst X49.here hx rfl (hb hby at_167) k) ?_
    show own_R p.tables e below P (T49.setTop (mkF m 168 #[.val (.long p0), .second, .val (.long p1), .second, .val (.long p2), .second, .val (.ref o29), .val (.int (1 : Int32)), .val (.ref o43), .val (.long p2), .second] [(.int (1 : Int32))]))
    refine own_fwd (fun t k => XS.goto X49.here hx rfl (pc0 := 168) (pc' := 172) rfl (hb hby at_168) (by decide) (by decide) k) ?_
    show own_R p.tables e below P (T49.setTop (mkF m 172 #[.val (.long p0), .second, .val (.long p1), .second, .val (.long p2), .second, .val (.ref o29), .val (.int (1 : Int32)), .val (.ref o43), .val (.long p2), .second] [(.int (1 : Int32))]))
    refine own_fwd (fun t k => XS.istore X49.here hx rfl (hb hby at_172) rfl (l' := #[.val (.long p0), .second, .val (.long p1), .second, .val (.long p2), .second, .val (.ref o29), .val (.int (1 : Int32)), .val (.ref o43), .val (.long p2), .second]) rfl k) ?_
    show own_R p.tables e below P (T49.setTop (mkF m 174 #[.val (.long p0), .second, .val (.long p1), .second, .val (.long p2), .second, .val (.ref o29), .val (.int (1 : Int32)), .val (.ref o43), .val (.long p2), .second] []))
    refine own_fwd (fun t k => XS.iload X49.here hx rfl (hb hby at_174) rfl k) ?_
    show own_R p.tables e below P (T49.setTop (mkF m 176 #[.val (.long p0), .second, .val (.long p1), .second, .val (.long p2), .second, .val (.ref o29), .val (.int (1 : Int32)), .val (.ref o43), .val (.long p2), .second] [(.int (1 : Int32))]))
    have hc51 : ¬ ((1 : Int32) = (0 : Int32)) := (by decide)
    refine own_fwd (fun t k => XS.ifNo X49.here hx rfl (hb hby at_176) rfl ((if0 _ _).trans (feq hc51).1) k) ?_
    show own_R p.tables e below P (T49.setTop (mkF m 179 #[.val (.long p0), .second, .val (.long p1), .second, .val (.long p2), .second, .val (.ref o29), .val (.int (1 : Int32)), .val (.ref o43), .val (.long p2), .second] []))
    refine own_fwd (fun t k => XS.aload X49.here hx rfl (hb hby at_179) rfl rfl k) ?_
    show own_R p.tables e below P (T49.setTop (mkF m 181 #[.val (.long p0), .second, .val (.long p1), .second, .val (.long p2), .second, .val (.ref o29), .val (.int (1 : Int32)), .val (.ref o43), .val (.long p2), .second] [(.ref o43)]))
    obtain ⟨cq52, kq52, q52a, q52b, q52c⟩ := isOf hZ e49 E43_
    obtain ⟨_, _, ⟨T52, L52, k52, n52⟩, -, X52, ⟨Lc52, hQ52, l52, y52, z52⟩, st52⟩ := X49.virtualBack hx (y := (⟨"com/example/leaselock/leaselock/Answer", "endsAtRelease", "()Z"⟩ : MethodName)) (z := (⟨"com/example/leaselock/leaselock/Answer", "endsAtRelease", "()Z"⟩ : MethodName)) hown (mvT hZ (hw _ (List.mem_of_getElem? (i := 40) rfl))) (mvT hZ (hw _ (List.mem_of_getElem? (i := 41) rfl))) (notFace_of_selects (args := #[]) (mvT hZ (hw _ (List.mem_of_getElem? (i := 43) rfl)))) (mvT hZ (hw _ (List.mem_of_getElem? (i := 43) rfl))) (mvT hZ (hw _ (List.mem_of_getElem? (i := 42) rfl))) (by decide) (backOf (W := 0) (own_rm8 l Z a0 hw [] o43 (0 : Int32) h43 n0 Z43 J43_ (by decide)) hZ (hw _ (List.mem_of_getElem? (i := 44) rfl)) (hw _ (List.mem_of_getElem? (i := 2) rfl)) (by decide) (by decide)) q52a q52c (g := (mkF m 181 #[.val (.long p0), .second, .val (.long p1), .second, .val (.long p2), .second, .val (.ref o29), .val (.int (1 : Int32)), .val (.ref o43), .val (.long p2), .second] [(.ref o43)])) rfl (by rw [hml]; rfl) (Steps.refl _) (argsL := []) (rest := []) (lenOf own_pd3 rfl) rfl (by show 2 * 0 + _ ≤ _; exact Nat.le_of_eq rfl) (hb hby at_181) (fun _ _ => ⟨rfl, e49, (by decide : 2 + 0 ≤ _), (by decide : 8 + 0 ≤ _)⟩)
    dsimp only [Pt.U, Pt.locs, Pt.cells, Pt.slots] at X52 l52 y52 z52 st52 hQ52
    subst l52 y52 z52
    obtain ⟨h52, e52⟩ : ∃ z, T52.heap = z := ⟨_, rfl⟩
    rw [e52] at hQ52
    obtain ⟨hq52, N52q, q52⟩ := hQ52
    rw [q52] at e52
    subst hq52
    have N52 := Fr.app N49 N52q
    refine own_trn st52 ?_
    show own_R p.tables e below P (T52.setTop (mkF m 184 #[.val (.long p0), .second, .val (.long p1), .second, .val (.long p2), .second, .val (.ref o29), .val (.int (1 : Int32)), .val (.ref o43), .val (.long p2), .second] [(.int (0 : Int32))]))
    have hc53 : (0 : Int32) = (0 : Int32) := (by decide)
    refine own_fwd (fun t k => XS.ifNo X52.here hx rfl (hb hby at_184) rfl ((if0 _ _).trans (teq hc53).2) k) ?_
    show own_R p.tables e below P (T52.setTop (mkF m 187 #[.val (.long p0), .second, .val (.long p1), .second, .val (.long p2), .second, .val (.ref o29), .val (.int (1 : Int32)), .val (.ref o43), .val (.long p2), .second] []))
    refine own_fwd (fun t k => XS.iconst X52.here hx rfl (hb hby at_187) k) ?_
    show own_R p.tables e below P (T52.setTop (mkF m 188 #[.val (.long p0), .second, .val (.long p1), .second, .val (.long p2), .second, .val (.ref o29), .val (.int (1 : Int32)), .val (.ref o43), .val (.long p2), .second] [(.int (1 : Int32))]))
    refine own_fwd (fun t k => XS.goto X52.here hx rfl (pc0 := 188) (pc' := 192) rfl (hb hby at_188) (by decide) (by decide) k) ?_
    show own_R p.tables e below P (T52.setTop (mkF m 192 #[.val (.long p0), .second, .val (.long p1), .second, .val (.long p2), .second, .val (.ref o29), .val (.int (1 : Int32)), .val (.ref o43), .val (.long p2), .second] [(.int (1 : Int32))]))
    refine own_fwd (fun t k => XS.istore X52.here hx rfl (hb hby at_192) rfl (l' := #[.val (.long p0), .second, .val (.long p1), .second, .val (.long p2), .second, .val (.ref o29), .val (.int (1 : Int32)), .val (.ref o43), .val (.long p2), .second]) rfl k) ?_
    show own_R p.tables e below P (T52.setTop (mkF m 194 #[.val (.long p0), .second, .val (.long p1), .second, .val (.long p2), .second, .val (.ref o29), .val (.int (1 : Int32)), .val (.ref o43), .val (.long p2), .second] []))
    refine own_fwd (fun t k => XS.iload X52.here hx rfl (hb hby at_194) rfl k) ?_
    show own_R p.tables e below P (T52.setTop (mkF m 196 #[.val (.long p0), .second, .val (.long p1), .second, .val (.long p2), .second, .val (.ref o29), .val (.int (1 : Int32)), .val (.ref o43), .val (.long p2), .second] [(.int (1 : Int32))]))
    obtain ⟨fs54, hr54, hrun54, hended54, hW54, hsame54⟩ := X52.leave (v := some (.int (1 : Int32))) (fun h => by rw [Bd.returns] at h; cases h)
    refine ⟨_, _, X52.ireturnOut hx (w := (1 : Int32)) Bd.returns rfl (by simp) (hb hby at_196) hr54, fin _ _ ⟨hrun54, hended54, _, _, rfl, ?_, ⟨_, rfl⟩, hW54, hsame54.mono (by decide) (by decide)⟩⟩
    show own_Qlaw Z p0 p1 p2 h0 n0 _ T52.heap _
    rw [e52]
    exact ⟨rfl, N52⟩
  · refine own_fwd (fun t k => XS.ifYes X43.here hx rfl (pc0 := 122) (pc' := 129) rfl (hb hby at_122) rfl ((if0 _ _).trans (flt hc44).2.1) (by decide) (by decide) k) ?_
    show own_R p.tables e below P (T43.setTop (mkF m 129 #[.val (.long p0), .second, .val (.long p1), .second, .val (.long p2), .second, .val (.ref o29), .val (.int (1 : Int32)), .val (.ref o43), .val (.long p1), .second] []))
    refine own_fwd (fun t k => XS.iload X43.here hx rfl (hb hby at_129) rfl k) ?_
    show own_R p.tables e below P (T43.setTop (mkF m 131 #[.val (.long p0), .second, .val (.long p1), .second, .val (.long p2), .second, .val (.ref o29), .val (.int (1 : Int32)), .val (.ref o43), .val (.long p1), .second] [(.int (1 : Int32))]))
    have hc55 : ¬ ((1 : Int32) = (0 : Int32)) := (by decide)
    refine own_fwd (fun t k => XS.ifNo X43.here hx rfl (hb hby at_131) rfl ((if0 _ _).trans (feq hc55).1) k) ?_
    show own_R p.tables e below P (T43.setTop (mkF m 134 #[.val (.long p0), .second, .val (.long p1), .second, .val (.long p2), .second, .val (.ref o29), .val (.int (1 : Int32)), .val (.ref o43), .val (.long p1), .second] []))
    refine own_fwd (fun t k => XS.aload X43.here hx rfl (hb hby at_134) rfl rfl k) ?_
    show own_R p.tables e below P (T43.setTop (mkF m 136 #[.val (.long p0), .second, .val (.long p1), .second, .val (.long p2), .second, .val (.ref o29), .val (.int (1 : Int32)), .val (.ref o43), .val (.long p1), .second] [(.ref o43)]))
    obtain ⟨cq56, kq56, q56a, q56b, q56c⟩ := isOf hZ e43 E43_
    obtain ⟨_, _, ⟨T56, L56, k56, n56⟩, -, X56, ⟨Lc56, hQ56, l56, y56, z56⟩, st56⟩ := X43.virtualBack hx (y := (⟨"com/example/leaselock/leaselock/Answer", "asked", "()J"⟩ : MethodName)) (z := (⟨"com/example/leaselock/leaselock/Answer", "asked", "()J"⟩ : MethodName)) hown (mvT hZ (hw _ (List.mem_of_getElem? (i := 20) rfl))) (mvT hZ (hw _ (List.mem_of_getElem? (i := 21) rfl))) (notFace_of_selects (args := #[]) (mvT hZ (hw _ (List.mem_of_getElem? (i := 23) rfl)))) (mvT hZ (hw _ (List.mem_of_getElem? (i := 23) rfl))) (mvT hZ (hw _ (List.mem_of_getElem? (i := 22) rfl))) (by decide) (backOf (W := 0) (own_rm4 l Z a0 hw [] o43 p0 h43 n0 Z43 G43_ ) hZ (hw _ (List.mem_of_getElem? (i := 24) rfl)) (hw _ (List.mem_of_getElem? (i := 2) rfl)) (by decide) (by decide)) q56a q56c (g := (mkF m 136 #[.val (.long p0), .second, .val (.long p1), .second, .val (.long p2), .second, .val (.ref o29), .val (.int (1 : Int32)), .val (.ref o43), .val (.long p1), .second] [(.ref o43)])) rfl (by rw [hml]; rfl) (Steps.refl _) (argsL := []) (rest := []) (lenOf own_pd2 rfl) rfl (by show 2 * 0 + _ ≤ _; exact Nat.le_of_eq rfl) (hb hby at_136) (fun _ _ => ⟨rfl, e43, (by decide : 2 + 0 ≤ _), (by decide : 8 + 0 ≤ _)⟩)
    dsimp only [Pt.U, Pt.locs, Pt.cells, Pt.slots] at X56 l56 y56 z56 st56 hQ56
    subst l56 y56 z56
    obtain ⟨h56, e56⟩ : ∃ z, T56.heap = z := ⟨_, rfl⟩
    rw [e56] at hQ56
    obtain ⟨hq56, N56q, q56⟩ := hQ56
    rw [q56] at e56
    subst hq56
    have N56 := Fr.app N43 N56q
    refine own_trn st56 ?_
    show own_R p.tables e below P (T56.setTop (mkF m 139 #[.val (.long p0), .second, .val (.long p1), .second, .val (.long p2), .second, .val (.ref o29), .val (.int (1 : Int32)), .val (.ref o43), .val (.long p1), .second] [(.long p0)]))
    refine own_fwd (fun t k => XS.lloadN X56.here hx rfl (hb hby at_139) rfl k) ?_
    show own_R p.tables e below P (T56.setTop (mkF m 140 #[.val (.long p0), .second, .val (.long p1), .second, .val (.long p2), .second, .val (.ref o29), .val (.int (1 : Int32)), .val (.ref o43), .val (.long p1), .second] [(.long p0), (.long p0)]))
    refine own_fwd (fun t k => XS.lcmp X56.here hx rfl (hb hby at_140) rfl k) ?_
    show own_R p.tables e below P (T56.setTop (mkF m 141 #[.val (.long p0), .second, .val (.long p1), .second, .val (.long p2), .second, .val (.ref o29), .val (.int (1 : Int32)), .val (.ref o43), .val (.long p1), .second] [(.int (lcmpW p0 p0))]))
    have hc57 : (lcmpW p0 p0) = (0 : Int32) := (lw_eq _ _).mpr rfl
    refine own_fwd (fun t k => XS.ifNo X56.here hx rfl (hb hby at_141) rfl ((if0 _ _).trans (teq hc57).2) k) ?_
    show own_R p.tables e below P (T56.setTop (mkF m 144 #[.val (.long p0), .second, .val (.long p1), .second, .val (.long p2), .second, .val (.ref o29), .val (.int (1 : Int32)), .val (.ref o43), .val (.long p1), .second] []))
    refine own_fwd (fun t k => XS.iconst X56.here hx rfl (hb hby at_144) k) ?_
    show own_R p.tables e below P (T56.setTop (mkF m 145 #[.val (.long p0), .second, .val (.long p1), .second, .val (.long p2), .second, .val (.ref o29), .val (.int (1 : Int32)), .val (.ref o43), .val (.long p1), .second] [(.int (1 : Int32))]))
    refine own_fwd (fun t k => XS.goto X56.here hx rfl (pc0 := 145) (pc' := 149) rfl (hb hby at_145) (by decide) (by decide) k) ?_
    show own_R p.tables e below P (T56.setTop (mkF m 149 #[.val (.long p0), .second, .val (.long p1), .second, .val (.long p2), .second, .val (.ref o29), .val (.int (1 : Int32)), .val (.ref o43), .val (.long p1), .second] [(.int (1 : Int32))]))
    refine own_fwd (fun t k => XS.istore X56.here hx rfl (hb hby at_149) rfl (l' := #[.val (.long p0), .second, .val (.long p1), .second, .val (.long p2), .second, .val (.ref o29), .val (.int (1 : Int32)), .val (.ref o43), .val (.long p1), .second]) rfl k) ?_
    show own_R p.tables e below P (T56.setTop (mkF m 151 #[.val (.long p0), .second, .val (.long p1), .second, .val (.long p2), .second, .val (.ref o29), .val (.int (1 : Int32)), .val (.ref o43), .val (.long p1), .second] []))
    refine own_fwd (fun t k => XS.iload X56.here hx rfl (hb hby at_151) rfl k) ?_
    show own_R p.tables e below P (T56.setTop (mkF m 153 #[.val (.long p0), .second, .val (.long p1), .second, .val (.long p2), .second, .val (.ref o29), .val (.int (1 : Int32)), .val (.ref o43), .val (.long p1), .second] [(.int (1 : Int32))]))
    have hc58 : ¬ ((1 : Int32) = (0 : Int32)) := (by decide)
    refine own_fwd (fun t k => XS.ifNo X56.here hx rfl (hb hby at_153) rfl ((if0 _ _).trans (feq hc58).1) k) ?_
    show own_R p.tables e below P (T56.setTop (mkF m 156 #[.val (.long p0), .second, .val (.long p1), .second, .val (.long p2), .second, .val (.ref o29), .val (.int (1 : Int32)), .val (.ref o43), .val (.long p1), .second] []))
    refine own_fwd (fun t k => XS.aload X56.here hx rfl (hb hby at_156) rfl rfl k) ?_
    show own_R p.tables e below P (T56.setTop (mkF m 158 #[.val (.long p0), .second, .val (.long p1), .second, .val (.long p2), .second, .val (.ref o29), .val (.int (1 : Int32)), .val (.ref o43), .val (.long p1), .second] [(.ref o43)]))
    obtain ⟨cq59, kq59, q59a, q59b, q59c⟩ := isOf hZ e56 E43_
    obtain ⟨_, _, ⟨T59, L59, k59, n59⟩, -, X59, ⟨Lc59, hQ59, l59, y59, z59⟩, st59⟩ := X56.virtualBack hx (y := (⟨"com/example/leaselock/leaselock/Answer", "sleepNanos", "()J"⟩ : MethodName)) (z := (⟨"com/example/leaselock/leaselock/Answer", "sleepNanos", "()J"⟩ : MethodName)) hown (mvT hZ (hw _ (List.mem_of_getElem? (i := 35) rfl))) (mvT hZ (hw _ (List.mem_of_getElem? (i := 36) rfl))) (notFace_of_selects (args := #[]) (mvT hZ (hw _ (List.mem_of_getElem? (i := 38) rfl)))) (mvT hZ (hw _ (List.mem_of_getElem? (i := 38) rfl))) (mvT hZ (hw _ (List.mem_of_getElem? (i := 37) rfl))) (by decide) (backOf (W := 0) (own_rm7 l Z a0 hw [] o43 (if p2 < p1 then p2 else p1) h43 n0 Z43 I43_ ) hZ (hw _ (List.mem_of_getElem? (i := 39) rfl)) (hw _ (List.mem_of_getElem? (i := 2) rfl)) (by decide) (by decide)) q59a q59c (g := (mkF m 158 #[.val (.long p0), .second, .val (.long p1), .second, .val (.long p2), .second, .val (.ref o29), .val (.int (1 : Int32)), .val (.ref o43), .val (.long p1), .second] [(.ref o43)])) rfl (by rw [hml]; rfl) (Steps.refl _) (argsL := []) (rest := []) (lenOf own_pd2 rfl) rfl (by show 2 * 0 + _ ≤ _; exact Nat.le_of_eq rfl) (hb hby at_158) (fun _ _ => ⟨rfl, e56, (by decide : 2 + 0 ≤ _), (by decide : 8 + 0 ≤ _)⟩)
    dsimp only [Pt.U, Pt.locs, Pt.cells, Pt.slots] at X59 l59 y59 z59 st59 hQ59
    subst l59 y59 z59
    obtain ⟨h59, e59⟩ : ∃ z, T59.heap = z := ⟨_, rfl⟩
    rw [e59] at hQ59
    obtain ⟨hq59, N59q, q59⟩ := hQ59
    rw [q59] at e59
    subst hq59
    have N59 := Fr.app N56 N59q
    refine own_trn st59 ?_
    show own_R p.tables e below P (T59.setTop (mkF m 161 #[.val (.long p0), .second, .val (.long p1), .second, .val (.long p2), .second, .val (.ref o29), .val (.int (1 : Int32)), .val (.ref o43), .val (.long p1), .second] [(.long (if p2 < p1 then p2 else p1))]))
    refine own_fwd (fun t k => XS.lload X59.here hx rfl (hb hby at_161) rfl k) ?_
    show own_R p.tables e below P (T59.setTop (mkF m 163 #[.val (.long p0), .second, .val (.long p1), .second, .val (.long p2), .second, .val (.ref o29), .val (.int (1 : Int32)), .val (.ref o43), .val (.long p1), .second] [(.long p1), (.long (if p2 < p1 then p2 else p1))]))
    refine own_fwd (fun t k => XS.lcmp X59.here hx rfl (hb hby at_163) rfl k) ?_
    show own_R p.tables e below P (T59.setTop (mkF m 164 #[.val (.long p0), .second, .val (.long p1), .second, .val (.long p2), .second, .val (.ref o29), .val (.int (1 : Int32)), .val (.ref o43), .val (.long p1), .second] [(.int (lcmpW (if p2 < p1 then p2 else p1) p1))]))
    have hc60 : (lcmpW (if p2 < p1 then p2 else p1) p1) = (0 : Int32) := (lw_eq _ _).mpr (if_neg (fun q => hc44 ((lw_lt _ _).mpr q)))
    refine own_fwd (fun t k => XS.ifNo X59.here hx rfl (hb hby at_164) rfl ((if0 _ _).trans (teq hc60).2) k) ?_
    show own_R p.tables e below P (T59.setTop (mkF m 167 #[.val (.long p0), .second, .val (.long p1), .second, .val (.long p2), .second, .val (.ref o29), .val (.int (1 : Int32)), .val (.ref o43), .val (.long p1), .second] []))
    refine own_fwd (fun t k => XS.iconst X59.here hx rfl (hb hby at_167) k) ?_
    show own_R p.tables e below P (T59.setTop (mkF m 168 #[.val (.long p0), .second, .val (.long p1), .second, .val (.long p2), .second, .val (.ref o29), .val (.int (1 : Int32)), .val (.ref o43), .val (.long p1), .second] [(.int (1 : Int32))]))
    refine own_fwd (fun t k => XS.goto X59.here hx rfl (pc0 := 168) (pc' := 172) rfl (hb hby at_168) (by decide) (by decide) k) ?_
    show own_R p.tables e below P (T59.setTop (mkF m 172 #[.val (.long p0), .second, .val (.long p1), .second, .val (.long p2), .second, .val (.ref o29), .val (.int (1 : Int32)), .val (.ref o43), .val (.long p1), .second] [(.int (1 : Int32))]))
    refine own_fwd (fun t k => XS.istore X59.here hx rfl (hb hby at_172) rfl (l' := #[.val (.long p0), .second, .val (.long p1), .second, .val (.long p2), .second, .val (.ref o29), .val (.int (1 : Int32)), .val (.ref o43), .val (.long p1), .second]) rfl k) ?_
    show own_R p.tables e below P (T59.setTop (mkF m 174 #[.val (.long p0), .second, .val (.long p1), .second, .val (.long p2), .second, .val (.ref o29), .val (.int (1 : Int32)), .val (.ref o43), .val (.long p1), .second] []))
    refine own_fwd (fun t k => XS.iload X59.here hx rfl (hb hby at_174) rfl k) ?_
    show own_R p.tables e below P (T59.setTop (mkF m 176 #[.val (.long p0), .second, .val (.long p1), .second, .val (.long p2), .second, .val (.ref o29), .val (.int (1 : Int32)), .val (.ref o43), .val (.long p1), .second] [(.int (1 : Int32))]))
    have hc61 : ¬ ((1 : Int32) = (0 : Int32)) := (by decide)
    refine own_fwd (fun t k => XS.ifNo X59.here hx rfl (hb hby at_176) rfl ((if0 _ _).trans (feq hc61).1) k) ?_
    show own_R p.tables e below P (T59.setTop (mkF m 179 #[.val (.long p0), .second, .val (.long p1), .second, .val (.long p2), .second, .val (.ref o29), .val (.int (1 : Int32)), .val (.ref o43), .val (.long p1), .second] []))
    refine own_fwd (fun t k => XS.aload X59.here hx rfl (hb hby at_179) rfl rfl k) ?_
    show own_R p.tables e below P (T59.setTop (mkF m 181 #[.val (.long p0), .second, .val (.long p1), .second, .val (.long p2), .second, .val (.ref o29), .val (.int (1 : Int32)), .val (.ref o43), .val (.long p1), .second] [(.ref o43)]))
    obtain ⟨cq62, kq62, q62a, q62b, q62c⟩ := isOf hZ e59 E43_
    obtain ⟨_, _, ⟨T62, L62, k62, n62⟩, -, X62, ⟨Lc62, hQ62, l62, y62, z62⟩, st62⟩ := X59.virtualBack hx (y := (⟨"com/example/leaselock/leaselock/Answer", "endsAtRelease", "()Z"⟩ : MethodName)) (z := (⟨"com/example/leaselock/leaselock/Answer", "endsAtRelease", "()Z"⟩ : MethodName)) hown (mvT hZ (hw _ (List.mem_of_getElem? (i := 40) rfl))) (mvT hZ (hw _ (List.mem_of_getElem? (i := 41) rfl))) (notFace_of_selects (args := #[]) (mvT hZ (hw _ (List.mem_of_getElem? (i := 43) rfl)))) (mvT hZ (hw _ (List.mem_of_getElem? (i := 43) rfl))) (mvT hZ (hw _ (List.mem_of_getElem? (i := 42) rfl))) (by decide) (backOf (W := 0) (own_rm8 l Z a0 hw [] o43 (0 : Int32) h43 n0 Z43 J43_ (by decide)) hZ (hw _ (List.mem_of_getElem? (i := 44) rfl)) (hw _ (List.mem_of_getElem? (i := 2) rfl)) (by decide) (by decide)) q62a q62c (g := (mkF m 181 #[.val (.long p0), .second, .val (.long p1), .second, .val (.long p2), .second, .val (.ref o29), .val (.int (1 : Int32)), .val (.ref o43), .val (.long p1), .second] [(.ref o43)])) rfl (by rw [hml]; rfl) (Steps.refl _) (argsL := []) (rest := []) (lenOf own_pd3 rfl) rfl (by show 2 * 0 + _ ≤ _; exact Nat.le_of_eq rfl) (hb hby at_181) (fun _ _ => ⟨rfl, e59, (by decide : 2 + 0 ≤ _), (by decide : 8 + 0 ≤ _)⟩)
    dsimp only [Pt.U, Pt.locs, Pt.cells, Pt.slots] at X62 l62 y62 z62 st62 hQ62
    subst l62 y62 z62
    obtain ⟨h62, e62⟩ : ∃ z, T62.heap = z := ⟨_, rfl⟩
    rw [e62] at hQ62
    obtain ⟨hq62, N62q, q62⟩ := hQ62
    rw [q62] at e62
    subst hq62
    have N62 := Fr.app N59 N62q
    refine own_trn st62 ?_
    show own_R p.tables e below P (T62.setTop (mkF m 184 #[.val (.long p0), .second, .val (.long p1), .second, .val (.long p2), .second, .val (.ref o29), .val (.int (1 : Int32)), .val (.ref o43), .val (.long p1), .second] [(.int (0 : Int32))]))
    have hc63 : (0 : Int32) = (0 : Int32) := (by decide)
    refine own_fwd (fun t k => XS.ifNo X62.here hx rfl (hb hby at_184) rfl ((if0 _ _).trans (teq hc63).2) k) ?_
    show own_R p.tables e below P (T62.setTop (mkF m 187 #[.val (.long p0), .second, .val (.long p1), .second, .val (.long p2), .second, .val (.ref o29), .val (.int (1 : Int32)), .val (.ref o43), .val (.long p1), .second] []))
    refine own_fwd (fun t k => XS.iconst X62.here hx rfl (hb hby at_187) k) ?_
    show own_R p.tables e below P (T62.setTop (mkF m 188 #[.val (.long p0), .second, .val (.long p1), .second, .val (.long p2), .second, .val (.ref o29), .val (.int (1 : Int32)), .val (.ref o43), .val (.long p1), .second] [(.int (1 : Int32))]))
    refine own_fwd (fun t k => XS.goto X62.here hx rfl (pc0 := 188) (pc' := 192) rfl (hb hby at_188) (by decide) (by decide) k) ?_
    show own_R p.tables e below P (T62.setTop (mkF m 192 #[.val (.long p0), .second, .val (.long p1), .second, .val (.long p2), .second, .val (.ref o29), .val (.int (1 : Int32)), .val (.ref o43), .val (.long p1), .second] [(.int (1 : Int32))]))
    refine own_fwd (fun t k => XS.istore X62.here hx rfl (hb hby at_192) rfl (l' := #[.val (.long p0), .second, .val (.long p1), .second, .val (.long p2), .second, .val (.ref o29), .val (.int (1 : Int32)), .val (.ref o43), .val (.long p1), .second]) rfl k) ?_
    show own_R p.tables e below P (T62.setTop (mkF m 194 #[.val (.long p0), .second, .val (.long p1), .second, .val (.long p2), .second, .val (.ref o29), .val (.int (1 : Int32)), .val (.ref o43), .val (.long p1), .second] []))
    refine own_fwd (fun t k => XS.iload X62.here hx rfl (hb hby at_194) rfl k) ?_
    show own_R p.tables e below P (T62.setTop (mkF m 196 #[.val (.long p0), .second, .val (.long p1), .second, .val (.long p2), .second, .val (.ref o29), .val (.int (1 : Int32)), .val (.ref o43), .val (.long p1), .second] [(.int (1 : Int32))]))
    obtain ⟨fs64, hr64, hrun64, hended64, hW64, hsame64⟩ := X62.leave (v := some (.int (1 : Int32))) (fun h => by rw [Bd.returns] at h; cases h)
    refine ⟨_, _, X62.ireturnOut hx (w := (1 : Int32)) Bd.returns rfl (by simp) (hb hby at_196) hr64, fin _ _ ⟨hrun64, hended64, _, _, rfl, ?_, ⟨_, rfl⟩, hW64, hsame64.mono (by decide) (by decide)⟩⟩
    show own_Qlaw Z p0 p1 p2 h0 n0 _ T62.heap _
    rw [e62]
    exact ⟨rfl, N62⟩
set_option maxRecDepth 65536 in
set_option maxHeartbeats 40000000 in
theorem own_comes {Post : Tables → Env → Array Value → State → Outcome → State → Prop} (hpost : ∀ tb e args s v u, (limb_1_1.after args s (.returned v) u = true ∧ limb_1_2.after args s (.returned v) u = true ∧ True) → FrameEnd s (.returned v) u (Jvm.fieldLocs frame_1_writes args s ++ Jvm.arrayLocs frame_1_arrays args s ++ Jvm.staticLocs frame_1_statics s) 16 128 → Post tb e args s (.returned v) u) :
    ArmFor flags0 classFile x code maxLocals ret World_1 tables_1 room_1 Calls_1 rest_1 Pre_1 Post := by
  intro l hfl _ _ p e ha hc hk s m args below hf hA hF happ hP
  obtain ⟨hcalls, hrest, hpre⟩ := hP
  obtain ⟨-, -, -, hnamed, -, -, -, hat⟩ := (Spec.applies_iff hf).mp happ
  obtain ⟨hg, hn⟩ := and_e (Cond.before_iff.mp (show (Jvm.Cond.and given_1 narrow_1).before args s = true from hpre))
  obtain ⟨g1, g2⟩ := and_e hg
  obtain ⟨g3, g4⟩ := and_e g2
  obtain ⟨g5, g6⟩ := and_e g4
  obtain ⟨w0, w1, w2, rfl⟩ : ∃ w0 w1 w2 : Value, args = #[w0, w1, w2] := by
    have hs : args.size = 3 := by simpa [Cond.value, given_1] using g1
    obtain ⟨L⟩ := args
    match L, hs with
    | [w0, w1, w2], _ => exact ⟨w0, w1, w2, rfl⟩
  have hw := fun d (hd : d ∈ tables_1) => atoms_spec (ws := Jvm.Cond.code x code maxLocals ret :: tables_1) hat d (List.mem_cons_of_mem _ hd)
  obtain ⟨i0, ei0⟩ := isL_v g3
  obtain rfl : w0 = (.long i0) := Option.some.inj ei0
  obtain ⟨i1, ei1⟩ := isL_v g5
  obtain rfl : w1 = (.long i1) := Option.some.inj ei1
  obtain ⟨i2, ei2⟩ := isL_v g6
  obtain rfl : w2 = (.long i2) := Option.some.inj ei2
  obtain ⟨n, o, h1, h2, h3, _, L, rfl, ⟨rfl, N⟩, hq⟩ := own_rmlaw l s _ hw tables_1 i0 i1 i2 s.heap s.heap.size (Nat.le_refl _) p e ha hc hk s m _ below hf ((Spec.applies_iff_loose hf).mp happ).1 ⟨rfl, State.Warmed39.refl s, rfl⟩ trivial
  refine ⟨n, _, h1, h2, h3, hpost _ _ _ _ _ _ ⟨Cond.after_iff.mpr rfl, Cond.after_iff.mpr (eq_i res_at (Term.int_eval (1)) rfl), trivial⟩ ⟨hq.1, hq.2.1, (hq.2.2.sift fun y hy => Or.inr (N y hy)).mono (by decide) (by decide)⟩⟩
theorem main_1_1 : Claimed_1_1 := own_comes fun _ _ _ _ _ _ h hF => ⟨h.1, hF⟩
theorem main_1_2 : Claimed_1_2 := own_comes fun _ _ _ _ _ _ h hF => ⟨h.2.1, hF⟩
end Jvm.Pilot.@@N@@
namespace Jvm.Pilot.@@N@@
open Jvm Jvm.ClassFile Sem Op Lib Jvm.Free Jvm.Stand Jvm.Pilot.@@N@@.Jvm.D
/-! MADE BY PROGRAM (witnessworld.py) out of the Statement's table words and the real class files: 9 classes; the members and pool entries that the words name. The judged class is class 1, her method 1. -/
namespace start1
open Jvm.ClassFile
def u (s : String) : CpInfo := .utf8 (stringToUtf16 s)
/-- a pool by its gaps: so many unusable entries, then the entry; so many at the end -/
def gap : Nat → List CpInfo → List CpInfo
  | 0, r => r
  | n + 1, r => .unusable :: gap n r
def poolList (es : List (Nat × CpInfo)) (last : Nat) : List CpInfo := es.foldr (fun e r => gap e.1 (e.2 :: r)) (gap last [])
def pool (es : List (Nat × CpInfo)) (last : Nat) : Array CpInfo := ⟨poolList es last⟩
def fileOf (pool : Array CpInfo) (this : Nat) (attrs : Array Attribute := #[]) (ms : Array MethodInfo := #[]) (fl : Nat := 33) (sup : Nat := 0) (ifs : Array Nat := #[]) (fds : Array FieldInfo := #[]) : ClassFile where
  minorVersion := 0
  majorVersion := 65
  constantPool := pool
  accessFlags := fl
  thisClass := this
  superClass := sup
  interfaces := ifs
  fields := fds
  methods := ms
  attributes := attrs
def plain (name : String) (sup : Option ClassId) : Class where
  name := name
  kind := .ordinary
  loader := none
  accessFlags := 33
  super := sup
  interfaces := #[]
  cf := none
  fields := #[]
  methods := #[]
  instanceTypes := #[]
  staticTypes := #[]
  resolved := #[]
  callSites := []
  init := .initialized
  statics := none
  mirror := none

def pool0 : Array CpInfo := pool [(5, u "<init>"), (0, u "()V"), (1, .class_ 10), (1, u "java/lang/Object")] 113

def k0c0 : Code := { maxStack := 0, maxLocals := 1, code := object_method_1_code, exceptionTable := #[], attributes := #[] }
def k0m0 : Method := { name := "<init>", desc := "()V", sig := { parameters := [], returnType := none }, accessFlags := 1, code := some k0c0 }
/-- java/lang/Object -/
def k0 : Class := { plain "java/lang/Object" none with
  accessFlags := 33
  interfaces := #[]
  cf := some (fileOf pool0 8 #[] #[{ accessFlags := 1, nameIndex := 5, descriptorIndex := 6, attributes := #[] }] 33 0 #[] #[])
  fields := #[]
  methods := #[k0m0]
  instanceTypes := #[]
  staticTypes := #[]
  resolved := Array.replicate 124 none
  statics := none }

def pool1 : Array CpInfo := pool [(2, .class_ 4), (1, u "java/lang/Object"), (0, u "<init>"), (0, u "()V"), (0, .methodref 8 9), (0, .class_ 10), (0, .nameAndType 11 12), (0, u "com/example/leaselock/leaselock/Answer"), (0, u "retry"), (0, u "(JJ)Lcom/example/leaselock/leaselock/Answer;"), (0, .methodref 8 14), (0, .nameAndType 15 16), (0, u "asked"), (0, u "()J"), (0, .methodref 8 18), (0, .nameAndType 19 20), (0, u "granted"), (0, u "()Z"), (0, .methodref 8 22), (0, .nameAndType 23 24), (0, u "grant"), (0, u "()Lcom/example/leaselock/leaselock/Grant;"), (0, .methodref 8 26), (0, .nameAndType 27 16), (0, u "sleepNanos"), (0, .methodref 8 29), (0, .nameAndType 30 20), (0, u "endsAtRelease"), (0, .methodref 8 32), (0, .nameAndType 33 34), (0, u "sleepingAtMost"), (0, u "(J)Lcom/example/leaselock/leaselock/Answer;"), (0, .class_ 36), (0, u "com/example/leaselock/leaselock/AnswerRetryPinLaw"), (2, u "law"), (0, u "(JJJ)Z")] 3

def k1m0 : Method := { name := "<init>", desc := "()V", sig := { parameters := [], returnType := none }, accessFlags := 2, code := none }
def k1c1 : Code := { maxStack := 4, maxLocals := 11, code := code, exceptionTable := #[], attributes := #[] }
def k1m1 : Method := { name := "law", desc := "(JJJ)Z", sig := { parameters := [.long, .long, .long], returnType := some .boolean }, accessFlags := 9, code := some k1c1 }
/-- com/example/leaselock/leaselock/AnswerRetryPinLaw -/
def k1 : Class := { plain "com/example/leaselock/leaselock/AnswerRetryPinLaw" (some 0) with
  accessFlags := 49
  interfaces := #[]
  cf := some (fileOf pool1 35 #[] #[{ accessFlags := 2, nameIndex := 5, descriptorIndex := 6, attributes := #[] }, { accessFlags := 9, nameIndex := 39, descriptorIndex := 40, attributes := #[] }] 49 2 #[] #[])
  fields := #[]
  methods := #[k1m0, k1m1]
  instanceTypes := #[]
  staticTypes := #[]
  resolved := Array.replicate 44 none
  statics := none }

def pool2 : Array CpInfo := pool [(1, .methodref 2 3), (0, .class_ 4), (0, .nameAndType 5 6), (0, u "java/lang/Object"), (0, u "<init>"), (0, u "()V"), (0, .fieldref 8 9), (0, .class_ 10), (0, .nameAndType 11 12), (0, u "com/example/leaselock/leaselock/Answer"), (0, u "asked"), (0, u "J"), (0, .fieldref 8 14), (0, .nameAndType 15 16), (0, u "grant"), (0, u "Lcom/example/leaselock/leaselock/Grant;"), (0, .fieldref 8 18), (0, .nameAndType 19 12), (0, u "sleepNanos"), (0, .fieldref 8 21), (0, .nameAndType 22 23), (0, u "endsAtRelease"), (0, u "Z"), (0, .methodref 8 25), (0, .nameAndType 5 26), (0, u "(JLcom/example/leaselock/leaselock/Grant;JZ)V"), (2, u "granted"), (2, u "(JJ)Lcom/example/leaselock/leaselock/Answer;"), (0, u "retry"), (0, u "sleepingAtMost"), (0, u "(J)Lcom/example/leaselock/leaselock/Answer;"), (1, u "()J"), (0, u "()Z"), (0, u "()Lcom/example/leaselock/leaselock/Grant;")] 2

def k2c0 : Code := { maxStack := 3, maxLocals := 7, code := prog_1_method_1_code, exceptionTable := #[], attributes := #[] }
def k2m0 : Method := { name := "<init>", desc := "(JLcom/example/leaselock/leaselock/Grant;JZ)V", sig := { parameters := [.long, (.object "com/example/leaselock/leaselock/Grant"), .long, .boolean], returnType := none }, accessFlags := 2, code := some k2c0 }
def k2c1 : Code := { maxStack := 8, maxLocals := 4, code := prog_1_method_4_code, exceptionTable := #[], attributes := #[] }
def k2m1 : Method := { name := "retry", desc := "(JJ)Lcom/example/leaselock/leaselock/Answer;", sig := { parameters := [.long, .long], returnType := some (.object "com/example/leaselock/leaselock/Answer") }, accessFlags := 8, code := some k2c1 }
def k2c2 : Code := { maxStack := 8, maxLocals := 4, code := prog_1_method_5_code, exceptionTable := #[], attributes := #[] }
def k2m2 : Method := { name := "sleepingAtMost", desc := "(J)Lcom/example/leaselock/leaselock/Answer;", sig := { parameters := [.long], returnType := some (.object "com/example/leaselock/leaselock/Answer") }, accessFlags := 0, code := some k2c2 }
def k2c3 : Code := { maxStack := 2, maxLocals := 1, code := prog_1_method_6_code, exceptionTable := #[], attributes := #[] }
def k2m3 : Method := { name := "asked", desc := "()J", sig := { parameters := [], returnType := some .long }, accessFlags := 0, code := some k2c3 }
def k2c4 : Code := { maxStack := 1, maxLocals := 1, code := prog_1_method_7_code, exceptionTable := #[], attributes := #[] }
def k2m4 : Method := { name := "granted", desc := "()Z", sig := { parameters := [], returnType := some .boolean }, accessFlags := 0, code := some k2c4 }
def k2c5 : Code := { maxStack := 1, maxLocals := 1, code := prog_1_method_8_code, exceptionTable := #[], attributes := #[] }
def k2m5 : Method := { name := "grant", desc := "()Lcom/example/leaselock/leaselock/Grant;", sig := { parameters := [], returnType := some (.object "com/example/leaselock/leaselock/Grant") }, accessFlags := 0, code := some k2c5 }
def k2c6 : Code := { maxStack := 2, maxLocals := 1, code := prog_1_method_9_code, exceptionTable := #[], attributes := #[] }
def k2m6 : Method := { name := "sleepNanos", desc := "()J", sig := { parameters := [], returnType := some .long }, accessFlags := 0, code := some k2c6 }
def k2c7 : Code := { maxStack := 1, maxLocals := 1, code := prog_1_method_10_code, exceptionTable := #[], attributes := #[] }
def k2m7 : Method := { name := "endsAtRelease", desc := "()Z", sig := { parameters := [], returnType := some .boolean }, accessFlags := 0, code := some k2c7 }
/-- com/example/leaselock/leaselock/Answer -/
def k2 : Class := { plain "com/example/leaselock/leaselock/Answer" (some 0) with
  accessFlags := 32
  interfaces := #[]
  cf := some (fileOf pool2 8 #[] #[{ accessFlags := 2, nameIndex := 5, descriptorIndex := 26, attributes := #[] }, { accessFlags := 8, nameIndex := 33, descriptorIndex := 32, attributes := #[] }, { accessFlags := 0, nameIndex := 34, descriptorIndex := 35, attributes := #[] }, { accessFlags := 0, nameIndex := 11, descriptorIndex := 37, attributes := #[] }, { accessFlags := 0, nameIndex := 29, descriptorIndex := 38, attributes := #[] }, { accessFlags := 0, nameIndex := 15, descriptorIndex := 39, attributes := #[] }, { accessFlags := 0, nameIndex := 19, descriptorIndex := 37, attributes := #[] }, { accessFlags := 0, nameIndex := 22, descriptorIndex := 38, attributes := #[] }] 32 2 #[] #[{ accessFlags := 18, nameIndex := 11, descriptorIndex := 12, attributes := #[] }, { accessFlags := 18, nameIndex := 15, descriptorIndex := 16, attributes := #[] }, { accessFlags := 18, nameIndex := 19, descriptorIndex := 12, attributes := #[] }, { accessFlags := 18, nameIndex := 22, descriptorIndex := 23, attributes := #[] }])
  fields := #[{ name := "asked", type := .long, accessFlags := 18, slot := 0, constantValue := 0 }, { name := "grant", type := (.object "com/example/leaselock/leaselock/Grant"), accessFlags := 18, slot := 1, constantValue := 0 }, { name := "sleepNanos", type := .long, accessFlags := 18, slot := 2, constantValue := 0 }, { name := "endsAtRelease", type := .boolean, accessFlags := 18, slot := 3, constantValue := 0 }]
  methods := #[k2m0, k2m1, k2m2, k2m3, k2m4, k2m5, k2m6, k2m7]
  instanceTypes := #[.long, (.object "com/example/leaselock/leaselock/Grant"), .long, .boolean]
  staticTypes := #[]
  resolved := Array.replicate 42 none
  statics := none }

def pool3 : Array CpInfo := pool [(1, u "java/lang/Cloneable"), (0, .class_ 1), (0, u "java/lang/Object"), (0, .class_ 3)] 3

/-- java/lang/Cloneable -/
def k3 : Class := { plain "java/lang/Cloneable" (some 0) with
  accessFlags := 1537
  interfaces := #[]
  cf := some (fileOf pool3 2 #[] #[] 1537 4 #[] #[])
  fields := #[]
  methods := #[]
  instanceTypes := #[]
  staticTypes := #[]
  resolved := Array.replicate 8 none
  statics := none }

def pool4 : Array CpInfo := pool [(1, u "java/io/Serializable"), (0, .class_ 1), (0, u "java/lang/Object"), (0, .class_ 3)] 3

/-- java/io/Serializable -/
def k4 : Class := { plain "java/io/Serializable" (some 0) with
  accessFlags := 1537
  interfaces := #[]
  cf := some (fileOf pool4 2 #[] #[] 1537 4 #[] #[])
  fields := #[]
  methods := #[]
  instanceTypes := #[]
  staticTypes := #[]
  resolved := Array.replicate 8 none
  statics := none }

/-- the primitive byte -/
def k5 : Class := { plain "byte" none with kind := .primitive 'B', accessFlags := 0x411 }
/-- [B -/
def k6 : Class := { plain "[B" (some 0) with kind := .array 5 .byte, interfaces := #[3, 4], accessFlags := 1041 }

/-- the primitive int -/
def k7 : Class := { plain "int" none with kind := .primitive 'I', accessFlags := 0x411 }
/-- [I -/
def k8 : Class := { plain "[I" (some 0) with kind := .array 7 .int, interfaces := #[3, 4], accessFlags := 1041 }

def heap : Heap := #[]
def classes : Array Class := #[k0, k1, k2, k3, k4, k5, k6, k7, k8]
def interned : List (Array UInt16 × Addr) := []
def slotsUsed : Nat := 0
def theMethod : MethodId := ⟨1, 1⟩
def args0 : Array Value := #[.long 5, .long 9, .long 3]
def aboutOver (below : List Frame) : State where
  vm := { classes := classes, interned := interned.toArray }
  heap := heap
  slotsUsed := slotsUsed
  threads := #[{ frames := .invoking theMethod args0 :: below }]
def below0 : List Frame := [.native { method := ⟨0, 0⟩, args := #[] }]
def about1 : State := aboutOver below0
def p0 : Program := .bare "" "" ""
def e0 : Env := launch0.env 0 0 0
theorem w_frames : about1.frames = Frame.invoking theMethod args0 :: below0 := rfl
set_option maxRecDepth 65536 in
theorem w_args : argsFit about1.vm theMethod args0 = true := by decide +kernel
set_option maxRecDepth 65536 in
theorem w_heap : heapFits about1 = true := by decide +kernel
set_option maxRecDepth 65536 in
theorem w_runnable : about1.curStatus? = some .runnable := by decide +kernel
set_option maxRecDepth 65536 in
theorem w_alone : about1.alone = true := by decide +kernel
set_option maxRecDepth 65536 in
theorem w_named : about1.methodNamed? x = some theMethod := by decide +kernel
set_option maxRecDepth 65536 in
theorem w_hears : about1.hears theMethod below0 = true := by decide +kernel
set_option maxRecDepth 65536 in
theorem w_ripe : about1.ripe theMethod args0 below0 = true := by decide +kernel
theorem w_running : about1.status = .running := rfl
set_option maxRecDepth 65536 in
theorem w_room : about1.hasRoom e0.platform room_1 = true :=
  launch0.hasRoom_least _ room_1 (by decide +kernel) (by decide +kernel) (by decide +kernel) (by decide +kernel) (by decide +kernel) (by decide +kernel)
theorem allAtoms_all (ts : List Jvm.Cond) (a : Array Jvm.Value) (st : Jvm.State) : (allAtoms ts).before a st = ts.all (fun c => c.before a st) := by
  induction ts with
  | nil => rfl
  | cons c t ih =>
    show (Jvm.Cond.and c (allAtoms t)).before a st = _
    rw [Jvm.Cond.before_and, ih, List.all_cons]
def words1 : List Jvm.Cond := Jvm.Cond.code x code maxLocals ret :: tables_1
/-- a 'code' word, met by the world's own term for the bytes: nothing is compared byte by byte -/
theorem code_word {y : MethodName} {bytes : ByteArray} {mx : Nat} {rt : Option FieldType} {a : Array Value} {s : State} {m : MethodId} {meth : Method} {c : Code} (h1 : s.methodNamed? y = some m) (h2 : s.vm.method? m = some meth) (h3 : meth.code = some c) (h4 : c.code = bytes)
    (h5 : (c.maxLocals == mx && c.exceptionTable.isEmpty && decide (c.maxStack ≤ mostOperands) && decide (meth.sig.returnType = rt) && !meth.locks && decide (parseMethodDescriptor y.desc = some meth.sig)) = true) : (Jvm.Cond.code y bytes mx rt).before a s = true := by
  simp only [Bool.and_eq_true, beq_iff_eq, Bool.not_eq_true', decide_eq_true_eq] at h5
  obtain ⟨⟨⟨⟨⟨g1, g2⟩, g3⟩, g4⟩, g5⟩, g6⟩ := h5
  simp [Cond.before, Cond.holds, Cond.value, h1, h2, h3, h4, g1, g2, g3, g4, g5, g6]
def isCode : Jvm.Cond → Bool
  | .code _ _ _ _ => true
  | _ => false
theorem all_split {L : List Jvm.Cond} {P : Jvm.Cond → Bool} (h1 : L.all (fun c => isCode c || P c) = true) (h2 : ∀ c ∈ L.filter isCode, P c = true) : L.all P = true := by
  refine List.all_eq_true.mpr fun c hc => ?_
  have h := List.all_eq_true.mp h1 c hc
  rcases Bool.eq_false_or_eq_true (isCode c) with hi | hi
  · exact h2 c (List.mem_filter.mpr ⟨hc, hi⟩)
  · simpa [hi] using h
set_option maxRecDepth 65536 in
theorem w_c0 : (Jvm.Cond.code x code maxLocals ret).before args0 about1 = true := code_word (m := ⟨1, 1⟩) (meth := k1m1) (c := k1c1) (by decide +kernel) rfl rfl rfl (by decide +kernel)
set_option maxRecDepth 65536 in
theorem w_c1 : (Jvm.Cond.code ({ cls := "com/example/leaselock/leaselock/Answer", name := "retry", desc := "(JJ)Lcom/example/leaselock/leaselock/Answer;" } : Jvm.MethodName) prog_1_method_4_code (4 : Nat) (Option.some (Jvm.ClassFile.FieldType.object "com/example/leaselock/leaselock/Answer"))).before args0 about1 = true := code_word (m := ⟨2, 1⟩) (meth := k2m1) (c := k2c1) (by decide +kernel) rfl rfl rfl (by decide +kernel)
set_option maxRecDepth 65536 in
theorem w_c2 : (Jvm.Cond.code ({ cls := "com/example/leaselock/leaselock/Answer", name := "<init>", desc := "(JLcom/example/leaselock/leaselock/Grant;JZ)V" } : Jvm.MethodName) prog_1_method_1_code (7 : Nat) (Option.none : Option Jvm.ClassFile.FieldType)).before args0 about1 = true := code_word (m := ⟨2, 0⟩) (meth := k2m0) (c := k2c0) (by decide +kernel) rfl rfl rfl (by decide +kernel)
set_option maxRecDepth 65536 in
theorem w_c3 : (Jvm.Cond.code ({ cls := "java/lang/Object", name := "<init>", desc := "()V" } : Jvm.MethodName) object_method_1_code (1 : Nat) (Option.none : Option Jvm.ClassFile.FieldType)).before args0 about1 = true := code_word (m := ⟨0, 0⟩) (meth := k0m0) (c := k0c0) (by decide +kernel) rfl rfl rfl (by decide +kernel)
set_option maxRecDepth 65536 in
theorem w_c4 : (Jvm.Cond.code ({ cls := "com/example/leaselock/leaselock/Answer", name := "asked", desc := "()J" } : Jvm.MethodName) prog_1_method_6_code (1 : Nat) (Option.some Jvm.ClassFile.FieldType.long)).before args0 about1 = true := code_word (m := ⟨2, 3⟩) (meth := k2m3) (c := k2c3) (by decide +kernel) rfl rfl rfl (by decide +kernel)
set_option maxRecDepth 65536 in
theorem w_c5 : (Jvm.Cond.code ({ cls := "com/example/leaselock/leaselock/Answer", name := "granted", desc := "()Z" } : Jvm.MethodName) prog_1_method_7_code (1 : Nat) (Option.some Jvm.ClassFile.FieldType.boolean)).before args0 about1 = true := code_word (m := ⟨2, 4⟩) (meth := k2m4) (c := k2c4) (by decide +kernel) rfl rfl rfl (by decide +kernel)
set_option maxRecDepth 65536 in
theorem w_c6 : (Jvm.Cond.code ({ cls := "com/example/leaselock/leaselock/Answer", name := "grant", desc := "()Lcom/example/leaselock/leaselock/Grant;" } : Jvm.MethodName) prog_1_method_8_code (1 : Nat) (Option.some (Jvm.ClassFile.FieldType.object "com/example/leaselock/leaselock/Grant"))).before args0 about1 = true := code_word (m := ⟨2, 5⟩) (meth := k2m5) (c := k2c5) (by decide +kernel) rfl rfl rfl (by decide +kernel)
set_option maxRecDepth 65536 in
theorem w_c7 : (Jvm.Cond.code ({ cls := "com/example/leaselock/leaselock/Answer", name := "sleepNanos", desc := "()J" } : Jvm.MethodName) prog_1_method_9_code (1 : Nat) (Option.some Jvm.ClassFile.FieldType.long)).before args0 about1 = true := code_word (m := ⟨2, 6⟩) (meth := k2m6) (c := k2c6) (by decide +kernel) rfl rfl rfl (by decide +kernel)
set_option maxRecDepth 65536 in
theorem w_c8 : (Jvm.Cond.code ({ cls := "com/example/leaselock/leaselock/Answer", name := "endsAtRelease", desc := "()Z" } : Jvm.MethodName) prog_1_method_10_code (1 : Nat) (Option.some Jvm.ClassFile.FieldType.boolean)).before args0 about1 = true := code_word (m := ⟨2, 7⟩) (meth := k2m7) (c := k2c7) (by decide +kernel) rfl rfl rfl (by decide +kernel)
set_option maxRecDepth 65536 in
theorem w_c9 : (Jvm.Cond.code ({ cls := "com/example/leaselock/leaselock/Answer", name := "sleepingAtMost", desc := "(J)Lcom/example/leaselock/leaselock/Answer;" } : Jvm.MethodName) prog_1_method_5_code (4 : Nat) (Option.some (Jvm.ClassFile.FieldType.object "com/example/leaselock/leaselock/Answer"))).before args0 about1 = true := code_word (m := ⟨2, 2⟩) (meth := k2m2) (c := k2c2) (by decide +kernel) rfl rfl rfl (by decide +kernel)
def codes1 : List Jvm.Cond := [Jvm.Cond.code x code maxLocals ret, Jvm.Cond.code ({ cls := "com/example/leaselock/leaselock/Answer", name := "retry", desc := "(JJ)Lcom/example/leaselock/leaselock/Answer;" } : Jvm.MethodName) prog_1_method_4_code (4 : Nat) (Option.some (Jvm.ClassFile.FieldType.object "com/example/leaselock/leaselock/Answer")), Jvm.Cond.code ({ cls := "com/example/leaselock/leaselock/Answer", name := "<init>", desc := "(JLcom/example/leaselock/leaselock/Grant;JZ)V" } : Jvm.MethodName) prog_1_method_1_code (7 : Nat) (Option.none : Option Jvm.ClassFile.FieldType), Jvm.Cond.code ({ cls := "java/lang/Object", name := "<init>", desc := "()V" } : Jvm.MethodName) object_method_1_code (1 : Nat) (Option.none : Option Jvm.ClassFile.FieldType), Jvm.Cond.code ({ cls := "com/example/leaselock/leaselock/Answer", name := "asked", desc := "()J" } : Jvm.MethodName) prog_1_method_6_code (1 : Nat) (Option.some Jvm.ClassFile.FieldType.long), Jvm.Cond.code ({ cls := "com/example/leaselock/leaselock/Answer", name := "granted", desc := "()Z" } : Jvm.MethodName) prog_1_method_7_code (1 : Nat) (Option.some Jvm.ClassFile.FieldType.boolean), Jvm.Cond.code ({ cls := "com/example/leaselock/leaselock/Answer", name := "grant", desc := "()Lcom/example/leaselock/leaselock/Grant;" } : Jvm.MethodName) prog_1_method_8_code (1 : Nat) (Option.some (Jvm.ClassFile.FieldType.object "com/example/leaselock/leaselock/Grant")), Jvm.Cond.code ({ cls := "com/example/leaselock/leaselock/Answer", name := "sleepNanos", desc := "()J" } : Jvm.MethodName) prog_1_method_9_code (1 : Nat) (Option.some Jvm.ClassFile.FieldType.long), Jvm.Cond.code ({ cls := "com/example/leaselock/leaselock/Answer", name := "endsAtRelease", desc := "()Z" } : Jvm.MethodName) prog_1_method_10_code (1 : Nat) (Option.some Jvm.ClassFile.FieldType.boolean), Jvm.Cond.code ({ cls := "com/example/leaselock/leaselock/Answer", name := "sleepingAtMost", desc := "(J)Lcom/example/leaselock/leaselock/Answer;" } : Jvm.MethodName) prog_1_method_5_code (4 : Nat) (Option.some (Jvm.ClassFile.FieldType.object "com/example/leaselock/leaselock/Answer"))]
set_option maxRecDepth 65536 in
theorem codes_eq : words1.filter isCode = codes1 := rfl
theorem w_codes : ∀ c ∈ words1.filter isCode, c.before args0 about1 = true := by
  rw [codes_eq]
  intro c hc
  simp only [codes1, List.mem_cons, List.not_mem_nil, or_false] at hc
  rcases hc with rfl | rfl | rfl | rfl | rfl | rfl | rfl | rfl | rfl | rfl
  · exact w_c0
  · exact w_c1
  · exact w_c2
  · exact w_c3
  · exact w_c4
  · exact w_c5
  · exact w_c6
  · exact w_c7
  · exact w_c8
  · exact w_c9
set_option maxRecDepth 65536 in
theorem w_t1 : (words1.take 24).all (fun c => isCode c || c.before args0 about1) = true := by decide +kernel
set_option maxRecDepth 65536 in
theorem w_t2 : ((words1.drop 24).take 24).all (fun c => isCode c || c.before args0 about1) = true := by decide +kernel
set_option maxRecDepth 65536 in
theorem w_t3 : ((words1.drop 24).drop 24).all (fun c => isCode c || c.before args0 about1) = true := by decide +kernel
theorem w_tables : (allAtoms (Jvm.Cond.code x code maxLocals ret :: tables_1)).before args0 about1 = true := by
  rw [allAtoms_all]
  show words1.all (fun c => c.before args0 about1) = true
  refine all_split ?_ w_codes
  rw [← List.take_append_drop 24 words1, List.all_append, w_t1, ← List.take_append_drop 24 (words1.drop 24), List.all_append, w_t2, w_t3]
  rfl
set_option maxRecDepth 65536 in
theorem w_case : (Jvm.Cond.and given_1 narrow_1).before args0 about1 = true := by decide +kernel
theorem w_applies : (headSpec (Jvm.Cond.code x code maxLocals ret :: tables_1) room_1).applies x e0.platform about1 = true :=
  (Spec.applies_iff w_frames).mpr ⟨w_running, w_runnable, w_alone, w_named, w_hears, w_ripe, w_room, w_tables⟩
theorem atStart : AtStart classFile x code maxLocals ret World_1 tables_1 room_1 Calls_1 rest_1 Pre_1 launch0 p0 e0 about1 theMethod args0 below0 :=
  ⟨lists_1, trivial, launch0.admits_env _ _ _, launch0.least_env, fairChoices_fair.cas, fairChoices_fair.clock, w_frames, w_args, w_heap, w_applies, trivial, trivial, w_case⟩
end start1
theorem witness_1 : WitnessClaimed_1 := ⟨start1.p0, start1.e0, start1.about1, start1.theMethod, start1.args0, start1.below0, start1.atStart⟩
end Jvm.Pilot.@@N@@

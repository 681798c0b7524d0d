import JvmDerived
import JvmDerived.Pilot.@@N@@Statement
import JvmDerived.Pilot.@@N@@Code
set_option linter.unusedVariables false
set_option linter.unusedSimpArgs false
namespace Jvm.Pilot.@@N@@
open Jvm Jvm.ClassFile Sem Op Lib Jvm.Free Jvm.Stand Jvm.LawKit Jvm.RoadKit Bundle Jvm.Pilot.@@N@@.Jvm.D
/-! own layer: forward walking in continuation style, arrays as functions -/
def own_R (tb : Tables) (e : Env) (below : List Frame) (P : State → Outcome → Prop) (st : State) : Prop := ∃ t o, Steps tb e below st t ∧ P t o
theorem own_fwd {tb : Tables} {e : Env} {below : List Frame} {P : State → Outcome → Prop} {st st' : State} (k : ∀ t, Steps tb e below st' t → Steps tb e below st t) (h : own_R tb e below P st') : own_R tb e below P st := by
  obtain ⟨t, o, h1, h2⟩ := h; exact ⟨t, o, k t h1, h2⟩
theorem own_trn {tb : Tables} {e : Env} {below : List Frame} {P : State → Outcome → Prop} {st st' : State} (k : Steps tb e below st st') (h : own_R tb e below P st') : own_R tb e below P st := own_fwd (fun _ q => k.trans q) h
theorem own_nm {tb : Tables} {e : Env} {below : List Frame} {P : State → Outcome → Prop} {st : State} (h : ∀ P' : State → Outcome → Prop, (∀ t o, P t o → P' t o) → own_R tb e below P' st) : own_R tb e below P st := h P fun _ _ q => q
/-- an array, n long, place i holds f i -/
def own_AV (Z : State) (h : Heap) (a : Addr) (ty : FieldType) (n : Nat) (f : Nat → Value) : Prop := ∃ c : Cell, Arr Z h a c ty ∧ c.slots.size = n ∧ n < 2 ^ 31 ∧ ∀ i, i < n → c.slots[i]? = some (f i)
abbrev own_AI (Z : State) (h : Heap) (a : Addr) (ty : FieldType) (n : Nat) (f : Nat → Int32) : Prop := own_AV Z h a ty n fun i => .int (f i)
abbrev own_AJ (Z : State) (h : Heap) (a : Addr) (n : Nat) (f : Nat → Int64) : Prop := own_AV Z h a .long n fun i => .long (f i)
def own_upd {α : Type} (f : Nat → α) (i : Nat) (x : α) : Nat → α := fun k => if k = i then x else f k
theorem own_upd_hit {α : Type} (f : Nat → α) (i : Nat) (x : α) : own_upd f i x i = x := if_pos rfl
theorem own_upd_miss {α : Type} (f : Nat → α) {i k : Nat} (x : α) (q : k ≠ i) : own_upd f i x k = f k := if_neg q
section Own
variable {p : Program} {l : Launch} {e : Env} {R : Room} {s : State} {m : MethodId} {args : Array Value} {below : List Frame} {meth : Method} {c : Code} {T : State} {locs : List Loc} {cells slots : Nat} {Z : State} {a0 : Array Value} {h h' : Heap} {a b : Addr} {ty : FieldType} {n : Nat} {f : Nat → Value} {v : Value} {sl : Nat}
theorem own_AV.lt (F : own_AV Z h a ty n f) : a < h.size := by obtain ⟨c, A, -⟩ := F; exact A.lt
theorem own_AV.bd (F : own_AV Z h a ty n f) : n < 2 ^ 31 := by obtain ⟨c, A, -, q, -⟩ := F; exact q
theorem own_AV.ext (F : own_AV Z h a ty n f) (E : Ext h h') : own_AV Z h' a ty n f := by obtain ⟨c, A, r⟩ := F; exact ⟨c, A.ext E, r⟩
theorem own_AV.other (F : own_AV Z h b ty n f) (W : Wr h h' a sl v) (q : b ≠ a) : own_AV Z h' b ty n f := by obtain ⟨c, A, r⟩ := F; exact ⟨c, A.other W q, r⟩
theorem own_AV.keep {ws : List Addr} (F : own_AV Z h a ty n f) (K : Keep h h' ws) (q : a ∉ ws) : own_AV Z h' a ty n f := by obtain ⟨c, A, r⟩ := F; exact ⟨c, ⟨K.2.1 a c A.1 q, A.2⟩, r⟩
theorem own_AV.cong {f' : Nat → Value} (F : own_AV Z h a ty n f) (q : ∀ i, i < n → f' i = f i) : own_AV Z h a ty n f' := by obtain ⟨c, A, r1, r2, r3⟩ := F; exact ⟨c, A, r1, r2, fun i hi => by rw [q i hi]; exact r3 i hi⟩
theorem own_clamp {j : Int32} {i : Nat} (hj : j.toInt = (i : Int)) : j.toNatClampNeg = i ∧ ¬ j < 0 := by
  have q0 : (0 : Int32).toInt = 0 := rfl
  exact ⟨by unfold Int32.toNatClampNeg; omega, by rw [Int32.lt_iff_toInt_lt]; omega⟩
theorem own_inb {cl : Cell} {j : Int32} {i : Nat} (hj : j.toInt = (i : Int)) (S : cl.slots.size = n) (hi : i < n) : ¬ (j < 0 ∨ cl.slots.size ≤ j.toNatClampNeg) := by
  obtain ⟨q1, q2⟩ := own_clamp hj
  rw [q1]; rintro (q | q)
  · exact q2 q
  · omega
theorem own_AV.new {k : ClassId} {z : Int32} (A : Arr Z h a (newA k ty z) ty) (hz : z.toInt = (n : Int)) : own_AV Z h a ty n (fun _ => defaultValue ty) := by
  obtain ⟨q1, q2⟩ := own_clamp hz
  have hb := z.toInt_lt
  refine ⟨_, A, by rw [sz_new]; exact q1, by omega, fun i hi => ?_⟩
  simp [newA, q1, hi]
theorem own_ldI (X : Stand p l e R s m args below meth c T locs cells slots) (hx : p.tables.exec = Jvm.exec) (hZ : Z.Warmed39 s.vm) (eT : T.heap = h) (F : own_AV Z h a .int n f) {j : Int32} (i : Nat) (hj : j.toInt = (i : Int)) (hi : i < n) {g : JFrame} (hg : g.method = m) {rest : List Value} (hs : g.stack = .int j :: .ref a :: rest) (hd : decode c.code g.pc = .ok (.iaload, 1)) :
    ∀ t, Steps p.tables e below (T.setTop { g with pc := g.pc + 1, stack := f i :: rest }) t → Steps p.tables e below (T.setTop g) t := fun t k => by
  obtain ⟨cl, A, S, -, H⟩ := F
  exact X.iaload hx (by rw [eT]; exact A.1) (State.isArrayOf_alike hZ.alike A.2.1) A.2.2 (own_inb hj S hi) (by rw [(own_clamp hj).1]; exact H i hi) hg hs hd t k
theorem own_ldS (X : Stand p l e R s m args below meth c T locs cells slots) (hx : p.tables.exec = Jvm.exec) (hZ : Z.Warmed39 s.vm) (eT : T.heap = h) (F : own_AV Z h a .short n f) {j : Int32} (i : Nat) (hj : j.toInt = (i : Int)) (hi : i < n) {g : JFrame} (hg : g.method = m) {rest : List Value} (hs : g.stack = .int j :: .ref a :: rest) (hd : decode c.code g.pc = .ok (.saload, 1)) :
    ∀ t, Steps p.tables e below (T.setTop { g with pc := g.pc + 1, stack := f i :: rest }) t → Steps p.tables e below (T.setTop g) t := fun t k => by
  obtain ⟨cl, A, S, -, H⟩ := F
  exact X.saload hx (by rw [eT]; exact A.1) (State.isArrayOf_alike hZ.alike A.2.1) A.2.2 (own_inb hj S hi) (by rw [(own_clamp hj).1]; exact H i hi) hg hs hd t k
theorem own_ldC (X : Stand p l e R s m args below meth c T locs cells slots) (hx : p.tables.exec = Jvm.exec) (hZ : Z.Warmed39 s.vm) (eT : T.heap = h) (F : own_AV Z h a .char n f) {j : Int32} (i : Nat) (hj : j.toInt = (i : Int)) (hi : i < n) {g : JFrame} (hg : g.method = m) {rest : List Value} (hs : g.stack = .int j :: .ref a :: rest) (hd : decode c.code g.pc = .ok (.caload, 1)) :
    ∀ t, Steps p.tables e below (T.setTop { g with pc := g.pc + 1, stack := f i :: rest }) t → Steps p.tables e below (T.setTop g) t := fun t k => by
  obtain ⟨cl, A, S, -, H⟩ := F
  exact X.caload hx (by rw [eT]; exact A.1) (State.isArrayOf_alike hZ.alike A.2.1) A.2.2 (own_inb hj S hi) (by rw [(own_clamp hj).1]; exact H i hi) hg hs hd t k
theorem own_ldJ (X : Stand p l e R s m args below meth c T locs cells slots) (hx : p.tables.exec = Jvm.exec) (hZ : Z.Warmed39 s.vm) (eT : T.heap = h) (F : own_AV Z h a .long n f) {j : Int32} (i : Nat) (hj : j.toInt = (i : Int)) (hi : i < n) {g : JFrame} (hg : g.method = m) {rest : List Value} (hs : g.stack = .int j :: .ref a :: rest) (hd : decode c.code g.pc = .ok (.laload, 1)) :
    ∀ t, Steps p.tables e below (T.setTop { g with pc := g.pc + 1, stack := f i :: rest }) t → Steps p.tables e below (T.setTop g) t := fun t k => by
  obtain ⟨cl, A, S, -, H⟩ := F
  exact X.laload hx (by rw [eT]; exact A.1) (State.isArrayOf_alike hZ.alike A.2.1) A.2.2 (own_inb hj S hi) (by rw [(own_clamp hj).1]; exact H i hi) hg hs hd t k
theorem own_len (X : Stand p l e R s m args below meth c T locs cells slots) (hx : p.tables.exec = Jvm.exec) (hZ : Z.Warmed39 s.vm) (eT : T.heap = h) (F : own_AV Z h a ty n f) (z : Int32) (hz : z.toInt = (n : Int)) {g : JFrame} (hg : g.method = m) {rest : List Value} (hs : g.stack = .ref a :: rest) (hd : decode c.code g.pc = .ok (.arraylength, 1)) :
    ∀ t, Steps p.tables e below (T.setTop { g with pc := g.pc + 1, stack := .int z :: rest }) t → Steps p.tables e below (T.setTop g) t := fun t k => by
  obtain ⟨cl, A, S, q, H⟩ := F
  have e1 : cl.slots.size.toInt32 = z := by
    rw [S]; apply Int32.toInt_inj.mp; rw [hz]; exact len_toInt q
  refine X.arraylength hx (by rw [eT]; exact A.1) (State.isArrayOf_alike hZ.alike A.2.1) hg hs hd t ?_
  rw [e1]; exact k
theorem own_AV.set {h' : Heap} {cl : Cell} {j : Int32} {i : Nat} {w : Value} (A : Arr Z h a cl ty) (S : cl.slots.size = n) (q : n < 2 ^ 31) (H : ∀ i, i < n → cl.slots[i]? = some (f i)) (hj : j.toInt = (i : Int)) (hi : i < n) (W : Wr h h' a j.toNatClampNeg w) : own_AV Z h' a ty n (own_upd f i w) := by
  rw [(own_clamp hj).1] at W
  refine ⟨_, A.same W, by rw [sz_set]; exact S, q, fun k hk => ?_⟩
  by_cases e : k = i
  · subst e; rw [own_upd_hit]; simp [Cell.setSlot, S, hi]
  · rw [own_upd_miss _ _ e]; simp only [Cell.setSlot]; rw [Array.getElem?_setIfInBounds_ne (Ne.symm e)]; exact H k hk
theorem own_stI {g0 : Nat → Int32} (X : Stand p l e R s m args below meth c T locs cells slots) (hx : p.tables.exec = Jvm.exec) (hZ : Z.Warmed39 s.vm) (eT : T.heap = h) (F : own_AI Z h a .int n g0) {j x : Int32} (i : Nat) (hj : j.toInt = (i : Int)) (hi : i < n) {g : JFrame} (hg : g.method = m) {rest : List Value} (hs : g.stack = .int x :: .int j :: .ref a :: rest) (hd : decode c.code g.pc = .ok (.iastore, 1)) :
    ∃ T' h', Stand p l e R s m args below meth c T' (locs ++ [⟨a, j.toNatClampNeg⟩]) cells slots ∧ T'.heap = h' ∧ Wr h h' a j.toNatClampNeg (.int x) ∧ own_AI Z h' a .int n (own_upd g0 i x) ∧ ∀ t, Steps p.tables e below (T'.setTop { g with pc := g.pc + 1, stack := rest }) t → Steps p.tables e below (T.setTop g) t := by
  obtain ⟨cl, A, S, q, H⟩ := F
  obtain ⟨T', h', X', e', W, st⟩ := stI X hx hZ eT A (own_inb hj S hi) hg hs hd
  exact ⟨T', h', X', e', W, (own_AV.set A S q H hj hi W).cong fun k _ => by simp only [own_upd]; split <;> rfl, st⟩
theorem own_stS {g0 : Nat → Int32} (X : Stand p l e R s m args below meth c T locs cells slots) (hx : p.tables.exec = Jvm.exec) (hZ : Z.Warmed39 s.vm) (eT : T.heap = h) (F : own_AI Z h a .short n g0) {j x : Int32} (i : Nat) (hj : j.toInt = (i : Int)) (hi : i < n) {g : JFrame} (hg : g.method = m) {rest : List Value} (hs : g.stack = .int x :: .int j :: .ref a :: rest) (hd : decode c.code g.pc = .ok (.sastore, 1)) :
    ∃ T' h', Stand p l e R s m args below meth c T' (locs ++ [⟨a, j.toNatClampNeg⟩]) cells slots ∧ T'.heap = h' ∧ Wr h h' a j.toNatClampNeg (.int (nar .short x)) ∧ own_AI Z h' a .short n (own_upd g0 i (nar .short x)) ∧ ∀ t, Steps p.tables e below (T'.setTop { g with pc := g.pc + 1, stack := rest }) t → Steps p.tables e below (T.setTop g) t := by
  obtain ⟨cl, A, S, q, H⟩ := F
  obtain ⟨T', h', X', e', W, st⟩ := stS X hx hZ eT A (own_inb hj S hi) hg hs hd
  exact ⟨T', h', X', e', W, (own_AV.set A S q H hj hi W).cong fun k _ => by simp only [own_upd]; split <;> rfl, st⟩
theorem own_stC {g0 : Nat → Int32} (X : Stand p l e R s m args below meth c T locs cells slots) (hx : p.tables.exec = Jvm.exec) (hZ : Z.Warmed39 s.vm) (eT : T.heap = h) (F : own_AI Z h a .char n g0) {j x : Int32} (i : Nat) (hj : j.toInt = (i : Int)) (hi : i < n) {g : JFrame} (hg : g.method = m) {rest : List Value} (hs : g.stack = .int x :: .int j :: .ref a :: rest) (hd : decode c.code g.pc = .ok (.castore, 1)) :
    ∃ T' h', Stand p l e R s m args below meth c T' (locs ++ [⟨a, j.toNatClampNeg⟩]) cells slots ∧ T'.heap = h' ∧ Wr h h' a j.toNatClampNeg (.int (nar .char x)) ∧ own_AI Z h' a .char n (own_upd g0 i (nar .char x)) ∧ ∀ t, Steps p.tables e below (T'.setTop { g with pc := g.pc + 1, stack := rest }) t → Steps p.tables e below (T.setTop g) t := by
  obtain ⟨cl, A, S, q, H⟩ := F
  obtain ⟨T', h', X', e', W, st⟩ := stC X hx hZ eT A (own_inb hj S hi) hg hs hd
  exact ⟨T', h', X', e', W, (own_AV.set A S q H hj hi W).cong fun k _ => by simp only [own_upd]; split <;> rfl, st⟩
theorem own_stJ {g0 : Nat → Int64} (X : Stand p l e R s m args below meth c T locs cells slots) (hx : p.tables.exec = Jvm.exec) (hZ : Z.Warmed39 s.vm) (eT : T.heap = h) (F : own_AJ Z h a n g0) {j : Int32} {x : Int64} (i : Nat) (hj : j.toInt = (i : Int)) (hi : i < n) {g : JFrame} (hg : g.method = m) {rest : List Value} (hs : g.stack = .long x :: .int j :: .ref a :: rest) (hd : decode c.code g.pc = .ok (.lastore, 1)) :
    ∃ T' h', Stand p l e R s m args below meth c T' (locs ++ [⟨a, j.toNatClampNeg⟩]) cells slots ∧ T'.heap = h' ∧ Wr h h' a j.toNatClampNeg (.long x) ∧ own_AJ Z h' a n (own_upd g0 i x) ∧ ∀ t, Steps p.tables e below (T'.setTop { g with pc := g.pc + 1, stack := rest }) t → Steps p.tables e below (T.setTop g) t := by
  obtain ⟨cl, A, S, q, H⟩ := F
  obtain ⟨T', h', X', e', W, st⟩ := stJ X hx hZ eT A (own_inb hj S hi) hg hs hd
  exact ⟨T', h', X', e', W, (own_AV.set A S q H hj hi W).cong fun k _ => by simp only [own_upd]; split <;> rfl, st⟩
theorem own_newA (X : Stand p l e R s m args below meth c T locs cells slots) (hx : p.tables.exec = Jvm.exec) (hZ : Z.Warmed39 s.vm) {aty : ArrayType} (w : (Cond.arrayClass (newarray.typeOf aty)).before a0 Z = true) (eT : T.heap = h) {z : Int32} (hz : z.toInt = (n : Int)) {cap : Nat} (hcap : n ≤ cap) {g : JFrame} (hg : g.method = m) (hd : decode c.code g.pc = .ok (.newarray aty, 2)) {rest : List Value} (hs : g.stack = .int z :: rest)
    (hb : cap * 8 ≤ 536870912) (hc : cells + 1 ≤ R.cells) (hl : slots + cap ≤ R.slots) {ad : String} (had : "[" ++ (newarray.typeOf aty).toString = ad) :
    ∃ T' h' b, b = h.size ∧ Stand p l e R s m args below meth c T' locs (cells + 1) (slots + cap) ∧ T'.heap = h' ∧ Ext h h' ∧ own_AV Z h' b (newarray.typeOf aty) n (fun _ => defaultValue (newarray.typeOf aty)) ∧ Exa Z h' b ad ∧
      ∀ t, Steps p.tables e below (T'.setTop { g with pc := g.pc + 2, stack := .ref b :: rest }) t → Steps p.tables e below (T.setTop g) t := by
  obtain ⟨q1, q2⟩ := own_clamp hz
  obtain ⟨T', h', k, X', e', E, A, Ea, st⟩ := newPE X hx hZ w eT hg hd hs q2 (by rw [q1]; exact hcap) hb hc hl had
  exact ⟨T', h', _, rfl, X', e', E, own_AV.new A hz, Ea, st⟩
end Own
def own_two {α : Type} (x y : α) : Nat → α
  | 0 => x
  | _ => y
theorem own_nlt {i n : Nat} (hi : i < n) (hn : n < 2 ^ 31) : i.toInt32 < n.toInt32 := by
  rw [Int32.lt_iff_toInt_lt, len_toInt hn, len_toInt (by omega)]; omega
theorem own_nge {i n : Nat} (hi : n ≤ i) (hn : i < 2 ^ 31) : ¬ i.toInt32 < n.toInt32 := by
  rw [Int32.lt_iff_toInt_lt, len_toInt hn, len_toInt (by omega)]; omega
theorem own_nsucc {i : Nat} (hn : i + 1 < 2 ^ 31) : i.toInt32 + (1 : Int32) = (i + 1).toInt32 := by
  have e1 : (1 : Int32).toInt = 1 := rfl
  have h1 := c_iadd i.toInt32 1
  have h2 := rng32 (i.toInt32 + 1)
  rw [← Int32.toInt_inj, len_toInt hn]
  rw [len_toInt (by omega), e1] at h1
  omega
theorem own_and3 (x : Int32) : (x &&& (3 : Int32)) = 0 ∨ (x &&& (3 : Int32)) = 1 ∨ (x &&& (3 : Int32)) = 2 ∨ (x &&& (3 : Int32)) = 3 := by
  have h := c_mask x 3 2 (by decide) (by decide)
  have e : ((2 ^ 2 : Nat) : Int) = 4 := by decide
  rw [e] at h
  have e0 : (0 : Int32).toInt = 0 := rfl
  have e1 : (1 : Int32).toInt = 1 := rfl
  have e2 : (2 : Int32).toInt = 2 := rfl
  have e3 : (3 : Int32).toInt = 3 := rfl
  simp only [← Int32.toInt_inj]
  omega
theorem own_d1_0 : decode jdk_29_method_70_code 0 = .ok (.lload_n 0, 1) := by decide +kernel
theorem own_d1_1 : decode jdk_29_method_70_code 1 = .ok (.lload_n 2, 1) := by decide +kernel
theorem own_d1_2 : decode jdk_29_method_70_code 2 = .ok (.lcmp, 1) := by decide +kernel
theorem own_d1_3 : decode jdk_29_method_70_code 3 = .ok (.ifCond .gt 7, 3) := by decide +kernel
theorem own_d1_6 : decode jdk_29_method_70_code 6 = .ok (.lload_n 0, 1) := by decide +kernel
theorem own_d1_7 : decode jdk_29_method_70_code 7 = .ok (.goto 4, 3) := by decide +kernel
theorem own_d1_10 : decode jdk_29_method_70_code 10 = .ok (.lload_n 2, 1) := by decide +kernel
theorem own_d1_11 : decode jdk_29_method_70_code 11 = .ok (.lreturn, 1) := by decide +kernel
theorem own_ef1 (m : MethodId) (q1 : Int64) (q2 : Int64) : entryFrame m #[(.long q1), (.long q2)] 4 = mkF m 0 #[.val (.long q1), .second, .val (.long q2), .second] [] := by first | (simp [entryFrame, mkF, argsToLocals, Value.category]; done) | rfl
def own_Q1 (Z : State) (q1 q2 : Int64) (h0 : Heap) (n0 : Nat) (v : Option Value) (h : Heap) (L : List Loc) : Prop := v = some (.long (if q2 < q1 then q2 else q1)) ∧ Fr n0 L ∧ h = h0
set_option maxRecDepth 65536 in
set_option maxHeartbeats 40000000 in
theorem own_rm1 (l : Launch) (Z : State) (a0 : Array Value) (hw : ∀ d ∈ tables_1, d.before a0 Z = true) (ws : List Jvm.Cond) (q1 q2 : Int64) (h0 : Heap) (n0 : Nat) (Z0 : n0 ≤ h0.size) :
    MetFree l (⟨"java/lang/Math", "min", "(JJ)J"⟩ : MethodName) (head1 (Jvm.Cond.code (⟨"java/lang/Math", "min", "(JJ)J"⟩ : MethodName) jdk_29_method_70_code 4 (some .long) :: ws) ({ frames := 0, cells := 0, slots := 0, locals := 0 } : Room)) (fun a U => a = #[(.long q1), (.long q2)] ∧ Z.Warmed39 U.vm ∧ U.heap = h0) (fun _ _ _ _ _ => True) (fun _ U o U' => ∃ v L, o = .returned v ∧ own_Q1 Z q1 q2 h0 n0 v U'.heap L ∧ FrameEnd U o U' L ({ frames := 0, cells := 0, slots := 0, locals := 0 } : Room).cells ({ frames := 0, cells := 0, slots := 0, locals := 0 } : Room).slots) := by
  refine MetFree.of_bodySF (Jvm.Free.JP.mathPlain rfl (by decide +kernel)) hisR ?_
  intro p e s m args below meth c s₁ Bd hml0 hP hK
  obtain ⟨rfl, hZ, hh⟩ := hP
  have hx := Bd.exec
  have hby := Bd.bytes
  have hml : c.maxLocals = 4 := hml0
  have hown : s.vm.findClass "java/lang/Math" = some m.cls := findClass_of_methodNamed Bd.named
  have hnm := (name_of_methodNamed Bd.named Bd.method).1
  have X0 : Stand p l e ({ frames := 0, cells := 0, slots := 0, locals := 0 } : Room) s m #[(.long q1), (.long q2)] below meth c s₁ [] 0 0 := Stand.of_body Bd
  have e0 : s₁.heap = h0 := by rw [← hh, Bd.state]; rfl
  have N0 := Fr.nil n0
  refine own_nm (st := s₁.setTop (entryFrame m #[(.long q1), (.long q2)] 4)) fun P fin => ?_
  refine own_fwd (fun t k => castTop (own_ef1 m q1 q2) k) ?_
  show own_R p.tables e below P (s₁.setTop (mkF m 0 #[.val (.long q1), .second, .val (.long q2), .second] []))
  refine own_fwd (fun t k => XS.lloadN X0.here hx rfl (hb hby own_d1_0) rfl k) ?_
  show own_R p.tables e below P (s₁.setTop (mkF m 1 #[.val (.long q1), .second, .val (.long q2), .second] [(.long q1)]))
  refine own_fwd (fun t k => XS.lloadN X0.here hx rfl (hb hby own_d1_1) rfl k) ?_
  show own_R p.tables e below P (s₁.setTop (mkF m 2 #[.val (.long q1), .second, .val (.long q2), .second] [(.long q2), (.long q1)]))
  refine own_fwd (fun t k => XS.lcmp X0.here hx rfl (hb hby own_d1_2) rfl k) ?_
  show own_R p.tables e below P (s₁.setTop (mkF m 3 #[.val (.long q1), .second, .val (.long q2), .second] [(.int (lcmpW q1 q2))]))
  by_cases hc1 : (0 : Int32) < (lcmpW q1 q2)
  · refine own_fwd (fun t k => XS.ifYes X0.here hx rfl (pc0 := 3) (pc' := 10) rfl (hb hby own_d1_3) rfl ((if0 _ _).trans (tlt hc1).2.2.1) (by decide) (by decide) k) ?_
    show own_R p.tables e below P (s₁.setTop (mkF m 10 #[.val (.long q1), .second, .val (.long q2), .second] []))
    refine own_fwd (fun t k => XS.lloadN X0.here hx rfl (hb hby own_d1_10) rfl k) ?_
    show own_R p.tables e below P (s₁.setTop (mkF m 11 #[.val (.long q1), .second, .val (.long q2), .second] [(.long q2)]))
    obtain ⟨fs2, hr2, hrun2, hended2, hW2, hsame2⟩ := X0.leave (v := some (.long q2)) (fun h => by rw [Bd.returns] at h; cases h)
    refine ⟨_, _, X0.lreturnOut hx Bd.returns (hb hby own_d1_11) hr2, fin _ _ ⟨hrun2, hended2, _, _, rfl, ?_, ⟨_, rfl⟩, hW2, hsame2.mono (by decide) (by decide)⟩⟩
    show own_Q1 Z q1 q2 h0 n0 _ s₁.heap _
    rw [e0]
    exact ⟨by rw [if_pos ((lw_gt _ _).mp hc1)], N0, rfl⟩
  · refine own_fwd (fun t k => XS.ifNo X0.here hx rfl (hb hby own_d1_3) rfl ((if0 _ _).trans (flt hc1).2.2.1) k) ?_
    show own_R p.tables e below P (s₁.setTop (mkF m 6 #[.val (.long q1), .second, .val (.long q2), .second] []))
    refine own_fwd (fun t k => XS.lloadN X0.here hx rfl (hb hby own_d1_6) rfl k) ?_
    show own_R p.tables e below P (s₁.setTop (mkF m 7 #[.val (.long q1), .second, .val (.long q2), .second] [(.long q1)]))
    refine own_fwd (fun t k => XS.goto X0.here hx rfl (pc0 := 7) (pc' := 11) rfl (hb hby own_d1_7) (by decide) (by decide) k) ?_
    show own_R p.tables e below P (s₁.setTop (mkF m 11 #[.val (.long q1), .second, .val (.long q2), .second] [(.long q1)]))
    obtain ⟨fs3, hr3, hrun3, hended3, hW3, hsame3⟩ := X0.leave (v := some (.long q1)) (fun h => by rw [Bd.returns] at h; cases h)
    refine ⟨_, _, X0.lreturnOut hx Bd.returns (hb hby own_d1_11) hr3, fin _ _ ⟨hrun3, hended3, _, _, rfl, ?_, ⟨_, rfl⟩, hW3, hsame3.mono (by decide) (by decide)⟩⟩
    show own_Q1 Z q1 q2 h0 n0 _ s₁.heap _
    rw [e0]
    exact ⟨by rw [if_neg (fun q => hc1 ((lw_gt _ _).mpr q))], N0, rfl⟩
theorem own_d2_0 : decode jdk_29_method_66_code 0 = .ok (.lload_n 0, 1) := by decide +kernel
theorem own_d2_1 : decode jdk_29_method_66_code 1 = .ok (.lload_n 2, 1) := by decide +kernel
theorem own_d2_2 : decode jdk_29_method_66_code 2 = .ok (.lcmp, 1) := by decide +kernel
theorem own_d2_3 : decode jdk_29_method_66_code 3 = .ok (.ifCond .lt 7, 3) := by decide +kernel
theorem own_d2_6 : decode jdk_29_method_66_code 6 = .ok (.lload_n 0, 1) := by decide +kernel
theorem own_d2_7 : decode jdk_29_method_66_code 7 = .ok (.goto 4, 3) := by decide +kernel
theorem own_d2_10 : decode jdk_29_method_66_code 10 = .ok (.lload_n 2, 1) := by decide +kernel
theorem own_d2_11 : decode jdk_29_method_66_code 11 = .ok (.lreturn, 1) := by decide +kernel
theorem own_ef2 (m : MethodId) (q1 : Int64) (q2 : Int64) : entryFrame m #[(.long q1), (.long q2)] 4 = mkF m 0 #[.val (.long q1), .second, .val (.long q2), .second] [] := by first | (simp [entryFrame, mkF, argsToLocals, Value.category]; done) | rfl
def own_Q2 (Z : State) (q1 q2 : Int64) (h0 : Heap) (n0 : Nat) (v : Option Value) (h : Heap) (L : List Loc) : Prop := v = some (.long (if q1 < q2 then q2 else q1)) ∧ Fr n0 L ∧ h = h0
set_option maxRecDepth 65536 in
set_option maxHeartbeats 40000000 in
theorem own_rm2 (l : Launch) (Z : State) (a0 : Array Value) (hw : ∀ d ∈ tables_1, d.before a0 Z = true) (ws : List Jvm.Cond) (q1 q2 : Int64) (h0 : Heap) (n0 : Nat) (Z0 : n0 ≤ h0.size) :
    MetFree l (⟨"java/lang/Math", "max", "(JJ)J"⟩ : MethodName) (head1 (Jvm.Cond.code (⟨"java/lang/Math", "max", "(JJ)J"⟩ : MethodName) jdk_29_method_66_code 4 (some .long) :: ws) ({ frames := 0, cells := 0, slots := 0, locals := 0 } : Room)) (fun a U => a = #[(.long q1), (.long q2)] ∧ Z.Warmed39 U.vm ∧ U.heap = h0) (fun _ _ _ _ _ => True) (fun _ U o U' => ∃ v L, o = .returned v ∧ own_Q2 Z q1 q2 h0 n0 v U'.heap L ∧ FrameEnd U o U' L ({ frames := 0, cells := 0, slots := 0, locals := 0 } : Room).cells ({ frames := 0, cells := 0, slots := 0, locals := 0 } : Room).slots) := by
  refine MetFree.of_bodySF (Jvm.Free.JP.mathPlain rfl (by decide +kernel)) hisR ?_
  intro p e s m args below meth c s₁ Bd hml0 hP hK
  obtain ⟨rfl, hZ, hh⟩ := hP
  have hx := Bd.exec
  have hby := Bd.bytes
  have hml : c.maxLocals = 4 := hml0
  have hown : s.vm.findClass "java/lang/Math" = some m.cls := findClass_of_methodNamed Bd.named
  have hnm := (name_of_methodNamed Bd.named Bd.method).1
  have X0 : Stand p l e ({ frames := 0, cells := 0, slots := 0, locals := 0 } : Room) s m #[(.long q1), (.long q2)] below meth c s₁ [] 0 0 := Stand.of_body Bd
  have e0 : s₁.heap = h0 := by rw [← hh, Bd.state]; rfl
  have N0 := Fr.nil n0
  refine own_nm (st := s₁.setTop (entryFrame m #[(.long q1), (.long q2)] 4)) fun P fin => ?_
  refine own_fwd (fun t k => castTop (own_ef2 m q1 q2) k) ?_
  show own_R p.tables e below P (s₁.setTop (mkF m 0 #[.val (.long q1), .second, .val (.long q2), .second] []))
  refine own_fwd (fun t k => XS.lloadN X0.here hx rfl (hb hby own_d2_0) rfl k) ?_
  show own_R p.tables e below P (s₁.setTop (mkF m 1 #[.val (.long q1), .second, .val (.long q2), .second] [(.long q1)]))
  refine own_fwd (fun t k => XS.lloadN X0.here hx rfl (hb hby own_d2_1) rfl k) ?_
  show own_R p.tables e below P (s₁.setTop (mkF m 2 #[.val (.long q1), .second, .val (.long q2), .second] [(.long q2), (.long q1)]))
  refine own_fwd (fun t k => XS.lcmp X0.here hx rfl (hb hby own_d2_2) rfl k) ?_
  show own_R p.tables e below P (s₁.setTop (mkF m 3 #[.val (.long q1), .second, .val (.long q2), .second] [(.int (lcmpW q1 q2))]))
  by_cases hc4 : (lcmpW q1 q2) < (0 : Int32)
  · refine own_fwd (fun t k => XS.ifYes X0.here hx rfl (pc0 := 3) (pc' := 10) rfl (hb hby own_d2_3) rfl ((if0 _ _).trans (tlt hc4).1) (by decide) (by decide) k) ?_
    show own_R p.tables e below P (s₁.setTop (mkF m 10 #[.val (.long q1), .second, .val (.long q2), .second] []))
    refine own_fwd (fun t k => XS.lloadN X0.here hx rfl (hb hby own_d2_10) rfl k) ?_
    show own_R p.tables e below P (s₁.setTop (mkF m 11 #[.val (.long q1), .second, .val (.long q2), .second] [(.long q2)]))
    obtain ⟨fs5, hr5, hrun5, hended5, hW5, hsame5⟩ := X0.leave (v := some (.long q2)) (fun h => by rw [Bd.returns] at h; cases h)
    refine ⟨_, _, X0.lreturnOut hx Bd.returns (hb hby own_d2_11) hr5, fin _ _ ⟨hrun5, hended5, _, _, rfl, ?_, ⟨_, rfl⟩, hW5, hsame5.mono (by decide) (by decide)⟩⟩
    show own_Q2 Z q1 q2 h0 n0 _ s₁.heap _
    rw [e0]
    exact ⟨by rw [if_pos ((lw_lt _ _).mp hc4)], N0, rfl⟩
  · refine own_fwd (fun t k => XS.ifNo X0.here hx rfl (hb hby own_d2_3) rfl ((if0 _ _).trans (flt hc4).1) k) ?_
    show own_R p.tables e below P (s₁.setTop (mkF m 6 #[.val (.long q1), .second, .val (.long q2), .second] []))
    refine own_fwd (fun t k => XS.lloadN X0.here hx rfl (hb hby own_d2_6) rfl k) ?_
    show own_R p.tables e below P (s₁.setTop (mkF m 7 #[.val (.long q1), .second, .val (.long q2), .second] [(.long q1)]))
    refine own_fwd (fun t k => XS.goto X0.here hx rfl (pc0 := 7) (pc' := 11) rfl (hb hby own_d2_7) (by decide) (by decide) k) ?_
    show own_R p.tables e below P (s₁.setTop (mkF m 11 #[.val (.long q1), .second, .val (.long q2), .second] [(.long q1)]))
    obtain ⟨fs6, hr6, hrun6, hended6, hW6, hsame6⟩ := X0.leave (v := some (.long q1)) (fun h => by rw [Bd.returns] at h; cases h)
    refine ⟨_, _, X0.lreturnOut hx Bd.returns (hb hby own_d2_11) hr6, fin _ _ ⟨hrun6, hended6, _, _, rfl, ?_, ⟨_, rfl⟩, hW6, hsame6.mono (by decide) (by decide)⟩⟩
    show own_Q2 Z q1 q2 h0 n0 _ s₁.heap _
    rw [e0]
    exact ⟨by rw [if_neg (fun q => hc4 ((lw_lt _ _).mpr q))], N0, rfl⟩
theorem own_d3_0 : decode prog_30_method_1_code 0 = .ok (.aload_n 0, 1) := by decide +kernel
theorem own_d3_1 : decode prog_30_method_1_code 1 = .ok (.invokespecial 1, 3) := by decide +kernel
theorem own_d3_4 : decode prog_30_method_1_code 4 = .ok (.lload_n 1, 1) := by decide +kernel
theorem own_d3_5 : decode prog_30_method_1_code 5 = .ok (.lconst 0, 1) := by decide +kernel
theorem own_d3_6 : decode prog_30_method_1_code 6 = .ok (.lcmp, 1) := by decide +kernel
theorem own_d3_7 : decode prog_30_method_1_code 7 = .ok (.ifCond .lt 9, 3) := by decide +kernel
theorem own_d3_10 : decode prog_30_method_1_code 10 = .ok (.lload_n 3, 1) := by decide +kernel
theorem own_d3_11 : decode prog_30_method_1_code 11 = .ok (.lload_n 1, 1) := by decide +kernel
theorem own_d3_12 : decode prog_30_method_1_code 12 = .ok (.lcmp, 1) := by decide +kernel
theorem own_d3_13 : decode prog_30_method_1_code 13 = .ok (.ifCond .ge 18, 3) := by decide +kernel
theorem own_d3_16 : decode prog_30_method_1_code 16 = .ok (.new 7, 3) := by decide +kernel
theorem own_d3_19 : decode prog_30_method_1_code 19 = .ok (.dup, 1) := by decide +kernel
theorem own_d3_20 : decode prog_30_method_1_code 20 = .ok (.lload_n 1, 1) := by decide +kernel
theorem own_d3_21 : decode prog_30_method_1_code 21 = .ok (.lload_n 3, 1) := by decide +kernel
theorem own_d3_31 : decode prog_30_method_1_code 31 = .ok (.aload_n 0, 1) := by decide +kernel
theorem own_d3_32 : decode prog_30_method_1_code 32 = .ok (.lload_n 1, 1) := by decide +kernel
theorem own_d3_33 : decode prog_30_method_1_code 33 = .ok (.putfield 16, 3) := by decide +kernel
theorem own_d3_36 : decode prog_30_method_1_code 36 = .ok (.aload_n 0, 1) := by decide +kernel
theorem own_d3_37 : decode prog_30_method_1_code 37 = .ok (.lload_n 3, 1) := by decide +kernel
theorem own_d3_38 : decode prog_30_method_1_code 38 = .ok (.putfield 22, 3) := by decide +kernel
theorem own_d3_41 : decode prog_30_method_1_code 41 = .ok (.return_, 1) := by decide +kernel
theorem own_pn0 : plainName "com/example/grantee/grantee/service/CopySource$Range" = true := by first | (simp [plainName, overriddenIn]; done) | decide +kernel
theorem own_ef3 (m : MethodId) (a1 : Addr) (q1 : Int64) (q2 : Int64) : entryFrame m #[(.ref a1), (.long q1), (.long q2)] 5 = mkF m 0 #[.val (.ref a1), .val (.long q1), .second, .val (.long q2), .second] [] := by first | (simp [entryFrame, mkF, argsToLocals, Value.category]; done) | rfl
def own_Q3 (Z : State) (a1 : Addr) (q1 q2 : Int64) (h0 : Heap) (n0 : Nat) (v : Option Value) (h : Heap) (L : List Loc) : Prop := v = none ∧ Fr n0 L ∧ Keep h0 h [a1] ∧ Exa Z h a1 "com/example/grantee/grantee/service/CopySource$Range" ∧ Fld Z h a1 "com/example/grantee/grantee/service/CopySource$Range" "first" "J" (.long q1) ∧ Fld Z h a1 "com/example/grantee/grantee/service/CopySource$Range" "last" "J" (.long q2)
set_option maxRecDepth 65536 in
set_option maxHeartbeats 40000000 in
theorem own_rm3 (l : Launch) (Z : State) (a0 : Array Value) (hw : ∀ d ∈ tables_1, d.before a0 Z = true) (ws : List Jvm.Cond) (a1 : Addr) (q1 q2 : Int64) (h0 : Heap) (n0 : Nat) (Z0 : n0 ≤ h0.size) (pE : Exa Z h0 a1 "com/example/grantee/grantee/service/CopySource$Range") (pF1 : Fld Z h0 a1 "com/example/grantee/grantee/service/CopySource$Range" "first" "J" (.long (0 : Int64))) (pF2 : Fld Z h0 a1 "com/example/grantee/grantee/service/CopySource$Range" "last" "J" (.long (0 : Int64))) (pg : n0 ≤ a1) (p0 : ¬ q1 < 0) (p1 : ¬ q2 < q1) :
    MetFree l (⟨"com/example/grantee/grantee/service/CopySource$Range", "<init>", "(JJ)V"⟩ : MethodName) (head1 (Jvm.Cond.code (⟨"com/example/grantee/grantee/service/CopySource$Range", "<init>", "(JJ)V"⟩ : MethodName) prog_30_method_1_code 5 none :: ws) ({ frames := 1, cells := 0, slots := 0, locals := 12 } : Room)) (fun a U => a = #[(.ref a1), (.long q1), (.long q2)] ∧ Z.Warmed39 U.vm ∧ U.heap = h0) (fun _ _ _ _ _ => True) (fun _ U o U' => ∃ v L, o = .returned v ∧ own_Q3 Z a1 q1 q2 h0 n0 v U'.heap L ∧ FrameEnd U o U' L ({ frames := 1, cells := 0, slots := 0, locals := 12 } : Room).cells ({ frames := 1, cells := 0, slots := 0, locals := 12 } : Room).slots) := by
  refine MetFree.of_bodySF (plainFor_of_name own_pn0) hisR ?_
  intro p e s m args below meth c s₁ Bd hml0 hP hK
  obtain ⟨rfl, hZ, hh⟩ := hP
  have hx := Bd.exec
  have hby := Bd.bytes
  have hml : c.maxLocals = 5 := hml0
  have hown : s.vm.findClass "com/example/grantee/grantee/service/CopySource$Range" = some m.cls := findClass_of_methodNamed Bd.named
  have hnm := (name_of_methodNamed Bd.named Bd.method).1
  have X0 : Stand p l e ({ frames := 1, cells := 0, slots := 0, locals := 12 } : Room) s m #[(.ref a1), (.long q1), (.long q2)] below meth c s₁ [] 0 0 := Stand.of_body Bd
  have e0 : s₁.heap = h0 := by rw [← hh, Bd.state]; rfl
  have N0 := Fr.nil n0
  refine own_nm (st := s₁.setTop (entryFrame m #[(.ref a1), (.long q1), (.long q2)] 5)) fun P fin => ?_
  refine own_fwd (fun t k => castTop (own_ef3 m a1 q1 q2) k) ?_
  show own_R p.tables e below P (s₁.setTop (mkF m 0 #[.val (.ref a1), .val (.long q1), .second, .val (.long q2), .second] []))
  have K0 := Keep.refl h0 [a1]
  refine own_fwd (fun t k => XS.aloadN X0.here hx rfl (hb hby own_d3_0) rfl rfl k) ?_
  show own_R p.tables e below P (s₁.setTop (mkF m 1 #[.val (.ref a1), .val (.long q1), .second, .val (.long q2), .second] [(.ref a1)]))
  obtain ⟨T7, X7, e7, st7⟩ := initO X0 hx hZ hown (hw _ (List.mem_of_getElem? (i := 14) rfl)) (hw _ (List.mem_of_getElem? (i := 15) rfl)) (hw _ (List.mem_of_getElem? (i := 16) rfl)) e0 (g := (mkF m 1 #[.val (.ref a1), .val (.long q1), .second, .val (.long q2), .second] [(.ref a1)])) rfl (by rw [hml]; rfl) rfl (hb hby own_d3_1) (by decide) (W := 0) (by show 2 * 0 + _ ≤ _; exact Nat.le_of_eq rfl) (by decide)
  refine own_fwd st7 ?_
  show own_R p.tables e below P (T7.setTop (mkF m 4 #[.val (.ref a1), .val (.long q1), .second, .val (.long q2), .second] []))
  refine own_fwd (fun t k => XS.lloadN X7.here hx rfl (hb hby own_d3_4) rfl k) ?_
  show own_R p.tables e below P (T7.setTop (mkF m 5 #[.val (.ref a1), .val (.long q1), .second, .val (.long q2), .second] [(.long q1)]))
  refine own_fwd (fun t k => XS.lconst X7.here hx rfl (hb hby own_d3_5) k) ?_
  show own_R p.tables e below P (T7.setTop (mkF m 6 #[.val (.ref a1), .val (.long q1), .second, .val (.long q2), .second] [(.long (0 : Int64)), (.long q1)]))
  refine own_fwd (fun t k => XS.lcmp X7.here hx rfl (hb hby own_d3_6) rfl k) ?_
  show own_R p.tables e below P (T7.setTop (mkF m 7 #[.val (.ref a1), .val (.long q1), .second, .val (.long q2), .second] [(.int (lcmpW q1 (0 : Int64)))]))
  have hc8 : ¬ ((lcmpW q1 (0 : Int64)) < (0 : Int32)) := fun q => p0 ((lw_lt _ _).mp q)
  refine own_fwd (fun t k => XS.ifNo X7.here hx rfl (hb hby own_d3_7) rfl ((if0 _ _).trans (flt hc8).1) k) ?_
  show own_R p.tables e below P (T7.setTop (mkF m 10 #[.val (.ref a1), .val (.long q1), .second, .val (.long q2), .second] []))
  refine own_fwd (fun t k => XS.lloadN X7.here hx rfl (hb hby own_d3_10) rfl k) ?_
  show own_R p.tables e below P (T7.setTop (mkF m 11 #[.val (.ref a1), .val (.long q1), .second, .val (.long q2), .second] [(.long q2)]))
  refine own_fwd (fun t k => XS.lloadN X7.here hx rfl (hb hby own_d3_11) rfl k) ?_
  show own_R p.tables e below P (T7.setTop (mkF m 12 #[.val (.ref a1), .val (.long q1), .second, .val (.long q2), .second] [(.long q1), (.long q2)]))
  refine own_fwd (fun t k => XS.lcmp X7.here hx rfl (hb hby own_d3_12) rfl k) ?_
  show own_R p.tables e below P (T7.setTop (mkF m 13 #[.val (.ref a1), .val (.long q1), .second, .val (.long q2), .second] [(.int (lcmpW q2 q1))]))
  have hc9 : ¬ ((lcmpW q2 q1) < (0 : Int32)) := fun q => p1 ((lw_lt _ _).mp q)
  refine own_fwd (fun t k => XS.ifYes X7.here hx rfl (pc0 := 13) (pc' := 31) rfl (hb hby own_d3_13) rfl ((if0 _ _).trans (flt hc9).2.1) (by decide) (by decide) k) ?_
  show own_R p.tables e below P (T7.setTop (mkF m 31 #[.val (.ref a1), .val (.long q1), .second, .val (.long q2), .second] []))
  refine own_fwd (fun t k => XS.aloadN X7.here hx rfl (hb hby own_d3_31) rfl rfl k) ?_
  show own_R p.tables e below P (T7.setTop (mkF m 32 #[.val (.ref a1), .val (.long q1), .second, .val (.long q2), .second] [(.ref a1)]))
  refine own_fwd (fun t k => XS.lloadN X7.here hx rfl (hb hby own_d3_32) rfl k) ?_
  show own_R p.tables e below P (T7.setTop (mkF m 33 #[.val (.ref a1), .val (.long q1), .second, .val (.long q2), .second] [(.long q1), (.ref a1)]))
  obtain ⟨T10, h10, X10, e10, W10, st10⟩ := putF X7 hx hZ hown (host := "") (Or.inl (hw _ (List.mem_of_getElem? (i := 17) rfl))) Via.refl e7 pF1 pE (Or.inr ⟨(hw _ (List.mem_of_getElem? (i := 18) rfl)), rfl, hnm⟩) (hw _ (List.mem_of_getElem? (i := 9) rfl)) (ty := .long) (by decide) rfl rfl (g := (mkF m 33 #[.val (.ref a1), .val (.long q1), .second, .val (.long q2), .second] [(.long q1), (.ref a1)])) rfl rfl (hb hby own_d3_33)
  have F10_ := pF1.same W10
  have pE_x10 := pE.wr W10
  have pF2_x10 := pF2.other W10 (Or.inr (slot_ne (Or.inr (hw _ (List.mem_of_getElem? (i := 20) rfl))) (Or.inr (hw _ (List.mem_of_getElem? (i := 18) rfl))) (by decide) (t := .long) (t' := .long) (by decide) (by decide)))
  have N10 := Fr.snoc X10 N0 pg
  have Z10 : n0 ≤ h10.size := by rw [W10.size]; exact Z0
  have K10 := K0.wr W10 (Or.inl (List.mem_of_getElem? (i := 0) rfl))
  have Y10 : h0.size ≤ h10.size := by rw [W10.size]; exact (Nat.le_refl h0.size)
  refine own_fwd st10 ?_
  show own_R p.tables e below P (T10.setTop (mkF m 36 #[.val (.ref a1), .val (.long q1), .second, .val (.long q2), .second] []))
  refine own_fwd (fun t k => XS.aloadN X10.here hx rfl (hb hby own_d3_36) rfl rfl k) ?_
  show own_R p.tables e below P (T10.setTop (mkF m 37 #[.val (.ref a1), .val (.long q1), .second, .val (.long q2), .second] [(.ref a1)]))
  refine own_fwd (fun t k => XS.lloadN X10.here hx rfl (hb hby own_d3_37) rfl k) ?_
  show own_R p.tables e below P (T10.setTop (mkF m 38 #[.val (.ref a1), .val (.long q1), .second, .val (.long q2), .second] [(.long q2), (.ref a1)]))
  obtain ⟨T11, h11, X11, e11, W11, st11⟩ := putF X10 hx hZ hown (host := "") (Or.inl (hw _ (List.mem_of_getElem? (i := 19) rfl))) Via.refl e10 pF2_x10 pE_x10 (Or.inr ⟨(hw _ (List.mem_of_getElem? (i := 20) rfl)), rfl, hnm⟩) (hw _ (List.mem_of_getElem? (i := 9) rfl)) (ty := .long) (by decide) rfl rfl (g := (mkF m 38 #[.val (.ref a1), .val (.long q1), .second, .val (.long q2), .second] [(.long q2), (.ref a1)])) rfl rfl (hb hby own_d3_38)
  have F11_ := pF2_x10.same W11
  have pE_x11 := pE_x10.wr W11
  have F10__x11 := F10_.other W11 (Or.inr (slot_ne (Or.inr (hw _ (List.mem_of_getElem? (i := 18) rfl))) (Or.inr (hw _ (List.mem_of_getElem? (i := 20) rfl))) (by decide) (t := .long) (t' := .long) (by decide) (by decide)))
  have N11 := Fr.snoc X11 N10 pg
  have Z11 : n0 ≤ h11.size := by rw [W11.size]; exact Z10
  have K11 := K10.wr W11 (Or.inl (List.mem_of_getElem? (i := 0) rfl))
  have Y11 : h0.size ≤ h11.size := by rw [W11.size]; exact Y10
  refine own_fwd st11 ?_
  show own_R p.tables e below P (T11.setTop (mkF m 41 #[.val (.ref a1), .val (.long q1), .second, .val (.long q2), .second] []))
  obtain ⟨fs12, hr12, hrun12, hended12, hW12, hsame12⟩ := X11.leave (v := none) (fun _ => rfl)
  refine ⟨_, _, X11.returnOut hx Bd.returns (hb hby own_d3_41) hr12, fin _ _ ⟨hrun12, hended12, _, _, rfl, ?_, ⟨_, rfl⟩, hW12, hsame12.mono (by decide) (by decide)⟩⟩
  show own_Q3 Z a1 q1 q2 h0 n0 _ T11.heap _
  rw [e11]
  exact ⟨rfl, N11, K11, pE_x11, F10__x11, F11_⟩
theorem own_d5_0 : decode prog_30_method_4_code 0 = .ok (.aload_n 0, 1) := by decide +kernel
theorem own_d5_1 : decode prog_30_method_4_code 1 = .ok (.getfield 22, 3) := by decide +kernel
theorem own_d5_4 : decode prog_30_method_4_code 4 = .ok (.aload_n 0, 1) := by decide +kernel
theorem own_d5_5 : decode prog_30_method_4_code 5 = .ok (.getfield 16, 3) := by decide +kernel
theorem own_d5_8 : decode prog_30_method_4_code 8 = .ok (.lsub, 1) := by decide +kernel
theorem own_d5_9 : decode prog_30_method_4_code 9 = .ok (.lconst 1, 1) := by decide +kernel
theorem own_d5_10 : decode prog_30_method_4_code 10 = .ok (.ladd, 1) := by decide +kernel
theorem own_d5_11 : decode prog_30_method_4_code 11 = .ok (.lreturn, 1) := by decide +kernel
theorem own_ef5 (m : MethodId) (a1 : Addr) : entryFrame m #[(.ref a1)] 1 = mkF m 0 #[.val (.ref a1)] [] := by first | (simp [entryFrame, mkF, argsToLocals, Value.category]; done) | rfl
def own_Q5 (Z : State) (a1 : Addr) (q1 q2 : Int64) (h0 : Heap) (n0 : Nat) (v : Option Value) (h : Heap) (L : List Loc) : Prop := v = some (.long ((q2 - q1) + (1 : Int64))) ∧ Fr n0 L ∧ h = h0
set_option maxRecDepth 65536 in
set_option maxHeartbeats 40000000 in
theorem own_rm5 (l : Launch) (Z : State) (a0 : Array Value) (hw : ∀ d ∈ tables_1, d.before a0 Z = true) (ws : List Jvm.Cond) (a1 : Addr) (q1 q2 : Int64) (h0 : Heap) (n0 : Nat) (Z0 : n0 ≤ h0.size) (pF1 : Fld Z h0 a1 "com/example/grantee/grantee/service/CopySource$Range" "first" "J" (.long q1)) (pF2 : Fld Z h0 a1 "com/example/grantee/grantee/service/CopySource$Range" "last" "J" (.long q2)) :
    MetFree l (⟨"com/example/grantee/grantee/service/CopySource$Range", "length", "()J"⟩ : MethodName) (head1 (Jvm.Cond.code (⟨"com/example/grantee/grantee/service/CopySource$Range", "length", "()J"⟩ : MethodName) prog_30_method_4_code 1 (some .long) :: ws) ({ frames := 0, cells := 0, slots := 0, locals := 0 } : Room)) (fun a U => a = #[(.ref a1)] ∧ Z.Warmed39 U.vm ∧ U.heap = h0) (fun _ _ _ _ _ => True) (fun _ U o U' => ∃ v L, o = .returned v ∧ own_Q5 Z a1 q1 q2 h0 n0 v U'.heap L ∧ FrameEnd U o U' L ({ frames := 0, cells := 0, slots := 0, locals := 0 } : Room).cells ({ frames := 0, cells := 0, slots := 0, locals := 0 } : Room).slots) := by
  refine MetFree.of_bodySF (plainFor_of_name own_pn0) hisR ?_
  intro p e s m args below meth c s₁ Bd hml0 hP hK
  obtain ⟨rfl, hZ, hh⟩ := hP
  have hx := Bd.exec
  have hby := Bd.bytes
  have hml : c.maxLocals = 1 := hml0
  have hown : s.vm.findClass "com/example/grantee/grantee/service/CopySource$Range" = some m.cls := findClass_of_methodNamed Bd.named
  have hnm := (name_of_methodNamed Bd.named Bd.method).1
  have X0 : Stand p l e ({ frames := 0, cells := 0, slots := 0, locals := 0 } : Room) s m #[(.ref a1)] below meth c s₁ [] 0 0 := Stand.of_body Bd
  have e0 : s₁.heap = h0 := by rw [← hh, Bd.state]; rfl
  have N0 := Fr.nil n0
  refine own_nm (st := s₁.setTop (entryFrame m #[(.ref a1)] 1)) fun P fin => ?_
  refine own_fwd (fun t k => castTop (own_ef5 m a1) k) ?_
  show own_R p.tables e below P (s₁.setTop (mkF m 0 #[.val (.ref a1)] []))
  refine own_fwd (fun t k => XS.aloadN X0.here hx rfl (hb hby own_d5_0) rfl rfl k) ?_
  show own_R p.tables e below P (s₁.setTop (mkF m 1 #[.val (.ref a1)] [(.ref a1)]))
  obtain ⟨T13, X13, e13, st13⟩ := getF X0 hx hZ hown (host := "") (Or.inl (hw _ (List.mem_of_getElem? (i := 19) rfl))) Via.refl e0 pF2 (g := (mkF m 1 #[.val (.ref a1)] [(.ref a1)])) rfl rfl (hb hby own_d5_1)
  refine own_fwd st13 ?_
  show own_R p.tables e below P (T13.setTop (mkF m 4 #[.val (.ref a1)] [(.long q2)]))
  refine own_fwd (fun t k => XS.aloadN X13.here hx rfl (hb hby own_d5_4) rfl rfl k) ?_
  show own_R p.tables e below P (T13.setTop (mkF m 5 #[.val (.ref a1)] [(.ref a1), (.long q2)]))
  obtain ⟨T14, X14, e14, st14⟩ := getF X13 hx hZ hown (host := "") (Or.inl (hw _ (List.mem_of_getElem? (i := 17) rfl))) Via.refl e13 pF1 (g := (mkF m 5 #[.val (.ref a1)] [(.ref a1), (.long q2)])) rfl rfl (hb hby own_d5_5)
  refine own_fwd st14 ?_
  show own_R p.tables e below P (T14.setTop (mkF m 8 #[.val (.ref a1)] [(.long q1), (.long q2)]))
  refine own_fwd (fun t k => XS.lsub X14.here hx rfl (hb hby own_d5_8) rfl k) ?_
  show own_R p.tables e below P (T14.setTop (mkF m 9 #[.val (.ref a1)] [(.long (q2 - q1))]))
  refine own_fwd (fun t k => XS.lconst X14.here hx rfl (hb hby own_d5_9) k) ?_
  show own_R p.tables e below P (T14.setTop (mkF m 10 #[.val (.ref a1)] [(.long (1 : Int64)), (.long (q2 - q1))]))
  refine own_fwd (fun t k => XS.ladd X14.here hx rfl (hb hby own_d5_10) rfl k) ?_
  show own_R p.tables e below P (T14.setTop (mkF m 11 #[.val (.ref a1)] [(.long ((q2 - q1) + (1 : Int64)))]))
  obtain ⟨fs15, hr15, hrun15, hended15, hW15, hsame15⟩ := X14.leave (v := some (.long ((q2 - q1) + (1 : Int64)))) (fun h => by rw [Bd.returns] at h; cases h)
  refine ⟨_, _, X14.lreturnOut hx Bd.returns (hb hby own_d5_11) hr15, fin _ _ ⟨hrun15, hended15, _, _, rfl, ?_, ⟨_, rfl⟩, hW15, hsame15.mono (by decide) (by decide)⟩⟩
  show own_Q5 Z a1 q1 q2 h0 n0 _ T14.heap _
  rw [e14]
  exact ⟨rfl, N0, rfl⟩
theorem own_first (a b : Int64) : (0 : Int) ≤ (if (b &&& (9223372036854775807 : Int64)) < (a &&& (9223372036854775807 : Int64)) then (b &&& (9223372036854775807 : Int64)) else (a &&& (9223372036854775807 : Int64))).toInt := by
  have h1 := (c_andSL a 9223372036854775807).2.2 (by decide)
  have h2 := (c_andSL b 9223372036854775807).2.2 (by decide)
  split <;> assumption
theorem own_order (x y : Int64) : (if y < x then y else x).toInt ≤ (if x < y then y else x).toInt := by
  by_cases h1 : y < x <;> by_cases h2 : x < y <;> simp only [h1, h2, if_true, if_false] <;> rw [Int64.lt_iff_toInt_lt] at h1 h2 <;> omega
theorem own_lenOk (f g : Int64) (h0 : (0 : Int) ≤ f.toInt) (h1 : f.toInt ≤ g.toInt) (h2 : ¬ (f.toInt = 0 ∧ g.toInt = 9223372036854775807)) : ¬ (lcmpW ((g - f) + (1 : Int64)) (1 : Int64) < 0) ∧ lcmpW (f + (((g - f) + (1 : Int64)) - (1 : Int64))) g = 0 := by
  have e1 : (1 : Int64).toInt = 1 := rfl
  have r1 := rng64 f; have r2 := rng64 g
  have a1 := c_lsub g f
  have a2 := c_ladd (g - f) 1
  have a3 := c_lsub (g - f + 1) 1
  have a4 := c_ladd f (g - f + 1 - 1)
  have r3 := rng64 (g - f); have r4 := rng64 (g - f + 1); have r5 := rng64 (g - f + 1 - 1); have r6 := rng64 (f + (g - f + 1 - 1))
  constructor
  · rw [lw_lt, Int64.lt_iff_toInt_lt]; omega
  · rw [lw_eq, ← Int64.toInt_inj]; omega
theorem own_pn1 : plainName "com/example/grantee/grantee/service/RangeLengthPinLaw" = true := by first | (simp [plainName, overriddenIn]; done) | decide +kernel
theorem own_pd0 : parseMethodDescriptor "(JJ)J" = some ⟨[.long, .long], some .long⟩ := by decide +kernel
theorem own_pd1 : parseMethodDescriptor "(JJ)V" = some ⟨[.long, .long], none⟩ := by decide +kernel
theorem own_pd2 : parseMethodDescriptor "()J" = some ⟨[], some .long⟩ := by decide +kernel
theorem own_eflaw (m : MethodId) (p0 : Int64) (p1 : Int64) (p2 : Int32) : entryFrame m #[(.long p0), (.long p1), (.int p2)] maxLocals = mkF m 0 #[.val (.long p0), .second, .val (.long p1), .second, .val (.int p2), .unset, .unset, .unset, .unset, .unset, .unset, .unset, .unset, .unset, .unset, .unset] [] := by first | (simp [entryFrame, mkF, argsToLocals, Value.category, maxLocals]; done) | rfl
def own_Qlaw (Z : State) (p0 p1 : Int64) (p2 : Int32) (h0 : Heap) (n0 : Nat) (v : Option Value) (h : Heap) (L : List Loc) : Prop := v = some (.int 1) ∧ Fr n0 L
set_option maxRecDepth 65536 in
set_option maxHeartbeats 40000000 in
theorem own_rmlaw (l : Launch) (Z : State) (a0 : Array Value) (hw : ∀ d ∈ tables_1, d.before a0 Z = true) (ws : List Jvm.Cond) (p0 p1 : Int64) (p2 : Int32) (h0 : Heap) (n0 : Nat) (Z0 : n0 ≤ h0.size) :
    MetFree l x (head1 (Jvm.Cond.code x code maxLocals ret :: ws) room_1) (fun a U => a = #[(.long p0), (.long p1), (.int p2)] ∧ Z.Warmed39 U.vm ∧ U.heap = h0) (fun _ _ _ _ _ => True) (fun _ U o U' => ∃ v L, o = .returned v ∧ own_Qlaw Z p0 p1 p2 h0 n0 v U'.heap L ∧ FrameEnd U o U' L 16 128) := by
  refine MetFree.of_bodySF (plainFor_of_name own_pn1) hisR ?_
  intro p e s m args below meth c s₁ Bd hml0 hP hK
  obtain ⟨rfl, hZ, hh⟩ := hP
  have hx := Bd.exec
  have hby := Bd.bytes
  have hml : c.maxLocals = 16 := hml0
  have hown : s.vm.findClass "com/example/grantee/grantee/service/RangeLengthPinLaw" = some m.cls := findClass_of_methodNamed Bd.named
  have hnm := (name_of_methodNamed Bd.named Bd.method).1
  have X0 : Stand p l e room_1 s m #[(.long p0), (.long p1), (.int p2)] below meth c s₁ [] 0 0 := Stand.of_body Bd
  have e0 : s₁.heap = h0 := by rw [← hh, Bd.state]; rfl
  have N0 := Fr.nil n0
  refine own_nm (st := s₁.setTop (entryFrame m #[(.long p0), (.long p1), (.int p2)] maxLocals)) fun P fin => ?_
  refine own_fwd (fun t k => castTop (own_eflaw m p0 p1 p2) k) ?_
  show own_R p.tables e below P (s₁.setTop (mkF m 0 #[.val (.long p0), .second, .val (.long p1), .second, .val (.int p2), .unset, .unset, .unset, .unset, .unset, .unset, .unset, .unset, .unset, .unset, .unset] []))
  refine own_fwd (fun t k => XS.lloadN X0.here hx rfl (hb hby at_0) rfl k) ?_
  show own_R p.tables e below P (s₁.setTop (mkF m 1 #[.val (.long p0), .second, .val (.long p1), .second, .val (.int p2), .unset, .unset, .unset, .unset, .unset, .unset, .unset, .unset, .unset, .unset, .unset] [(.long p0)]))
  refine own_fwd (fun t k => X0.ldc2Long hx hown (mvT hZ (hw _ (List.mem_of_getElem? (i := 0) rfl))) (g := (mkF m 1 #[.val (.long p0), .second, .val (.long p1), .second, .val (.int p2), .unset, .unset, .unset, .unset, .unset, .unset, .unset, .unset, .unset, .unset, .unset] [(.long p0)])) rfl (hb hby at_1) t k) ?_
  show own_R p.tables e below P (s₁.setTop (mkF m 4 #[.val (.long p0), .second, .val (.long p1), .second, .val (.int p2), .unset, .unset, .unset, .unset, .unset, .unset, .unset, .unset, .unset, .unset, .unset] [(.long (9223372036854775807 : Int64)), (.long p0)]))
  refine own_fwd (fun t k => XS.land X0.here hx rfl (hb hby at_4) rfl k) ?_
  show own_R p.tables e below P (s₁.setTop (mkF m 5 #[.val (.long p0), .second, .val (.long p1), .second, .val (.int p2), .unset, .unset, .unset, .unset, .unset, .unset, .unset, .unset, .unset, .unset, .unset] [(.long (p0 &&& (9223372036854775807 : Int64)))]))
  refine own_fwd (fun t k => XS.lstore X0.here hx rfl (hb hby at_5) rfl (l' := #[.val (.long p0), .second, .val (.long p1), .second, .val (.int p2), .val (.long (p0 &&& (9223372036854775807 : Int64))), .second, .unset, .unset, .unset, .unset, .unset, .unset, .unset, .unset, .unset]) rfl k) ?_
  show own_R p.tables e below P (s₁.setTop (mkF m 7 #[.val (.long p0), .second, .val (.long p1), .second, .val (.int p2), .val (.long (p0 &&& (9223372036854775807 : Int64))), .second, .unset, .unset, .unset, .unset, .unset, .unset, .unset, .unset, .unset] []))
  refine own_fwd (fun t k => XS.lloadN X0.here hx rfl (hb hby at_7) rfl k) ?_
  show own_R p.tables e below P (s₁.setTop (mkF m 8 #[.val (.long p0), .second, .val (.long p1), .second, .val (.int p2), .val (.long (p0 &&& (9223372036854775807 : Int64))), .second, .unset, .unset, .unset, .unset, .unset, .unset, .unset, .unset, .unset] [(.long p1)]))
  refine own_fwd (fun t k => X0.ldc2Long hx hown (mvT hZ (hw _ (List.mem_of_getElem? (i := 0) rfl))) (g := (mkF m 8 #[.val (.long p0), .second, .val (.long p1), .second, .val (.int p2), .val (.long (p0 &&& (9223372036854775807 : Int64))), .second, .unset, .unset, .unset, .unset, .unset, .unset, .unset, .unset, .unset] [(.long p1)])) rfl (hb hby at_8) t k) ?_
  show own_R p.tables e below P (s₁.setTop (mkF m 11 #[.val (.long p0), .second, .val (.long p1), .second, .val (.int p2), .val (.long (p0 &&& (9223372036854775807 : Int64))), .second, .unset, .unset, .unset, .unset, .unset, .unset, .unset, .unset, .unset] [(.long (9223372036854775807 : Int64)), (.long p1)]))
  refine own_fwd (fun t k => XS.land X0.here hx rfl (hb hby at_11) rfl k) ?_
  show own_R p.tables e below P (s₁.setTop (mkF m 12 #[.val (.long p0), .second, .val (.long p1), .second, .val (.int p2), .val (.long (p0 &&& (9223372036854775807 : Int64))), .second, .unset, .unset, .unset, .unset, .unset, .unset, .unset, .unset, .unset] [(.long (p1 &&& (9223372036854775807 : Int64)))]))
  refine own_fwd (fun t k => XS.lstore X0.here hx rfl (hb hby at_12) rfl (l' := #[.val (.long p0), .second, .val (.long p1), .second, .val (.int p2), .val (.long (p0 &&& (9223372036854775807 : Int64))), .second, .val (.long (p1 &&& (9223372036854775807 : Int64))), .second, .unset, .unset, .unset, .unset, .unset, .unset, .unset]) rfl k) ?_
  show own_R p.tables e below P (s₁.setTop (mkF m 14 #[.val (.long p0), .second, .val (.long p1), .second, .val (.int p2), .val (.long (p0 &&& (9223372036854775807 : Int64))), .second, .val (.long (p1 &&& (9223372036854775807 : Int64))), .second, .unset, .unset, .unset, .unset, .unset, .unset, .unset] []))
  refine own_fwd (fun t k => XS.lload X0.here hx rfl (hb hby at_14) rfl k) ?_
  show own_R p.tables e below P (s₁.setTop (mkF m 16 #[.val (.long p0), .second, .val (.long p1), .second, .val (.int p2), .val (.long (p0 &&& (9223372036854775807 : Int64))), .second, .val (.long (p1 &&& (9223372036854775807 : Int64))), .second, .unset, .unset, .unset, .unset, .unset, .unset, .unset] [(.long (p0 &&& (9223372036854775807 : Int64)))]))
  refine own_fwd (fun t k => XS.lload X0.here hx rfl (hb hby at_16) rfl k) ?_
  show own_R p.tables e below P (s₁.setTop (mkF m 18 #[.val (.long p0), .second, .val (.long p1), .second, .val (.int p2), .val (.long (p0 &&& (9223372036854775807 : Int64))), .second, .val (.long (p1 &&& (9223372036854775807 : Int64))), .second, .unset, .unset, .unset, .unset, .unset, .unset, .unset] [(.long (p1 &&& (9223372036854775807 : Int64))), (.long (p0 &&& (9223372036854775807 : Int64)))]))
  obtain ⟨_, _, ⟨T16, L16, k16, n16⟩, -, X16, ⟨Lc16, hQ16, l16, y16, z16⟩, st16⟩ := Jvm.LawKit.callS X0 hx (y := (⟨"java/lang/Math", "min", "(JJ)J"⟩ : MethodName)) hown (mvT hZ (hw _ (List.mem_of_getElem? (i := 1) rfl))) (mvT hZ (hw _ (List.mem_of_getElem? (i := 2) rfl))) (mvT hZ (hw _ (List.mem_of_getElem? (i := 3) rfl))) (mvT hZ (hw _ (List.mem_of_getElem? (i := 4) rfl))) (by decide) (backOf (W := 0) (own_rm1 l Z a0 hw [] (p0 &&& (9223372036854775807 : Int64)) (p1 &&& (9223372036854775807 : Int64)) h0 n0 Z0 ) hZ (hw _ (List.mem_of_getElem? (i := 4) rfl)) (hw _ (List.mem_of_getElem? (i := 3) rfl)) (by decide) (by decide)) (g := (mkF m 18 #[.val (.long p0), .second, .val (.long p1), .second, .val (.int p2), .val (.long (p0 &&& (9223372036854775807 : Int64))), .second, .val (.long (p1 &&& (9223372036854775807 : Int64))), .second, .unset, .unset, .unset, .unset, .unset, .unset, .unset] [(.long (p1 &&& (9223372036854775807 : Int64))), (.long (p0 &&& (9223372036854775807 : Int64)))])) rfl (by rw [hml]; rfl) (argsL := [(.long (p0 &&& (9223372036854775807 : Int64))), (.long (p1 &&& (9223372036854775807 : Int64)))]) (rest := []) (lenOf own_pd0 rfl) rfl (by show 2 * 0 + _ ≤ _; exact Nat.le_of_eq rfl) (hb hby at_18) (fun _ _ => ⟨rfl, e0, (by decide : 0 + 0 ≤ _), (by decide : 0 + 0 ≤ _)⟩)
  dsimp only [Pt.U, Pt.locs, Pt.cells, Pt.slots] at X16 l16 y16 z16 st16 hQ16
  subst l16 y16 z16
  obtain ⟨h16, e16⟩ : ∃ z, T16.heap = z := ⟨_, rfl⟩
  rw [e16] at hQ16
  obtain ⟨hq16, N16q, q16⟩ := hQ16
  rw [q16] at e16
  subst hq16
  have N16 := Fr.app N0 N16q
  refine own_fwd st16 ?_
  show own_R p.tables e below P (T16.setTop (mkF m 21 #[.val (.long p0), .second, .val (.long p1), .second, .val (.int p2), .val (.long (p0 &&& (9223372036854775807 : Int64))), .second, .val (.long (p1 &&& (9223372036854775807 : Int64))), .second, .unset, .unset, .unset, .unset, .unset, .unset, .unset] [(.long (if (p1 &&& (9223372036854775807 : Int64)) < (p0 &&& (9223372036854775807 : Int64)) then (p1 &&& (9223372036854775807 : Int64)) else (p0 &&& (9223372036854775807 : Int64))))]))
  refine own_fwd (fun t k => XS.lstore X16.here hx rfl (hb hby at_21) rfl (l' := #[.val (.long p0), .second, .val (.long p1), .second, .val (.int p2), .val (.long (p0 &&& (9223372036854775807 : Int64))), .second, .val (.long (p1 &&& (9223372036854775807 : Int64))), .second, .val (.long (if (p1 &&& (9223372036854775807 : Int64)) < (p0 &&& (9223372036854775807 : Int64)) then (p1 &&& (9223372036854775807 : Int64)) else (p0 &&& (9223372036854775807 : Int64)))), .second, .unset, .unset, .unset, .unset, .unset]) rfl k) ?_
  show own_R p.tables e below P (T16.setTop (mkF m 23 #[.val (.long p0), .second, .val (.long p1), .second, .val (.int p2), .val (.long (p0 &&& (9223372036854775807 : Int64))), .second, .val (.long (p1 &&& (9223372036854775807 : Int64))), .second, .val (.long (if (p1 &&& (9223372036854775807 : Int64)) < (p0 &&& (9223372036854775807 : Int64)) then (p1 &&& (9223372036854775807 : Int64)) else (p0 &&& (9223372036854775807 : Int64)))), .second, .unset, .unset, .unset, .unset, .unset] []))
  refine own_fwd (fun t k => XS.lload X16.here hx rfl (hb hby at_23) rfl k) ?_
  show own_R p.tables e below P (T16.setTop (mkF m 25 #[.val (.long p0), .second, .val (.long p1), .second, .val (.int p2), .val (.long (p0 &&& (9223372036854775807 : Int64))), .second, .val (.long (p1 &&& (9223372036854775807 : Int64))), .second, .val (.long (if (p1 &&& (9223372036854775807 : Int64)) < (p0 &&& (9223372036854775807 : Int64)) then (p1 &&& (9223372036854775807 : Int64)) else (p0 &&& (9223372036854775807 : Int64)))), .second, .unset, .unset, .unset, .unset, .unset] [(.long (p0 &&& (9223372036854775807 : Int64)))]))
  refine own_fwd (fun t k => XS.lload X16.here hx rfl (hb hby at_25) rfl k) ?_
  show own_R p.tables e below P (T16.setTop (mkF m 27 #[.val (.long p0), .second, .val (.long p1), .second, .val (.int p2), .val (.long (p0 &&& (9223372036854775807 : Int64))), .second, .val (.long (p1 &&& (9223372036854775807 : Int64))), .second, .val (.long (if (p1 &&& (9223372036854775807 : Int64)) < (p0 &&& (9223372036854775807 : Int64)) then (p1 &&& (9223372036854775807 : Int64)) else (p0 &&& (9223372036854775807 : Int64)))), .second, .unset, .unset, .unset, .unset, .unset] [(.long (p1 &&& (9223372036854775807 : Int64))), (.long (p0 &&& (9223372036854775807 : Int64)))]))
  obtain ⟨_, _, ⟨T17, L17, k17, n17⟩, -, X17, ⟨Lc17, hQ17, l17, y17, z17⟩, st17⟩ := Jvm.LawKit.callS X16 hx (y := (⟨"java/lang/Math", "max", "(JJ)J"⟩ : MethodName)) hown (mvT hZ (hw _ (List.mem_of_getElem? (i := 5) rfl))) (mvT hZ (hw _ (List.mem_of_getElem? (i := 6) rfl))) (mvT hZ (hw _ (List.mem_of_getElem? (i := 3) rfl))) (mvT hZ (hw _ (List.mem_of_getElem? (i := 7) rfl))) (by decide) (backOf (W := 0) (own_rm2 l Z a0 hw [] (p0 &&& (9223372036854775807 : Int64)) (p1 &&& (9223372036854775807 : Int64)) h0 n0 Z0 ) hZ (hw _ (List.mem_of_getElem? (i := 7) rfl)) (hw _ (List.mem_of_getElem? (i := 3) rfl)) (by decide) (by decide)) (g := (mkF m 27 #[.val (.long p0), .second, .val (.long p1), .second, .val (.int p2), .val (.long (p0 &&& (9223372036854775807 : Int64))), .second, .val (.long (p1 &&& (9223372036854775807 : Int64))), .second, .val (.long (if (p1 &&& (9223372036854775807 : Int64)) < (p0 &&& (9223372036854775807 : Int64)) then (p1 &&& (9223372036854775807 : Int64)) else (p0 &&& (9223372036854775807 : Int64)))), .second, .unset, .unset, .unset, .unset, .unset] [(.long (p1 &&& (9223372036854775807 : Int64))), (.long (p0 &&& (9223372036854775807 : Int64)))])) rfl (by rw [hml]; rfl) (argsL := [(.long (p0 &&& (9223372036854775807 : Int64))), (.long (p1 &&& (9223372036854775807 : Int64)))]) (rest := []) (lenOf own_pd0 rfl) rfl (by show 2 * 0 + _ ≤ _; exact Nat.le_of_eq rfl) (hb hby at_27) (fun _ _ => ⟨rfl, e16, (by decide : 0 + 0 ≤ _), (by decide : 0 + 0 ≤ _)⟩)
  dsimp only [Pt.U, Pt.locs, Pt.cells, Pt.slots] at X17 l17 y17 z17 st17 hQ17
  subst l17 y17 z17
  obtain ⟨h17, e17⟩ : ∃ z, T17.heap = z := ⟨_, rfl⟩
  rw [e17] at hQ17
  obtain ⟨hq17, N17q, q17⟩ := hQ17
  rw [q17] at e17
  subst hq17
  have N17 := Fr.app N16 N17q
  refine own_fwd st17 ?_
  show own_R p.tables e below P (T17.setTop (mkF m 30 #[.val (.long p0), .second, .val (.long p1), .second, .val (.int p2), .val (.long (p0 &&& (9223372036854775807 : Int64))), .second, .val (.long (p1 &&& (9223372036854775807 : Int64))), .second, .val (.long (if (p1 &&& (9223372036854775807 : Int64)) < (p0 &&& (9223372036854775807 : Int64)) then (p1 &&& (9223372036854775807 : Int64)) else (p0 &&& (9223372036854775807 : Int64)))), .second, .unset, .unset, .unset, .unset, .unset] [(.long (if (p0 &&& (9223372036854775807 : Int64)) < (p1 &&& (9223372036854775807 : Int64)) then (p1 &&& (9223372036854775807 : Int64)) else (p0 &&& (9223372036854775807 : Int64))))]))
  refine own_fwd (fun t k => XS.lstore X17.here hx rfl (hb hby at_30) rfl (l' := #[.val (.long p0), .second, .val (.long p1), .second, .val (.int p2), .val (.long (p0 &&& (9223372036854775807 : Int64))), .second, .val (.long (p1 &&& (9223372036854775807 : Int64))), .second, .val (.long (if (p1 &&& (9223372036854775807 : Int64)) < (p0 &&& (9223372036854775807 : Int64)) then (p1 &&& (9223372036854775807 : Int64)) else (p0 &&& (9223372036854775807 : Int64)))), .second, .val (.long (if (p0 &&& (9223372036854775807 : Int64)) < (p1 &&& (9223372036854775807 : Int64)) then (p1 &&& (9223372036854775807 : Int64)) else (p0 &&& (9223372036854775807 : Int64)))), .second, .unset, .unset, .unset]) rfl k) ?_
  show own_R p.tables e below P (T17.setTop (mkF m 32 #[.val (.long p0), .second, .val (.long p1), .second, .val (.int p2), .val (.long (p0 &&& (9223372036854775807 : Int64))), .second, .val (.long (p1 &&& (9223372036854775807 : Int64))), .second, .val (.long (if (p1 &&& (9223372036854775807 : Int64)) < (p0 &&& (9223372036854775807 : Int64)) then (p1 &&& (9223372036854775807 : Int64)) else (p0 &&& (9223372036854775807 : Int64)))), .second, .val (.long (if (p0 &&& (9223372036854775807 : Int64)) < (p1 &&& (9223372036854775807 : Int64)) then (p1 &&& (9223372036854775807 : Int64)) else (p0 &&& (9223372036854775807 : Int64)))), .second, .unset, .unset, .unset] []))
  have o1 := own_first p0 p1
  have o2 := own_order (p0 &&& (9223372036854775807 : Int64)) (p1 &&& (9223372036854775807 : Int64))
  obtain ⟨ff, hff⟩ : ∃ z, (if (p1 &&& (9223372036854775807 : Int64)) < (p0 &&& (9223372036854775807 : Int64)) then (p1 &&& (9223372036854775807 : Int64)) else (p0 &&& (9223372036854775807 : Int64))) = z := ⟨_, rfl⟩
  obtain ⟨gg, hgg⟩ : ∃ z, (if (p0 &&& (9223372036854775807 : Int64)) < (p1 &&& (9223372036854775807 : Int64)) then (p1 &&& (9223372036854775807 : Int64)) else (p0 &&& (9223372036854775807 : Int64))) = z := ⟨_, rfl⟩
  rw [hff, hgg]
  rw [hff] at o1 o2
  rw [hgg] at o2
  show own_R p.tables e below P (T17.setTop (mkF m 32 #[.val (.long p0), .second, .val (.long p1), .second, .val (.int p2), .val (.long (p0 &&& (9223372036854775807 : Int64))), .second, .val (.long (p1 &&& (9223372036854775807 : Int64))), .second, .val (.long ff), .second, .val (.long gg), .second, .unset, .unset, .unset] []))
  refine own_fwd (fun t k => XS.iload X17.here hx rfl (hb hby at_32) rfl k) ?_
  show own_R p.tables e below P (T17.setTop (mkF m 34 #[.val (.long p0), .second, .val (.long p1), .second, .val (.int p2), .val (.long (p0 &&& (9223372036854775807 : Int64))), .second, .val (.long (p1 &&& (9223372036854775807 : Int64))), .second, .val (.long ff), .second, .val (.long gg), .second, .unset, .unset, .unset] [(.int p2)]))
  refine own_fwd (fun t k => XS.iconst X17.here hx rfl (hb hby at_34) k) ?_
  show own_R p.tables e below P (T17.setTop (mkF m 35 #[.val (.long p0), .second, .val (.long p1), .second, .val (.int p2), .val (.long (p0 &&& (9223372036854775807 : Int64))), .second, .val (.long (p1 &&& (9223372036854775807 : Int64))), .second, .val (.long ff), .second, .val (.long gg), .second, .unset, .unset, .unset] [(.int (1 : Int32)), (.int p2)]))
  refine own_fwd (fun t k => XS.iand X17.here hx rfl (hb hby at_35) rfl k) ?_
  show own_R p.tables e below P (T17.setTop (mkF m 36 #[.val (.long p0), .second, .val (.long p1), .second, .val (.int p2), .val (.long (p0 &&& (9223372036854775807 : Int64))), .second, .val (.long (p1 &&& (9223372036854775807 : Int64))), .second, .val (.long ff), .second, .val (.long gg), .second, .unset, .unset, .unset] [(.int (p2 &&& (1 : Int32)))]))
  by_cases hc18 : (p2 &&& (1 : Int32)) = (0 : Int32)
  · refine own_fwd (fun t k => XS.ifYes X17.here hx rfl (pc0 := 36) (pc' := 43) rfl (hb hby at_36) rfl ((if0 _ _).trans (teq hc18).1) (by decide) (by decide) k) ?_
    show own_R p.tables e below P (T17.setTop (mkF m 43 #[.val (.long p0), .second, .val (.long p1), .second, .val (.int p2), .val (.long (p0 &&& (9223372036854775807 : Int64))), .second, .val (.long (p1 &&& (9223372036854775807 : Int64))), .second, .val (.long ff), .second, .val (.long gg), .second, .unset, .unset, .unset] []))
    refine own_fwd (fun t k => XS.lload X17.here hx rfl (hb hby at_43) rfl k) ?_
    show own_R p.tables e below P (T17.setTop (mkF m 45 #[.val (.long p0), .second, .val (.long p1), .second, .val (.int p2), .val (.long (p0 &&& (9223372036854775807 : Int64))), .second, .val (.long (p1 &&& (9223372036854775807 : Int64))), .second, .val (.long ff), .second, .val (.long gg), .second, .unset, .unset, .unset] [(.long ff)]))
    refine own_fwd (fun t k => XS.lconst X17.here hx rfl (hb hby at_45) k) ?_
    show own_R p.tables e below P (T17.setTop (mkF m 46 #[.val (.long p0), .second, .val (.long p1), .second, .val (.int p2), .val (.long (p0 &&& (9223372036854775807 : Int64))), .second, .val (.long (p1 &&& (9223372036854775807 : Int64))), .second, .val (.long ff), .second, .val (.long gg), .second, .unset, .unset, .unset] [(.long (0 : Int64)), (.long ff)]))
    refine own_fwd (fun t k => XS.lcmp X17.here hx rfl (hb hby at_46) rfl k) ?_
    show own_R p.tables e below P (T17.setTop (mkF m 47 #[.val (.long p0), .second, .val (.long p1), .second, .val (.int p2), .val (.long (p0 &&& (9223372036854775807 : Int64))), .second, .val (.long (p1 &&& (9223372036854775807 : Int64))), .second, .val (.long ff), .second, .val (.long gg), .second, .unset, .unset, .unset] [(.int (lcmpW ff (0 : Int64)))]))
    by_cases hc19 : (lcmpW ff (0 : Int64)) = (0 : Int32)
    · refine own_fwd (fun t k => XS.ifNo X17.here hx rfl (hb hby at_47) rfl ((if0 _ _).trans (teq hc19).2) k) ?_
      show own_R p.tables e below P (T17.setTop (mkF m 50 #[.val (.long p0), .second, .val (.long p1), .second, .val (.int p2), .val (.long (p0 &&& (9223372036854775807 : Int64))), .second, .val (.long (p1 &&& (9223372036854775807 : Int64))), .second, .val (.long ff), .second, .val (.long gg), .second, .unset, .unset, .unset] []))
      refine own_fwd (fun t k => XS.lload X17.here hx rfl (hb hby at_50) rfl k) ?_
      show own_R p.tables e below P (T17.setTop (mkF m 52 #[.val (.long p0), .second, .val (.long p1), .second, .val (.int p2), .val (.long (p0 &&& (9223372036854775807 : Int64))), .second, .val (.long (p1 &&& (9223372036854775807 : Int64))), .second, .val (.long ff), .second, .val (.long gg), .second, .unset, .unset, .unset] [(.long gg)]))
      refine own_fwd (fun t k => X17.ldc2Long hx hown (mvT hZ (hw _ (List.mem_of_getElem? (i := 0) rfl))) (g := (mkF m 52 #[.val (.long p0), .second, .val (.long p1), .second, .val (.int p2), .val (.long (p0 &&& (9223372036854775807 : Int64))), .second, .val (.long (p1 &&& (9223372036854775807 : Int64))), .second, .val (.long ff), .second, .val (.long gg), .second, .unset, .unset, .unset] [(.long gg)])) rfl (hb hby at_52) t k) ?_
      show own_R p.tables e below P (T17.setTop (mkF m 55 #[.val (.long p0), .second, .val (.long p1), .second, .val (.int p2), .val (.long (p0 &&& (9223372036854775807 : Int64))), .second, .val (.long (p1 &&& (9223372036854775807 : Int64))), .second, .val (.long ff), .second, .val (.long gg), .second, .unset, .unset, .unset] [(.long (9223372036854775807 : Int64)), (.long gg)]))
      refine own_fwd (fun t k => XS.lcmp X17.here hx rfl (hb hby at_55) rfl k) ?_
      show own_R p.tables e below P (T17.setTop (mkF m 56 #[.val (.long p0), .second, .val (.long p1), .second, .val (.int p2), .val (.long (p0 &&& (9223372036854775807 : Int64))), .second, .val (.long (p1 &&& (9223372036854775807 : Int64))), .second, .val (.long ff), .second, .val (.long gg), .second, .unset, .unset, .unset] [(.int (lcmpW gg (9223372036854775807 : Int64)))]))
      by_cases hc20 : (lcmpW gg (9223372036854775807 : Int64)) = (0 : Int32)
      · refine own_fwd (fun t k => XS.ifNo X17.here hx rfl (hb hby at_56) rfl ((if0 _ _).trans (teq hc20).2) k) ?_
        show own_R p.tables e below P (T17.setTop (mkF m 59 #[.val (.long p0), .second, .val (.long p1), .second, .val (.int p2), .val (.long (p0 &&& (9223372036854775807 : Int64))), .second, .val (.long (p1 &&& (9223372036854775807 : Int64))), .second, .val (.long ff), .second, .val (.long gg), .second, .unset, .unset, .unset] []))
        refine own_fwd (fun t k => XS.iconst X17.here hx rfl (hb hby at_59) k) ?_
        show own_R p.tables e below P (T17.setTop (mkF m 60 #[.val (.long p0), .second, .val (.long p1), .second, .val (.int p2), .val (.long (p0 &&& (9223372036854775807 : Int64))), .second, .val (.long (p1 &&& (9223372036854775807 : Int64))), .second, .val (.long ff), .second, .val (.long gg), .second, .unset, .unset, .unset] [(.int (1 : Int32))]))
        obtain ⟨fs21, hr21, hrun21, hended21, hW21, hsame21⟩ := X17.leave (v := some (.int (1 : Int32))) (fun h => by rw [Bd.returns] at h; cases h)
        refine ⟨_, _, X17.ireturnOut hx (w := (1 : Int32)) Bd.returns rfl (by simp) (hb hby at_60) hr21, fin _ _ ⟨hrun21, hended21, _, _, rfl, ?_, ⟨_, rfl⟩, hW21, hsame21.mono (by decide) (by decide)⟩⟩
        show own_Qlaw Z p0 p1 p2 h0 n0 _ T17.heap _
        rw [e17]
        exact ⟨rfl, N17⟩
      · refine own_fwd (fun t k => XS.ifYes X17.here hx rfl (pc0 := 56) (pc' := 61) rfl (hb hby at_56) rfl ((if0 _ _).trans (feq hc20).2) (by decide) (by decide) k) ?_
        show own_R p.tables e below P (T17.setTop (mkF m 61 #[.val (.long p0), .second, .val (.long p1), .second, .val (.int p2), .val (.long (p0 &&& (9223372036854775807 : Int64))), .second, .val (.long (p1 &&& (9223372036854775807 : Int64))), .second, .val (.long ff), .second, .val (.long gg), .second, .unset, .unset, .unset] []))
        obtain ⟨T22, h22, X22, e22, E22, A22, D22, -, st22⟩ := newO X17 hx hZ hown (hw _ (List.mem_of_getElem? (i := 8) rfl)) (hw _ (List.mem_of_getElem? (i := 9) rfl)) (hw _ (List.mem_of_getElem? (i := 10) rfl)) e17 (g := (mkF m 61 #[.val (.long p0), .second, .val (.long p1), .second, .val (.int p2), .val (.long (p0 &&& (9223372036854775807 : Int64))), .second, .val (.long (p1 &&& (9223372036854775807 : Int64))), .second, .val (.long ff), .second, .val (.long gg), .second, .unset, .unset, .unset] [])) rfl (hb hby at_61) (by decide) (by decide)
        obtain ⟨b22, g22⟩ : ∃ z, z = h0.size := ⟨_, rfl⟩
        rw [← g22] at A22 D22 st22
        have ge_b22 : n0 ≤ b22 := by rw [g22]; exact Z0
        have sz_b22 : h0.size ≤ b22 := by rw [g22]; exact (Nat.le_refl h0.size)
        have F22_first : Fld Z h22 b22 "com/example/grantee/grantee/service/CopySource$Range" "first" "J" (.long (0 : Int64)) := D22 (Or.inr (hw _ (List.mem_of_getElem? (i := 18) rfl))) (ty := .long) (by decide)
        have F22_last : Fld Z h22 b22 "com/example/grantee/grantee/service/CopySource$Range" "last" "J" (.long (0 : Int64)) := D22 (Or.inr (hw _ (List.mem_of_getElem? (i := 20) rfl))) (ty := .long) (by decide)
        have Z22 : n0 ≤ h22.size := Nat.le_trans Z0 E22.1
        have Y22 : h0.size ≤ h22.size := Nat.le_trans (Nat.le_refl h0.size) E22.1
        refine own_fwd st22 ?_
        show own_R p.tables e below P (T22.setTop (mkF m 64 #[.val (.long p0), .second, .val (.long p1), .second, .val (.int p2), .val (.long (p0 &&& (9223372036854775807 : Int64))), .second, .val (.long (p1 &&& (9223372036854775807 : Int64))), .second, .val (.long ff), .second, .val (.long gg), .second, .unset, .unset, .unset] [(.ref b22)]))
        refine own_fwd (fun t k => XS.dup X22.here hx rfl (hb hby at_64) rfl rfl k) ?_
        show own_R p.tables e below P (T22.setTop (mkF m 65 #[.val (.long p0), .second, .val (.long p1), .second, .val (.int p2), .val (.long (p0 &&& (9223372036854775807 : Int64))), .second, .val (.long (p1 &&& (9223372036854775807 : Int64))), .second, .val (.long ff), .second, .val (.long gg), .second, .unset, .unset, .unset] [(.ref b22), (.ref b22)]))
        refine own_fwd (fun t k => XS.lload X22.here hx rfl (hb hby at_65) rfl k) ?_
        show own_R p.tables e below P (T22.setTop (mkF m 67 #[.val (.long p0), .second, .val (.long p1), .second, .val (.int p2), .val (.long (p0 &&& (9223372036854775807 : Int64))), .second, .val (.long (p1 &&& (9223372036854775807 : Int64))), .second, .val (.long ff), .second, .val (.long gg), .second, .unset, .unset, .unset] [(.long ff), (.ref b22), (.ref b22)]))
        refine own_fwd (fun t k => XS.lload X22.here hx rfl (hb hby at_67) rfl k) ?_
        show own_R p.tables e below P (T22.setTop (mkF m 69 #[.val (.long p0), .second, .val (.long p1), .second, .val (.int p2), .val (.long (p0 &&& (9223372036854775807 : Int64))), .second, .val (.long (p1 &&& (9223372036854775807 : Int64))), .second, .val (.long ff), .second, .val (.long gg), .second, .unset, .unset, .unset] [(.long gg), (.long ff), (.ref b22), (.ref b22)]))
        obtain ⟨_, _, ⟨T23, L23, k23, n23⟩, -, X23, ⟨Lc23, hQ23, l23, y23, z23⟩, st23⟩ := X22.specialBack hx (y := (⟨"com/example/grantee/grantee/service/CopySource$Range", "<init>", "(JJ)V"⟩ : MethodName)) rfl hown (mvT hZ (hw _ (List.mem_of_getElem? (i := 11) rfl))) (mvT hZ (hw _ (List.mem_of_getElem? (i := 12) rfl))) (mvT hZ (hw _ (List.mem_of_getElem? (i := 13) rfl))) (by decide) (backOf (W := 1) (own_rm3 l Z a0 hw [] b22 ff gg h22 n0 Z22 A22 F22_first F22_last ge_b22 (by rw [Int64.lt_iff_toInt_lt]; have e1 : (0 : Int64).toInt = 0 := rfl; omega) (by rw [Int64.lt_iff_toInt_lt]; omega)) hZ (hw _ (List.mem_of_getElem? (i := 13) rfl)) (hw _ (List.mem_of_getElem? (i := 10) rfl)) (by decide) (by decide)) (g := (mkF m 69 #[.val (.long p0), .second, .val (.long p1), .second, .val (.int p2), .val (.long (p0 &&& (9223372036854775807 : Int64))), .second, .val (.long (p1 &&& (9223372036854775807 : Int64))), .second, .val (.long ff), .second, .val (.long gg), .second, .unset, .unset, .unset] [(.long gg), (.long ff), (.ref b22), (.ref b22)])) rfl (by rw [hml]; rfl) (Steps.refl _) (a := b22) (argsL := [(.long ff), (.long gg)]) (rest := [(.ref b22)]) (lenOf own_pd1 rfl) rfl (by show 2 * 0 + _ ≤ _; exact Nat.le_of_eq rfl) (hb hby at_69) (fun _ _ => ⟨rfl, e22, (by decide : 1 + 0 ≤ _), (by decide : 2 + 0 ≤ _)⟩)
        dsimp only [Pt.U, Pt.locs, Pt.cells, Pt.slots] at X23 l23 y23 z23 st23 hQ23
        subst l23 y23 z23
        obtain ⟨h23, e23⟩ : ∃ z, T23.heap = z := ⟨_, rfl⟩
        rw [e23] at hQ23
        obtain ⟨hq23, N23q, K23, E23_, G23_, J23_⟩ := hQ23
        subst hq23
        have N23 := Fr.app N17 N23q
        have A22_x23 := A22.keep K23
        have Z23 : n0 ≤ h23.size := Nat.le_trans Z22 K23.1
        have Y23 : h0.size ≤ h23.size := Nat.le_trans Y22 K23.1
        refine own_trn st23 ?_
        show own_R p.tables e below P (T23.setTop (mkF m 72 #[.val (.long p0), .second, .val (.long p1), .second, .val (.int p2), .val (.long (p0 &&& (9223372036854775807 : Int64))), .second, .val (.long (p1 &&& (9223372036854775807 : Int64))), .second, .val (.long ff), .second, .val (.long gg), .second, .unset, .unset, .unset] [(.ref b22)]))
        refine own_fwd (fun t k => XS.astore X23.here hx rfl (hb hby at_72) rfl rfl (l' := #[.val (.long p0), .second, .val (.long p1), .second, .val (.int p2), .val (.long (p0 &&& (9223372036854775807 : Int64))), .second, .val (.long (p1 &&& (9223372036854775807 : Int64))), .second, .val (.long ff), .second, .val (.long gg), .second, .val (.ref b22), .unset, .unset]) rfl k) ?_
        show own_R p.tables e below P (T23.setTop (mkF m 74 #[.val (.long p0), .second, .val (.long p1), .second, .val (.int p2), .val (.long (p0 &&& (9223372036854775807 : Int64))), .second, .val (.long (p1 &&& (9223372036854775807 : Int64))), .second, .val (.long ff), .second, .val (.long gg), .second, .val (.ref b22), .unset, .unset] []))
        refine own_fwd (fun t k => XS.aload X23.here hx rfl (hb hby at_74) rfl rfl k) ?_
        show own_R p.tables e below P (T23.setTop (mkF m 76 #[.val (.long p0), .second, .val (.long p1), .second, .val (.int p2), .val (.long (p0 &&& (9223372036854775807 : Int64))), .second, .val (.long (p1 &&& (9223372036854775807 : Int64))), .second, .val (.long ff), .second, .val (.long gg), .second, .val (.ref b22), .unset, .unset] [(.ref b22)]))
        obtain ⟨cq24, kq24, q24a, q24b, q24c⟩ := isOf hZ e23 E23_
        obtain ⟨_, _, ⟨T24, L24, k24, n24⟩, -, X24, ⟨Lc24, hQ24, l24, y24, z24⟩, st24⟩ := X23.virtualBack hx (y := (⟨"com/example/grantee/grantee/service/CopySource$Range", "length", "()J"⟩ : MethodName)) (z := (⟨"com/example/grantee/grantee/service/CopySource$Range", "length", "()J"⟩ : MethodName)) hown (mvT hZ (hw _ (List.mem_of_getElem? (i := 21) rfl))) (mvT hZ (hw _ (List.mem_of_getElem? (i := 22) rfl))) (notFace_of_selects (args := #[]) (mvT hZ (hw _ (List.mem_of_getElem? (i := 24) rfl)))) (mvT hZ (hw _ (List.mem_of_getElem? (i := 24) rfl))) (mvT hZ (hw _ (List.mem_of_getElem? (i := 23) rfl))) (by decide) (backOf (W := 0) (own_rm5 l Z a0 hw [] b22 ff gg h23 n0 Z23 G23_ J23_) hZ (hw _ (List.mem_of_getElem? (i := 25) rfl)) (hw _ (List.mem_of_getElem? (i := 10) rfl)) (by decide) (by decide)) q24a q24c (g := (mkF m 76 #[.val (.long p0), .second, .val (.long p1), .second, .val (.int p2), .val (.long (p0 &&& (9223372036854775807 : Int64))), .second, .val (.long (p1 &&& (9223372036854775807 : Int64))), .second, .val (.long ff), .second, .val (.long gg), .second, .val (.ref b22), .unset, .unset] [(.ref b22)])) rfl (by rw [hml]; rfl) (Steps.refl _) (argsL := []) (rest := []) (lenOf own_pd2 rfl) rfl (by show 2 * 0 + _ ≤ _; exact Nat.le_of_eq rfl) (hb hby at_76) (fun _ _ => ⟨rfl, e23, (by decide : 1 + 0 ≤ _), (by decide : 2 + 0 ≤ _)⟩)
        dsimp only [Pt.U, Pt.locs, Pt.cells, Pt.slots] at X24 l24 y24 z24 st24 hQ24
        subst l24 y24 z24
        obtain ⟨h24, e24⟩ : ∃ z, T24.heap = z := ⟨_, rfl⟩
        rw [e24] at hQ24
        obtain ⟨hq24, N24q, q24⟩ := hQ24
        rw [q24] at e24
        subst hq24
        have N24 := Fr.app N23 N24q
        refine own_trn st24 ?_
        show own_R p.tables e below P (T24.setTop (mkF m 79 #[.val (.long p0), .second, .val (.long p1), .second, .val (.int p2), .val (.long (p0 &&& (9223372036854775807 : Int64))), .second, .val (.long (p1 &&& (9223372036854775807 : Int64))), .second, .val (.long ff), .second, .val (.long gg), .second, .val (.ref b22), .unset, .unset] [(.long ((gg - ff) + (1 : Int64)))]))
        refine own_fwd (fun t k => XS.lstore X24.here hx rfl (hb hby at_79) rfl (l' := #[.val (.long p0), .second, .val (.long p1), .second, .val (.int p2), .val (.long (p0 &&& (9223372036854775807 : Int64))), .second, .val (.long (p1 &&& (9223372036854775807 : Int64))), .second, .val (.long ff), .second, .val (.long gg), .second, .val (.ref b22), .val (.long ((gg - ff) + (1 : Int64))), .second]) rfl k) ?_
        show own_R p.tables e below P (T24.setTop (mkF m 81 #[.val (.long p0), .second, .val (.long p1), .second, .val (.int p2), .val (.long (p0 &&& (9223372036854775807 : Int64))), .second, .val (.long (p1 &&& (9223372036854775807 : Int64))), .second, .val (.long ff), .second, .val (.long gg), .second, .val (.ref b22), .val (.long ((gg - ff) + (1 : Int64))), .second] []))
        refine own_fwd (fun t k => XS.lload X24.here hx rfl (hb hby at_81) rfl k) ?_
        show own_R p.tables e below P (T24.setTop (mkF m 83 #[.val (.long p0), .second, .val (.long p1), .second, .val (.int p2), .val (.long (p0 &&& (9223372036854775807 : Int64))), .second, .val (.long (p1 &&& (9223372036854775807 : Int64))), .second, .val (.long ff), .second, .val (.long gg), .second, .val (.ref b22), .val (.long ((gg - ff) + (1 : Int64))), .second] [(.long ((gg - ff) + (1 : Int64)))]))
        refine own_fwd (fun t k => XS.lconst X24.here hx rfl (hb hby at_83) k) ?_
        show own_R p.tables e below P (T24.setTop (mkF m 84 #[.val (.long p0), .second, .val (.long p1), .second, .val (.int p2), .val (.long (p0 &&& (9223372036854775807 : Int64))), .second, .val (.long (p1 &&& (9223372036854775807 : Int64))), .second, .val (.long ff), .second, .val (.long gg), .second, .val (.ref b22), .val (.long ((gg - ff) + (1 : Int64))), .second] [(.long (1 : Int64)), (.long ((gg - ff) + (1 : Int64)))]))
        refine own_fwd (fun t k => XS.lcmp X24.here hx rfl (hb hby at_84) rfl k) ?_
        show own_R p.tables e below P (T24.setTop (mkF m 85 #[.val (.long p0), .second, .val (.long p1), .second, .val (.int p2), .val (.long (p0 &&& (9223372036854775807 : Int64))), .second, .val (.long (p1 &&& (9223372036854775807 : Int64))), .second, .val (.long ff), .second, .val (.long gg), .second, .val (.ref b22), .val (.long ((gg - ff) + (1 : Int64))), .second] [(.int (lcmpW ((gg - ff) + (1 : Int64)) (1 : Int64)))]))
        have hc25 : ¬ ((lcmpW ((gg - ff) + (1 : Int64)) (1 : Int64)) < (0 : Int32)) := (own_lenOk ff gg o1 o2 (fun q => hc20 ((lw_eq _ _).mpr (Int64.toInt_inj.mp q.2)))).1
        refine own_fwd (fun t k => XS.ifNo X24.here hx rfl (hb hby at_85) rfl ((if0 _ _).trans (flt hc25).1) k) ?_
        show own_R p.tables e below P (T24.setTop (mkF m 88 #[.val (.long p0), .second, .val (.long p1), .second, .val (.int p2), .val (.long (p0 &&& (9223372036854775807 : Int64))), .second, .val (.long (p1 &&& (9223372036854775807 : Int64))), .second, .val (.long ff), .second, .val (.long gg), .second, .val (.ref b22), .val (.long ((gg - ff) + (1 : Int64))), .second] []))
        refine own_fwd (fun t k => XS.lload X24.here hx rfl (hb hby at_88) rfl k) ?_
        show own_R p.tables e below P (T24.setTop (mkF m 90 #[.val (.long p0), .second, .val (.long p1), .second, .val (.int p2), .val (.long (p0 &&& (9223372036854775807 : Int64))), .second, .val (.long (p1 &&& (9223372036854775807 : Int64))), .second, .val (.long ff), .second, .val (.long gg), .second, .val (.ref b22), .val (.long ((gg - ff) + (1 : Int64))), .second] [(.long ff)]))
        refine own_fwd (fun t k => XS.lload X24.here hx rfl (hb hby at_90) rfl k) ?_
        show own_R p.tables e below P (T24.setTop (mkF m 92 #[.val (.long p0), .second, .val (.long p1), .second, .val (.int p2), .val (.long (p0 &&& (9223372036854775807 : Int64))), .second, .val (.long (p1 &&& (9223372036854775807 : Int64))), .second, .val (.long ff), .second, .val (.long gg), .second, .val (.ref b22), .val (.long ((gg - ff) + (1 : Int64))), .second] [(.long ((gg - ff) + (1 : Int64))), (.long ff)]))
        refine own_fwd (fun t k => XS.lconst X24.here hx rfl (hb hby at_92) k) ?_
        show own_R p.tables e below P (T24.setTop (mkF m 93 #[.val (.long p0), .second, .val (.long p1), .second, .val (.int p2), .val (.long (p0 &&& (9223372036854775807 : Int64))), .second, .val (.long (p1 &&& (9223372036854775807 : Int64))), .second, .val (.long ff), .second, .val (.long gg), .second, .val (.ref b22), .val (.long ((gg - ff) + (1 : Int64))), .second] [(.long (1 : Int64)), (.long ((gg - ff) + (1 : Int64))), (.long ff)]))
        refine own_fwd (fun t k => XS.lsub X24.here hx rfl (hb hby at_93) rfl k) ?_
        show own_R p.tables e below P (T24.setTop (mkF m 94 #[.val (.long p0), .second, .val (.long p1), .second, .val (.int p2), .val (.long (p0 &&& (9223372036854775807 : Int64))), .second, .val (.long (p1 &&& (9223372036854775807 : Int64))), .second, .val (.long ff), .second, .val (.long gg), .second, .val (.ref b22), .val (.long ((gg - ff) + (1 : Int64))), .second] [(.long (((gg - ff) + (1 : Int64)) - (1 : Int64))), (.long ff)]))
        refine own_fwd (fun t k => XS.ladd X24.here hx rfl (hb hby at_94) rfl k) ?_
        show own_R p.tables e below P (T24.setTop (mkF m 95 #[.val (.long p0), .second, .val (.long p1), .second, .val (.int p2), .val (.long (p0 &&& (9223372036854775807 : Int64))), .second, .val (.long (p1 &&& (9223372036854775807 : Int64))), .second, .val (.long ff), .second, .val (.long gg), .second, .val (.ref b22), .val (.long ((gg - ff) + (1 : Int64))), .second] [(.long (ff + (((gg - ff) + (1 : Int64)) - (1 : Int64))))]))
        refine own_fwd (fun t k => XS.lload X24.here hx rfl (hb hby at_95) rfl k) ?_
        show own_R p.tables e below P (T24.setTop (mkF m 97 #[.val (.long p0), .second, .val (.long p1), .second, .val (.int p2), .val (.long (p0 &&& (9223372036854775807 : Int64))), .second, .val (.long (p1 &&& (9223372036854775807 : Int64))), .second, .val (.long ff), .second, .val (.long gg), .second, .val (.ref b22), .val (.long ((gg - ff) + (1 : Int64))), .second] [(.long gg), (.long (ff + (((gg - ff) + (1 : Int64)) - (1 : Int64))))]))
        refine own_fwd (fun t k => XS.lcmp X24.here hx rfl (hb hby at_97) rfl k) ?_
        show own_R p.tables e below P (T24.setTop (mkF m 98 #[.val (.long p0), .second, .val (.long p1), .second, .val (.int p2), .val (.long (p0 &&& (9223372036854775807 : Int64))), .second, .val (.long (p1 &&& (9223372036854775807 : Int64))), .second, .val (.long ff), .second, .val (.long gg), .second, .val (.ref b22), .val (.long ((gg - ff) + (1 : Int64))), .second] [(.int (lcmpW (ff + (((gg - ff) + (1 : Int64)) - (1 : Int64))) gg))]))
        have hc26 : (lcmpW (ff + (((gg - ff) + (1 : Int64)) - (1 : Int64))) gg) = (0 : Int32) := (own_lenOk ff gg o1 o2 (fun q => hc20 ((lw_eq _ _).mpr (Int64.toInt_inj.mp q.2)))).2
        refine own_fwd (fun t k => XS.ifNo X24.here hx rfl (hb hby at_98) rfl ((if0 _ _).trans (teq hc26).2) k) ?_
        show own_R p.tables e below P (T24.setTop (mkF m 101 #[.val (.long p0), .second, .val (.long p1), .second, .val (.int p2), .val (.long (p0 &&& (9223372036854775807 : Int64))), .second, .val (.long (p1 &&& (9223372036854775807 : Int64))), .second, .val (.long ff), .second, .val (.long gg), .second, .val (.ref b22), .val (.long ((gg - ff) + (1 : Int64))), .second] []))
        refine own_fwd (fun t k => XS.iconst X24.here hx rfl (hb hby at_101) k) ?_
        show own_R p.tables e below P (T24.setTop (mkF m 102 #[.val (.long p0), .second, .val (.long p1), .second, .val (.int p2), .val (.long (p0 &&& (9223372036854775807 : Int64))), .second, .val (.long (p1 &&& (9223372036854775807 : Int64))), .second, .val (.long ff), .second, .val (.long gg), .second, .val (.ref b22), .val (.long ((gg - ff) + (1 : Int64))), .second] [(.int (1 : Int32))]))
        refine own_fwd (fun t k => XS.goto X24.here hx rfl (pc0 := 102) (pc' := 106) rfl (hb hby at_102) (by decide) (by decide) k) ?_
        show own_R p.tables e below P (T24.setTop (mkF m 106 #[.val (.long p0), .second, .val (.long p1), .second, .val (.int p2), .val (.long (p0 &&& (9223372036854775807 : Int64))), .second, .val (.long (p1 &&& (9223372036854775807 : Int64))), .second, .val (.long ff), .second, .val (.long gg), .second, .val (.ref b22), .val (.long ((gg - ff) + (1 : Int64))), .second] [(.int (1 : Int32))]))
        obtain ⟨fs27, hr27, hrun27, hended27, hW27, hsame27⟩ := X24.leave (v := some (.int (1 : Int32))) (fun h => by rw [Bd.returns] at h; cases h)
        refine ⟨_, _, X24.ireturnOut hx (w := (1 : Int32)) Bd.returns rfl (by simp) (hb hby at_106) hr27, fin _ _ ⟨hrun27, hended27, _, _, rfl, ?_, ⟨_, rfl⟩, hW27, hsame27.mono (by decide) (by decide)⟩⟩
        show own_Qlaw Z p0 p1 p2 h0 n0 _ T24.heap _
        rw [e24]
        exact ⟨rfl, N24⟩
    · refine own_fwd (fun t k => XS.ifYes X17.here hx rfl (pc0 := 47) (pc' := 61) rfl (hb hby at_47) rfl ((if0 _ _).trans (feq hc19).2) (by decide) (by decide) k) ?_
      show own_R p.tables e below P (T17.setTop (mkF m 61 #[.val (.long p0), .second, .val (.long p1), .second, .val (.int p2), .val (.long (p0 &&& (9223372036854775807 : Int64))), .second, .val (.long (p1 &&& (9223372036854775807 : Int64))), .second, .val (.long ff), .second, .val (.long gg), .second, .unset, .unset, .unset] []))
      obtain ⟨T28, h28, X28, e28, E28, A28, D28, -, st28⟩ := newO X17 hx hZ hown (hw _ (List.mem_of_getElem? (i := 8) rfl)) (hw _ (List.mem_of_getElem? (i := 9) rfl)) (hw _ (List.mem_of_getElem? (i := 10) rfl)) e17 (g := (mkF m 61 #[.val (.long p0), .second, .val (.long p1), .second, .val (.int p2), .val (.long (p0 &&& (9223372036854775807 : Int64))), .second, .val (.long (p1 &&& (9223372036854775807 : Int64))), .second, .val (.long ff), .second, .val (.long gg), .second, .unset, .unset, .unset] [])) rfl (hb hby at_61) (by decide) (by decide)
      obtain ⟨b28, g28⟩ : ∃ z, z = h0.size := ⟨_, rfl⟩
      rw [← g28] at A28 D28 st28
      have ge_b28 : n0 ≤ b28 := by rw [g28]; exact Z0
      have sz_b28 : h0.size ≤ b28 := by rw [g28]; exact (Nat.le_refl h0.size)
      have F28_first : Fld Z h28 b28 "com/example/grantee/grantee/service/CopySource$Range" "first" "J" (.long (0 : Int64)) := D28 (Or.inr (hw _ (List.mem_of_getElem? (i := 18) rfl))) (ty := .long) (by decide)
      have F28_last : Fld Z h28 b28 "com/example/grantee/grantee/service/CopySource$Range" "last" "J" (.long (0 : Int64)) := D28 (Or.inr (hw _ (List.mem_of_getElem? (i := 20) rfl))) (ty := .long) (by decide)
      have Z28 : n0 ≤ h28.size := Nat.le_trans Z0 E28.1
      have Y28 : h0.size ≤ h28.size := Nat.le_trans (Nat.le_refl h0.size) E28.1
      refine own_fwd st28 ?_
      show own_R p.tables e below P (T28.setTop (mkF m 64 #[.val (.long p0), .second, .val (.long p1), .second, .val (.int p2), .val (.long (p0 &&& (9223372036854775807 : Int64))), .second, .val (.long (p1 &&& (9223372036854775807 : Int64))), .second, .val (.long ff), .second, .val (.long gg), .second, .unset, .unset, .unset] [(.ref b28)]))
      refine own_fwd (fun t k => XS.dup X28.here hx rfl (hb hby at_64) rfl rfl k) ?_
      show own_R p.tables e below P (T28.setTop (mkF m 65 #[.val (.long p0), .second, .val (.long p1), .second, .val (.int p2), .val (.long (p0 &&& (9223372036854775807 : Int64))), .second, .val (.long (p1 &&& (9223372036854775807 : Int64))), .second, .val (.long ff), .second, .val (.long gg), .second, .unset, .unset, .unset] [(.ref b28), (.ref b28)]))
      refine own_fwd (fun t k => XS.lload X28.here hx rfl (hb hby at_65) rfl k) ?_
      show own_R p.tables e below P (T28.setTop (mkF m 67 #[.val (.long p0), .second, .val (.long p1), .second, .val (.int p2), .val (.long (p0 &&& (9223372036854775807 : Int64))), .second, .val (.long (p1 &&& (9223372036854775807 : Int64))), .second, .val (.long ff), .second, .val (.long gg), .second, .unset, .unset, .unset] [(.long ff), (.ref b28), (.ref b28)]))
      refine own_fwd (fun t k => XS.lload X28.here hx rfl (hb hby at_67) rfl k) ?_
      show own_R p.tables e below P (T28.setTop (mkF m 69 #[.val (.long p0), .second, .val (.long p1), .second, .val (.int p2), .val (.long (p0 &&& (9223372036854775807 : Int64))), .second, .val (.long (p1 &&& (9223372036854775807 : Int64))), .second, .val (.long ff), .second, .val (.long gg), .second, .unset, .unset, .unset] [(.long gg), (.long ff), (.ref b28), (.ref b28)]))
      obtain ⟨_, _, ⟨T29, L29, k29, n29⟩, -, X29, ⟨Lc29, hQ29, l29, y29, z29⟩, st29⟩ := X28.specialBack hx (y := (⟨"com/example/grantee/grantee/service/CopySource$Range", "<init>", "(JJ)V"⟩ : MethodName)) rfl hown (mvT hZ (hw _ (List.mem_of_getElem? (i := 11) rfl))) (mvT hZ (hw _ (List.mem_of_getElem? (i := 12) rfl))) (mvT hZ (hw _ (List.mem_of_getElem? (i := 13) rfl))) (by decide) (backOf (W := 1) (own_rm3 l Z a0 hw [] b28 ff gg h28 n0 Z28 A28 F28_first F28_last ge_b28 (by rw [Int64.lt_iff_toInt_lt]; have e1 : (0 : Int64).toInt = 0 := rfl; omega) (by rw [Int64.lt_iff_toInt_lt]; omega)) hZ (hw _ (List.mem_of_getElem? (i := 13) rfl)) (hw _ (List.mem_of_getElem? (i := 10) rfl)) (by decide) (by decide)) (g := (mkF m 69 #[.val (.long p0), .second, .val (.long p1), .second, .val (.int p2), .val (.long (p0 &&& (9223372036854775807 : Int64))), .second, .val (.long (p1 &&& (9223372036854775807 : Int64))), .second, .val (.long ff), .second, .val (.long gg), .second, .unset, .unset, .unset] [(.long gg), (.long ff), (.ref b28), (.ref b28)])) rfl (by rw [hml]; rfl) (Steps.refl _) (a := b28) (argsL := [(.long ff), (.long gg)]) (rest := [(.ref b28)]) (lenOf own_pd1 rfl) rfl (by show 2 * 0 + _ ≤ _; exact Nat.le_of_eq rfl) (hb hby at_69) (fun _ _ => ⟨rfl, e28, (by decide : 1 + 0 ≤ _), (by decide : 2 + 0 ≤ _)⟩)
      dsimp only [Pt.U, Pt.locs, Pt.cells, Pt.slots] at X29 l29 y29 z29 st29 hQ29
      subst l29 y29 z29
      obtain ⟨h29, e29⟩ : ∃ z, T29.heap = z := ⟨_, rfl⟩
      rw [e29] at hQ29
      obtain ⟨hq29, N29q, K29, E29_, G29_, J29_⟩ := hQ29
      subst hq29
      have N29 := Fr.app N17 N29q
      have A28_x29 := A28.keep K29
      have Z29 : n0 ≤ h29.size := Nat.le_trans Z28 K29.1
      have Y29 : h0.size ≤ h29.size := Nat.le_trans Y28 K29.1
      refine own_trn st29 ?_
      show own_R p.tables e below P (T29.setTop (mkF m 72 #[.val (.long p0), .second, .val (.long p1), .second, .val (.int p2), .val (.long (p0 &&& (9223372036854775807 : Int64))), .second, .val (.long (p1 &&& (9223372036854775807 : Int64))), .second, .val (.long ff), .second, .val (.long gg), .second, .unset, .unset, .unset] [(.ref b28)]))
      refine own_fwd (fun t k => XS.astore X29.here hx rfl (hb hby at_72) rfl rfl (l' := #[.val (.long p0), .second, .val (.long p1), .second, .val (.int p2), .val (.long (p0 &&& (9223372036854775807 : Int64))), .second, .val (.long (p1 &&& (9223372036854775807 : Int64))), .second, .val (.long ff), .second, .val (.long gg), .second, .val (.ref b28), .unset, .unset]) rfl k) ?_
      show own_R p.tables e below P (T29.setTop (mkF m 74 #[.val (.long p0), .second, .val (.long p1), .second, .val (.int p2), .val (.long (p0 &&& (9223372036854775807 : Int64))), .second, .val (.long (p1 &&& (9223372036854775807 : Int64))), .second, .val (.long ff), .second, .val (.long gg), .second, .val (.ref b28), .unset, .unset] []))
      refine own_fwd (fun t k => XS.aload X29.here hx rfl (hb hby at_74) rfl rfl k) ?_
      show own_R p.tables e below P (T29.setTop (mkF m 76 #[.val (.long p0), .second, .val (.long p1), .second, .val (.int p2), .val (.long (p0 &&& (9223372036854775807 : Int64))), .second, .val (.long (p1 &&& (9223372036854775807 : Int64))), .second, .val (.long ff), .second, .val (.long gg), .second, .val (.ref b28), .unset, .unset] [(.ref b28)]))
      obtain ⟨cq30, kq30, q30a, q30b, q30c⟩ := isOf hZ e29 E29_
      obtain ⟨_, _, ⟨T30, L30, k30, n30⟩, -, X30, ⟨Lc30, hQ30, l30, y30, z30⟩, st30⟩ := X29.virtualBack hx (y := (⟨"com/example/grantee/grantee/service/CopySource$Range", "length", "()J"⟩ : MethodName)) (z := (⟨"com/example/grantee/grantee/service/CopySource$Range", "length", "()J"⟩ : MethodName)) hown (mvT hZ (hw _ (List.mem_of_getElem? (i := 21) rfl))) (mvT hZ (hw _ (List.mem_of_getElem? (i := 22) rfl))) (notFace_of_selects (args := #[]) (mvT hZ (hw _ (List.mem_of_getElem? (i := 24) rfl)))) (mvT hZ (hw _ (List.mem_of_getElem? (i := 24) rfl))) (mvT hZ (hw _ (List.mem_of_getElem? (i := 23) rfl))) (by decide) (backOf (W := 0) (own_rm5 l Z a0 hw [] b28 ff gg h29 n0 Z29 G29_ J29_) hZ (hw _ (List.mem_of_getElem? (i := 25) rfl)) (hw _ (List.mem_of_getElem? (i := 10) rfl)) (by decide) (by decide)) q30a q30c (g := (mkF m 76 #[.val (.long p0), .second, .val (.long p1), .second, .val (.int p2), .val (.long (p0 &&& (9223372036854775807 : Int64))), .second, .val (.long (p1 &&& (9223372036854775807 : Int64))), .second, .val (.long ff), .second, .val (.long gg), .second, .val (.ref b28), .unset, .unset] [(.ref b28)])) rfl (by rw [hml]; rfl) (Steps.refl _) (argsL := []) (rest := []) (lenOf own_pd2 rfl) rfl (by show 2 * 0 + _ ≤ _; exact Nat.le_of_eq rfl) (hb hby at_76) (fun _ _ => ⟨rfl, e29, (by decide : 1 + 0 ≤ _), (by decide : 2 + 0 ≤ _)⟩)
      dsimp only [Pt.U, Pt.locs, Pt.cells, Pt.slots] at X30 l30 y30 z30 st30 hQ30
      subst l30 y30 z30
      obtain ⟨h30, e30⟩ : ∃ z, T30.heap = z := ⟨_, rfl⟩
      rw [e30] at hQ30
      obtain ⟨hq30, N30q, q30⟩ := hQ30
      rw [q30] at e30
      subst hq30
      have N30 := Fr.app N29 N30q
      refine own_trn st30 ?_
      show own_R p.tables e below P (T30.setTop (mkF m 79 #[.val (.long p0), .second, .val (.long p1), .second, .val (.int p2), .val (.long (p0 &&& (9223372036854775807 : Int64))), .second, .val (.long (p1 &&& (9223372036854775807 : Int64))), .second, .val (.long ff), .second, .val (.long gg), .second, .val (.ref b28), .unset, .unset] [(.long ((gg - ff) + (1 : Int64)))]))
      refine own_fwd (fun t k => XS.lstore X30.here hx rfl (hb hby at_79) rfl (l' := #[.val (.long p0), .second, .val (.long p1), .second, .val (.int p2), .val (.long (p0 &&& (9223372036854775807 : Int64))), .second, .val (.long (p1 &&& (9223372036854775807 : Int64))), .second, .val (.long ff), .second, .val (.long gg), .second, .val (.ref b28), .val (.long ((gg - ff) + (1 : Int64))), .second]) rfl k) ?_
      show own_R p.tables e below P (T30.setTop (mkF m 81 #[.val (.long p0), .second, .val (.long p1), .second, .val (.int p2), .val (.long (p0 &&& (9223372036854775807 : Int64))), .second, .val (.long (p1 &&& (9223372036854775807 : Int64))), .second, .val (.long ff), .second, .val (.long gg), .second, .val (.ref b28), .val (.long ((gg - ff) + (1 : Int64))), .second] []))
      refine own_fwd (fun t k => XS.lload X30.here hx rfl (hb hby at_81) rfl k) ?_
      show own_R p.tables e below P (T30.setTop (mkF m 83 #[.val (.long p0), .second, .val (.long p1), .second, .val (.int p2), .val (.long (p0 &&& (9223372036854775807 : Int64))), .second, .val (.long (p1 &&& (9223372036854775807 : Int64))), .second, .val (.long ff), .second, .val (.long gg), .second, .val (.ref b28), .val (.long ((gg - ff) + (1 : Int64))), .second] [(.long ((gg - ff) + (1 : Int64)))]))
      refine own_fwd (fun t k => XS.lconst X30.here hx rfl (hb hby at_83) k) ?_
      show own_R p.tables e below P (T30.setTop (mkF m 84 #[.val (.long p0), .second, .val (.long p1), .second, .val (.int p2), .val (.long (p0 &&& (9223372036854775807 : Int64))), .second, .val (.long (p1 &&& (9223372036854775807 : Int64))), .second, .val (.long ff), .second, .val (.long gg), .second, .val (.ref b28), .val (.long ((gg - ff) + (1 : Int64))), .second] [(.long (1 : Int64)), (.long ((gg - ff) + (1 : Int64)))]))
      refine own_fwd (fun t k => XS.lcmp X30.here hx rfl (hb hby at_84) rfl k) ?_
      show own_R p.tables e below P (T30.setTop (mkF m 85 #[.val (.long p0), .second, .val (.long p1), .second, .val (.int p2), .val (.long (p0 &&& (9223372036854775807 : Int64))), .second, .val (.long (p1 &&& (9223372036854775807 : Int64))), .second, .val (.long ff), .second, .val (.long gg), .second, .val (.ref b28), .val (.long ((gg - ff) + (1 : Int64))), .second] [(.int (lcmpW ((gg - ff) + (1 : Int64)) (1 : Int64)))]))
      have hc31 : ¬ ((lcmpW ((gg - ff) + (1 : Int64)) (1 : Int64)) < (0 : Int32)) := (own_lenOk ff gg o1 o2 (fun q => hc19 ((lw_eq _ _).mpr (Int64.toInt_inj.mp q.1)))).1
      refine own_fwd (fun t k => XS.ifNo X30.here hx rfl (hb hby at_85) rfl ((if0 _ _).trans (flt hc31).1) k) ?_
      show own_R p.tables e below P (T30.setTop (mkF m 88 #[.val (.long p0), .second, .val (.long p1), .second, .val (.int p2), .val (.long (p0 &&& (9223372036854775807 : Int64))), .second, .val (.long (p1 &&& (9223372036854775807 : Int64))), .second, .val (.long ff), .second, .val (.long gg), .second, .val (.ref b28), .val (.long ((gg - ff) + (1 : Int64))), .second] []))
      refine own_fwd (fun t k => XS.lload X30.here hx rfl (hb hby at_88) rfl k) ?_
      show own_R p.tables e below P (T30.setTop (mkF m 90 #[.val (.long p0), .second, .val (.long p1), .second, .val (.int p2), .val (.long (p0 &&& (9223372036854775807 : Int64))), .second, .val (.long (p1 &&& (9223372036854775807 : Int64))), .second, .val (.long ff), .second, .val (.long gg), .second, .val (.ref b28), .val (.long ((gg - ff) + (1 : Int64))), .second] [(.long ff)]))
      refine own_fwd (fun t k => XS.lload X30.here hx rfl (hb hby at_90) rfl k) ?_
      show own_R p.tables e below P (T30.setTop (mkF m 92 #[.val (.long p0), .second, .val (.long p1), .second, .val (.int p2), .val (.long (p0 &&& (9223372036854775807 : Int64))), .second, .val (.long (p1 &&& (9223372036854775807 : Int64))), .second, .val (.long ff), .second, .val (.long gg), .second, .val (.ref b28), .val (.long ((gg - ff) + (1 : Int64))), .second] [(.long ((gg - ff) + (1 : Int64))), (.long ff)]))
      refine own_fwd (fun t k => XS.lconst X30.here hx rfl (hb hby at_92) k) ?_
      show own_R p.tables e below P (T30.setTop (mkF m 93 #[.val (.long p0), .second, .val (.long p1), .second, .val (.int p2), .val (.long (p0 &&& (9223372036854775807 : Int64))), .second, .val (.long (p1 &&& (9223372036854775807 : Int64))), .second, .val (.long ff), .second, .val (.long gg), .second, .val (.ref b28), .val (.long ((gg - ff) + (1 : Int64))), .second] [(.long (1 : Int64)), (.long ((gg - ff) + (1 : Int64))), (.long ff)]))
      refine own_fwd (fun t k => XS.lsub X30.here hx rfl (hb hby at_93) rfl k) ?_
      show own_R p.tables e below P (T30.setTop (mkF m 94 #[.val (.long p0), .second, .val (.long p1), .second, .val (.int p2), .val (.long (p0 &&& (9223372036854775807 : Int64))), .second, .val (.long (p1 &&& (9223372036854775807 : Int64))), .second, .val (.long ff), .second, .val (.long gg), .second, .val (.ref b28), .val (.long ((gg - ff) + (1 : Int64))), .second] [(.long (((gg - ff) + (1 : Int64)) - (1 : Int64))), (.long ff)]))
      refine own_fwd (fun t k => XS.ladd X30.here hx rfl (hb hby at_94) rfl k) ?_
      show own_R p.tables e below P (T30.setTop (mkF m 95 #[.val (.long p0), .second, .val (.long p1), .second, .val (.int p2), .val (.long (p0 &&& (9223372036854775807 : Int64))), .second, .val (.long (p1 &&& (9223372036854775807 : Int64))), .second, .val (.long ff), .second, .val (.long gg), .second, .val (.ref b28), .val (.long ((gg - ff) + (1 : Int64))), .second] [(.long (ff + (((gg - ff) + (1 : Int64)) - (1 : Int64))))]))
      refine own_fwd (fun t k => XS.lload X30.here hx rfl (hb hby at_95) rfl k) ?_
      show own_R p.tables e below P (T30.setTop (mkF m 97 #[.val (.long p0), .second, .val (.long p1), .second, .val (.int p2), .val (.long (p0 &&& (9223372036854775807 : Int64))), .second, .val (.long (p1 &&& (9223372036854775807 : Int64))), .second, .val (.long ff), .second, .val (.long gg), .second, .val (.ref b28), .val (.long ((gg - ff) + (1 : Int64))), .second] [(.long gg), (.long (ff + (((gg - ff) + (1 : Int64)) - (1 : Int64))))]))
      refine own_fwd (fun t k => XS.lcmp X30.here hx rfl (hb hby at_97) rfl k) ?_
      show own_R p.tables e below P (T30.setTop (mkF m 98 #[.val (.long p0), .second, .val (.long p1), .second, .val (.int p2), .val (.long (p0 &&& (9223372036854775807 : Int64))), .second, .val (.long (p1 &&& (9223372036854775807 : Int64))), .second, .val (.long ff), .second, .val (.long gg), .second, .val (.ref b28), .val (.long ((gg - ff) + (1 : Int64))), .second] [(.int (lcmpW (ff + (((gg - ff) + (1 : Int64)) - (1 : Int64))) gg))]))
      have hc32 : (lcmpW (ff + (((gg - ff) + (1 : Int64)) - (1 : Int64))) gg) = (0 : Int32) := (own_lenOk ff gg o1 o2 (fun q => hc19 ((lw_eq _ _).mpr (Int64.toInt_inj.mp q.1)))).2
      refine own_fwd (fun t k => XS.ifNo X30.here hx rfl (hb hby at_98) rfl ((if0 _ _).trans (teq hc32).2) k) ?_
      show own_R p.tables e below P (T30.setTop (mkF m 101 #[.val (.long p0), .second, .val (.long p1), .second, .val (.int p2), .val (.long (p0 &&& (9223372036854775807 : Int64))), .second, .val (.long (p1 &&& (9223372036854775807 : Int64))), .second, .val (.long ff), .second, .val (.long gg), .second, .val (.ref b28), .val (.long ((gg - ff) + (1 : Int64))), .second] []))
      refine own_fwd (fun t k => XS.iconst X30.here hx rfl (hb hby at_101) k) ?_
      show own_R p.tables e below P (T30.setTop (mkF m 102 #[.val (.long p0), .second, .val (.long p1), .second, .val (.int p2), .val (.long (p0 &&& (9223372036854775807 : Int64))), .second, .val (.long (p1 &&& (9223372036854775807 : Int64))), .second, .val (.long ff), .second, .val (.long gg), .second, .val (.ref b28), .val (.long ((gg - ff) + (1 : Int64))), .second] [(.int (1 : Int32))]))
      refine own_fwd (fun t k => XS.goto X30.here hx rfl (pc0 := 102) (pc' := 106) rfl (hb hby at_102) (by decide) (by decide) k) ?_
      show own_R p.tables e below P (T30.setTop (mkF m 106 #[.val (.long p0), .second, .val (.long p1), .second, .val (.int p2), .val (.long (p0 &&& (9223372036854775807 : Int64))), .second, .val (.long (p1 &&& (9223372036854775807 : Int64))), .second, .val (.long ff), .second, .val (.long gg), .second, .val (.ref b28), .val (.long ((gg - ff) + (1 : Int64))), .second] [(.int (1 : Int32))]))
      obtain ⟨fs33, hr33, hrun33, hended33, hW33, hsame33⟩ := X30.leave (v := some (.int (1 : Int32))) (fun h => by rw [Bd.returns] at h; cases h)
      refine ⟨_, _, X30.ireturnOut hx (w := (1 : Int32)) Bd.returns rfl (by simp) (hb hby at_106) hr33, fin _ _ ⟨hrun33, hended33, _, _, rfl, ?_, ⟨_, rfl⟩, hW33, hsame33.mono (by decide) (by decide)⟩⟩
      show own_Qlaw Z p0 p1 p2 h0 n0 _ T30.heap _
      rw [e30]
      exact ⟨rfl, N30⟩
  · refine own_fwd (fun t k => XS.ifNo X17.here hx rfl (hb hby at_36) rfl ((if0 _ _).trans (feq hc18).1) k) ?_
    show own_R p.tables e below P (T17.setTop (mkF m 39 #[.val (.long p0), .second, .val (.long p1), .second, .val (.int p2), .val (.long (p0 &&& (9223372036854775807 : Int64))), .second, .val (.long (p1 &&& (9223372036854775807 : Int64))), .second, .val (.long ff), .second, .val (.long gg), .second, .unset, .unset, .unset] []))
    refine own_fwd (fun t k => XS.lload X17.here hx rfl (hb hby at_39) rfl k) ?_
    show own_R p.tables e below P (T17.setTop (mkF m 41 #[.val (.long p0), .second, .val (.long p1), .second, .val (.int p2), .val (.long (p0 &&& (9223372036854775807 : Int64))), .second, .val (.long (p1 &&& (9223372036854775807 : Int64))), .second, .val (.long ff), .second, .val (.long gg), .second, .unset, .unset, .unset] [(.long ff)]))
    refine own_fwd (fun t k => XS.lstore X17.here hx rfl (hb hby at_41) rfl (l' := #[.val (.long p0), .second, .val (.long p1), .second, .val (.int p2), .val (.long (p0 &&& (9223372036854775807 : Int64))), .second, .val (.long (p1 &&& (9223372036854775807 : Int64))), .second, .val (.long ff), .second, .val (.long ff), .second, .unset, .unset, .unset]) rfl k) ?_
    show own_R p.tables e below P (T17.setTop (mkF m 43 #[.val (.long p0), .second, .val (.long p1), .second, .val (.int p2), .val (.long (p0 &&& (9223372036854775807 : Int64))), .second, .val (.long (p1 &&& (9223372036854775807 : Int64))), .second, .val (.long ff), .second, .val (.long ff), .second, .unset, .unset, .unset] []))
    refine own_fwd (fun t k => XS.lload X17.here hx rfl (hb hby at_43) rfl k) ?_
    show own_R p.tables e below P (T17.setTop (mkF m 45 #[.val (.long p0), .second, .val (.long p1), .second, .val (.int p2), .val (.long (p0 &&& (9223372036854775807 : Int64))), .second, .val (.long (p1 &&& (9223372036854775807 : Int64))), .second, .val (.long ff), .second, .val (.long ff), .second, .unset, .unset, .unset] [(.long ff)]))
    refine own_fwd (fun t k => XS.lconst X17.here hx rfl (hb hby at_45) k) ?_
    show own_R p.tables e below P (T17.setTop (mkF m 46 #[.val (.long p0), .second, .val (.long p1), .second, .val (.int p2), .val (.long (p0 &&& (9223372036854775807 : Int64))), .second, .val (.long (p1 &&& (9223372036854775807 : Int64))), .second, .val (.long ff), .second, .val (.long ff), .second, .unset, .unset, .unset] [(.long (0 : Int64)), (.long ff)]))
    refine own_fwd (fun t k => XS.lcmp X17.here hx rfl (hb hby at_46) rfl k) ?_
    show own_R p.tables e below P (T17.setTop (mkF m 47 #[.val (.long p0), .second, .val (.long p1), .second, .val (.int p2), .val (.long (p0 &&& (9223372036854775807 : Int64))), .second, .val (.long (p1 &&& (9223372036854775807 : Int64))), .second, .val (.long ff), .second, .val (.long ff), .second, .unset, .unset, .unset] [(.int (lcmpW ff (0 : Int64)))]))
    by_cases hc34 : (lcmpW ff (0 : Int64)) = (0 : Int32)
    · refine own_fwd (fun t k => XS.ifNo X17.here hx rfl (hb hby at_47) rfl ((if0 _ _).trans (teq hc34).2) k) ?_
      show own_R p.tables e below P (T17.setTop (mkF m 50 #[.val (.long p0), .second, .val (.long p1), .second, .val (.int p2), .val (.long (p0 &&& (9223372036854775807 : Int64))), .second, .val (.long (p1 &&& (9223372036854775807 : Int64))), .second, .val (.long ff), .second, .val (.long ff), .second, .unset, .unset, .unset] []))
      refine own_fwd (fun t k => XS.lload X17.here hx rfl (hb hby at_50) rfl k) ?_
      show own_R p.tables e below P (T17.setTop (mkF m 52 #[.val (.long p0), .second, .val (.long p1), .second, .val (.int p2), .val (.long (p0 &&& (9223372036854775807 : Int64))), .second, .val (.long (p1 &&& (9223372036854775807 : Int64))), .second, .val (.long ff), .second, .val (.long ff), .second, .unset, .unset, .unset] [(.long ff)]))
      refine own_fwd (fun t k => X17.ldc2Long hx hown (mvT hZ (hw _ (List.mem_of_getElem? (i := 0) rfl))) (g := (mkF m 52 #[.val (.long p0), .second, .val (.long p1), .second, .val (.int p2), .val (.long (p0 &&& (9223372036854775807 : Int64))), .second, .val (.long (p1 &&& (9223372036854775807 : Int64))), .second, .val (.long ff), .second, .val (.long ff), .second, .unset, .unset, .unset] [(.long ff)])) rfl (hb hby at_52) t k) ?_
      show own_R p.tables e below P (T17.setTop (mkF m 55 #[.val (.long p0), .second, .val (.long p1), .second, .val (.int p2), .val (.long (p0 &&& (9223372036854775807 : Int64))), .second, .val (.long (p1 &&& (9223372036854775807 : Int64))), .second, .val (.long ff), .second, .val (.long ff), .second, .unset, .unset, .unset] [(.long (9223372036854775807 : Int64)), (.long ff)]))
      refine own_fwd (fun t k => XS.lcmp X17.here hx rfl (hb hby at_55) rfl k) ?_
      show own_R p.tables e below P (T17.setTop (mkF m 56 #[.val (.long p0), .second, .val (.long p1), .second, .val (.int p2), .val (.long (p0 &&& (9223372036854775807 : Int64))), .second, .val (.long (p1 &&& (9223372036854775807 : Int64))), .second, .val (.long ff), .second, .val (.long ff), .second, .unset, .unset, .unset] [(.int (lcmpW ff (9223372036854775807 : Int64)))]))
      by_cases hc35 : (lcmpW ff (9223372036854775807 : Int64)) = (0 : Int32)
      · refine own_fwd (fun t k => XS.ifNo X17.here hx rfl (hb hby at_56) rfl ((if0 _ _).trans (teq hc35).2) k) ?_
        show own_R p.tables e below P (T17.setTop (mkF m 59 #[.val (.long p0), .second, .val (.long p1), .second, .val (.int p2), .val (.long (p0 &&& (9223372036854775807 : Int64))), .second, .val (.long (p1 &&& (9223372036854775807 : Int64))), .second, .val (.long ff), .second, .val (.long ff), .second, .unset, .unset, .unset] []))
        refine own_fwd (fun t k => XS.iconst X17.here hx rfl (hb hby at_59) k) ?_
        show own_R p.tables e below P (T17.setTop (mkF m 60 #[.val (.long p0), .second, .val (.long p1), .second, .val (.int p2), .val (.long (p0 &&& (9223372036854775807 : Int64))), .second, .val (.long (p1 &&& (9223372036854775807 : Int64))), .second, .val (.long ff), .second, .val (.long ff), .second, .unset, .unset, .unset] [(.int (1 : Int32))]))
        obtain ⟨fs36, hr36, hrun36, hended36, hW36, hsame36⟩ := X17.leave (v := some (.int (1 : Int32))) (fun h => by rw [Bd.returns] at h; cases h)
        refine ⟨_, _, X17.ireturnOut hx (w := (1 : Int32)) Bd.returns rfl (by simp) (hb hby at_60) hr36, fin _ _ ⟨hrun36, hended36, _, _, rfl, ?_, ⟨_, rfl⟩, hW36, hsame36.mono (by decide) (by decide)⟩⟩
        show own_Qlaw Z p0 p1 p2 h0 n0 _ T17.heap _
        rw [e17]
        exact ⟨rfl, N17⟩
      · refine own_fwd (fun t k => XS.ifYes X17.here hx rfl (pc0 := 56) (pc' := 61) rfl (hb hby at_56) rfl ((if0 _ _).trans (feq hc35).2) (by decide) (by decide) k) ?_
        show own_R p.tables e below P (T17.setTop (mkF m 61 #[.val (.long p0), .second, .val (.long p1), .second, .val (.int p2), .val (.long (p0 &&& (9223372036854775807 : Int64))), .second, .val (.long (p1 &&& (9223372036854775807 : Int64))), .second, .val (.long ff), .second, .val (.long ff), .second, .unset, .unset, .unset] []))
        obtain ⟨T37, h37, X37, e37, E37, A37, D37, -, st37⟩ := newO X17 hx hZ hown (hw _ (List.mem_of_getElem? (i := 8) rfl)) (hw _ (List.mem_of_getElem? (i := 9) rfl)) (hw _ (List.mem_of_getElem? (i := 10) rfl)) e17 (g := (mkF m 61 #[.val (.long p0), .second, .val (.long p1), .second, .val (.int p2), .val (.long (p0 &&& (9223372036854775807 : Int64))), .second, .val (.long (p1 &&& (9223372036854775807 : Int64))), .second, .val (.long ff), .second, .val (.long ff), .second, .unset, .unset, .unset] [])) rfl (hb hby at_61) (by decide) (by decide)
        obtain ⟨b37, g37⟩ : ∃ z, z = h0.size := ⟨_, rfl⟩
        rw [← g37] at A37 D37 st37
        have ge_b37 : n0 ≤ b37 := by rw [g37]; exact Z0
        have sz_b37 : h0.size ≤ b37 := by rw [g37]; exact (Nat.le_refl h0.size)
        have F37_first : Fld Z h37 b37 "com/example/grantee/grantee/service/CopySource$Range" "first" "J" (.long (0 : Int64)) := D37 (Or.inr (hw _ (List.mem_of_getElem? (i := 18) rfl))) (ty := .long) (by decide)
        have F37_last : Fld Z h37 b37 "com/example/grantee/grantee/service/CopySource$Range" "last" "J" (.long (0 : Int64)) := D37 (Or.inr (hw _ (List.mem_of_getElem? (i := 20) rfl))) (ty := .long) (by decide)
        have Z37 : n0 ≤ h37.size := Nat.le_trans Z0 E37.1
        have Y37 : h0.size ≤ h37.size := Nat.le_trans (Nat.le_refl h0.size) E37.1
        refine own_fwd st37 ?_
        show own_R p.tables e below P (T37.setTop (mkF m 64 #[.val (.long p0), .second, .val (.long p1), .second, .val (.int p2), .val (.long (p0 &&& (9223372036854775807 : Int64))), .second, .val (.long (p1 &&& (9223372036854775807 : Int64))), .second, .val (.long ff), .second, .val (.long ff), .second, .unset, .unset, .unset] [(.ref b37)]))
        refine own_fwd (fun t k => XS.dup X37.here hx rfl (hb hby at_64) rfl rfl k) ?_
        show own_R p.tables e below P (T37.setTop (mkF m 65 #[.val (.long p0), .second, .val (.long p1), .second, .val (.int p2), .val (.long (p0 &&& (9223372036854775807 : Int64))), .second, .val (.long (p1 &&& (9223372036854775807 : Int64))), .second, .val (.long ff), .second, .val (.long ff), .second, .unset, .unset, .unset] [(.ref b37), (.ref b37)]))
        refine own_fwd (fun t k => XS.lload X37.here hx rfl (hb hby at_65) rfl k) ?_
        show own_R p.tables e below P (T37.setTop (mkF m 67 #[.val (.long p0), .second, .val (.long p1), .second, .val (.int p2), .val (.long (p0 &&& (9223372036854775807 : Int64))), .second, .val (.long (p1 &&& (9223372036854775807 : Int64))), .second, .val (.long ff), .second, .val (.long ff), .second, .unset, .unset, .unset] [(.long ff), (.ref b37), (.ref b37)]))
        refine own_fwd (fun t k => XS.lload X37.here hx rfl (hb hby at_67) rfl k) ?_
        show own_R p.tables e below P (T37.setTop (mkF m 69 #[.val (.long p0), .second, .val (.long p1), .second, .val (.int p2), .val (.long (p0 &&& (9223372036854775807 : Int64))), .second, .val (.long (p1 &&& (9223372036854775807 : Int64))), .second, .val (.long ff), .second, .val (.long ff), .second, .unset, .unset, .unset] [(.long ff), (.long ff), (.ref b37), (.ref b37)]))
        obtain ⟨_, _, ⟨T38, L38, k38, n38⟩, -, X38, ⟨Lc38, hQ38, l38, y38, z38⟩, st38⟩ := X37.specialBack hx (y := (⟨"com/example/grantee/grantee/service/CopySource$Range", "<init>", "(JJ)V"⟩ : MethodName)) rfl hown (mvT hZ (hw _ (List.mem_of_getElem? (i := 11) rfl))) (mvT hZ (hw _ (List.mem_of_getElem? (i := 12) rfl))) (mvT hZ (hw _ (List.mem_of_getElem? (i := 13) rfl))) (by decide) (backOf (W := 1) (own_rm3 l Z a0 hw [] b37 ff ff h37 n0 Z37 A37 F37_first F37_last ge_b37 (by rw [Int64.lt_iff_toInt_lt]; have e1 : (0 : Int64).toInt = 0 := rfl; omega) (by rw [Int64.lt_iff_toInt_lt]; omega)) hZ (hw _ (List.mem_of_getElem? (i := 13) rfl)) (hw _ (List.mem_of_getElem? (i := 10) rfl)) (by decide) (by decide)) (g := (mkF m 69 #[.val (.long p0), .second, .val (.long p1), .second, .val (.int p2), .val (.long (p0 &&& (9223372036854775807 : Int64))), .second, .val (.long (p1 &&& (9223372036854775807 : Int64))), .second, .val (.long ff), .second, .val (.long ff), .second, .unset, .unset, .unset] [(.long ff), (.long ff), (.ref b37), (.ref b37)])) rfl (by rw [hml]; rfl) (Steps.refl _) (a := b37) (argsL := [(.long ff), (.long ff)]) (rest := [(.ref b37)]) (lenOf own_pd1 rfl) rfl (by show 2 * 0 + _ ≤ _; exact Nat.le_of_eq rfl) (hb hby at_69) (fun _ _ => ⟨rfl, e37, (by decide : 1 + 0 ≤ _), (by decide : 2 + 0 ≤ _)⟩)
        dsimp only [Pt.U, Pt.locs, Pt.cells, Pt.slots] at X38 l38 y38 z38 st38 hQ38
        subst l38 y38 z38
        obtain ⟨h38, e38⟩ : ∃ z, T38.heap = z := ⟨_, rfl⟩
        rw [e38] at hQ38
        obtain ⟨hq38, N38q, K38, E38_, G38_, J38_⟩ := hQ38
        subst hq38
        have N38 := Fr.app N17 N38q
        have A37_x38 := A37.keep K38
        have Z38 : n0 ≤ h38.size := Nat.le_trans Z37 K38.1
        have Y38 : h0.size ≤ h38.size := Nat.le_trans Y37 K38.1
        refine own_trn st38 ?_
        show own_R p.tables e below P (T38.setTop (mkF m 72 #[.val (.long p0), .second, .val (.long p1), .second, .val (.int p2), .val (.long (p0 &&& (9223372036854775807 : Int64))), .second, .val (.long (p1 &&& (9223372036854775807 : Int64))), .second, .val (.long ff), .second, .val (.long ff), .second, .unset, .unset, .unset] [(.ref b37)]))
        refine own_fwd (fun t k => XS.astore X38.here hx rfl (hb hby at_72) rfl rfl (l' := #[.val (.long p0), .second, .val (.long p1), .second, .val (.int p2), .val (.long (p0 &&& (9223372036854775807 : Int64))), .second, .val (.long (p1 &&& (9223372036854775807 : Int64))), .second, .val (.long ff), .second, .val (.long ff), .second, .val (.ref b37), .unset, .unset]) rfl k) ?_
        show own_R p.tables e below P (T38.setTop (mkF m 74 #[.val (.long p0), .second, .val (.long p1), .second, .val (.int p2), .val (.long (p0 &&& (9223372036854775807 : Int64))), .second, .val (.long (p1 &&& (9223372036854775807 : Int64))), .second, .val (.long ff), .second, .val (.long ff), .second, .val (.ref b37), .unset, .unset] []))
        refine own_fwd (fun t k => XS.aload X38.here hx rfl (hb hby at_74) rfl rfl k) ?_
        show own_R p.tables e below P (T38.setTop (mkF m 76 #[.val (.long p0), .second, .val (.long p1), .second, .val (.int p2), .val (.long (p0 &&& (9223372036854775807 : Int64))), .second, .val (.long (p1 &&& (9223372036854775807 : Int64))), .second, .val (.long ff), .second, .val (.long ff), .second, .val (.ref b37), .unset, .unset] [(.ref b37)]))
        obtain ⟨cq39, kq39, q39a, q39b, q39c⟩ := isOf hZ e38 E38_
        obtain ⟨_, _, ⟨T39, L39, k39, n39⟩, -, X39, ⟨Lc39, hQ39, l39, y39, z39⟩, st39⟩ := X38.virtualBack hx (y := (⟨"com/example/grantee/grantee/service/CopySource$Range", "length", "()J"⟩ : MethodName)) (z := (⟨"com/example/grantee/grantee/service/CopySource$Range", "length", "()J"⟩ : MethodName)) hown (mvT hZ (hw _ (List.mem_of_getElem? (i := 21) rfl))) (mvT hZ (hw _ (List.mem_of_getElem? (i := 22) rfl))) (notFace_of_selects (args := #[]) (mvT hZ (hw _ (List.mem_of_getElem? (i := 24) rfl)))) (mvT hZ (hw _ (List.mem_of_getElem? (i := 24) rfl))) (mvT hZ (hw _ (List.mem_of_getElem? (i := 23) rfl))) (by decide) (backOf (W := 0) (own_rm5 l Z a0 hw [] b37 ff ff h38 n0 Z38 G38_ J38_) hZ (hw _ (List.mem_of_getElem? (i := 25) rfl)) (hw _ (List.mem_of_getElem? (i := 10) rfl)) (by decide) (by decide)) q39a q39c (g := (mkF m 76 #[.val (.long p0), .second, .val (.long p1), .second, .val (.int p2), .val (.long (p0 &&& (9223372036854775807 : Int64))), .second, .val (.long (p1 &&& (9223372036854775807 : Int64))), .second, .val (.long ff), .second, .val (.long ff), .second, .val (.ref b37), .unset, .unset] [(.ref b37)])) rfl (by rw [hml]; rfl) (Steps.refl _) (argsL := []) (rest := []) (lenOf own_pd2 rfl) rfl (by show 2 * 0 + _ ≤ _; exact Nat.le_of_eq rfl) (hb hby at_76) (fun _ _ => ⟨rfl, e38, (by decide : 1 + 0 ≤ _), (by decide : 2 + 0 ≤ _)⟩)
        dsimp only [Pt.U, Pt.locs, Pt.cells, Pt.slots] at X39 l39 y39 z39 st39 hQ39
        subst l39 y39 z39
        obtain ⟨h39, e39⟩ : ∃ z, T39.heap = z := ⟨_, rfl⟩
        rw [e39] at hQ39
        obtain ⟨hq39, N39q, q39⟩ := hQ39
        rw [q39] at e39
        subst hq39
        have N39 := Fr.app N38 N39q
        refine own_trn st39 ?_
        show own_R p.tables e below P (T39.setTop (mkF m 79 #[.val (.long p0), .second, .val (.long p1), .second, .val (.int p2), .val (.long (p0 &&& (9223372036854775807 : Int64))), .second, .val (.long (p1 &&& (9223372036854775807 : Int64))), .second, .val (.long ff), .second, .val (.long ff), .second, .val (.ref b37), .unset, .unset] [(.long ((ff - ff) + (1 : Int64)))]))
        refine own_fwd (fun t k => XS.lstore X39.here hx rfl (hb hby at_79) rfl (l' := #[.val (.long p0), .second, .val (.long p1), .second, .val (.int p2), .val (.long (p0 &&& (9223372036854775807 : Int64))), .second, .val (.long (p1 &&& (9223372036854775807 : Int64))), .second, .val (.long ff), .second, .val (.long ff), .second, .val (.ref b37), .val (.long ((ff - ff) + (1 : Int64))), .second]) rfl k) ?_
        show own_R p.tables e below P (T39.setTop (mkF m 81 #[.val (.long p0), .second, .val (.long p1), .second, .val (.int p2), .val (.long (p0 &&& (9223372036854775807 : Int64))), .second, .val (.long (p1 &&& (9223372036854775807 : Int64))), .second, .val (.long ff), .second, .val (.long ff), .second, .val (.ref b37), .val (.long ((ff - ff) + (1 : Int64))), .second] []))
        refine own_fwd (fun t k => XS.lload X39.here hx rfl (hb hby at_81) rfl k) ?_
        show own_R p.tables e below P (T39.setTop (mkF m 83 #[.val (.long p0), .second, .val (.long p1), .second, .val (.int p2), .val (.long (p0 &&& (9223372036854775807 : Int64))), .second, .val (.long (p1 &&& (9223372036854775807 : Int64))), .second, .val (.long ff), .second, .val (.long ff), .second, .val (.ref b37), .val (.long ((ff - ff) + (1 : Int64))), .second] [(.long ((ff - ff) + (1 : Int64)))]))
        refine own_fwd (fun t k => XS.lconst X39.here hx rfl (hb hby at_83) k) ?_
        show own_R p.tables e below P (T39.setTop (mkF m 84 #[.val (.long p0), .second, .val (.long p1), .second, .val (.int p2), .val (.long (p0 &&& (9223372036854775807 : Int64))), .second, .val (.long (p1 &&& (9223372036854775807 : Int64))), .second, .val (.long ff), .second, .val (.long ff), .second, .val (.ref b37), .val (.long ((ff - ff) + (1 : Int64))), .second] [(.long (1 : Int64)), (.long ((ff - ff) + (1 : Int64)))]))
        refine own_fwd (fun t k => XS.lcmp X39.here hx rfl (hb hby at_84) rfl k) ?_
        show own_R p.tables e below P (T39.setTop (mkF m 85 #[.val (.long p0), .second, .val (.long p1), .second, .val (.int p2), .val (.long (p0 &&& (9223372036854775807 : Int64))), .second, .val (.long (p1 &&& (9223372036854775807 : Int64))), .second, .val (.long ff), .second, .val (.long ff), .second, .val (.ref b37), .val (.long ((ff - ff) + (1 : Int64))), .second] [(.int (lcmpW ((ff - ff) + (1 : Int64)) (1 : Int64)))]))
        have hc40 : ¬ ((lcmpW ((ff - ff) + (1 : Int64)) (1 : Int64)) < (0 : Int32)) := (own_lenOk ff ff o1 (Int.le_refl _) (fun q => hc35 ((lw_eq _ _).mpr (Int64.toInt_inj.mp q.2)))).1
        refine own_fwd (fun t k => XS.ifNo X39.here hx rfl (hb hby at_85) rfl ((if0 _ _).trans (flt hc40).1) k) ?_
        show own_R p.tables e below P (T39.setTop (mkF m 88 #[.val (.long p0), .second, .val (.long p1), .second, .val (.int p2), .val (.long (p0 &&& (9223372036854775807 : Int64))), .second, .val (.long (p1 &&& (9223372036854775807 : Int64))), .second, .val (.long ff), .second, .val (.long ff), .second, .val (.ref b37), .val (.long ((ff - ff) + (1 : Int64))), .second] []))
        refine own_fwd (fun t k => XS.lload X39.here hx rfl (hb hby at_88) rfl k) ?_
        show own_R p.tables e below P (T39.setTop (mkF m 90 #[.val (.long p0), .second, .val (.long p1), .second, .val (.int p2), .val (.long (p0 &&& (9223372036854775807 : Int64))), .second, .val (.long (p1 &&& (9223372036854775807 : Int64))), .second, .val (.long ff), .second, .val (.long ff), .second, .val (.ref b37), .val (.long ((ff - ff) + (1 : Int64))), .second] [(.long ff)]))
        refine own_fwd (fun t k => XS.lload X39.here hx rfl (hb hby at_90) rfl k) ?_
        show own_R p.tables e below P (T39.setTop (mkF m 92 #[.val (.long p0), .second, .val (.long p1), .second, .val (.int p2), .val (.long (p0 &&& (9223372036854775807 : Int64))), .second, .val (.long (p1 &&& (9223372036854775807 : Int64))), .second, .val (.long ff), .second, .val (.long ff), .second, .val (.ref b37), .val (.long ((ff - ff) + (1 : Int64))), .second] [(.long ((ff - ff) + (1 : Int64))), (.long ff)]))
        refine own_fwd (fun t k => XS.lconst X39.here hx rfl (hb hby at_92) k) ?_
        show own_R p.tables e below P (T39.setTop (mkF m 93 #[.val (.long p0), .second, .val (.long p1), .second, .val (.int p2), .val (.long (p0 &&& (9223372036854775807 : Int64))), .second, .val (.long (p1 &&& (9223372036854775807 : Int64))), .second, .val (.long ff), .second, .val (.long ff), .second, .val (.ref b37), .val (.long ((ff - ff) + (1 : Int64))), .second] [(.long (1 : Int64)), (.long ((ff - ff) + (1 : Int64))), (.long ff)]))
        refine own_fwd (fun t k => XS.lsub X39.here hx rfl (hb hby at_93) rfl k) ?_
        show own_R p.tables e below P (T39.setTop (mkF m 94 #[.val (.long p0), .second, .val (.long p1), .second, .val (.int p2), .val (.long (p0 &&& (9223372036854775807 : Int64))), .second, .val (.long (p1 &&& (9223372036854775807 : Int64))), .second, .val (.long ff), .second, .val (.long ff), .second, .val (.ref b37), .val (.long ((ff - ff) + (1 : Int64))), .second] [(.long (((ff - ff) + (1 : Int64)) - (1 : Int64))), (.long ff)]))
        refine own_fwd (fun t k => XS.ladd X39.here hx rfl (hb hby at_94) rfl k) ?_
        show own_R p.tables e below P (T39.setTop (mkF m 95 #[.val (.long p0), .second, .val (.long p1), .second, .val (.int p2), .val (.long (p0 &&& (9223372036854775807 : Int64))), .second, .val (.long (p1 &&& (9223372036854775807 : Int64))), .second, .val (.long ff), .second, .val (.long ff), .second, .val (.ref b37), .val (.long ((ff - ff) + (1 : Int64))), .second] [(.long (ff + (((ff - ff) + (1 : Int64)) - (1 : Int64))))]))
        refine own_fwd (fun t k => XS.lload X39.here hx rfl (hb hby at_95) rfl k) ?_
        show own_R p.tables e below P (T39.setTop (mkF m 97 #[.val (.long p0), .second, .val (.long p1), .second, .val (.int p2), .val (.long (p0 &&& (9223372036854775807 : Int64))), .second, .val (.long (p1 &&& (9223372036854775807 : Int64))), .second, .val (.long ff), .second, .val (.long ff), .second, .val (.ref b37), .val (.long ((ff - ff) + (1 : Int64))), .second] [(.long ff), (.long (ff + (((ff - ff) + (1 : Int64)) - (1 : Int64))))]))
        refine own_fwd (fun t k => XS.lcmp X39.here hx rfl (hb hby at_97) rfl k) ?_
        show own_R p.tables e below P (T39.setTop (mkF m 98 #[.val (.long p0), .second, .val (.long p1), .second, .val (.int p2), .val (.long (p0 &&& (9223372036854775807 : Int64))), .second, .val (.long (p1 &&& (9223372036854775807 : Int64))), .second, .val (.long ff), .second, .val (.long ff), .second, .val (.ref b37), .val (.long ((ff - ff) + (1 : Int64))), .second] [(.int (lcmpW (ff + (((ff - ff) + (1 : Int64)) - (1 : Int64))) ff))]))
        have hc41 : (lcmpW (ff + (((ff - ff) + (1 : Int64)) - (1 : Int64))) ff) = (0 : Int32) := (own_lenOk ff ff o1 (Int.le_refl _) (fun q => hc35 ((lw_eq _ _).mpr (Int64.toInt_inj.mp q.2)))).2
        refine own_fwd (fun t k => XS.ifNo X39.here hx rfl (hb hby at_98) rfl ((if0 _ _).trans (teq hc41).2) k) ?_
        show own_R p.tables e below P (T39.setTop (mkF m 101 #[.val (.long p0), .second, .val (.long p1), .second, .val (.int p2), .val (.long (p0 &&& (9223372036854775807 : Int64))), .second, .val (.long (p1 &&& (9223372036854775807 : Int64))), .second, .val (.long ff), .second, .val (.long ff), .second, .val (.ref b37), .val (.long ((ff - ff) + (1 : Int64))), .second] []))
        refine own_fwd (fun t k => XS.iconst X39.here hx rfl (hb hby at_101) k) ?_
        show own_R p.tables e below P (T39.setTop (mkF m 102 #[.val (.long p0), .second, .val (.long p1), .second, .val (.int p2), .val (.long (p0 &&& (9223372036854775807 : Int64))), .second, .val (.long (p1 &&& (9223372036854775807 : Int64))), .second, .val (.long ff), .second, .val (.long ff), .second, .val (.ref b37), .val (.long ((ff - ff) + (1 : Int64))), .second] [(.int (1 : Int32))]))
        refine own_fwd (fun t k => XS.goto X39.here hx rfl (pc0 := 102) (pc' := 106) rfl (hb hby at_102) (by decide) (by decide) k) ?_
        show own_R p.tables e below P (T39.setTop (mkF m 106 #[.val (.long p0), .second, .val (.long p1), .second, .val (.int p2), .val (.long (p0 &&& (9223372036854775807 : Int64))), .second, .val (.long (p1 &&& (9223372036854775807 : Int64))), .second, .val (.long ff), .second, .val (.long ff), .second, .val (.ref b37), .val (.long ((ff - ff) + (1 : Int64))), .second] [(.int (1 : Int32))]))
        obtain ⟨fs42, hr42, hrun42, hended42, hW42, hsame42⟩ := X39.leave (v := some (.int (1 : Int32))) (fun h => by rw [Bd.returns] at h; cases h)
        refine ⟨_, _, X39.ireturnOut hx (w := (1 : Int32)) Bd.returns rfl (by simp) (hb hby at_106) hr42, fin _ _ ⟨hrun42, hended42, _, _, rfl, ?_, ⟨_, rfl⟩, hW42, hsame42.mono (by decide) (by decide)⟩⟩
        show own_Qlaw Z p0 p1 p2 h0 n0 _ T39.heap _
        rw [e39]
        exact ⟨rfl, N39⟩
    · refine own_fwd (fun t k => XS.ifYes X17.here hx rfl (pc0 := 47) (pc' := 61) rfl (hb hby at_47) rfl ((if0 _ _).trans (feq hc34).2) (by decide) (by decide) k) ?_
      show own_R p.tables e below P (T17.setTop (mkF m 61 #[.val (.long p0), .second, .val (.long p1), .second, .val (.int p2), .val (.long (p0 &&& (9223372036854775807 : Int64))), .second, .val (.long (p1 &&& (9223372036854775807 : Int64))), .second, .val (.long ff), .second, .val (.long ff), .second, .unset, .unset, .unset] []))
      obtain ⟨T43, h43, X43, e43, E43, A43, D43, -, st43⟩ := newO X17 hx hZ hown (hw _ (List.mem_of_getElem? (i := 8) rfl)) (hw _ (List.mem_of_getElem? (i := 9) rfl)) (hw _ (List.mem_of_getElem? (i := 10) rfl)) e17 (g := (mkF m 61 #[.val (.long p0), .second, .val (.long p1), .second, .val (.int p2), .val (.long (p0 &&& (9223372036854775807 : Int64))), .second, .val (.long (p1 &&& (9223372036854775807 : Int64))), .second, .val (.long ff), .second, .val (.long ff), .second, .unset, .unset, .unset] [])) rfl (hb hby at_61) (by decide) (by decide)
      obtain ⟨b43, g43⟩ : ∃ z, z = h0.size := ⟨_, rfl⟩
      rw [← g43] at A43 D43 st43
      have ge_b43 : n0 ≤ b43 := by rw [g43]; exact Z0
      have sz_b43 : h0.size ≤ b43 := by rw [g43]; exact (Nat.le_refl h0.size)
      have F43_first : Fld Z h43 b43 "com/example/grantee/grantee/service/CopySource$Range" "first" "J" (.long (0 : Int64)) := D43 (Or.inr (hw _ (List.mem_of_getElem? (i := 18) rfl))) (ty := .long) (by decide)
      have F43_last : Fld Z h43 b43 "com/example/grantee/grantee/service/CopySource$Range" "last" "J" (.long (0 : Int64)) := D43 (Or.inr (hw _ (List.mem_of_getElem? (i := 20) rfl))) (ty := .long) (by decide)
      have Z43 : n0 ≤ h43.size := Nat.le_trans Z0 E43.1
      have Y43 : h0.size ≤ h43.size := Nat.le_trans (Nat.le_refl h0.size) E43.1
      refine own_fwd st43 ?_
      show own_R p.tables e below P (T43.setTop (mkF m 64 #[.val (.long p0), .second, .val (.long p1), .second, .val (.int p2), .val (.long (p0 &&& (9223372036854775807 : Int64))), .second, .val (.long (p1 &&& (9223372036854775807 : Int64))), .second, .val (.long ff), .second, .val (.long ff), .second, .unset, .unset, .unset] [(.ref b43)]))
      refine own_fwd (fun t k => XS.dup X43.here hx rfl (hb hby at_64) rfl rfl k) ?_
      show own_R p.tables e below P (T43.setTop (mkF m 65 #[.val (.long p0), .second, .val (.long p1), .second, .val (.int p2), .val (.long (p0 &&& (9223372036854775807 : Int64))), .second, .val (.long (p1 &&& (9223372036854775807 : Int64))), .second, .val (.long ff), .second, .val (.long ff), .second, .unset, .unset, .unset] [(.ref b43), (.ref b43)]))
      refine own_fwd (fun t k => XS.lload X43.here hx rfl (hb hby at_65) rfl k) ?_
      show own_R p.tables e below P (T43.setTop (mkF m 67 #[.val (.long p0), .second, .val (.long p1), .second, .val (.int p2), .val (.long (p0 &&& (9223372036854775807 : Int64))), .second, .val (.long (p1 &&& (9223372036854775807 : Int64))), .second, .val (.long ff), .second, .val (.long ff), .second, .unset, .unset, .unset] [(.long ff), (.ref b43), (.ref b43)]))
      refine own_fwd (fun t k => XS.lload X43.here hx rfl (hb hby at_67) rfl k) ?_
      show own_R p.tables e below P (T43.setTop (mkF m 69 #[.val (.long p0), .second, .val (.long p1), .second, .val (.int p2), .val (.long (p0 &&& (9223372036854775807 : Int64))), .second, .val (.long (p1 &&& (9223372036854775807 : Int64))), .second, .val (.long ff), .second, .val (.long ff), .second, .unset, .unset, .unset] [(.long ff), (.long ff), (.ref b43), (.ref b43)]))
      obtain ⟨_, _, ⟨T44, L44, k44, n44⟩, -, X44, ⟨Lc44, hQ44, l44, y44, z44⟩, st44⟩ := X43.specialBack hx (y := (⟨"com/example/grantee/grantee/service/CopySource$Range", "<init>", "(JJ)V"⟩ : MethodName)) rfl hown (mvT hZ (hw _ (List.mem_of_getElem? (i := 11) rfl))) (mvT hZ (hw _ (List.mem_of_getElem? (i := 12) rfl))) (mvT hZ (hw _ (List.mem_of_getElem? (i := 13) rfl))) (by decide) (backOf (W := 1) (own_rm3 l Z a0 hw [] b43 ff ff h43 n0 Z43 A43 F43_first F43_last ge_b43 (by rw [Int64.lt_iff_toInt_lt]; have e1 : (0 : Int64).toInt = 0 := rfl; omega) (by rw [Int64.lt_iff_toInt_lt]; omega)) hZ (hw _ (List.mem_of_getElem? (i := 13) rfl)) (hw _ (List.mem_of_getElem? (i := 10) rfl)) (by decide) (by decide)) (g := (mkF m 69 #[.val (.long p0), .second, .val (.long p1), .second, .val (.int p2), .val (.long (p0 &&& (9223372036854775807 : Int64))), .second, .val (.long (p1 &&& (9223372036854775807 : Int64))), .second, .val (.long ff), .second, .val (.long ff), .second, .unset, .unset, .unset] [(.long ff), (.long ff), (.ref b43), (.ref b43)])) rfl (by rw [hml]; rfl) (Steps.refl _) (a := b43) (argsL := [(.long ff), (.long ff)]) (rest := [(.ref b43)]) (lenOf own_pd1 rfl) rfl (by show 2 * 0 + _ ≤ _; exact Nat.le_of_eq rfl) (hb hby at_69) (fun _ _ => ⟨rfl, e43, (by decide : 1 + 0 ≤ _), (by decide : 2 + 0 ≤ _)⟩)
      dsimp only [Pt.U, Pt.locs, Pt.cells, Pt.slots] at X44 l44 y44 z44 st44 hQ44
      subst l44 y44 z44
      obtain ⟨h44, e44⟩ : ∃ z, T44.heap = z := ⟨_, rfl⟩
      rw [e44] at hQ44
      obtain ⟨hq44, N44q, K44, E44_, G44_, J44_⟩ := hQ44
      subst hq44
      have N44 := Fr.app N17 N44q
      have A43_x44 := A43.keep K44
      have Z44 : n0 ≤ h44.size := Nat.le_trans Z43 K44.1
      have Y44 : h0.size ≤ h44.size := Nat.le_trans Y43 K44.1
      refine own_trn st44 ?_
      show own_R p.tables e below P (T44.setTop (mkF m 72 #[.val (.long p0), .second, .val (.long p1), .second, .val (.int p2), .val (.long (p0 &&& (9223372036854775807 : Int64))), .second, .val (.long (p1 &&& (9223372036854775807 : Int64))), .second, .val (.long ff), .second, .val (.long ff), .second, .unset, .unset, .unset] [(.ref b43)]))
      refine own_fwd (fun t k => XS.astore X44.here hx rfl (hb hby at_72) rfl rfl (l' := #[.val (.long p0), .second, .val (.long p1), .second, .val (.int p2), .val (.long (p0 &&& (9223372036854775807 : Int64))), .second, .val (.long (p1 &&& (9223372036854775807 : Int64))), .second, .val (.long ff), .second, .val (.long ff), .second, .val (.ref b43), .unset, .unset]) rfl k) ?_
      show own_R p.tables e below P (T44.setTop (mkF m 74 #[.val (.long p0), .second, .val (.long p1), .second, .val (.int p2), .val (.long (p0 &&& (9223372036854775807 : Int64))), .second, .val (.long (p1 &&& (9223372036854775807 : Int64))), .second, .val (.long ff), .second, .val (.long ff), .second, .val (.ref b43), .unset, .unset] []))
      refine own_fwd (fun t k => XS.aload X44.here hx rfl (hb hby at_74) rfl rfl k) ?_
      show own_R p.tables e below P (T44.setTop (mkF m 76 #[.val (.long p0), .second, .val (.long p1), .second, .val (.int p2), .val (.long (p0 &&& (9223372036854775807 : Int64))), .second, .val (.long (p1 &&& (9223372036854775807 : Int64))), .second, .val (.long ff), .second, .val (.long ff), .second, .val (.ref b43), .unset, .unset] [(.ref b43)]))
      obtain ⟨cq45, kq45, q45a, q45b, q45c⟩ := isOf hZ e44 E44_
      obtain ⟨_, _, ⟨T45, L45, k45, n45⟩, -, X45, ⟨Lc45, hQ45, l45, y45, z45⟩, st45⟩ := X44.virtualBack hx (y := (⟨"com/example/grantee/grantee/service/CopySource$Range", "length", "()J"⟩ : MethodName)) (z := (⟨"com/example/grantee/grantee/service/CopySource$Range", "length", "()J"⟩ : MethodName)) hown (mvT hZ (hw _ (List.mem_of_getElem? (i := 21) rfl))) (mvT hZ (hw _ (List.mem_of_getElem? (i := 22) rfl))) (notFace_of_selects (args := #[]) (mvT hZ (hw _ (List.mem_of_getElem? (i := 24) rfl)))) (mvT hZ (hw _ (List.mem_of_getElem? (i := 24) rfl))) (mvT hZ (hw _ (List.mem_of_getElem? (i := 23) rfl))) (by decide) (backOf (W := 0) (own_rm5 l Z a0 hw [] b43 ff ff h44 n0 Z44 G44_ J44_) hZ (hw _ (List.mem_of_getElem? (i := 25) rfl)) (hw _ (List.mem_of_getElem? (i := 10) rfl)) (by decide) (by decide)) q45a q45c (g := (mkF m 76 #[.val (.long p0), .second, .val (.long p1), .second, .val (.int p2), .val (.long (p0 &&& (9223372036854775807 : Int64))), .second, .val (.long (p1 &&& (9223372036854775807 : Int64))), .second, .val (.long ff), .second, .val (.long ff), .second, .val (.ref b43), .unset, .unset] [(.ref b43)])) rfl (by rw [hml]; rfl) (Steps.refl _) (argsL := []) (rest := []) (lenOf own_pd2 rfl) rfl (by show 2 * 0 + _ ≤ _; exact Nat.le_of_eq rfl) (hb hby at_76) (fun _ _ => ⟨rfl, e44, (by decide : 1 + 0 ≤ _), (by decide : 2 + 0 ≤ _)⟩)
      dsimp only [Pt.U, Pt.locs, Pt.cells, Pt.slots] at X45 l45 y45 z45 st45 hQ45
      subst l45 y45 z45
      obtain ⟨h45, e45⟩ : ∃ z, T45.heap = z := ⟨_, rfl⟩
      rw [e45] at hQ45
      obtain ⟨hq45, N45q, q45⟩ := hQ45
      rw [q45] at e45
      subst hq45
      have N45 := Fr.app N44 N45q
      refine own_trn st45 ?_
      show own_R p.tables e below P (T45.setTop (mkF m 79 #[.val (.long p0), .second, .val (.long p1), .second, .val (.int p2), .val (.long (p0 &&& (9223372036854775807 : Int64))), .second, .val (.long (p1 &&& (9223372036854775807 : Int64))), .second, .val (.long ff), .second, .val (.long ff), .second, .val (.ref b43), .unset, .unset] [(.long ((ff - ff) + (1 : Int64)))]))
      refine own_fwd (fun t k => XS.lstore X45.here hx rfl (hb hby at_79) rfl (l' := #[.val (.long p0), .second, .val (.long p1), .second, .val (.int p2), .val (.long (p0 &&& (9223372036854775807 : Int64))), .second, .val (.long (p1 &&& (9223372036854775807 : Int64))), .second, .val (.long ff), .second, .val (.long ff), .second, .val (.ref b43), .val (.long ((ff - ff) + (1 : Int64))), .second]) rfl k) ?_
      show own_R p.tables e below P (T45.setTop (mkF m 81 #[.val (.long p0), .second, .val (.long p1), .second, .val (.int p2), .val (.long (p0 &&& (9223372036854775807 : Int64))), .second, .val (.long (p1 &&& (9223372036854775807 : Int64))), .second, .val (.long ff), .second, .val (.long ff), .second, .val (.ref b43), .val (.long ((ff - ff) + (1 : Int64))), .second] []))
      refine own_fwd (fun t k => XS.lload X45.here hx rfl (hb hby at_81) rfl k) ?_
      show own_R p.tables e below P (T45.setTop (mkF m 83 #[.val (.long p0), .second, .val (.long p1), .second, .val (.int p2), .val (.long (p0 &&& (9223372036854775807 : Int64))), .second, .val (.long (p1 &&& (9223372036854775807 : Int64))), .second, .val (.long ff), .second, .val (.long ff), .second, .val (.ref b43), .val (.long ((ff - ff) + (1 : Int64))), .second] [(.long ((ff - ff) + (1 : Int64)))]))
      refine own_fwd (fun t k => XS.lconst X45.here hx rfl (hb hby at_83) k) ?_
      show own_R p.tables e below P (T45.setTop (mkF m 84 #[.val (.long p0), .second, .val (.long p1), .second, .val (.int p2), .val (.long (p0 &&& (9223372036854775807 : Int64))), .second, .val (.long (p1 &&& (9223372036854775807 : Int64))), .second, .val (.long ff), .second, .val (.long ff), .second, .val (.ref b43), .val (.long ((ff - ff) + (1 : Int64))), .second] [(.long (1 : Int64)), (.long ((ff - ff) + (1 : Int64)))]))
      refine own_fwd (fun t k => XS.lcmp X45.here hx rfl (hb hby at_84) rfl k) ?_
      show own_R p.tables e below P (T45.setTop (mkF m 85 #[.val (.long p0), .second, .val (.long p1), .second, .val (.int p2), .val (.long (p0 &&& (9223372036854775807 : Int64))), .second, .val (.long (p1 &&& (9223372036854775807 : Int64))), .second, .val (.long ff), .second, .val (.long ff), .second, .val (.ref b43), .val (.long ((ff - ff) + (1 : Int64))), .second] [(.int (lcmpW ((ff - ff) + (1 : Int64)) (1 : Int64)))]))
      have hc46 : ¬ ((lcmpW ((ff - ff) + (1 : Int64)) (1 : Int64)) < (0 : Int32)) := (own_lenOk ff ff o1 (Int.le_refl _) (fun q => hc34 ((lw_eq _ _).mpr (Int64.toInt_inj.mp q.1)))).1
      refine own_fwd (fun t k => XS.ifNo X45.here hx rfl (hb hby at_85) rfl ((if0 _ _).trans (flt hc46).1) k) ?_
      show own_R p.tables e below P (T45.setTop (mkF m 88 #[.val (.long p0), .second, .val (.long p1), .second, .val (.int p2), .val (.long (p0 &&& (9223372036854775807 : Int64))), .second, .val (.long (p1 &&& (9223372036854775807 : Int64))), .second, .val (.long ff), .second, .val (.long ff), .second, .val (.ref b43), .val (.long ((ff - ff) + (1 : Int64))), .second] []))
      refine own_fwd (fun t k => XS.lload X45.here hx rfl (hb hby at_88) rfl k) ?_
      show own_R p.tables e below P (T45.setTop (mkF m 90 #[.val (.long p0), .second, .val (.long p1), .second, .val (.int p2), .val (.long (p0 &&& (9223372036854775807 : Int64))), .second, .val (.long (p1 &&& (9223372036854775807 : Int64))), .second, .val (.long ff), .second, .val (.long ff), .second, .val (.ref b43), .val (.long ((ff - ff) + (1 : Int64))), .second] [(.long ff)]))
      refine own_fwd (fun t k => XS.lload X45.here hx rfl (hb hby at_90) rfl k) ?_
      show own_R p.tables e below P (T45.setTop (mkF m 92 #[.val (.long p0), .second, .val (.long p1), .second, .val (.int p2), .val (.long (p0 &&& (9223372036854775807 : Int64))), .second, .val (.long (p1 &&& (9223372036854775807 : Int64))), .second, .val (.long ff), .second, .val (.long ff), .second, .val (.ref b43), .val (.long ((ff - ff) + (1 : Int64))), .second] [(.long ((ff - ff) + (1 : Int64))), (.long ff)]))
      refine own_fwd (fun t k => XS.lconst X45.here hx rfl (hb hby at_92) k) ?_
      show own_R p.tables e below P (T45.setTop (mkF m 93 #[.val (.long p0), .second, .val (.long p1), .second, .val (.int p2), .val (.long (p0 &&& (9223372036854775807 : Int64))), .second, .val (.long (p1 &&& (9223372036854775807 : Int64))), .second, .val (.long ff), .second, .val (.long ff), .second, .val (.ref b43), .val (.long ((ff - ff) + (1 : Int64))), .second] [(.long (1 : Int64)), (.long ((ff - ff) + (1 : Int64))), (.long ff)]))
      refine own_fwd (fun t k => XS.lsub X45.here hx rfl (hb hby at_93) rfl k) ?_
      show own_R p.tables e below P (T45.setTop (mkF m 94 #[.val (.long p0), .second, .val (.long p1), .second, .val (.int p2), .val (.long (p0 &&& (9223372036854775807 : Int64))), .second, .val (.long (p1 &&& (9223372036854775807 : Int64))), .second, .val (.long ff), .second, .val (.long ff), .second, .val (.ref b43), .val (.long ((ff - ff) + (1 : Int64))), .second] [(.long (((ff - ff) + (1 : Int64)) - (1 : Int64))), (.long ff)]))
      refine own_fwd (fun t k => XS.ladd X45.here hx rfl (hb hby at_94) rfl k) ?_
      show own_R p.tables e below P (T45.setTop (mkF m 95 #[.val (.long p0), .second, .val (.long p1), .second, .val (.int p2), .val (.long (p0 &&& (9223372036854775807 : Int64))), .second, .val (.long (p1 &&& (9223372036854775807 : Int64))), .second, .val (.long ff), .second, .val (.long ff), .second, .val (.ref b43), .val (.long ((ff - ff) + (1 : Int64))), .second] [(.long (ff + (((ff - ff) + (1 : Int64)) - (1 : Int64))))]))
      refine own_fwd (fun t k => XS.lload X45.here hx rfl (hb hby at_95) rfl k) ?_
      show own_R p.tables e below P (T45.setTop (mkF m 97 #[.val (.long p0), .second, .val (.long p1), .second, .val (.int p2), .val (.long (p0 &&& (9223372036854775807 : Int64))), .second, .val (.long (p1 &&& (9223372036854775807 : Int64))), .second, .val (.long ff), .second, .val (.long ff), .second, .val (.ref b43), .val (.long ((ff - ff) + (1 : Int64))), .second] [(.long ff), (.long (ff + (((ff - ff) + (1 : Int64)) - (1 : Int64))))]))
      refine own_fwd (fun t k => XS.lcmp X45.here hx rfl (hb hby at_97) rfl k) ?_
      show own_R p.tables e below P (T45.setTop (mkF m 98 #[.val (.long p0), .second, .val (.long p1), .second, .val (.int p2), .val (.long (p0 &&& (9223372036854775807 : Int64))), .second, .val (.long (p1 &&& (9223372036854775807 : Int64))), .second, .val (.long ff), .second, .val (.long ff), .second, .val (.ref b43), .val (.long ((ff - ff) + (1 : Int64))), .second] [(.int (lcmpW (ff + (((ff - ff) + (1 : Int64)) - (1 : Int64))) ff))]))
      have hc47 : (lcmpW (ff + (((ff - ff) + (1 : Int64)) - (1 : Int64))) ff) = (0 : Int32) := (own_lenOk ff ff o1 (Int.le_refl _) (fun q => hc34 ((lw_eq _ _).mpr (Int64.toInt_inj.mp q.1)))).2
      refine own_fwd (fun t k => XS.ifNo X45.here hx rfl (hb hby at_98) rfl ((if0 _ _).trans (teq hc47).2) k) ?_
      show own_R p.tables e below P (T45.setTop (mkF m 101 #[.val (.long p0), .second, .val (.long p1), .second, .val (.int p2), .val (.long (p0 &&& (9223372036854775807 : Int64))), .second, .val (.long (p1 &&& (9223372036854775807 : Int64))), .second, .val (.long ff), .second, .val (.long ff), .second, .val (.ref b43), .val (.long ((ff - ff) + (1 : Int64))), .second] []))
      refine own_fwd (fun t k => XS.iconst X45.here hx rfl (hb hby at_101) k) ?_
      show own_R p.tables e below P (T45.setTop (mkF m 102 #[.val (.long p0), .second, .val (.long p1), .second, .val (.int p2), .val (.long (p0 &&& (9223372036854775807 : Int64))), .second, .val (.long (p1 &&& (9223372036854775807 : Int64))), .second, .val (.long ff), .second, .val (.long ff), .second, .val (.ref b43), .val (.long ((ff - ff) + (1 : Int64))), .second] [(.int (1 : Int32))]))
      refine own_fwd (fun t k => XS.goto X45.here hx rfl (pc0 := 102) (pc' := 106) rfl (hb hby at_102) (by decide) (by decide) k) ?_
      show own_R p.tables e below P (T45.setTop (mkF m 106 #[.val (.long p0), .second, .val (.long p1), .second, .val (.int p2), .val (.long (p0 &&& (9223372036854775807 : Int64))), .second, .val (.long (p1 &&& (9223372036854775807 : Int64))), .second, .val (.long ff), .second, .val (.long ff), .second, .val (.ref b43), .val (.long ((ff - ff) + (1 : Int64))), .second] [(.int (1 : Int32))]))
      obtain ⟨fs48, hr48, hrun48, hended48, hW48, hsame48⟩ := X45.leave (v := some (.int (1 : Int32))) (fun h => by rw [Bd.returns] at h; cases h)
      refine ⟨_, _, X45.ireturnOut hx (w := (1 : Int32)) Bd.returns rfl (by simp) (hb hby at_106) hr48, fin _ _ ⟨hrun48, hended48, _, _, rfl, ?_, ⟨_, rfl⟩, hW48, hsame48.mono (by decide) (by decide)⟩⟩
      show own_Qlaw Z p0 p1 p2 h0 n0 _ T45.heap _
      rw [e45]
      exact ⟨rfl, N45⟩
set_option maxRecDepth 65536 in
set_option maxHeartbeats 40000000 in
theorem own_comes {Post : Tables → Env → Array Value → State → Outcome → State → Prop} (hpost : ∀ tb e args s v u, (limb_1_1.after args s (.returned v) u = true ∧ limb_1_2.after args s (.returned v) u = true ∧ True) → FrameEnd s (.returned v) u (Jvm.fieldLocs frame_1_writes args s ++ Jvm.arrayLocs frame_1_arrays args s ++ Jvm.staticLocs frame_1_statics s) 16 128 → Post tb e args s (.returned v) u) :
    ArmFor flags0 classFile x code maxLocals ret World_1 tables_1 room_1 Calls_1 rest_1 Pre_1 Post := by
  intro l hfl _ _ p e ha hc hk s m args below hf hA hF happ hP
  obtain ⟨hcalls, hrest, hpre⟩ := hP
  obtain ⟨-, -, -, hnamed, -, -, -, hat⟩ := (Spec.applies_iff hf).mp happ
  obtain ⟨hg, hn⟩ := and_e (Cond.before_iff.mp (show (Jvm.Cond.and given_1 narrow_1).before args s = true from hpre))
  obtain ⟨g1, g2⟩ := and_e hg
  obtain ⟨g3, g4⟩ := and_e g2
  obtain ⟨g5, g6⟩ := and_e g4
  obtain ⟨w0, w1, w2, rfl⟩ : ∃ w0 w1 w2 : Value, args = #[w0, w1, w2] := by
    have hs : args.size = 3 := by simpa [Cond.value, given_1] using g1
    obtain ⟨L⟩ := args
    match L, hs with
    | [w0, w1, w2], _ => exact ⟨w0, w1, w2, rfl⟩
  have hw := fun d (hd : d ∈ tables_1) => atoms_spec (ws := Jvm.Cond.code x code maxLocals ret :: tables_1) hat d (List.mem_cons_of_mem _ hd)
  obtain ⟨i0, ei0⟩ := isL_v g3
  obtain rfl : w0 = (.long i0) := Option.some.inj ei0
  obtain ⟨i1, ei1⟩ := isL_v g5
  obtain rfl : w1 = (.long i1) := Option.some.inj ei1
  obtain ⟨i2, ei2⟩ := is_v g6
  obtain rfl : w2 = (.int i2) := Option.some.inj ei2
  obtain ⟨n, o, h1, h2, h3, _, L, rfl, ⟨rfl, N⟩, hq⟩ := own_rmlaw l s _ hw tables_1 i0 i1 i2 s.heap s.heap.size (Nat.le_refl _) p e ha hc hk s m _ below hf ((Spec.applies_iff_loose hf).mp happ).1 ⟨rfl, State.Warmed39.refl s, rfl⟩ trivial
  refine ⟨n, _, h1, h2, h3, hpost _ _ _ _ _ _ ⟨Cond.after_iff.mpr rfl, Cond.after_iff.mpr (eq_i res_at (Term.int_eval (1)) rfl), trivial⟩ ⟨hq.1, hq.2.1, (hq.2.2.sift fun y hy => Or.inr (N y hy)).mono (by decide) (by decide)⟩⟩
theorem main_1_1 : Claimed_1_1 := own_comes fun _ _ _ _ _ _ h hF => ⟨h.1, hF⟩
theorem main_1_2 : Claimed_1_2 := own_comes fun _ _ _ _ _ _ h hF => ⟨h.2.1, hF⟩
end Jvm.Pilot.@@N@@
namespace Jvm.Pilot.@@N@@
open Jvm Jvm.ClassFile Sem Op Lib Jvm.Free Jvm.Stand Jvm.Pilot.@@N@@.Jvm.D
/-! MADE BY PROGRAM (witnessworld.py) out of the Statement's table words and the real class files: 10 classes; the members and pool entries that the words name. The judged class is class 1, her method 1. -/
namespace start1
open Jvm.ClassFile
def u (s : String) : CpInfo := .utf8 (stringToUtf16 s)
/-- a pool by its gaps: so many unusable entries, then the entry; so many at the end -/
def gap : Nat → List CpInfo → List CpInfo
  | 0, r => r
  | n + 1, r => .unusable :: gap n r
def poolList (es : List (Nat × CpInfo)) (last : Nat) : List CpInfo := es.foldr (fun e r => gap e.1 (e.2 :: r)) (gap last [])
def pool (es : List (Nat × CpInfo)) (last : Nat) : Array CpInfo := ⟨poolList es last⟩
def fileOf (pool : Array CpInfo) (this : Nat) (attrs : Array Attribute := #[]) (ms : Array MethodInfo := #[]) (fl : Nat := 33) (sup : Nat := 0) (ifs : Array Nat := #[]) (fds : Array FieldInfo := #[]) : ClassFile where
  minorVersion := 0
  majorVersion := 65
  constantPool := pool
  accessFlags := fl
  thisClass := this
  superClass := sup
  interfaces := ifs
  fields := fds
  methods := ms
  attributes := attrs
def plain (name : String) (sup : Option ClassId) : Class where
  name := name
  kind := .ordinary
  loader := none
  accessFlags := 33
  super := sup
  interfaces := #[]
  cf := none
  fields := #[]
  methods := #[]
  instanceTypes := #[]
  staticTypes := #[]
  resolved := #[]
  callSites := []
  init := .initialized
  statics := none
  mirror := none

def pool0 : Array CpInfo := pool [(5, u "<init>"), (0, u "()V"), (1, .class_ 10), (1, u "java/lang/Object")] 113

def k0c0 : Code := { maxStack := 0, maxLocals := 1, code := object_method_1_code, exceptionTable := #[], attributes := #[] }
def k0m0 : Method := { name := "<init>", desc := "()V", sig := { parameters := [], returnType := none }, accessFlags := 1, code := some k0c0 }
/-- java/lang/Object -/
def k0 : Class := { plain "java/lang/Object" none with
  accessFlags := 33
  interfaces := #[]
  cf := some (fileOf pool0 8 #[] #[{ accessFlags := 1, nameIndex := 5, descriptorIndex := 6, attributes := #[] }] 33 0 #[] #[])
  fields := #[]
  methods := #[k0m0]
  instanceTypes := #[]
  staticTypes := #[]
  resolved := Array.replicate 124 none
  statics := none }

def pool1 : Array CpInfo := pool [(2, .class_ 4), (1, u "java/lang/Object"), (0, u "<init>"), (0, u "()V"), (2, .long 9223372036854775807), (1, .methodref 12 13), (0, .class_ 14), (0, .nameAndType 15 16), (0, u "java/lang/Math"), (0, u "min"), (0, u "(JJ)J"), (0, .methodref 12 18), (0, .nameAndType 19 16), (0, u "max"), (0, .class_ 21), (0, u "com/example/grantee/grantee/service/CopySource$Range"), (0, .methodref 20 23), (0, .nameAndType 5 24), (0, u "(JJ)V"), (0, .methodref 20 26), (0, .nameAndType 27 28), (0, u "length"), (0, u "()J"), (0, .class_ 30), (0, u "com/example/grantee/grantee/service/RangeLengthPinLaw"), (2, u "law"), (0, u "(JJI)Z")] 7

def k1m0 : Method := { name := "<init>", desc := "()V", sig := { parameters := [], returnType := none }, accessFlags := 2, code := none }
def k1c1 : Code := { maxStack := 6, maxLocals := 16, code := code, exceptionTable := #[], attributes := #[] }
def k1m1 : Method := { name := "law", desc := "(JJI)Z", sig := { parameters := [.long, .long, .int], returnType := some .boolean }, accessFlags := 9, code := some k1c1 }
/-- com/example/grantee/grantee/service/RangeLengthPinLaw -/
def k1 : Class := { plain "com/example/grantee/grantee/service/RangeLengthPinLaw" (some 0) with
  accessFlags := 49
  interfaces := #[]
  cf := some (fileOf pool1 29 #[] #[{ accessFlags := 2, nameIndex := 5, descriptorIndex := 6, attributes := #[] }, { accessFlags := 9, nameIndex := 33, descriptorIndex := 34, attributes := #[] }] 49 2 #[] #[])
  fields := #[]
  methods := #[k1m0, k1m1]
  instanceTypes := #[]
  staticTypes := #[]
  resolved := Array.replicate 42 none
  statics := none }

def pool2 : Array CpInfo := pool [(1, .class_ 2), (0, u "java/lang/Math"), (1, .class_ 6), (1, u "java/lang/Object"), (0, u "<init>"), (0, u "()V"), (89, .class_ 100), (1, u "java/lang/Math$RandomNumberGeneratorHolder"), (20, u "(JJ)J"), (50, u "negativeZeroFloatBits"), (0, u "J"), (2, u "negativeZeroDoubleBits"), (21, u "max"), (2, u "min"), (43, u "$assertionsDisabled"), (0, u "Z"), (91, u "twoToTheDoubleScaleDown"), (0, u "D"), (4, u "twoToTheDoubleScaleUp"), (9, u "E"), (3, u "PI"), (2, u "TAU"), (2, u "DEGREES_TO_RADIANS"), (0, u "RADIANS_TO_DEGREES")] 94

def k2m0 : Method := { name := "<init>", desc := "()V", sig := { parameters := [], returnType := none }, accessFlags := 2, code := none }
def k2c1 : Code := { maxStack := 4, maxLocals := 4, code := jdk_29_method_66_code, exceptionTable := #[], attributes := #[] }
def k2m1 : Method := { name := "max", desc := "(JJ)J", sig := { parameters := [.long, .long], returnType := some .long }, accessFlags := 9, code := some k2c1 }
def k2c2 : Code := { maxStack := 4, maxLocals := 4, code := jdk_29_method_70_code, exceptionTable := #[], attributes := #[] }
def k2m2 : Method := { name := "min", desc := "(JJ)J", sig := { parameters := [.long, .long], returnType := some .long }, accessFlags := 9, code := some k2c2 }
/-- java/lang/Math -/
def k2 : Class := { plain "java/lang/Math" (some 0) with
  accessFlags := 49
  interfaces := #[]
  cf := some (fileOf pool2 1 #[.nestMembers #[98]] #[{ accessFlags := 2, nameIndex := 7, descriptorIndex := 8, attributes := #[] }, { accessFlags := 9, nameIndex := 198, descriptorIndex := 121, attributes := #[] }, { accessFlags := 9, nameIndex := 201, descriptorIndex := 121, attributes := #[] }] 49 4 #[] #[{ accessFlags := 25, nameIndex := 354, descriptorIndex := 339, attributes := #[] }, { accessFlags := 25, nameIndex := 358, descriptorIndex := 339, attributes := #[] }, { accessFlags := 25, nameIndex := 361, descriptorIndex := 339, attributes := #[] }, { accessFlags := 26, nameIndex := 364, descriptorIndex := 339, attributes := #[] }, { accessFlags := 26, nameIndex := 365, descriptorIndex := 339, attributes := #[] }, { accessFlags := 26, nameIndex := 172, descriptorIndex := 173, attributes := #[] }, { accessFlags := 26, nameIndex := 176, descriptorIndex := 173, attributes := #[] }, { accessFlags := 8, nameIndex := 344, descriptorIndex := 339, attributes := #[] }, { accessFlags := 8, nameIndex := 338, descriptorIndex := 339, attributes := #[] }, { accessFlags := 4120, nameIndex := 245, descriptorIndex := 246, attributes := #[] }])
  fields := #[{ name := "E", type := .double, accessFlags := 25, slot := 0, constantValue := 0 }, { name := "PI", type := .double, accessFlags := 25, slot := 1, constantValue := 0 }, { name := "TAU", type := .double, accessFlags := 25, slot := 2, constantValue := 0 }, { name := "DEGREES_TO_RADIANS", type := .double, accessFlags := 26, slot := 3, constantValue := 0 }, { name := "RADIANS_TO_DEGREES", type := .double, accessFlags := 26, slot := 4, constantValue := 0 }, { name := "negativeZeroFloatBits", type := .long, accessFlags := 26, slot := 5, constantValue := 0 }, { name := "negativeZeroDoubleBits", type := .long, accessFlags := 26, slot := 6, constantValue := 0 }, { name := "twoToTheDoubleScaleUp", type := .double, accessFlags := 8, slot := 7, constantValue := 0 }, { name := "twoToTheDoubleScaleDown", type := .double, accessFlags := 8, slot := 8, constantValue := 0 }, { name := "$assertionsDisabled", type := .boolean, accessFlags := 4120, slot := 9, constantValue := 0 }]
  methods := #[k2m0, k2m1, k2m2]
  instanceTypes := #[]
  staticTypes := #[.double, .double, .double, .double, .double, .long, .long, .double, .double, .boolean]
  resolved := Array.replicate 460 none
  statics := none }

def pool3 : Array CpInfo := pool [(1, .methodref 2 3), (0, .class_ 4), (0, .nameAndType 5 6), (0, u "java/lang/Object"), (0, u "<init>"), (0, u "()V"), (9, .fieldref 17 18), (0, .class_ 19), (0, .nameAndType 20 21), (0, u "com/example/grantee/grantee/service/CopySource$Range"), (0, u "first"), (0, u "J"), (0, .fieldref 17 23), (0, .nameAndType 24 21), (0, u "last"), (0, u "(JJ)V"), (3, u "()J"), (0, u "length"), (3, .class_ 35), (0, u "com/example/grantee/grantee/service/CopySource")] 16

def k3c0 : Code := { maxStack := 6, maxLocals := 5, code := prog_30_method_1_code, exceptionTable := #[], attributes := #[] }
def k3m0 : Method := { name := "<init>", desc := "(JJ)V", sig := { parameters := [.long, .long], returnType := none }, accessFlags := 1, code := some k3c0 }
def k3c1 : Code := { maxStack := 4, maxLocals := 1, code := prog_30_method_4_code, exceptionTable := #[], attributes := #[] }
def k3m1 : Method := { name := "length", desc := "()J", sig := { parameters := [], returnType := some .long }, accessFlags := 1, code := some k3c1 }
/-- com/example/grantee/grantee/service/CopySource$Range -/
def k3 : Class := { plain "com/example/grantee/grantee/service/CopySource$Range" (some 0) with
  accessFlags := 33
  interfaces := #[]
  cf := some (fileOf pool3 17 #[.nestHost 34] #[{ accessFlags := 1, nameIndex := 5, descriptorIndex := 25, attributes := #[] }, { accessFlags := 1, nameIndex := 30, descriptorIndex := 29, attributes := #[] }] 33 2 #[] #[{ accessFlags := 18, nameIndex := 20, descriptorIndex := 21, attributes := #[] }, { accessFlags := 18, nameIndex := 24, descriptorIndex := 21, attributes := #[] }])
  fields := #[{ name := "first", type := .long, accessFlags := 18, slot := 0, constantValue := 0 }, { name := "last", type := .long, accessFlags := 18, slot := 1, constantValue := 0 }]
  methods := #[k3m0, k3m1]
  instanceTypes := #[.long, .long]
  staticTypes := #[]
  resolved := Array.replicate 52 none
  statics := none }

def pool4 : Array CpInfo := pool [(1, u "java/lang/Cloneable"), (0, .class_ 1), (0, u "java/lang/Object"), (0, .class_ 3)] 3

/-- java/lang/Cloneable -/
def k4 : Class := { plain "java/lang/Cloneable" (some 0) with
  accessFlags := 1537
  interfaces := #[]
  cf := some (fileOf pool4 2 #[] #[] 1537 4 #[] #[])
  fields := #[]
  methods := #[]
  instanceTypes := #[]
  staticTypes := #[]
  resolved := Array.replicate 8 none
  statics := none }

def pool5 : Array CpInfo := pool [(1, u "java/io/Serializable"), (0, .class_ 1), (0, u "java/lang/Object"), (0, .class_ 3)] 3

/-- java/io/Serializable -/
def k5 : Class := { plain "java/io/Serializable" (some 0) with
  accessFlags := 1537
  interfaces := #[]
  cf := some (fileOf pool5 2 #[] #[] 1537 4 #[] #[])
  fields := #[]
  methods := #[]
  instanceTypes := #[]
  staticTypes := #[]
  resolved := Array.replicate 8 none
  statics := none }

/-- the primitive byte -/
def k6 : Class := { plain "byte" none with kind := .primitive 'B', accessFlags := 0x411 }
/-- [B -/
def k7 : Class := { plain "[B" (some 0) with kind := .array 6 .byte, interfaces := #[4, 5], accessFlags := 1041 }

/-- the primitive int -/
def k8 : Class := { plain "int" none with kind := .primitive 'I', accessFlags := 0x411 }
/-- [I -/
def k9 : Class := { plain "[I" (some 0) with kind := .array 8 .int, interfaces := #[4, 5], accessFlags := 1041 }

def heap : Heap := #[]
def classes : Array Class := #[k0, k1, k2, k3, k4, k5, k6, k7, k8, k9]
def interned : List (Array UInt16 × Addr) := []
def slotsUsed : Nat := 0
def theMethod : MethodId := ⟨1, 1⟩
def args0 : Array Value := #[.long 5, .long 9, .int 0]
def aboutOver (below : List Frame) : State where
  vm := { classes := classes, interned := interned.toArray }
  heap := heap
  slotsUsed := slotsUsed
  threads := #[{ frames := .invoking theMethod args0 :: below }]
def below0 : List Frame := [.native { method := ⟨0, 0⟩, args := #[] }]
def about1 : State := aboutOver below0
def p0 : Program := .bare "" "" ""
def e0 : Env := launch0.env 0 0 0
theorem w_frames : about1.frames = Frame.invoking theMethod args0 :: below0 := rfl
set_option maxRecDepth 65536 in
theorem w_args : argsFit about1.vm theMethod args0 = true := by decide +kernel
set_option maxRecDepth 65536 in
theorem w_heap : heapFits about1 = true := by decide +kernel
set_option maxRecDepth 65536 in
theorem w_runnable : about1.curStatus? = some .runnable := by decide +kernel
set_option maxRecDepth 65536 in
theorem w_alone : about1.alone = true := by decide +kernel
set_option maxRecDepth 65536 in
theorem w_named : about1.methodNamed? x = some theMethod := by decide +kernel
set_option maxRecDepth 65536 in
theorem w_hears : about1.hears theMethod below0 = true := by decide +kernel
set_option maxRecDepth 65536 in
theorem w_ripe : about1.ripe theMethod args0 below0 = true := by decide +kernel
theorem w_running : about1.status = .running := rfl
set_option maxRecDepth 65536 in
theorem w_room : about1.hasRoom e0.platform room_1 = true :=
  launch0.hasRoom_least _ room_1 (by decide +kernel) (by decide +kernel) (by decide +kernel) (by decide +kernel) (by decide +kernel) (by decide +kernel)
theorem allAtoms_all (ts : List Jvm.Cond) (a : Array Jvm.Value) (st : Jvm.State) : (allAtoms ts).before a st = ts.all (fun c => c.before a st) := by
  induction ts with
  | nil => rfl
  | cons c t ih =>
    show (Jvm.Cond.and c (allAtoms t)).before a st = _
    rw [Jvm.Cond.before_and, ih, List.all_cons]
def words1 : List Jvm.Cond := Jvm.Cond.code x code maxLocals ret :: tables_1
/-- a 'code' word, met by the world's own term for the bytes: nothing is compared byte by byte -/
theorem code_word {y : MethodName} {bytes : ByteArray} {mx : Nat} {rt : Option FieldType} {a : Array Value} {s : State} {m : MethodId} {meth : Method} {c : Code} (h1 : s.methodNamed? y = some m) (h2 : s.vm.method? m = some meth) (h3 : meth.code = some c) (h4 : c.code = bytes)
    (h5 : (c.maxLocals == mx && c.exceptionTable.isEmpty && decide (c.maxStack ≤ mostOperands) && decide (meth.sig.returnType = rt) && !meth.locks && decide (parseMethodDescriptor y.desc = some meth.sig)) = true) : (Jvm.Cond.code y bytes mx rt).before a s = true := by
  simp only [Bool.and_eq_true, beq_iff_eq, Bool.not_eq_true', decide_eq_true_eq] at h5
  obtain ⟨⟨⟨⟨⟨g1, g2⟩, g3⟩, g4⟩, g5⟩, g6⟩ := h5
  simp [Cond.before, Cond.holds, Cond.value, h1, h2, h3, h4, g1, g2, g3, g4, g5, g6]
def isCode : Jvm.Cond → Bool
  | .code _ _ _ _ => true
  | _ => false
theorem all_split {L : List Jvm.Cond} {P : Jvm.Cond → Bool} (h1 : L.all (fun c => isCode c || P c) = true) (h2 : ∀ c ∈ L.filter isCode, P c = true) : L.all P = true := by
  refine List.all_eq_true.mpr fun c hc => ?_
  have h := List.all_eq_true.mp h1 c hc
  rcases Bool.eq_false_or_eq_true (isCode c) with hi | hi
  · exact h2 c (List.mem_filter.mpr ⟨hc, hi⟩)
  · simpa [hi] using h
set_option maxRecDepth 65536 in
theorem w_c0 : (Jvm.Cond.code x code maxLocals ret).before args0 about1 = true := code_word (m := ⟨1, 1⟩) (meth := k1m1) (c := k1c1) (by decide +kernel) rfl rfl rfl (by decide +kernel)
set_option maxRecDepth 65536 in
theorem w_c1 : (Jvm.Cond.code ({ cls := "java/lang/Math", name := "min", desc := "(JJ)J" } : Jvm.MethodName) jdk_29_method_70_code (4 : Nat) (Option.some Jvm.ClassFile.FieldType.long)).before args0 about1 = true := code_word (m := ⟨2, 2⟩) (meth := k2m2) (c := k2c2) (by decide +kernel) rfl rfl rfl (by decide +kernel)
set_option maxRecDepth 65536 in
theorem w_c2 : (Jvm.Cond.code ({ cls := "java/lang/Math", name := "max", desc := "(JJ)J" } : Jvm.MethodName) jdk_29_method_66_code (4 : Nat) (Option.some Jvm.ClassFile.FieldType.long)).before args0 about1 = true := code_word (m := ⟨2, 1⟩) (meth := k2m1) (c := k2c1) (by decide +kernel) rfl rfl rfl (by decide +kernel)
set_option maxRecDepth 65536 in
theorem w_c3 : (Jvm.Cond.code ({ cls := "com/example/grantee/grantee/service/CopySource$Range", name := "<init>", desc := "(JJ)V" } : Jvm.MethodName) prog_30_method_1_code (5 : Nat) (Option.none : Option Jvm.ClassFile.FieldType)).before args0 about1 = true := code_word (m := ⟨3, 0⟩) (meth := k3m0) (c := k3c0) (by decide +kernel) rfl rfl rfl (by decide +kernel)
set_option maxRecDepth 65536 in
theorem w_c4 : (Jvm.Cond.code ({ cls := "java/lang/Object", name := "<init>", desc := "()V" } : Jvm.MethodName) object_method_1_code (1 : Nat) (Option.none : Option Jvm.ClassFile.FieldType)).before args0 about1 = true := code_word (m := ⟨0, 0⟩) (meth := k0m0) (c := k0c0) (by decide +kernel) rfl rfl rfl (by decide +kernel)
set_option maxRecDepth 65536 in
theorem w_c5 : (Jvm.Cond.code ({ cls := "com/example/grantee/grantee/service/CopySource$Range", name := "length", desc := "()J" } : Jvm.MethodName) prog_30_method_4_code (1 : Nat) (Option.some Jvm.ClassFile.FieldType.long)).before args0 about1 = true := code_word (m := ⟨3, 1⟩) (meth := k3m1) (c := k3c1) (by decide +kernel) rfl rfl rfl (by decide +kernel)
def codes1 : List Jvm.Cond := [Jvm.Cond.code x code maxLocals ret, Jvm.Cond.code ({ cls := "java/lang/Math", name := "min", desc := "(JJ)J" } : Jvm.MethodName) jdk_29_method_70_code (4 : Nat) (Option.some Jvm.ClassFile.FieldType.long), Jvm.Cond.code ({ cls := "java/lang/Math", name := "max", desc := "(JJ)J" } : Jvm.MethodName) jdk_29_method_66_code (4 : Nat) (Option.some Jvm.ClassFile.FieldType.long), Jvm.Cond.code ({ cls := "com/example/grantee/grantee/service/CopySource$Range", name := "<init>", desc := "(JJ)V" } : Jvm.MethodName) prog_30_method_1_code (5 : Nat) (Option.none : Option Jvm.ClassFile.FieldType), Jvm.Cond.code ({ cls := "java/lang/Object", name := "<init>", desc := "()V" } : Jvm.MethodName) object_method_1_code (1 : Nat) (Option.none : Option Jvm.ClassFile.FieldType), Jvm.Cond.code ({ cls := "com/example/grantee/grantee/service/CopySource$Range", name := "length", desc := "()J" } : Jvm.MethodName) prog_30_method_4_code (1 : Nat) (Option.some Jvm.ClassFile.FieldType.long)]
set_option maxRecDepth 65536 in
theorem codes_eq : words1.filter isCode = codes1 := rfl
theorem w_codes : ∀ c ∈ words1.filter isCode, c.before args0 about1 = true := by
  rw [codes_eq]
  intro c hc
  simp only [codes1, List.mem_cons, List.not_mem_nil, or_false] at hc
  rcases hc with rfl | rfl | rfl | rfl | rfl | rfl
  · exact w_c0
  · exact w_c1
  · exact w_c2
  · exact w_c3
  · exact w_c4
  · exact w_c5
set_option maxRecDepth 65536 in
theorem w_t1 : (words1.take 24).all (fun c => isCode c || c.before args0 about1) = true := by decide +kernel
set_option maxRecDepth 65536 in
theorem w_t2 : (words1.drop 24).all (fun c => isCode c || c.before args0 about1) = true := by decide +kernel
theorem w_tables : (allAtoms (Jvm.Cond.code x code maxLocals ret :: tables_1)).before args0 about1 = true := by
  rw [allAtoms_all]
  show words1.all (fun c => c.before args0 about1) = true
  refine all_split ?_ w_codes
  rw [← List.take_append_drop 24 words1, List.all_append, w_t1, w_t2]
  rfl
set_option maxRecDepth 65536 in
theorem w_case : (Jvm.Cond.and given_1 narrow_1).before args0 about1 = true := by decide +kernel
theorem w_applies : (headSpec (Jvm.Cond.code x code maxLocals ret :: tables_1) room_1).applies x e0.platform about1 = true :=
  (Spec.applies_iff w_frames).mpr ⟨w_running, w_runnable, w_alone, w_named, w_hears, w_ripe, w_room, w_tables⟩
theorem atStart : AtStart classFile x code maxLocals ret World_1 tables_1 room_1 Calls_1 rest_1 Pre_1 launch0 p0 e0 about1 theMethod args0 below0 :=
  ⟨lists_1, trivial, launch0.admits_env _ _ _, launch0.least_env, fairChoices_fair.cas, fairChoices_fair.clock, w_frames, w_args, w_heap, w_applies, trivial, trivial, w_case⟩
end start1
theorem witness_1 : WitnessClaimed_1 := ⟨start1.p0, start1.e0, start1.about1, start1.theMethod, start1.args0, start1.below0, start1.atStart⟩
end Jvm.Pilot.@@N@@

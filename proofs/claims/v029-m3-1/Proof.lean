import JvmDerived
import JvmDerived.Pilot.@@N@@Statement
import JvmDerived.Pilot.@@N@@Code
set_option linter.unusedVariables false
set_option linter.unusedSimpArgs false
namespace Jvm.Pilot.@@N@@
open Jvm Jvm.ClassFile Sem Op Lib Jvm.Free Jvm.Stand Jvm.LawKit Jvm.RoadKit Bundle Jvm.Pilot.@@N@@.Jvm.D
/-! own layer: forward walking in continuation style, arrays as functions -/
def own_R (tb : Tables) (e : Env) (below : List Frame) (P : State → Outcome → Prop) (st : State) : Prop := ∃ t o, Steps tb e below st t ∧ P t o
theorem own_fwd {tb : Tables} {e : Env} {below : List Frame} {P : State → Outcome → Prop} {st st' : State} (k : ∀ t, Steps tb e below st' t → Steps tb e below st t) (h : own_R tb e below P st') : own_R tb e below P st := by
  obtain ⟨t, o, h1, h2⟩ := h; exact ⟨t, o, k t h1, h2⟩
theorem own_trn {tb : Tables} {e : Env} {below : List Frame} {P : State → Outcome → Prop} {st st' : State} (k : Steps tb e below st st') (h : own_R tb e below P st') : own_R tb e below P st := own_fwd (fun _ q => k.trans q) h
theorem own_nm {tb : Tables} {e : Env} {below : List Frame} {P : State → Outcome → Prop} {st : State} (h : ∀ P' : State → Outcome → Prop, (∀ t o, P t o → P' t o) → own_R tb e below P' st) : own_R tb e below P st := h P fun _ _ q => q
/-- an array, n long, place i holds f i -/
def own_AV (Z : State) (h : Heap) (a : Addr) (ty : FieldType) (n : Nat) (f : Nat → Value) : Prop := ∃ c : Cell, Arr Z h a c ty ∧ c.slots.size = n ∧ n < 2 ^ 31 ∧ ∀ i, i < n → c.slots[i]? = some (f i)
abbrev own_AI (Z : State) (h : Heap) (a : Addr) (ty : FieldType) (n : Nat) (f : Nat → Int32) : Prop := own_AV Z h a ty n fun i => .int (f i)
abbrev own_AJ (Z : State) (h : Heap) (a : Addr) (n : Nat) (f : Nat → Int64) : Prop := own_AV Z h a .long n fun i => .long (f i)
def own_upd {α : Type} (f : Nat → α) (i : Nat) (x : α) : Nat → α := fun k => if k = i then x else f k
theorem own_upd_hit {α : Type} (f : Nat → α) (i : Nat) (x : α) : own_upd f i x i = x := if_pos rfl
theorem own_upd_miss {α : Type} (f : Nat → α) {i k : Nat} (x : α) (q : k ≠ i) : own_upd f i x k = f k := if_neg q
section Own
variable {p : Program} {l : Launch} {e : Env} {R : Room} {s : State} {m : MethodId} {args : Array Value} {below : List Frame} {meth : Method} {c : Code} {T : State} {locs : List Loc} {cells slots : Nat} {Z : State} {a0 : Array Value} {h h' : Heap} {a b : Addr} {ty : FieldType} {n : Nat} {f : Nat → Value} {v : Value} {sl : Nat}
theorem own_AV.lt (F : own_AV Z h a ty n f) : a < h.size := by obtain ⟨c, A, -⟩ := F; exact A.lt
theorem own_AV.bd (F : own_AV Z h a ty n f) : n < 2 ^ 31 := by obtain ⟨c, A, -, q, -⟩ := F; exact q
theorem own_AV.ext (F : own_AV Z h a ty n f) (E : Ext h h') : own_AV Z h' a ty n f := by obtain ⟨c, A, r⟩ := F; exact ⟨c, A.ext E, r⟩
theorem own_AV.other (F : own_AV Z h b ty n f) (W : Wr h h' a sl v) (q : b ≠ a) : own_AV Z h' b ty n f := by obtain ⟨c, A, r⟩ := F; exact ⟨c, A.other W q, r⟩
theorem own_AV.keep {ws : List Addr} (F : own_AV Z h a ty n f) (K : Keep h h' ws) (q : a ∉ ws) : own_AV Z h' a ty n f := by obtain ⟨c, A, r⟩ := F; exact ⟨c, ⟨K.2.1 a c A.1 q, A.2⟩, r⟩
theorem own_AV.cong {f' : Nat → Value} (F : own_AV Z h a ty n f) (q : ∀ i, i < n → f' i = f i) : own_AV Z h a ty n f' := by obtain ⟨c, A, r1, r2, r3⟩ := F; exact ⟨c, A, r1, r2, fun i hi => by rw [q i hi]; exact r3 i hi⟩
theorem own_clamp {j : Int32} {i : Nat} (hj : j.toInt = (i : Int)) : j.toNatClampNeg = i ∧ ¬ j < 0 := by
  have q0 : (0 : Int32).toInt = 0 := rfl
  exact ⟨by unfold Int32.toNatClampNeg; omega, by rw [Int32.lt_iff_toInt_lt]; omega⟩
theorem own_inb {cl : Cell} {j : Int32} {i : Nat} (hj : j.toInt = (i : Int)) (S : cl.slots.size = n) (hi : i < n) : ¬ (j < 0 ∨ cl.slots.size ≤ j.toNatClampNeg) := by
  obtain ⟨q1, q2⟩ := own_clamp hj
  rw [q1]; rintro (q | q)
  · exact q2 q
  · omega
theorem own_AV.new {k : ClassId} {z : Int32} (A : Arr Z h a (newA k ty z) ty) (hz : z.toInt = (n : Int)) : own_AV Z h a ty n (fun _ => defaultValue ty) := by
  obtain ⟨q1, q2⟩ := own_clamp hz
  have hb := z.toInt_lt
  refine ⟨_, A, by rw [sz_new]; exact q1, by omega, fun i hi => ?_⟩
  simp [newA, q1, hi]
theorem own_ldI (X : Stand p l e R s m args below meth c T locs cells slots) (hx : p.tables.exec = Jvm.exec) (hZ : Z.Warmed39 s.vm) (eT : T.heap = h) (F : own_AV Z h a .int n f) {j : Int32} (i : Nat) (hj : j.toInt = (i : Int)) (hi : i < n) {g : JFrame} (hg : g.method = m) {rest : List Value} (hs : g.stack = .int j :: .ref a :: rest) (hd : decode c.code g.pc = .ok (.iaload, 1)) :
    ∀ t, Steps p.tables e below (T.setTop { g with pc := g.pc + 1, stack := f i :: rest }) t → Steps p.tables e below (T.setTop g) t := fun t k => by
  obtain ⟨cl, A, S, -, H⟩ := F
  exact X.iaload hx (by rw [eT]; exact A.1) (State.isArrayOf_alike hZ.alike A.2.1) A.2.2 (own_inb hj S hi) (by rw [(own_clamp hj).1]; exact H i hi) hg hs hd t k
theorem own_ldS (X : Stand p l e R s m args below meth c T locs cells slots) (hx : p.tables.exec = Jvm.exec) (hZ : Z.Warmed39 s.vm) (eT : T.heap = h) (F : own_AV Z h a .short n f) {j : Int32} (i : Nat) (hj : j.toInt = (i : Int)) (hi : i < n) {g : JFrame} (hg : g.method = m) {rest : List Value} (hs : g.stack = .int j :: .ref a :: rest) (hd : decode c.code g.pc = .ok (.saload, 1)) :
    ∀ t, Steps p.tables e below (T.setTop { g with pc := g.pc + 1, stack := f i :: rest }) t → Steps p.tables e below (T.setTop g) t := fun t k => by
  obtain ⟨cl, A, S, -, H⟩ := F
  exact X.saload hx (by rw [eT]; exact A.1) (State.isArrayOf_alike hZ.alike A.2.1) A.2.2 (own_inb hj S hi) (by rw [(own_clamp hj).1]; exact H i hi) hg hs hd t k
theorem own_ldC (X : Stand p l e R s m args below meth c T locs cells slots) (hx : p.tables.exec = Jvm.exec) (hZ : Z.Warmed39 s.vm) (eT : T.heap = h) (F : own_AV Z h a .char n f) {j : Int32} (i : Nat) (hj : j.toInt = (i : Int)) (hi : i < n) {g : JFrame} (hg : g.method = m) {rest : List Value} (hs : g.stack = .int j :: .ref a :: rest) (hd : decode c.code g.pc = .ok (.caload, 1)) :
    ∀ t, Steps p.tables e below (T.setTop { g with pc := g.pc + 1, stack := f i :: rest }) t → Steps p.tables e below (T.setTop g) t := fun t k => by
  obtain ⟨cl, A, S, -, H⟩ := F
  exact X.caload hx (by rw [eT]; exact A.1) (State.isArrayOf_alike hZ.alike A.2.1) A.2.2 (own_inb hj S hi) (by rw [(own_clamp hj).1]; exact H i hi) hg hs hd t k
theorem own_ldJ (X : Stand p l e R s m args below meth c T locs cells slots) (hx : p.tables.exec = Jvm.exec) (hZ : Z.Warmed39 s.vm) (eT : T.heap = h) (F : own_AV Z h a .long n f) {j : Int32} (i : Nat) (hj : j.toInt = (i : Int)) (hi : i < n) {g : JFrame} (hg : g.method = m) {rest : List Value} (hs : g.stack = .int j :: .ref a :: rest) (hd : decode c.code g.pc = .ok (.laload, 1)) :
    ∀ t, Steps p.tables e below (T.setTop { g with pc := g.pc + 1, stack := f i :: rest }) t → Steps p.tables e below (T.setTop g) t := fun t k => by
  obtain ⟨cl, A, S, -, H⟩ := F
  exact X.laload hx (by rw [eT]; exact A.1) (State.isArrayOf_alike hZ.alike A.2.1) A.2.2 (own_inb hj S hi) (by rw [(own_clamp hj).1]; exact H i hi) hg hs hd t k
theorem own_len (X : Stand p l e R s m args below meth c T locs cells slots) (hx : p.tables.exec = Jvm.exec) (hZ : Z.Warmed39 s.vm) (eT : T.heap = h) (F : own_AV Z h a ty n f) (z : Int32) (hz : z.toInt = (n : Int)) {g : JFrame} (hg : g.method = m) {rest : List Value} (hs : g.stack = .ref a :: rest) (hd : decode c.code g.pc = .ok (.arraylength, 1)) :
    ∀ t, Steps p.tables e below (T.setTop { g with pc := g.pc + 1, stack := .int z :: rest }) t → Steps p.tables e below (T.setTop g) t := fun t k => by
  obtain ⟨cl, A, S, q, H⟩ := F
  have e1 : cl.slots.size.toInt32 = z := by
    rw [S]; apply Int32.toInt_inj.mp; rw [hz]; exact len_toInt q
  refine X.arraylength hx (by rw [eT]; exact A.1) (State.isArrayOf_alike hZ.alike A.2.1) hg hs hd t ?_
  rw [e1]; exact k
theorem own_AV.set {h' : Heap} {cl : Cell} {j : Int32} {i : Nat} {w : Value} (A : Arr Z h a cl ty) (S : cl.slots.size = n) (q : n < 2 ^ 31) (H : ∀ i, i < n → cl.slots[i]? = some (f i)) (hj : j.toInt = (i : Int)) (hi : i < n) (W : Wr h h' a j.toNatClampNeg w) : own_AV Z h' a ty n (own_upd f i w) := by
  rw [(own_clamp hj).1] at W
  refine ⟨_, A.same W, by rw [sz_set]; exact S, q, fun k hk => ?_⟩
  by_cases e : k = i
  · subst e; rw [own_upd_hit]; simp [Cell.setSlot, S, hi]
  · rw [own_upd_miss _ _ e]; simp only [Cell.setSlot]; rw [Array.getElem?_setIfInBounds_ne (Ne.symm e)]; exact H k hk
theorem own_stI {g0 : Nat → Int32} (X : Stand p l e R s m args below meth c T locs cells slots) (hx : p.tables.exec = Jvm.exec) (hZ : Z.Warmed39 s.vm) (eT : T.heap = h) (F : own_AI Z h a .int n g0) {j x : Int32} (i : Nat) (hj : j.toInt = (i : Int)) (hi : i < n) {g : JFrame} (hg : g.method = m) {rest : List Value} (hs : g.stack = .int x :: .int j :: .ref a :: rest) (hd : decode c.code g.pc = .ok (.iastore, 1)) :
    ∃ T' h', Stand p l e R s m args below meth c T' (locs ++ [⟨a, j.toNatClampNeg⟩]) cells slots ∧ T'.heap = h' ∧ Wr h h' a j.toNatClampNeg (.int x) ∧ own_AI Z h' a .int n (own_upd g0 i x) ∧ ∀ t, Steps p.tables e below (T'.setTop { g with pc := g.pc + 1, stack := rest }) t → Steps p.tables e below (T.setTop g) t := by
  obtain ⟨cl, A, S, q, H⟩ := F
  obtain ⟨T', h', X', e', W, st⟩ := stI X hx hZ eT A (own_inb hj S hi) hg hs hd
  exact ⟨T', h', X', e', W, (own_AV.set A S q H hj hi W).cong fun k _ => by simp only [own_upd]; split <;> rfl, st⟩
theorem own_stS {g0 : Nat → Int32} (X : Stand p l e R s m args below meth c T locs cells slots) (hx : p.tables.exec = Jvm.exec) (hZ : Z.Warmed39 s.vm) (eT : T.heap = h) (F : own_AI Z h a .short n g0) {j x : Int32} (i : Nat) (hj : j.toInt = (i : Int)) (hi : i < n) {g : JFrame} (hg : g.method = m) {rest : List Value} (hs : g.stack = .int x :: .int j :: .ref a :: rest) (hd : decode c.code g.pc = .ok (.sastore, 1)) :
    ∃ T' h', Stand p l e R s m args below meth c T' (locs ++ [⟨a, j.toNatClampNeg⟩]) cells slots ∧ T'.heap = h' ∧ Wr h h' a j.toNatClampNeg (.int (nar .short x)) ∧ own_AI Z h' a .short n (own_upd g0 i (nar .short x)) ∧ ∀ t, Steps p.tables e below (T'.setTop { g with pc := g.pc + 1, stack := rest }) t → Steps p.tables e below (T.setTop g) t := by
  obtain ⟨cl, A, S, q, H⟩ := F
  obtain ⟨T', h', X', e', W, st⟩ := stS X hx hZ eT A (own_inb hj S hi) hg hs hd
  exact ⟨T', h', X', e', W, (own_AV.set A S q H hj hi W).cong fun k _ => by simp only [own_upd]; split <;> rfl, st⟩
theorem own_stC {g0 : Nat → Int32} (X : Stand p l e R s m args below meth c T locs cells slots) (hx : p.tables.exec = Jvm.exec) (hZ : Z.Warmed39 s.vm) (eT : T.heap = h) (F : own_AI Z h a .char n g0) {j x : Int32} (i : Nat) (hj : j.toInt = (i : Int)) (hi : i < n) {g : JFrame} (hg : g.method = m) {rest : List Value} (hs : g.stack = .int x :: .int j :: .ref a :: rest) (hd : decode c.code g.pc = .ok (.castore, 1)) :
    ∃ T' h', Stand p l e R s m args below meth c T' (locs ++ [⟨a, j.toNatClampNeg⟩]) cells slots ∧ T'.heap = h' ∧ Wr h h' a j.toNatClampNeg (.int (nar .char x)) ∧ own_AI Z h' a .char n (own_upd g0 i (nar .char x)) ∧ ∀ t, Steps p.tables e below (T'.setTop { g with pc := g.pc + 1, stack := rest }) t → Steps p.tables e below (T.setTop g) t := by
  obtain ⟨cl, A, S, q, H⟩ := F
  obtain ⟨T', h', X', e', W, st⟩ := stC X hx hZ eT A (own_inb hj S hi) hg hs hd
  exact ⟨T', h', X', e', W, (own_AV.set A S q H hj hi W).cong fun k _ => by simp only [own_upd]; split <;> rfl, st⟩
theorem own_stJ {g0 : Nat → Int64} (X : Stand p l e R s m args below meth c T locs cells slots) (hx : p.tables.exec = Jvm.exec) (hZ : Z.Warmed39 s.vm) (eT : T.heap = h) (F : own_AJ Z h a n g0) {j : Int32} {x : Int64} (i : Nat) (hj : j.toInt = (i : Int)) (hi : i < n) {g : JFrame} (hg : g.method = m) {rest : List Value} (hs : g.stack = .long x :: .int j :: .ref a :: rest) (hd : decode c.code g.pc = .ok (.lastore, 1)) :
    ∃ T' h', Stand p l e R s m args below meth c T' (locs ++ [⟨a, j.toNatClampNeg⟩]) cells slots ∧ T'.heap = h' ∧ Wr h h' a j.toNatClampNeg (.long x) ∧ own_AJ Z h' a n (own_upd g0 i x) ∧ ∀ t, Steps p.tables e below (T'.setTop { g with pc := g.pc + 1, stack := rest }) t → Steps p.tables e below (T.setTop g) t := by
  obtain ⟨cl, A, S, q, H⟩ := F
  obtain ⟨T', h', X', e', W, st⟩ := stJ X hx hZ eT A (own_inb hj S hi) hg hs hd
  exact ⟨T', h', X', e', W, (own_AV.set A S q H hj hi W).cong fun k _ => by simp only [own_upd]; split <;> rfl, st⟩
theorem own_newA (X : Stand p l e R s m args below meth c T locs cells slots) (hx : p.tables.exec = Jvm.exec) (hZ : Z.Warmed39 s.vm) {aty : ArrayType} (w : (Cond.arrayClass (newarray.typeOf aty)).before a0 Z = true) (eT : T.heap = h) {z : Int32} (hz : z.toInt = (n : Int)) {cap : Nat} (hcap : n ≤ cap) {g : JFrame} (hg : g.method = m) (hd : decode c.code g.pc = .ok (.newarray aty, 2)) {rest : List Value} (hs : g.stack = .int z :: rest)
    (hb : cap * 8 ≤ 536870912) (hc : cells + 1 ≤ R.cells) (hl : slots + cap ≤ R.slots) {ad : String} (had : "[" ++ (newarray.typeOf aty).toString = ad) :
    ∃ T' h' b, b = h.size ∧ Stand p l e R s m args below meth c T' locs (cells + 1) (slots + cap) ∧ T'.heap = h' ∧ Ext h h' ∧ own_AV Z h' b (newarray.typeOf aty) n (fun _ => defaultValue (newarray.typeOf aty)) ∧ Exa Z h' b ad ∧
      ∀ t, Steps p.tables e below (T'.setTop { g with pc := g.pc + 2, stack := .ref b :: rest }) t → Steps p.tables e below (T.setTop g) t := by
  obtain ⟨q1, q2⟩ := own_clamp hz
  obtain ⟨T', h', k, X', e', E, A, Ea, st⟩ := newPE X hx hZ w eT hg hd hs q2 (by rw [q1]; exact hcap) hb hc hl had
  exact ⟨T', h', _, rfl, X', e', E, own_AV.new A hz, Ea, st⟩
end Own
def own_two {α : Type} (x y : α) : Nat → α
  | 0 => x
  | _ => y
theorem own_nlt {i n : Nat} (hi : i < n) (hn : n < 2 ^ 31) : i.toInt32 < n.toInt32 := by
  rw [Int32.lt_iff_toInt_lt, len_toInt hn, len_toInt (by omega)]; omega
theorem own_nge {i n : Nat} (hi : n ≤ i) (hn : i < 2 ^ 31) : ¬ i.toInt32 < n.toInt32 := by
  rw [Int32.lt_iff_toInt_lt, len_toInt hn, len_toInt (by omega)]; omega
theorem own_nsucc {i : Nat} (hn : i + 1 < 2 ^ 31) : i.toInt32 + (1 : Int32) = (i + 1).toInt32 := by
  have e1 : (1 : Int32).toInt = 1 := rfl
  have h1 := c_iadd i.toInt32 1
  have h2 := rng32 (i.toInt32 + 1)
  rw [← Int32.toInt_inj, len_toInt hn]
  rw [len_toInt (by omega), e1] at h1
  omega
theorem own_and3 (x : Int32) : (x &&& (3 : Int32)) = 0 ∨ (x &&& (3 : Int32)) = 1 ∨ (x &&& (3 : Int32)) = 2 ∨ (x &&& (3 : Int32)) = 3 := by
  have h := c_mask x 3 2 (by decide) (by decide)
  have e : ((2 ^ 2 : Nat) : Int) = 4 := by decide
  rw [e] at h
  have e0 : (0 : Int32).toInt = 0 := rfl
  have e1 : (1 : Int32).toInt = 1 := rfl
  have e2 : (2 : Int32).toInt = 2 := rfl
  have e3 : (3 : Int32).toInt = 3 := rfl
  simp only [← Int32.toInt_inj]
  omega
theorem own_d2_0 : decode prog_33_method_8_code 0 = .ok (.iload_n 1, 1) := by decide +kernel
theorem own_d2_1 : decode prog_33_method_8_code 1 = .ok (.iload_n 0, 1) := by decide +kernel
theorem own_d2_2 : decode prog_33_method_8_code 2 = .ok (.if_icmp .eq 18, 3) := by decide +kernel
theorem own_d2_5 : decode prog_33_method_8_code 5 = .ok (.new 22, 3) := by decide +kernel
theorem own_d2_8 : decode prog_33_method_8_code 8 = .ok (.dup, 1) := by decide +kernel
theorem own_d2_9 : decode prog_33_method_8_code 9 = .ok (.iload_n 0, 1) := by decide +kernel
theorem own_d2_10 : decode prog_33_method_8_code 10 = .ok (.iload_n 1, 1) := by decide +kernel
theorem own_d2_20 : decode prog_33_method_8_code 20 = .ok (.return_, 1) := by decide +kernel
theorem own_pn0 : plainName "com/example/physalia/physalia/model/Marking" = true := by first | (simp [plainName, overriddenIn]; done) | decide +kernel
theorem own_ef2 (m : MethodId) (p1 : Int32) (p2 : Int32) : entryFrame m #[(.int p1), (.int p2)] 2 = mkF m 0 #[.val (.int p1), .val (.int p2)] [] := by first | (simp [entryFrame, mkF, argsToLocals, Value.category]; done) | rfl
def own_Q2 (Z : State) (p1 p2 : Int32) (h0 : Heap) (n0 : Nat) (v : Option Value) (h : Heap) (L : List Loc) : Prop := v = none ∧ Fr n0 L ∧ h = h0
set_option maxRecDepth 65536 in
set_option maxHeartbeats 40000000 in
theorem own_rm2 (l : Launch) (Z : State) (a0 : Array Value) (hw : ∀ d ∈ tables_1, d.before a0 Z = true) (ws : List Jvm.Cond) (p1 p2 : Int32) (h0 : Heap) (n0 : Nat) (Z0 : n0 ≤ h0.size) (pq : p2 = p1) :
    MetFree l (⟨"com/example/physalia/physalia/model/Marking", "checkSameSize", "(II)V"⟩ : MethodName) (head1 (Jvm.Cond.code (⟨"com/example/physalia/physalia/model/Marking", "checkSameSize", "(II)V"⟩ : MethodName) prog_33_method_8_code 2 none :: ws) ({ frames := 0, cells := 0, slots := 0, locals := 0 } : Room)) (fun a U => a = #[(.int p1), (.int p2)] ∧ Z.Warmed39 U.vm ∧ U.heap = h0) (fun _ _ _ _ _ => True) (fun _ U o U' => ∃ v L, o = .returned v ∧ own_Q2 Z p1 p2 h0 n0 v U'.heap L ∧ FrameEnd U o U' L ({ frames := 0, cells := 0, slots := 0, locals := 0 } : Room).cells ({ frames := 0, cells := 0, slots := 0, locals := 0 } : Room).slots) := by
  refine MetFree.of_bodySF (plainFor_of_name own_pn0) hisR ?_
  intro p e s m args below meth c s₁ Bd hml0 hP hK
  obtain ⟨rfl, hZ, hh⟩ := hP
  have hx := Bd.exec
  have hby := Bd.bytes
  have hml : c.maxLocals = 2 := hml0
  have hown : s.vm.findClass "com/example/physalia/physalia/model/Marking" = some m.cls := findClass_of_methodNamed Bd.named
  have hnm := (name_of_methodNamed Bd.named Bd.method).1
  have X0 : Stand p l e ({ frames := 0, cells := 0, slots := 0, locals := 0 } : Room) s m #[(.int p1), (.int p2)] below meth c s₁ [] 0 0 := Stand.of_body Bd
  have e0 : s₁.heap = h0 := by rw [← hh, Bd.state]; rfl
  have N0 := Fr.nil n0
  refine own_nm (st := s₁.setTop (entryFrame m #[(.int p1), (.int p2)] 2)) fun P fin => ?_
  refine own_fwd (fun t k => castTop (own_ef2 m p1 p2) k) ?_
  show own_R p.tables e below P (s₁.setTop (mkF m 0 #[.val (.int p1), .val (.int p2)] []))
  refine own_fwd (fun t k => XS.iloadN X0.here hx rfl (hb hby own_d2_0) rfl k) ?_
  show own_R p.tables e below P (s₁.setTop (mkF m 1 #[.val (.int p1), .val (.int p2)] [(.int p2)]))
  refine own_fwd (fun t k => XS.iloadN X0.here hx rfl (hb hby own_d2_1) rfl k) ?_
  show own_R p.tables e below P (s₁.setTop (mkF m 2 #[.val (.int p1), .val (.int p2)] [(.int p1), (.int p2)]))
  have hc1 : p2 = p1 := pq
  refine own_fwd (fun t k => XS.icmpYes X0.here hx rfl (pc0 := 2) (pc' := 20) rfl (hb hby own_d2_2) rfl (teq hc1).1 (by decide) (by decide) k) ?_
  show own_R p.tables e below P (s₁.setTop (mkF m 20 #[.val (.int p1), .val (.int p2)] []))
  obtain ⟨fs2, hr2, hrun2, hended2, hW2, hsame2⟩ := X0.leave (v := none) (fun _ => rfl)
  refine ⟨_, _, X0.returnOut hx Bd.returns (hb hby own_d2_20) hr2, fin _ _ ⟨hrun2, hended2, _, _, rfl, ?_, ⟨_, rfl⟩, hW2, hsame2.mono (by decide) (by decide)⟩⟩
  show own_Q2 Z p1 p2 h0 n0 _ s₁.heap _
  rw [e0]
  exact ⟨rfl, N0, rfl⟩
theorem own_d1_0 : decode prog_33_method_7_code 0 = .ok (.aload_n 0, 1) := by decide +kernel
theorem own_d1_1 : decode prog_33_method_7_code 1 = .ok (.arraylength, 1) := by decide +kernel
theorem own_d1_2 : decode prog_33_method_7_code 2 = .ok (.aload_n 1, 1) := by decide +kernel
theorem own_d1_3 : decode prog_33_method_7_code 3 = .ok (.arraylength, 1) := by decide +kernel
theorem own_d1_4 : decode prog_33_method_7_code 4 = .ok (.invokestatic 35, 3) := by decide +kernel
theorem own_d1_7 : decode prog_33_method_7_code 7 = .ok (.iconst 0, 1) := by decide +kernel
theorem own_d1_8 : decode prog_33_method_7_code 8 = .ok (.istore_n 2, 1) := by decide +kernel
theorem own_d1_9 : decode prog_33_method_7_code 9 = .ok (.iload_n 2, 1) := by decide +kernel
theorem own_d1_10 : decode prog_33_method_7_code 10 = .ok (.aload_n 0, 1) := by decide +kernel
theorem own_d1_11 : decode prog_33_method_7_code 11 = .ok (.arraylength, 1) := by decide +kernel
theorem own_d1_12 : decode prog_33_method_7_code 12 = .ok (.if_icmp .ge 21, 3) := by decide +kernel
theorem own_d1_15 : decode prog_33_method_7_code 15 = .ok (.aload_n 0, 1) := by decide +kernel
theorem own_d1_16 : decode prog_33_method_7_code 16 = .ok (.iload_n 2, 1) := by decide +kernel
theorem own_d1_17 : decode prog_33_method_7_code 17 = .ok (.laload, 1) := by decide +kernel
theorem own_d1_18 : decode prog_33_method_7_code 18 = .ok (.aload_n 1, 1) := by decide +kernel
theorem own_d1_19 : decode prog_33_method_7_code 19 = .ok (.iload_n 2, 1) := by decide +kernel
theorem own_d1_20 : decode prog_33_method_7_code 20 = .ok (.laload, 1) := by decide +kernel
theorem own_d1_21 : decode prog_33_method_7_code 21 = .ok (.lcmp, 1) := by decide +kernel
theorem own_d1_22 : decode prog_33_method_7_code 22 = .ok (.ifCond .ge 5, 3) := by decide +kernel
theorem own_d1_25 : decode prog_33_method_7_code 25 = .ok (.iconst 0, 1) := by decide +kernel
theorem own_d1_26 : decode prog_33_method_7_code 26 = .ok (.ireturn, 1) := by decide +kernel
theorem own_d1_27 : decode prog_33_method_7_code 27 = .ok (.iinc 2 1, 3) := by decide +kernel
theorem own_d1_30 : decode prog_33_method_7_code 30 = .ok (.goto (-21), 3) := by decide +kernel
theorem own_d1_33 : decode prog_33_method_7_code 33 = .ok (.iconst 1, 1) := by decide +kernel
theorem own_d1_34 : decode prog_33_method_7_code 34 = .ok (.ireturn, 1) := by decide +kernel
theorem own_pd0 : parseMethodDescriptor "(II)V" = some ⟨[.int, .int], none⟩ := by decide +kernel
theorem own_ef1 (m : MethodId) (a1 : Addr) (a2 : Addr) : entryFrame m #[(.ref a1), (.ref a2)] 3 = mkF m 0 #[.val (.ref a1), .val (.ref a2), .unset] [] := by first | (simp [entryFrame, mkF, argsToLocals, Value.category]; done) | rfl
def own_Q1 (Z : State) (a1 a2 : Addr) (n : Nat) (f g : Nat → Int64) (h0 : Heap) (n0 : Nat) (v : Option Value) (h : Heap) (L : List Loc) : Prop := ∃ r : Int32, v = some (.int r) ∧ Fr n0 L ∧ h = h0 ∧ ((r = 1 ∧ ∀ i, i < n → ¬ f i < g i) ∨ (r = 0 ∧ ∃ i, i < n ∧ f i < g i))
set_option maxRecDepth 65536 in
set_option maxHeartbeats 40000000 in
theorem own_rm1 (l : Launch) (Z : State) (a0 : Array Value) (hw : ∀ d ∈ tables_1, d.before a0 Z = true) (ws : List Jvm.Cond) (a1 a2 : Addr) (n : Nat) (f g : Nat → Int64) (h0 : Heap) (n0 : Nat) (Z0 : n0 ≤ h0.size) (pA : own_AJ Z h0 a1 n f) (pB : own_AJ Z h0 a2 n g) :
    MetFree l (⟨"com/example/physalia/physalia/model/Marking", "covers", "([J[J)Z"⟩ : MethodName) (head1 (Jvm.Cond.code (⟨"com/example/physalia/physalia/model/Marking", "covers", "([J[J)Z"⟩ : MethodName) prog_33_method_7_code 3 (some .boolean) :: ws) ({ frames := 1, cells := 0, slots := 0, locals := 13 } : Room)) (fun a U => a = #[(.ref a1), (.ref a2)] ∧ Z.Warmed39 U.vm ∧ U.heap = h0) (fun _ _ _ _ _ => True) (fun _ U o U' => ∃ v L, o = .returned v ∧ own_Q1 Z a1 a2 n f g h0 n0 v U'.heap L ∧ FrameEnd U o U' L ({ frames := 1, cells := 0, slots := 0, locals := 13 } : Room).cells ({ frames := 1, cells := 0, slots := 0, locals := 13 } : Room).slots) := by
  refine MetFree.of_bodySF (plainFor_of_name own_pn0) hisR ?_
  intro p e s m args below meth c s₁ Bd hml0 hP hK
  obtain ⟨rfl, hZ, hh⟩ := hP
  have hx := Bd.exec
  have hby := Bd.bytes
  have hml : c.maxLocals = 3 := hml0
  have hown : s.vm.findClass "com/example/physalia/physalia/model/Marking" = some m.cls := findClass_of_methodNamed Bd.named
  have hnm := (name_of_methodNamed Bd.named Bd.method).1
  have X0 : Stand p l e ({ frames := 1, cells := 0, slots := 0, locals := 13 } : Room) s m #[(.ref a1), (.ref a2)] below meth c s₁ [] 0 0 := Stand.of_body Bd
  have e0 : s₁.heap = h0 := by rw [← hh, Bd.state]; rfl
  have N0 := Fr.nil n0
  refine own_nm (st := s₁.setTop (entryFrame m #[(.ref a1), (.ref a2)] 3)) fun P fin => ?_
  refine own_fwd (fun t k => castTop (own_ef1 m a1 a2) k) ?_
  show own_R p.tables e below P (s₁.setTop (mkF m 0 #[.val (.ref a1), .val (.ref a2), .unset] []))
  refine own_fwd (fun t k => XS.aloadN X0.here hx rfl (hb hby own_d1_0) rfl rfl k) ?_
  show own_R p.tables e below P (s₁.setTop (mkF m 1 #[.val (.ref a1), .val (.ref a2), .unset] [(.ref a1)]))
  refine own_fwd (own_len X0 hx hZ e0 pA n.toInt32 (len_toInt pA.bd) (g := (mkF m 1 #[.val (.ref a1), .val (.ref a2), .unset] [(.ref a1)])) rfl rfl (hb hby own_d1_1)) ?_
  show own_R p.tables e below P (s₁.setTop (mkF m 2 #[.val (.ref a1), .val (.ref a2), .unset] [(.int n.toInt32)]))
  refine own_fwd (fun t k => XS.aloadN X0.here hx rfl (hb hby own_d1_2) rfl rfl k) ?_
  show own_R p.tables e below P (s₁.setTop (mkF m 3 #[.val (.ref a1), .val (.ref a2), .unset] [(.ref a2), (.int n.toInt32)]))
  refine own_fwd (own_len X0 hx hZ e0 pB n.toInt32 (len_toInt pA.bd) (g := (mkF m 3 #[.val (.ref a1), .val (.ref a2), .unset] [(.ref a2), (.int n.toInt32)])) rfl rfl (hb hby own_d1_3)) ?_
  show own_R p.tables e below P (s₁.setTop (mkF m 4 #[.val (.ref a1), .val (.ref a2), .unset] [(.int n.toInt32), (.int n.toInt32)]))
  obtain ⟨_, _, ⟨T3, L3, k3, n3⟩, -, X3, ⟨Lc3, hQ3, l3, y3, z3⟩, st3⟩ := Jvm.LawKit.callS X0 hx (y := (⟨"com/example/physalia/physalia/model/Marking", "checkSameSize", "(II)V"⟩ : MethodName)) hown (mvT hZ (hw _ (List.mem_of_getElem? (i := 5) rfl))) (mvT hZ (hw _ (List.mem_of_getElem? (i := 6) rfl))) (mvT hZ (hw _ (List.mem_of_getElem? (i := 3) rfl))) (mvT hZ (hw _ (List.mem_of_getElem? (i := 7) rfl))) (by decide) (backOf (W := 0) (own_rm2 l Z a0 hw [] n.toInt32 n.toInt32 h0 n0 Z0 rfl) hZ (hw _ (List.mem_of_getElem? (i := 7) rfl)) (hw _ (List.mem_of_getElem? (i := 3) rfl)) (by decide) (by decide)) (g := (mkF m 4 #[.val (.ref a1), .val (.ref a2), .unset] [(.int n.toInt32), (.int n.toInt32)])) rfl (by rw [hml]; rfl) (argsL := [(.int n.toInt32), (.int n.toInt32)]) (rest := []) (lenOf own_pd0 rfl) rfl (by show 2 * 0 + _ ≤ _; exact Nat.le_of_eq rfl) (hb hby own_d1_4) (fun _ _ => ⟨rfl, e0, (by decide : 0 + 0 ≤ _), (by decide : 0 + 0 ≤ _)⟩)
  dsimp only [Pt.U, Pt.locs, Pt.cells, Pt.slots] at X3 l3 y3 z3 st3 hQ3
  subst l3 y3 z3
  obtain ⟨h3, e3⟩ : ∃ z, T3.heap = z := ⟨_, rfl⟩
  rw [e3] at hQ3
  obtain ⟨hq3, N3q, q3⟩ := hQ3
  rw [q3] at e3
  subst hq3
  have N3 := Fr.app N0 N3q
  refine own_fwd st3 ?_
  show own_R p.tables e below P (T3.setTop (mkF m 7 #[.val (.ref a1), .val (.ref a2), .unset] []))
  refine own_fwd (fun t k => XS.iconst X3.here hx rfl (hb hby own_d1_7) k) ?_
  show own_R p.tables e below P (T3.setTop (mkF m 8 #[.val (.ref a1), .val (.ref a2), .unset] [(.int (0 : Int32))]))
  refine own_fwd (fun t k => XS.istoreN X3.here hx rfl (hb hby own_d1_8) rfl (l' := #[.val (.ref a1), .val (.ref a2), .val (.int (0 : Int32))]) rfl k) ?_
  show own_R p.tables e below P (T3.setTop (mkF m 9 #[.val (.ref a1), .val (.ref a2), .val (.int (0 : Int32))] []))
  have bn := pA.bd
  have loop : ∀ (k i : Nat), i + k = n → (∀ j, j < i → ¬ f j < g j) → own_R p.tables e below P (T3.setTop (mkF m 9 #[.val (.ref a1), .val (.ref a2), .val (.int i.toInt32)] [])) := by
    intro k
    induction k with
    | zero =>
      intro i hi hl
      refine own_fwd (fun t k => XS.iloadN X3.here hx rfl (hb hby own_d1_9) rfl k) ?_
      show own_R p.tables e below P (T3.setTop (mkF m 10 #[.val (.ref a1), .val (.ref a2), .val (.int i.toInt32)] [(.int i.toInt32)]))
      refine own_fwd (fun t k => XS.aloadN X3.here hx rfl (hb hby own_d1_10) rfl rfl k) ?_
      show own_R p.tables e below P (T3.setTop (mkF m 11 #[.val (.ref a1), .val (.ref a2), .val (.int i.toInt32)] [(.ref a1), (.int i.toInt32)]))
      refine own_fwd (own_len X3 hx hZ e3 pA n.toInt32 (len_toInt pA.bd) (g := (mkF m 11 #[.val (.ref a1), .val (.ref a2), .val (.int i.toInt32)] [(.ref a1), (.int i.toInt32)])) rfl rfl (hb hby own_d1_11)) ?_
      show own_R p.tables e below P (T3.setTop (mkF m 12 #[.val (.ref a1), .val (.ref a2), .val (.int i.toInt32)] [(.int n.toInt32), (.int i.toInt32)]))
      have hc4 : ¬ (i.toInt32 < n.toInt32) := own_nge (by omega) (by omega)
      refine own_fwd (fun t k => XS.icmpYes X3.here hx rfl (pc0 := 12) (pc' := 33) rfl (hb hby own_d1_12) rfl (flt hc4).2.1 (by decide) (by decide) k) ?_
      show own_R p.tables e below P (T3.setTop (mkF m 33 #[.val (.ref a1), .val (.ref a2), .val (.int i.toInt32)] []))
      refine own_fwd (fun t k => XS.iconst X3.here hx rfl (hb hby own_d1_33) k) ?_
      show own_R p.tables e below P (T3.setTop (mkF m 34 #[.val (.ref a1), .val (.ref a2), .val (.int i.toInt32)] [(.int (1 : Int32))]))
      obtain ⟨fs5, hr5, hrun5, hended5, hW5, hsame5⟩ := X3.leave (v := some (.int (1 : Int32))) (fun h => by rw [Bd.returns] at h; cases h)
      refine ⟨_, _, X3.ireturnOut hx (w := (1 : Int32)) Bd.returns rfl (by simp) (hb hby own_d1_34) hr5, fin _ _ ⟨hrun5, hended5, _, _, rfl, ?_, ⟨_, rfl⟩, hW5, hsame5.mono (by decide) (by decide)⟩⟩
      show own_Q1 Z a1 a2 n f g h0 n0 _ T3.heap _
      rw [e3]
      exact ⟨1, rfl, N3, rfl, Or.inl ⟨rfl, fun j hj => hl j (by omega)⟩⟩
    | succ k ih =>
      intro i hi hl
      refine own_fwd (fun t k => XS.iloadN X3.here hx rfl (hb hby own_d1_9) rfl k) ?_
      show own_R p.tables e below P (T3.setTop (mkF m 10 #[.val (.ref a1), .val (.ref a2), .val (.int i.toInt32)] [(.int i.toInt32)]))
      refine own_fwd (fun t k => XS.aloadN X3.here hx rfl (hb hby own_d1_10) rfl rfl k) ?_
      show own_R p.tables e below P (T3.setTop (mkF m 11 #[.val (.ref a1), .val (.ref a2), .val (.int i.toInt32)] [(.ref a1), (.int i.toInt32)]))
      refine own_fwd (own_len X3 hx hZ e3 pA n.toInt32 (len_toInt pA.bd) (g := (mkF m 11 #[.val (.ref a1), .val (.ref a2), .val (.int i.toInt32)] [(.ref a1), (.int i.toInt32)])) rfl rfl (hb hby own_d1_11)) ?_
      show own_R p.tables e below P (T3.setTop (mkF m 12 #[.val (.ref a1), .val (.ref a2), .val (.int i.toInt32)] [(.int n.toInt32), (.int i.toInt32)]))
      have hc6 : i.toInt32 < n.toInt32 := own_nlt (by omega) bn
      refine own_fwd (fun t k => XS.icmpNo X3.here hx rfl (hb hby own_d1_12) rfl (tlt hc6).2.1 k) ?_
      show own_R p.tables e below P (T3.setTop (mkF m 15 #[.val (.ref a1), .val (.ref a2), .val (.int i.toInt32)] []))
      refine own_fwd (fun t k => XS.aloadN X3.here hx rfl (hb hby own_d1_15) rfl rfl k) ?_
      show own_R p.tables e below P (T3.setTop (mkF m 16 #[.val (.ref a1), .val (.ref a2), .val (.int i.toInt32)] [(.ref a1)]))
      refine own_fwd (fun t k => XS.iloadN X3.here hx rfl (hb hby own_d1_16) rfl k) ?_
      show own_R p.tables e below P (T3.setTop (mkF m 17 #[.val (.ref a1), .val (.ref a2), .val (.int i.toInt32)] [(.int i.toInt32), (.ref a1)]))
      refine own_fwd (own_ldJ X3 hx hZ e3 pA (j := i.toInt32) i (len_toInt (by omega)) (by omega) (g := (mkF m 17 #[.val (.ref a1), .val (.ref a2), .val (.int i.toInt32)] [(.int i.toInt32), (.ref a1)])) rfl rfl (hb hby own_d1_17)) ?_
      show own_R p.tables e below P (T3.setTop (mkF m 18 #[.val (.ref a1), .val (.ref a2), .val (.int i.toInt32)] [(.long (f i))]))
      refine own_fwd (fun t k => XS.aloadN X3.here hx rfl (hb hby own_d1_18) rfl rfl k) ?_
      show own_R p.tables e below P (T3.setTop (mkF m 19 #[.val (.ref a1), .val (.ref a2), .val (.int i.toInt32)] [(.ref a2), (.long (f i))]))
      refine own_fwd (fun t k => XS.iloadN X3.here hx rfl (hb hby own_d1_19) rfl k) ?_
      show own_R p.tables e below P (T3.setTop (mkF m 20 #[.val (.ref a1), .val (.ref a2), .val (.int i.toInt32)] [(.int i.toInt32), (.ref a2), (.long (f i))]))
      refine own_fwd (own_ldJ X3 hx hZ e3 pB (j := i.toInt32) i (len_toInt (by omega)) (by omega) (g := (mkF m 20 #[.val (.ref a1), .val (.ref a2), .val (.int i.toInt32)] [(.int i.toInt32), (.ref a2), (.long (f i))])) rfl rfl (hb hby own_d1_20)) ?_
      show own_R p.tables e below P (T3.setTop (mkF m 21 #[.val (.ref a1), .val (.ref a2), .val (.int i.toInt32)] [(.long (g i)), (.long (f i))]))
      refine own_fwd (fun t k => XS.lcmp X3.here hx rfl (hb hby own_d1_21) rfl k) ?_
      show own_R p.tables e below P (T3.setTop (mkF m 22 #[.val (.ref a1), .val (.ref a2), .val (.int i.toInt32)] [(.int (lcmpW (f i) (g i)))]))
      by_cases hc7 : (lcmpW (f i) (g i)) < (0 : Int32)
      · refine own_fwd (fun t k => XS.ifNo X3.here hx rfl (hb hby own_d1_22) rfl ((if0 _ _).trans (tlt hc7).2.1) k) ?_
        show own_R p.tables e below P (T3.setTop (mkF m 25 #[.val (.ref a1), .val (.ref a2), .val (.int i.toInt32)] []))
        refine own_fwd (fun t k => XS.iconst X3.here hx rfl (hb hby own_d1_25) k) ?_
        show own_R p.tables e below P (T3.setTop (mkF m 26 #[.val (.ref a1), .val (.ref a2), .val (.int i.toInt32)] [(.int (0 : Int32))]))
        obtain ⟨fs8, hr8, hrun8, hended8, hW8, hsame8⟩ := X3.leave (v := some (.int (0 : Int32))) (fun h => by rw [Bd.returns] at h; cases h)
        refine ⟨_, _, X3.ireturnOut hx (w := (0 : Int32)) Bd.returns rfl (by simp) (hb hby own_d1_26) hr8, fin _ _ ⟨hrun8, hended8, _, _, rfl, ?_, ⟨_, rfl⟩, hW8, hsame8.mono (by decide) (by decide)⟩⟩
        show own_Q1 Z a1 a2 n f g h0 n0 _ T3.heap _
        rw [e3]
        exact ⟨0, rfl, N3, rfl, Or.inr ⟨rfl, i, by omega, (lw_lt _ _).mp hc7⟩⟩
      · refine own_fwd (fun t k => XS.ifYes X3.here hx rfl (pc0 := 22) (pc' := 27) rfl (hb hby own_d1_22) rfl ((if0 _ _).trans (flt hc7).2.1) (by decide) (by decide) k) ?_
        show own_R p.tables e below P (T3.setTop (mkF m 27 #[.val (.ref a1), .val (.ref a2), .val (.int i.toInt32)] []))
        refine own_fwd (fun t k => XS.iinc X3.here hx rfl (hb hby own_d1_27) rfl (l' := #[.val (.ref a1), .val (.ref a2), .val (.int (i.toInt32 + (1 : Int32)))]) rfl k) ?_
        show own_R p.tables e below P (T3.setTop (mkF m 30 #[.val (.ref a1), .val (.ref a2), .val (.int (i.toInt32 + (1 : Int32)))] []))
        refine own_fwd (fun t k => XS.goto X3.here hx rfl (pc0 := 30) (pc' := 9) rfl (hb hby own_d1_30) (by decide) (by decide) k) ?_
        show own_R p.tables e below P (T3.setTop (mkF m 9 #[.val (.ref a1), .val (.ref a2), .val (.int (i.toInt32 + (1 : Int32)))] []))
        have hv9 : (i.toInt32 + (1 : Int32)) = (i + 1).toInt32 := own_nsucc (by omega)
        rw [hv9]
        show own_R p.tables e below P (T3.setTop (mkF m 9 #[.val (.ref a1), .val (.ref a2), .val (.int (i + 1).toInt32)] []))
        exact ih (i + 1) (by omega) fun j hj => by
          rcases Nat.lt_succ_iff_lt_or_eq.mp hj with q | q
          · exact hl j q
          · rw [q]; exact fun q' => hc7 ((lw_lt _ _).mpr q')
  exact loop n 0 (by omega) fun j hj => absurd hj (by omega)
theorem own_pn1 : plainName "com/example/physalia/physalia/model/MarkingCoversPinLaw" = true := by first | (simp [plainName, overriddenIn]; done) | decide +kernel
theorem own_pd1 : parseMethodDescriptor "([J[J)Z" = some ⟨[(.array .long), (.array .long)], some .boolean⟩ := by decide +kernel
theorem own_eflaw (m : MethodId) (p0 : Int64) (p1 : Int64) (p2 : Int64) (p3 : Int64) (p4 : Int64) (p5 : Int32) : entryFrame m #[(.long p0), (.long p1), (.long p2), (.long p3), (.long p4), (.int p5)] maxLocals = mkF m 0 #[.val (.long p0), .second, .val (.long p1), .second, .val (.long p2), .second, .val (.long p3), .second, .val (.long p4), .second, .val (.int p5), .unset, .unset, .unset, .unset] [] := by first | (simp [entryFrame, mkF, argsToLocals, Value.category, maxLocals]; done) | rfl
def own_Qlaw (Z : State) (p0 p1 p2 p3 p4 : Int64) (p5 : Int32) (h0 : Heap) (n0 : Nat) (v : Option Value) (h : Heap) (L : List Loc) : Prop := v = some (.int 1) ∧ Fr n0 L
set_option maxRecDepth 65536 in
set_option maxHeartbeats 40000000 in
theorem own_rmlaw (l : Launch) (Z : State) (a0 : Array Value) (hw : ∀ d ∈ tables_1, d.before a0 Z = true) (ws : List Jvm.Cond) (p0 p1 p2 p3 p4 : Int64) (p5 : Int32) (h0 : Heap) (n0 : Nat) (Z0 : n0 ≤ h0.size) :
    MetFree l x (head1 (Jvm.Cond.code x code maxLocals ret :: ws) room_1) (fun a U => a = #[(.long p0), (.long p1), (.long p2), (.long p3), (.long p4), (.int p5)] ∧ Z.Warmed39 U.vm ∧ U.heap = h0) (fun _ _ _ _ _ => True) (fun _ U o U' => ∃ v L, o = .returned v ∧ own_Qlaw Z p0 p1 p2 p3 p4 p5 h0 n0 v U'.heap L ∧ FrameEnd U o U' L 16 128) := by
  refine MetFree.of_bodySF (plainFor_of_name own_pn1) hisR ?_
  intro p e s m args below meth c s₁ Bd hml0 hP hK
  obtain ⟨rfl, hZ, hh⟩ := hP
  have hx := Bd.exec
  have hby := Bd.bytes
  have hml : c.maxLocals = 15 := hml0
  have hown : s.vm.findClass "com/example/physalia/physalia/model/MarkingCoversPinLaw" = some m.cls := findClass_of_methodNamed Bd.named
  have hnm := (name_of_methodNamed Bd.named Bd.method).1
  have X0 : Stand p l e room_1 s m #[(.long p0), (.long p1), (.long p2), (.long p3), (.long p4), (.int p5)] below meth c s₁ [] 0 0 := Stand.of_body Bd
  have e0 : s₁.heap = h0 := by rw [← hh, Bd.state]; rfl
  have N0 := Fr.nil n0
  refine own_nm (st := s₁.setTop (entryFrame m #[(.long p0), (.long p1), (.long p2), (.long p3), (.long p4), (.int p5)] maxLocals)) fun P fin => ?_
  refine own_fwd (fun t k => castTop (own_eflaw m p0 p1 p2 p3 p4 p5) k) ?_
  show own_R p.tables e below P (s₁.setTop (mkF m 0 #[.val (.long p0), .second, .val (.long p1), .second, .val (.long p2), .second, .val (.long p3), .second, .val (.long p4), .second, .val (.int p5), .unset, .unset, .unset, .unset] []))
  refine own_fwd (fun t k => XS.iload X0.here hx rfl (hb hby at_0) rfl k) ?_
  show own_R p.tables e below P (s₁.setTop (mkF m 2 #[.val (.long p0), .second, .val (.long p1), .second, .val (.long p2), .second, .val (.long p3), .second, .val (.long p4), .second, .val (.int p5), .unset, .unset, .unset, .unset] [(.int p5)]))
  refine own_fwd (fun t k => XS.iconst X0.here hx rfl (hb hby at_2) k) ?_
  show own_R p.tables e below P (s₁.setTop (mkF m 3 #[.val (.long p0), .second, .val (.long p1), .second, .val (.long p2), .second, .val (.long p3), .second, .val (.long p4), .second, .val (.int p5), .unset, .unset, .unset, .unset] [(.int (3 : Int32)), (.int p5)]))
  refine own_fwd (fun t k => XS.iand X0.here hx rfl (hb hby at_3) rfl k) ?_
  show own_R p.tables e below P (s₁.setTop (mkF m 4 #[.val (.long p0), .second, .val (.long p1), .second, .val (.long p2), .second, .val (.long p3), .second, .val (.long p4), .second, .val (.int p5), .unset, .unset, .unset, .unset] [(.int (p5 &&& (3 : Int32)))]))
  rcases own_and3 p5 with hs | hs | hs | hs
  · rw [hs]
    show own_R p.tables e below P (s₁.setTop (mkF m 4 #[.val (.long p0), .second, .val (.long p1), .second, .val (.long p2), .second, .val (.long p3), .second, .val (.long p4), .second, .val (.int p5), .unset, .unset, .unset, .unset] [(.int (0 : Int32))]))
    refine own_fwd (fun t k => XS.istore X0.here hx rfl (hb hby at_4) rfl (l' := #[.val (.long p0), .second, .val (.long p1), .second, .val (.long p2), .second, .val (.long p3), .second, .val (.long p4), .second, .val (.int p5), .val (.int (0 : Int32)), .unset, .unset, .unset]) rfl k) ?_
    show own_R p.tables e below P (s₁.setTop (mkF m 6 #[.val (.long p0), .second, .val (.long p1), .second, .val (.long p2), .second, .val (.long p3), .second, .val (.long p4), .second, .val (.int p5), .val (.int (0 : Int32)), .unset, .unset, .unset] []))
    refine own_fwd (fun t k => XS.iload X0.here hx rfl (hb hby at_6) rfl k) ?_
    show own_R p.tables e below P (s₁.setTop (mkF m 8 #[.val (.long p0), .second, .val (.long p1), .second, .val (.long p2), .second, .val (.long p3), .second, .val (.long p4), .second, .val (.int p5), .val (.int (0 : Int32)), .unset, .unset, .unset] [(.int (0 : Int32))]))
    obtain ⟨T10, h10, b10, g10, X10, e10, E10, A10, B10, st10⟩ := own_newA (n := 0) X0 hx hZ (hw _ (List.mem_of_getElem? (i := 0) rfl)) e0 (z := (0 : Int32)) (by decide) (cap := 0) (by decide) (g := (mkF m 8 #[.val (.long p0), .second, .val (.long p1), .second, .val (.long p2), .second, .val (.long p3), .second, .val (.long p4), .second, .val (.int p5), .val (.int (0 : Int32)), .unset, .unset, .unset] [(.int (0 : Int32))])) rfl (hb hby at_8) rfl (by decide) (by decide) (by decide) (ad := "[J") (by decide)
    have ge_b10 : n0 ≤ b10 := by rw [g10]; exact Z0
    have sz_b10 : h0.size ≤ b10 := by rw [g10]; exact (Nat.le_refl h0.size)
    have A10_ : own_AJ Z h10 b10 0 (fun _ => (0 : Int64)) := A10
    have Z10 : n0 ≤ h10.size := Nat.le_trans Z0 E10.1
    have Y10 : h0.size ≤ h10.size := Nat.le_trans (Nat.le_refl h0.size) E10.1
    refine own_fwd st10 ?_
    show own_R p.tables e below P (T10.setTop (mkF m 10 #[.val (.long p0), .second, .val (.long p1), .second, .val (.long p2), .second, .val (.long p3), .second, .val (.long p4), .second, .val (.int p5), .val (.int (0 : Int32)), .unset, .unset, .unset] [(.ref b10)]))
    refine own_fwd (fun t k => XS.astore X10.here hx rfl (hb hby at_10) rfl rfl (l' := #[.val (.long p0), .second, .val (.long p1), .second, .val (.long p2), .second, .val (.long p3), .second, .val (.long p4), .second, .val (.int p5), .val (.int (0 : Int32)), .val (.ref b10), .unset, .unset]) rfl k) ?_
    show own_R p.tables e below P (T10.setTop (mkF m 12 #[.val (.long p0), .second, .val (.long p1), .second, .val (.long p2), .second, .val (.long p3), .second, .val (.long p4), .second, .val (.int p5), .val (.int (0 : Int32)), .val (.ref b10), .unset, .unset] []))
    refine own_fwd (fun t k => XS.iload X10.here hx rfl (hb hby at_12) rfl k) ?_
    show own_R p.tables e below P (T10.setTop (mkF m 14 #[.val (.long p0), .second, .val (.long p1), .second, .val (.long p2), .second, .val (.long p3), .second, .val (.long p4), .second, .val (.int p5), .val (.int (0 : Int32)), .val (.ref b10), .unset, .unset] [(.int (0 : Int32))]))
    obtain ⟨T11, h11, b11, g11, X11, e11, E11, A11, B11, st11⟩ := own_newA (n := 0) X10 hx hZ (hw _ (List.mem_of_getElem? (i := 0) rfl)) e10 (z := (0 : Int32)) (by decide) (cap := 0) (by decide) (g := (mkF m 14 #[.val (.long p0), .second, .val (.long p1), .second, .val (.long p2), .second, .val (.long p3), .second, .val (.long p4), .second, .val (.int p5), .val (.int (0 : Int32)), .val (.ref b10), .unset, .unset] [(.int (0 : Int32))])) rfl (hb hby at_14) rfl (by decide) (by decide) (by decide) (ad := "[J") (by decide)
    have ne11_b10 : b10 ≠ b11 := Nat.ne_of_lt (by rw [g11]; exact A10_.lt)
    have ge_b11 : n0 ≤ b11 := by rw [g11]; exact Z10
    have sz_b11 : h0.size ≤ b11 := by rw [g11]; exact Y10
    have A10__x11 := A10_.ext E11
    have B10_x11 := B10.ext E11
    have A11_ : own_AJ Z h11 b11 0 (fun _ => (0 : Int64)) := A11
    have Z11 : n0 ≤ h11.size := Nat.le_trans Z10 E11.1
    have Y11 : h0.size ≤ h11.size := Nat.le_trans Y10 E11.1
    refine own_fwd st11 ?_
    show own_R p.tables e below P (T11.setTop (mkF m 16 #[.val (.long p0), .second, .val (.long p1), .second, .val (.long p2), .second, .val (.long p3), .second, .val (.long p4), .second, .val (.int p5), .val (.int (0 : Int32)), .val (.ref b10), .unset, .unset] [(.ref b11)]))
    refine own_fwd (fun t k => XS.astore X11.here hx rfl (hb hby at_16) rfl rfl (l' := #[.val (.long p0), .second, .val (.long p1), .second, .val (.long p2), .second, .val (.long p3), .second, .val (.long p4), .second, .val (.int p5), .val (.int (0 : Int32)), .val (.ref b10), .val (.ref b11), .unset]) rfl k) ?_
    show own_R p.tables e below P (T11.setTop (mkF m 18 #[.val (.long p0), .second, .val (.long p1), .second, .val (.long p2), .second, .val (.long p3), .second, .val (.long p4), .second, .val (.int p5), .val (.int (0 : Int32)), .val (.ref b10), .val (.ref b11), .unset] []))
    refine own_fwd (fun t k => XS.iload X11.here hx rfl (hb hby at_18) rfl k) ?_
    show own_R p.tables e below P (T11.setTop (mkF m 20 #[.val (.long p0), .second, .val (.long p1), .second, .val (.long p2), .second, .val (.long p3), .second, .val (.long p4), .second, .val (.int p5), .val (.int (0 : Int32)), .val (.ref b10), .val (.ref b11), .unset] [(.int (0 : Int32))]))
    have hc12 : ¬ ((0 : Int32) < (0 : Int32)) := (by decide)
    refine own_fwd (fun t k => XS.ifYes X11.here hx rfl (pc0 := 20) (pc' := 34) rfl (hb hby at_20) rfl ((if0 _ _).trans (flt hc12).2.2.2) (by decide) (by decide) k) ?_
    show own_R p.tables e below P (T11.setTop (mkF m 34 #[.val (.long p0), .second, .val (.long p1), .second, .val (.long p2), .second, .val (.long p3), .second, .val (.long p4), .second, .val (.int p5), .val (.int (0 : Int32)), .val (.ref b10), .val (.ref b11), .unset] []))
    refine own_fwd (fun t k => XS.iload X11.here hx rfl (hb hby at_34) rfl k) ?_
    show own_R p.tables e below P (T11.setTop (mkF m 36 #[.val (.long p0), .second, .val (.long p1), .second, .val (.long p2), .second, .val (.long p3), .second, .val (.long p4), .second, .val (.int p5), .val (.int (0 : Int32)), .val (.ref b10), .val (.ref b11), .unset] [(.int (0 : Int32))]))
    refine own_fwd (fun t k => XS.iconst X11.here hx rfl (hb hby at_36) k) ?_
    show own_R p.tables e below P (T11.setTop (mkF m 37 #[.val (.long p0), .second, .val (.long p1), .second, .val (.long p2), .second, .val (.long p3), .second, .val (.long p4), .second, .val (.int p5), .val (.int (0 : Int32)), .val (.ref b10), .val (.ref b11), .unset] [(.int (1 : Int32)), (.int (0 : Int32))]))
    have hc13 : ¬ ((1 : Int32) < (0 : Int32)) := (by decide)
    refine own_fwd (fun t k => XS.icmpYes X11.here hx rfl (pc0 := 37) (pc' := 51) rfl (hb hby at_37) rfl (flt hc13).2.2.2 (by decide) (by decide) k) ?_
    show own_R p.tables e below P (T11.setTop (mkF m 51 #[.val (.long p0), .second, .val (.long p1), .second, .val (.long p2), .second, .val (.long p3), .second, .val (.long p4), .second, .val (.int p5), .val (.int (0 : Int32)), .val (.ref b10), .val (.ref b11), .unset] []))
    refine own_fwd (fun t k => XS.iload X11.here hx rfl (hb hby at_51) rfl k) ?_
    show own_R p.tables e below P (T11.setTop (mkF m 53 #[.val (.long p0), .second, .val (.long p1), .second, .val (.long p2), .second, .val (.long p3), .second, .val (.long p4), .second, .val (.int p5), .val (.int (0 : Int32)), .val (.ref b10), .val (.ref b11), .unset] [(.int (0 : Int32))]))
    refine own_fwd (fun t k => XS.iconst X11.here hx rfl (hb hby at_53) k) ?_
    show own_R p.tables e below P (T11.setTop (mkF m 54 #[.val (.long p0), .second, .val (.long p1), .second, .val (.long p2), .second, .val (.long p3), .second, .val (.long p4), .second, .val (.int p5), .val (.int (0 : Int32)), .val (.ref b10), .val (.ref b11), .unset] [(.int (2 : Int32)), (.int (0 : Int32))]))
    have hc14 : ¬ ((2 : Int32) < (0 : Int32)) := (by decide)
    refine own_fwd (fun t k => XS.icmpYes X11.here hx rfl (pc0 := 54) (pc' := 69) rfl (hb hby at_54) rfl (flt hc14).2.2.2 (by decide) (by decide) k) ?_
    show own_R p.tables e below P (T11.setTop (mkF m 69 #[.val (.long p0), .second, .val (.long p1), .second, .val (.long p2), .second, .val (.long p3), .second, .val (.long p4), .second, .val (.int p5), .val (.int (0 : Int32)), .val (.ref b10), .val (.ref b11), .unset] []))
    refine own_fwd (fun t k => XS.iload X11.here hx rfl (hb hby at_69) rfl k) ?_
    show own_R p.tables e below P (T11.setTop (mkF m 71 #[.val (.long p0), .second, .val (.long p1), .second, .val (.long p2), .second, .val (.long p3), .second, .val (.long p4), .second, .val (.int p5), .val (.int (0 : Int32)), .val (.ref b10), .val (.ref b11), .unset] [(.int (0 : Int32))]))
    refine own_fwd (fun t k => XS.iconst X11.here hx rfl (hb hby at_71) k) ?_
    show own_R p.tables e below P (T11.setTop (mkF m 72 #[.val (.long p0), .second, .val (.long p1), .second, .val (.long p2), .second, .val (.long p3), .second, .val (.long p4), .second, .val (.int p5), .val (.int (0 : Int32)), .val (.ref b10), .val (.ref b11), .unset] [(.int (1 : Int32)), (.int (0 : Int32))]))
    have hc15 : (0 : Int32) < (1 : Int32) := (by decide)
    refine own_fwd (fun t k => XS.icmpYes X11.here hx rfl (pc0 := 72) (pc' := 82) rfl (hb hby at_72) rfl (tlt hc15).1 (by decide) (by decide) k) ?_
    show own_R p.tables e below P (T11.setTop (mkF m 82 #[.val (.long p0), .second, .val (.long p1), .second, .val (.long p2), .second, .val (.long p3), .second, .val (.long p4), .second, .val (.int p5), .val (.int (0 : Int32)), .val (.ref b10), .val (.ref b11), .unset] []))
    refine own_fwd (fun t k => XS.iload X11.here hx rfl (hb hby at_82) rfl k) ?_
    show own_R p.tables e below P (T11.setTop (mkF m 84 #[.val (.long p0), .second, .val (.long p1), .second, .val (.long p2), .second, .val (.long p3), .second, .val (.long p4), .second, .val (.int p5), .val (.int (0 : Int32)), .val (.ref b10), .val (.ref b11), .unset] [(.int (0 : Int32))]))
    refine own_fwd (fun t k => XS.iconst X11.here hx rfl (hb hby at_84) k) ?_
    show own_R p.tables e below P (T11.setTop (mkF m 85 #[.val (.long p0), .second, .val (.long p1), .second, .val (.long p2), .second, .val (.long p3), .second, .val (.long p4), .second, .val (.int p5), .val (.int (0 : Int32)), .val (.ref b10), .val (.ref b11), .unset] [(.int (2 : Int32)), (.int (0 : Int32))]))
    have hc16 : (0 : Int32) < (2 : Int32) := (by decide)
    refine own_fwd (fun t k => XS.icmpYes X11.here hx rfl (pc0 := 85) (pc' := 95) rfl (hb hby at_85) rfl (tlt hc16).1 (by decide) (by decide) k) ?_
    show own_R p.tables e below P (T11.setTop (mkF m 95 #[.val (.long p0), .second, .val (.long p1), .second, .val (.long p2), .second, .val (.long p3), .second, .val (.long p4), .second, .val (.int p5), .val (.int (0 : Int32)), .val (.ref b10), .val (.ref b11), .unset] []))
    refine own_fwd (fun t k => XS.iload X11.here hx rfl (hb hby at_95) rfl k) ?_
    show own_R p.tables e below P (T11.setTop (mkF m 97 #[.val (.long p0), .second, .val (.long p1), .second, .val (.long p2), .second, .val (.long p3), .second, .val (.long p4), .second, .val (.int p5), .val (.int (0 : Int32)), .val (.ref b10), .val (.ref b11), .unset] [(.int (0 : Int32))]))
    refine own_fwd (fun t k => XS.iconst X11.here hx rfl (hb hby at_97) k) ?_
    show own_R p.tables e below P (T11.setTop (mkF m 98 #[.val (.long p0), .second, .val (.long p1), .second, .val (.long p2), .second, .val (.long p3), .second, .val (.long p4), .second, .val (.int p5), .val (.int (0 : Int32)), .val (.ref b10), .val (.ref b11), .unset] [(.int (3 : Int32)), (.int (0 : Int32))]))
    have hc17 : (0 : Int32) < (3 : Int32) := (by decide)
    refine own_fwd (fun t k => XS.icmpYes X11.here hx rfl (pc0 := 98) (pc' := 109) rfl (hb hby at_98) rfl (tlt hc17).1 (by decide) (by decide) k) ?_
    show own_R p.tables e below P (T11.setTop (mkF m 109 #[.val (.long p0), .second, .val (.long p1), .second, .val (.long p2), .second, .val (.long p3), .second, .val (.long p4), .second, .val (.int p5), .val (.int (0 : Int32)), .val (.ref b10), .val (.ref b11), .unset] []))
    refine own_fwd (fun t k => XS.iconst X11.here hx rfl (hb hby at_109) k) ?_
    show own_R p.tables e below P (T11.setTop (mkF m 110 #[.val (.long p0), .second, .val (.long p1), .second, .val (.long p2), .second, .val (.long p3), .second, .val (.long p4), .second, .val (.int p5), .val (.int (0 : Int32)), .val (.ref b10), .val (.ref b11), .unset] [(.int (1 : Int32))]))
    refine own_fwd (fun t k => XS.goto X11.here hx rfl (pc0 := 110) (pc' := 114) rfl (hb hby at_110) (by decide) (by decide) k) ?_
    show own_R p.tables e below P (T11.setTop (mkF m 114 #[.val (.long p0), .second, .val (.long p1), .second, .val (.long p2), .second, .val (.long p3), .second, .val (.long p4), .second, .val (.int p5), .val (.int (0 : Int32)), .val (.ref b10), .val (.ref b11), .unset] [(.int (1 : Int32))]))
    refine own_fwd (fun t k => XS.istore X11.here hx rfl (hb hby at_114) rfl (l' := #[.val (.long p0), .second, .val (.long p1), .second, .val (.long p2), .second, .val (.long p3), .second, .val (.long p4), .second, .val (.int p5), .val (.int (0 : Int32)), .val (.ref b10), .val (.ref b11), .val (.int (1 : Int32))]) rfl k) ?_
    show own_R p.tables e below P (T11.setTop (mkF m 116 #[.val (.long p0), .second, .val (.long p1), .second, .val (.long p2), .second, .val (.long p3), .second, .val (.long p4), .second, .val (.int p5), .val (.int (0 : Int32)), .val (.ref b10), .val (.ref b11), .val (.int (1 : Int32))] []))
    refine own_fwd (fun t k => XS.aload X11.here hx rfl (hb hby at_116) rfl rfl k) ?_
    show own_R p.tables e below P (T11.setTop (mkF m 118 #[.val (.long p0), .second, .val (.long p1), .second, .val (.long p2), .second, .val (.long p3), .second, .val (.long p4), .second, .val (.int p5), .val (.int (0 : Int32)), .val (.ref b10), .val (.ref b11), .val (.int (1 : Int32))] [(.ref b10)]))
    refine own_fwd (fun t k => XS.aload X11.here hx rfl (hb hby at_118) rfl rfl k) ?_
    show own_R p.tables e below P (T11.setTop (mkF m 120 #[.val (.long p0), .second, .val (.long p1), .second, .val (.long p2), .second, .val (.long p3), .second, .val (.long p4), .second, .val (.int p5), .val (.int (0 : Int32)), .val (.ref b10), .val (.ref b11), .val (.int (1 : Int32))] [(.ref b11), (.ref b10)]))
    obtain ⟨_, _, ⟨T18, L18, k18, n18⟩, -, X18, ⟨Lc18, hQ18, l18, y18, z18⟩, st18⟩ := Jvm.LawKit.callS X11 hx (y := (⟨"com/example/physalia/physalia/model/Marking", "covers", "([J[J)Z"⟩ : MethodName)) hown (mvT hZ (hw _ (List.mem_of_getElem? (i := 1) rfl))) (mvT hZ (hw _ (List.mem_of_getElem? (i := 2) rfl))) (mvT hZ (hw _ (List.mem_of_getElem? (i := 3) rfl))) (mvT hZ (hw _ (List.mem_of_getElem? (i := 4) rfl))) (by decide) (backOf (W := 0) (own_rm1 l Z a0 hw [] b10 b11 0 (fun _ => (0 : Int64)) (fun _ => (0 : Int64)) h11 n0 Z11 A10__x11 A11_) hZ (hw _ (List.mem_of_getElem? (i := 4) rfl)) (hw _ (List.mem_of_getElem? (i := 3) rfl)) (by decide) (by decide)) (g := (mkF m 120 #[.val (.long p0), .second, .val (.long p1), .second, .val (.long p2), .second, .val (.long p3), .second, .val (.long p4), .second, .val (.int p5), .val (.int (0 : Int32)), .val (.ref b10), .val (.ref b11), .val (.int (1 : Int32))] [(.ref b11), (.ref b10)])) rfl (by rw [hml]; rfl) (argsL := [(.ref b10), (.ref b11)]) (rest := []) (lenOf own_pd1 rfl) rfl (by show 2 * 0 + _ ≤ _; exact Nat.le_of_eq rfl) (hb hby at_120) (fun _ _ => ⟨rfl, e11, (by decide : 2 + 0 ≤ _), (by decide : 0 + 0 ≤ _)⟩)
    dsimp only [Pt.U, Pt.locs, Pt.cells, Pt.slots] at X18 l18 y18 z18 st18 hQ18
    subst l18 y18 z18
    obtain ⟨h18, e18⟩ : ∃ z, T18.heap = z := ⟨_, rfl⟩
    rw [e18] at hQ18
    obtain ⟨r18, hq18, N18q, q18, hR⟩ := hQ18
    rw [q18] at e18
    subst hq18
    have N18 := Fr.app N0 N18q
    refine own_fwd st18 ?_
    show own_R p.tables e below P (T18.setTop (mkF m 123 #[.val (.long p0), .second, .val (.long p1), .second, .val (.long p2), .second, .val (.long p3), .second, .val (.long p4), .second, .val (.int p5), .val (.int (0 : Int32)), .val (.ref b10), .val (.ref b11), .val (.int (1 : Int32))] [(.int r18)]))
    refine own_fwd (fun t k => XS.iload X18.here hx rfl (hb hby at_123) rfl k) ?_
    show own_R p.tables e below P (T18.setTop (mkF m 125 #[.val (.long p0), .second, .val (.long p1), .second, .val (.long p2), .second, .val (.long p3), .second, .val (.long p4), .second, .val (.int p5), .val (.int (0 : Int32)), .val (.ref b10), .val (.ref b11), .val (.int (1 : Int32))] [(.int (1 : Int32)), (.int r18)]))
    have hc19 : r18 = (1 : Int32) := by
      rcases hR with ⟨h1, h2⟩ | ⟨h1, i, hi, h2⟩
      · exact h1
      · exfalso
        exact absurd hi (by omega)
    refine own_fwd (fun t k => XS.icmpNo X18.here hx rfl (hb hby at_125) rfl (teq hc19).2 k) ?_
    show own_R p.tables e below P (T18.setTop (mkF m 128 #[.val (.long p0), .second, .val (.long p1), .second, .val (.long p2), .second, .val (.long p3), .second, .val (.long p4), .second, .val (.int p5), .val (.int (0 : Int32)), .val (.ref b10), .val (.ref b11), .val (.int (1 : Int32))] []))
    refine own_fwd (fun t k => XS.iconst X18.here hx rfl (hb hby at_128) k) ?_
    show own_R p.tables e below P (T18.setTop (mkF m 129 #[.val (.long p0), .second, .val (.long p1), .second, .val (.long p2), .second, .val (.long p3), .second, .val (.long p4), .second, .val (.int p5), .val (.int (0 : Int32)), .val (.ref b10), .val (.ref b11), .val (.int (1 : Int32))] [(.int (1 : Int32))]))
    refine own_fwd (fun t k => XS.goto X18.here hx rfl (pc0 := 129) (pc' := 133) rfl (hb hby at_129) (by decide) (by decide) k) ?_
    show own_R p.tables e below P (T18.setTop (mkF m 133 #[.val (.long p0), .second, .val (.long p1), .second, .val (.long p2), .second, .val (.long p3), .second, .val (.long p4), .second, .val (.int p5), .val (.int (0 : Int32)), .val (.ref b10), .val (.ref b11), .val (.int (1 : Int32))] [(.int (1 : Int32))]))
    obtain ⟨fs20, hr20, hrun20, hended20, hW20, hsame20⟩ := X18.leave (v := some (.int (1 : Int32))) (fun h => by rw [Bd.returns] at h; cases h)
    refine ⟨_, _, X18.ireturnOut hx (w := (1 : Int32)) Bd.returns rfl (by simp) (hb hby at_133) hr20, fin _ _ ⟨hrun20, hended20, _, _, rfl, ?_, ⟨_, rfl⟩, hW20, hsame20.mono (by decide) (by decide)⟩⟩
    show own_Qlaw Z p0 p1 p2 p3 p4 p5 h0 n0 _ T18.heap _
    rw [e18]
    exact ⟨rfl, N18⟩
  · rw [hs]
    show own_R p.tables e below P (s₁.setTop (mkF m 4 #[.val (.long p0), .second, .val (.long p1), .second, .val (.long p2), .second, .val (.long p3), .second, .val (.long p4), .second, .val (.int p5), .unset, .unset, .unset, .unset] [(.int (1 : Int32))]))
    refine own_fwd (fun t k => XS.istore X0.here hx rfl (hb hby at_4) rfl (l' := #[.val (.long p0), .second, .val (.long p1), .second, .val (.long p2), .second, .val (.long p3), .second, .val (.long p4), .second, .val (.int p5), .val (.int (1 : Int32)), .unset, .unset, .unset]) rfl k) ?_
    show own_R p.tables e below P (s₁.setTop (mkF m 6 #[.val (.long p0), .second, .val (.long p1), .second, .val (.long p2), .second, .val (.long p3), .second, .val (.long p4), .second, .val (.int p5), .val (.int (1 : Int32)), .unset, .unset, .unset] []))
    refine own_fwd (fun t k => XS.iload X0.here hx rfl (hb hby at_6) rfl k) ?_
    show own_R p.tables e below P (s₁.setTop (mkF m 8 #[.val (.long p0), .second, .val (.long p1), .second, .val (.long p2), .second, .val (.long p3), .second, .val (.long p4), .second, .val (.int p5), .val (.int (1 : Int32)), .unset, .unset, .unset] [(.int (1 : Int32))]))
    obtain ⟨T21, h21, b21, g21, X21, e21, E21, A21, B21, st21⟩ := own_newA (n := 1) X0 hx hZ (hw _ (List.mem_of_getElem? (i := 0) rfl)) e0 (z := (1 : Int32)) (by decide) (cap := 1) (by decide) (g := (mkF m 8 #[.val (.long p0), .second, .val (.long p1), .second, .val (.long p2), .second, .val (.long p3), .second, .val (.long p4), .second, .val (.int p5), .val (.int (1 : Int32)), .unset, .unset, .unset] [(.int (1 : Int32))])) rfl (hb hby at_8) rfl (by decide) (by decide) (by decide) (ad := "[J") (by decide)
    have ge_b21 : n0 ≤ b21 := by rw [g21]; exact Z0
    have sz_b21 : h0.size ≤ b21 := by rw [g21]; exact (Nat.le_refl h0.size)
    have A21_ : own_AJ Z h21 b21 1 (fun _ => (0 : Int64)) := A21
    have Z21 : n0 ≤ h21.size := Nat.le_trans Z0 E21.1
    have Y21 : h0.size ≤ h21.size := Nat.le_trans (Nat.le_refl h0.size) E21.1
    refine own_fwd st21 ?_
    show own_R p.tables e below P (T21.setTop (mkF m 10 #[.val (.long p0), .second, .val (.long p1), .second, .val (.long p2), .second, .val (.long p3), .second, .val (.long p4), .second, .val (.int p5), .val (.int (1 : Int32)), .unset, .unset, .unset] [(.ref b21)]))
    refine own_fwd (fun t k => XS.astore X21.here hx rfl (hb hby at_10) rfl rfl (l' := #[.val (.long p0), .second, .val (.long p1), .second, .val (.long p2), .second, .val (.long p3), .second, .val (.long p4), .second, .val (.int p5), .val (.int (1 : Int32)), .val (.ref b21), .unset, .unset]) rfl k) ?_
    show own_R p.tables e below P (T21.setTop (mkF m 12 #[.val (.long p0), .second, .val (.long p1), .second, .val (.long p2), .second, .val (.long p3), .second, .val (.long p4), .second, .val (.int p5), .val (.int (1 : Int32)), .val (.ref b21), .unset, .unset] []))
    refine own_fwd (fun t k => XS.iload X21.here hx rfl (hb hby at_12) rfl k) ?_
    show own_R p.tables e below P (T21.setTop (mkF m 14 #[.val (.long p0), .second, .val (.long p1), .second, .val (.long p2), .second, .val (.long p3), .second, .val (.long p4), .second, .val (.int p5), .val (.int (1 : Int32)), .val (.ref b21), .unset, .unset] [(.int (1 : Int32))]))
    obtain ⟨T22, h22, b22, g22, X22, e22, E22, A22, B22, st22⟩ := own_newA (n := 1) X21 hx hZ (hw _ (List.mem_of_getElem? (i := 0) rfl)) e21 (z := (1 : Int32)) (by decide) (cap := 1) (by decide) (g := (mkF m 14 #[.val (.long p0), .second, .val (.long p1), .second, .val (.long p2), .second, .val (.long p3), .second, .val (.long p4), .second, .val (.int p5), .val (.int (1 : Int32)), .val (.ref b21), .unset, .unset] [(.int (1 : Int32))])) rfl (hb hby at_14) rfl (by decide) (by decide) (by decide) (ad := "[J") (by decide)
    have ne22_b21 : b21 ≠ b22 := Nat.ne_of_lt (by rw [g22]; exact A21_.lt)
    have ge_b22 : n0 ≤ b22 := by rw [g22]; exact Z21
    have sz_b22 : h0.size ≤ b22 := by rw [g22]; exact Y21
    have A21__x22 := A21_.ext E22
    have B21_x22 := B21.ext E22
    have A22_ : own_AJ Z h22 b22 1 (fun _ => (0 : Int64)) := A22
    have Z22 : n0 ≤ h22.size := Nat.le_trans Z21 E22.1
    have Y22 : h0.size ≤ h22.size := Nat.le_trans Y21 E22.1
    refine own_fwd st22 ?_
    show own_R p.tables e below P (T22.setTop (mkF m 16 #[.val (.long p0), .second, .val (.long p1), .second, .val (.long p2), .second, .val (.long p3), .second, .val (.long p4), .second, .val (.int p5), .val (.int (1 : Int32)), .val (.ref b21), .unset, .unset] [(.ref b22)]))
    refine own_fwd (fun t k => XS.astore X22.here hx rfl (hb hby at_16) rfl rfl (l' := #[.val (.long p0), .second, .val (.long p1), .second, .val (.long p2), .second, .val (.long p3), .second, .val (.long p4), .second, .val (.int p5), .val (.int (1 : Int32)), .val (.ref b21), .val (.ref b22), .unset]) rfl k) ?_
    show own_R p.tables e below P (T22.setTop (mkF m 18 #[.val (.long p0), .second, .val (.long p1), .second, .val (.long p2), .second, .val (.long p3), .second, .val (.long p4), .second, .val (.int p5), .val (.int (1 : Int32)), .val (.ref b21), .val (.ref b22), .unset] []))
    refine own_fwd (fun t k => XS.iload X22.here hx rfl (hb hby at_18) rfl k) ?_
    show own_R p.tables e below P (T22.setTop (mkF m 20 #[.val (.long p0), .second, .val (.long p1), .second, .val (.long p2), .second, .val (.long p3), .second, .val (.long p4), .second, .val (.int p5), .val (.int (1 : Int32)), .val (.ref b21), .val (.ref b22), .unset] [(.int (1 : Int32))]))
    have hc23 : (0 : Int32) < (1 : Int32) := (by decide)
    refine own_fwd (fun t k => XS.ifNo X22.here hx rfl (hb hby at_20) rfl ((if0 _ _).trans (tlt hc23).2.2.2) k) ?_
    show own_R p.tables e below P (T22.setTop (mkF m 23 #[.val (.long p0), .second, .val (.long p1), .second, .val (.long p2), .second, .val (.long p3), .second, .val (.long p4), .second, .val (.int p5), .val (.int (1 : Int32)), .val (.ref b21), .val (.ref b22), .unset] []))
    refine own_fwd (fun t k => XS.aload X22.here hx rfl (hb hby at_23) rfl rfl k) ?_
    show own_R p.tables e below P (T22.setTop (mkF m 25 #[.val (.long p0), .second, .val (.long p1), .second, .val (.long p2), .second, .val (.long p3), .second, .val (.long p4), .second, .val (.int p5), .val (.int (1 : Int32)), .val (.ref b21), .val (.ref b22), .unset] [(.ref b21)]))
    refine own_fwd (fun t k => XS.iconst X22.here hx rfl (hb hby at_25) k) ?_
    show own_R p.tables e below P (T22.setTop (mkF m 26 #[.val (.long p0), .second, .val (.long p1), .second, .val (.long p2), .second, .val (.long p3), .second, .val (.long p4), .second, .val (.int p5), .val (.int (1 : Int32)), .val (.ref b21), .val (.ref b22), .unset] [(.int (0 : Int32)), (.ref b21)]))
    refine own_fwd (fun t k => XS.lloadN X22.here hx rfl (hb hby at_26) rfl k) ?_
    show own_R p.tables e below P (T22.setTop (mkF m 27 #[.val (.long p0), .second, .val (.long p1), .second, .val (.long p2), .second, .val (.long p3), .second, .val (.long p4), .second, .val (.int p5), .val (.int (1 : Int32)), .val (.ref b21), .val (.ref b22), .unset] [(.long p0), (.int (0 : Int32)), (.ref b21)]))
    obtain ⟨T24, h24, X24, e24, W24, A24_, st24⟩ := own_stJ X22 hx hZ e22 A21__x22 (j := (0 : Int32)) 0 (by decide) (by decide) (g := (mkF m 27 #[.val (.long p0), .second, .val (.long p1), .second, .val (.long p2), .second, .val (.long p3), .second, .val (.long p4), .second, .val (.int p5), .val (.int (1 : Int32)), .val (.ref b21), .val (.ref b22), .unset] [(.long p0), (.int (0 : Int32)), (.ref b21)])) rfl rfl (hb hby at_27)
    have B21_x24 := B21_x22.wr W24
    have A22__x24 := A22_.other W24 (Ne.symm ne22_b21)
    have B22_x24 := B22.wr W24
    have N24 := Fr.snoc X24 N0 ge_b21
    have Z24 : n0 ≤ h24.size := by rw [W24.size]; exact Z22
    have Y24 : h0.size ≤ h24.size := by rw [W24.size]; exact Y22
    refine own_fwd st24 ?_
    show own_R p.tables e below P (T24.setTop (mkF m 28 #[.val (.long p0), .second, .val (.long p1), .second, .val (.long p2), .second, .val (.long p3), .second, .val (.long p4), .second, .val (.int p5), .val (.int (1 : Int32)), .val (.ref b21), .val (.ref b22), .unset] []))
    refine own_fwd (fun t k => XS.aload X24.here hx rfl (hb hby at_28) rfl rfl k) ?_
    show own_R p.tables e below P (T24.setTop (mkF m 30 #[.val (.long p0), .second, .val (.long p1), .second, .val (.long p2), .second, .val (.long p3), .second, .val (.long p4), .second, .val (.int p5), .val (.int (1 : Int32)), .val (.ref b21), .val (.ref b22), .unset] [(.ref b22)]))
    refine own_fwd (fun t k => XS.iconst X24.here hx rfl (hb hby at_30) k) ?_
    show own_R p.tables e below P (T24.setTop (mkF m 31 #[.val (.long p0), .second, .val (.long p1), .second, .val (.long p2), .second, .val (.long p3), .second, .val (.long p4), .second, .val (.int p5), .val (.int (1 : Int32)), .val (.ref b21), .val (.ref b22), .unset] [(.int (0 : Int32)), (.ref b22)]))
    refine own_fwd (fun t k => XS.lload X24.here hx rfl (hb hby at_31) rfl k) ?_
    show own_R p.tables e below P (T24.setTop (mkF m 33 #[.val (.long p0), .second, .val (.long p1), .second, .val (.long p2), .second, .val (.long p3), .second, .val (.long p4), .second, .val (.int p5), .val (.int (1 : Int32)), .val (.ref b21), .val (.ref b22), .unset] [(.long p2), (.int (0 : Int32)), (.ref b22)]))
    obtain ⟨T25, h25, X25, e25, W25, A25_, st25⟩ := own_stJ X24 hx hZ e24 A22__x24 (j := (0 : Int32)) 0 (by decide) (by decide) (g := (mkF m 33 #[.val (.long p0), .second, .val (.long p1), .second, .val (.long p2), .second, .val (.long p3), .second, .val (.long p4), .second, .val (.int p5), .val (.int (1 : Int32)), .val (.ref b21), .val (.ref b22), .unset] [(.long p2), (.int (0 : Int32)), (.ref b22)])) rfl rfl (hb hby at_33)
    have A24__x25 := A24_.other W25 ne22_b21
    have B21_x25 := B21_x24.wr W25
    have B22_x25 := B22_x24.wr W25
    have N25 := Fr.snoc X25 N24 ge_b22
    have Z25 : n0 ≤ h25.size := by rw [W25.size]; exact Z24
    have Y25 : h0.size ≤ h25.size := by rw [W25.size]; exact Y24
    refine own_fwd st25 ?_
    show own_R p.tables e below P (T25.setTop (mkF m 34 #[.val (.long p0), .second, .val (.long p1), .second, .val (.long p2), .second, .val (.long p3), .second, .val (.long p4), .second, .val (.int p5), .val (.int (1 : Int32)), .val (.ref b21), .val (.ref b22), .unset] []))
    refine own_fwd (fun t k => XS.iload X25.here hx rfl (hb hby at_34) rfl k) ?_
    show own_R p.tables e below P (T25.setTop (mkF m 36 #[.val (.long p0), .second, .val (.long p1), .second, .val (.long p2), .second, .val (.long p3), .second, .val (.long p4), .second, .val (.int p5), .val (.int (1 : Int32)), .val (.ref b21), .val (.ref b22), .unset] [(.int (1 : Int32))]))
    refine own_fwd (fun t k => XS.iconst X25.here hx rfl (hb hby at_36) k) ?_
    show own_R p.tables e below P (T25.setTop (mkF m 37 #[.val (.long p0), .second, .val (.long p1), .second, .val (.long p2), .second, .val (.long p3), .second, .val (.long p4), .second, .val (.int p5), .val (.int (1 : Int32)), .val (.ref b21), .val (.ref b22), .unset] [(.int (1 : Int32)), (.int (1 : Int32))]))
    have hc26 : ¬ ((1 : Int32) < (1 : Int32)) := (by decide)
    refine own_fwd (fun t k => XS.icmpYes X25.here hx rfl (pc0 := 37) (pc' := 51) rfl (hb hby at_37) rfl (flt hc26).2.2.2 (by decide) (by decide) k) ?_
    show own_R p.tables e below P (T25.setTop (mkF m 51 #[.val (.long p0), .second, .val (.long p1), .second, .val (.long p2), .second, .val (.long p3), .second, .val (.long p4), .second, .val (.int p5), .val (.int (1 : Int32)), .val (.ref b21), .val (.ref b22), .unset] []))
    refine own_fwd (fun t k => XS.iload X25.here hx rfl (hb hby at_51) rfl k) ?_
    show own_R p.tables e below P (T25.setTop (mkF m 53 #[.val (.long p0), .second, .val (.long p1), .second, .val (.long p2), .second, .val (.long p3), .second, .val (.long p4), .second, .val (.int p5), .val (.int (1 : Int32)), .val (.ref b21), .val (.ref b22), .unset] [(.int (1 : Int32))]))
    refine own_fwd (fun t k => XS.iconst X25.here hx rfl (hb hby at_53) k) ?_
    show own_R p.tables e below P (T25.setTop (mkF m 54 #[.val (.long p0), .second, .val (.long p1), .second, .val (.long p2), .second, .val (.long p3), .second, .val (.long p4), .second, .val (.int p5), .val (.int (1 : Int32)), .val (.ref b21), .val (.ref b22), .unset] [(.int (2 : Int32)), (.int (1 : Int32))]))
    have hc27 : ¬ ((2 : Int32) < (1 : Int32)) := (by decide)
    refine own_fwd (fun t k => XS.icmpYes X25.here hx rfl (pc0 := 54) (pc' := 69) rfl (hb hby at_54) rfl (flt hc27).2.2.2 (by decide) (by decide) k) ?_
    show own_R p.tables e below P (T25.setTop (mkF m 69 #[.val (.long p0), .second, .val (.long p1), .second, .val (.long p2), .second, .val (.long p3), .second, .val (.long p4), .second, .val (.int p5), .val (.int (1 : Int32)), .val (.ref b21), .val (.ref b22), .unset] []))
    refine own_fwd (fun t k => XS.iload X25.here hx rfl (hb hby at_69) rfl k) ?_
    show own_R p.tables e below P (T25.setTop (mkF m 71 #[.val (.long p0), .second, .val (.long p1), .second, .val (.long p2), .second, .val (.long p3), .second, .val (.long p4), .second, .val (.int p5), .val (.int (1 : Int32)), .val (.ref b21), .val (.ref b22), .unset] [(.int (1 : Int32))]))
    refine own_fwd (fun t k => XS.iconst X25.here hx rfl (hb hby at_71) k) ?_
    show own_R p.tables e below P (T25.setTop (mkF m 72 #[.val (.long p0), .second, .val (.long p1), .second, .val (.long p2), .second, .val (.long p3), .second, .val (.long p4), .second, .val (.int p5), .val (.int (1 : Int32)), .val (.ref b21), .val (.ref b22), .unset] [(.int (1 : Int32)), (.int (1 : Int32))]))
    have hc28 : ¬ ((1 : Int32) < (1 : Int32)) := (by decide)
    refine own_fwd (fun t k => XS.icmpNo X25.here hx rfl (hb hby at_72) rfl (flt hc28).1 k) ?_
    show own_R p.tables e below P (T25.setTop (mkF m 75 #[.val (.long p0), .second, .val (.long p1), .second, .val (.long p2), .second, .val (.long p3), .second, .val (.long p4), .second, .val (.int p5), .val (.int (1 : Int32)), .val (.ref b21), .val (.ref b22), .unset] []))
    refine own_fwd (fun t k => XS.lloadN X25.here hx rfl (hb hby at_75) rfl k) ?_
    show own_R p.tables e below P (T25.setTop (mkF m 76 #[.val (.long p0), .second, .val (.long p1), .second, .val (.long p2), .second, .val (.long p3), .second, .val (.long p4), .second, .val (.int p5), .val (.int (1 : Int32)), .val (.ref b21), .val (.ref b22), .unset] [(.long p0)]))
    refine own_fwd (fun t k => XS.lload X25.here hx rfl (hb hby at_76) rfl k) ?_
    show own_R p.tables e below P (T25.setTop (mkF m 78 #[.val (.long p0), .second, .val (.long p1), .second, .val (.long p2), .second, .val (.long p3), .second, .val (.long p4), .second, .val (.int p5), .val (.int (1 : Int32)), .val (.ref b21), .val (.ref b22), .unset] [(.long p2), (.long p0)]))
    refine own_fwd (fun t k => XS.lcmp X25.here hx rfl (hb hby at_78) rfl k) ?_
    show own_R p.tables e below P (T25.setTop (mkF m 79 #[.val (.long p0), .second, .val (.long p1), .second, .val (.long p2), .second, .val (.long p3), .second, .val (.long p4), .second, .val (.int p5), .val (.int (1 : Int32)), .val (.ref b21), .val (.ref b22), .unset] [(.int (lcmpW p0 p2))]))
    by_cases hc29 : (lcmpW p0 p2) < (0 : Int32)
    · refine own_fwd (fun t k => XS.ifYes X25.here hx rfl (pc0 := 79) (pc' := 113) rfl (hb hby at_79) rfl ((if0 _ _).trans (tlt hc29).1) (by decide) (by decide) k) ?_
      show own_R p.tables e below P (T25.setTop (mkF m 113 #[.val (.long p0), .second, .val (.long p1), .second, .val (.long p2), .second, .val (.long p3), .second, .val (.long p4), .second, .val (.int p5), .val (.int (1 : Int32)), .val (.ref b21), .val (.ref b22), .unset] []))
      refine own_fwd (fun t k => XS.iconst X25.here hx rfl (hb hby at_113) k) ?_
      show own_R p.tables e below P (T25.setTop (mkF m 114 #[.val (.long p0), .second, .val (.long p1), .second, .val (.long p2), .second, .val (.long p3), .second, .val (.long p4), .second, .val (.int p5), .val (.int (1 : Int32)), .val (.ref b21), .val (.ref b22), .unset] [(.int (0 : Int32))]))
      refine own_fwd (fun t k => XS.istore X25.here hx rfl (hb hby at_114) rfl (l' := #[.val (.long p0), .second, .val (.long p1), .second, .val (.long p2), .second, .val (.long p3), .second, .val (.long p4), .second, .val (.int p5), .val (.int (1 : Int32)), .val (.ref b21), .val (.ref b22), .val (.int (0 : Int32))]) rfl k) ?_
      show own_R p.tables e below P (T25.setTop (mkF m 116 #[.val (.long p0), .second, .val (.long p1), .second, .val (.long p2), .second, .val (.long p3), .second, .val (.long p4), .second, .val (.int p5), .val (.int (1 : Int32)), .val (.ref b21), .val (.ref b22), .val (.int (0 : Int32))] []))
      refine own_fwd (fun t k => XS.aload X25.here hx rfl (hb hby at_116) rfl rfl k) ?_
      show own_R p.tables e below P (T25.setTop (mkF m 118 #[.val (.long p0), .second, .val (.long p1), .second, .val (.long p2), .second, .val (.long p3), .second, .val (.long p4), .second, .val (.int p5), .val (.int (1 : Int32)), .val (.ref b21), .val (.ref b22), .val (.int (0 : Int32))] [(.ref b21)]))
      refine own_fwd (fun t k => XS.aload X25.here hx rfl (hb hby at_118) rfl rfl k) ?_
      show own_R p.tables e below P (T25.setTop (mkF m 120 #[.val (.long p0), .second, .val (.long p1), .second, .val (.long p2), .second, .val (.long p3), .second, .val (.long p4), .second, .val (.int p5), .val (.int (1 : Int32)), .val (.ref b21), .val (.ref b22), .val (.int (0 : Int32))] [(.ref b22), (.ref b21)]))
      obtain ⟨_, _, ⟨T30, L30, k30, n30⟩, -, X30, ⟨Lc30, hQ30, l30, y30, z30⟩, st30⟩ := Jvm.LawKit.callS X25 hx (y := (⟨"com/example/physalia/physalia/model/Marking", "covers", "([J[J)Z"⟩ : MethodName)) hown (mvT hZ (hw _ (List.mem_of_getElem? (i := 1) rfl))) (mvT hZ (hw _ (List.mem_of_getElem? (i := 2) rfl))) (mvT hZ (hw _ (List.mem_of_getElem? (i := 3) rfl))) (mvT hZ (hw _ (List.mem_of_getElem? (i := 4) rfl))) (by decide) (backOf (W := 0) (own_rm1 l Z a0 hw [] b21 b22 1 (own_upd (fun _ => (0 : Int64)) 0 p0) (own_upd (fun _ => (0 : Int64)) 0 p2) h25 n0 Z25 A24__x25 A25_) hZ (hw _ (List.mem_of_getElem? (i := 4) rfl)) (hw _ (List.mem_of_getElem? (i := 3) rfl)) (by decide) (by decide)) (g := (mkF m 120 #[.val (.long p0), .second, .val (.long p1), .second, .val (.long p2), .second, .val (.long p3), .second, .val (.long p4), .second, .val (.int p5), .val (.int (1 : Int32)), .val (.ref b21), .val (.ref b22), .val (.int (0 : Int32))] [(.ref b22), (.ref b21)])) rfl (by rw [hml]; rfl) (argsL := [(.ref b21), (.ref b22)]) (rest := []) (lenOf own_pd1 rfl) rfl (by show 2 * 0 + _ ≤ _; exact Nat.le_of_eq rfl) (hb hby at_120) (fun _ _ => ⟨rfl, e25, (by decide : 2 + 0 ≤ _), (by decide : 2 + 0 ≤ _)⟩)
      dsimp only [Pt.U, Pt.locs, Pt.cells, Pt.slots] at X30 l30 y30 z30 st30 hQ30
      subst l30 y30 z30
      obtain ⟨h30, e30⟩ : ∃ z, T30.heap = z := ⟨_, rfl⟩
      rw [e30] at hQ30
      obtain ⟨r30, hq30, N30q, q30, hR⟩ := hQ30
      rw [q30] at e30
      subst hq30
      have N30 := Fr.app N25 N30q
      refine own_fwd st30 ?_
      show own_R p.tables e below P (T30.setTop (mkF m 123 #[.val (.long p0), .second, .val (.long p1), .second, .val (.long p2), .second, .val (.long p3), .second, .val (.long p4), .second, .val (.int p5), .val (.int (1 : Int32)), .val (.ref b21), .val (.ref b22), .val (.int (0 : Int32))] [(.int r30)]))
      refine own_fwd (fun t k => XS.iload X30.here hx rfl (hb hby at_123) rfl k) ?_
      show own_R p.tables e below P (T30.setTop (mkF m 125 #[.val (.long p0), .second, .val (.long p1), .second, .val (.long p2), .second, .val (.long p3), .second, .val (.long p4), .second, .val (.int p5), .val (.int (1 : Int32)), .val (.ref b21), .val (.ref b22), .val (.int (0 : Int32))] [(.int (0 : Int32)), (.int r30)]))
      have hc31 : r30 = (0 : Int32) := by
        rcases hR with ⟨h1, h2⟩ | ⟨h1, i, hi, h2⟩
        · exact absurd ((lw_lt _ _).mp hc29) (h2 0 (by decide))
        · exact h1
      refine own_fwd (fun t k => XS.icmpNo X30.here hx rfl (hb hby at_125) rfl (teq hc31).2 k) ?_
      show own_R p.tables e below P (T30.setTop (mkF m 128 #[.val (.long p0), .second, .val (.long p1), .second, .val (.long p2), .second, .val (.long p3), .second, .val (.long p4), .second, .val (.int p5), .val (.int (1 : Int32)), .val (.ref b21), .val (.ref b22), .val (.int (0 : Int32))] []))
      refine own_fwd (fun t k => XS.iconst X30.here hx rfl (hb hby at_128) k) ?_
      show own_R p.tables e below P (T30.setTop (mkF m 129 #[.val (.long p0), .second, .val (.long p1), .second, .val (.long p2), .second, .val (.long p3), .second, .val (.long p4), .second, .val (.int p5), .val (.int (1 : Int32)), .val (.ref b21), .val (.ref b22), .val (.int (0 : Int32))] [(.int (1 : Int32))]))
      refine own_fwd (fun t k => XS.goto X30.here hx rfl (pc0 := 129) (pc' := 133) rfl (hb hby at_129) (by decide) (by decide) k) ?_
      show own_R p.tables e below P (T30.setTop (mkF m 133 #[.val (.long p0), .second, .val (.long p1), .second, .val (.long p2), .second, .val (.long p3), .second, .val (.long p4), .second, .val (.int p5), .val (.int (1 : Int32)), .val (.ref b21), .val (.ref b22), .val (.int (0 : Int32))] [(.int (1 : Int32))]))
      obtain ⟨fs32, hr32, hrun32, hended32, hW32, hsame32⟩ := X30.leave (v := some (.int (1 : Int32))) (fun h => by rw [Bd.returns] at h; cases h)
      refine ⟨_, _, X30.ireturnOut hx (w := (1 : Int32)) Bd.returns rfl (by simp) (hb hby at_133) hr32, fin _ _ ⟨hrun32, hended32, _, _, rfl, ?_, ⟨_, rfl⟩, hW32, hsame32.mono (by decide) (by decide)⟩⟩
      show own_Qlaw Z p0 p1 p2 p3 p4 p5 h0 n0 _ T30.heap _
      rw [e30]
      exact ⟨rfl, N30⟩
    · refine own_fwd (fun t k => XS.ifNo X25.here hx rfl (hb hby at_79) rfl ((if0 _ _).trans (flt hc29).1) k) ?_
      show own_R p.tables e below P (T25.setTop (mkF m 82 #[.val (.long p0), .second, .val (.long p1), .second, .val (.long p2), .second, .val (.long p3), .second, .val (.long p4), .second, .val (.int p5), .val (.int (1 : Int32)), .val (.ref b21), .val (.ref b22), .unset] []))
      refine own_fwd (fun t k => XS.iload X25.here hx rfl (hb hby at_82) rfl k) ?_
      show own_R p.tables e below P (T25.setTop (mkF m 84 #[.val (.long p0), .second, .val (.long p1), .second, .val (.long p2), .second, .val (.long p3), .second, .val (.long p4), .second, .val (.int p5), .val (.int (1 : Int32)), .val (.ref b21), .val (.ref b22), .unset] [(.int (1 : Int32))]))
      refine own_fwd (fun t k => XS.iconst X25.here hx rfl (hb hby at_84) k) ?_
      show own_R p.tables e below P (T25.setTop (mkF m 85 #[.val (.long p0), .second, .val (.long p1), .second, .val (.long p2), .second, .val (.long p3), .second, .val (.long p4), .second, .val (.int p5), .val (.int (1 : Int32)), .val (.ref b21), .val (.ref b22), .unset] [(.int (2 : Int32)), (.int (1 : Int32))]))
      have hc33 : (1 : Int32) < (2 : Int32) := (by decide)
      refine own_fwd (fun t k => XS.icmpYes X25.here hx rfl (pc0 := 85) (pc' := 95) rfl (hb hby at_85) rfl (tlt hc33).1 (by decide) (by decide) k) ?_
      show own_R p.tables e below P (T25.setTop (mkF m 95 #[.val (.long p0), .second, .val (.long p1), .second, .val (.long p2), .second, .val (.long p3), .second, .val (.long p4), .second, .val (.int p5), .val (.int (1 : Int32)), .val (.ref b21), .val (.ref b22), .unset] []))
      refine own_fwd (fun t k => XS.iload X25.here hx rfl (hb hby at_95) rfl k) ?_
      show own_R p.tables e below P (T25.setTop (mkF m 97 #[.val (.long p0), .second, .val (.long p1), .second, .val (.long p2), .second, .val (.long p3), .second, .val (.long p4), .second, .val (.int p5), .val (.int (1 : Int32)), .val (.ref b21), .val (.ref b22), .unset] [(.int (1 : Int32))]))
      refine own_fwd (fun t k => XS.iconst X25.here hx rfl (hb hby at_97) k) ?_
      show own_R p.tables e below P (T25.setTop (mkF m 98 #[.val (.long p0), .second, .val (.long p1), .second, .val (.long p2), .second, .val (.long p3), .second, .val (.long p4), .second, .val (.int p5), .val (.int (1 : Int32)), .val (.ref b21), .val (.ref b22), .unset] [(.int (3 : Int32)), (.int (1 : Int32))]))
      have hc34 : (1 : Int32) < (3 : Int32) := (by decide)
      refine own_fwd (fun t k => XS.icmpYes X25.here hx rfl (pc0 := 98) (pc' := 109) rfl (hb hby at_98) rfl (tlt hc34).1 (by decide) (by decide) k) ?_
      show own_R p.tables e below P (T25.setTop (mkF m 109 #[.val (.long p0), .second, .val (.long p1), .second, .val (.long p2), .second, .val (.long p3), .second, .val (.long p4), .second, .val (.int p5), .val (.int (1 : Int32)), .val (.ref b21), .val (.ref b22), .unset] []))
      refine own_fwd (fun t k => XS.iconst X25.here hx rfl (hb hby at_109) k) ?_
      show own_R p.tables e below P (T25.setTop (mkF m 110 #[.val (.long p0), .second, .val (.long p1), .second, .val (.long p2), .second, .val (.long p3), .second, .val (.long p4), .second, .val (.int p5), .val (.int (1 : Int32)), .val (.ref b21), .val (.ref b22), .unset] [(.int (1 : Int32))]))
      refine own_fwd (fun t k => XS.goto X25.here hx rfl (pc0 := 110) (pc' := 114) rfl (hb hby at_110) (by decide) (by decide) k) ?_
      show own_R p.tables e below P (T25.setTop (mkF m 114 #[.val (.long p0), .second, .val (.long p1), .second, .val (.long p2), .second, .val (.long p3), .second, .val (.long p4), .second, .val (.int p5), .val (.int (1 : Int32)), .val (.ref b21), .val (.ref b22), .unset] [(.int (1 : Int32))]))
      refine own_fwd (fun t k => XS.istore X25.here hx rfl (hb hby at_114) rfl (l' := #[.val (.long p0), .second, .val (.long p1), .second, .val (.long p2), .second, .val (.long p3), .second, .val (.long p4), .second, .val (.int p5), .val (.int (1 : Int32)), .val (.ref b21), .val (.ref b22), .val (.int (1 : Int32))]) rfl k) ?_
      show own_R p.tables e below P (T25.setTop (mkF m 116 #[.val (.long p0), .second, .val (.long p1), .second, .val (.long p2), .second, .val (.long p3), .second, .val (.long p4), .second, .val (.int p5), .val (.int (1 : Int32)), .val (.ref b21), .val (.ref b22), .val (.int (1 : Int32))] []))
      refine own_fwd (fun t k => XS.aload X25.here hx rfl (hb hby at_116) rfl rfl k) ?_
      show own_R p.tables e below P (T25.setTop (mkF m 118 #[.val (.long p0), .second, .val (.long p1), .second, .val (.long p2), .second, .val (.long p3), .second, .val (.long p4), .second, .val (.int p5), .val (.int (1 : Int32)), .val (.ref b21), .val (.ref b22), .val (.int (1 : Int32))] [(.ref b21)]))
      refine own_fwd (fun t k => XS.aload X25.here hx rfl (hb hby at_118) rfl rfl k) ?_
      show own_R p.tables e below P (T25.setTop (mkF m 120 #[.val (.long p0), .second, .val (.long p1), .second, .val (.long p2), .second, .val (.long p3), .second, .val (.long p4), .second, .val (.int p5), .val (.int (1 : Int32)), .val (.ref b21), .val (.ref b22), .val (.int (1 : Int32))] [(.ref b22), (.ref b21)]))
      obtain ⟨_, _, ⟨T35, L35, k35, n35⟩, -, X35, ⟨Lc35, hQ35, l35, y35, z35⟩, st35⟩ := Jvm.LawKit.callS X25 hx (y := (⟨"com/example/physalia/physalia/model/Marking", "covers", "([J[J)Z"⟩ : MethodName)) hown (mvT hZ (hw _ (List.mem_of_getElem? (i := 1) rfl))) (mvT hZ (hw _ (List.mem_of_getElem? (i := 2) rfl))) (mvT hZ (hw _ (List.mem_of_getElem? (i := 3) rfl))) (mvT hZ (hw _ (List.mem_of_getElem? (i := 4) rfl))) (by decide) (backOf (W := 0) (own_rm1 l Z a0 hw [] b21 b22 1 (own_upd (fun _ => (0 : Int64)) 0 p0) (own_upd (fun _ => (0 : Int64)) 0 p2) h25 n0 Z25 A24__x25 A25_) hZ (hw _ (List.mem_of_getElem? (i := 4) rfl)) (hw _ (List.mem_of_getElem? (i := 3) rfl)) (by decide) (by decide)) (g := (mkF m 120 #[.val (.long p0), .second, .val (.long p1), .second, .val (.long p2), .second, .val (.long p3), .second, .val (.long p4), .second, .val (.int p5), .val (.int (1 : Int32)), .val (.ref b21), .val (.ref b22), .val (.int (1 : Int32))] [(.ref b22), (.ref b21)])) rfl (by rw [hml]; rfl) (argsL := [(.ref b21), (.ref b22)]) (rest := []) (lenOf own_pd1 rfl) rfl (by show 2 * 0 + _ ≤ _; exact Nat.le_of_eq rfl) (hb hby at_120) (fun _ _ => ⟨rfl, e25, (by decide : 2 + 0 ≤ _), (by decide : 2 + 0 ≤ _)⟩)
      dsimp only [Pt.U, Pt.locs, Pt.cells, Pt.slots] at X35 l35 y35 z35 st35 hQ35
      subst l35 y35 z35
      obtain ⟨h35, e35⟩ : ∃ z, T35.heap = z := ⟨_, rfl⟩
      rw [e35] at hQ35
      obtain ⟨r35, hq35, N35q, q35, hR⟩ := hQ35
      rw [q35] at e35
      subst hq35
      have N35 := Fr.app N25 N35q
      refine own_fwd st35 ?_
      show own_R p.tables e below P (T35.setTop (mkF m 123 #[.val (.long p0), .second, .val (.long p1), .second, .val (.long p2), .second, .val (.long p3), .second, .val (.long p4), .second, .val (.int p5), .val (.int (1 : Int32)), .val (.ref b21), .val (.ref b22), .val (.int (1 : Int32))] [(.int r35)]))
      refine own_fwd (fun t k => XS.iload X35.here hx rfl (hb hby at_123) rfl k) ?_
      show own_R p.tables e below P (T35.setTop (mkF m 125 #[.val (.long p0), .second, .val (.long p1), .second, .val (.long p2), .second, .val (.long p3), .second, .val (.long p4), .second, .val (.int p5), .val (.int (1 : Int32)), .val (.ref b21), .val (.ref b22), .val (.int (1 : Int32))] [(.int (1 : Int32)), (.int r35)]))
      have hc36 : r35 = (1 : Int32) := by
        rcases hR with ⟨h1, h2⟩ | ⟨h1, i, hi, h2⟩
        · exact h1
        · exfalso
          obtain rfl : i = 0 := by omega
          exact hc29 ((lw_lt _ _).mpr h2)
      refine own_fwd (fun t k => XS.icmpNo X35.here hx rfl (hb hby at_125) rfl (teq hc36).2 k) ?_
      show own_R p.tables e below P (T35.setTop (mkF m 128 #[.val (.long p0), .second, .val (.long p1), .second, .val (.long p2), .second, .val (.long p3), .second, .val (.long p4), .second, .val (.int p5), .val (.int (1 : Int32)), .val (.ref b21), .val (.ref b22), .val (.int (1 : Int32))] []))
      refine own_fwd (fun t k => XS.iconst X35.here hx rfl (hb hby at_128) k) ?_
      show own_R p.tables e below P (T35.setTop (mkF m 129 #[.val (.long p0), .second, .val (.long p1), .second, .val (.long p2), .second, .val (.long p3), .second, .val (.long p4), .second, .val (.int p5), .val (.int (1 : Int32)), .val (.ref b21), .val (.ref b22), .val (.int (1 : Int32))] [(.int (1 : Int32))]))
      refine own_fwd (fun t k => XS.goto X35.here hx rfl (pc0 := 129) (pc' := 133) rfl (hb hby at_129) (by decide) (by decide) k) ?_
      show own_R p.tables e below P (T35.setTop (mkF m 133 #[.val (.long p0), .second, .val (.long p1), .second, .val (.long p2), .second, .val (.long p3), .second, .val (.long p4), .second, .val (.int p5), .val (.int (1 : Int32)), .val (.ref b21), .val (.ref b22), .val (.int (1 : Int32))] [(.int (1 : Int32))]))
      obtain ⟨fs37, hr37, hrun37, hended37, hW37, hsame37⟩ := X35.leave (v := some (.int (1 : Int32))) (fun h => by rw [Bd.returns] at h; cases h)
      refine ⟨_, _, X35.ireturnOut hx (w := (1 : Int32)) Bd.returns rfl (by simp) (hb hby at_133) hr37, fin _ _ ⟨hrun37, hended37, _, _, rfl, ?_, ⟨_, rfl⟩, hW37, hsame37.mono (by decide) (by decide)⟩⟩
      show own_Qlaw Z p0 p1 p2 p3 p4 p5 h0 n0 _ T35.heap _
      rw [e35]
      exact ⟨rfl, N35⟩
  · rw [hs]
    show own_R p.tables e below P (s₁.setTop (mkF m 4 #[.val (.long p0), .second, .val (.long p1), .second, .val (.long p2), .second, .val (.long p3), .second, .val (.long p4), .second, .val (.int p5), .unset, .unset, .unset, .unset] [(.int (2 : Int32))]))
    refine own_fwd (fun t k => XS.istore X0.here hx rfl (hb hby at_4) rfl (l' := #[.val (.long p0), .second, .val (.long p1), .second, .val (.long p2), .second, .val (.long p3), .second, .val (.long p4), .second, .val (.int p5), .val (.int (2 : Int32)), .unset, .unset, .unset]) rfl k) ?_
    show own_R p.tables e below P (s₁.setTop (mkF m 6 #[.val (.long p0), .second, .val (.long p1), .second, .val (.long p2), .second, .val (.long p3), .second, .val (.long p4), .second, .val (.int p5), .val (.int (2 : Int32)), .unset, .unset, .unset] []))
    refine own_fwd (fun t k => XS.iload X0.here hx rfl (hb hby at_6) rfl k) ?_
    show own_R p.tables e below P (s₁.setTop (mkF m 8 #[.val (.long p0), .second, .val (.long p1), .second, .val (.long p2), .second, .val (.long p3), .second, .val (.long p4), .second, .val (.int p5), .val (.int (2 : Int32)), .unset, .unset, .unset] [(.int (2 : Int32))]))
    obtain ⟨T38, h38, b38, g38, X38, e38, E38, A38, B38, st38⟩ := own_newA (n := 2) X0 hx hZ (hw _ (List.mem_of_getElem? (i := 0) rfl)) e0 (z := (2 : Int32)) (by decide) (cap := 2) (by decide) (g := (mkF m 8 #[.val (.long p0), .second, .val (.long p1), .second, .val (.long p2), .second, .val (.long p3), .second, .val (.long p4), .second, .val (.int p5), .val (.int (2 : Int32)), .unset, .unset, .unset] [(.int (2 : Int32))])) rfl (hb hby at_8) rfl (by decide) (by decide) (by decide) (ad := "[J") (by decide)
    have ge_b38 : n0 ≤ b38 := by rw [g38]; exact Z0
    have sz_b38 : h0.size ≤ b38 := by rw [g38]; exact (Nat.le_refl h0.size)
    have A38_ : own_AJ Z h38 b38 2 (fun _ => (0 : Int64)) := A38
    have Z38 : n0 ≤ h38.size := Nat.le_trans Z0 E38.1
    have Y38 : h0.size ≤ h38.size := Nat.le_trans (Nat.le_refl h0.size) E38.1
    refine own_fwd st38 ?_
    show own_R p.tables e below P (T38.setTop (mkF m 10 #[.val (.long p0), .second, .val (.long p1), .second, .val (.long p2), .second, .val (.long p3), .second, .val (.long p4), .second, .val (.int p5), .val (.int (2 : Int32)), .unset, .unset, .unset] [(.ref b38)]))
    refine own_fwd (fun t k => XS.astore X38.here hx rfl (hb hby at_10) rfl rfl (l' := #[.val (.long p0), .second, .val (.long p1), .second, .val (.long p2), .second, .val (.long p3), .second, .val (.long p4), .second, .val (.int p5), .val (.int (2 : Int32)), .val (.ref b38), .unset, .unset]) rfl k) ?_
    show own_R p.tables e below P (T38.setTop (mkF m 12 #[.val (.long p0), .second, .val (.long p1), .second, .val (.long p2), .second, .val (.long p3), .second, .val (.long p4), .second, .val (.int p5), .val (.int (2 : Int32)), .val (.ref b38), .unset, .unset] []))
    refine own_fwd (fun t k => XS.iload X38.here hx rfl (hb hby at_12) rfl k) ?_
    show own_R p.tables e below P (T38.setTop (mkF m 14 #[.val (.long p0), .second, .val (.long p1), .second, .val (.long p2), .second, .val (.long p3), .second, .val (.long p4), .second, .val (.int p5), .val (.int (2 : Int32)), .val (.ref b38), .unset, .unset] [(.int (2 : Int32))]))
    obtain ⟨T39, h39, b39, g39, X39, e39, E39, A39, B39, st39⟩ := own_newA (n := 2) X38 hx hZ (hw _ (List.mem_of_getElem? (i := 0) rfl)) e38 (z := (2 : Int32)) (by decide) (cap := 2) (by decide) (g := (mkF m 14 #[.val (.long p0), .second, .val (.long p1), .second, .val (.long p2), .second, .val (.long p3), .second, .val (.long p4), .second, .val (.int p5), .val (.int (2 : Int32)), .val (.ref b38), .unset, .unset] [(.int (2 : Int32))])) rfl (hb hby at_14) rfl (by decide) (by decide) (by decide) (ad := "[J") (by decide)
    have ne39_b38 : b38 ≠ b39 := Nat.ne_of_lt (by rw [g39]; exact A38_.lt)
    have ge_b39 : n0 ≤ b39 := by rw [g39]; exact Z38
    have sz_b39 : h0.size ≤ b39 := by rw [g39]; exact Y38
    have A38__x39 := A38_.ext E39
    have B38_x39 := B38.ext E39
    have A39_ : own_AJ Z h39 b39 2 (fun _ => (0 : Int64)) := A39
    have Z39 : n0 ≤ h39.size := Nat.le_trans Z38 E39.1
    have Y39 : h0.size ≤ h39.size := Nat.le_trans Y38 E39.1
    refine own_fwd st39 ?_
    show own_R p.tables e below P (T39.setTop (mkF m 16 #[.val (.long p0), .second, .val (.long p1), .second, .val (.long p2), .second, .val (.long p3), .second, .val (.long p4), .second, .val (.int p5), .val (.int (2 : Int32)), .val (.ref b38), .unset, .unset] [(.ref b39)]))
    refine own_fwd (fun t k => XS.astore X39.here hx rfl (hb hby at_16) rfl rfl (l' := #[.val (.long p0), .second, .val (.long p1), .second, .val (.long p2), .second, .val (.long p3), .second, .val (.long p4), .second, .val (.int p5), .val (.int (2 : Int32)), .val (.ref b38), .val (.ref b39), .unset]) rfl k) ?_
    show own_R p.tables e below P (T39.setTop (mkF m 18 #[.val (.long p0), .second, .val (.long p1), .second, .val (.long p2), .second, .val (.long p3), .second, .val (.long p4), .second, .val (.int p5), .val (.int (2 : Int32)), .val (.ref b38), .val (.ref b39), .unset] []))
    refine own_fwd (fun t k => XS.iload X39.here hx rfl (hb hby at_18) rfl k) ?_
    show own_R p.tables e below P (T39.setTop (mkF m 20 #[.val (.long p0), .second, .val (.long p1), .second, .val (.long p2), .second, .val (.long p3), .second, .val (.long p4), .second, .val (.int p5), .val (.int (2 : Int32)), .val (.ref b38), .val (.ref b39), .unset] [(.int (2 : Int32))]))
    have hc40 : (0 : Int32) < (2 : Int32) := (by decide)
    refine own_fwd (fun t k => XS.ifNo X39.here hx rfl (hb hby at_20) rfl ((if0 _ _).trans (tlt hc40).2.2.2) k) ?_
    show own_R p.tables e below P (T39.setTop (mkF m 23 #[.val (.long p0), .second, .val (.long p1), .second, .val (.long p2), .second, .val (.long p3), .second, .val (.long p4), .second, .val (.int p5), .val (.int (2 : Int32)), .val (.ref b38), .val (.ref b39), .unset] []))
    refine own_fwd (fun t k => XS.aload X39.here hx rfl (hb hby at_23) rfl rfl k) ?_
    show own_R p.tables e below P (T39.setTop (mkF m 25 #[.val (.long p0), .second, .val (.long p1), .second, .val (.long p2), .second, .val (.long p3), .second, .val (.long p4), .second, .val (.int p5), .val (.int (2 : Int32)), .val (.ref b38), .val (.ref b39), .unset] [(.ref b38)]))
    refine own_fwd (fun t k => XS.iconst X39.here hx rfl (hb hby at_25) k) ?_
    show own_R p.tables e below P (T39.setTop (mkF m 26 #[.val (.long p0), .second, .val (.long p1), .second, .val (.long p2), .second, .val (.long p3), .second, .val (.long p4), .second, .val (.int p5), .val (.int (2 : Int32)), .val (.ref b38), .val (.ref b39), .unset] [(.int (0 : Int32)), (.ref b38)]))
    refine own_fwd (fun t k => XS.lloadN X39.here hx rfl (hb hby at_26) rfl k) ?_
    show own_R p.tables e below P (T39.setTop (mkF m 27 #[.val (.long p0), .second, .val (.long p1), .second, .val (.long p2), .second, .val (.long p3), .second, .val (.long p4), .second, .val (.int p5), .val (.int (2 : Int32)), .val (.ref b38), .val (.ref b39), .unset] [(.long p0), (.int (0 : Int32)), (.ref b38)]))
    obtain ⟨T41, h41, X41, e41, W41, A41_, st41⟩ := own_stJ X39 hx hZ e39 A38__x39 (j := (0 : Int32)) 0 (by decide) (by decide) (g := (mkF m 27 #[.val (.long p0), .second, .val (.long p1), .second, .val (.long p2), .second, .val (.long p3), .second, .val (.long p4), .second, .val (.int p5), .val (.int (2 : Int32)), .val (.ref b38), .val (.ref b39), .unset] [(.long p0), (.int (0 : Int32)), (.ref b38)])) rfl rfl (hb hby at_27)
    have B38_x41 := B38_x39.wr W41
    have A39__x41 := A39_.other W41 (Ne.symm ne39_b38)
    have B39_x41 := B39.wr W41
    have N41 := Fr.snoc X41 N0 ge_b38
    have Z41 : n0 ≤ h41.size := by rw [W41.size]; exact Z39
    have Y41 : h0.size ≤ h41.size := by rw [W41.size]; exact Y39
    refine own_fwd st41 ?_
    show own_R p.tables e below P (T41.setTop (mkF m 28 #[.val (.long p0), .second, .val (.long p1), .second, .val (.long p2), .second, .val (.long p3), .second, .val (.long p4), .second, .val (.int p5), .val (.int (2 : Int32)), .val (.ref b38), .val (.ref b39), .unset] []))
    refine own_fwd (fun t k => XS.aload X41.here hx rfl (hb hby at_28) rfl rfl k) ?_
    show own_R p.tables e below P (T41.setTop (mkF m 30 #[.val (.long p0), .second, .val (.long p1), .second, .val (.long p2), .second, .val (.long p3), .second, .val (.long p4), .second, .val (.int p5), .val (.int (2 : Int32)), .val (.ref b38), .val (.ref b39), .unset] [(.ref b39)]))
    refine own_fwd (fun t k => XS.iconst X41.here hx rfl (hb hby at_30) k) ?_
    show own_R p.tables e below P (T41.setTop (mkF m 31 #[.val (.long p0), .second, .val (.long p1), .second, .val (.long p2), .second, .val (.long p3), .second, .val (.long p4), .second, .val (.int p5), .val (.int (2 : Int32)), .val (.ref b38), .val (.ref b39), .unset] [(.int (0 : Int32)), (.ref b39)]))
    refine own_fwd (fun t k => XS.lload X41.here hx rfl (hb hby at_31) rfl k) ?_
    show own_R p.tables e below P (T41.setTop (mkF m 33 #[.val (.long p0), .second, .val (.long p1), .second, .val (.long p2), .second, .val (.long p3), .second, .val (.long p4), .second, .val (.int p5), .val (.int (2 : Int32)), .val (.ref b38), .val (.ref b39), .unset] [(.long p2), (.int (0 : Int32)), (.ref b39)]))
    obtain ⟨T42, h42, X42, e42, W42, A42_, st42⟩ := own_stJ X41 hx hZ e41 A39__x41 (j := (0 : Int32)) 0 (by decide) (by decide) (g := (mkF m 33 #[.val (.long p0), .second, .val (.long p1), .second, .val (.long p2), .second, .val (.long p3), .second, .val (.long p4), .second, .val (.int p5), .val (.int (2 : Int32)), .val (.ref b38), .val (.ref b39), .unset] [(.long p2), (.int (0 : Int32)), (.ref b39)])) rfl rfl (hb hby at_33)
    have A41__x42 := A41_.other W42 ne39_b38
    have B38_x42 := B38_x41.wr W42
    have B39_x42 := B39_x41.wr W42
    have N42 := Fr.snoc X42 N41 ge_b39
    have Z42 : n0 ≤ h42.size := by rw [W42.size]; exact Z41
    have Y42 : h0.size ≤ h42.size := by rw [W42.size]; exact Y41
    refine own_fwd st42 ?_
    show own_R p.tables e below P (T42.setTop (mkF m 34 #[.val (.long p0), .second, .val (.long p1), .second, .val (.long p2), .second, .val (.long p3), .second, .val (.long p4), .second, .val (.int p5), .val (.int (2 : Int32)), .val (.ref b38), .val (.ref b39), .unset] []))
    refine own_fwd (fun t k => XS.iload X42.here hx rfl (hb hby at_34) rfl k) ?_
    show own_R p.tables e below P (T42.setTop (mkF m 36 #[.val (.long p0), .second, .val (.long p1), .second, .val (.long p2), .second, .val (.long p3), .second, .val (.long p4), .second, .val (.int p5), .val (.int (2 : Int32)), .val (.ref b38), .val (.ref b39), .unset] [(.int (2 : Int32))]))
    refine own_fwd (fun t k => XS.iconst X42.here hx rfl (hb hby at_36) k) ?_
    show own_R p.tables e below P (T42.setTop (mkF m 37 #[.val (.long p0), .second, .val (.long p1), .second, .val (.long p2), .second, .val (.long p3), .second, .val (.long p4), .second, .val (.int p5), .val (.int (2 : Int32)), .val (.ref b38), .val (.ref b39), .unset] [(.int (1 : Int32)), (.int (2 : Int32))]))
    have hc43 : (1 : Int32) < (2 : Int32) := (by decide)
    refine own_fwd (fun t k => XS.icmpNo X42.here hx rfl (hb hby at_37) rfl (tlt hc43).2.2.2 k) ?_
    show own_R p.tables e below P (T42.setTop (mkF m 40 #[.val (.long p0), .second, .val (.long p1), .second, .val (.long p2), .second, .val (.long p3), .second, .val (.long p4), .second, .val (.int p5), .val (.int (2 : Int32)), .val (.ref b38), .val (.ref b39), .unset] []))
    refine own_fwd (fun t k => XS.aload X42.here hx rfl (hb hby at_40) rfl rfl k) ?_
    show own_R p.tables e below P (T42.setTop (mkF m 42 #[.val (.long p0), .second, .val (.long p1), .second, .val (.long p2), .second, .val (.long p3), .second, .val (.long p4), .second, .val (.int p5), .val (.int (2 : Int32)), .val (.ref b38), .val (.ref b39), .unset] [(.ref b38)]))
    refine own_fwd (fun t k => XS.iconst X42.here hx rfl (hb hby at_42) k) ?_
    show own_R p.tables e below P (T42.setTop (mkF m 43 #[.val (.long p0), .second, .val (.long p1), .second, .val (.long p2), .second, .val (.long p3), .second, .val (.long p4), .second, .val (.int p5), .val (.int (2 : Int32)), .val (.ref b38), .val (.ref b39), .unset] [(.int (1 : Int32)), (.ref b38)]))
    refine own_fwd (fun t k => XS.lloadN X42.here hx rfl (hb hby at_43) rfl k) ?_
    show own_R p.tables e below P (T42.setTop (mkF m 44 #[.val (.long p0), .second, .val (.long p1), .second, .val (.long p2), .second, .val (.long p3), .second, .val (.long p4), .second, .val (.int p5), .val (.int (2 : Int32)), .val (.ref b38), .val (.ref b39), .unset] [(.long p1), (.int (1 : Int32)), (.ref b38)]))
    obtain ⟨T44, h44, X44, e44, W44, A44_, st44⟩ := own_stJ X42 hx hZ e42 A41__x42 (j := (1 : Int32)) 1 (by decide) (by decide) (g := (mkF m 44 #[.val (.long p0), .second, .val (.long p1), .second, .val (.long p2), .second, .val (.long p3), .second, .val (.long p4), .second, .val (.int p5), .val (.int (2 : Int32)), .val (.ref b38), .val (.ref b39), .unset] [(.long p1), (.int (1 : Int32)), (.ref b38)])) rfl rfl (hb hby at_44)
    have B38_x44 := B38_x42.wr W44
    have A42__x44 := A42_.other W44 (Ne.symm ne39_b38)
    have B39_x44 := B39_x42.wr W44
    have N44 := Fr.snoc X44 N42 ge_b38
    have Z44 : n0 ≤ h44.size := by rw [W44.size]; exact Z42
    have Y44 : h0.size ≤ h44.size := by rw [W44.size]; exact Y42
    refine own_fwd st44 ?_
    show own_R p.tables e below P (T44.setTop (mkF m 45 #[.val (.long p0), .second, .val (.long p1), .second, .val (.long p2), .second, .val (.long p3), .second, .val (.long p4), .second, .val (.int p5), .val (.int (2 : Int32)), .val (.ref b38), .val (.ref b39), .unset] []))
    refine own_fwd (fun t k => XS.aload X44.here hx rfl (hb hby at_45) rfl rfl k) ?_
    show own_R p.tables e below P (T44.setTop (mkF m 47 #[.val (.long p0), .second, .val (.long p1), .second, .val (.long p2), .second, .val (.long p3), .second, .val (.long p4), .second, .val (.int p5), .val (.int (2 : Int32)), .val (.ref b38), .val (.ref b39), .unset] [(.ref b39)]))
    refine own_fwd (fun t k => XS.iconst X44.here hx rfl (hb hby at_47) k) ?_
    show own_R p.tables e below P (T44.setTop (mkF m 48 #[.val (.long p0), .second, .val (.long p1), .second, .val (.long p2), .second, .val (.long p3), .second, .val (.long p4), .second, .val (.int p5), .val (.int (2 : Int32)), .val (.ref b38), .val (.ref b39), .unset] [(.int (1 : Int32)), (.ref b39)]))
    refine own_fwd (fun t k => XS.lload X44.here hx rfl (hb hby at_48) rfl k) ?_
    show own_R p.tables e below P (T44.setTop (mkF m 50 #[.val (.long p0), .second, .val (.long p1), .second, .val (.long p2), .second, .val (.long p3), .second, .val (.long p4), .second, .val (.int p5), .val (.int (2 : Int32)), .val (.ref b38), .val (.ref b39), .unset] [(.long p3), (.int (1 : Int32)), (.ref b39)]))
    obtain ⟨T45, h45, X45, e45, W45, A45_, st45⟩ := own_stJ X44 hx hZ e44 A42__x44 (j := (1 : Int32)) 1 (by decide) (by decide) (g := (mkF m 50 #[.val (.long p0), .second, .val (.long p1), .second, .val (.long p2), .second, .val (.long p3), .second, .val (.long p4), .second, .val (.int p5), .val (.int (2 : Int32)), .val (.ref b38), .val (.ref b39), .unset] [(.long p3), (.int (1 : Int32)), (.ref b39)])) rfl rfl (hb hby at_50)
    have A44__x45 := A44_.other W45 ne39_b38
    have B38_x45 := B38_x44.wr W45
    have B39_x45 := B39_x44.wr W45
    have N45 := Fr.snoc X45 N44 ge_b39
    have Z45 : n0 ≤ h45.size := by rw [W45.size]; exact Z44
    have Y45 : h0.size ≤ h45.size := by rw [W45.size]; exact Y44
    refine own_fwd st45 ?_
    show own_R p.tables e below P (T45.setTop (mkF m 51 #[.val (.long p0), .second, .val (.long p1), .second, .val (.long p2), .second, .val (.long p3), .second, .val (.long p4), .second, .val (.int p5), .val (.int (2 : Int32)), .val (.ref b38), .val (.ref b39), .unset] []))
    refine own_fwd (fun t k => XS.iload X45.here hx rfl (hb hby at_51) rfl k) ?_
    show own_R p.tables e below P (T45.setTop (mkF m 53 #[.val (.long p0), .second, .val (.long p1), .second, .val (.long p2), .second, .val (.long p3), .second, .val (.long p4), .second, .val (.int p5), .val (.int (2 : Int32)), .val (.ref b38), .val (.ref b39), .unset] [(.int (2 : Int32))]))
    refine own_fwd (fun t k => XS.iconst X45.here hx rfl (hb hby at_53) k) ?_
    show own_R p.tables e below P (T45.setTop (mkF m 54 #[.val (.long p0), .second, .val (.long p1), .second, .val (.long p2), .second, .val (.long p3), .second, .val (.long p4), .second, .val (.int p5), .val (.int (2 : Int32)), .val (.ref b38), .val (.ref b39), .unset] [(.int (2 : Int32)), (.int (2 : Int32))]))
    have hc46 : ¬ ((2 : Int32) < (2 : Int32)) := (by decide)
    refine own_fwd (fun t k => XS.icmpYes X45.here hx rfl (pc0 := 54) (pc' := 69) rfl (hb hby at_54) rfl (flt hc46).2.2.2 (by decide) (by decide) k) ?_
    show own_R p.tables e below P (T45.setTop (mkF m 69 #[.val (.long p0), .second, .val (.long p1), .second, .val (.long p2), .second, .val (.long p3), .second, .val (.long p4), .second, .val (.int p5), .val (.int (2 : Int32)), .val (.ref b38), .val (.ref b39), .unset] []))
    refine own_fwd (fun t k => XS.iload X45.here hx rfl (hb hby at_69) rfl k) ?_
    show own_R p.tables e below P (T45.setTop (mkF m 71 #[.val (.long p0), .second, .val (.long p1), .second, .val (.long p2), .second, .val (.long p3), .second, .val (.long p4), .second, .val (.int p5), .val (.int (2 : Int32)), .val (.ref b38), .val (.ref b39), .unset] [(.int (2 : Int32))]))
    refine own_fwd (fun t k => XS.iconst X45.here hx rfl (hb hby at_71) k) ?_
    show own_R p.tables e below P (T45.setTop (mkF m 72 #[.val (.long p0), .second, .val (.long p1), .second, .val (.long p2), .second, .val (.long p3), .second, .val (.long p4), .second, .val (.int p5), .val (.int (2 : Int32)), .val (.ref b38), .val (.ref b39), .unset] [(.int (1 : Int32)), (.int (2 : Int32))]))
    have hc47 : ¬ ((2 : Int32) < (1 : Int32)) := (by decide)
    refine own_fwd (fun t k => XS.icmpNo X45.here hx rfl (hb hby at_72) rfl (flt hc47).1 k) ?_
    show own_R p.tables e below P (T45.setTop (mkF m 75 #[.val (.long p0), .second, .val (.long p1), .second, .val (.long p2), .second, .val (.long p3), .second, .val (.long p4), .second, .val (.int p5), .val (.int (2 : Int32)), .val (.ref b38), .val (.ref b39), .unset] []))
    refine own_fwd (fun t k => XS.lloadN X45.here hx rfl (hb hby at_75) rfl k) ?_
    show own_R p.tables e below P (T45.setTop (mkF m 76 #[.val (.long p0), .second, .val (.long p1), .second, .val (.long p2), .second, .val (.long p3), .second, .val (.long p4), .second, .val (.int p5), .val (.int (2 : Int32)), .val (.ref b38), .val (.ref b39), .unset] [(.long p0)]))
    refine own_fwd (fun t k => XS.lload X45.here hx rfl (hb hby at_76) rfl k) ?_
    show own_R p.tables e below P (T45.setTop (mkF m 78 #[.val (.long p0), .second, .val (.long p1), .second, .val (.long p2), .second, .val (.long p3), .second, .val (.long p4), .second, .val (.int p5), .val (.int (2 : Int32)), .val (.ref b38), .val (.ref b39), .unset] [(.long p2), (.long p0)]))
    refine own_fwd (fun t k => XS.lcmp X45.here hx rfl (hb hby at_78) rfl k) ?_
    show own_R p.tables e below P (T45.setTop (mkF m 79 #[.val (.long p0), .second, .val (.long p1), .second, .val (.long p2), .second, .val (.long p3), .second, .val (.long p4), .second, .val (.int p5), .val (.int (2 : Int32)), .val (.ref b38), .val (.ref b39), .unset] [(.int (lcmpW p0 p2))]))
    by_cases hc48 : (lcmpW p0 p2) < (0 : Int32)
    · refine own_fwd (fun t k => XS.ifYes X45.here hx rfl (pc0 := 79) (pc' := 113) rfl (hb hby at_79) rfl ((if0 _ _).trans (tlt hc48).1) (by decide) (by decide) k) ?_
      show own_R p.tables e below P (T45.setTop (mkF m 113 #[.val (.long p0), .second, .val (.long p1), .second, .val (.long p2), .second, .val (.long p3), .second, .val (.long p4), .second, .val (.int p5), .val (.int (2 : Int32)), .val (.ref b38), .val (.ref b39), .unset] []))
      refine own_fwd (fun t k => XS.iconst X45.here hx rfl (hb hby at_113) k) ?_
      show own_R p.tables e below P (T45.setTop (mkF m 114 #[.val (.long p0), .second, .val (.long p1), .second, .val (.long p2), .second, .val (.long p3), .second, .val (.long p4), .second, .val (.int p5), .val (.int (2 : Int32)), .val (.ref b38), .val (.ref b39), .unset] [(.int (0 : Int32))]))
      refine own_fwd (fun t k => XS.istore X45.here hx rfl (hb hby at_114) rfl (l' := #[.val (.long p0), .second, .val (.long p1), .second, .val (.long p2), .second, .val (.long p3), .second, .val (.long p4), .second, .val (.int p5), .val (.int (2 : Int32)), .val (.ref b38), .val (.ref b39), .val (.int (0 : Int32))]) rfl k) ?_
      show own_R p.tables e below P (T45.setTop (mkF m 116 #[.val (.long p0), .second, .val (.long p1), .second, .val (.long p2), .second, .val (.long p3), .second, .val (.long p4), .second, .val (.int p5), .val (.int (2 : Int32)), .val (.ref b38), .val (.ref b39), .val (.int (0 : Int32))] []))
      refine own_fwd (fun t k => XS.aload X45.here hx rfl (hb hby at_116) rfl rfl k) ?_
      show own_R p.tables e below P (T45.setTop (mkF m 118 #[.val (.long p0), .second, .val (.long p1), .second, .val (.long p2), .second, .val (.long p3), .second, .val (.long p4), .second, .val (.int p5), .val (.int (2 : Int32)), .val (.ref b38), .val (.ref b39), .val (.int (0 : Int32))] [(.ref b38)]))
      refine own_fwd (fun t k => XS.aload X45.here hx rfl (hb hby at_118) rfl rfl k) ?_
      show own_R p.tables e below P (T45.setTop (mkF m 120 #[.val (.long p0), .second, .val (.long p1), .second, .val (.long p2), .second, .val (.long p3), .second, .val (.long p4), .second, .val (.int p5), .val (.int (2 : Int32)), .val (.ref b38), .val (.ref b39), .val (.int (0 : Int32))] [(.ref b39), (.ref b38)]))
      obtain ⟨_, _, ⟨T49, L49, k49, n49⟩, -, X49, ⟨Lc49, hQ49, l49, y49, z49⟩, st49⟩ := Jvm.LawKit.callS X45 hx (y := (⟨"com/example/physalia/physalia/model/Marking", "covers", "([J[J)Z"⟩ : MethodName)) hown (mvT hZ (hw _ (List.mem_of_getElem? (i := 1) rfl))) (mvT hZ (hw _ (List.mem_of_getElem? (i := 2) rfl))) (mvT hZ (hw _ (List.mem_of_getElem? (i := 3) rfl))) (mvT hZ (hw _ (List.mem_of_getElem? (i := 4) rfl))) (by decide) (backOf (W := 0) (own_rm1 l Z a0 hw [] b38 b39 2 (own_upd (own_upd (fun _ => (0 : Int64)) 0 p0) 1 p1) (own_upd (own_upd (fun _ => (0 : Int64)) 0 p2) 1 p3) h45 n0 Z45 A44__x45 A45_) hZ (hw _ (List.mem_of_getElem? (i := 4) rfl)) (hw _ (List.mem_of_getElem? (i := 3) rfl)) (by decide) (by decide)) (g := (mkF m 120 #[.val (.long p0), .second, .val (.long p1), .second, .val (.long p2), .second, .val (.long p3), .second, .val (.long p4), .second, .val (.int p5), .val (.int (2 : Int32)), .val (.ref b38), .val (.ref b39), .val (.int (0 : Int32))] [(.ref b39), (.ref b38)])) rfl (by rw [hml]; rfl) (argsL := [(.ref b38), (.ref b39)]) (rest := []) (lenOf own_pd1 rfl) rfl (by show 2 * 0 + _ ≤ _; exact Nat.le_of_eq rfl) (hb hby at_120) (fun _ _ => ⟨rfl, e45, (by decide : 2 + 0 ≤ _), (by decide : 4 + 0 ≤ _)⟩)
      dsimp only [Pt.U, Pt.locs, Pt.cells, Pt.slots] at X49 l49 y49 z49 st49 hQ49
      subst l49 y49 z49
      obtain ⟨h49, e49⟩ : ∃ z, T49.heap = z := ⟨_, rfl⟩
      rw [e49] at hQ49
      obtain ⟨r49, hq49, N49q, q49, hR⟩ := hQ49
      rw [q49] at e49
      subst hq49
      have N49 := Fr.app N45 N49q
      refine own_fwd st49 ?_
      show own_R p.tables e below P (T49.setTop (mkF m 123 #[.val (.long p0), .second, .val (.long p1), .second, .val (.long p2), .second, .val (.long p3), .second, .val (.long p4), .second, .val (.int p5), .val (.int (2 : Int32)), .val (.ref b38), .val (.ref b39), .val (.int (0 : Int32))] [(.int r49)]))
      refine own_fwd (fun t k => XS.iload X49.here hx rfl (hb hby at_123) rfl k) ?_
      show own_R p.tables e below P (T49.setTop (mkF m 125 #[.val (.long p0), .second, .val (.long p1), .second, .val (.long p2), .second, .val (.long p3), .second, .val (.long p4), .second, .val (.int p5), .val (.int (2 : Int32)), .val (.ref b38), .val (.ref b39), .val (.int (0 : Int32))] [(.int (0 : Int32)), (.int r49)]))
      have hc50 : r49 = (0 : Int32) := by
        rcases hR with ⟨h1, h2⟩ | ⟨h1, i, hi, h2⟩
        · exact absurd ((lw_lt _ _).mp hc48) (h2 0 (by decide))
        · exact h1
      refine own_fwd (fun t k => XS.icmpNo X49.here hx rfl (hb hby at_125) rfl (teq hc50).2 k) ?_
      show own_R p.tables e below P (T49.setTop (mkF m 128 #[.val (.long p0), .second, .val (.long p1), .second, .val (.long p2), .second, .val (.long p3), .second, .val (.long p4), .second, .val (.int p5), .val (.int (2 : Int32)), .val (.ref b38), .val (.ref b39), .val (.int (0 : Int32))] []))
      refine own_fwd (fun t k => XS.iconst X49.here hx rfl (hb hby at_128) k) ?_
      show own_R p.tables e below P (T49.setTop (mkF m 129 #[.val (.long p0), .second, .val (.long p1), .second, .val (.long p2), .second, .val (.long p3), .second, .val (.long p4), .second, .val (.int p5), .val (.int (2 : Int32)), .val (.ref b38), .val (.ref b39), .val (.int (0 : Int32))] [(.int (1 : Int32))]))
      refine own_fwd (fun t k => XS.goto X49.here hx rfl (pc0 := 129) (pc' := 133) rfl (hb hby at_129) (by decide) (by decide) k) ?_
      show own_R p.tables e below P (T49.setTop (mkF m 133 #[.val (.long p0), .second, .val (.long p1), .second, .val (.long p2), .second, .val (.long p3), .second, .val (.long p4), .second, .val (.int p5), .val (.int (2 : Int32)), .val (.ref b38), .val (.ref b39), .val (.int (0 : Int32))] [(.int (1 : Int32))]))
      obtain ⟨fs51, hr51, hrun51, hended51, hW51, hsame51⟩ := X49.leave (v := some (.int (1 : Int32))) (fun h => by rw [Bd.returns] at h; cases h)
      refine ⟨_, _, X49.ireturnOut hx (w := (1 : Int32)) Bd.returns rfl (by simp) (hb hby at_133) hr51, fin _ _ ⟨hrun51, hended51, _, _, rfl, ?_, ⟨_, rfl⟩, hW51, hsame51.mono (by decide) (by decide)⟩⟩
      show own_Qlaw Z p0 p1 p2 p3 p4 p5 h0 n0 _ T49.heap _
      rw [e49]
      exact ⟨rfl, N49⟩
    · refine own_fwd (fun t k => XS.ifNo X45.here hx rfl (hb hby at_79) rfl ((if0 _ _).trans (flt hc48).1) k) ?_
      show own_R p.tables e below P (T45.setTop (mkF m 82 #[.val (.long p0), .second, .val (.long p1), .second, .val (.long p2), .second, .val (.long p3), .second, .val (.long p4), .second, .val (.int p5), .val (.int (2 : Int32)), .val (.ref b38), .val (.ref b39), .unset] []))
      refine own_fwd (fun t k => XS.iload X45.here hx rfl (hb hby at_82) rfl k) ?_
      show own_R p.tables e below P (T45.setTop (mkF m 84 #[.val (.long p0), .second, .val (.long p1), .second, .val (.long p2), .second, .val (.long p3), .second, .val (.long p4), .second, .val (.int p5), .val (.int (2 : Int32)), .val (.ref b38), .val (.ref b39), .unset] [(.int (2 : Int32))]))
      refine own_fwd (fun t k => XS.iconst X45.here hx rfl (hb hby at_84) k) ?_
      show own_R p.tables e below P (T45.setTop (mkF m 85 #[.val (.long p0), .second, .val (.long p1), .second, .val (.long p2), .second, .val (.long p3), .second, .val (.long p4), .second, .val (.int p5), .val (.int (2 : Int32)), .val (.ref b38), .val (.ref b39), .unset] [(.int (2 : Int32)), (.int (2 : Int32))]))
      have hc52 : ¬ ((2 : Int32) < (2 : Int32)) := (by decide)
      refine own_fwd (fun t k => XS.icmpNo X45.here hx rfl (hb hby at_85) rfl (flt hc52).1 k) ?_
      show own_R p.tables e below P (T45.setTop (mkF m 88 #[.val (.long p0), .second, .val (.long p1), .second, .val (.long p2), .second, .val (.long p3), .second, .val (.long p4), .second, .val (.int p5), .val (.int (2 : Int32)), .val (.ref b38), .val (.ref b39), .unset] []))
      refine own_fwd (fun t k => XS.lloadN X45.here hx rfl (hb hby at_88) rfl k) ?_
      show own_R p.tables e below P (T45.setTop (mkF m 89 #[.val (.long p0), .second, .val (.long p1), .second, .val (.long p2), .second, .val (.long p3), .second, .val (.long p4), .second, .val (.int p5), .val (.int (2 : Int32)), .val (.ref b38), .val (.ref b39), .unset] [(.long p1)]))
      refine own_fwd (fun t k => XS.lload X45.here hx rfl (hb hby at_89) rfl k) ?_
      show own_R p.tables e below P (T45.setTop (mkF m 91 #[.val (.long p0), .second, .val (.long p1), .second, .val (.long p2), .second, .val (.long p3), .second, .val (.long p4), .second, .val (.int p5), .val (.int (2 : Int32)), .val (.ref b38), .val (.ref b39), .unset] [(.long p3), (.long p1)]))
      refine own_fwd (fun t k => XS.lcmp X45.here hx rfl (hb hby at_91) rfl k) ?_
      show own_R p.tables e below P (T45.setTop (mkF m 92 #[.val (.long p0), .second, .val (.long p1), .second, .val (.long p2), .second, .val (.long p3), .second, .val (.long p4), .second, .val (.int p5), .val (.int (2 : Int32)), .val (.ref b38), .val (.ref b39), .unset] [(.int (lcmpW p1 p3))]))
      by_cases hc53 : (lcmpW p1 p3) < (0 : Int32)
      · refine own_fwd (fun t k => XS.ifYes X45.here hx rfl (pc0 := 92) (pc' := 113) rfl (hb hby at_92) rfl ((if0 _ _).trans (tlt hc53).1) (by decide) (by decide) k) ?_
        show own_R p.tables e below P (T45.setTop (mkF m 113 #[.val (.long p0), .second, .val (.long p1), .second, .val (.long p2), .second, .val (.long p3), .second, .val (.long p4), .second, .val (.int p5), .val (.int (2 : Int32)), .val (.ref b38), .val (.ref b39), .unset] []))
        refine own_fwd (fun t k => XS.iconst X45.here hx rfl (hb hby at_113) k) ?_
        show own_R p.tables e below P (T45.setTop (mkF m 114 #[.val (.long p0), .second, .val (.long p1), .second, .val (.long p2), .second, .val (.long p3), .second, .val (.long p4), .second, .val (.int p5), .val (.int (2 : Int32)), .val (.ref b38), .val (.ref b39), .unset] [(.int (0 : Int32))]))
        refine own_fwd (fun t k => XS.istore X45.here hx rfl (hb hby at_114) rfl (l' := #[.val (.long p0), .second, .val (.long p1), .second, .val (.long p2), .second, .val (.long p3), .second, .val (.long p4), .second, .val (.int p5), .val (.int (2 : Int32)), .val (.ref b38), .val (.ref b39), .val (.int (0 : Int32))]) rfl k) ?_
        show own_R p.tables e below P (T45.setTop (mkF m 116 #[.val (.long p0), .second, .val (.long p1), .second, .val (.long p2), .second, .val (.long p3), .second, .val (.long p4), .second, .val (.int p5), .val (.int (2 : Int32)), .val (.ref b38), .val (.ref b39), .val (.int (0 : Int32))] []))
        refine own_fwd (fun t k => XS.aload X45.here hx rfl (hb hby at_116) rfl rfl k) ?_
        show own_R p.tables e below P (T45.setTop (mkF m 118 #[.val (.long p0), .second, .val (.long p1), .second, .val (.long p2), .second, .val (.long p3), .second, .val (.long p4), .second, .val (.int p5), .val (.int (2 : Int32)), .val (.ref b38), .val (.ref b39), .val (.int (0 : Int32))] [(.ref b38)]))
        refine own_fwd (fun t k => XS.aload X45.here hx rfl (hb hby at_118) rfl rfl k) ?_
        show own_R p.tables e below P (T45.setTop (mkF m 120 #[.val (.long p0), .second, .val (.long p1), .second, .val (.long p2), .second, .val (.long p3), .second, .val (.long p4), .second, .val (.int p5), .val (.int (2 : Int32)), .val (.ref b38), .val (.ref b39), .val (.int (0 : Int32))] [(.ref b39), (.ref b38)]))
        obtain ⟨_, _, ⟨T54, L54, k54, n54⟩, -, X54, ⟨Lc54, hQ54, l54, y54, z54⟩, st54⟩ := Jvm.LawKit.callS X45 hx (y := (⟨"com/example/physalia/physalia/model/Marking", "covers", "([J[J)Z"⟩ : MethodName)) hown (mvT hZ (hw _ (List.mem_of_getElem? (i := 1) rfl))) (mvT hZ (hw _ (List.mem_of_getElem? (i := 2) rfl))) (mvT hZ (hw _ (List.mem_of_getElem? (i := 3) rfl))) (mvT hZ (hw _ (List.mem_of_getElem? (i := 4) rfl))) (by decide) (backOf (W := 0) (own_rm1 l Z a0 hw [] b38 b39 2 (own_upd (own_upd (fun _ => (0 : Int64)) 0 p0) 1 p1) (own_upd (own_upd (fun _ => (0 : Int64)) 0 p2) 1 p3) h45 n0 Z45 A44__x45 A45_) hZ (hw _ (List.mem_of_getElem? (i := 4) rfl)) (hw _ (List.mem_of_getElem? (i := 3) rfl)) (by decide) (by decide)) (g := (mkF m 120 #[.val (.long p0), .second, .val (.long p1), .second, .val (.long p2), .second, .val (.long p3), .second, .val (.long p4), .second, .val (.int p5), .val (.int (2 : Int32)), .val (.ref b38), .val (.ref b39), .val (.int (0 : Int32))] [(.ref b39), (.ref b38)])) rfl (by rw [hml]; rfl) (argsL := [(.ref b38), (.ref b39)]) (rest := []) (lenOf own_pd1 rfl) rfl (by show 2 * 0 + _ ≤ _; exact Nat.le_of_eq rfl) (hb hby at_120) (fun _ _ => ⟨rfl, e45, (by decide : 2 + 0 ≤ _), (by decide : 4 + 0 ≤ _)⟩)
        dsimp only [Pt.U, Pt.locs, Pt.cells, Pt.slots] at X54 l54 y54 z54 st54 hQ54
        subst l54 y54 z54
        obtain ⟨h54, e54⟩ : ∃ z, T54.heap = z := ⟨_, rfl⟩
        rw [e54] at hQ54
        obtain ⟨r54, hq54, N54q, q54, hR⟩ := hQ54
        rw [q54] at e54
        subst hq54
        have N54 := Fr.app N45 N54q
        refine own_fwd st54 ?_
        show own_R p.tables e below P (T54.setTop (mkF m 123 #[.val (.long p0), .second, .val (.long p1), .second, .val (.long p2), .second, .val (.long p3), .second, .val (.long p4), .second, .val (.int p5), .val (.int (2 : Int32)), .val (.ref b38), .val (.ref b39), .val (.int (0 : Int32))] [(.int r54)]))
        refine own_fwd (fun t k => XS.iload X54.here hx rfl (hb hby at_123) rfl k) ?_
        show own_R p.tables e below P (T54.setTop (mkF m 125 #[.val (.long p0), .second, .val (.long p1), .second, .val (.long p2), .second, .val (.long p3), .second, .val (.long p4), .second, .val (.int p5), .val (.int (2 : Int32)), .val (.ref b38), .val (.ref b39), .val (.int (0 : Int32))] [(.int (0 : Int32)), (.int r54)]))
        have hc55 : r54 = (0 : Int32) := by
          rcases hR with ⟨h1, h2⟩ | ⟨h1, i, hi, h2⟩
          · exact absurd ((lw_lt _ _).mp hc53) (h2 1 (by decide))
          · exact h1
        refine own_fwd (fun t k => XS.icmpNo X54.here hx rfl (hb hby at_125) rfl (teq hc55).2 k) ?_
        show own_R p.tables e below P (T54.setTop (mkF m 128 #[.val (.long p0), .second, .val (.long p1), .second, .val (.long p2), .second, .val (.long p3), .second, .val (.long p4), .second, .val (.int p5), .val (.int (2 : Int32)), .val (.ref b38), .val (.ref b39), .val (.int (0 : Int32))] []))
        refine own_fwd (fun t k => XS.iconst X54.here hx rfl (hb hby at_128) k) ?_
        show own_R p.tables e below P (T54.setTop (mkF m 129 #[.val (.long p0), .second, .val (.long p1), .second, .val (.long p2), .second, .val (.long p3), .second, .val (.long p4), .second, .val (.int p5), .val (.int (2 : Int32)), .val (.ref b38), .val (.ref b39), .val (.int (0 : Int32))] [(.int (1 : Int32))]))
        refine own_fwd (fun t k => XS.goto X54.here hx rfl (pc0 := 129) (pc' := 133) rfl (hb hby at_129) (by decide) (by decide) k) ?_
        show own_R p.tables e below P (T54.setTop (mkF m 133 #[.val (.long p0), .second, .val (.long p1), .second, .val (.long p2), .second, .val (.long p3), .second, .val (.long p4), .second, .val (.int p5), .val (.int (2 : Int32)), .val (.ref b38), .val (.ref b39), .val (.int (0 : Int32))] [(.int (1 : Int32))]))
        obtain ⟨fs56, hr56, hrun56, hended56, hW56, hsame56⟩ := X54.leave (v := some (.int (1 : Int32))) (fun h => by rw [Bd.returns] at h; cases h)
        refine ⟨_, _, X54.ireturnOut hx (w := (1 : Int32)) Bd.returns rfl (by simp) (hb hby at_133) hr56, fin _ _ ⟨hrun56, hended56, _, _, rfl, ?_, ⟨_, rfl⟩, hW56, hsame56.mono (by decide) (by decide)⟩⟩
        show own_Qlaw Z p0 p1 p2 p3 p4 p5 h0 n0 _ T54.heap _
        rw [e54]
        exact ⟨rfl, N54⟩
      · refine own_fwd (fun t k => XS.ifNo X45.here hx rfl (hb hby at_92) rfl ((if0 _ _).trans (flt hc53).1) k) ?_
        show own_R p.tables e below P (T45.setTop (mkF m 95 #[.val (.long p0), .second, .val (.long p1), .second, .val (.long p2), .second, .val (.long p3), .second, .val (.long p4), .second, .val (.int p5), .val (.int (2 : Int32)), .val (.ref b38), .val (.ref b39), .unset] []))
        refine own_fwd (fun t k => XS.iload X45.here hx rfl (hb hby at_95) rfl k) ?_
        show own_R p.tables e below P (T45.setTop (mkF m 97 #[.val (.long p0), .second, .val (.long p1), .second, .val (.long p2), .second, .val (.long p3), .second, .val (.long p4), .second, .val (.int p5), .val (.int (2 : Int32)), .val (.ref b38), .val (.ref b39), .unset] [(.int (2 : Int32))]))
        refine own_fwd (fun t k => XS.iconst X45.here hx rfl (hb hby at_97) k) ?_
        show own_R p.tables e below P (T45.setTop (mkF m 98 #[.val (.long p0), .second, .val (.long p1), .second, .val (.long p2), .second, .val (.long p3), .second, .val (.long p4), .second, .val (.int p5), .val (.int (2 : Int32)), .val (.ref b38), .val (.ref b39), .unset] [(.int (3 : Int32)), (.int (2 : Int32))]))
        have hc57 : (2 : Int32) < (3 : Int32) := (by decide)
        refine own_fwd (fun t k => XS.icmpYes X45.here hx rfl (pc0 := 98) (pc' := 109) rfl (hb hby at_98) rfl (tlt hc57).1 (by decide) (by decide) k) ?_
        show own_R p.tables e below P (T45.setTop (mkF m 109 #[.val (.long p0), .second, .val (.long p1), .second, .val (.long p2), .second, .val (.long p3), .second, .val (.long p4), .second, .val (.int p5), .val (.int (2 : Int32)), .val (.ref b38), .val (.ref b39), .unset] []))
        refine own_fwd (fun t k => XS.iconst X45.here hx rfl (hb hby at_109) k) ?_
        show own_R p.tables e below P (T45.setTop (mkF m 110 #[.val (.long p0), .second, .val (.long p1), .second, .val (.long p2), .second, .val (.long p3), .second, .val (.long p4), .second, .val (.int p5), .val (.int (2 : Int32)), .val (.ref b38), .val (.ref b39), .unset] [(.int (1 : Int32))]))
        refine own_fwd (fun t k => XS.goto X45.here hx rfl (pc0 := 110) (pc' := 114) rfl (hb hby at_110) (by decide) (by decide) k) ?_
        show own_R p.tables e below P (T45.setTop (mkF m 114 #[.val (.long p0), .second, .val (.long p1), .second, .val (.long p2), .second, .val (.long p3), .second, .val (.long p4), .second, .val (.int p5), .val (.int (2 : Int32)), .val (.ref b38), .val (.ref b39), .unset] [(.int (1 : Int32))]))
        refine own_fwd (fun t k => XS.istore X45.here hx rfl (hb hby at_114) rfl (l' := #[.val (.long p0), .second, .val (.long p1), .second, .val (.long p2), .second, .val (.long p3), .second, .val (.long p4), .second, .val (.int p5), .val (.int (2 : Int32)), .val (.ref b38), .val (.ref b39), .val (.int (1 : Int32))]) rfl k) ?_
        show own_R p.tables e below P (T45.setTop (mkF m 116 #[.val (.long p0), .second, .val (.long p1), .second, .val (.long p2), .second, .val (.long p3), .second, .val (.long p4), .second, .val (.int p5), .val (.int (2 : Int32)), .val (.ref b38), .val (.ref b39), .val (.int (1 : Int32))] []))
        refine own_fwd (fun t k => XS.aload X45.here hx rfl (hb hby at_116) rfl rfl k) ?_
        show own_R p.tables e below P (T45.setTop (mkF m 118 #[.val (.long p0), .second, .val (.long p1), .second, .val (.long p2), .second, .val (.long p3), .second, .val (.long p4), .second, .val (.int p5), .val (.int (2 : Int32)), .val (.ref b38), .val (.ref b39), .val (.int (1 : Int32))] [(.ref b38)]))
        refine own_fwd (fun t k => XS.aload X45.here hx rfl (hb hby at_118) rfl rfl k) ?_
        show own_R p.tables e below P (T45.setTop (mkF m 120 #[.val (.long p0), .second, .val (.long p1), .second, .val (.long p2), .second, .val (.long p3), .second, .val (.long p4), .second, .val (.int p5), .val (.int (2 : Int32)), .val (.ref b38), .val (.ref b39), .val (.int (1 : Int32))] [(.ref b39), (.ref b38)]))
        obtain ⟨_, _, ⟨T58, L58, k58, n58⟩, -, X58, ⟨Lc58, hQ58, l58, y58, z58⟩, st58⟩ := Jvm.LawKit.callS X45 hx (y := (⟨"com/example/physalia/physalia/model/Marking", "covers", "([J[J)Z"⟩ : MethodName)) hown (mvT hZ (hw _ (List.mem_of_getElem? (i := 1) rfl))) (mvT hZ (hw _ (List.mem_of_getElem? (i := 2) rfl))) (mvT hZ (hw _ (List.mem_of_getElem? (i := 3) rfl))) (mvT hZ (hw _ (List.mem_of_getElem? (i := 4) rfl))) (by decide) (backOf (W := 0) (own_rm1 l Z a0 hw [] b38 b39 2 (own_upd (own_upd (fun _ => (0 : Int64)) 0 p0) 1 p1) (own_upd (own_upd (fun _ => (0 : Int64)) 0 p2) 1 p3) h45 n0 Z45 A44__x45 A45_) hZ (hw _ (List.mem_of_getElem? (i := 4) rfl)) (hw _ (List.mem_of_getElem? (i := 3) rfl)) (by decide) (by decide)) (g := (mkF m 120 #[.val (.long p0), .second, .val (.long p1), .second, .val (.long p2), .second, .val (.long p3), .second, .val (.long p4), .second, .val (.int p5), .val (.int (2 : Int32)), .val (.ref b38), .val (.ref b39), .val (.int (1 : Int32))] [(.ref b39), (.ref b38)])) rfl (by rw [hml]; rfl) (argsL := [(.ref b38), (.ref b39)]) (rest := []) (lenOf own_pd1 rfl) rfl (by show 2 * 0 + _ ≤ _; exact Nat.le_of_eq rfl) (hb hby at_120) (fun _ _ => ⟨rfl, e45, (by decide : 2 + 0 ≤ _), (by decide : 4 + 0 ≤ _)⟩)
        dsimp only [Pt.U, Pt.locs, Pt.cells, Pt.slots] at X58 l58 y58 z58 st58 hQ58
        subst l58 y58 z58
        obtain ⟨h58, e58⟩ : ∃ z, T58.heap = z := ⟨_, rfl⟩
        rw [e58] at hQ58
        obtain ⟨r58, hq58, N58q, q58, hR⟩ := hQ58
        rw [q58] at e58
        subst hq58
        have N58 := Fr.app N45 N58q
        refine own_fwd st58 ?_
        show own_R p.tables e below P (T58.setTop (mkF m 123 #[.val (.long p0), .second, .val (.long p1), .second, .val (.long p2), .second, .val (.long p3), .second, .val (.long p4), .second, .val (.int p5), .val (.int (2 : Int32)), .val (.ref b38), .val (.ref b39), .val (.int (1 : Int32))] [(.int r58)]))
        refine own_fwd (fun t k => XS.iload X58.here hx rfl (hb hby at_123) rfl k) ?_
        show own_R p.tables e below P (T58.setTop (mkF m 125 #[.val (.long p0), .second, .val (.long p1), .second, .val (.long p2), .second, .val (.long p3), .second, .val (.long p4), .second, .val (.int p5), .val (.int (2 : Int32)), .val (.ref b38), .val (.ref b39), .val (.int (1 : Int32))] [(.int (1 : Int32)), (.int r58)]))
        have hc59 : r58 = (1 : Int32) := by
          rcases hR with ⟨h1, h2⟩ | ⟨h1, i, hi, h2⟩
          · exact h1
          · exfalso
            rcases (by omega : i = 0 ∨ i = 1) with rfl | rfl
            · exact hc48 ((lw_lt _ _).mpr h2)
            · exact hc53 ((lw_lt _ _).mpr h2)
        refine own_fwd (fun t k => XS.icmpNo X58.here hx rfl (hb hby at_125) rfl (teq hc59).2 k) ?_
        show own_R p.tables e below P (T58.setTop (mkF m 128 #[.val (.long p0), .second, .val (.long p1), .second, .val (.long p2), .second, .val (.long p3), .second, .val (.long p4), .second, .val (.int p5), .val (.int (2 : Int32)), .val (.ref b38), .val (.ref b39), .val (.int (1 : Int32))] []))
        refine own_fwd (fun t k => XS.iconst X58.here hx rfl (hb hby at_128) k) ?_
        show own_R p.tables e below P (T58.setTop (mkF m 129 #[.val (.long p0), .second, .val (.long p1), .second, .val (.long p2), .second, .val (.long p3), .second, .val (.long p4), .second, .val (.int p5), .val (.int (2 : Int32)), .val (.ref b38), .val (.ref b39), .val (.int (1 : Int32))] [(.int (1 : Int32))]))
        refine own_fwd (fun t k => XS.goto X58.here hx rfl (pc0 := 129) (pc' := 133) rfl (hb hby at_129) (by decide) (by decide) k) ?_
        show own_R p.tables e below P (T58.setTop (mkF m 133 #[.val (.long p0), .second, .val (.long p1), .second, .val (.long p2), .second, .val (.long p3), .second, .val (.long p4), .second, .val (.int p5), .val (.int (2 : Int32)), .val (.ref b38), .val (.ref b39), .val (.int (1 : Int32))] [(.int (1 : Int32))]))
        obtain ⟨fs60, hr60, hrun60, hended60, hW60, hsame60⟩ := X58.leave (v := some (.int (1 : Int32))) (fun h => by rw [Bd.returns] at h; cases h)
        refine ⟨_, _, X58.ireturnOut hx (w := (1 : Int32)) Bd.returns rfl (by simp) (hb hby at_133) hr60, fin _ _ ⟨hrun60, hended60, _, _, rfl, ?_, ⟨_, rfl⟩, hW60, hsame60.mono (by decide) (by decide)⟩⟩
        show own_Qlaw Z p0 p1 p2 p3 p4 p5 h0 n0 _ T58.heap _
        rw [e58]
        exact ⟨rfl, N58⟩
  · rw [hs]
    show own_R p.tables e below P (s₁.setTop (mkF m 4 #[.val (.long p0), .second, .val (.long p1), .second, .val (.long p2), .second, .val (.long p3), .second, .val (.long p4), .second, .val (.int p5), .unset, .unset, .unset, .unset] [(.int (3 : Int32))]))
    refine own_fwd (fun t k => XS.istore X0.here hx rfl (hb hby at_4) rfl (l' := #[.val (.long p0), .second, .val (.long p1), .second, .val (.long p2), .second, .val (.long p3), .second, .val (.long p4), .second, .val (.int p5), .val (.int (3 : Int32)), .unset, .unset, .unset]) rfl k) ?_
    show own_R p.tables e below P (s₁.setTop (mkF m 6 #[.val (.long p0), .second, .val (.long p1), .second, .val (.long p2), .second, .val (.long p3), .second, .val (.long p4), .second, .val (.int p5), .val (.int (3 : Int32)), .unset, .unset, .unset] []))
    refine own_fwd (fun t k => XS.iload X0.here hx rfl (hb hby at_6) rfl k) ?_
    show own_R p.tables e below P (s₁.setTop (mkF m 8 #[.val (.long p0), .second, .val (.long p1), .second, .val (.long p2), .second, .val (.long p3), .second, .val (.long p4), .second, .val (.int p5), .val (.int (3 : Int32)), .unset, .unset, .unset] [(.int (3 : Int32))]))
    obtain ⟨T61, h61, b61, g61, X61, e61, E61, A61, B61, st61⟩ := own_newA (n := 3) X0 hx hZ (hw _ (List.mem_of_getElem? (i := 0) rfl)) e0 (z := (3 : Int32)) (by decide) (cap := 3) (by decide) (g := (mkF m 8 #[.val (.long p0), .second, .val (.long p1), .second, .val (.long p2), .second, .val (.long p3), .second, .val (.long p4), .second, .val (.int p5), .val (.int (3 : Int32)), .unset, .unset, .unset] [(.int (3 : Int32))])) rfl (hb hby at_8) rfl (by decide) (by decide) (by decide) (ad := "[J") (by decide)
    have ge_b61 : n0 ≤ b61 := by rw [g61]; exact Z0
    have sz_b61 : h0.size ≤ b61 := by rw [g61]; exact (Nat.le_refl h0.size)
    have A61_ : own_AJ Z h61 b61 3 (fun _ => (0 : Int64)) := A61
    have Z61 : n0 ≤ h61.size := Nat.le_trans Z0 E61.1
    have Y61 : h0.size ≤ h61.size := Nat.le_trans (Nat.le_refl h0.size) E61.1
    refine own_fwd st61 ?_
    show own_R p.tables e below P (T61.setTop (mkF m 10 #[.val (.long p0), .second, .val (.long p1), .second, .val (.long p2), .second, .val (.long p3), .second, .val (.long p4), .second, .val (.int p5), .val (.int (3 : Int32)), .unset, .unset, .unset] [(.ref b61)]))
    refine own_fwd (fun t k => XS.astore X61.here hx rfl (hb hby at_10) rfl rfl (l' := #[.val (.long p0), .second, .val (.long p1), .second, .val (.long p2), .second, .val (.long p3), .second, .val (.long p4), .second, .val (.int p5), .val (.int (3 : Int32)), .val (.ref b61), .unset, .unset]) rfl k) ?_
    show own_R p.tables e below P (T61.setTop (mkF m 12 #[.val (.long p0), .second, .val (.long p1), .second, .val (.long p2), .second, .val (.long p3), .second, .val (.long p4), .second, .val (.int p5), .val (.int (3 : Int32)), .val (.ref b61), .unset, .unset] []))
    refine own_fwd (fun t k => XS.iload X61.here hx rfl (hb hby at_12) rfl k) ?_
    show own_R p.tables e below P (T61.setTop (mkF m 14 #[.val (.long p0), .second, .val (.long p1), .second, .val (.long p2), .second, .val (.long p3), .second, .val (.long p4), .second, .val (.int p5), .val (.int (3 : Int32)), .val (.ref b61), .unset, .unset] [(.int (3 : Int32))]))
    obtain ⟨T62, h62, b62, g62, X62, e62, E62, A62, B62, st62⟩ := own_newA (n := 3) X61 hx hZ (hw _ (List.mem_of_getElem? (i := 0) rfl)) e61 (z := (3 : Int32)) (by decide) (cap := 3) (by decide) (g := (mkF m 14 #[.val (.long p0), .second, .val (.long p1), .second, .val (.long p2), .second, .val (.long p3), .second, .val (.long p4), .second, .val (.int p5), .val (.int (3 : Int32)), .val (.ref b61), .unset, .unset] [(.int (3 : Int32))])) rfl (hb hby at_14) rfl (by decide) (by decide) (by decide) (ad := "[J") (by decide)
    have ne62_b61 : b61 ≠ b62 := Nat.ne_of_lt (by rw [g62]; exact A61_.lt)
    have ge_b62 : n0 ≤ b62 := by rw [g62]; exact Z61
    have sz_b62 : h0.size ≤ b62 := by rw [g62]; exact Y61
    have A61__x62 := A61_.ext E62
    have B61_x62 := B61.ext E62
    have A62_ : own_AJ Z h62 b62 3 (fun _ => (0 : Int64)) := A62
    have Z62 : n0 ≤ h62.size := Nat.le_trans Z61 E62.1
    have Y62 : h0.size ≤ h62.size := Nat.le_trans Y61 E62.1
    refine own_fwd st62 ?_
    show own_R p.tables e below P (T62.setTop (mkF m 16 #[.val (.long p0), .second, .val (.long p1), .second, .val (.long p2), .second, .val (.long p3), .second, .val (.long p4), .second, .val (.int p5), .val (.int (3 : Int32)), .val (.ref b61), .unset, .unset] [(.ref b62)]))
    refine own_fwd (fun t k => XS.astore X62.here hx rfl (hb hby at_16) rfl rfl (l' := #[.val (.long p0), .second, .val (.long p1), .second, .val (.long p2), .second, .val (.long p3), .second, .val (.long p4), .second, .val (.int p5), .val (.int (3 : Int32)), .val (.ref b61), .val (.ref b62), .unset]) rfl k) ?_
    show own_R p.tables e below P (T62.setTop (mkF m 18 #[.val (.long p0), .second, .val (.long p1), .second, .val (.long p2), .second, .val (.long p3), .second, .val (.long p4), .second, .val (.int p5), .val (.int (3 : Int32)), .val (.ref b61), .val (.ref b62), .unset] []))
    refine own_fwd (fun t k => XS.iload X62.here hx rfl (hb hby at_18) rfl k) ?_
    show own_R p.tables e below P (T62.setTop (mkF m 20 #[.val (.long p0), .second, .val (.long p1), .second, .val (.long p2), .second, .val (.long p3), .second, .val (.long p4), .second, .val (.int p5), .val (.int (3 : Int32)), .val (.ref b61), .val (.ref b62), .unset] [(.int (3 : Int32))]))
    have hc63 : (0 : Int32) < (3 : Int32) := (by decide)
    refine own_fwd (fun t k => XS.ifNo X62.here hx rfl (hb hby at_20) rfl ((if0 _ _).trans (tlt hc63).2.2.2) k) ?_
    show own_R p.tables e below P (T62.setTop (mkF m 23 #[.val (.long p0), .second, .val (.long p1), .second, .val (.long p2), .second, .val (.long p3), .second, .val (.long p4), .second, .val (.int p5), .val (.int (3 : Int32)), .val (.ref b61), .val (.ref b62), .unset] []))
    refine own_fwd (fun t k => XS.aload X62.here hx rfl (hb hby at_23) rfl rfl k) ?_
    show own_R p.tables e below P (T62.setTop (mkF m 25 #[.val (.long p0), .second, .val (.long p1), .second, .val (.long p2), .second, .val (.long p3), .second, .val (.long p4), .second, .val (.int p5), .val (.int (3 : Int32)), .val (.ref b61), .val (.ref b62), .unset] [(.ref b61)]))
    refine own_fwd (fun t k => XS.iconst X62.here hx rfl (hb hby at_25) k) ?_
    show own_R p.tables e below P (T62.setTop (mkF m 26 #[.val (.long p0), .second, .val (.long p1), .second, .val (.long p2), .second, .val (.long p3), .second, .val (.long p4), .second, .val (.int p5), .val (.int (3 : Int32)), .val (.ref b61), .val (.ref b62), .unset] [(.int (0 : Int32)), (.ref b61)]))
    refine own_fwd (fun t k => XS.lloadN X62.here hx rfl (hb hby at_26) rfl k) ?_
    show own_R p.tables e below P (T62.setTop (mkF m 27 #[.val (.long p0), .second, .val (.long p1), .second, .val (.long p2), .second, .val (.long p3), .second, .val (.long p4), .second, .val (.int p5), .val (.int (3 : Int32)), .val (.ref b61), .val (.ref b62), .unset] [(.long p0), (.int (0 : Int32)), (.ref b61)]))
    obtain ⟨T64, h64, X64, e64, W64, A64_, st64⟩ := own_stJ X62 hx hZ e62 A61__x62 (j := (0 : Int32)) 0 (by decide) (by decide) (g := (mkF m 27 #[.val (.long p0), .second, .val (.long p1), .second, .val (.long p2), .second, .val (.long p3), .second, .val (.long p4), .second, .val (.int p5), .val (.int (3 : Int32)), .val (.ref b61), .val (.ref b62), .unset] [(.long p0), (.int (0 : Int32)), (.ref b61)])) rfl rfl (hb hby at_27)
    have B61_x64 := B61_x62.wr W64
    have A62__x64 := A62_.other W64 (Ne.symm ne62_b61)
    have B62_x64 := B62.wr W64
    have N64 := Fr.snoc X64 N0 ge_b61
    have Z64 : n0 ≤ h64.size := by rw [W64.size]; exact Z62
    have Y64 : h0.size ≤ h64.size := by rw [W64.size]; exact Y62
    refine own_fwd st64 ?_
    show own_R p.tables e below P (T64.setTop (mkF m 28 #[.val (.long p0), .second, .val (.long p1), .second, .val (.long p2), .second, .val (.long p3), .second, .val (.long p4), .second, .val (.int p5), .val (.int (3 : Int32)), .val (.ref b61), .val (.ref b62), .unset] []))
    refine own_fwd (fun t k => XS.aload X64.here hx rfl (hb hby at_28) rfl rfl k) ?_
    show own_R p.tables e below P (T64.setTop (mkF m 30 #[.val (.long p0), .second, .val (.long p1), .second, .val (.long p2), .second, .val (.long p3), .second, .val (.long p4), .second, .val (.int p5), .val (.int (3 : Int32)), .val (.ref b61), .val (.ref b62), .unset] [(.ref b62)]))
    refine own_fwd (fun t k => XS.iconst X64.here hx rfl (hb hby at_30) k) ?_
    show own_R p.tables e below P (T64.setTop (mkF m 31 #[.val (.long p0), .second, .val (.long p1), .second, .val (.long p2), .second, .val (.long p3), .second, .val (.long p4), .second, .val (.int p5), .val (.int (3 : Int32)), .val (.ref b61), .val (.ref b62), .unset] [(.int (0 : Int32)), (.ref b62)]))
    refine own_fwd (fun t k => XS.lload X64.here hx rfl (hb hby at_31) rfl k) ?_
    show own_R p.tables e below P (T64.setTop (mkF m 33 #[.val (.long p0), .second, .val (.long p1), .second, .val (.long p2), .second, .val (.long p3), .second, .val (.long p4), .second, .val (.int p5), .val (.int (3 : Int32)), .val (.ref b61), .val (.ref b62), .unset] [(.long p2), (.int (0 : Int32)), (.ref b62)]))
    obtain ⟨T65, h65, X65, e65, W65, A65_, st65⟩ := own_stJ X64 hx hZ e64 A62__x64 (j := (0 : Int32)) 0 (by decide) (by decide) (g := (mkF m 33 #[.val (.long p0), .second, .val (.long p1), .second, .val (.long p2), .second, .val (.long p3), .second, .val (.long p4), .second, .val (.int p5), .val (.int (3 : Int32)), .val (.ref b61), .val (.ref b62), .unset] [(.long p2), (.int (0 : Int32)), (.ref b62)])) rfl rfl (hb hby at_33)
    have A64__x65 := A64_.other W65 ne62_b61
    have B61_x65 := B61_x64.wr W65
    have B62_x65 := B62_x64.wr W65
    have N65 := Fr.snoc X65 N64 ge_b62
    have Z65 : n0 ≤ h65.size := by rw [W65.size]; exact Z64
    have Y65 : h0.size ≤ h65.size := by rw [W65.size]; exact Y64
    refine own_fwd st65 ?_
    show own_R p.tables e below P (T65.setTop (mkF m 34 #[.val (.long p0), .second, .val (.long p1), .second, .val (.long p2), .second, .val (.long p3), .second, .val (.long p4), .second, .val (.int p5), .val (.int (3 : Int32)), .val (.ref b61), .val (.ref b62), .unset] []))
    refine own_fwd (fun t k => XS.iload X65.here hx rfl (hb hby at_34) rfl k) ?_
    show own_R p.tables e below P (T65.setTop (mkF m 36 #[.val (.long p0), .second, .val (.long p1), .second, .val (.long p2), .second, .val (.long p3), .second, .val (.long p4), .second, .val (.int p5), .val (.int (3 : Int32)), .val (.ref b61), .val (.ref b62), .unset] [(.int (3 : Int32))]))
    refine own_fwd (fun t k => XS.iconst X65.here hx rfl (hb hby at_36) k) ?_
    show own_R p.tables e below P (T65.setTop (mkF m 37 #[.val (.long p0), .second, .val (.long p1), .second, .val (.long p2), .second, .val (.long p3), .second, .val (.long p4), .second, .val (.int p5), .val (.int (3 : Int32)), .val (.ref b61), .val (.ref b62), .unset] [(.int (1 : Int32)), (.int (3 : Int32))]))
    have hc66 : (1 : Int32) < (3 : Int32) := (by decide)
    refine own_fwd (fun t k => XS.icmpNo X65.here hx rfl (hb hby at_37) rfl (tlt hc66).2.2.2 k) ?_
    show own_R p.tables e below P (T65.setTop (mkF m 40 #[.val (.long p0), .second, .val (.long p1), .second, .val (.long p2), .second, .val (.long p3), .second, .val (.long p4), .second, .val (.int p5), .val (.int (3 : Int32)), .val (.ref b61), .val (.ref b62), .unset] []))
    refine own_fwd (fun t k => XS.aload X65.here hx rfl (hb hby at_40) rfl rfl k) ?_
    show own_R p.tables e below P (T65.setTop (mkF m 42 #[.val (.long p0), .second, .val (.long p1), .second, .val (.long p2), .second, .val (.long p3), .second, .val (.long p4), .second, .val (.int p5), .val (.int (3 : Int32)), .val (.ref b61), .val (.ref b62), .unset] [(.ref b61)]))
    refine own_fwd (fun t k => XS.iconst X65.here hx rfl (hb hby at_42) k) ?_
    show own_R p.tables e below P (T65.setTop (mkF m 43 #[.val (.long p0), .second, .val (.long p1), .second, .val (.long p2), .second, .val (.long p3), .second, .val (.long p4), .second, .val (.int p5), .val (.int (3 : Int32)), .val (.ref b61), .val (.ref b62), .unset] [(.int (1 : Int32)), (.ref b61)]))
    refine own_fwd (fun t k => XS.lloadN X65.here hx rfl (hb hby at_43) rfl k) ?_
    show own_R p.tables e below P (T65.setTop (mkF m 44 #[.val (.long p0), .second, .val (.long p1), .second, .val (.long p2), .second, .val (.long p3), .second, .val (.long p4), .second, .val (.int p5), .val (.int (3 : Int32)), .val (.ref b61), .val (.ref b62), .unset] [(.long p1), (.int (1 : Int32)), (.ref b61)]))
    obtain ⟨T67, h67, X67, e67, W67, A67_, st67⟩ := own_stJ X65 hx hZ e65 A64__x65 (j := (1 : Int32)) 1 (by decide) (by decide) (g := (mkF m 44 #[.val (.long p0), .second, .val (.long p1), .second, .val (.long p2), .second, .val (.long p3), .second, .val (.long p4), .second, .val (.int p5), .val (.int (3 : Int32)), .val (.ref b61), .val (.ref b62), .unset] [(.long p1), (.int (1 : Int32)), (.ref b61)])) rfl rfl (hb hby at_44)
    have B61_x67 := B61_x65.wr W67
    have A65__x67 := A65_.other W67 (Ne.symm ne62_b61)
    have B62_x67 := B62_x65.wr W67
    have N67 := Fr.snoc X67 N65 ge_b61
    have Z67 : n0 ≤ h67.size := by rw [W67.size]; exact Z65
    have Y67 : h0.size ≤ h67.size := by rw [W67.size]; exact Y65
    refine own_fwd st67 ?_
    show own_R p.tables e below P (T67.setTop (mkF m 45 #[.val (.long p0), .second, .val (.long p1), .second, .val (.long p2), .second, .val (.long p3), .second, .val (.long p4), .second, .val (.int p5), .val (.int (3 : Int32)), .val (.ref b61), .val (.ref b62), .unset] []))
    refine own_fwd (fun t k => XS.aload X67.here hx rfl (hb hby at_45) rfl rfl k) ?_
    show own_R p.tables e below P (T67.setTop (mkF m 47 #[.val (.long p0), .second, .val (.long p1), .second, .val (.long p2), .second, .val (.long p3), .second, .val (.long p4), .second, .val (.int p5), .val (.int (3 : Int32)), .val (.ref b61), .val (.ref b62), .unset] [(.ref b62)]))
    refine own_fwd (fun t k => XS.iconst X67.here hx rfl (hb hby at_47) k) ?_
    show own_R p.tables e below P (T67.setTop (mkF m 48 #[.val (.long p0), .second, .val (.long p1), .second, .val (.long p2), .second, .val (.long p3), .second, .val (.long p4), .second, .val (.int p5), .val (.int (3 : Int32)), .val (.ref b61), .val (.ref b62), .unset] [(.int (1 : Int32)), (.ref b62)]))
    refine own_fwd (fun t k => XS.lload X67.here hx rfl (hb hby at_48) rfl k) ?_
    show own_R p.tables e below P (T67.setTop (mkF m 50 #[.val (.long p0), .second, .val (.long p1), .second, .val (.long p2), .second, .val (.long p3), .second, .val (.long p4), .second, .val (.int p5), .val (.int (3 : Int32)), .val (.ref b61), .val (.ref b62), .unset] [(.long p3), (.int (1 : Int32)), (.ref b62)]))
    obtain ⟨T68, h68, X68, e68, W68, A68_, st68⟩ := own_stJ X67 hx hZ e67 A65__x67 (j := (1 : Int32)) 1 (by decide) (by decide) (g := (mkF m 50 #[.val (.long p0), .second, .val (.long p1), .second, .val (.long p2), .second, .val (.long p3), .second, .val (.long p4), .second, .val (.int p5), .val (.int (3 : Int32)), .val (.ref b61), .val (.ref b62), .unset] [(.long p3), (.int (1 : Int32)), (.ref b62)])) rfl rfl (hb hby at_50)
    have A67__x68 := A67_.other W68 ne62_b61
    have B61_x68 := B61_x67.wr W68
    have B62_x68 := B62_x67.wr W68
    have N68 := Fr.snoc X68 N67 ge_b62
    have Z68 : n0 ≤ h68.size := by rw [W68.size]; exact Z67
    have Y68 : h0.size ≤ h68.size := by rw [W68.size]; exact Y67
    refine own_fwd st68 ?_
    show own_R p.tables e below P (T68.setTop (mkF m 51 #[.val (.long p0), .second, .val (.long p1), .second, .val (.long p2), .second, .val (.long p3), .second, .val (.long p4), .second, .val (.int p5), .val (.int (3 : Int32)), .val (.ref b61), .val (.ref b62), .unset] []))
    refine own_fwd (fun t k => XS.iload X68.here hx rfl (hb hby at_51) rfl k) ?_
    show own_R p.tables e below P (T68.setTop (mkF m 53 #[.val (.long p0), .second, .val (.long p1), .second, .val (.long p2), .second, .val (.long p3), .second, .val (.long p4), .second, .val (.int p5), .val (.int (3 : Int32)), .val (.ref b61), .val (.ref b62), .unset] [(.int (3 : Int32))]))
    refine own_fwd (fun t k => XS.iconst X68.here hx rfl (hb hby at_53) k) ?_
    show own_R p.tables e below P (T68.setTop (mkF m 54 #[.val (.long p0), .second, .val (.long p1), .second, .val (.long p2), .second, .val (.long p3), .second, .val (.long p4), .second, .val (.int p5), .val (.int (3 : Int32)), .val (.ref b61), .val (.ref b62), .unset] [(.int (2 : Int32)), (.int (3 : Int32))]))
    have hc69 : (2 : Int32) < (3 : Int32) := (by decide)
    refine own_fwd (fun t k => XS.icmpNo X68.here hx rfl (hb hby at_54) rfl (tlt hc69).2.2.2 k) ?_
    show own_R p.tables e below P (T68.setTop (mkF m 57 #[.val (.long p0), .second, .val (.long p1), .second, .val (.long p2), .second, .val (.long p3), .second, .val (.long p4), .second, .val (.int p5), .val (.int (3 : Int32)), .val (.ref b61), .val (.ref b62), .unset] []))
    refine own_fwd (fun t k => XS.aload X68.here hx rfl (hb hby at_57) rfl rfl k) ?_
    show own_R p.tables e below P (T68.setTop (mkF m 59 #[.val (.long p0), .second, .val (.long p1), .second, .val (.long p2), .second, .val (.long p3), .second, .val (.long p4), .second, .val (.int p5), .val (.int (3 : Int32)), .val (.ref b61), .val (.ref b62), .unset] [(.ref b61)]))
    refine own_fwd (fun t k => XS.iconst X68.here hx rfl (hb hby at_59) k) ?_
    show own_R p.tables e below P (T68.setTop (mkF m 60 #[.val (.long p0), .second, .val (.long p1), .second, .val (.long p2), .second, .val (.long p3), .second, .val (.long p4), .second, .val (.int p5), .val (.int (3 : Int32)), .val (.ref b61), .val (.ref b62), .unset] [(.int (2 : Int32)), (.ref b61)]))
    refine own_fwd (fun t k => XS.lload X68.here hx rfl (hb hby at_60) rfl k) ?_
    show own_R p.tables e below P (T68.setTop (mkF m 62 #[.val (.long p0), .second, .val (.long p1), .second, .val (.long p2), .second, .val (.long p3), .second, .val (.long p4), .second, .val (.int p5), .val (.int (3 : Int32)), .val (.ref b61), .val (.ref b62), .unset] [(.long p4), (.int (2 : Int32)), (.ref b61)]))
    obtain ⟨T70, h70, X70, e70, W70, A70_, st70⟩ := own_stJ X68 hx hZ e68 A67__x68 (j := (2 : Int32)) 2 (by decide) (by decide) (g := (mkF m 62 #[.val (.long p0), .second, .val (.long p1), .second, .val (.long p2), .second, .val (.long p3), .second, .val (.long p4), .second, .val (.int p5), .val (.int (3 : Int32)), .val (.ref b61), .val (.ref b62), .unset] [(.long p4), (.int (2 : Int32)), (.ref b61)])) rfl rfl (hb hby at_62)
    have B61_x70 := B61_x68.wr W70
    have A68__x70 := A68_.other W70 (Ne.symm ne62_b61)
    have B62_x70 := B62_x68.wr W70
    have N70 := Fr.snoc X70 N68 ge_b61
    have Z70 : n0 ≤ h70.size := by rw [W70.size]; exact Z68
    have Y70 : h0.size ≤ h70.size := by rw [W70.size]; exact Y68
    refine own_fwd st70 ?_
    show own_R p.tables e below P (T70.setTop (mkF m 63 #[.val (.long p0), .second, .val (.long p1), .second, .val (.long p2), .second, .val (.long p3), .second, .val (.long p4), .second, .val (.int p5), .val (.int (3 : Int32)), .val (.ref b61), .val (.ref b62), .unset] []))
    refine own_fwd (fun t k => XS.aload X70.here hx rfl (hb hby at_63) rfl rfl k) ?_
    show own_R p.tables e below P (T70.setTop (mkF m 65 #[.val (.long p0), .second, .val (.long p1), .second, .val (.long p2), .second, .val (.long p3), .second, .val (.long p4), .second, .val (.int p5), .val (.int (3 : Int32)), .val (.ref b61), .val (.ref b62), .unset] [(.ref b62)]))
    refine own_fwd (fun t k => XS.iconst X70.here hx rfl (hb hby at_65) k) ?_
    show own_R p.tables e below P (T70.setTop (mkF m 66 #[.val (.long p0), .second, .val (.long p1), .second, .val (.long p2), .second, .val (.long p3), .second, .val (.long p4), .second, .val (.int p5), .val (.int (3 : Int32)), .val (.ref b61), .val (.ref b62), .unset] [(.int (2 : Int32)), (.ref b62)]))
    refine own_fwd (fun t k => XS.lload X70.here hx rfl (hb hby at_66) rfl k) ?_
    show own_R p.tables e below P (T70.setTop (mkF m 68 #[.val (.long p0), .second, .val (.long p1), .second, .val (.long p2), .second, .val (.long p3), .second, .val (.long p4), .second, .val (.int p5), .val (.int (3 : Int32)), .val (.ref b61), .val (.ref b62), .unset] [(.long p2), (.int (2 : Int32)), (.ref b62)]))
    obtain ⟨T71, h71, X71, e71, W71, A71_, st71⟩ := own_stJ X70 hx hZ e70 A68__x70 (j := (2 : Int32)) 2 (by decide) (by decide) (g := (mkF m 68 #[.val (.long p0), .second, .val (.long p1), .second, .val (.long p2), .second, .val (.long p3), .second, .val (.long p4), .second, .val (.int p5), .val (.int (3 : Int32)), .val (.ref b61), .val (.ref b62), .unset] [(.long p2), (.int (2 : Int32)), (.ref b62)])) rfl rfl (hb hby at_68)
    have A70__x71 := A70_.other W71 ne62_b61
    have B61_x71 := B61_x70.wr W71
    have B62_x71 := B62_x70.wr W71
    have N71 := Fr.snoc X71 N70 ge_b62
    have Z71 : n0 ≤ h71.size := by rw [W71.size]; exact Z70
    have Y71 : h0.size ≤ h71.size := by rw [W71.size]; exact Y70
    refine own_fwd st71 ?_
    show own_R p.tables e below P (T71.setTop (mkF m 69 #[.val (.long p0), .second, .val (.long p1), .second, .val (.long p2), .second, .val (.long p3), .second, .val (.long p4), .second, .val (.int p5), .val (.int (3 : Int32)), .val (.ref b61), .val (.ref b62), .unset] []))
    refine own_fwd (fun t k => XS.iload X71.here hx rfl (hb hby at_69) rfl k) ?_
    show own_R p.tables e below P (T71.setTop (mkF m 71 #[.val (.long p0), .second, .val (.long p1), .second, .val (.long p2), .second, .val (.long p3), .second, .val (.long p4), .second, .val (.int p5), .val (.int (3 : Int32)), .val (.ref b61), .val (.ref b62), .unset] [(.int (3 : Int32))]))
    refine own_fwd (fun t k => XS.iconst X71.here hx rfl (hb hby at_71) k) ?_
    show own_R p.tables e below P (T71.setTop (mkF m 72 #[.val (.long p0), .second, .val (.long p1), .second, .val (.long p2), .second, .val (.long p3), .second, .val (.long p4), .second, .val (.int p5), .val (.int (3 : Int32)), .val (.ref b61), .val (.ref b62), .unset] [(.int (1 : Int32)), (.int (3 : Int32))]))
    have hc72 : ¬ ((3 : Int32) < (1 : Int32)) := (by decide)
    refine own_fwd (fun t k => XS.icmpNo X71.here hx rfl (hb hby at_72) rfl (flt hc72).1 k) ?_
    show own_R p.tables e below P (T71.setTop (mkF m 75 #[.val (.long p0), .second, .val (.long p1), .second, .val (.long p2), .second, .val (.long p3), .second, .val (.long p4), .second, .val (.int p5), .val (.int (3 : Int32)), .val (.ref b61), .val (.ref b62), .unset] []))
    refine own_fwd (fun t k => XS.lloadN X71.here hx rfl (hb hby at_75) rfl k) ?_
    show own_R p.tables e below P (T71.setTop (mkF m 76 #[.val (.long p0), .second, .val (.long p1), .second, .val (.long p2), .second, .val (.long p3), .second, .val (.long p4), .second, .val (.int p5), .val (.int (3 : Int32)), .val (.ref b61), .val (.ref b62), .unset] [(.long p0)]))
    refine own_fwd (fun t k => XS.lload X71.here hx rfl (hb hby at_76) rfl k) ?_
    show own_R p.tables e below P (T71.setTop (mkF m 78 #[.val (.long p0), .second, .val (.long p1), .second, .val (.long p2), .second, .val (.long p3), .second, .val (.long p4), .second, .val (.int p5), .val (.int (3 : Int32)), .val (.ref b61), .val (.ref b62), .unset] [(.long p2), (.long p0)]))
    refine own_fwd (fun t k => XS.lcmp X71.here hx rfl (hb hby at_78) rfl k) ?_
    show own_R p.tables e below P (T71.setTop (mkF m 79 #[.val (.long p0), .second, .val (.long p1), .second, .val (.long p2), .second, .val (.long p3), .second, .val (.long p4), .second, .val (.int p5), .val (.int (3 : Int32)), .val (.ref b61), .val (.ref b62), .unset] [(.int (lcmpW p0 p2))]))
    by_cases hc73 : (lcmpW p0 p2) < (0 : Int32)
    · refine own_fwd (fun t k => XS.ifYes X71.here hx rfl (pc0 := 79) (pc' := 113) rfl (hb hby at_79) rfl ((if0 _ _).trans (tlt hc73).1) (by decide) (by decide) k) ?_
      show own_R p.tables e below P (T71.setTop (mkF m 113 #[.val (.long p0), .second, .val (.long p1), .second, .val (.long p2), .second, .val (.long p3), .second, .val (.long p4), .second, .val (.int p5), .val (.int (3 : Int32)), .val (.ref b61), .val (.ref b62), .unset] []))
      refine own_fwd (fun t k => XS.iconst X71.here hx rfl (hb hby at_113) k) ?_
      show own_R p.tables e below P (T71.setTop (mkF m 114 #[.val (.long p0), .second, .val (.long p1), .second, .val (.long p2), .second, .val (.long p3), .second, .val (.long p4), .second, .val (.int p5), .val (.int (3 : Int32)), .val (.ref b61), .val (.ref b62), .unset] [(.int (0 : Int32))]))
      refine own_fwd (fun t k => XS.istore X71.here hx rfl (hb hby at_114) rfl (l' := #[.val (.long p0), .second, .val (.long p1), .second, .val (.long p2), .second, .val (.long p3), .second, .val (.long p4), .second, .val (.int p5), .val (.int (3 : Int32)), .val (.ref b61), .val (.ref b62), .val (.int (0 : Int32))]) rfl k) ?_
      show own_R p.tables e below P (T71.setTop (mkF m 116 #[.val (.long p0), .second, .val (.long p1), .second, .val (.long p2), .second, .val (.long p3), .second, .val (.long p4), .second, .val (.int p5), .val (.int (3 : Int32)), .val (.ref b61), .val (.ref b62), .val (.int (0 : Int32))] []))
      refine own_fwd (fun t k => XS.aload X71.here hx rfl (hb hby at_116) rfl rfl k) ?_
      show own_R p.tables e below P (T71.setTop (mkF m 118 #[.val (.long p0), .second, .val (.long p1), .second, .val (.long p2), .second, .val (.long p3), .second, .val (.long p4), .second, .val (.int p5), .val (.int (3 : Int32)), .val (.ref b61), .val (.ref b62), .val (.int (0 : Int32))] [(.ref b61)]))
      refine own_fwd (fun t k => XS.aload X71.here hx rfl (hb hby at_118) rfl rfl k) ?_
      show own_R p.tables e below P (T71.setTop (mkF m 120 #[.val (.long p0), .second, .val (.long p1), .second, .val (.long p2), .second, .val (.long p3), .second, .val (.long p4), .second, .val (.int p5), .val (.int (3 : Int32)), .val (.ref b61), .val (.ref b62), .val (.int (0 : Int32))] [(.ref b62), (.ref b61)]))
      obtain ⟨_, _, ⟨T74, L74, k74, n74⟩, -, X74, ⟨Lc74, hQ74, l74, y74, z74⟩, st74⟩ := Jvm.LawKit.callS X71 hx (y := (⟨"com/example/physalia/physalia/model/Marking", "covers", "([J[J)Z"⟩ : MethodName)) hown (mvT hZ (hw _ (List.mem_of_getElem? (i := 1) rfl))) (mvT hZ (hw _ (List.mem_of_getElem? (i := 2) rfl))) (mvT hZ (hw _ (List.mem_of_getElem? (i := 3) rfl))) (mvT hZ (hw _ (List.mem_of_getElem? (i := 4) rfl))) (by decide) (backOf (W := 0) (own_rm1 l Z a0 hw [] b61 b62 3 (own_upd (own_upd (own_upd (fun _ => (0 : Int64)) 0 p0) 1 p1) 2 p4) (own_upd (own_upd (own_upd (fun _ => (0 : Int64)) 0 p2) 1 p3) 2 p2) h71 n0 Z71 A70__x71 A71_) hZ (hw _ (List.mem_of_getElem? (i := 4) rfl)) (hw _ (List.mem_of_getElem? (i := 3) rfl)) (by decide) (by decide)) (g := (mkF m 120 #[.val (.long p0), .second, .val (.long p1), .second, .val (.long p2), .second, .val (.long p3), .second, .val (.long p4), .second, .val (.int p5), .val (.int (3 : Int32)), .val (.ref b61), .val (.ref b62), .val (.int (0 : Int32))] [(.ref b62), (.ref b61)])) rfl (by rw [hml]; rfl) (argsL := [(.ref b61), (.ref b62)]) (rest := []) (lenOf own_pd1 rfl) rfl (by show 2 * 0 + _ ≤ _; exact Nat.le_of_eq rfl) (hb hby at_120) (fun _ _ => ⟨rfl, e71, (by decide : 2 + 0 ≤ _), (by decide : 6 + 0 ≤ _)⟩)
      dsimp only [Pt.U, Pt.locs, Pt.cells, Pt.slots] at X74 l74 y74 z74 st74 hQ74
      subst l74 y74 z74
      obtain ⟨h74, e74⟩ : ∃ z, T74.heap = z := ⟨_, rfl⟩
      rw [e74] at hQ74
      obtain ⟨r74, hq74, N74q, q74, hR⟩ := hQ74
      rw [q74] at e74
      subst hq74
      have N74 := Fr.app N71 N74q
      refine own_fwd st74 ?_
      show own_R p.tables e below P (T74.setTop (mkF m 123 #[.val (.long p0), .second, .val (.long p1), .second, .val (.long p2), .second, .val (.long p3), .second, .val (.long p4), .second, .val (.int p5), .val (.int (3 : Int32)), .val (.ref b61), .val (.ref b62), .val (.int (0 : Int32))] [(.int r74)]))
      refine own_fwd (fun t k => XS.iload X74.here hx rfl (hb hby at_123) rfl k) ?_
      show own_R p.tables e below P (T74.setTop (mkF m 125 #[.val (.long p0), .second, .val (.long p1), .second, .val (.long p2), .second, .val (.long p3), .second, .val (.long p4), .second, .val (.int p5), .val (.int (3 : Int32)), .val (.ref b61), .val (.ref b62), .val (.int (0 : Int32))] [(.int (0 : Int32)), (.int r74)]))
      have hc75 : r74 = (0 : Int32) := by
        rcases hR with ⟨h1, h2⟩ | ⟨h1, i, hi, h2⟩
        · exact absurd ((lw_lt _ _).mp hc73) (h2 0 (by decide))
        · exact h1
      refine own_fwd (fun t k => XS.icmpNo X74.here hx rfl (hb hby at_125) rfl (teq hc75).2 k) ?_
      show own_R p.tables e below P (T74.setTop (mkF m 128 #[.val (.long p0), .second, .val (.long p1), .second, .val (.long p2), .second, .val (.long p3), .second, .val (.long p4), .second, .val (.int p5), .val (.int (3 : Int32)), .val (.ref b61), .val (.ref b62), .val (.int (0 : Int32))] []))
      refine own_fwd (fun t k => XS.iconst X74.here hx rfl (hb hby at_128) k) ?_
      show own_R p.tables e below P (T74.setTop (mkF m 129 #[.val (.long p0), .second, .val (.long p1), .second, .val (.long p2), .second, .val (.long p3), .second, .val (.long p4), .second, .val (.int p5), .val (.int (3 : Int32)), .val (.ref b61), .val (.ref b62), .val (.int (0 : Int32))] [(.int (1 : Int32))]))
      refine own_fwd (fun t k => XS.goto X74.here hx rfl (pc0 := 129) (pc' := 133) rfl (hb hby at_129) (by decide) (by decide) k) ?_
      show own_R p.tables e below P (T74.setTop (mkF m 133 #[.val (.long p0), .second, .val (.long p1), .second, .val (.long p2), .second, .val (.long p3), .second, .val (.long p4), .second, .val (.int p5), .val (.int (3 : Int32)), .val (.ref b61), .val (.ref b62), .val (.int (0 : Int32))] [(.int (1 : Int32))]))
      obtain ⟨fs76, hr76, hrun76, hended76, hW76, hsame76⟩ := X74.leave (v := some (.int (1 : Int32))) (fun h => by rw [Bd.returns] at h; cases h)
      refine ⟨_, _, X74.ireturnOut hx (w := (1 : Int32)) Bd.returns rfl (by simp) (hb hby at_133) hr76, fin _ _ ⟨hrun76, hended76, _, _, rfl, ?_, ⟨_, rfl⟩, hW76, hsame76.mono (by decide) (by decide)⟩⟩
      show own_Qlaw Z p0 p1 p2 p3 p4 p5 h0 n0 _ T74.heap _
      rw [e74]
      exact ⟨rfl, N74⟩
    · refine own_fwd (fun t k => XS.ifNo X71.here hx rfl (hb hby at_79) rfl ((if0 _ _).trans (flt hc73).1) k) ?_
      show own_R p.tables e below P (T71.setTop (mkF m 82 #[.val (.long p0), .second, .val (.long p1), .second, .val (.long p2), .second, .val (.long p3), .second, .val (.long p4), .second, .val (.int p5), .val (.int (3 : Int32)), .val (.ref b61), .val (.ref b62), .unset] []))
      refine own_fwd (fun t k => XS.iload X71.here hx rfl (hb hby at_82) rfl k) ?_
      show own_R p.tables e below P (T71.setTop (mkF m 84 #[.val (.long p0), .second, .val (.long p1), .second, .val (.long p2), .second, .val (.long p3), .second, .val (.long p4), .second, .val (.int p5), .val (.int (3 : Int32)), .val (.ref b61), .val (.ref b62), .unset] [(.int (3 : Int32))]))
      refine own_fwd (fun t k => XS.iconst X71.here hx rfl (hb hby at_84) k) ?_
      show own_R p.tables e below P (T71.setTop (mkF m 85 #[.val (.long p0), .second, .val (.long p1), .second, .val (.long p2), .second, .val (.long p3), .second, .val (.long p4), .second, .val (.int p5), .val (.int (3 : Int32)), .val (.ref b61), .val (.ref b62), .unset] [(.int (2 : Int32)), (.int (3 : Int32))]))
      have hc77 : ¬ ((3 : Int32) < (2 : Int32)) := (by decide)
      refine own_fwd (fun t k => XS.icmpNo X71.here hx rfl (hb hby at_85) rfl (flt hc77).1 k) ?_
      show own_R p.tables e below P (T71.setTop (mkF m 88 #[.val (.long p0), .second, .val (.long p1), .second, .val (.long p2), .second, .val (.long p3), .second, .val (.long p4), .second, .val (.int p5), .val (.int (3 : Int32)), .val (.ref b61), .val (.ref b62), .unset] []))
      refine own_fwd (fun t k => XS.lloadN X71.here hx rfl (hb hby at_88) rfl k) ?_
      show own_R p.tables e below P (T71.setTop (mkF m 89 #[.val (.long p0), .second, .val (.long p1), .second, .val (.long p2), .second, .val (.long p3), .second, .val (.long p4), .second, .val (.int p5), .val (.int (3 : Int32)), .val (.ref b61), .val (.ref b62), .unset] [(.long p1)]))
      refine own_fwd (fun t k => XS.lload X71.here hx rfl (hb hby at_89) rfl k) ?_
      show own_R p.tables e below P (T71.setTop (mkF m 91 #[.val (.long p0), .second, .val (.long p1), .second, .val (.long p2), .second, .val (.long p3), .second, .val (.long p4), .second, .val (.int p5), .val (.int (3 : Int32)), .val (.ref b61), .val (.ref b62), .unset] [(.long p3), (.long p1)]))
      refine own_fwd (fun t k => XS.lcmp X71.here hx rfl (hb hby at_91) rfl k) ?_
      show own_R p.tables e below P (T71.setTop (mkF m 92 #[.val (.long p0), .second, .val (.long p1), .second, .val (.long p2), .second, .val (.long p3), .second, .val (.long p4), .second, .val (.int p5), .val (.int (3 : Int32)), .val (.ref b61), .val (.ref b62), .unset] [(.int (lcmpW p1 p3))]))
      by_cases hc78 : (lcmpW p1 p3) < (0 : Int32)
      · refine own_fwd (fun t k => XS.ifYes X71.here hx rfl (pc0 := 92) (pc' := 113) rfl (hb hby at_92) rfl ((if0 _ _).trans (tlt hc78).1) (by decide) (by decide) k) ?_
        show own_R p.tables e below P (T71.setTop (mkF m 113 #[.val (.long p0), .second, .val (.long p1), .second, .val (.long p2), .second, .val (.long p3), .second, .val (.long p4), .second, .val (.int p5), .val (.int (3 : Int32)), .val (.ref b61), .val (.ref b62), .unset] []))
        refine own_fwd (fun t k => XS.iconst X71.here hx rfl (hb hby at_113) k) ?_
        show own_R p.tables e below P (T71.setTop (mkF m 114 #[.val (.long p0), .second, .val (.long p1), .second, .val (.long p2), .second, .val (.long p3), .second, .val (.long p4), .second, .val (.int p5), .val (.int (3 : Int32)), .val (.ref b61), .val (.ref b62), .unset] [(.int (0 : Int32))]))
        refine own_fwd (fun t k => XS.istore X71.here hx rfl (hb hby at_114) rfl (l' := #[.val (.long p0), .second, .val (.long p1), .second, .val (.long p2), .second, .val (.long p3), .second, .val (.long p4), .second, .val (.int p5), .val (.int (3 : Int32)), .val (.ref b61), .val (.ref b62), .val (.int (0 : Int32))]) rfl k) ?_
        show own_R p.tables e below P (T71.setTop (mkF m 116 #[.val (.long p0), .second, .val (.long p1), .second, .val (.long p2), .second, .val (.long p3), .second, .val (.long p4), .second, .val (.int p5), .val (.int (3 : Int32)), .val (.ref b61), .val (.ref b62), .val (.int (0 : Int32))] []))
        refine own_fwd (fun t k => XS.aload X71.here hx rfl (hb hby at_116) rfl rfl k) ?_
        show own_R p.tables e below P (T71.setTop (mkF m 118 #[.val (.long p0), .second, .val (.long p1), .second, .val (.long p2), .second, .val (.long p3), .second, .val (.long p4), .second, .val (.int p5), .val (.int (3 : Int32)), .val (.ref b61), .val (.ref b62), .val (.int (0 : Int32))] [(.ref b61)]))
        refine own_fwd (fun t k => XS.aload X71.here hx rfl (hb hby at_118) rfl rfl k) ?_
        show own_R p.tables e below P (T71.setTop (mkF m 120 #[.val (.long p0), .second, .val (.long p1), .second, .val (.long p2), .second, .val (.long p3), .second, .val (.long p4), .second, .val (.int p5), .val (.int (3 : Int32)), .val (.ref b61), .val (.ref b62), .val (.int (0 : Int32))] [(.ref b62), (.ref b61)]))
        obtain ⟨_, _, ⟨T79, L79, k79, n79⟩, -, X79, ⟨Lc79, hQ79, l79, y79, z79⟩, st79⟩ := Jvm.LawKit.callS X71 hx (y := (⟨"com/example/physalia/physalia/model/Marking", "covers", "([J[J)Z"⟩ : MethodName)) hown (mvT hZ (hw _ (List.mem_of_getElem? (i := 1) rfl))) (mvT hZ (hw _ (List.mem_of_getElem? (i := 2) rfl))) (mvT hZ (hw _ (List.mem_of_getElem? (i := 3) rfl))) (mvT hZ (hw _ (List.mem_of_getElem? (i := 4) rfl))) (by decide) (backOf (W := 0) (own_rm1 l Z a0 hw [] b61 b62 3 (own_upd (own_upd (own_upd (fun _ => (0 : Int64)) 0 p0) 1 p1) 2 p4) (own_upd (own_upd (own_upd (fun _ => (0 : Int64)) 0 p2) 1 p3) 2 p2) h71 n0 Z71 A70__x71 A71_) hZ (hw _ (List.mem_of_getElem? (i := 4) rfl)) (hw _ (List.mem_of_getElem? (i := 3) rfl)) (by decide) (by decide)) (g := (mkF m 120 #[.val (.long p0), .second, .val (.long p1), .second, .val (.long p2), .second, .val (.long p3), .second, .val (.long p4), .second, .val (.int p5), .val (.int (3 : Int32)), .val (.ref b61), .val (.ref b62), .val (.int (0 : Int32))] [(.ref b62), (.ref b61)])) rfl (by rw [hml]; rfl) (argsL := [(.ref b61), (.ref b62)]) (rest := []) (lenOf own_pd1 rfl) rfl (by show 2 * 0 + _ ≤ _; exact Nat.le_of_eq rfl) (hb hby at_120) (fun _ _ => ⟨rfl, e71, (by decide : 2 + 0 ≤ _), (by decide : 6 + 0 ≤ _)⟩)
        dsimp only [Pt.U, Pt.locs, Pt.cells, Pt.slots] at X79 l79 y79 z79 st79 hQ79
        subst l79 y79 z79
        obtain ⟨h79, e79⟩ : ∃ z, T79.heap = z := ⟨_, rfl⟩
        rw [e79] at hQ79
        obtain ⟨r79, hq79, N79q, q79, hR⟩ := hQ79
        rw [q79] at e79
        subst hq79
        have N79 := Fr.app N71 N79q
        refine own_fwd st79 ?_
        show own_R p.tables e below P (T79.setTop (mkF m 123 #[.val (.long p0), .second, .val (.long p1), .second, .val (.long p2), .second, .val (.long p3), .second, .val (.long p4), .second, .val (.int p5), .val (.int (3 : Int32)), .val (.ref b61), .val (.ref b62), .val (.int (0 : Int32))] [(.int r79)]))
        refine own_fwd (fun t k => XS.iload X79.here hx rfl (hb hby at_123) rfl k) ?_
        show own_R p.tables e below P (T79.setTop (mkF m 125 #[.val (.long p0), .second, .val (.long p1), .second, .val (.long p2), .second, .val (.long p3), .second, .val (.long p4), .second, .val (.int p5), .val (.int (3 : Int32)), .val (.ref b61), .val (.ref b62), .val (.int (0 : Int32))] [(.int (0 : Int32)), (.int r79)]))
        have hc80 : r79 = (0 : Int32) := by
          rcases hR with ⟨h1, h2⟩ | ⟨h1, i, hi, h2⟩
          · exact absurd ((lw_lt _ _).mp hc78) (h2 1 (by decide))
          · exact h1
        refine own_fwd (fun t k => XS.icmpNo X79.here hx rfl (hb hby at_125) rfl (teq hc80).2 k) ?_
        show own_R p.tables e below P (T79.setTop (mkF m 128 #[.val (.long p0), .second, .val (.long p1), .second, .val (.long p2), .second, .val (.long p3), .second, .val (.long p4), .second, .val (.int p5), .val (.int (3 : Int32)), .val (.ref b61), .val (.ref b62), .val (.int (0 : Int32))] []))
        refine own_fwd (fun t k => XS.iconst X79.here hx rfl (hb hby at_128) k) ?_
        show own_R p.tables e below P (T79.setTop (mkF m 129 #[.val (.long p0), .second, .val (.long p1), .second, .val (.long p2), .second, .val (.long p3), .second, .val (.long p4), .second, .val (.int p5), .val (.int (3 : Int32)), .val (.ref b61), .val (.ref b62), .val (.int (0 : Int32))] [(.int (1 : Int32))]))
        refine own_fwd (fun t k => XS.goto X79.here hx rfl (pc0 := 129) (pc' := 133) rfl (hb hby at_129) (by decide) (by decide) k) ?_
        show own_R p.tables e below P (T79.setTop (mkF m 133 #[.val (.long p0), .second, .val (.long p1), .second, .val (.long p2), .second, .val (.long p3), .second, .val (.long p4), .second, .val (.int p5), .val (.int (3 : Int32)), .val (.ref b61), .val (.ref b62), .val (.int (0 : Int32))] [(.int (1 : Int32))]))
        obtain ⟨fs81, hr81, hrun81, hended81, hW81, hsame81⟩ := X79.leave (v := some (.int (1 : Int32))) (fun h => by rw [Bd.returns] at h; cases h)
        refine ⟨_, _, X79.ireturnOut hx (w := (1 : Int32)) Bd.returns rfl (by simp) (hb hby at_133) hr81, fin _ _ ⟨hrun81, hended81, _, _, rfl, ?_, ⟨_, rfl⟩, hW81, hsame81.mono (by decide) (by decide)⟩⟩
        show own_Qlaw Z p0 p1 p2 p3 p4 p5 h0 n0 _ T79.heap _
        rw [e79]
        exact ⟨rfl, N79⟩
      · refine own_fwd (fun t k => XS.ifNo X71.here hx rfl (hb hby at_92) rfl ((if0 _ _).trans (flt hc78).1) k) ?_
        show own_R p.tables e below P (T71.setTop (mkF m 95 #[.val (.long p0), .second, .val (.long p1), .second, .val (.long p2), .second, .val (.long p3), .second, .val (.long p4), .second, .val (.int p5), .val (.int (3 : Int32)), .val (.ref b61), .val (.ref b62), .unset] []))
        refine own_fwd (fun t k => XS.iload X71.here hx rfl (hb hby at_95) rfl k) ?_
        show own_R p.tables e below P (T71.setTop (mkF m 97 #[.val (.long p0), .second, .val (.long p1), .second, .val (.long p2), .second, .val (.long p3), .second, .val (.long p4), .second, .val (.int p5), .val (.int (3 : Int32)), .val (.ref b61), .val (.ref b62), .unset] [(.int (3 : Int32))]))
        refine own_fwd (fun t k => XS.iconst X71.here hx rfl (hb hby at_97) k) ?_
        show own_R p.tables e below P (T71.setTop (mkF m 98 #[.val (.long p0), .second, .val (.long p1), .second, .val (.long p2), .second, .val (.long p3), .second, .val (.long p4), .second, .val (.int p5), .val (.int (3 : Int32)), .val (.ref b61), .val (.ref b62), .unset] [(.int (3 : Int32)), (.int (3 : Int32))]))
        have hc82 : ¬ ((3 : Int32) < (3 : Int32)) := (by decide)
        refine own_fwd (fun t k => XS.icmpNo X71.here hx rfl (hb hby at_98) rfl (flt hc82).1 k) ?_
        show own_R p.tables e below P (T71.setTop (mkF m 101 #[.val (.long p0), .second, .val (.long p1), .second, .val (.long p2), .second, .val (.long p3), .second, .val (.long p4), .second, .val (.int p5), .val (.int (3 : Int32)), .val (.ref b61), .val (.ref b62), .unset] []))
        refine own_fwd (fun t k => XS.lload X71.here hx rfl (hb hby at_101) rfl k) ?_
        show own_R p.tables e below P (T71.setTop (mkF m 103 #[.val (.long p0), .second, .val (.long p1), .second, .val (.long p2), .second, .val (.long p3), .second, .val (.long p4), .second, .val (.int p5), .val (.int (3 : Int32)), .val (.ref b61), .val (.ref b62), .unset] [(.long p4)]))
        refine own_fwd (fun t k => XS.lload X71.here hx rfl (hb hby at_103) rfl k) ?_
        show own_R p.tables e below P (T71.setTop (mkF m 105 #[.val (.long p0), .second, .val (.long p1), .second, .val (.long p2), .second, .val (.long p3), .second, .val (.long p4), .second, .val (.int p5), .val (.int (3 : Int32)), .val (.ref b61), .val (.ref b62), .unset] [(.long p2), (.long p4)]))
        refine own_fwd (fun t k => XS.lcmp X71.here hx rfl (hb hby at_105) rfl k) ?_
        show own_R p.tables e below P (T71.setTop (mkF m 106 #[.val (.long p0), .second, .val (.long p1), .second, .val (.long p2), .second, .val (.long p3), .second, .val (.long p4), .second, .val (.int p5), .val (.int (3 : Int32)), .val (.ref b61), .val (.ref b62), .unset] [(.int (lcmpW p4 p2))]))
        by_cases hc83 : (lcmpW p4 p2) < (0 : Int32)
        · refine own_fwd (fun t k => XS.ifYes X71.here hx rfl (pc0 := 106) (pc' := 113) rfl (hb hby at_106) rfl ((if0 _ _).trans (tlt hc83).1) (by decide) (by decide) k) ?_
          show own_R p.tables e below P (T71.setTop (mkF m 113 #[.val (.long p0), .second, .val (.long p1), .second, .val (.long p2), .second, .val (.long p3), .second, .val (.long p4), .second, .val (.int p5), .val (.int (3 : Int32)), .val (.ref b61), .val (.ref b62), .unset] []))
          refine own_fwd (fun t k => XS.iconst X71.here hx rfl (hb hby at_113) k) ?_
          show own_R p.tables e below P (T71.setTop (mkF m 114 #[.val (.long p0), .second, .val (.long p1), .second, .val (.long p2), .second, .val (.long p3), .second, .val (.long p4), .second, .val (.int p5), .val (.int (3 : Int32)), .val (.ref b61), .val (.ref b62), .unset] [(.int (0 : Int32))]))
          refine own_fwd (fun t k => XS.istore X71.here hx rfl (hb hby at_114) rfl (l' := #[.val (.long p0), .second, .val (.long p1), .second, .val (.long p2), .second, .val (.long p3), .second, .val (.long p4), .second, .val (.int p5), .val (.int (3 : Int32)), .val (.ref b61), .val (.ref b62), .val (.int (0 : Int32))]) rfl k) ?_
          show own_R p.tables e below P (T71.setTop (mkF m 116 #[.val (.long p0), .second, .val (.long p1), .second, .val (.long p2), .second, .val (.long p3), .second, .val (.long p4), .second, .val (.int p5), .val (.int (3 : Int32)), .val (.ref b61), .val (.ref b62), .val (.int (0 : Int32))] []))
          refine own_fwd (fun t k => XS.aload X71.here hx rfl (hb hby at_116) rfl rfl k) ?_
          show own_R p.tables e below P (T71.setTop (mkF m 118 #[.val (.long p0), .second, .val (.long p1), .second, .val (.long p2), .second, .val (.long p3), .second, .val (.long p4), .second, .val (.int p5), .val (.int (3 : Int32)), .val (.ref b61), .val (.ref b62), .val (.int (0 : Int32))] [(.ref b61)]))
          refine own_fwd (fun t k => XS.aload X71.here hx rfl (hb hby at_118) rfl rfl k) ?_
          show own_R p.tables e below P (T71.setTop (mkF m 120 #[.val (.long p0), .second, .val (.long p1), .second, .val (.long p2), .second, .val (.long p3), .second, .val (.long p4), .second, .val (.int p5), .val (.int (3 : Int32)), .val (.ref b61), .val (.ref b62), .val (.int (0 : Int32))] [(.ref b62), (.ref b61)]))
          obtain ⟨_, _, ⟨T84, L84, k84, n84⟩, -, X84, ⟨Lc84, hQ84, l84, y84, z84⟩, st84⟩ := Jvm.LawKit.callS X71 hx (y := (⟨"com/example/physalia/physalia/model/Marking", "covers", "([J[J)Z"⟩ : MethodName)) hown (mvT hZ (hw _ (List.mem_of_getElem? (i := 1) rfl))) (mvT hZ (hw _ (List.mem_of_getElem? (i := 2) rfl))) (mvT hZ (hw _ (List.mem_of_getElem? (i := 3) rfl))) (mvT hZ (hw _ (List.mem_of_getElem? (i := 4) rfl))) (by decide) (backOf (W := 0) (own_rm1 l Z a0 hw [] b61 b62 3 (own_upd (own_upd (own_upd (fun _ => (0 : Int64)) 0 p0) 1 p1) 2 p4) (own_upd (own_upd (own_upd (fun _ => (0 : Int64)) 0 p2) 1 p3) 2 p2) h71 n0 Z71 A70__x71 A71_) hZ (hw _ (List.mem_of_getElem? (i := 4) rfl)) (hw _ (List.mem_of_getElem? (i := 3) rfl)) (by decide) (by decide)) (g := (mkF m 120 #[.val (.long p0), .second, .val (.long p1), .second, .val (.long p2), .second, .val (.long p3), .second, .val (.long p4), .second, .val (.int p5), .val (.int (3 : Int32)), .val (.ref b61), .val (.ref b62), .val (.int (0 : Int32))] [(.ref b62), (.ref b61)])) rfl (by rw [hml]; rfl) (argsL := [(.ref b61), (.ref b62)]) (rest := []) (lenOf own_pd1 rfl) rfl (by show 2 * 0 + _ ≤ _; exact Nat.le_of_eq rfl) (hb hby at_120) (fun _ _ => ⟨rfl, e71, (by decide : 2 + 0 ≤ _), (by decide : 6 + 0 ≤ _)⟩)
          dsimp only [Pt.U, Pt.locs, Pt.cells, Pt.slots] at X84 l84 y84 z84 st84 hQ84
          subst l84 y84 z84
          obtain ⟨h84, e84⟩ : ∃ z, T84.heap = z := ⟨_, rfl⟩
          rw [e84] at hQ84
          obtain ⟨r84, hq84, N84q, q84, hR⟩ := hQ84
          rw [q84] at e84
          subst hq84
          have N84 := Fr.app N71 N84q
          refine own_fwd st84 ?_
          show own_R p.tables e below P (T84.setTop (mkF m 123 #[.val (.long p0), .second, .val (.long p1), .second, .val (.long p2), .second, .val (.long p3), .second, .val (.long p4), .second, .val (.int p5), .val (.int (3 : Int32)), .val (.ref b61), .val (.ref b62), .val (.int (0 : Int32))] [(.int r84)]))
          refine own_fwd (fun t k => XS.iload X84.here hx rfl (hb hby at_123) rfl k) ?_
          show own_R p.tables e below P (T84.setTop (mkF m 125 #[.val (.long p0), .second, .val (.long p1), .second, .val (.long p2), .second, .val (.long p3), .second, .val (.long p4), .second, .val (.int p5), .val (.int (3 : Int32)), .val (.ref b61), .val (.ref b62), .val (.int (0 : Int32))] [(.int (0 : Int32)), (.int r84)]))
          have hc85 : r84 = (0 : Int32) := by
            rcases hR with ⟨h1, h2⟩ | ⟨h1, i, hi, h2⟩
            · exact absurd ((lw_lt _ _).mp hc83) (h2 2 (by decide))
            · exact h1
          refine own_fwd (fun t k => XS.icmpNo X84.here hx rfl (hb hby at_125) rfl (teq hc85).2 k) ?_
          show own_R p.tables e below P (T84.setTop (mkF m 128 #[.val (.long p0), .second, .val (.long p1), .second, .val (.long p2), .second, .val (.long p3), .second, .val (.long p4), .second, .val (.int p5), .val (.int (3 : Int32)), .val (.ref b61), .val (.ref b62), .val (.int (0 : Int32))] []))
          refine own_fwd (fun t k => XS.iconst X84.here hx rfl (hb hby at_128) k) ?_
          show own_R p.tables e below P (T84.setTop (mkF m 129 #[.val (.long p0), .second, .val (.long p1), .second, .val (.long p2), .second, .val (.long p3), .second, .val (.long p4), .second, .val (.int p5), .val (.int (3 : Int32)), .val (.ref b61), .val (.ref b62), .val (.int (0 : Int32))] [(.int (1 : Int32))]))
          refine own_fwd (fun t k => XS.goto X84.here hx rfl (pc0 := 129) (pc' := 133) rfl (hb hby at_129) (by decide) (by decide) k) ?_
          show own_R p.tables e below P (T84.setTop (mkF m 133 #[.val (.long p0), .second, .val (.long p1), .second, .val (.long p2), .second, .val (.long p3), .second, .val (.long p4), .second, .val (.int p5), .val (.int (3 : Int32)), .val (.ref b61), .val (.ref b62), .val (.int (0 : Int32))] [(.int (1 : Int32))]))
          obtain ⟨fs86, hr86, hrun86, hended86, hW86, hsame86⟩ := X84.leave (v := some (.int (1 : Int32))) (fun h => by rw [Bd.returns] at h; cases h)
          refine ⟨_, _, X84.ireturnOut hx (w := (1 : Int32)) Bd.returns rfl (by simp) (hb hby at_133) hr86, fin _ _ ⟨hrun86, hended86, _, _, rfl, ?_, ⟨_, rfl⟩, hW86, hsame86.mono (by decide) (by decide)⟩⟩
          show own_Qlaw Z p0 p1 p2 p3 p4 p5 h0 n0 _ T84.heap _
          rw [e84]
          exact ⟨rfl, N84⟩
        · refine own_fwd (fun t k => XS.ifNo X71.here hx rfl (hb hby at_106) rfl ((if0 _ _).trans (flt hc83).1) k) ?_
          show own_R p.tables e below P (T71.setTop (mkF m 109 #[.val (.long p0), .second, .val (.long p1), .second, .val (.long p2), .second, .val (.long p3), .second, .val (.long p4), .second, .val (.int p5), .val (.int (3 : Int32)), .val (.ref b61), .val (.ref b62), .unset] []))
          refine own_fwd (fun t k => XS.iconst X71.here hx rfl (hb hby at_109) k) ?_
          show own_R p.tables e below P (T71.setTop (mkF m 110 #[.val (.long p0), .second, .val (.long p1), .second, .val (.long p2), .second, .val (.long p3), .second, .val (.long p4), .second, .val (.int p5), .val (.int (3 : Int32)), .val (.ref b61), .val (.ref b62), .unset] [(.int (1 : Int32))]))
          refine own_fwd (fun t k => XS.goto X71.here hx rfl (pc0 := 110) (pc' := 114) rfl (hb hby at_110) (by decide) (by decide) k) ?_
          show own_R p.tables e below P (T71.setTop (mkF m 114 #[.val (.long p0), .second, .val (.long p1), .second, .val (.long p2), .second, .val (.long p3), .second, .val (.long p4), .second, .val (.int p5), .val (.int (3 : Int32)), .val (.ref b61), .val (.ref b62), .unset] [(.int (1 : Int32))]))
          refine own_fwd (fun t k => XS.istore X71.here hx rfl (hb hby at_114) rfl (l' := #[.val (.long p0), .second, .val (.long p1), .second, .val (.long p2), .second, .val (.long p3), .second, .val (.long p4), .second, .val (.int p5), .val (.int (3 : Int32)), .val (.ref b61), .val (.ref b62), .val (.int (1 : Int32))]) rfl k) ?_
          show own_R p.tables e below P (T71.setTop (mkF m 116 #[.val (.long p0), .second, .val (.long p1), .second, .val (.long p2), .second, .val (.long p3), .second, .val (.long p4), .second, .val (.int p5), .val (.int (3 : Int32)), .val (.ref b61), .val (.ref b62), .val (.int (1 : Int32))] []))
          refine own_fwd (fun t k => XS.aload X71.here hx rfl (hb hby at_116) rfl rfl k) ?_
          show own_R p.tables e below P (T71.setTop (mkF m 118 #[.val (.long p0), .second, .val (.long p1), .second, .val (.long p2), .second, .val (.long p3), .second, .val (.long p4), .second, .val (.int p5), .val (.int (3 : Int32)), .val (.ref b61), .val (.ref b62), .val (.int (1 : Int32))] [(.ref b61)]))
          refine own_fwd (fun t k => XS.aload X71.here hx rfl (hb hby at_118) rfl rfl k) ?_
          show own_R p.tables e below P (T71.setTop (mkF m 120 #[.val (.long p0), .second, .val (.long p1), .second, .val (.long p2), .second, .val (.long p3), .second, .val (.long p4), .second, .val (.int p5), .val (.int (3 : Int32)), .val (.ref b61), .val (.ref b62), .val (.int (1 : Int32))] [(.ref b62), (.ref b61)]))
          obtain ⟨_, _, ⟨T87, L87, k87, n87⟩, -, X87, ⟨Lc87, hQ87, l87, y87, z87⟩, st87⟩ := Jvm.LawKit.callS X71 hx (y := (⟨"com/example/physalia/physalia/model/Marking", "covers", "([J[J)Z"⟩ : MethodName)) hown (mvT hZ (hw _ (List.mem_of_getElem? (i := 1) rfl))) (mvT hZ (hw _ (List.mem_of_getElem? (i := 2) rfl))) (mvT hZ (hw _ (List.mem_of_getElem? (i := 3) rfl))) (mvT hZ (hw _ (List.mem_of_getElem? (i := 4) rfl))) (by decide) (backOf (W := 0) (own_rm1 l Z a0 hw [] b61 b62 3 (own_upd (own_upd (own_upd (fun _ => (0 : Int64)) 0 p0) 1 p1) 2 p4) (own_upd (own_upd (own_upd (fun _ => (0 : Int64)) 0 p2) 1 p3) 2 p2) h71 n0 Z71 A70__x71 A71_) hZ (hw _ (List.mem_of_getElem? (i := 4) rfl)) (hw _ (List.mem_of_getElem? (i := 3) rfl)) (by decide) (by decide)) (g := (mkF m 120 #[.val (.long p0), .second, .val (.long p1), .second, .val (.long p2), .second, .val (.long p3), .second, .val (.long p4), .second, .val (.int p5), .val (.int (3 : Int32)), .val (.ref b61), .val (.ref b62), .val (.int (1 : Int32))] [(.ref b62), (.ref b61)])) rfl (by rw [hml]; rfl) (argsL := [(.ref b61), (.ref b62)]) (rest := []) (lenOf own_pd1 rfl) rfl (by show 2 * 0 + _ ≤ _; exact Nat.le_of_eq rfl) (hb hby at_120) (fun _ _ => ⟨rfl, e71, (by decide : 2 + 0 ≤ _), (by decide : 6 + 0 ≤ _)⟩)
          dsimp only [Pt.U, Pt.locs, Pt.cells, Pt.slots] at X87 l87 y87 z87 st87 hQ87
          subst l87 y87 z87
          obtain ⟨h87, e87⟩ : ∃ z, T87.heap = z := ⟨_, rfl⟩
          rw [e87] at hQ87
          obtain ⟨r87, hq87, N87q, q87, hR⟩ := hQ87
          rw [q87] at e87
          subst hq87
          have N87 := Fr.app N71 N87q
          refine own_fwd st87 ?_
          show own_R p.tables e below P (T87.setTop (mkF m 123 #[.val (.long p0), .second, .val (.long p1), .second, .val (.long p2), .second, .val (.long p3), .second, .val (.long p4), .second, .val (.int p5), .val (.int (3 : Int32)), .val (.ref b61), .val (.ref b62), .val (.int (1 : Int32))] [(.int r87)]))
          refine own_fwd (fun t k => XS.iload X87.here hx rfl (hb hby at_123) rfl k) ?_
          show own_R p.tables e below P (T87.setTop (mkF m 125 #[.val (.long p0), .second, .val (.long p1), .second, .val (.long p2), .second, .val (.long p3), .second, .val (.long p4), .second, .val (.int p5), .val (.int (3 : Int32)), .val (.ref b61), .val (.ref b62), .val (.int (1 : Int32))] [(.int (1 : Int32)), (.int r87)]))
          have hc88 : r87 = (1 : Int32) := by
            rcases hR with ⟨h1, h2⟩ | ⟨h1, i, hi, h2⟩
            · exact h1
            · exfalso
              rcases (by omega : i = 0 ∨ i = 1 ∨ i = 2) with rfl | rfl | rfl
              · exact hc73 ((lw_lt _ _).mpr h2)
              · exact hc78 ((lw_lt _ _).mpr h2)
              · exact hc83 ((lw_lt _ _).mpr h2)
          refine own_fwd (fun t k => XS.icmpNo X87.here hx rfl (hb hby at_125) rfl (teq hc88).2 k) ?_
          show own_R p.tables e below P (T87.setTop (mkF m 128 #[.val (.long p0), .second, .val (.long p1), .second, .val (.long p2), .second, .val (.long p3), .second, .val (.long p4), .second, .val (.int p5), .val (.int (3 : Int32)), .val (.ref b61), .val (.ref b62), .val (.int (1 : Int32))] []))
          refine own_fwd (fun t k => XS.iconst X87.here hx rfl (hb hby at_128) k) ?_
          show own_R p.tables e below P (T87.setTop (mkF m 129 #[.val (.long p0), .second, .val (.long p1), .second, .val (.long p2), .second, .val (.long p3), .second, .val (.long p4), .second, .val (.int p5), .val (.int (3 : Int32)), .val (.ref b61), .val (.ref b62), .val (.int (1 : Int32))] [(.int (1 : Int32))]))
          refine own_fwd (fun t k => XS.goto X87.here hx rfl (pc0 := 129) (pc' := 133) rfl (hb hby at_129) (by decide) (by decide) k) ?_
          show own_R p.tables e below P (T87.setTop (mkF m 133 #[.val (.long p0), .second, .val (.long p1), .second, .val (.long p2), .second, .val (.long p3), .second, .val (.long p4), .second, .val (.int p5), .val (.int (3 : Int32)), .val (.ref b61), .val (.ref b62), .val (.int (1 : Int32))] [(.int (1 : Int32))]))
          obtain ⟨fs89, hr89, hrun89, hended89, hW89, hsame89⟩ := X87.leave (v := some (.int (1 : Int32))) (fun h => by rw [Bd.returns] at h; cases h)
          refine ⟨_, _, X87.ireturnOut hx (w := (1 : Int32)) Bd.returns rfl (by simp) (hb hby at_133) hr89, fin _ _ ⟨hrun89, hended89, _, _, rfl, ?_, ⟨_, rfl⟩, hW89, hsame89.mono (by decide) (by decide)⟩⟩
          show own_Qlaw Z p0 p1 p2 p3 p4 p5 h0 n0 _ T87.heap _
          rw [e87]
          exact ⟨rfl, N87⟩
set_option maxRecDepth 65536 in
set_option maxHeartbeats 40000000 in
theorem own_comes {Post : Tables → Env → Array Value → State → Outcome → State → Prop} (hpost : ∀ tb e args s v u, (limb_1_1.after args s (.returned v) u = true ∧ limb_1_2.after args s (.returned v) u = true ∧ True) → FrameEnd s (.returned v) u (Jvm.fieldLocs frame_1_writes args s ++ Jvm.arrayLocs frame_1_arrays args s ++ Jvm.staticLocs frame_1_statics s) 16 128 → Post tb e args s (.returned v) u) :
    ArmFor flags0 classFile x code maxLocals ret World_1 tables_1 room_1 Calls_1 rest_1 Pre_1 Post := by
  intro l hfl _ _ p e ha hc hk s m args below hf hA hF happ hP
  obtain ⟨hcalls, hrest, hpre⟩ := hP
  obtain ⟨-, -, -, hnamed, -, -, -, hat⟩ := (Spec.applies_iff hf).mp happ
  obtain ⟨hg, hn⟩ := and_e (Cond.before_iff.mp (show (Jvm.Cond.and given_1 narrow_1).before args s = true from hpre))
  obtain ⟨g1, g2⟩ := and_e hg
  obtain ⟨g3, g4⟩ := and_e g2
  obtain ⟨g5, g6⟩ := and_e g4
  obtain ⟨g7, g8⟩ := and_e g6
  obtain ⟨g9, g10⟩ := and_e g8
  obtain ⟨g11, g12⟩ := and_e g10
  obtain ⟨w0, w1, w2, w3, w4, w5, rfl⟩ : ∃ w0 w1 w2 w3 w4 w5 : Value, args = #[w0, w1, w2, w3, w4, w5] := by
    have hs : args.size = 6 := by simpa [Cond.value, given_1] using g1
    obtain ⟨L⟩ := args
    match L, hs with
    | [w0, w1, w2, w3, w4, w5], _ => exact ⟨w0, w1, w2, w3, w4, w5, rfl⟩
  have hw := fun d (hd : d ∈ tables_1) => atoms_spec (ws := Jvm.Cond.code x code maxLocals ret :: tables_1) hat d (List.mem_cons_of_mem _ hd)
  obtain ⟨i0, ei0⟩ := isL_v g3
  obtain rfl : w0 = (.long i0) := Option.some.inj ei0
  obtain ⟨i1, ei1⟩ := isL_v g5
  obtain rfl : w1 = (.long i1) := Option.some.inj ei1
  obtain ⟨i2, ei2⟩ := isL_v g7
  obtain rfl : w2 = (.long i2) := Option.some.inj ei2
  obtain ⟨i3, ei3⟩ := isL_v g9
  obtain rfl : w3 = (.long i3) := Option.some.inj ei3
  obtain ⟨i4, ei4⟩ := isL_v g11
  obtain rfl : w4 = (.long i4) := Option.some.inj ei4
  obtain ⟨i5, ei5⟩ := is_v g12
  obtain rfl : w5 = (.int i5) := Option.some.inj ei5
  obtain ⟨n, o, h1, h2, h3, _, L, rfl, ⟨rfl, N⟩, hq⟩ := own_rmlaw l s _ hw tables_1 i0 i1 i2 i3 i4 i5 s.heap s.heap.size (Nat.le_refl _) p e ha hc hk s m _ below hf ((Spec.applies_iff_loose hf).mp happ).1 ⟨rfl, State.Warmed39.refl s, rfl⟩ trivial
  refine ⟨n, _, h1, h2, h3, hpost _ _ _ _ _ _ ⟨Cond.after_iff.mpr rfl, Cond.after_iff.mpr (eq_i res_at (Term.int_eval (1)) rfl), trivial⟩ ⟨hq.1, hq.2.1, (hq.2.2.sift fun y hy => Or.inr (N y hy)).mono (by decide) (by decide)⟩⟩
theorem main_1_1 : Claimed_1_1 := own_comes fun _ _ _ _ _ _ h hF => ⟨h.1, hF⟩
theorem main_1_2 : Claimed_1_2 := own_comes fun _ _ _ _ _ _ h hF => ⟨h.2.1, hF⟩
end Jvm.Pilot.@@N@@
namespace Jvm.Pilot.@@N@@
open Jvm Jvm.ClassFile Sem Op Lib Jvm.Free Jvm.Stand Jvm.Pilot.@@N@@.Jvm.D
/-! MADE BY PROGRAM (witnessworld.py) out of the Statement's table words and the real class files: 11 classes; the members and pool entries that the words name. The judged class is class 1, her method 1. -/
namespace start1
open Jvm.ClassFile
def u (s : String) : CpInfo := .utf8 (stringToUtf16 s)
/-- a pool by its gaps: so many unusable entries, then the entry; so many at the end -/
def gap : Nat → List CpInfo → List CpInfo
  | 0, r => r
  | n + 1, r => .unusable :: gap n r
def poolList (es : List (Nat × CpInfo)) (last : Nat) : List CpInfo := es.foldr (fun e r => gap e.1 (e.2 :: r)) (gap last [])
def pool (es : List (Nat × CpInfo)) (last : Nat) : Array CpInfo := ⟨poolList es last⟩
def fileOf (pool : Array CpInfo) (this : Nat) (attrs : Array Attribute := #[]) (ms : Array MethodInfo := #[]) (fl : Nat := 33) (sup : Nat := 0) (ifs : Array Nat := #[]) (fds : Array FieldInfo := #[]) : ClassFile where
  minorVersion := 0
  majorVersion := 65
  constantPool := pool
  accessFlags := fl
  thisClass := this
  superClass := sup
  interfaces := ifs
  fields := fds
  methods := ms
  attributes := attrs
def plain (name : String) (sup : Option ClassId) : Class where
  name := name
  kind := .ordinary
  loader := none
  accessFlags := 33
  super := sup
  interfaces := #[]
  cf := none
  fields := #[]
  methods := #[]
  instanceTypes := #[]
  staticTypes := #[]
  resolved := #[]
  callSites := []
  init := .initialized
  statics := none
  mirror := none

def pool0 : Array CpInfo := pool [(5, u "<init>"), (0, u "()V"), (1, .class_ 10), (1, u "java/lang/Object")] 113

def k0m0 : Method := { name := "<init>", desc := "()V", sig := { parameters := [], returnType := none }, accessFlags := 1, code := none }
/-- java/lang/Object -/
def k0 : Class := { plain "java/lang/Object" none with
  accessFlags := 33
  interfaces := #[]
  cf := some (fileOf pool0 8 #[] #[{ accessFlags := 1, nameIndex := 5, descriptorIndex := 6, attributes := #[] }] 33 0 #[] #[])
  fields := #[]
  methods := #[k0m0]
  instanceTypes := #[]
  staticTypes := #[]
  resolved := Array.replicate 124 none
  statics := none }

def pool1 : Array CpInfo := pool [(2, .class_ 4), (1, u "java/lang/Object"), (0, u "<init>"), (0, u "()V"), (0, .methodref 8 9), (0, .class_ 10), (0, .nameAndType 11 12), (0, u "com/example/physalia/physalia/model/Marking"), (0, u "covers"), (0, u "([J[J)Z"), (0, .class_ 14), (0, u "com/example/physalia/physalia/model/MarkingCoversPinLaw"), (2, u "law"), (0, u "(JJJJJI)Z")] 5

def k1m0 : Method := { name := "<init>", desc := "()V", sig := { parameters := [], returnType := none }, accessFlags := 1, code := none }
def k1c1 : Code := { maxStack := 4, maxLocals := 15, code := code, exceptionTable := #[], attributes := #[] }
def k1m1 : Method := { name := "law", desc := "(JJJJJI)Z", sig := { parameters := [.long, .long, .long, .long, .long, .int], returnType := some .boolean }, accessFlags := 9, code := some k1c1 }
/-- com/example/physalia/physalia/model/MarkingCoversPinLaw -/
def k1 : Class := { plain "com/example/physalia/physalia/model/MarkingCoversPinLaw" (some 0) with
  accessFlags := 49
  interfaces := #[]
  cf := some (fileOf pool1 13 #[] #[{ accessFlags := 1, nameIndex := 5, descriptorIndex := 6, attributes := #[] }, { accessFlags := 9, nameIndex := 17, descriptorIndex := 18, attributes := #[] }] 49 2 #[] #[])
  fields := #[]
  methods := #[k1m0, k1m1]
  instanceTypes := #[]
  staticTypes := #[]
  resolved := Array.replicate 24 none
  statics := none }

def pool2 : Array CpInfo := pool [(2, .class_ 4), (1, u "java/lang/Object"), (3, .class_ 10), (1, u "com/example/physalia/physalia/model/Marking"), (4, u "tokens"), (0, u "[J"), (16, u "covers"), (0, u "([J[J)Z"), (0, .methodref 8 36), (0, .nameAndType 37 38), (0, u "checkSameSize"), (0, u "(II)V")] 72

def k2c0 : Code := { maxStack := 4, maxLocals := 3, code := prog_33_method_7_code, exceptionTable := #[], attributes := #[] }
def k2m0 : Method := { name := "covers", desc := "([J[J)Z", sig := { parameters := [(.array .long), (.array .long)], returnType := some .boolean }, accessFlags := 8, code := some k2c0 }
def k2c1 : Code := { maxStack := 4, maxLocals := 2, code := prog_33_method_8_code, exceptionTable := #[], attributes := #[] }
def k2m1 : Method := { name := "checkSameSize", desc := "(II)V", sig := { parameters := [.int, .int], returnType := none }, accessFlags := 8, code := some k2c1 }
/-- com/example/physalia/physalia/model/Marking -/
def k2 : Class := { plain "com/example/physalia/physalia/model/Marking" (some 0) with
  accessFlags := 33
  interfaces := #[]
  cf := some (fileOf pool2 8 #[] #[{ accessFlags := 8, nameIndex := 33, descriptorIndex := 34, attributes := #[] }, { accessFlags := 8, nameIndex := 37, descriptorIndex := 38, attributes := #[] }] 33 2 #[] #[{ accessFlags := 18, nameIndex := 15, descriptorIndex := 16, attributes := #[] }])
  fields := #[{ name := "tokens", type := (.array .long), accessFlags := 18, slot := 0, constantValue := 0 }]
  methods := #[k2m0, k2m1]
  instanceTypes := #[(.array .long)]
  staticTypes := #[]
  resolved := Array.replicate 111 none
  statics := none }

def pool3 : Array CpInfo := pool [(1, u "java/lang/Cloneable"), (0, .class_ 1), (0, u "java/lang/Object"), (0, .class_ 3)] 3

/-- java/lang/Cloneable -/
def k3 : Class := { plain "java/lang/Cloneable" (some 0) with
  accessFlags := 1537
  interfaces := #[]
  cf := some (fileOf pool3 2 #[] #[] 1537 4 #[] #[])
  fields := #[]
  methods := #[]
  instanceTypes := #[]
  staticTypes := #[]
  resolved := Array.replicate 8 none
  statics := none }

def pool4 : Array CpInfo := pool [(1, u "java/io/Serializable"), (0, .class_ 1), (0, u "java/lang/Object"), (0, .class_ 3)] 3

/-- java/io/Serializable -/
def k4 : Class := { plain "java/io/Serializable" (some 0) with
  accessFlags := 1537
  interfaces := #[]
  cf := some (fileOf pool4 2 #[] #[] 1537 4 #[] #[])
  fields := #[]
  methods := #[]
  instanceTypes := #[]
  staticTypes := #[]
  resolved := Array.replicate 8 none
  statics := none }

/-- the primitive byte -/
def k5 : Class := { plain "byte" none with kind := .primitive 'B', accessFlags := 0x411 }
/-- [B -/
def k6 : Class := { plain "[B" (some 0) with kind := .array 5 .byte, interfaces := #[3, 4], accessFlags := 1041 }

/-- the primitive int -/
def k7 : Class := { plain "int" none with kind := .primitive 'I', accessFlags := 0x411 }
/-- [I -/
def k8 : Class := { plain "[I" (some 0) with kind := .array 7 .int, interfaces := #[3, 4], accessFlags := 1041 }

/-- the primitive long -/
def k9 : Class := { plain "long" none with kind := .primitive 'J', accessFlags := 0x411 }
/-- [J -/
def k10 : Class := { plain "[J" (some 0) with kind := .array 9 .long, interfaces := #[3, 4], accessFlags := 1041 }

def heap : Heap := #[]
def classes : Array Class := #[k0, k1, k2, k3, k4, k5, k6, k7, k8, k9, k10]
def interned : List (Array UInt16 × Addr) := []
def slotsUsed : Nat := 0
def theMethod : MethodId := ⟨1, 1⟩
def args0 : Array Value := #[.long 5, .long 9, .long 3, .long 4, .long 0, .int 2]
def aboutOver (below : List Frame) : State where
  vm := { classes := classes, interned := interned.toArray }
  heap := heap
  slotsUsed := slotsUsed
  threads := #[{ frames := .invoking theMethod args0 :: below }]
def below0 : List Frame := [.native { method := ⟨0, 0⟩, args := #[] }]
def about1 : State := aboutOver below0
def p0 : Program := .bare "" "" ""
def e0 : Env := launch0.env 0 0 0
theorem w_frames : about1.frames = Frame.invoking theMethod args0 :: below0 := rfl
set_option maxRecDepth 65536 in
theorem w_args : argsFit about1.vm theMethod args0 = true := by decide +kernel
set_option maxRecDepth 65536 in
theorem w_heap : heapFits about1 = true := by decide +kernel
set_option maxRecDepth 65536 in
theorem w_runnable : about1.curStatus? = some .runnable := by decide +kernel
set_option maxRecDepth 65536 in
theorem w_alone : about1.alone = true := by decide +kernel
set_option maxRecDepth 65536 in
theorem w_named : about1.methodNamed? x = some theMethod := by decide +kernel
set_option maxRecDepth 65536 in
theorem w_hears : about1.hears theMethod below0 = true := by decide +kernel
set_option maxRecDepth 65536 in
theorem w_ripe : about1.ripe theMethod args0 below0 = true := by decide +kernel
theorem w_running : about1.status = .running := rfl
set_option maxRecDepth 65536 in
theorem w_room : about1.hasRoom e0.platform room_1 = true :=
  launch0.hasRoom_least _ room_1 (by decide +kernel) (by decide +kernel) (by decide +kernel) (by decide +kernel) (by decide +kernel) (by decide +kernel)
theorem allAtoms_all (ts : List Jvm.Cond) (a : Array Jvm.Value) (st : Jvm.State) : (allAtoms ts).before a st = ts.all (fun c => c.before a st) := by
  induction ts with
  | nil => rfl
  | cons c t ih =>
    show (Jvm.Cond.and c (allAtoms t)).before a st = _
    rw [Jvm.Cond.before_and, ih, List.all_cons]
def words1 : List Jvm.Cond := Jvm.Cond.code x code maxLocals ret :: tables_1
/-- a 'code' word, met by the world's own term for the bytes: nothing is compared byte by byte -/
theorem code_word {y : MethodName} {bytes : ByteArray} {mx : Nat} {rt : Option FieldType} {a : Array Value} {s : State} {m : MethodId} {meth : Method} {c : Code} (h1 : s.methodNamed? y = some m) (h2 : s.vm.method? m = some meth) (h3 : meth.code = some c) (h4 : c.code = bytes)
    (h5 : (c.maxLocals == mx && c.exceptionTable.isEmpty && decide (c.maxStack ≤ mostOperands) && decide (meth.sig.returnType = rt) && !meth.locks && decide (parseMethodDescriptor y.desc = some meth.sig)) = true) : (Jvm.Cond.code y bytes mx rt).before a s = true := by
  simp only [Bool.and_eq_true, beq_iff_eq, Bool.not_eq_true', decide_eq_true_eq] at h5
  obtain ⟨⟨⟨⟨⟨g1, g2⟩, g3⟩, g4⟩, g5⟩, g6⟩ := h5
  simp [Cond.before, Cond.holds, Cond.value, h1, h2, h3, h4, g1, g2, g3, g4, g5, g6]
def isCode : Jvm.Cond → Bool
  | .code _ _ _ _ => true
  | _ => false
theorem all_split {L : List Jvm.Cond} {P : Jvm.Cond → Bool} (h1 : L.all (fun c => isCode c || P c) = true) (h2 : ∀ c ∈ L.filter isCode, P c = true) : L.all P = true := by
  refine List.all_eq_true.mpr fun c hc => ?_
  have h := List.all_eq_true.mp h1 c hc
  rcases Bool.eq_false_or_eq_true (isCode c) with hi | hi
  · exact h2 c (List.mem_filter.mpr ⟨hc, hi⟩)
  · simpa [hi] using h
set_option maxRecDepth 65536 in
theorem w_c0 : (Jvm.Cond.code x code maxLocals ret).before args0 about1 = true := code_word (m := ⟨1, 1⟩) (meth := k1m1) (c := k1c1) (by decide +kernel) rfl rfl rfl (by decide +kernel)
set_option maxRecDepth 65536 in
theorem w_c1 : (Jvm.Cond.code ({ cls := "com/example/physalia/physalia/model/Marking", name := "covers", desc := "([J[J)Z" } : Jvm.MethodName) prog_33_method_7_code (3 : Nat) (Option.some Jvm.ClassFile.FieldType.boolean)).before args0 about1 = true := code_word (m := ⟨2, 0⟩) (meth := k2m0) (c := k2c0) (by decide +kernel) rfl rfl rfl (by decide +kernel)
set_option maxRecDepth 65536 in
theorem w_c2 : (Jvm.Cond.code ({ cls := "com/example/physalia/physalia/model/Marking", name := "checkSameSize", desc := "(II)V" } : Jvm.MethodName) prog_33_method_8_code (2 : Nat) (Option.none : Option Jvm.ClassFile.FieldType)).before args0 about1 = true := code_word (m := ⟨2, 1⟩) (meth := k2m1) (c := k2c1) (by decide +kernel) rfl rfl rfl (by decide +kernel)
def codes1 : List Jvm.Cond := [Jvm.Cond.code x code maxLocals ret, Jvm.Cond.code ({ cls := "com/example/physalia/physalia/model/Marking", name := "covers", desc := "([J[J)Z" } : Jvm.MethodName) prog_33_method_7_code (3 : Nat) (Option.some Jvm.ClassFile.FieldType.boolean), Jvm.Cond.code ({ cls := "com/example/physalia/physalia/model/Marking", name := "checkSameSize", desc := "(II)V" } : Jvm.MethodName) prog_33_method_8_code (2 : Nat) (Option.none : Option Jvm.ClassFile.FieldType)]
set_option maxRecDepth 65536 in
theorem codes_eq : words1.filter isCode = codes1 := rfl
theorem w_codes : ∀ c ∈ words1.filter isCode, c.before args0 about1 = true := by
  rw [codes_eq]
  intro c hc
  simp only [codes1, List.mem_cons, List.not_mem_nil, or_false] at hc
  rcases hc with rfl | rfl | rfl
  · exact w_c0
  · exact w_c1
  · exact w_c2
set_option maxRecDepth 65536 in
theorem w_t1 : words1.all (fun c => isCode c || c.before args0 about1) = true := by decide +kernel
theorem w_tables : (allAtoms (Jvm.Cond.code x code maxLocals ret :: tables_1)).before args0 about1 = true := by
  rw [allAtoms_all]
  show words1.all (fun c => c.before args0 about1) = true
  refine all_split ?_ w_codes
  rw [w_t1]
set_option maxRecDepth 65536 in
theorem w_case : (Jvm.Cond.and given_1 narrow_1).before args0 about1 = true := by decide +kernel
theorem w_applies : (headSpec (Jvm.Cond.code x code maxLocals ret :: tables_1) room_1).applies x e0.platform about1 = true :=
  (Spec.applies_iff w_frames).mpr ⟨w_running, w_runnable, w_alone, w_named, w_hears, w_ripe, w_room, w_tables⟩
theorem atStart : AtStart classFile x code maxLocals ret World_1 tables_1 room_1 Calls_1 rest_1 Pre_1 launch0 p0 e0 about1 theMethod args0 below0 :=
  ⟨lists_1, trivial, launch0.admits_env _ _ _, launch0.least_env, fairChoices_fair.cas, fairChoices_fair.clock, w_frames, w_args, w_heap, w_applies, trivial, trivial, w_case⟩
end start1
theorem witness_1 : WitnessClaimed_1 := ⟨start1.p0, start1.e0, start1.about1, start1.theMethod, start1.args0, start1.below0, start1.atStart⟩
end Jvm.Pilot.@@N@@

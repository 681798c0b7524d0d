import JvmDerived
import JvmDerived.Pilot.@@N@@Statement
import JvmDerived.Pilot.@@N@@Code
set_option linter.unusedVariables false
set_option linter.unusedSimpArgs false
namespace Jvm.Pilot.@@N@@
open Jvm Jvm.ClassFile Sem Op Lib Jvm.Free Jvm.Stand Jvm.LawKit Jvm.RoadKit Bundle Jvm.Pilot.@@N@@.Jvm.D
/-! own layer: forward walking in continuation style, arrays as functions -/
def own_R (tb : Tables) (e : Env) (below : List Frame) (P : State → Outcome → Prop) (st : State) : Prop := ∃ t o, Steps tb e below st t ∧ P t o
theorem own_fwd {tb : Tables} {e : Env} {below : List Frame} {P : State → Outcome → Prop} {st st' : State} (k : ∀ t, Steps tb e below st' t → Steps tb e below st t) (h : own_R tb e below P st') : own_R tb e below P st := by
  obtain ⟨t, o, h1, h2⟩ := h; exact ⟨t, o, k t h1, h2⟩
theorem own_trn {tb : Tables} {e : Env} {below : List Frame} {P : State → Outcome → Prop} {st st' : State} (k : Steps tb e below st st') (h : own_R tb e below P st') : own_R tb e below P st := own_fwd (fun _ q => k.trans q) h
theorem own_nm {tb : Tables} {e : Env} {below : List Frame} {P : State → Outcome → Prop} {st : State} (h : ∀ P' : State → Outcome → Prop, (∀ t o, P t o → P' t o) → own_R tb e below P' st) : own_R tb e below P st := h P fun _ _ q => q
/-- an array, n long, place i holds f i -/
def own_AV (Z : State) (h : Heap) (a : Addr) (ty : FieldType) (n : Nat) (f : Nat → Value) : Prop := ∃ c : Cell, Arr Z h a c ty ∧ c.slots.size = n ∧ n < 2 ^ 31 ∧ ∀ i, i < n → c.slots[i]? = some (f i)
abbrev own_AI (Z : State) (h : Heap) (a : Addr) (ty : FieldType) (n : Nat) (f : Nat → Int32) : Prop := own_AV Z h a ty n fun i => .int (f i)
abbrev own_AJ (Z : State) (h : Heap) (a : Addr) (n : Nat) (f : Nat → Int64) : Prop := own_AV Z h a .long n fun i => .long (f i)
def own_upd {α : Type} (f : Nat → α) (i : Nat) (x : α) : Nat → α := fun k => if k = i then x else f k
theorem own_upd_hit {α : Type} (f : Nat → α) (i : Nat) (x : α) : own_upd f i x i = x := if_pos rfl
theorem own_upd_miss {α : Type} (f : Nat → α) {i k : Nat} (x : α) (q : k ≠ i) : own_upd f i x k = f k := if_neg q
section Own
variable {p : Program} {l : Launch} {e : Env} {R : Room} {s : State} {m : MethodId} {args : Array Value} {below : List Frame} {meth : Method} {c : Code} {T : State} {locs : List Loc} {cells slots : Nat} {Z : State} {a0 : Array Value} {h h' : Heap} {a b : Addr} {ty : FieldType} {n : Nat} {f : Nat → Value} {v : Value} {sl : Nat}
theorem own_AV.lt (F : own_AV Z h a ty n f) : a < h.size := by obtain ⟨c, A, -⟩ := F; exact A.lt
theorem own_AV.bd (F : own_AV Z h a ty n f) : n < 2 ^ 31 := by obtain ⟨c, A, -, q, -⟩ := F; exact q
theorem own_AV.ext (F : own_AV Z h a ty n f) (E : Ext h h') : own_AV Z h' a ty n f := by obtain ⟨c, A, r⟩ := F; exact ⟨c, A.ext E, r⟩
theorem own_AV.other (F : own_AV Z h b ty n f) (W : Wr h h' a sl v) (q : b ≠ a) : own_AV Z h' b ty n f := by obtain ⟨c, A, r⟩ := F; exact ⟨c, A.other W q, r⟩
theorem own_AV.keep {ws : List Addr} (F : own_AV Z h a ty n f) (K : Keep h h' ws) (q : a ∉ ws) : own_AV Z h' a ty n f := by obtain ⟨c, A, r⟩ := F; exact ⟨c, ⟨K.2.1 a c A.1 q, A.2⟩, r⟩
theorem own_AV.cong {f' : Nat → Value} (F : own_AV Z h a ty n f) (q : ∀ i, i < n → f' i = f i) : own_AV Z h a ty n f' := by obtain ⟨c, A, r1, r2, r3⟩ := F; exact ⟨c, A, r1, r2, fun i hi => by rw [q i hi]; exact r3 i hi⟩
theorem own_clamp {j : Int32} {i : Nat} (hj : j.toInt = (i : Int)) : j.toNatClampNeg = i ∧ ¬ j < 0 := by
  have q0 : (0 : Int32).toInt = 0 := rfl
  exact ⟨by unfold Int32.toNatClampNeg; omega, by rw [Int32.lt_iff_toInt_lt]; omega⟩
theorem own_inb {cl : Cell} {j : Int32} {i : Nat} (hj : j.toInt = (i : Int)) (S : cl.slots.size = n) (hi : i < n) : ¬ (j < 0 ∨ cl.slots.size ≤ j.toNatClampNeg) := by
  obtain ⟨q1, q2⟩ := own_clamp hj
  rw [q1]; rintro (q | q)
  · exact q2 q
  · omega
theorem own_AV.new {k : ClassId} {z : Int32} (A : Arr Z h a (newA k ty z) ty) (hz : z.toInt = (n : Int)) : own_AV Z h a ty n (fun _ => defaultValue ty) := by
  obtain ⟨q1, q2⟩ := own_clamp hz
  have hb := z.toInt_lt
  refine ⟨_, A, by rw [sz_new]; exact q1, by omega, fun i hi => ?_⟩
  simp [newA, q1, hi]
theorem own_ldI (X : Stand p l e R s m args below meth c T locs cells slots) (hx : p.tables.exec = Jvm.exec) (hZ : Z.Warmed39 s.vm) (eT : T.heap = h) (F : own_AV Z h a .int n f) {j : Int32} (i : Nat) (hj : j.toInt = (i : Int)) (hi : i < n) {g : JFrame} (hg : g.method = m) {rest : List Value} (hs : g.stack = .int j :: .ref a :: rest) (hd : decode c.code g.pc = .ok (.iaload, 1)) :
    ∀ t, Steps p.tables e below (T.setTop { g with pc := g.pc + 1, stack := f i :: rest }) t → Steps p.tables e below (T.setTop g) t := fun t k => by
  obtain ⟨cl, A, S, -, H⟩ := F
  exact X.iaload hx (by rw [eT]; exact A.1) (State.isArrayOf_alike hZ.alike A.2.1) A.2.2 (own_inb hj S hi) (by rw [(own_clamp hj).1]; exact H i hi) hg hs hd t k
theorem own_ldS (X : Stand p l e R s m args below meth c T locs cells slots) (hx : p.tables.exec = Jvm.exec) (hZ : Z.Warmed39 s.vm) (eT : T.heap = h) (F : own_AV Z h a .short n f) {j : Int32} (i : Nat) (hj : j.toInt = (i : Int)) (hi : i < n) {g : JFrame} (hg : g.method = m) {rest : List Value} (hs : g.stack = .int j :: .ref a :: rest) (hd : decode c.code g.pc = .ok (.saload, 1)) :
    ∀ t, Steps p.tables e below (T.setTop { g with pc := g.pc + 1, stack := f i :: rest }) t → Steps p.tables e below (T.setTop g) t := fun t k => by
  obtain ⟨cl, A, S, -, H⟩ := F
  exact X.saload hx (by rw [eT]; exact A.1) (State.isArrayOf_alike hZ.alike A.2.1) A.2.2 (own_inb hj S hi) (by rw [(own_clamp hj).1]; exact H i hi) hg hs hd t k
theorem own_ldC (X : Stand p l e R s m args below meth c T locs cells slots) (hx : p.tables.exec = Jvm.exec) (hZ : Z.Warmed39 s.vm) (eT : T.heap = h) (F : own_AV Z h a .char n f) {j : Int32} (i : Nat) (hj : j.toInt = (i : Int)) (hi : i < n) {g : JFrame} (hg : g.method = m) {rest : List Value} (hs : g.stack = .int j :: .ref a :: rest) (hd : decode c.code g.pc = .ok (.caload, 1)) :
    ∀ t, Steps p.tables e below (T.setTop { g with pc := g.pc + 1, stack := f i :: rest }) t → Steps p.tables e below (T.setTop g) t := fun t k => by
  obtain ⟨cl, A, S, -, H⟩ := F
  exact X.caload hx (by rw [eT]; exact A.1) (State.isArrayOf_alike hZ.alike A.2.1) A.2.2 (own_inb hj S hi) (by rw [(own_clamp hj).1]; exact H i hi) hg hs hd t k
theorem own_ldJ (X : Stand p l e R s m args below meth c T locs cells slots) (hx : p.tables.exec = Jvm.exec) (hZ : Z.Warmed39 s.vm) (eT : T.heap = h) (F : own_AV Z h a .long n f) {j : Int32} (i : Nat) (hj : j.toInt = (i : Int)) (hi : i < n) {g : JFrame} (hg : g.method = m) {rest : List Value} (hs : g.stack = .int j :: .ref a :: rest) (hd : decode c.code g.pc = .ok (.laload, 1)) :
    ∀ t, Steps p.tables e below (T.setTop { g with pc := g.pc + 1, stack := f i :: rest }) t → Steps p.tables e below (T.setTop g) t := fun t k => by
  obtain ⟨cl, A, S, -, H⟩ := F
  exact X.laload hx (by rw [eT]; exact A.1) (State.isArrayOf_alike hZ.alike A.2.1) A.2.2 (own_inb hj S hi) (by rw [(own_clamp hj).1]; exact H i hi) hg hs hd t k
theorem own_len (X : Stand p l e R s m args below meth c T locs cells slots) (hx : p.tables.exec = Jvm.exec) (hZ : Z.Warmed39 s.vm) (eT : T.heap = h) (F : own_AV Z h a ty n f) (z : Int32) (hz : z.toInt = (n : Int)) {g : JFrame} (hg : g.method = m) {rest : List Value} (hs : g.stack = .ref a :: rest) (hd : decode c.code g.pc = .ok (.arraylength, 1)) :
    ∀ t, Steps p.tables e below (T.setTop { g with pc := g.pc + 1, stack := .int z :: rest }) t → Steps p.tables e below (T.setTop g) t := fun t k => by
  obtain ⟨cl, A, S, q, H⟩ := F
  have e1 : cl.slots.size.toInt32 = z := by
    rw [S]; apply Int32.toInt_inj.mp; rw [hz]; exact len_toInt q
  refine X.arraylength hx (by rw [eT]; exact A.1) (State.isArrayOf_alike hZ.alike A.2.1) hg hs hd t ?_
  rw [e1]; exact k
theorem own_AV.set {h' : Heap} {cl : Cell} {j : Int32} {i : Nat} {w : Value} (A : Arr Z h a cl ty) (S : cl.slots.size = n) (q : n < 2 ^ 31) (H : ∀ i, i < n → cl.slots[i]? = some (f i)) (hj : j.toInt = (i : Int)) (hi : i < n) (W : Wr h h' a j.toNatClampNeg w) : own_AV Z h' a ty n (own_upd f i w) := by
  rw [(own_clamp hj).1] at W
  refine ⟨_, A.same W, by rw [sz_set]; exact S, q, fun k hk => ?_⟩
  by_cases e : k = i
  · subst e; rw [own_upd_hit]; simp [Cell.setSlot, S, hi]
  · rw [own_upd_miss _ _ e]; simp only [Cell.setSlot]; rw [Array.getElem?_setIfInBounds_ne (Ne.symm e)]; exact H k hk
theorem own_stI {g0 : Nat → Int32} (X : Stand p l e R s m args below meth c T locs cells slots) (hx : p.tables.exec = Jvm.exec) (hZ : Z.Warmed39 s.vm) (eT : T.heap = h) (F : own_AI Z h a .int n g0) {j x : Int32} (i : Nat) (hj : j.toInt = (i : Int)) (hi : i < n) {g : JFrame} (hg : g.method = m) {rest : List Value} (hs : g.stack = .int x :: .int j :: .ref a :: rest) (hd : decode c.code g.pc = .ok (.iastore, 1)) :
    ∃ T' h', Stand p l e R s m args below meth c T' (locs ++ [⟨a, j.toNatClampNeg⟩]) cells slots ∧ T'.heap = h' ∧ Wr h h' a j.toNatClampNeg (.int x) ∧ own_AI Z h' a .int n (own_upd g0 i x) ∧ ∀ t, Steps p.tables e below (T'.setTop { g with pc := g.pc + 1, stack := rest }) t → Steps p.tables e below (T.setTop g) t := by
  obtain ⟨cl, A, S, q, H⟩ := F
  obtain ⟨T', h', X', e', W, st⟩ := stI X hx hZ eT A (own_inb hj S hi) hg hs hd
  exact ⟨T', h', X', e', W, (own_AV.set A S q H hj hi W).cong fun k _ => by simp only [own_upd]; split <;> rfl, st⟩
theorem own_stS {g0 : Nat → Int32} (X : Stand p l e R s m args below meth c T locs cells slots) (hx : p.tables.exec = Jvm.exec) (hZ : Z.Warmed39 s.vm) (eT : T.heap = h) (F : own_AI Z h a .short n g0) {j x : Int32} (i : Nat) (hj : j.toInt = (i : Int)) (hi : i < n) {g : JFrame} (hg : g.method = m) {rest : List Value} (hs : g.stack = .int x :: .int j :: .ref a :: rest) (hd : decode c.code g.pc = .ok (.sastore, 1)) :
    ∃ T' h', Stand p l e R s m args below meth c T' (locs ++ [⟨a, j.toNatClampNeg⟩]) cells slots ∧ T'.heap = h' ∧ Wr h h' a j.toNatClampNeg (.int (nar .short x)) ∧ own_AI Z h' a .short n (own_upd g0 i (nar .short x)) ∧ ∀ t, Steps p.tables e below (T'.setTop { g with pc := g.pc + 1, stack := rest }) t → Steps p.tables e below (T.setTop g) t := by
  obtain ⟨cl, A, S, q, H⟩ := F
  obtain ⟨T', h', X', e', W, st⟩ := stS X hx hZ eT A (own_inb hj S hi) hg hs hd
  exact ⟨T', h', X', e', W, (own_AV.set A S q H hj hi W).cong fun k _ => by simp only [own_upd]; split <;> rfl, st⟩
theorem own_stC {g0 : Nat → Int32} (X : Stand p l e R s m args below meth c T locs cells slots) (hx : p.tables.exec = Jvm.exec) (hZ : Z.Warmed39 s.vm) (eT : T.heap = h) (F : own_AI Z h a .char n g0) {j x : Int32} (i : Nat) (hj : j.toInt = (i : Int)) (hi : i < n) {g : JFrame} (hg : g.method = m) {rest : List Value} (hs : g.stack = .int x :: .int j :: .ref a :: rest) (hd : decode c.code g.pc = .ok (.castore, 1)) :
    ∃ T' h', Stand p l e R s m args below meth c T' (locs ++ [⟨a, j.toNatClampNeg⟩]) cells slots ∧ T'.heap = h' ∧ Wr h h' a j.toNatClampNeg (.int (nar .char x)) ∧ own_AI Z h' a .char n (own_upd g0 i (nar .char x)) ∧ ∀ t, Steps p.tables e below (T'.setTop { g with pc := g.pc + 1, stack := rest }) t → Steps p.tables e below (T.setTop g) t := by
  obtain ⟨cl, A, S, q, H⟩ := F
  obtain ⟨T', h', X', e', W, st⟩ := stC X hx hZ eT A (own_inb hj S hi) hg hs hd
  exact ⟨T', h', X', e', W, (own_AV.set A S q H hj hi W).cong fun k _ => by simp only [own_upd]; split <;> rfl, st⟩
theorem own_stJ {g0 : Nat → Int64} (X : Stand p l e R s m args below meth c T locs cells slots) (hx : p.tables.exec = Jvm.exec) (hZ : Z.Warmed39 s.vm) (eT : T.heap = h) (F : own_AJ Z h a n g0) {j : Int32} {x : Int64} (i : Nat) (hj : j.toInt = (i : Int)) (hi : i < n) {g : JFrame} (hg : g.method = m) {rest : List Value} (hs : g.stack = .long x :: .int j :: .ref a :: rest) (hd : decode c.code g.pc = .ok (.lastore, 1)) :
    ∃ T' h', Stand p l e R s m args below meth c T' (locs ++ [⟨a, j.toNatClampNeg⟩]) cells slots ∧ T'.heap = h' ∧ Wr h h' a j.toNatClampNeg (.long x) ∧ own_AJ Z h' a n (own_upd g0 i x) ∧ ∀ t, Steps p.tables e below (T'.setTop { g with pc := g.pc + 1, stack := rest }) t → Steps p.tables e below (T.setTop g) t := by
  obtain ⟨cl, A, S, q, H⟩ := F
  obtain ⟨T', h', X', e', W, st⟩ := stJ X hx hZ eT A (own_inb hj S hi) hg hs hd
  exact ⟨T', h', X', e', W, (own_AV.set A S q H hj hi W).cong fun k _ => by simp only [own_upd]; split <;> rfl, st⟩
theorem own_newA (X : Stand p l e R s m args below meth c T locs cells slots) (hx : p.tables.exec = Jvm.exec) (hZ : Z.Warmed39 s.vm) {aty : ArrayType} (w : (Cond.arrayClass (newarray.typeOf aty)).before a0 Z = true) (eT : T.heap = h) {z : Int32} (hz : z.toInt = (n : Int)) {cap : Nat} (hcap : n ≤ cap) {g : JFrame} (hg : g.method = m) (hd : decode c.code g.pc = .ok (.newarray aty, 2)) {rest : List Value} (hs : g.stack = .int z :: rest)
    (hb : cap * 8 ≤ 536870912) (hc : cells + 1 ≤ R.cells) (hl : slots + cap ≤ R.slots) {ad : String} (had : "[" ++ (newarray.typeOf aty).toString = ad) :
    ∃ T' h' b, b = h.size ∧ Stand p l e R s m args below meth c T' locs (cells + 1) (slots + cap) ∧ T'.heap = h' ∧ Ext h h' ∧ own_AV Z h' b (newarray.typeOf aty) n (fun _ => defaultValue (newarray.typeOf aty)) ∧ Exa Z h' b ad ∧
      ∀ t, Steps p.tables e below (T'.setTop { g with pc := g.pc + 2, stack := .ref b :: rest }) t → Steps p.tables e below (T.setTop g) t := by
  obtain ⟨q1, q2⟩ := own_clamp hz
  obtain ⟨T', h', k, X', e', E, A, Ea, st⟩ := newPE X hx hZ w eT hg hd hs q2 (by rw [q1]; exact hcap) hb hc hl had
  exact ⟨T', h', _, rfl, X', e', E, own_AV.new A hz, Ea, st⟩
end Own
def own_two {α : Type} (x y : α) : Nat → α
  | 0 => x
  | _ => y
theorem own_two_0 {α : Type} (x y : α) : own_two x y 0 = x := rfl
theorem own_two_1 {α : Type} (x y : α) : own_two x y 1 = y := rfl
theorem own_nlt {i n : Nat} (hi : i < n) (hn : n < 2 ^ 31) : i.toInt32 < n.toInt32 := by
  rw [Int32.lt_iff_toInt_lt, len_toInt hn, len_toInt (by omega)]; omega
theorem own_nge {i n : Nat} (hi : n ≤ i) (hn : i < 2 ^ 31) : ¬ i.toInt32 < n.toInt32 := by
  rw [Int32.lt_iff_toInt_lt, len_toInt hn, len_toInt (by omega)]; omega
theorem own_nsucc {i : Nat} (hn : i + 1 < 2 ^ 31) : i.toInt32 + (1 : Int32) = (i + 1).toInt32 := by
  have e1 : (1 : Int32).toInt = 1 := rfl
  have h1 := c_iadd i.toInt32 1
  have h2 := rng32 (i.toInt32 + 1)
  rw [← Int32.toInt_inj, len_toInt hn]
  rw [len_toInt (by omega), e1] at h1
  omega
theorem own_and3 (x : Int32) : (x &&& (3 : Int32)) = 0 ∨ (x &&& (3 : Int32)) = 1 ∨ (x &&& (3 : Int32)) = 2 ∨ (x &&& (3 : Int32)) = 3 := by
  have h := c_mask x 3 2 (by decide) (by decide)
  have e : ((2 ^ 2 : Nat) : Int) = 4 := by decide
  rw [e] at h
  have e0 : (0 : Int32).toInt = 0 := rfl
  have e1 : (1 : Int32).toInt = 1 := rfl
  have e2 : (2 : Int32).toInt = 2 := rfl
  have e3 : (3 : Int32).toInt = 3 := rfl
  simp only [← Int32.toInt_inj]
  omega
theorem own_d6_0 : decode jdk_22_method_1_code 0 = .ok (.aload_n 0, 1) := by decide +kernel
theorem own_d6_1 : decode jdk_22_method_1_code 1 = .ok (.invokespecial 1, 3) := by decide +kernel
theorem own_d6_4 : decode jdk_22_method_1_code 4 = .ok (.return_, 1) := by decide +kernel
theorem own_pn0 : plainName "java/util/AbstractCollection" = true := by first | (simp [plainName, overriddenIn]; done) | decide +kernel
theorem own_ef6 (m : MethodId) (a1 : Addr) : entryFrame m #[(.ref a1)] 1 = mkF m 0 #[.val (.ref a1)] [] := by first | (simp [entryFrame, mkF, argsToLocals, Value.category]; done) | rfl
def own_Q6 (Z : State) (a1 : Addr) (h0 : Heap) (n0 : Nat) (v : Option Value) (h : Heap) (L : List Loc) : Prop := v = none ∧ Fr n0 L ∧ h = h0
set_option maxRecDepth 65536 in
set_option maxHeartbeats 40000000 in
theorem own_rm6 (l : Launch) (Z : State) (a0 : Array Value) (hw : ∀ d ∈ tables_1, d.before a0 Z = true) (ws : List Jvm.Cond) (a1 : Addr) (h0 : Heap) (n0 : Nat) (Z0 : n0 ≤ h0.size) :
    MetFree l (⟨"java/util/AbstractCollection", "<init>", "()V"⟩ : MethodName) (head1 (Jvm.Cond.code (⟨"java/util/AbstractCollection", "<init>", "()V"⟩ : MethodName) jdk_22_method_1_code 1 none :: ws) ({ frames := 1, cells := 0, slots := 0, locals := 12 } : Room)) (fun a U => a = #[(.ref a1)] ∧ Z.Warmed39 U.vm ∧ U.heap = h0) (fun _ _ _ _ _ => True) (fun _ U o U' => ∃ v L, o = .returned v ∧ own_Q6 Z a1 h0 n0 v U'.heap L ∧ FrameEnd U o U' L ({ frames := 1, cells := 0, slots := 0, locals := 12 } : Room).cells ({ frames := 1, cells := 0, slots := 0, locals := 12 } : Room).slots) := by
  refine MetFree.of_bodySF (plainFor_of_name own_pn0) hisR ?_
  intro p e s m args below meth c s₁ Bd hml0 hP hK
  obtain ⟨rfl, hZ, hh⟩ := hP
  have hx := Bd.exec
  have hby := Bd.bytes
  have hml : c.maxLocals = 1 := hml0
  have hown : s.vm.findClass "java/util/AbstractCollection" = some m.cls := findClass_of_methodNamed Bd.named
  have hnm := (name_of_methodNamed Bd.named Bd.method).1
  have X0 : Stand p l e ({ frames := 1, cells := 0, slots := 0, locals := 12 } : Room) s m #[(.ref a1)] below meth c s₁ [] 0 0 := Stand.of_body Bd
  have e0 : s₁.heap = h0 := by rw [← hh, Bd.state]; rfl
  have N0 := Fr.nil n0
  refine own_nm (st := s₁.setTop (entryFrame m #[(.ref a1)] 1)) fun P fin => ?_
  refine own_fwd (fun tt kt => castTop (own_ef6 m a1) kt) ?_
  show own_R p.tables e below P (s₁.setTop (mkF m 0 #[.val (.ref a1)] []))
  refine own_fwd (fun tt kt => XS.aloadN X0.here hx rfl (hb hby own_d6_0) rfl rfl kt) ?_
  show own_R p.tables e below P (s₁.setTop (mkF m 1 #[.val (.ref a1)] [(.ref a1)]))
  obtain ⟨T1, X1, e1, st1⟩ := initO X0 hx hZ hown (hw _ (List.mem_of_getElem? (i := 35) rfl)) (hw _ (List.mem_of_getElem? (i := 8) rfl)) (hw _ (List.mem_of_getElem? (i := 9) rfl)) e0 (g := (mkF m 1 #[.val (.ref a1)] [(.ref a1)])) rfl (by rw [hml]; rfl) rfl (hb hby own_d6_1) (by decide) (W := 0) (by show 2 * 0 + _ ≤ _; exact Nat.le_of_eq rfl) (by decide)
  refine own_fwd st1 ?_
  show own_R p.tables e below P (T1.setTop (mkF m 4 #[.val (.ref a1)] []))
  obtain ⟨fs2, hr2, hrun2, hended2, hW2, hsame2⟩ := X1.leave (v := none) (fun _ => rfl)
  refine ⟨_, _, X1.returnOut hx Bd.returns (hb hby own_d6_4) hr2, fin _ _ ⟨hrun2, hended2, _, _, rfl, ?_, ⟨_, rfl⟩, hW2, hsame2.mono (by decide) (by decide)⟩⟩
  show own_Q6 Z a1 h0 n0 _ T1.heap _
  rw [e1]
  exact ⟨rfl, N0, rfl⟩
theorem own_d5_0 : decode jdk_91_method_1_code 0 = .ok (.aload_n 0, 1) := by decide +kernel
theorem own_d5_1 : decode jdk_91_method_1_code 1 = .ok (.invokespecial 1, 3) := by decide +kernel
theorem own_d5_4 : decode jdk_91_method_1_code 4 = .ok (.return_, 1) := by decide +kernel
theorem own_pn1 : plainName "java/util/AbstractSet" = true := by first | (simp [plainName, overriddenIn]; done) | decide +kernel
theorem own_pd0 : parseMethodDescriptor "()V" = some ⟨[], none⟩ := by decide +kernel
theorem own_ef5 (m : MethodId) (a1 : Addr) : entryFrame m #[(.ref a1)] 1 = mkF m 0 #[.val (.ref a1)] [] := by first | (simp [entryFrame, mkF, argsToLocals, Value.category]; done) | rfl
def own_Q5 (Z : State) (a1 : Addr) (h0 : Heap) (n0 : Nat) (v : Option Value) (h : Heap) (L : List Loc) : Prop := v = none ∧ Fr n0 L ∧ h = h0
set_option maxRecDepth 65536 in
set_option maxHeartbeats 40000000 in
theorem own_rm5 (l : Launch) (Z : State) (a0 : Array Value) (hw : ∀ d ∈ tables_1, d.before a0 Z = true) (ws : List Jvm.Cond) (a1 : Addr) (h0 : Heap) (n0 : Nat) (Z0 : n0 ≤ h0.size) :
    MetFree l (⟨"java/util/AbstractSet", "<init>", "()V"⟩ : MethodName) (head1 (Jvm.Cond.code (⟨"java/util/AbstractSet", "<init>", "()V"⟩ : MethodName) jdk_91_method_1_code 1 none :: ws) ({ frames := 2, cells := 0, slots := 0, locals := 24 } : Room)) (fun a U => a = #[(.ref a1)] ∧ Z.Warmed39 U.vm ∧ U.heap = h0) (fun _ _ _ _ _ => True) (fun _ U o U' => ∃ v L, o = .returned v ∧ own_Q5 Z a1 h0 n0 v U'.heap L ∧ FrameEnd U o U' L ({ frames := 2, cells := 0, slots := 0, locals := 24 } : Room).cells ({ frames := 2, cells := 0, slots := 0, locals := 24 } : Room).slots) := by
  refine MetFree.of_bodySF (plainFor_of_name own_pn1) hisR ?_
  intro p e s m args below meth c s₁ Bd hml0 hP hK
  obtain ⟨rfl, hZ, hh⟩ := hP
  have hx := Bd.exec
  have hby := Bd.bytes
  have hml : c.maxLocals = 1 := hml0
  have hown : s.vm.findClass "java/util/AbstractSet" = some m.cls := findClass_of_methodNamed Bd.named
  have hnm := (name_of_methodNamed Bd.named Bd.method).1
  have X0 : Stand p l e ({ frames := 2, cells := 0, slots := 0, locals := 24 } : Room) s m #[(.ref a1)] below meth c s₁ [] 0 0 := Stand.of_body Bd
  have e0 : s₁.heap = h0 := by rw [← hh, Bd.state]; rfl
  have N0 := Fr.nil n0
  refine own_nm (st := s₁.setTop (entryFrame m #[(.ref a1)] 1)) fun P fin => ?_
  refine own_fwd (fun tt kt => castTop (own_ef5 m a1) kt) ?_
  show own_R p.tables e below P (s₁.setTop (mkF m 0 #[.val (.ref a1)] []))
  refine own_fwd (fun tt kt => XS.aloadN X0.here hx rfl (hb hby own_d5_0) rfl rfl kt) ?_
  show own_R p.tables e below P (s₁.setTop (mkF m 1 #[.val (.ref a1)] [(.ref a1)]))
  obtain ⟨_, _, ⟨T3, L3, k3, n3⟩, -, X3, ⟨Lc3, hQ3, l3, y3, z3⟩, st3⟩ := X0.specialBack hx (y := (⟨"java/util/AbstractCollection", "<init>", "()V"⟩ : MethodName)) rfl hown (mvT hZ (hw _ (List.mem_of_getElem? (i := 29) rfl))) (mvT hZ (hw _ (List.mem_of_getElem? (i := 30) rfl))) (mvT hZ (hw _ (List.mem_of_getElem? (i := 34) rfl))) (by decide) (backOf (W := 0) (own_rm6 l Z a0 hw [] a1 h0 n0 Z0 ) hZ (hw _ (List.mem_of_getElem? (i := 34) rfl)) (hw _ (List.mem_of_getElem? (i := 33) rfl)) (by decide) (by decide)) (g := (mkF m 1 #[.val (.ref a1)] [(.ref a1)])) rfl (by rw [hml]; rfl) (Steps.refl _) (a := a1) (argsL := []) (rest := []) (lenOf own_pd0 rfl) rfl (by show 2 * 0 + _ ≤ _; exact Nat.le_of_eq rfl) (hb hby own_d5_1) (fun _ _ => ⟨rfl, e0, (by decide : 0 + 0 ≤ _), (by decide : 0 + 0 ≤ _)⟩)
  dsimp only [Pt.U, Pt.locs, Pt.cells, Pt.slots] at X3 l3 y3 z3 st3 hQ3
  subst l3 y3 z3
  obtain ⟨h3, e3⟩ : ∃ z, T3.heap = z := ⟨_, rfl⟩
  rw [e3] at hQ3
  obtain ⟨hq3, N3q, q3⟩ := hQ3
  rw [q3] at e3
  subst hq3
  have N3 := Fr.app N0 N3q
  refine own_trn st3 ?_
  show own_R p.tables e below P (T3.setTop (mkF m 4 #[.val (.ref a1)] []))
  obtain ⟨fs4, hr4, hrun4, hended4, hW4, hsame4⟩ := X3.leave (v := none) (fun _ => rfl)
  refine ⟨_, _, X3.returnOut hx Bd.returns (hb hby own_d5_4) hr4, fin _ _ ⟨hrun4, hended4, _, _, rfl, ?_, ⟨_, rfl⟩, hW4, hsame4.mono (by decide) (by decide)⟩⟩
  show own_Q5 Z a1 h0 n0 _ T3.heap _
  rw [e3]
  exact ⟨rfl, N3, rfl⟩
theorem own_d9_0 : decode jdk_71_method_1_code 0 = .ok (.aload_n 0, 1) := by decide +kernel
theorem own_d9_1 : decode jdk_71_method_1_code 1 = .ok (.invokespecial 1, 3) := by decide +kernel
theorem own_d9_4 : decode jdk_71_method_1_code 4 = .ok (.return_, 1) := by decide +kernel
theorem own_pn2 : plainName "java/util/AbstractMap" = true := by first | (simp [plainName, overriddenIn]; done) | decide +kernel
theorem own_ef9 (m : MethodId) (a1 : Addr) : entryFrame m #[(.ref a1)] 1 = mkF m 0 #[.val (.ref a1)] [] := by first | (simp [entryFrame, mkF, argsToLocals, Value.category]; done) | rfl
def own_Q9 (Z : State) (a1 : Addr) (h0 : Heap) (n0 : Nat) (v : Option Value) (h : Heap) (L : List Loc) : Prop := v = none ∧ Fr n0 L ∧ h = h0
set_option maxRecDepth 65536 in
set_option maxHeartbeats 40000000 in
theorem own_rm9 (l : Launch) (Z : State) (a0 : Array Value) (hw : ∀ d ∈ tables_1, d.before a0 Z = true) (ws : List Jvm.Cond) (a1 : Addr) (h0 : Heap) (n0 : Nat) (Z0 : n0 ≤ h0.size) :
    MetFree l (⟨"java/util/AbstractMap", "<init>", "()V"⟩ : MethodName) (head1 (Jvm.Cond.code (⟨"java/util/AbstractMap", "<init>", "()V"⟩ : MethodName) jdk_71_method_1_code 1 none :: ws) ({ frames := 1, cells := 0, slots := 0, locals := 12 } : Room)) (fun a U => a = #[(.ref a1)] ∧ Z.Warmed39 U.vm ∧ U.heap = h0) (fun _ _ _ _ _ => True) (fun _ U o U' => ∃ v L, o = .returned v ∧ own_Q9 Z a1 h0 n0 v U'.heap L ∧ FrameEnd U o U' L ({ frames := 1, cells := 0, slots := 0, locals := 12 } : Room).cells ({ frames := 1, cells := 0, slots := 0, locals := 12 } : Room).slots) := by
  refine MetFree.of_bodySF (plainFor_of_name own_pn2) hisR ?_
  intro p e s m args below meth c s₁ Bd hml0 hP hK
  obtain ⟨rfl, hZ, hh⟩ := hP
  have hx := Bd.exec
  have hby := Bd.bytes
  have hml : c.maxLocals = 1 := hml0
  have hown : s.vm.findClass "java/util/AbstractMap" = some m.cls := findClass_of_methodNamed Bd.named
  have hnm := (name_of_methodNamed Bd.named Bd.method).1
  have X0 : Stand p l e ({ frames := 1, cells := 0, slots := 0, locals := 12 } : Room) s m #[(.ref a1)] below meth c s₁ [] 0 0 := Stand.of_body Bd
  have e0 : s₁.heap = h0 := by rw [← hh, Bd.state]; rfl
  have N0 := Fr.nil n0
  refine own_nm (st := s₁.setTop (entryFrame m #[(.ref a1)] 1)) fun P fin => ?_
  refine own_fwd (fun tt kt => castTop (own_ef9 m a1) kt) ?_
  show own_R p.tables e below P (s₁.setTop (mkF m 0 #[.val (.ref a1)] []))
  refine own_fwd (fun tt kt => XS.aloadN X0.here hx rfl (hb hby own_d9_0) rfl rfl kt) ?_
  show own_R p.tables e below P (s₁.setTop (mkF m 1 #[.val (.ref a1)] [(.ref a1)]))
  obtain ⟨T5, X5, e5, st5⟩ := initO X0 hx hZ hown (hw _ (List.mem_of_getElem? (i := 55) rfl)) (hw _ (List.mem_of_getElem? (i := 8) rfl)) (hw _ (List.mem_of_getElem? (i := 9) rfl)) e0 (g := (mkF m 1 #[.val (.ref a1)] [(.ref a1)])) rfl (by rw [hml]; rfl) rfl (hb hby own_d9_1) (by decide) (W := 0) (by show 2 * 0 + _ ≤ _; exact Nat.le_of_eq rfl) (by decide)
  refine own_fwd st5 ?_
  show own_R p.tables e below P (T5.setTop (mkF m 4 #[.val (.ref a1)] []))
  obtain ⟨fs6, hr6, hrun6, hended6, hW6, hsame6⟩ := X5.leave (v := none) (fun _ => rfl)
  refine ⟨_, _, X5.returnOut hx Bd.returns (hb hby own_d9_4) hr6, fin _ _ ⟨hrun6, hended6, _, _, rfl, ?_, ⟨_, rfl⟩, hW6, hsame6.mono (by decide) (by decide)⟩⟩
  show own_Q9 Z a1 h0 n0 _ T5.heap _
  rw [e5]
  exact ⟨rfl, N0, rfl⟩
theorem own_d10_0 : decode jdk_118_method_6_code 0 = .ok (.fload_n 0, 1) := by decide +kernel
theorem own_d10_1 : decode jdk_118_method_6_code 1 = .ok (.fload_n 0, 1) := by decide +kernel
theorem own_d10_2 : decode jdk_118_method_6_code 2 = .ok (.fcmp .l, 1) := by decide +kernel
theorem own_d10_3 : decode jdk_118_method_6_code 3 = .ok (.ifCond .eq 7, 3) := by decide +kernel
theorem own_d10_6 : decode jdk_118_method_6_code 6 = .ok (.iconst 1, 1) := by decide +kernel
theorem own_d10_7 : decode jdk_118_method_6_code 7 = .ok (.goto 4, 3) := by decide +kernel
theorem own_d10_10 : decode jdk_118_method_6_code 10 = .ok (.iconst 0, 1) := by decide +kernel
theorem own_d10_11 : decode jdk_118_method_6_code 11 = .ok (.ireturn, 1) := by decide +kernel
theorem own_ef10 (m : MethodId)  : entryFrame m #[(.float (1061158912 : UInt32))] 1 = mkF m 0 #[.val (.float (1061158912 : UInt32))] [] := by first | (simp [entryFrame, mkF, argsToLocals, Value.category]; done) | rfl
def own_Q10 (Z : State)  (h0 : Heap) (n0 : Nat) (v : Option Value) (h : Heap) (L : List Loc) : Prop := v = some (.int (0 : Int32)) ∧ Fr n0 L ∧ h = h0
set_option maxRecDepth 65536 in
set_option maxHeartbeats 40000000 in
theorem own_rm10 (l : Launch) (Z : State) (a0 : Array Value) (hw : ∀ d ∈ tables_1, d.before a0 Z = true) (ws : List Jvm.Cond)  (h0 : Heap) (n0 : Nat) (Z0 : n0 ≤ h0.size) :
    MetFree l (⟨"java/lang/Float", "isNaN", "(F)Z"⟩ : MethodName) (head1 (Jvm.Cond.code (⟨"java/lang/Float", "isNaN", "(F)Z"⟩ : MethodName) jdk_118_method_6_code 1 (some .boolean) :: ws) ({ frames := 0, cells := 0, slots := 0, locals := 0 } : Room)) (fun a U => a = #[(.float (1061158912 : UInt32))] ∧ Z.Warmed39 U.vm ∧ U.heap = h0) (fun _ _ _ _ _ => True) (fun _ U o U' => ∃ v L, o = .returned v ∧ own_Q10 Z  h0 n0 v U'.heap L ∧ FrameEnd U o U' L ({ frames := 0, cells := 0, slots := 0, locals := 0 } : Room).cells ({ frames := 0, cells := 0, slots := 0, locals := 0 } : Room).slots) := by
  refine MetFree.of_bodySF (by decide +kernel) hisR ?_
  intro p e s m args below meth c s₁ Bd hml0 hP hK
  obtain ⟨rfl, hZ, hh⟩ := hP
  have hx := Bd.exec
  have hby := Bd.bytes
  have hml : c.maxLocals = 1 := hml0
  have hown : s.vm.findClass "java/lang/Float" = some m.cls := findClass_of_methodNamed Bd.named
  have hnm := (name_of_methodNamed Bd.named Bd.method).1
  have X0 : Stand p l e ({ frames := 0, cells := 0, slots := 0, locals := 0 } : Room) s m #[(.float (1061158912 : UInt32))] below meth c s₁ [] 0 0 := Stand.of_body Bd
  have e0 : s₁.heap = h0 := by rw [← hh, Bd.state]; rfl
  have N0 := Fr.nil n0
  refine own_nm (st := s₁.setTop (entryFrame m #[(.float (1061158912 : UInt32))] 1)) fun P fin => ?_
  refine own_fwd (fun tt kt => castTop (own_ef10 m ) kt) ?_
  show own_R p.tables e below P (s₁.setTop (mkF m 0 #[.val (.float (1061158912 : UInt32))] []))
  refine own_fwd (fun tt kt => XS.floadN X0.here hx rfl (hb hby own_d10_0) rfl kt) ?_
  show own_R p.tables e below P (s₁.setTop (mkF m 1 #[.val (.float (1061158912 : UInt32))] [(.float (1061158912 : UInt32))]))
  refine own_fwd (fun tt kt => XS.floadN X0.here hx rfl (hb hby own_d10_1) rfl kt) ?_
  show own_R p.tables e below P (s₁.setTop (mkF m 2 #[.val (.float (1061158912 : UInt32))] [(.float (1061158912 : UInt32)), (.float (1061158912 : UInt32))]))
  refine own_fwd (fun tt kt => XS.fcmpS X0.here hx rfl (v := (0 : Int32)) (hb hby own_d10_2) rfl (by decide +kernel) kt) ?_
  show own_R p.tables e below P (s₁.setTop (mkF m 3 #[.val (.float (1061158912 : UInt32))] [(.int (0 : Int32))]))
  have hc7 : (0 : Int32) = (0 : Int32) := (by decide)
  refine own_fwd (fun tt kt => XS.ifYes X0.here hx rfl (pc0 := 3) (pc' := 10) rfl (hb hby own_d10_3) rfl ((if0 _ _).trans (teq hc7).1) (by decide) (by decide) kt) ?_
  show own_R p.tables e below P (s₁.setTop (mkF m 10 #[.val (.float (1061158912 : UInt32))] []))
  refine own_fwd (fun tt kt => XS.iconst X0.here hx rfl (hb hby own_d10_10) kt) ?_
  show own_R p.tables e below P (s₁.setTop (mkF m 11 #[.val (.float (1061158912 : UInt32))] [(.int (0 : Int32))]))
  obtain ⟨fs8, hr8, hrun8, hended8, hW8, hsame8⟩ := X0.leave (v := some (.int (0 : Int32))) (fun h => by rw [Bd.returns] at h; cases h)
  refine ⟨_, _, X0.ireturnOut hx (w := (0 : Int32)) Bd.returns rfl (by simp) (hb hby own_d10_11) hr8, fin _ _ ⟨hrun8, hended8, _, _, rfl, ?_, ⟨_, rfl⟩, hW8, hsame8.mono (by decide) (by decide)⟩⟩
  show own_Q10 Z  h0 n0 _ s₁.heap _
  rw [e0]
  exact ⟨rfl, N0, rfl⟩
theorem own_d12_0 : decode jdk_33_method_47_code 0 = .ok (.iload_n 0, 1) := by decide +kernel
theorem own_d12_1 : decode jdk_33_method_47_code 1 = .ok (.ifCond .gt 14, 3) := by decide +kernel
theorem own_d12_4 : decode jdk_33_method_47_code 4 = .ok (.iload_n 0, 1) := by decide +kernel
theorem own_d12_5 : decode jdk_33_method_47_code 5 = .ok (.ifCond .ne 8, 3) := by decide +kernel
theorem own_d12_8 : decode jdk_33_method_47_code 8 = .ok (.bipush 32, 2) := by decide +kernel
theorem own_d12_10 : decode jdk_33_method_47_code 10 = .ok (.goto 4, 3) := by decide +kernel
theorem own_d12_13 : decode jdk_33_method_47_code 13 = .ok (.iconst 0, 1) := by decide +kernel
theorem own_d12_14 : decode jdk_33_method_47_code 14 = .ok (.ireturn, 1) := by decide +kernel
theorem own_d12_15 : decode jdk_33_method_47_code 15 = .ok (.bipush 31, 2) := by decide +kernel
theorem own_d12_17 : decode jdk_33_method_47_code 17 = .ok (.istore_n 1, 1) := by decide +kernel
theorem own_d12_18 : decode jdk_33_method_47_code 18 = .ok (.iload_n 0, 1) := by decide +kernel
theorem own_d12_19 : decode jdk_33_method_47_code 19 = .ok (.ldc_w 264, 3) := by decide +kernel
theorem own_d12_22 : decode jdk_33_method_47_code 22 = .ok (.if_icmp .lt 11, 3) := by decide +kernel
theorem own_d12_25 : decode jdk_33_method_47_code 25 = .ok (.iinc 1 (-16), 3) := by decide +kernel
theorem own_d12_28 : decode jdk_33_method_47_code 28 = .ok (.iload_n 0, 1) := by decide +kernel
theorem own_d12_29 : decode jdk_33_method_47_code 29 = .ok (.bipush 16, 2) := by decide +kernel
theorem own_d12_31 : decode jdk_33_method_47_code 31 = .ok (.iushr, 1) := by decide +kernel
theorem own_d12_32 : decode jdk_33_method_47_code 32 = .ok (.istore_n 0, 1) := by decide +kernel
theorem own_d12_33 : decode jdk_33_method_47_code 33 = .ok (.iload_n 0, 1) := by decide +kernel
theorem own_d12_34 : decode jdk_33_method_47_code 34 = .ok (.sipush 256, 3) := by decide +kernel
theorem own_d12_37 : decode jdk_33_method_47_code 37 = .ok (.if_icmp .lt 11, 3) := by decide +kernel
theorem own_d12_40 : decode jdk_33_method_47_code 40 = .ok (.iinc 1 (-8), 3) := by decide +kernel
theorem own_d12_43 : decode jdk_33_method_47_code 43 = .ok (.iload_n 0, 1) := by decide +kernel
theorem own_d12_44 : decode jdk_33_method_47_code 44 = .ok (.bipush 8, 2) := by decide +kernel
theorem own_d12_46 : decode jdk_33_method_47_code 46 = .ok (.iushr, 1) := by decide +kernel
theorem own_d12_47 : decode jdk_33_method_47_code 47 = .ok (.istore_n 0, 1) := by decide +kernel
theorem own_d12_48 : decode jdk_33_method_47_code 48 = .ok (.iload_n 0, 1) := by decide +kernel
theorem own_d12_49 : decode jdk_33_method_47_code 49 = .ok (.bipush 16, 2) := by decide +kernel
theorem own_d12_51 : decode jdk_33_method_47_code 51 = .ok (.if_icmp .lt 10, 3) := by decide +kernel
theorem own_d12_54 : decode jdk_33_method_47_code 54 = .ok (.iinc 1 (-4), 3) := by decide +kernel
theorem own_d12_57 : decode jdk_33_method_47_code 57 = .ok (.iload_n 0, 1) := by decide +kernel
theorem own_d12_58 : decode jdk_33_method_47_code 58 = .ok (.iconst 4, 1) := by decide +kernel
theorem own_d12_59 : decode jdk_33_method_47_code 59 = .ok (.iushr, 1) := by decide +kernel
theorem own_d12_60 : decode jdk_33_method_47_code 60 = .ok (.istore_n 0, 1) := by decide +kernel
theorem own_d12_61 : decode jdk_33_method_47_code 61 = .ok (.iload_n 0, 1) := by decide +kernel
theorem own_d12_62 : decode jdk_33_method_47_code 62 = .ok (.iconst 4, 1) := by decide +kernel
theorem own_d12_63 : decode jdk_33_method_47_code 63 = .ok (.if_icmp .lt 10, 3) := by decide +kernel
theorem own_d12_66 : decode jdk_33_method_47_code 66 = .ok (.iinc 1 (-2), 3) := by decide +kernel
theorem own_d12_69 : decode jdk_33_method_47_code 69 = .ok (.iload_n 0, 1) := by decide +kernel
theorem own_d12_70 : decode jdk_33_method_47_code 70 = .ok (.iconst 2, 1) := by decide +kernel
theorem own_d12_71 : decode jdk_33_method_47_code 71 = .ok (.iushr, 1) := by decide +kernel
theorem own_d12_72 : decode jdk_33_method_47_code 72 = .ok (.istore_n 0, 1) := by decide +kernel
theorem own_d12_73 : decode jdk_33_method_47_code 73 = .ok (.iload_n 1, 1) := by decide +kernel
theorem own_d12_74 : decode jdk_33_method_47_code 74 = .ok (.iload_n 0, 1) := by decide +kernel
theorem own_d12_75 : decode jdk_33_method_47_code 75 = .ok (.iconst 1, 1) := by decide +kernel
theorem own_d12_76 : decode jdk_33_method_47_code 76 = .ok (.iushr, 1) := by decide +kernel
theorem own_d12_77 : decode jdk_33_method_47_code 77 = .ok (.isub, 1) := by decide +kernel
theorem own_d12_78 : decode jdk_33_method_47_code 78 = .ok (.ireturn, 1) := by decide +kernel
theorem own_pn3 : plainName "java/lang/Integer" = true := by first | (simp [plainName, overriddenIn]; done) | decide +kernel
theorem own_ef12 (m : MethodId)  : entryFrame m #[(.int (15 : Int32))] 2 = mkF m 0 #[.val (.int (15 : Int32)), .unset] [] := by first | (simp [entryFrame, mkF, argsToLocals, Value.category]; done) | rfl
def own_Q12 (Z : State)  (h0 : Heap) (n0 : Nat) (v : Option Value) (h : Heap) (L : List Loc) : Prop := v = some (.int (28 : Int32)) ∧ Fr n0 L ∧ h = h0
set_option maxRecDepth 65536 in
set_option maxHeartbeats 40000000 in
theorem own_rm12 (l : Launch) (Z : State) (a0 : Array Value) (hw : ∀ d ∈ tables_1, d.before a0 Z = true) (ws : List Jvm.Cond)  (h0 : Heap) (n0 : Nat) (Z0 : n0 ≤ h0.size) :
    MetFree l (⟨"java/lang/Integer", "numberOfLeadingZeros", "(I)I"⟩ : MethodName) (head1 (Jvm.Cond.code (⟨"java/lang/Integer", "numberOfLeadingZeros", "(I)I"⟩ : MethodName) jdk_33_method_47_code 2 (some .int) :: ws) ({ frames := 0, cells := 0, slots := 0, locals := 0 } : Room)) (fun a U => a = #[(.int (15 : Int32))] ∧ Z.Warmed39 U.vm ∧ U.heap = h0) (fun _ _ _ _ _ => True) (fun _ U o U' => ∃ v L, o = .returned v ∧ own_Q12 Z  h0 n0 v U'.heap L ∧ FrameEnd U o U' L ({ frames := 0, cells := 0, slots := 0, locals := 0 } : Room).cells ({ frames := 0, cells := 0, slots := 0, locals := 0 } : Room).slots) := by
  refine MetFree.of_bodySF (plainFor_of_name own_pn3) hisR ?_
  intro p e s m args below meth c s₁ Bd hml0 hP hK
  obtain ⟨rfl, hZ, hh⟩ := hP
  have hx := Bd.exec
  have hby := Bd.bytes
  have hml : c.maxLocals = 2 := hml0
  have hown : s.vm.findClass "java/lang/Integer" = some m.cls := findClass_of_methodNamed Bd.named
  have hnm := (name_of_methodNamed Bd.named Bd.method).1
  have X0 : Stand p l e ({ frames := 0, cells := 0, slots := 0, locals := 0 } : Room) s m #[(.int (15 : Int32))] below meth c s₁ [] 0 0 := Stand.of_body Bd
  have e0 : s₁.heap = h0 := by rw [← hh, Bd.state]; rfl
  have N0 := Fr.nil n0
  refine own_nm (st := s₁.setTop (entryFrame m #[(.int (15 : Int32))] 2)) fun P fin => ?_
  refine own_fwd (fun tt kt => castTop (own_ef12 m ) kt) ?_
  show own_R p.tables e below P (s₁.setTop (mkF m 0 #[.val (.int (15 : Int32)), .unset] []))
  refine own_fwd (fun tt kt => XS.iloadN X0.here hx rfl (hb hby own_d12_0) rfl kt) ?_
  show own_R p.tables e below P (s₁.setTop (mkF m 1 #[.val (.int (15 : Int32)), .unset] [(.int (15 : Int32))]))
  have hc9 : (0 : Int32) < (15 : Int32) := (by decide)
  refine own_fwd (fun tt kt => XS.ifYes X0.here hx rfl (pc0 := 1) (pc' := 15) rfl (hb hby own_d12_1) rfl ((if0 _ _).trans (tlt hc9).2.2.1) (by decide) (by decide) kt) ?_
  show own_R p.tables e below P (s₁.setTop (mkF m 15 #[.val (.int (15 : Int32)), .unset] []))
  refine own_fwd (fun tt kt => XS.bipush X0.here hx rfl (hb hby own_d12_15) kt) ?_
  show own_R p.tables e below P (s₁.setTop (mkF m 17 #[.val (.int (15 : Int32)), .unset] [(.int (31 : Int32))]))
  refine own_fwd (fun tt kt => XS.istoreN X0.here hx rfl (hb hby own_d12_17) rfl (l' := #[.val (.int (15 : Int32)), .val (.int (31 : Int32))]) rfl kt) ?_
  show own_R p.tables e below P (s₁.setTop (mkF m 18 #[.val (.int (15 : Int32)), .val (.int (31 : Int32))] []))
  refine own_fwd (fun tt kt => XS.iloadN X0.here hx rfl (hb hby own_d12_18) rfl kt) ?_
  show own_R p.tables e below P (s₁.setTop (mkF m 19 #[.val (.int (15 : Int32)), .val (.int (31 : Int32))] [(.int (15 : Int32))]))
  refine own_fwd (fun tt kt => X0.ldcwInt hx hown (mvT hZ (hw _ (List.mem_of_getElem? (i := 70) rfl))) (g := (mkF m 19 #[.val (.int (15 : Int32)), .val (.int (31 : Int32))] [(.int (15 : Int32))])) rfl (hb hby own_d12_19) tt kt) ?_
  show own_R p.tables e below P (s₁.setTop (mkF m 22 #[.val (.int (15 : Int32)), .val (.int (31 : Int32))] [(.int (65536 : Int32)), (.int (15 : Int32))]))
  have hc10 : (15 : Int32) < (65536 : Int32) := (by decide)
  refine own_fwd (fun tt kt => XS.icmpYes X0.here hx rfl (pc0 := 22) (pc' := 33) rfl (hb hby own_d12_22) rfl (tlt hc10).1 (by decide) (by decide) kt) ?_
  show own_R p.tables e below P (s₁.setTop (mkF m 33 #[.val (.int (15 : Int32)), .val (.int (31 : Int32))] []))
  refine own_fwd (fun tt kt => XS.iloadN X0.here hx rfl (hb hby own_d12_33) rfl kt) ?_
  show own_R p.tables e below P (s₁.setTop (mkF m 34 #[.val (.int (15 : Int32)), .val (.int (31 : Int32))] [(.int (15 : Int32))]))
  refine own_fwd (fun tt kt => XS.sipush X0.here hx rfl (hb hby own_d12_34) kt) ?_
  show own_R p.tables e below P (s₁.setTop (mkF m 37 #[.val (.int (15 : Int32)), .val (.int (31 : Int32))] [(.int (256 : Int32)), (.int (15 : Int32))]))
  have hc11 : (15 : Int32) < (256 : Int32) := (by decide)
  refine own_fwd (fun tt kt => XS.icmpYes X0.here hx rfl (pc0 := 37) (pc' := 48) rfl (hb hby own_d12_37) rfl (tlt hc11).1 (by decide) (by decide) kt) ?_
  show own_R p.tables e below P (s₁.setTop (mkF m 48 #[.val (.int (15 : Int32)), .val (.int (31 : Int32))] []))
  refine own_fwd (fun tt kt => XS.iloadN X0.here hx rfl (hb hby own_d12_48) rfl kt) ?_
  show own_R p.tables e below P (s₁.setTop (mkF m 49 #[.val (.int (15 : Int32)), .val (.int (31 : Int32))] [(.int (15 : Int32))]))
  refine own_fwd (fun tt kt => XS.bipush X0.here hx rfl (hb hby own_d12_49) kt) ?_
  show own_R p.tables e below P (s₁.setTop (mkF m 51 #[.val (.int (15 : Int32)), .val (.int (31 : Int32))] [(.int (16 : Int32)), (.int (15 : Int32))]))
  have hc12 : (15 : Int32) < (16 : Int32) := (by decide)
  refine own_fwd (fun tt kt => XS.icmpYes X0.here hx rfl (pc0 := 51) (pc' := 61) rfl (hb hby own_d12_51) rfl (tlt hc12).1 (by decide) (by decide) kt) ?_
  show own_R p.tables e below P (s₁.setTop (mkF m 61 #[.val (.int (15 : Int32)), .val (.int (31 : Int32))] []))
  refine own_fwd (fun tt kt => XS.iloadN X0.here hx rfl (hb hby own_d12_61) rfl kt) ?_
  show own_R p.tables e below P (s₁.setTop (mkF m 62 #[.val (.int (15 : Int32)), .val (.int (31 : Int32))] [(.int (15 : Int32))]))
  refine own_fwd (fun tt kt => XS.iconst X0.here hx rfl (hb hby own_d12_62) kt) ?_
  show own_R p.tables e below P (s₁.setTop (mkF m 63 #[.val (.int (15 : Int32)), .val (.int (31 : Int32))] [(.int (4 : Int32)), (.int (15 : Int32))]))
  have hc13 : ¬ ((15 : Int32) < (4 : Int32)) := (by decide)
  refine own_fwd (fun tt kt => XS.icmpNo X0.here hx rfl (hb hby own_d12_63) rfl (flt hc13).1 kt) ?_
  show own_R p.tables e below P (s₁.setTop (mkF m 66 #[.val (.int (15 : Int32)), .val (.int (31 : Int32))] []))
  refine own_fwd (fun tt kt => XS.iinc X0.here hx rfl (hb hby own_d12_66) rfl (l' := #[.val (.int (15 : Int32)), .val (.int ((31 : Int32) + (-2 : Int32)))]) rfl kt) ?_
  show own_R p.tables e below P (s₁.setTop (mkF m 69 #[.val (.int (15 : Int32)), .val (.int ((31 : Int32) + (-2 : Int32)))] []))
  have hv14 : ((31 : Int32) + (-2 : Int32)) = (29 : Int32) := by decide
  rw [hv14]
  show own_R p.tables e below P (s₁.setTop (mkF m 69 #[.val (.int (15 : Int32)), .val (.int (29 : Int32))] []))
  refine own_fwd (fun tt kt => XS.iloadN X0.here hx rfl (hb hby own_d12_69) rfl kt) ?_
  show own_R p.tables e below P (s₁.setTop (mkF m 70 #[.val (.int (15 : Int32)), .val (.int (29 : Int32))] [(.int (15 : Int32))]))
  refine own_fwd (fun tt kt => XS.iconst X0.here hx rfl (hb hby own_d12_70) kt) ?_
  show own_R p.tables e below P (s₁.setTop (mkF m 71 #[.val (.int (15 : Int32)), .val (.int (29 : Int32))] [(.int (2 : Int32)), (.int (15 : Int32))]))
  refine own_fwd (fun tt kt => XS.iushr X0.here hx rfl (hb hby own_d12_71) rfl kt) ?_
  show own_R p.tables e below P (s₁.setTop (mkF m 72 #[.val (.int (15 : Int32)), .val (.int (29 : Int32))] [(.int (((15 : Int32).toUInt32 >>> ((2 : Int32) &&& 31).toUInt32).toInt32))]))
  have hv15 : (((15 : Int32).toUInt32 >>> ((2 : Int32) &&& 31).toUInt32).toInt32) = (3 : Int32) := by decide
  rw [hv15]
  show own_R p.tables e below P (s₁.setTop (mkF m 72 #[.val (.int (15 : Int32)), .val (.int (29 : Int32))] [(.int (3 : Int32))]))
  refine own_fwd (fun tt kt => XS.istoreN X0.here hx rfl (hb hby own_d12_72) rfl (l' := #[.val (.int (3 : Int32)), .val (.int (29 : Int32))]) rfl kt) ?_
  show own_R p.tables e below P (s₁.setTop (mkF m 73 #[.val (.int (3 : Int32)), .val (.int (29 : Int32))] []))
  refine own_fwd (fun tt kt => XS.iloadN X0.here hx rfl (hb hby own_d12_73) rfl kt) ?_
  show own_R p.tables e below P (s₁.setTop (mkF m 74 #[.val (.int (3 : Int32)), .val (.int (29 : Int32))] [(.int (29 : Int32))]))
  refine own_fwd (fun tt kt => XS.iloadN X0.here hx rfl (hb hby own_d12_74) rfl kt) ?_
  show own_R p.tables e below P (s₁.setTop (mkF m 75 #[.val (.int (3 : Int32)), .val (.int (29 : Int32))] [(.int (3 : Int32)), (.int (29 : Int32))]))
  refine own_fwd (fun tt kt => XS.iconst X0.here hx rfl (hb hby own_d12_75) kt) ?_
  show own_R p.tables e below P (s₁.setTop (mkF m 76 #[.val (.int (3 : Int32)), .val (.int (29 : Int32))] [(.int (1 : Int32)), (.int (3 : Int32)), (.int (29 : Int32))]))
  refine own_fwd (fun tt kt => XS.iushr X0.here hx rfl (hb hby own_d12_76) rfl kt) ?_
  show own_R p.tables e below P (s₁.setTop (mkF m 77 #[.val (.int (3 : Int32)), .val (.int (29 : Int32))] [(.int (((3 : Int32).toUInt32 >>> ((1 : Int32) &&& 31).toUInt32).toInt32)), (.int (29 : Int32))]))
  have hv16 : (((3 : Int32).toUInt32 >>> ((1 : Int32) &&& 31).toUInt32).toInt32) = (1 : Int32) := by decide
  rw [hv16]
  show own_R p.tables e below P (s₁.setTop (mkF m 77 #[.val (.int (3 : Int32)), .val (.int (29 : Int32))] [(.int (1 : Int32)), (.int (29 : Int32))]))
  refine own_fwd (fun tt kt => XS.isub X0.here hx rfl (hb hby own_d12_77) rfl kt) ?_
  show own_R p.tables e below P (s₁.setTop (mkF m 78 #[.val (.int (3 : Int32)), .val (.int (29 : Int32))] [(.int ((29 : Int32) - (1 : Int32)))]))
  have hv17 : ((29 : Int32) - (1 : Int32)) = (28 : Int32) := by decide
  rw [hv17]
  show own_R p.tables e below P (s₁.setTop (mkF m 78 #[.val (.int (3 : Int32)), .val (.int (29 : Int32))] [(.int (28 : Int32))]))
  obtain ⟨fs18, hr18, hrun18, hended18, hW18, hsame18⟩ := X0.leave (v := some (.int (28 : Int32))) (fun h => by rw [Bd.returns] at h; cases h)
  refine ⟨_, _, X0.ireturnOut hx (w := (28 : Int32)) Bd.returns rfl (by simp) (hb hby own_d12_78) hr18, fin _ _ ⟨hrun18, hended18, _, _, rfl, ?_, ⟨_, rfl⟩, hW18, hsame18.mono (by decide) (by decide)⟩⟩
  show own_Q12 Z  h0 n0 _ s₁.heap _
  rw [e0]
  exact ⟨rfl, N0, rfl⟩
theorem own_d11_0 : decode jdk_69_method_4_code 0 = .ok (.iconst (-1), 1) := by decide +kernel
theorem own_d11_1 : decode jdk_69_method_4_code 1 = .ok (.iload_n 0, 1) := by decide +kernel
theorem own_d11_2 : decode jdk_69_method_4_code 2 = .ok (.iconst 1, 1) := by decide +kernel
theorem own_d11_3 : decode jdk_69_method_4_code 3 = .ok (.isub, 1) := by decide +kernel
theorem own_d11_4 : decode jdk_69_method_4_code 4 = .ok (.invokestatic 34, 3) := by decide +kernel
theorem own_d11_7 : decode jdk_69_method_4_code 7 = .ok (.iushr, 1) := by decide +kernel
theorem own_d11_8 : decode jdk_69_method_4_code 8 = .ok (.istore_n 1, 1) := by decide +kernel
theorem own_d11_9 : decode jdk_69_method_4_code 9 = .ok (.iload_n 1, 1) := by decide +kernel
theorem own_d11_10 : decode jdk_69_method_4_code 10 = .ok (.ifCond .ge 7, 3) := by decide +kernel
theorem own_d11_13 : decode jdk_69_method_4_code 13 = .ok (.iconst 1, 1) := by decide +kernel
theorem own_d11_14 : decode jdk_69_method_4_code 14 = .ok (.goto 17, 3) := by decide +kernel
theorem own_d11_17 : decode jdk_69_method_4_code 17 = .ok (.iload_n 1, 1) := by decide +kernel
theorem own_d11_18 : decode jdk_69_method_4_code 18 = .ok (.ldc 42, 2) := by decide +kernel
theorem own_d11_20 : decode jdk_69_method_4_code 20 = .ok (.if_icmp .lt 8, 3) := by decide +kernel
theorem own_d11_23 : decode jdk_69_method_4_code 23 = .ok (.ldc 42, 2) := by decide +kernel
theorem own_d11_25 : decode jdk_69_method_4_code 25 = .ok (.goto 6, 3) := by decide +kernel
theorem own_d11_28 : decode jdk_69_method_4_code 28 = .ok (.iload_n 1, 1) := by decide +kernel
theorem own_d11_29 : decode jdk_69_method_4_code 29 = .ok (.iconst 1, 1) := by decide +kernel
theorem own_d11_30 : decode jdk_69_method_4_code 30 = .ok (.iadd, 1) := by decide +kernel
theorem own_d11_31 : decode jdk_69_method_4_code 31 = .ok (.ireturn, 1) := by decide +kernel
theorem own_pn4 : plainName "java/util/HashMap" = true := by first | (simp [plainName, overriddenIn]; done) | decide +kernel
theorem own_pd1 : parseMethodDescriptor "(I)I" = some ⟨[.int], some .int⟩ := by decide +kernel
theorem own_ef11 (m : MethodId)  : entryFrame m #[(.int (16 : Int32))] 2 = mkF m 0 #[.val (.int (16 : Int32)), .unset] [] := by first | (simp [entryFrame, mkF, argsToLocals, Value.category]; done) | rfl
def own_Q11 (Z : State)  (h0 : Heap) (n0 : Nat) (v : Option Value) (h : Heap) (L : List Loc) : Prop := v = some (.int (16 : Int32)) ∧ Fr n0 L ∧ h = h0
set_option maxRecDepth 65536 in
set_option maxHeartbeats 40000000 in
theorem own_rm11 (l : Launch) (Z : State) (a0 : Array Value) (hw : ∀ d ∈ tables_1, d.before a0 Z = true) (ws : List Jvm.Cond)  (h0 : Heap) (n0 : Nat) (Z0 : n0 ≤ h0.size) :
    MetFree l (⟨"java/util/HashMap", "tableSizeFor", "(I)I"⟩ : MethodName) (head1 (Jvm.Cond.code (⟨"java/util/HashMap", "tableSizeFor", "(I)I"⟩ : MethodName) jdk_69_method_4_code 2 (some .int) :: ws) ({ frames := 1, cells := 0, slots := 0, locals := 14 } : Room)) (fun a U => a = #[(.int (16 : Int32))] ∧ Z.Warmed39 U.vm ∧ U.heap = h0) (fun _ _ _ _ _ => True) (fun _ U o U' => ∃ v L, o = .returned v ∧ own_Q11 Z  h0 n0 v U'.heap L ∧ FrameEnd U o U' L ({ frames := 1, cells := 0, slots := 0, locals := 14 } : Room).cells ({ frames := 1, cells := 0, slots := 0, locals := 14 } : Room).slots) := by
  refine MetFree.of_bodySF (plainFor_of_name own_pn4) hisR ?_
  intro p e s m args below meth c s₁ Bd hml0 hP hK
  obtain ⟨rfl, hZ, hh⟩ := hP
  have hx := Bd.exec
  have hby := Bd.bytes
  have hml : c.maxLocals = 2 := hml0
  have hown : s.vm.findClass "java/util/HashMap" = some m.cls := findClass_of_methodNamed Bd.named
  have hnm := (name_of_methodNamed Bd.named Bd.method).1
  have X0 : Stand p l e ({ frames := 1, cells := 0, slots := 0, locals := 14 } : Room) s m #[(.int (16 : Int32))] below meth c s₁ [] 0 0 := Stand.of_body Bd
  have e0 : s₁.heap = h0 := by rw [← hh, Bd.state]; rfl
  have N0 := Fr.nil n0
  refine own_nm (st := s₁.setTop (entryFrame m #[(.int (16 : Int32))] 2)) fun P fin => ?_
  refine own_fwd (fun tt kt => castTop (own_ef11 m ) kt) ?_
  show own_R p.tables e below P (s₁.setTop (mkF m 0 #[.val (.int (16 : Int32)), .unset] []))
  refine own_fwd (fun tt kt => XS.iconst X0.here hx rfl (hb hby own_d11_0) kt) ?_
  show own_R p.tables e below P (s₁.setTop (mkF m 1 #[.val (.int (16 : Int32)), .unset] [(.int (-1 : Int32))]))
  refine own_fwd (fun tt kt => XS.iloadN X0.here hx rfl (hb hby own_d11_1) rfl kt) ?_
  show own_R p.tables e below P (s₁.setTop (mkF m 2 #[.val (.int (16 : Int32)), .unset] [(.int (16 : Int32)), (.int (-1 : Int32))]))
  refine own_fwd (fun tt kt => XS.iconst X0.here hx rfl (hb hby own_d11_2) kt) ?_
  show own_R p.tables e below P (s₁.setTop (mkF m 3 #[.val (.int (16 : Int32)), .unset] [(.int (1 : Int32)), (.int (16 : Int32)), (.int (-1 : Int32))]))
  refine own_fwd (fun tt kt => XS.isub X0.here hx rfl (hb hby own_d11_3) rfl kt) ?_
  show own_R p.tables e below P (s₁.setTop (mkF m 4 #[.val (.int (16 : Int32)), .unset] [(.int ((16 : Int32) - (1 : Int32))), (.int (-1 : Int32))]))
  have hv19 : ((16 : Int32) - (1 : Int32)) = (15 : Int32) := by decide
  rw [hv19]
  show own_R p.tables e below P (s₁.setTop (mkF m 4 #[.val (.int (16 : Int32)), .unset] [(.int (15 : Int32)), (.int (-1 : Int32))]))
  obtain ⟨_, _, ⟨T20, L20, k20, n20⟩, -, X20, ⟨Lc20, hQ20, l20, y20, z20⟩, st20⟩ := Jvm.LawKit.callS X0 hx (y := (⟨"java/lang/Integer", "numberOfLeadingZeros", "(I)I"⟩ : MethodName)) hown (mvT hZ (hw _ (List.mem_of_getElem? (i := 66) rfl))) (mvT hZ (hw _ (List.mem_of_getElem? (i := 67) rfl))) (mvT hZ (hw _ (List.mem_of_getElem? (i := 68) rfl))) (mvT hZ (hw _ (List.mem_of_getElem? (i := 69) rfl))) (by decide) (backOf (W := 1) (own_rm12 l Z a0 hw []  h0 n0 Z0 ) hZ (hw _ (List.mem_of_getElem? (i := 69) rfl)) (hw _ (List.mem_of_getElem? (i := 68) rfl)) (by decide) (by decide)) (g := (mkF m 4 #[.val (.int (16 : Int32)), .unset] [(.int (15 : Int32)), (.int (-1 : Int32))])) rfl (by rw [hml]; rfl) (argsL := [(.int (15 : Int32))]) (rest := [(.int (-1 : Int32))]) (lenOf own_pd1 rfl) rfl (by show 2 * 0 + _ ≤ _; exact Nat.le_of_eq rfl) (hb hby own_d11_4) (fun _ _ => ⟨rfl, e0, (by decide : 0 + 0 ≤ _), (by decide : 0 + 0 ≤ _)⟩)
  dsimp only [Pt.U, Pt.locs, Pt.cells, Pt.slots] at X20 l20 y20 z20 st20 hQ20
  subst l20 y20 z20
  obtain ⟨h20, e20⟩ : ∃ z, T20.heap = z := ⟨_, rfl⟩
  rw [e20] at hQ20
  obtain ⟨hq20, N20q, q20⟩ := hQ20
  rw [q20] at e20
  subst hq20
  have N20 := Fr.app N0 N20q
  refine own_fwd st20 ?_
  show own_R p.tables e below P (T20.setTop (mkF m 7 #[.val (.int (16 : Int32)), .unset] [(.int (28 : Int32)), (.int (-1 : Int32))]))
  refine own_fwd (fun tt kt => XS.iushr X20.here hx rfl (hb hby own_d11_7) rfl kt) ?_
  show own_R p.tables e below P (T20.setTop (mkF m 8 #[.val (.int (16 : Int32)), .unset] [(.int (((-1 : Int32).toUInt32 >>> ((28 : Int32) &&& 31).toUInt32).toInt32))]))
  have hv21 : (((-1 : Int32).toUInt32 >>> ((28 : Int32) &&& 31).toUInt32).toInt32) = (15 : Int32) := by decide
  rw [hv21]
  show own_R p.tables e below P (T20.setTop (mkF m 8 #[.val (.int (16 : Int32)), .unset] [(.int (15 : Int32))]))
  refine own_fwd (fun tt kt => XS.istoreN X20.here hx rfl (hb hby own_d11_8) rfl (l' := #[.val (.int (16 : Int32)), .val (.int (15 : Int32))]) rfl kt) ?_
  show own_R p.tables e below P (T20.setTop (mkF m 9 #[.val (.int (16 : Int32)), .val (.int (15 : Int32))] []))
  refine own_fwd (fun tt kt => XS.iloadN X20.here hx rfl (hb hby own_d11_9) rfl kt) ?_
  show own_R p.tables e below P (T20.setTop (mkF m 10 #[.val (.int (16 : Int32)), .val (.int (15 : Int32))] [(.int (15 : Int32))]))
  have hc22 : ¬ ((15 : Int32) < (0 : Int32)) := (by decide)
  refine own_fwd (fun tt kt => XS.ifYes X20.here hx rfl (pc0 := 10) (pc' := 17) rfl (hb hby own_d11_10) rfl ((if0 _ _).trans (flt hc22).2.1) (by decide) (by decide) kt) ?_
  show own_R p.tables e below P (T20.setTop (mkF m 17 #[.val (.int (16 : Int32)), .val (.int (15 : Int32))] []))
  refine own_fwd (fun tt kt => XS.iloadN X20.here hx rfl (hb hby own_d11_17) rfl kt) ?_
  show own_R p.tables e below P (T20.setTop (mkF m 18 #[.val (.int (16 : Int32)), .val (.int (15 : Int32))] [(.int (15 : Int32))]))
  refine own_fwd (fun tt kt => X20.ldcInt hx hown (mvT hZ (hw _ (List.mem_of_getElem? (i := 56) rfl))) (g := (mkF m 18 #[.val (.int (16 : Int32)), .val (.int (15 : Int32))] [(.int (15 : Int32))])) rfl (hb hby own_d11_18) tt kt) ?_
  show own_R p.tables e below P (T20.setTop (mkF m 20 #[.val (.int (16 : Int32)), .val (.int (15 : Int32))] [(.int (1073741824 : Int32)), (.int (15 : Int32))]))
  have hc23 : (15 : Int32) < (1073741824 : Int32) := (by decide)
  refine own_fwd (fun tt kt => XS.icmpYes X20.here hx rfl (pc0 := 20) (pc' := 28) rfl (hb hby own_d11_20) rfl (tlt hc23).1 (by decide) (by decide) kt) ?_
  show own_R p.tables e below P (T20.setTop (mkF m 28 #[.val (.int (16 : Int32)), .val (.int (15 : Int32))] []))
  refine own_fwd (fun tt kt => XS.iloadN X20.here hx rfl (hb hby own_d11_28) rfl kt) ?_
  show own_R p.tables e below P (T20.setTop (mkF m 29 #[.val (.int (16 : Int32)), .val (.int (15 : Int32))] [(.int (15 : Int32))]))
  refine own_fwd (fun tt kt => XS.iconst X20.here hx rfl (hb hby own_d11_29) kt) ?_
  show own_R p.tables e below P (T20.setTop (mkF m 30 #[.val (.int (16 : Int32)), .val (.int (15 : Int32))] [(.int (1 : Int32)), (.int (15 : Int32))]))
  refine own_fwd (fun tt kt => XS.iadd X20.here hx rfl (hb hby own_d11_30) rfl kt) ?_
  show own_R p.tables e below P (T20.setTop (mkF m 31 #[.val (.int (16 : Int32)), .val (.int (15 : Int32))] [(.int ((15 : Int32) + (1 : Int32)))]))
  have hv24 : ((15 : Int32) + (1 : Int32)) = (16 : Int32) := by decide
  rw [hv24]
  show own_R p.tables e below P (T20.setTop (mkF m 31 #[.val (.int (16 : Int32)), .val (.int (15 : Int32))] [(.int (16 : Int32))]))
  obtain ⟨fs25, hr25, hrun25, hended25, hW25, hsame25⟩ := X20.leave (v := some (.int (16 : Int32))) (fun h => by rw [Bd.returns] at h; cases h)
  refine ⟨_, _, X20.ireturnOut hx (w := (16 : Int32)) Bd.returns rfl (by simp) (hb hby own_d11_31) hr25, fin _ _ ⟨hrun25, hended25, _, _, rfl, ?_, ⟨_, rfl⟩, hW25, hsame25.mono (by decide) (by decide)⟩⟩
  show own_Q11 Z  h0 n0 _ T20.heap _
  rw [e20]
  exact ⟨rfl, N20, rfl⟩
theorem own_d7_0 : decode jdk_94_method_14_code 0 = .ok (.aload_n 0, 1) := by decide +kernel
theorem own_d7_1 : decode jdk_94_method_14_code 1 = .ok (.iload_n 1, 1) := by decide +kernel
theorem own_d7_2 : decode jdk_94_method_14_code 2 = .ok (.fload_n 2, 1) := by decide +kernel
theorem own_d7_3 : decode jdk_94_method_14_code 3 = .ok (.invokespecial 81, 3) := by decide +kernel
theorem own_d7_6 : decode jdk_94_method_14_code 6 = .ok (.aload_n 0, 1) := by decide +kernel
theorem own_d7_7 : decode jdk_94_method_14_code 7 = .ok (.iconst 0, 1) := by decide +kernel
theorem own_d7_8 : decode jdk_94_method_14_code 8 = .ok (.putfield 1, 3) := by decide +kernel
theorem own_d7_11 : decode jdk_94_method_14_code 11 = .ok (.aload_n 0, 1) := by decide +kernel
theorem own_d7_12 : decode jdk_94_method_14_code 12 = .ok (.iconst 0, 1) := by decide +kernel
theorem own_d7_13 : decode jdk_94_method_14_code 13 = .ok (.putfield 64, 3) := by decide +kernel
theorem own_d7_16 : decode jdk_94_method_14_code 16 = .ok (.return_, 1) := by decide +kernel
theorem own_pn5 : plainName "java/util/LinkedHashMap" = true := by first | (simp [plainName, overriddenIn]; done) | decide +kernel
theorem own_d8_0 : decode jdk_69_method_5_code 0 = .ok (.aload_n 0, 1) := by decide +kernel
theorem own_d8_1 : decode jdk_69_method_5_code 1 = .ok (.invokespecial 43, 3) := by decide +kernel
theorem own_d8_4 : decode jdk_69_method_5_code 4 = .ok (.iload_n 1, 1) := by decide +kernel
theorem own_d8_5 : decode jdk_69_method_5_code 5 = .ok (.ifCond .ge 30, 3) := by decide +kernel
theorem own_d8_8 : decode jdk_69_method_5_code 8 = .ok (.new 49, 3) := by decide +kernel
theorem own_d8_11 : decode jdk_69_method_5_code 11 = .ok (.dup, 1) := by decide +kernel
theorem own_d8_12 : decode jdk_69_method_5_code 12 = .ok (.new 51, 3) := by decide +kernel
theorem own_d8_15 : decode jdk_69_method_5_code 15 = .ok (.dup, 1) := by decide +kernel
theorem own_d8_16 : decode jdk_69_method_5_code 16 = .ok (.invokespecial 53, 3) := by decide +kernel
theorem own_d8_19 : decode jdk_69_method_5_code 19 = .ok (.ldc 54, 2) := by decide +kernel
theorem own_d8_21 : decode jdk_69_method_5_code 21 = .ok (.invokevirtual 56, 3) := by decide +kernel
theorem own_d8_24 : decode jdk_69_method_5_code 24 = .ok (.iload_n 1, 1) := by decide +kernel
theorem own_d8_25 : decode jdk_69_method_5_code 25 = .ok (.invokevirtual 60, 3) := by decide +kernel
theorem own_d8_28 : decode jdk_69_method_5_code 28 = .ok (.invokevirtual 63, 3) := by decide +kernel
theorem own_d8_31 : decode jdk_69_method_5_code 31 = .ok (.invokespecial 67, 3) := by decide +kernel
theorem own_d8_34 : decode jdk_69_method_5_code 34 = .ok (.athrow, 1) := by decide +kernel
theorem own_d8_35 : decode jdk_69_method_5_code 35 = .ok (.iload_n 1, 1) := by decide +kernel
theorem own_d8_36 : decode jdk_69_method_5_code 36 = .ok (.ldc 42, 2) := by decide +kernel
theorem own_d8_38 : decode jdk_69_method_5_code 38 = .ok (.if_icmp .le 6, 3) := by decide +kernel
theorem own_d8_41 : decode jdk_69_method_5_code 41 = .ok (.ldc 42, 2) := by decide +kernel
theorem own_d8_43 : decode jdk_69_method_5_code 43 = .ok (.istore_n 1, 1) := by decide +kernel
theorem own_d8_44 : decode jdk_69_method_5_code 44 = .ok (.fload_n 2, 1) := by decide +kernel
theorem own_d8_45 : decode jdk_69_method_5_code 45 = .ok (.fconst 0, 1) := by decide +kernel
theorem own_d8_46 : decode jdk_69_method_5_code 46 = .ok (.fcmp .g, 1) := by decide +kernel
theorem own_d8_47 : decode jdk_69_method_5_code 47 = .ok (.ifCond .le 10, 3) := by decide +kernel
theorem own_d8_50 : decode jdk_69_method_5_code 50 = .ok (.fload_n 2, 1) := by decide +kernel
theorem own_d8_51 : decode jdk_69_method_5_code 51 = .ok (.invokestatic 70, 3) := by decide +kernel
theorem own_d8_54 : decode jdk_69_method_5_code 54 = .ok (.ifCond .eq 30, 3) := by decide +kernel
theorem own_d8_57 : decode jdk_69_method_5_code 57 = .ok (.new 49, 3) := by decide +kernel
theorem own_d8_60 : decode jdk_69_method_5_code 60 = .ok (.dup, 1) := by decide +kernel
theorem own_d8_61 : decode jdk_69_method_5_code 61 = .ok (.new 51, 3) := by decide +kernel
theorem own_d8_64 : decode jdk_69_method_5_code 64 = .ok (.dup, 1) := by decide +kernel
theorem own_d8_65 : decode jdk_69_method_5_code 65 = .ok (.invokespecial 53, 3) := by decide +kernel
theorem own_d8_68 : decode jdk_69_method_5_code 68 = .ok (.ldc 76, 2) := by decide +kernel
theorem own_d8_70 : decode jdk_69_method_5_code 70 = .ok (.invokevirtual 56, 3) := by decide +kernel
theorem own_d8_73 : decode jdk_69_method_5_code 73 = .ok (.fload_n 2, 1) := by decide +kernel
theorem own_d8_74 : decode jdk_69_method_5_code 74 = .ok (.invokevirtual 78, 3) := by decide +kernel
theorem own_d8_77 : decode jdk_69_method_5_code 77 = .ok (.invokevirtual 63, 3) := by decide +kernel
theorem own_d8_80 : decode jdk_69_method_5_code 80 = .ok (.invokespecial 67, 3) := by decide +kernel
theorem own_d8_83 : decode jdk_69_method_5_code 83 = .ok (.athrow, 1) := by decide +kernel
theorem own_d8_84 : decode jdk_69_method_5_code 84 = .ok (.aload_n 0, 1) := by decide +kernel
theorem own_d8_85 : decode jdk_69_method_5_code 85 = .ok (.fload_n 2, 1) := by decide +kernel
theorem own_d8_86 : decode jdk_69_method_5_code 86 = .ok (.putfield 81, 3) := by decide +kernel
theorem own_d8_89 : decode jdk_69_method_5_code 89 = .ok (.aload_n 0, 1) := by decide +kernel
theorem own_d8_90 : decode jdk_69_method_5_code 90 = .ok (.iload_n 1, 1) := by decide +kernel
theorem own_d8_91 : decode jdk_69_method_5_code 91 = .ok (.invokestatic 85, 3) := by decide +kernel
theorem own_d8_94 : decode jdk_69_method_5_code 94 = .ok (.putfield 88, 3) := by decide +kernel
theorem own_d8_97 : decode jdk_69_method_5_code 97 = .ok (.return_, 1) := by decide +kernel
theorem own_pd2 : parseMethodDescriptor "(F)Z" = some ⟨[.float], some .boolean⟩ := by decide +kernel
theorem own_efhm3 (m : MethodId) (a1 : Addr) : entryFrame m #[(.ref a1), (.int (16 : Int32)), (.float (1061158912 : UInt32))] 3 = mkF m 0 #[.val (.ref a1), .val (.int (16 : Int32)), .val (.float (1061158912 : UInt32))] [] := by first | (simp [entryFrame, mkF, argsToLocals, Value.category]; done) | rfl
def own_Qhm3 (Z : State) (a1 : Addr) (h0 : Heap) (n0 : Nat) (v : Option Value) (h : Heap) (L : List Loc) : Prop := v = none ∧ Fr n0 L ∧ Keep h0 h [a1] ∧ Fld Z h a1 "java/util/LinkedHashMap" "putMode" "I" (.int (0 : Int32)) ∧ Fld Z h a1 "java/util/LinkedHashMap" "accessOrder" "Z" (.int (0 : Int32))
set_option maxRecDepth 65536 in
set_option maxHeartbeats 40000000 in
theorem own_rmhm3 (l : Launch) (Z : State) (a0 : Array Value) (hw : ∀ d ∈ tables_1, d.before a0 Z = true) (ws : List Jvm.Cond) (a1 : Addr) (h0 : Heap) (n0 : Nat) (Z0 : n0 ≤ h0.size) (pE : Exa Z h0 a1 "java/util/LinkedHashMap") (pF0 : Fld Z h0 a1 "java/util/HashMap" "loadFactor" "F" (.float (0 : UInt32))) (pF1 : Fld Z h0 a1 "java/util/HashMap" "threshold" "I" (.int (0 : Int32))) (pF2 : Fld Z h0 a1 "java/util/LinkedHashMap" "putMode" "I" (.int (0 : Int32))) (pF3 : Fld Z h0 a1 "java/util/LinkedHashMap" "accessOrder" "Z" (.int (0 : Int32))) (pg : n0 ≤ a1) :
    MetFree l (⟨"java/util/HashMap", "<init>", "(IF)V"⟩ : MethodName) (head1 (Jvm.Cond.code (⟨"java/util/HashMap", "<init>", "(IF)V"⟩ : MethodName) jdk_69_method_5_code 3 none :: ws) ({ frames := 2, cells := 0, slots := 0, locals := 28 } : Room)) (fun a U => a = #[(.ref a1), (.int (16 : Int32)), (.float (1061158912 : UInt32))] ∧ Z.Warmed39 U.vm ∧ U.heap = h0) (fun _ _ _ _ _ => True) (fun _ U o U' => ∃ v L, o = .returned v ∧ own_Qhm3 Z a1 h0 n0 v U'.heap L ∧ FrameEnd U o U' L ({ frames := 2, cells := 0, slots := 0, locals := 28 } : Room).cells ({ frames := 2, cells := 0, slots := 0, locals := 28 } : Room).slots) := by
  refine MetFree.of_bodySF (plainFor_of_name own_pn4) hisR ?_
  intro p e s m args below meth c s₁ Bd hml0 hP hK
  obtain ⟨rfl, hZ, hh⟩ := hP
  have hx := Bd.exec
  have hby := Bd.bytes
  have hml : c.maxLocals = 3 := hml0
  have hown : s.vm.findClass "java/util/HashMap" = some m.cls := findClass_of_methodNamed Bd.named
  have hnm := (name_of_methodNamed Bd.named Bd.method).1
  have X0 : Stand p l e ({ frames := 2, cells := 0, slots := 0, locals := 28 } : Room) s m #[(.ref a1), (.int (16 : Int32)), (.float (1061158912 : UInt32))] below meth c s₁ [] 0 0 := Stand.of_body Bd
  have e0 : s₁.heap = h0 := by rw [← hh, Bd.state]; rfl
  have N0 := Fr.nil n0
  refine own_nm (st := s₁.setTop (entryFrame m #[(.ref a1), (.int (16 : Int32)), (.float (1061158912 : UInt32))] 3)) fun P fin => ?_
  refine own_fwd (fun tt kt => castTop (own_efhm3 m a1) kt) ?_
  show own_R p.tables e below P (s₁.setTop (mkF m 0 #[.val (.ref a1), .val (.int (16 : Int32)), .val (.float (1061158912 : UInt32))] []))
  have K0 := Keep.refl h0 [a1]
  refine own_fwd (fun tt kt => XS.aloadN X0.here hx rfl (hb hby own_d8_0) rfl rfl kt) ?_
  show own_R p.tables e below P (s₁.setTop (mkF m 1 #[.val (.ref a1), .val (.int (16 : Int32)), .val (.float (1061158912 : UInt32))] [(.ref a1)]))
  obtain ⟨_, _, ⟨T26, L26, k26, n26⟩, -, X26, ⟨Lc26, hQ26, l26, y26, z26⟩, st26⟩ := X0.specialBack hx (y := (⟨"java/util/AbstractMap", "<init>", "()V"⟩ : MethodName)) rfl hown (mvT hZ (hw _ (List.mem_of_getElem? (i := 49) rfl))) (mvT hZ (hw _ (List.mem_of_getElem? (i := 50) rfl))) (mvT hZ (hw _ (List.mem_of_getElem? (i := 54) rfl))) (by decide) (backOf (W := 0) (own_rm9 l Z a0 hw [] a1 h0 n0 Z0 ) hZ (hw _ (List.mem_of_getElem? (i := 54) rfl)) (hw _ (List.mem_of_getElem? (i := 53) rfl)) (by decide) (by decide)) (g := (mkF m 1 #[.val (.ref a1), .val (.int (16 : Int32)), .val (.float (1061158912 : UInt32))] [(.ref a1)])) rfl (by rw [hml]; rfl) (Steps.refl _) (a := a1) (argsL := []) (rest := []) (lenOf own_pd0 rfl) rfl (by show 2 * 0 + _ ≤ _; exact Nat.le_of_eq rfl) (hb hby own_d8_1) (fun _ _ => ⟨rfl, e0, (by decide : 0 + 0 ≤ _), (by decide : 0 + 0 ≤ _)⟩)
  dsimp only [Pt.U, Pt.locs, Pt.cells, Pt.slots] at X26 l26 y26 z26 st26 hQ26
  subst l26 y26 z26
  obtain ⟨h26, e26⟩ : ∃ z, T26.heap = z := ⟨_, rfl⟩
  rw [e26] at hQ26
  obtain ⟨hq26, N26q, q26⟩ := hQ26
  rw [q26] at e26
  subst hq26
  have N26 := Fr.app N0 N26q
  refine own_trn st26 ?_
  show own_R p.tables e below P (T26.setTop (mkF m 4 #[.val (.ref a1), .val (.int (16 : Int32)), .val (.float (1061158912 : UInt32))] []))
  refine own_fwd (fun tt kt => XS.iloadN X26.here hx rfl (hb hby own_d8_4) rfl kt) ?_
  show own_R p.tables e below P (T26.setTop (mkF m 5 #[.val (.ref a1), .val (.int (16 : Int32)), .val (.float (1061158912 : UInt32))] [(.int (16 : Int32))]))
  have hc27 : ¬ ((16 : Int32) < (0 : Int32)) := (by decide)
  refine own_fwd (fun tt kt => XS.ifYes X26.here hx rfl (pc0 := 5) (pc' := 35) rfl (hb hby own_d8_5) rfl ((if0 _ _).trans (flt hc27).2.1) (by decide) (by decide) kt) ?_
  show own_R p.tables e below P (T26.setTop (mkF m 35 #[.val (.ref a1), .val (.int (16 : Int32)), .val (.float (1061158912 : UInt32))] []))
  refine own_fwd (fun tt kt => XS.iloadN X26.here hx rfl (hb hby own_d8_35) rfl kt) ?_
  show own_R p.tables e below P (T26.setTop (mkF m 36 #[.val (.ref a1), .val (.int (16 : Int32)), .val (.float (1061158912 : UInt32))] [(.int (16 : Int32))]))
  refine own_fwd (fun tt kt => X26.ldcInt hx hown (mvT hZ (hw _ (List.mem_of_getElem? (i := 56) rfl))) (g := (mkF m 36 #[.val (.ref a1), .val (.int (16 : Int32)), .val (.float (1061158912 : UInt32))] [(.int (16 : Int32))])) rfl (hb hby own_d8_36) tt kt) ?_
  show own_R p.tables e below P (T26.setTop (mkF m 38 #[.val (.ref a1), .val (.int (16 : Int32)), .val (.float (1061158912 : UInt32))] [(.int (1073741824 : Int32)), (.int (16 : Int32))]))
  have hc28 : ¬ ((1073741824 : Int32) < (16 : Int32)) := (by decide)
  refine own_fwd (fun tt kt => XS.icmpYes X26.here hx rfl (pc0 := 38) (pc' := 44) rfl (hb hby own_d8_38) rfl (flt hc28).2.2.2 (by decide) (by decide) kt) ?_
  show own_R p.tables e below P (T26.setTop (mkF m 44 #[.val (.ref a1), .val (.int (16 : Int32)), .val (.float (1061158912 : UInt32))] []))
  refine own_fwd (fun tt kt => XS.floadN X26.here hx rfl (hb hby own_d8_44) rfl kt) ?_
  show own_R p.tables e below P (T26.setTop (mkF m 45 #[.val (.ref a1), .val (.int (16 : Int32)), .val (.float (1061158912 : UInt32))] [(.float (1061158912 : UInt32))]))
  refine own_fwd (fun tt kt => XS.fconst0 X26.here hx rfl (v := (0 : UInt32)) (hb hby own_d8_45) (by decide +kernel) kt) ?_
  show own_R p.tables e below P (T26.setTop (mkF m 46 #[.val (.ref a1), .val (.int (16 : Int32)), .val (.float (1061158912 : UInt32))] [(.float (0 : UInt32)), (.float (1061158912 : UInt32))]))
  refine own_fwd (fun tt kt => XS.fcmpS X26.here hx rfl (v := (1 : Int32)) (hb hby own_d8_46) rfl (by decide +kernel) kt) ?_
  show own_R p.tables e below P (T26.setTop (mkF m 47 #[.val (.ref a1), .val (.int (16 : Int32)), .val (.float (1061158912 : UInt32))] [(.int (1 : Int32))]))
  have hc29 : (0 : Int32) < (1 : Int32) := (by decide)
  refine own_fwd (fun tt kt => XS.ifNo X26.here hx rfl (hb hby own_d8_47) rfl ((if0 _ _).trans (tlt hc29).2.2.2) kt) ?_
  show own_R p.tables e below P (T26.setTop (mkF m 50 #[.val (.ref a1), .val (.int (16 : Int32)), .val (.float (1061158912 : UInt32))] []))
  refine own_fwd (fun tt kt => XS.floadN X26.here hx rfl (hb hby own_d8_50) rfl kt) ?_
  show own_R p.tables e below P (T26.setTop (mkF m 51 #[.val (.ref a1), .val (.int (16 : Int32)), .val (.float (1061158912 : UInt32))] [(.float (1061158912 : UInt32))]))
  obtain ⟨_, _, ⟨T30, L30, k30, n30⟩, -, X30, ⟨Lc30, hQ30, l30, y30, z30⟩, st30⟩ := Jvm.LawKit.callS X26 hx (y := (⟨"java/lang/Float", "isNaN", "(F)Z"⟩ : MethodName)) hown (mvT hZ (hw _ (List.mem_of_getElem? (i := 57) rfl))) (mvT hZ (hw _ (List.mem_of_getElem? (i := 58) rfl))) (mvT hZ (hw _ (List.mem_of_getElem? (i := 59) rfl))) (mvT hZ (hw _ (List.mem_of_getElem? (i := 60) rfl))) (by decide) (backOf (W := 0) (own_rm10 l Z a0 hw []  h0 n0 Z0 ) hZ (hw _ (List.mem_of_getElem? (i := 60) rfl)) (hw _ (List.mem_of_getElem? (i := 59) rfl)) (by decide) (by decide)) (g := (mkF m 51 #[.val (.ref a1), .val (.int (16 : Int32)), .val (.float (1061158912 : UInt32))] [(.float (1061158912 : UInt32))])) rfl (by rw [hml]; rfl) (argsL := [(.float (1061158912 : UInt32))]) (rest := []) (lenOf own_pd2 rfl) rfl (by show 2 * 0 + _ ≤ _; exact Nat.le_of_eq rfl) (hb hby own_d8_51) (fun _ _ => ⟨rfl, e26, (by decide : 0 + 0 ≤ _), (by decide : 0 + 0 ≤ _)⟩)
  dsimp only [Pt.U, Pt.locs, Pt.cells, Pt.slots] at X30 l30 y30 z30 st30 hQ30
  subst l30 y30 z30
  obtain ⟨h30, e30⟩ : ∃ z, T30.heap = z := ⟨_, rfl⟩
  rw [e30] at hQ30
  obtain ⟨hq30, N30q, q30⟩ := hQ30
  rw [q30] at e30
  subst hq30
  have N30 := Fr.app N26 N30q
  refine own_fwd st30 ?_
  show own_R p.tables e below P (T30.setTop (mkF m 54 #[.val (.ref a1), .val (.int (16 : Int32)), .val (.float (1061158912 : UInt32))] [(.int (0 : Int32))]))
  have hc31 : (0 : Int32) = (0 : Int32) := (by decide)
  refine own_fwd (fun tt kt => XS.ifYes X30.here hx rfl (pc0 := 54) (pc' := 84) rfl (hb hby own_d8_54) rfl ((if0 _ _).trans (teq hc31).1) (by decide) (by decide) kt) ?_
  show own_R p.tables e below P (T30.setTop (mkF m 84 #[.val (.ref a1), .val (.int (16 : Int32)), .val (.float (1061158912 : UInt32))] []))
  refine own_fwd (fun tt kt => XS.aloadN X30.here hx rfl (hb hby own_d8_84) rfl rfl kt) ?_
  show own_R p.tables e below P (T30.setTop (mkF m 85 #[.val (.ref a1), .val (.int (16 : Int32)), .val (.float (1061158912 : UInt32))] [(.ref a1)]))
  refine own_fwd (fun tt kt => XS.floadN X30.here hx rfl (hb hby own_d8_85) rfl kt) ?_
  show own_R p.tables e below P (T30.setTop (mkF m 86 #[.val (.ref a1), .val (.int (16 : Int32)), .val (.float (1061158912 : UInt32))] [(.float (1061158912 : UInt32)), (.ref a1)]))
  obtain ⟨T32, h32, X32, e32, W32, st32⟩ := putF X30 hx hZ hown (host := "") (Or.inl (hw _ (List.mem_of_getElem? (i := 61) rfl))) Via.refl e30 pF0 pE (Or.inr ⟨(hw _ (List.mem_of_getElem? (i := 62) rfl)), rfl, hnm⟩) (hw _ (List.mem_of_getElem? (i := 37) rfl)) (ty := .float) (by decide) rfl rfl (g := (mkF m 86 #[.val (.ref a1), .val (.int (16 : Int32)), .val (.float (1061158912 : UInt32))] [(.float (1061158912 : UInt32)), (.ref a1)])) rfl rfl (hb hby own_d8_86)
  have F32_ := pF0.same W32
  have pE_x32 := pE.wr W32
  have pF1_x32 := pF1.other W32 (Or.inr (slot_ne (Or.inl (hw _ (List.mem_of_getElem? (i := 72) rfl))) (Or.inr (hw _ (List.mem_of_getElem? (i := 62) rfl))) (by decide) (t := .int) (t' := .float) (by decide) (by decide)))
  have pF2_x32 := pF2.other W32 (Or.inr (slot_ne (Or.inl (hw _ (List.mem_of_getElem? (i := 74) rfl))) (Or.inr (hw _ (List.mem_of_getElem? (i := 62) rfl))) (by decide) (t := .int) (t' := .float) (by decide) (by decide)))
  have pF3_x32 := pF3.other W32 (Or.inr (slot_ne (Or.inr (hw _ (List.mem_of_getElem? (i := 76) rfl))) (Or.inr (hw _ (List.mem_of_getElem? (i := 62) rfl))) (by decide) (t := .boolean) (t' := .float) (by decide) (by decide)))
  have N32 := Fr.snoc X32 N30 pg
  have Z32 : n0 ≤ h32.size := by rw [W32.size]; exact Z0
  have K32 := K0.wr W32 (Or.inl (List.mem_of_getElem? (i := 0) rfl))
  have Y32 : h0.size ≤ h32.size := by rw [W32.size]; exact (Nat.le_refl h0.size)
  refine own_fwd st32 ?_
  show own_R p.tables e below P (T32.setTop (mkF m 89 #[.val (.ref a1), .val (.int (16 : Int32)), .val (.float (1061158912 : UInt32))] []))
  refine own_fwd (fun tt kt => XS.aloadN X32.here hx rfl (hb hby own_d8_89) rfl rfl kt) ?_
  show own_R p.tables e below P (T32.setTop (mkF m 90 #[.val (.ref a1), .val (.int (16 : Int32)), .val (.float (1061158912 : UInt32))] [(.ref a1)]))
  refine own_fwd (fun tt kt => XS.iloadN X32.here hx rfl (hb hby own_d8_90) rfl kt) ?_
  show own_R p.tables e below P (T32.setTop (mkF m 91 #[.val (.ref a1), .val (.int (16 : Int32)), .val (.float (1061158912 : UInt32))] [(.int (16 : Int32)), (.ref a1)]))
  obtain ⟨_, _, ⟨T33, L33, k33, n33⟩, -, X33, ⟨Lc33, hQ33, l33, y33, z33⟩, st33⟩ := Jvm.LawKit.callS X32 hx (y := (⟨"java/util/HashMap", "tableSizeFor", "(I)I"⟩ : MethodName)) hown (mvT hZ (hw _ (List.mem_of_getElem? (i := 63) rfl))) (mvT hZ (hw _ (List.mem_of_getElem? (i := 64) rfl))) (mvT hZ (hw _ (List.mem_of_getElem? (i := 47) rfl))) (mvT hZ (hw _ (List.mem_of_getElem? (i := 65) rfl))) (by decide) (backOf (W := 1) (own_rm11 l Z a0 hw []  h32 n0 Z32 ) hZ (hw _ (List.mem_of_getElem? (i := 65) rfl)) (hw _ (List.mem_of_getElem? (i := 47) rfl)) (by decide) (by decide)) (g := (mkF m 91 #[.val (.ref a1), .val (.int (16 : Int32)), .val (.float (1061158912 : UInt32))] [(.int (16 : Int32)), (.ref a1)])) rfl (by rw [hml]; rfl) (argsL := [(.int (16 : Int32))]) (rest := [(.ref a1)]) (lenOf own_pd1 rfl) rfl (by show 2 * 0 + _ ≤ _; exact Nat.le_of_eq rfl) (hb hby own_d8_91) (fun _ _ => ⟨rfl, e32, (by decide : 0 + 0 ≤ _), (by decide : 0 + 0 ≤ _)⟩)
  dsimp only [Pt.U, Pt.locs, Pt.cells, Pt.slots] at X33 l33 y33 z33 st33 hQ33
  subst l33 y33 z33
  obtain ⟨h33, e33⟩ : ∃ z, T33.heap = z := ⟨_, rfl⟩
  rw [e33] at hQ33
  obtain ⟨hq33, N33q, q33⟩ := hQ33
  rw [q33] at e33
  subst hq33
  have N33 := Fr.app N32 N33q
  refine own_fwd st33 ?_
  show own_R p.tables e below P (T33.setTop (mkF m 94 #[.val (.ref a1), .val (.int (16 : Int32)), .val (.float (1061158912 : UInt32))] [(.int (16 : Int32)), (.ref a1)]))
  obtain ⟨T34, h34, X34, e34, W34, st34⟩ := putF X33 hx hZ hown (host := "") (Or.inl (hw _ (List.mem_of_getElem? (i := 71) rfl))) Via.refl e33 pF1_x32 pE_x32 (Or.inl (hw _ (List.mem_of_getElem? (i := 72) rfl))) (hw _ (List.mem_of_getElem? (i := 37) rfl)) (ty := .int) (by decide) rfl rfl (g := (mkF m 94 #[.val (.ref a1), .val (.int (16 : Int32)), .val (.float (1061158912 : UInt32))] [(.int (16 : Int32)), (.ref a1)])) rfl rfl (hb hby own_d8_94)
  have F34_ := pF1_x32.same W34
  have pE_x34 := pE_x32.wr W34
  have F32__x34 := F32_.other W34 (Or.inr (slot_ne (Or.inr (hw _ (List.mem_of_getElem? (i := 62) rfl))) (Or.inl (hw _ (List.mem_of_getElem? (i := 72) rfl))) (by decide) (t := .float) (t' := .int) (by decide) (by decide)))
  have pF2_x34 := pF2_x32.other W34 (Or.inr (slot_ne (Or.inl (hw _ (List.mem_of_getElem? (i := 74) rfl))) (Or.inl (hw _ (List.mem_of_getElem? (i := 72) rfl))) (by decide) (t := .int) (t' := .int) (by decide) (by decide)))
  have pF3_x34 := pF3_x32.other W34 (Or.inr (slot_ne (Or.inr (hw _ (List.mem_of_getElem? (i := 76) rfl))) (Or.inl (hw _ (List.mem_of_getElem? (i := 72) rfl))) (by decide) (t := .boolean) (t' := .int) (by decide) (by decide)))
  have N34 := Fr.snoc X34 N33 pg
  have Z34 : n0 ≤ h34.size := by rw [W34.size]; exact Z32
  have K34 := K32.wr W34 (Or.inl (List.mem_of_getElem? (i := 0) rfl))
  have Y34 : h0.size ≤ h34.size := by rw [W34.size]; exact Y32
  refine own_fwd st34 ?_
  show own_R p.tables e below P (T34.setTop (mkF m 97 #[.val (.ref a1), .val (.int (16 : Int32)), .val (.float (1061158912 : UInt32))] []))
  obtain ⟨fs35, hr35, hrun35, hended35, hW35, hsame35⟩ := X34.leave (v := none) (fun _ => rfl)
  refine ⟨_, _, X34.returnOut hx Bd.returns (hb hby own_d8_97) hr35, fin _ _ ⟨hrun35, hended35, _, _, rfl, ?_, ⟨_, rfl⟩, hW35, hsame35.mono (by decide) (by decide)⟩⟩
  show own_Qhm3 Z a1 h0 n0 _ T34.heap _
  rw [e34]
  exact ⟨rfl, N34, K34, pF2_x34, pF3_x34⟩
theorem own_pd3 : parseMethodDescriptor "(IF)V" = some ⟨[.int, .float], none⟩ := by decide +kernel
theorem own_ef7 (m : MethodId) (a1 : Addr) : entryFrame m #[(.ref a1), (.int (16 : Int32)), (.float (1061158912 : UInt32))] 3 = mkF m 0 #[.val (.ref a1), .val (.int (16 : Int32)), .val (.float (1061158912 : UInt32))] [] := by first | (simp [entryFrame, mkF, argsToLocals, Value.category]; done) | rfl
def own_Q7 (Z : State) (a1 : Addr) (h0 : Heap) (n0 : Nat) (v : Option Value) (h : Heap) (L : List Loc) : Prop := v = none ∧ Fr n0 L ∧ Keep h0 h [a1]
set_option maxRecDepth 65536 in
set_option maxHeartbeats 40000000 in
theorem own_rm7 (l : Launch) (Z : State) (a0 : Array Value) (hw : ∀ d ∈ tables_1, d.before a0 Z = true) (ws : List Jvm.Cond) (a1 : Addr) (h0 : Heap) (n0 : Nat) (Z0 : n0 ≤ h0.size) (pE : Exa Z h0 a1 "java/util/LinkedHashMap") (pF0 : Fld Z h0 a1 "java/util/HashMap" "loadFactor" "F" (.float (0 : UInt32))) (pF1 : Fld Z h0 a1 "java/util/HashMap" "threshold" "I" (.int (0 : Int32))) (pF2 : Fld Z h0 a1 "java/util/LinkedHashMap" "putMode" "I" (.int (0 : Int32))) (pF3 : Fld Z h0 a1 "java/util/LinkedHashMap" "accessOrder" "Z" (.int (0 : Int32))) (pg : n0 ≤ a1) :
    MetFree l (⟨"java/util/LinkedHashMap", "<init>", "(IF)V"⟩ : MethodName) (head1 (Jvm.Cond.code (⟨"java/util/LinkedHashMap", "<init>", "(IF)V"⟩ : MethodName) jdk_94_method_14_code 3 none :: ws) ({ frames := 3, cells := 0, slots := 0, locals := 42 } : Room)) (fun a U => a = #[(.ref a1), (.int (16 : Int32)), (.float (1061158912 : UInt32))] ∧ Z.Warmed39 U.vm ∧ U.heap = h0) (fun _ _ _ _ _ => True) (fun _ U o U' => ∃ v L, o = .returned v ∧ own_Q7 Z a1 h0 n0 v U'.heap L ∧ FrameEnd U o U' L ({ frames := 3, cells := 0, slots := 0, locals := 42 } : Room).cells ({ frames := 3, cells := 0, slots := 0, locals := 42 } : Room).slots) := by
  refine MetFree.of_bodySF (plainFor_of_name own_pn5) hisR ?_
  intro p e s m args below meth c s₁ Bd hml0 hP hK
  obtain ⟨rfl, hZ, hh⟩ := hP
  have hx := Bd.exec
  have hby := Bd.bytes
  have hml : c.maxLocals = 3 := hml0
  have hown : s.vm.findClass "java/util/LinkedHashMap" = some m.cls := findClass_of_methodNamed Bd.named
  have hnm := (name_of_methodNamed Bd.named Bd.method).1
  have X0 : Stand p l e ({ frames := 3, cells := 0, slots := 0, locals := 42 } : Room) s m #[(.ref a1), (.int (16 : Int32)), (.float (1061158912 : UInt32))] below meth c s₁ [] 0 0 := Stand.of_body Bd
  have e0 : s₁.heap = h0 := by rw [← hh, Bd.state]; rfl
  have N0 := Fr.nil n0
  refine own_nm (st := s₁.setTop (entryFrame m #[(.ref a1), (.int (16 : Int32)), (.float (1061158912 : UInt32))] 3)) fun P fin => ?_
  refine own_fwd (fun tt kt => castTop (own_ef7 m a1) kt) ?_
  show own_R p.tables e below P (s₁.setTop (mkF m 0 #[.val (.ref a1), .val (.int (16 : Int32)), .val (.float (1061158912 : UInt32))] []))
  have K0 := Keep.refl h0 [a1]
  refine own_fwd (fun tt kt => XS.aloadN X0.here hx rfl (hb hby own_d7_0) rfl rfl kt) ?_
  show own_R p.tables e below P (s₁.setTop (mkF m 1 #[.val (.ref a1), .val (.int (16 : Int32)), .val (.float (1061158912 : UInt32))] [(.ref a1)]))
  refine own_fwd (fun tt kt => XS.iloadN X0.here hx rfl (hb hby own_d7_1) rfl kt) ?_
  show own_R p.tables e below P (s₁.setTop (mkF m 2 #[.val (.ref a1), .val (.int (16 : Int32)), .val (.float (1061158912 : UInt32))] [(.int (16 : Int32)), (.ref a1)]))
  refine own_fwd (fun tt kt => XS.floadN X0.here hx rfl (hb hby own_d7_2) rfl kt) ?_
  show own_R p.tables e below P (s₁.setTop (mkF m 3 #[.val (.ref a1), .val (.int (16 : Int32)), .val (.float (1061158912 : UInt32))] [(.float (1061158912 : UInt32)), (.int (16 : Int32)), (.ref a1)]))
  obtain ⟨_, _, ⟨T36, L36, k36, n36⟩, -, X36, ⟨Lc36, hQ36, l36, y36, z36⟩, st36⟩ := X0.specialBack hx (y := (⟨"java/util/HashMap", "<init>", "(IF)V"⟩ : MethodName)) rfl hown (mvT hZ (hw _ (List.mem_of_getElem? (i := 43) rfl))) (mvT hZ (hw _ (List.mem_of_getElem? (i := 44) rfl))) (mvT hZ (hw _ (List.mem_of_getElem? (i := 48) rfl))) (by decide) (backOf (W := 0) (own_rmhm3 l Z a0 hw [] a1 h0 n0 Z0 pE pF0 pF1 pF2 pF3 pg) hZ (hw _ (List.mem_of_getElem? (i := 48) rfl)) (hw _ (List.mem_of_getElem? (i := 47) rfl)) (by decide) (by decide)) (g := (mkF m 3 #[.val (.ref a1), .val (.int (16 : Int32)), .val (.float (1061158912 : UInt32))] [(.float (1061158912 : UInt32)), (.int (16 : Int32)), (.ref a1)])) rfl (by rw [hml]; rfl) (Steps.refl _) (a := a1) (argsL := [(.int (16 : Int32)), (.float (1061158912 : UInt32))]) (rest := []) (lenOf own_pd3 rfl) rfl (by show 2 * 0 + _ ≤ _; exact Nat.le_of_eq rfl) (hb hby own_d7_3) (fun _ _ => ⟨rfl, e0, (by decide : 0 + 0 ≤ _), (by decide : 0 + 0 ≤ _)⟩)
  dsimp only [Pt.U, Pt.locs, Pt.cells, Pt.slots] at X36 l36 y36 z36 st36 hQ36
  subst l36 y36 z36
  obtain ⟨h36, e36⟩ : ∃ z, T36.heap = z := ⟨_, rfl⟩
  rw [e36] at hQ36
  obtain ⟨hq36, N36q, K36, G36_, H36_⟩ := hQ36
  subst hq36
  have N36 := Fr.app N0 N36q
  have pE_x36 := pE.keep K36
  have Z36 : n0 ≤ h36.size := Nat.le_trans Z0 K36.1
  have KK36 := K0.trans K36 (allS (Or.inl (List.mem_of_getElem? (i := 0) rfl)) all0)
  have Y36 : h0.size ≤ h36.size := Nat.le_trans (Nat.le_refl h0.size) K36.1
  refine own_trn st36 ?_
  show own_R p.tables e below P (T36.setTop (mkF m 6 #[.val (.ref a1), .val (.int (16 : Int32)), .val (.float (1061158912 : UInt32))] []))
  refine own_fwd (fun tt kt => XS.aloadN X36.here hx rfl (hb hby own_d7_6) rfl rfl kt) ?_
  show own_R p.tables e below P (T36.setTop (mkF m 7 #[.val (.ref a1), .val (.int (16 : Int32)), .val (.float (1061158912 : UInt32))] [(.ref a1)]))
  refine own_fwd (fun tt kt => XS.iconst X36.here hx rfl (hb hby own_d7_7) kt) ?_
  show own_R p.tables e below P (T36.setTop (mkF m 8 #[.val (.ref a1), .val (.int (16 : Int32)), .val (.float (1061158912 : UInt32))] [(.int (0 : Int32)), (.ref a1)]))
  obtain ⟨T37, h37, X37, e37, W37, st37⟩ := putF X36 hx hZ hown (host := "") (Or.inl (hw _ (List.mem_of_getElem? (i := 73) rfl))) Via.refl e36 G36_ pE_x36 (Or.inl (hw _ (List.mem_of_getElem? (i := 74) rfl))) (hw _ (List.mem_of_getElem? (i := 37) rfl)) (ty := .int) (by decide) rfl rfl (g := (mkF m 8 #[.val (.ref a1), .val (.int (16 : Int32)), .val (.float (1061158912 : UInt32))] [(.int (0 : Int32)), (.ref a1)])) rfl rfl (hb hby own_d7_8)
  have F37_ := G36_.same W37
  have pE_x37 := pE_x36.wr W37
  have H36__x37 := H36_.other W37 (Or.inr (slot_ne (Or.inr (hw _ (List.mem_of_getElem? (i := 76) rfl))) (Or.inl (hw _ (List.mem_of_getElem? (i := 74) rfl))) (by decide) (t := .boolean) (t' := .int) (by decide) (by decide)))
  have N37 := Fr.snoc X37 N36 pg
  have Z37 : n0 ≤ h37.size := by rw [W37.size]; exact Z36
  have K37 := KK36.wr W37 (Or.inl (List.mem_of_getElem? (i := 0) rfl))
  have Y37 : h0.size ≤ h37.size := by rw [W37.size]; exact Y36
  refine own_fwd st37 ?_
  show own_R p.tables e below P (T37.setTop (mkF m 11 #[.val (.ref a1), .val (.int (16 : Int32)), .val (.float (1061158912 : UInt32))] []))
  refine own_fwd (fun tt kt => XS.aloadN X37.here hx rfl (hb hby own_d7_11) rfl rfl kt) ?_
  show own_R p.tables e below P (T37.setTop (mkF m 12 #[.val (.ref a1), .val (.int (16 : Int32)), .val (.float (1061158912 : UInt32))] [(.ref a1)]))
  refine own_fwd (fun tt kt => XS.iconst X37.here hx rfl (hb hby own_d7_12) kt) ?_
  show own_R p.tables e below P (T37.setTop (mkF m 13 #[.val (.ref a1), .val (.int (16 : Int32)), .val (.float (1061158912 : UInt32))] [(.int (0 : Int32)), (.ref a1)]))
  obtain ⟨T38, h38, X38, e38, W38, st38⟩ := putFN X37 hx hZ hown (hw _ (List.mem_of_getElem? (i := 75) rfl)) Via.refl e37 H36__x37 pE_x37 (Or.inr ⟨(hw _ (List.mem_of_getElem? (i := 76) rfl)), rfl, hnm⟩) (hw _ (List.mem_of_getElem? (i := 37) rfl)) (ty := .boolean) (v' := (.int (0 : Int32))) (by decide) rfl rfl (g := (mkF m 13 #[.val (.ref a1), .val (.int (16 : Int32)), .val (.float (1061158912 : UInt32))] [(.int (0 : Int32)), (.ref a1)])) rfl rfl (hb hby own_d7_13)
  have F38_ := H36__x37.same W38
  have pE_x38 := pE_x37.wr W38
  have F37__x38 := F37_.other W38 (Or.inr (slot_ne (Or.inl (hw _ (List.mem_of_getElem? (i := 74) rfl))) (Or.inr (hw _ (List.mem_of_getElem? (i := 76) rfl))) (by decide) (t := .int) (t' := .boolean) (by decide) (by decide)))
  have N38 := Fr.snoc X38 N37 pg
  have Z38 : n0 ≤ h38.size := by rw [W38.size]; exact Z37
  have K38 := K37.wr W38 (Or.inl (List.mem_of_getElem? (i := 0) rfl))
  have Y38 : h0.size ≤ h38.size := by rw [W38.size]; exact Y37
  refine own_fwd st38 ?_
  show own_R p.tables e below P (T38.setTop (mkF m 16 #[.val (.ref a1), .val (.int (16 : Int32)), .val (.float (1061158912 : UInt32))] []))
  obtain ⟨fs39, hr39, hrun39, hended39, hW39, hsame39⟩ := X38.leave (v := none) (fun _ => rfl)
  refine ⟨_, _, X38.returnOut hx Bd.returns (hb hby own_d7_16) hr39, fin _ _ ⟨hrun39, hended39, _, _, rfl, ?_, ⟨_, rfl⟩, hW39, hsame39.mono (by decide) (by decide)⟩⟩
  show own_Q7 Z a1 h0 n0 _ T38.heap _
  rw [e38]
  exact ⟨rfl, N38, K38⟩
theorem own_d4_0 : decode jdk_93_method_5_code 0 = .ok (.aload_n 0, 1) := by decide +kernel
theorem own_d4_1 : decode jdk_93_method_5_code 1 = .ok (.invokespecial 1, 3) := by decide +kernel
theorem own_d4_4 : decode jdk_93_method_5_code 4 = .ok (.aload_n 0, 1) := by decide +kernel
theorem own_d4_5 : decode jdk_93_method_5_code 5 = .ok (.new 42, 3) := by decide +kernel
theorem own_d4_8 : decode jdk_93_method_5_code 8 = .ok (.dup, 1) := by decide +kernel
theorem own_d4_9 : decode jdk_93_method_5_code 9 = .ok (.iload_n 1, 1) := by decide +kernel
theorem own_d4_10 : decode jdk_93_method_5_code 10 = .ok (.fload_n 2, 1) := by decide +kernel
theorem own_d4_11 : decode jdk_93_method_5_code 11 = .ok (.invokespecial 44, 3) := by decide +kernel
theorem own_d4_14 : decode jdk_93_method_5_code 14 = .ok (.putfield 10, 3) := by decide +kernel
theorem own_d4_17 : decode jdk_93_method_5_code 17 = .ok (.return_, 1) := by decide +kernel
theorem own_pn6 : plainName "java/util/HashSet" = true := by first | (simp [plainName, overriddenIn]; done) | decide +kernel
theorem own_ef4 (m : MethodId) (a1 : Addr) : entryFrame m #[(.ref a1), (.int (16 : Int32)), (.float (1061158912 : UInt32)), (.int (1 : Int32))] 4 = mkF m 0 #[.val (.ref a1), .val (.int (16 : Int32)), .val (.float (1061158912 : UInt32)), .val (.int (1 : Int32))] [] := by first | (simp [entryFrame, mkF, argsToLocals, Value.category]; done) | rfl
def own_Q4 (Z : State) (a1 : Addr) (h0 : Heap) (n0 : Nat) (v : Option Value) (h : Heap) (L : List Loc) : Prop := v = none ∧ Fr n0 L ∧ Keep h0 h [a1]
set_option maxRecDepth 65536 in
set_option maxHeartbeats 40000000 in
theorem own_rm4 (l : Launch) (Z : State) (a0 : Array Value) (hw : ∀ d ∈ tables_1, d.before a0 Z = true) (ws : List Jvm.Cond) (a1 : Addr) (h0 : Heap) (n0 : Nat) (Z0 : n0 ≤ h0.size) (pE : Exa Z h0 a1 "java/util/LinkedHashSet") (pF0 : Fld Z h0 a1 "java/util/HashSet" "map" "Ljava/util/HashMap;" .null) (pg : n0 ≤ a1) :
    MetFree l (⟨"java/util/HashSet", "<init>", "(IFZ)V"⟩ : MethodName) (head1 (Jvm.Cond.code (⟨"java/util/HashSet", "<init>", "(IFZ)V"⟩ : MethodName) jdk_93_method_5_code 4 none :: ws) ({ frames := 4, cells := 1, slots := 12, locals := 58 } : Room)) (fun a U => a = #[(.ref a1), (.int (16 : Int32)), (.float (1061158912 : UInt32)), (.int (1 : Int32))] ∧ Z.Warmed39 U.vm ∧ U.heap = h0) (fun _ _ _ _ _ => True) (fun _ U o U' => ∃ v L, o = .returned v ∧ own_Q4 Z a1 h0 n0 v U'.heap L ∧ FrameEnd U o U' L ({ frames := 4, cells := 1, slots := 12, locals := 58 } : Room).cells ({ frames := 4, cells := 1, slots := 12, locals := 58 } : Room).slots) := by
  refine MetFree.of_bodySF (plainFor_of_name own_pn6) hisR ?_
  intro p e s m args below meth c s₁ Bd hml0 hP hK
  obtain ⟨rfl, hZ, hh⟩ := hP
  have hx := Bd.exec
  have hby := Bd.bytes
  have hml : c.maxLocals = 4 := hml0
  have hown : s.vm.findClass "java/util/HashSet" = some m.cls := findClass_of_methodNamed Bd.named
  have hnm := (name_of_methodNamed Bd.named Bd.method).1
  have X0 : Stand p l e ({ frames := 4, cells := 1, slots := 12, locals := 58 } : Room) s m #[(.ref a1), (.int (16 : Int32)), (.float (1061158912 : UInt32)), (.int (1 : Int32))] below meth c s₁ [] 0 0 := Stand.of_body Bd
  have e0 : s₁.heap = h0 := by rw [← hh, Bd.state]; rfl
  have N0 := Fr.nil n0
  refine own_nm (st := s₁.setTop (entryFrame m #[(.ref a1), (.int (16 : Int32)), (.float (1061158912 : UInt32)), (.int (1 : Int32))] 4)) fun P fin => ?_
  refine own_fwd (fun tt kt => castTop (own_ef4 m a1) kt) ?_
  show own_R p.tables e below P (s₁.setTop (mkF m 0 #[.val (.ref a1), .val (.int (16 : Int32)), .val (.float (1061158912 : UInt32)), .val (.int (1 : Int32))] []))
  have K0 := Keep.refl h0 [a1]
  refine own_fwd (fun tt kt => XS.aloadN X0.here hx rfl (hb hby own_d4_0) rfl rfl kt) ?_
  show own_R p.tables e below P (s₁.setTop (mkF m 1 #[.val (.ref a1), .val (.int (16 : Int32)), .val (.float (1061158912 : UInt32)), .val (.int (1 : Int32))] [(.ref a1)]))
  obtain ⟨_, _, ⟨T40, L40, k40, n40⟩, -, X40, ⟨Lc40, hQ40, l40, y40, z40⟩, st40⟩ := X0.specialBack hx (y := (⟨"java/util/AbstractSet", "<init>", "()V"⟩ : MethodName)) rfl hown (mvT hZ (hw _ (List.mem_of_getElem? (i := 23) rfl))) (mvT hZ (hw _ (List.mem_of_getElem? (i := 24) rfl))) (mvT hZ (hw _ (List.mem_of_getElem? (i := 28) rfl))) (by decide) (backOf (W := 0) (own_rm5 l Z a0 hw [] a1 h0 n0 Z0 ) hZ (hw _ (List.mem_of_getElem? (i := 28) rfl)) (hw _ (List.mem_of_getElem? (i := 27) rfl)) (by decide) (by decide)) (g := (mkF m 1 #[.val (.ref a1), .val (.int (16 : Int32)), .val (.float (1061158912 : UInt32)), .val (.int (1 : Int32))] [(.ref a1)])) rfl (by rw [hml]; rfl) (Steps.refl _) (a := a1) (argsL := []) (rest := []) (lenOf own_pd0 rfl) rfl (by show 2 * 0 + _ ≤ _; exact Nat.le_of_eq rfl) (hb hby own_d4_1) (fun _ _ => ⟨rfl, e0, (by decide : 0 + 0 ≤ _), (by decide : 0 + 0 ≤ _)⟩)
  dsimp only [Pt.U, Pt.locs, Pt.cells, Pt.slots] at X40 l40 y40 z40 st40 hQ40
  subst l40 y40 z40
  obtain ⟨h40, e40⟩ : ∃ z, T40.heap = z := ⟨_, rfl⟩
  rw [e40] at hQ40
  obtain ⟨hq40, N40q, q40⟩ := hQ40
  rw [q40] at e40
  subst hq40
  have N40 := Fr.app N0 N40q
  refine own_trn st40 ?_
  show own_R p.tables e below P (T40.setTop (mkF m 4 #[.val (.ref a1), .val (.int (16 : Int32)), .val (.float (1061158912 : UInt32)), .val (.int (1 : Int32))] []))
  refine own_fwd (fun tt kt => XS.aloadN X40.here hx rfl (hb hby own_d4_4) rfl rfl kt) ?_
  show own_R p.tables e below P (T40.setTop (mkF m 5 #[.val (.ref a1), .val (.int (16 : Int32)), .val (.float (1061158912 : UInt32)), .val (.int (1 : Int32))] [(.ref a1)]))
  obtain ⟨T41, h41, X41, e41, E41, A41, D41, -, st41⟩ := newO X40 hx hZ hown (hw _ (List.mem_of_getElem? (i := 36) rfl)) (hw _ (List.mem_of_getElem? (i := 37) rfl)) (hw _ (List.mem_of_getElem? (i := 38) rfl)) e40 (g := (mkF m 5 #[.val (.ref a1), .val (.int (16 : Int32)), .val (.float (1061158912 : UInt32)), .val (.int (1 : Int32))] [(.ref a1)])) rfl (hb hby own_d4_5) (by decide) (by decide)
  obtain ⟨b41, g41⟩ : ∃ z, z = h0.size := ⟨_, rfl⟩
  rw [← g41] at A41 D41 st41
  have ne41_a1 : a1 ≠ b41 := Nat.ne_of_lt (by rw [g41]; exact pE.lt)
  have ge_b41 : n0 ≤ b41 := by rw [g41]; exact Z0
  have sz_b41 : h0.size ≤ b41 := by rw [g41]; exact (Nat.le_refl h0.size)
  have pE_x41 := pE.ext E41
  have pF0_x41 := pF0.ext E41
  have F41_loadFactor : Fld Z h41 b41 "java/util/HashMap" "loadFactor" "F" (.float (0 : UInt32)) := D41 (Or.inr (hw _ (List.mem_of_getElem? (i := 62) rfl))) (ty := .float) (by decide)
  have F41_threshold : Fld Z h41 b41 "java/util/HashMap" "threshold" "I" (.int (0 : Int32)) := D41 (Or.inl (hw _ (List.mem_of_getElem? (i := 72) rfl))) (ty := .int) (by decide)
  have F41_putMode : Fld Z h41 b41 "java/util/LinkedHashMap" "putMode" "I" (.int (0 : Int32)) := D41 (Or.inl (hw _ (List.mem_of_getElem? (i := 74) rfl))) (ty := .int) (by decide)
  have F41_accessOrder : Fld Z h41 b41 "java/util/LinkedHashMap" "accessOrder" "Z" (.int (0 : Int32)) := D41 (Or.inr (hw _ (List.mem_of_getElem? (i := 76) rfl))) (ty := .boolean) (by decide)
  have Z41 : n0 ≤ h41.size := Nat.le_trans Z0 E41.1
  have K41 := K0.ext E41
  have Y41 : h0.size ≤ h41.size := Nat.le_trans (Nat.le_refl h0.size) E41.1
  refine own_fwd st41 ?_
  show own_R p.tables e below P (T41.setTop (mkF m 8 #[.val (.ref a1), .val (.int (16 : Int32)), .val (.float (1061158912 : UInt32)), .val (.int (1 : Int32))] [(.ref b41), (.ref a1)]))
  refine own_fwd (fun tt kt => XS.dup X41.here hx rfl (hb hby own_d4_8) rfl rfl kt) ?_
  show own_R p.tables e below P (T41.setTop (mkF m 9 #[.val (.ref a1), .val (.int (16 : Int32)), .val (.float (1061158912 : UInt32)), .val (.int (1 : Int32))] [(.ref b41), (.ref b41), (.ref a1)]))
  refine own_fwd (fun tt kt => XS.iloadN X41.here hx rfl (hb hby own_d4_9) rfl kt) ?_
  show own_R p.tables e below P (T41.setTop (mkF m 10 #[.val (.ref a1), .val (.int (16 : Int32)), .val (.float (1061158912 : UInt32)), .val (.int (1 : Int32))] [(.int (16 : Int32)), (.ref b41), (.ref b41), (.ref a1)]))
  refine own_fwd (fun tt kt => XS.floadN X41.here hx rfl (hb hby own_d4_10) rfl kt) ?_
  show own_R p.tables e below P (T41.setTop (mkF m 11 #[.val (.ref a1), .val (.int (16 : Int32)), .val (.float (1061158912 : UInt32)), .val (.int (1 : Int32))] [(.float (1061158912 : UInt32)), (.int (16 : Int32)), (.ref b41), (.ref b41), (.ref a1)]))
  obtain ⟨_, _, ⟨T42, L42, k42, n42⟩, -, X42, ⟨Lc42, hQ42, l42, y42, z42⟩, st42⟩ := X41.specialBack hx (y := (⟨"java/util/LinkedHashMap", "<init>", "(IF)V"⟩ : MethodName)) rfl hown (mvT hZ (hw _ (List.mem_of_getElem? (i := 39) rfl))) (mvT hZ (hw _ (List.mem_of_getElem? (i := 40) rfl))) (mvT hZ (hw _ (List.mem_of_getElem? (i := 42) rfl))) (by decide) (backOf (W := 2) (own_rm7 l Z a0 hw [] b41  h41 n0 Z41 A41 F41_loadFactor F41_threshold F41_putMode F41_accessOrder ge_b41) hZ (hw _ (List.mem_of_getElem? (i := 42) rfl)) (hw _ (List.mem_of_getElem? (i := 38) rfl)) (by decide) (by decide)) (g := (mkF m 11 #[.val (.ref a1), .val (.int (16 : Int32)), .val (.float (1061158912 : UInt32)), .val (.int (1 : Int32))] [(.float (1061158912 : UInt32)), (.int (16 : Int32)), (.ref b41), (.ref b41), (.ref a1)])) rfl (by rw [hml]; rfl) (Steps.refl _) (a := b41) (argsL := [(.int (16 : Int32)), (.float (1061158912 : UInt32))]) (rest := [(.ref b41), (.ref a1)]) (lenOf own_pd3 rfl) rfl (by show 2 * 0 + _ ≤ _; exact Nat.le_of_eq rfl) (hb hby own_d4_11) (fun _ _ => ⟨rfl, e41, (by decide : 1 + 0 ≤ _), (by decide : 12 + 0 ≤ _)⟩)
  dsimp only [Pt.U, Pt.locs, Pt.cells, Pt.slots] at X42 l42 y42 z42 st42 hQ42
  subst l42 y42 z42
  obtain ⟨h42, e42⟩ : ∃ z, T42.heap = z := ⟨_, rfl⟩
  rw [e42] at hQ42
  obtain ⟨hq42, N42q, K42⟩ := hQ42
  subst hq42
  have N42 := Fr.app N40 N42q
  have pE_x42 := pE_x41.keep K42
  have pF0_x42 := pF0_x41.keep K42 (ninS ne41_a1 nin0)
  have A41_x42 := A41.keep K42
  have Z42 : n0 ≤ h42.size := Nat.le_trans Z41 K42.1
  have KK42 := K41.trans K42 (allS (Or.inr sz_b41) all0)
  have Y42 : h0.size ≤ h42.size := Nat.le_trans Y41 K42.1
  refine own_trn st42 ?_
  show own_R p.tables e below P (T42.setTop (mkF m 14 #[.val (.ref a1), .val (.int (16 : Int32)), .val (.float (1061158912 : UInt32)), .val (.int (1 : Int32))] [(.ref b41), (.ref a1)]))
  obtain ⟨T43, h43, X43, e43, W43, st43⟩ := putF X42 hx hZ hown (host := "") (Or.inl (hw _ (List.mem_of_getElem? (i := 77) rfl))) Via.refl e42 pF0_x42 pE_x42 (Or.inl (hw _ (List.mem_of_getElem? (i := 78) rfl))) (hw _ (List.mem_of_getElem? (i := 11) rfl)) (ty := (.object "java/util/HashMap")) (by decide) rfl rfl (g := (mkF m 14 #[.val (.ref a1), .val (.int (16 : Int32)), .val (.float (1061158912 : UInt32)), .val (.int (1 : Int32))] [(.ref b41), (.ref a1)])) rfl rfl (hb hby own_d4_14)
  have F43_ := pF0_x42.same W43
  have pE_x43 := pE_x42.wr W43
  have A41_x43 := A41_x42.wr W43
  have N43 := Fr.snoc X43 N42 pg
  have Z43 : n0 ≤ h43.size := by rw [W43.size]; exact Z42
  have K43 := KK42.wr W43 (Or.inl (List.mem_of_getElem? (i := 0) rfl))
  have Y43 : h0.size ≤ h43.size := by rw [W43.size]; exact Y42
  refine own_fwd st43 ?_
  show own_R p.tables e below P (T43.setTop (mkF m 17 #[.val (.ref a1), .val (.int (16 : Int32)), .val (.float (1061158912 : UInt32)), .val (.int (1 : Int32))] []))
  obtain ⟨fs44, hr44, hrun44, hended44, hW44, hsame44⟩ := X43.leave (v := none) (fun _ => rfl)
  refine ⟨_, _, X43.returnOut hx Bd.returns (hb hby own_d4_17) hr44, fin _ _ ⟨hrun44, hended44, _, _, rfl, ?_, ⟨_, rfl⟩, hW44, hsame44.mono (by decide) (by decide)⟩⟩
  show own_Q4 Z a1 h0 n0 _ T43.heap _
  rw [e43]
  exact ⟨rfl, N43, K43⟩
theorem own_d3_0 : decode jdk_2620_method_3_code 0 = .ok (.aload_n 0, 1) := by decide +kernel
theorem own_d3_1 : decode jdk_2620_method_3_code 1 = .ok (.bipush 16, 2) := by decide +kernel
theorem own_d3_3 : decode jdk_2620_method_3_code 3 = .ok (.ldc 7, 2) := by decide +kernel
theorem own_d3_5 : decode jdk_2620_method_3_code 5 = .ok (.iconst 1, 1) := by decide +kernel
theorem own_d3_6 : decode jdk_2620_method_3_code 6 = .ok (.invokespecial 1, 3) := by decide +kernel
theorem own_d3_9 : decode jdk_2620_method_3_code 9 = .ok (.return_, 1) := by decide +kernel
theorem own_pn7 : plainName "java/util/LinkedHashSet" = true := by first | (simp [plainName, overriddenIn]; done) | decide +kernel
theorem own_pd4 : parseMethodDescriptor "(IFZ)V" = some ⟨[.int, .float, .boolean], none⟩ := by decide +kernel
theorem own_ef3 (m : MethodId) (a1 : Addr) : entryFrame m #[(.ref a1)] 1 = mkF m 0 #[.val (.ref a1)] [] := by first | (simp [entryFrame, mkF, argsToLocals, Value.category]; done) | rfl
def own_Q3 (Z : State) (a1 : Addr) (h0 : Heap) (n0 : Nat) (v : Option Value) (h : Heap) (L : List Loc) : Prop := v = none ∧ Fr n0 L ∧ Keep h0 h [a1]
set_option maxRecDepth 65536 in
set_option maxHeartbeats 40000000 in
theorem own_rm3 (l : Launch) (Z : State) (a0 : Array Value) (hw : ∀ d ∈ tables_1, d.before a0 Z = true) (ws : List Jvm.Cond) (a1 : Addr) (h0 : Heap) (n0 : Nat) (Z0 : n0 ≤ h0.size) (pE : Exa Z h0 a1 "java/util/LinkedHashSet") (pF0 : Fld Z h0 a1 "java/util/HashSet" "map" "Ljava/util/HashMap;" .null) (pg : n0 ≤ a1) :
    MetFree l (⟨"java/util/LinkedHashSet", "<init>", "()V"⟩ : MethodName) (head1 (Jvm.Cond.code (⟨"java/util/LinkedHashSet", "<init>", "()V"⟩ : MethodName) jdk_2620_method_3_code 1 none :: ws) ({ frames := 5, cells := 1, slots := 12, locals := 73 } : Room)) (fun a U => a = #[(.ref a1)] ∧ Z.Warmed39 U.vm ∧ U.heap = h0) (fun _ _ _ _ _ => True) (fun _ U o U' => ∃ v L, o = .returned v ∧ own_Q3 Z a1 h0 n0 v U'.heap L ∧ FrameEnd U o U' L ({ frames := 5, cells := 1, slots := 12, locals := 73 } : Room).cells ({ frames := 5, cells := 1, slots := 12, locals := 73 } : Room).slots) := by
  refine MetFree.of_bodySF (plainFor_of_name own_pn7) hisR ?_
  intro p e s m args below meth c s₁ Bd hml0 hP hK
  obtain ⟨rfl, hZ, hh⟩ := hP
  have hx := Bd.exec
  have hby := Bd.bytes
  have hml : c.maxLocals = 1 := hml0
  have hown : s.vm.findClass "java/util/LinkedHashSet" = some m.cls := findClass_of_methodNamed Bd.named
  have hnm := (name_of_methodNamed Bd.named Bd.method).1
  have X0 : Stand p l e ({ frames := 5, cells := 1, slots := 12, locals := 73 } : Room) s m #[(.ref a1)] below meth c s₁ [] 0 0 := Stand.of_body Bd
  have e0 : s₁.heap = h0 := by rw [← hh, Bd.state]; rfl
  have N0 := Fr.nil n0
  refine own_nm (st := s₁.setTop (entryFrame m #[(.ref a1)] 1)) fun P fin => ?_
  refine own_fwd (fun tt kt => castTop (own_ef3 m a1) kt) ?_
  show own_R p.tables e below P (s₁.setTop (mkF m 0 #[.val (.ref a1)] []))
  have K0 := Keep.refl h0 [a1]
  refine own_fwd (fun tt kt => XS.aloadN X0.here hx rfl (hb hby own_d3_0) rfl rfl kt) ?_
  show own_R p.tables e below P (s₁.setTop (mkF m 1 #[.val (.ref a1)] [(.ref a1)]))
  refine own_fwd (fun tt kt => XS.bipush X0.here hx rfl (hb hby own_d3_1) kt) ?_
  show own_R p.tables e below P (s₁.setTop (mkF m 3 #[.val (.ref a1)] [(.int (16 : Int32)), (.ref a1)]))
  refine own_fwd (fun tt kt => X0.ldcFloatC hx hown (mvT hZ (hw _ (List.mem_of_getElem? (i := 16) rfl))) (g := (mkF m 3 #[.val (.ref a1)] [(.int (16 : Int32)), (.ref a1)])) rfl (hb hby own_d3_3) tt kt) ?_
  show own_R p.tables e below P (s₁.setTop (mkF m 5 #[.val (.ref a1)] [(.float (1061158912 : UInt32)), (.int (16 : Int32)), (.ref a1)]))
  refine own_fwd (fun tt kt => XS.iconst X0.here hx rfl (hb hby own_d3_5) kt) ?_
  show own_R p.tables e below P (s₁.setTop (mkF m 6 #[.val (.ref a1)] [(.int (1 : Int32)), (.float (1061158912 : UInt32)), (.int (16 : Int32)), (.ref a1)]))
  obtain ⟨_, _, ⟨T45, L45, k45, n45⟩, -, X45, ⟨Lc45, hQ45, l45, y45, z45⟩, st45⟩ := X0.specialBack hx (y := (⟨"java/util/HashSet", "<init>", "(IFZ)V"⟩ : MethodName)) rfl hown (mvT hZ (hw _ (List.mem_of_getElem? (i := 17) rfl))) (mvT hZ (hw _ (List.mem_of_getElem? (i := 18) rfl))) (mvT hZ (hw _ (List.mem_of_getElem? (i := 22) rfl))) (by decide) (backOf (W := 0) (own_rm4 l Z a0 hw [] a1  h0 n0 Z0 pE pF0 pg) hZ (hw _ (List.mem_of_getElem? (i := 22) rfl)) (hw _ (List.mem_of_getElem? (i := 21) rfl)) (by decide) (by decide)) (g := (mkF m 6 #[.val (.ref a1)] [(.int (1 : Int32)), (.float (1061158912 : UInt32)), (.int (16 : Int32)), (.ref a1)])) rfl (by rw [hml]; rfl) (Steps.refl _) (a := a1) (argsL := [(.int (16 : Int32)), (.float (1061158912 : UInt32)), (.int (1 : Int32))]) (rest := []) (lenOf own_pd4 rfl) rfl (by show 2 * 0 + _ ≤ _; exact Nat.le_of_eq rfl) (hb hby own_d3_6) (fun _ _ => ⟨rfl, e0, (by decide : 0 + 1 ≤ _), (by decide : 0 + 12 ≤ _)⟩)
  dsimp only [Pt.U, Pt.locs, Pt.cells, Pt.slots] at X45 l45 y45 z45 st45 hQ45
  subst l45 y45 z45
  obtain ⟨h45, e45⟩ : ∃ z, T45.heap = z := ⟨_, rfl⟩
  rw [e45] at hQ45
  obtain ⟨hq45, N45q, K45⟩ := hQ45
  subst hq45
  have N45 := Fr.app N0 N45q
  have pE_x45 := pE.keep K45
  have Z45 : n0 ≤ h45.size := Nat.le_trans Z0 K45.1
  have KK45 := K0.trans K45 (allS (Or.inl (List.mem_of_getElem? (i := 0) rfl)) all0)
  have Y45 : h0.size ≤ h45.size := Nat.le_trans (Nat.le_refl h0.size) K45.1
  refine own_trn st45 ?_
  show own_R p.tables e below P (T45.setTop (mkF m 9 #[.val (.ref a1)] []))
  obtain ⟨fs46, hr46, hrun46, hended46, hW46, hsame46⟩ := X45.leave (v := none) (fun _ => rfl)
  refine ⟨_, _, X45.returnOut hx Bd.returns (hb hby own_d3_9) hr46, fin _ _ ⟨hrun46, hended46, _, _, rfl, ?_, ⟨_, rfl⟩, hW46, hsame46.mono (by decide) (by decide)⟩⟩
  show own_Q3 Z a1 h0 n0 _ T45.heap _
  rw [e45]
  exact ⟨rfl, N45, KK45⟩
theorem own_d14_0 : decode jdk_69_method_7_code 0 = .ok (.aload_n 0, 1) := by decide +kernel
theorem own_d14_1 : decode jdk_69_method_7_code 1 = .ok (.invokespecial 43, 3) := by decide +kernel
theorem own_d14_4 : decode jdk_69_method_7_code 4 = .ok (.aload_n 0, 1) := by decide +kernel
theorem own_d14_5 : decode jdk_69_method_7_code 5 = .ok (.ldc 92, 2) := by decide +kernel
theorem own_d14_7 : decode jdk_69_method_7_code 7 = .ok (.putfield 81, 3) := by decide +kernel
theorem own_d14_10 : decode jdk_69_method_7_code 10 = .ok (.return_, 1) := by decide +kernel
theorem own_ef14 (m : MethodId) (a1 : Addr) : entryFrame m #[(.ref a1)] 1 = mkF m 0 #[.val (.ref a1)] [] := by first | (simp [entryFrame, mkF, argsToLocals, Value.category]; done) | rfl
def own_Q14 (Z : State) (a1 : Addr) (h0 : Heap) (n0 : Nat) (v : Option Value) (h : Heap) (L : List Loc) : Prop := v = none ∧ Fr n0 L ∧ Keep h0 h [a1]
set_option maxRecDepth 65536 in
set_option maxHeartbeats 40000000 in
theorem own_rm14 (l : Launch) (Z : State) (a0 : Array Value) (hw : ∀ d ∈ tables_1, d.before a0 Z = true) (ws : List Jvm.Cond) (a1 : Addr) (h0 : Heap) (n0 : Nat) (Z0 : n0 ≤ h0.size) (pE : Exa Z h0 a1 "java/util/HashMap") (pF0 : Fld Z h0 a1 "java/util/HashMap" "loadFactor" "F" (.float (0 : UInt32))) (pg : n0 ≤ a1) :
    MetFree l (⟨"java/util/HashMap", "<init>", "()V"⟩ : MethodName) (head1 (Jvm.Cond.code (⟨"java/util/HashMap", "<init>", "()V"⟩ : MethodName) jdk_69_method_7_code 1 none :: ws) ({ frames := 2, cells := 0, slots := 0, locals := 24 } : Room)) (fun a U => a = #[(.ref a1)] ∧ Z.Warmed39 U.vm ∧ U.heap = h0) (fun _ _ _ _ _ => True) (fun _ U o U' => ∃ v L, o = .returned v ∧ own_Q14 Z a1 h0 n0 v U'.heap L ∧ FrameEnd U o U' L ({ frames := 2, cells := 0, slots := 0, locals := 24 } : Room).cells ({ frames := 2, cells := 0, slots := 0, locals := 24 } : Room).slots) := by
  refine MetFree.of_bodySF (plainFor_of_name own_pn4) hisR ?_
  intro p e s m args below meth c s₁ Bd hml0 hP hK
  obtain ⟨rfl, hZ, hh⟩ := hP
  have hx := Bd.exec
  have hby := Bd.bytes
  have hml : c.maxLocals = 1 := hml0
  have hown : s.vm.findClass "java/util/HashMap" = some m.cls := findClass_of_methodNamed Bd.named
  have hnm := (name_of_methodNamed Bd.named Bd.method).1
  have X0 : Stand p l e ({ frames := 2, cells := 0, slots := 0, locals := 24 } : Room) s m #[(.ref a1)] below meth c s₁ [] 0 0 := Stand.of_body Bd
  have e0 : s₁.heap = h0 := by rw [← hh, Bd.state]; rfl
  have N0 := Fr.nil n0
  refine own_nm (st := s₁.setTop (entryFrame m #[(.ref a1)] 1)) fun P fin => ?_
  refine own_fwd (fun tt kt => castTop (own_ef14 m a1) kt) ?_
  show own_R p.tables e below P (s₁.setTop (mkF m 0 #[.val (.ref a1)] []))
  have K0 := Keep.refl h0 [a1]
  refine own_fwd (fun tt kt => XS.aloadN X0.here hx rfl (hb hby own_d14_0) rfl rfl kt) ?_
  show own_R p.tables e below P (s₁.setTop (mkF m 1 #[.val (.ref a1)] [(.ref a1)]))
  obtain ⟨_, _, ⟨T47, L47, k47, n47⟩, -, X47, ⟨Lc47, hQ47, l47, y47, z47⟩, st47⟩ := X0.specialBack hx (y := (⟨"java/util/AbstractMap", "<init>", "()V"⟩ : MethodName)) rfl hown (mvT hZ (hw _ (List.mem_of_getElem? (i := 49) rfl))) (mvT hZ (hw _ (List.mem_of_getElem? (i := 50) rfl))) (mvT hZ (hw _ (List.mem_of_getElem? (i := 54) rfl))) (by decide) (backOf (W := 0) (own_rm9 l Z a0 hw [] a1 h0 n0 Z0 ) hZ (hw _ (List.mem_of_getElem? (i := 54) rfl)) (hw _ (List.mem_of_getElem? (i := 53) rfl)) (by decide) (by decide)) (g := (mkF m 1 #[.val (.ref a1)] [(.ref a1)])) rfl (by rw [hml]; rfl) (Steps.refl _) (a := a1) (argsL := []) (rest := []) (lenOf own_pd0 rfl) rfl (by show 2 * 0 + _ ≤ _; exact Nat.le_of_eq rfl) (hb hby own_d14_1) (fun _ _ => ⟨rfl, e0, (by decide : 0 + 0 ≤ _), (by decide : 0 + 0 ≤ _)⟩)
  dsimp only [Pt.U, Pt.locs, Pt.cells, Pt.slots] at X47 l47 y47 z47 st47 hQ47
  subst l47 y47 z47
  obtain ⟨h47, e47⟩ : ∃ z, T47.heap = z := ⟨_, rfl⟩
  rw [e47] at hQ47
  obtain ⟨hq47, N47q, q47⟩ := hQ47
  rw [q47] at e47
  subst hq47
  have N47 := Fr.app N0 N47q
  refine own_trn st47 ?_
  show own_R p.tables e below P (T47.setTop (mkF m 4 #[.val (.ref a1)] []))
  refine own_fwd (fun tt kt => XS.aloadN X47.here hx rfl (hb hby own_d14_4) rfl rfl kt) ?_
  show own_R p.tables e below P (T47.setTop (mkF m 5 #[.val (.ref a1)] [(.ref a1)]))
  refine own_fwd (fun tt kt => X47.ldcFloatC hx hown (mvT hZ (hw _ (List.mem_of_getElem? (i := 97) rfl))) (g := (mkF m 5 #[.val (.ref a1)] [(.ref a1)])) rfl (hb hby own_d14_5) tt kt) ?_
  show own_R p.tables e below P (T47.setTop (mkF m 7 #[.val (.ref a1)] [(.float (1061158912 : UInt32)), (.ref a1)]))
  obtain ⟨T48, h48, X48, e48, W48, st48⟩ := putF X47 hx hZ hown (host := "") (Or.inl (hw _ (List.mem_of_getElem? (i := 61) rfl))) Via.refl e47 pF0 pE (Or.inr ⟨(hw _ (List.mem_of_getElem? (i := 98) rfl)), rfl, hnm⟩) (hw _ (List.mem_of_getElem? (i := 91) rfl)) (ty := .float) (by decide) rfl rfl (g := (mkF m 7 #[.val (.ref a1)] [(.float (1061158912 : UInt32)), (.ref a1)])) rfl rfl (hb hby own_d14_7)
  have F48_ := pF0.same W48
  have pE_x48 := pE.wr W48
  have N48 := Fr.snoc X48 N47 pg
  have Z48 : n0 ≤ h48.size := by rw [W48.size]; exact Z0
  have K48 := K0.wr W48 (Or.inl (List.mem_of_getElem? (i := 0) rfl))
  have Y48 : h0.size ≤ h48.size := by rw [W48.size]; exact (Nat.le_refl h0.size)
  refine own_fwd st48 ?_
  show own_R p.tables e below P (T48.setTop (mkF m 10 #[.val (.ref a1)] []))
  obtain ⟨fs49, hr49, hrun49, hended49, hW49, hsame49⟩ := X48.leave (v := none) (fun _ => rfl)
  refine ⟨_, _, X48.returnOut hx Bd.returns (hb hby own_d14_10) hr49, fin _ _ ⟨hrun49, hended49, _, _, rfl, ?_, ⟨_, rfl⟩, hW49, hsame49.mono (by decide) (by decide)⟩⟩
  show own_Q14 Z a1 h0 n0 _ T48.heap _
  rw [e48]
  exact ⟨rfl, N48, K48⟩
theorem own_d13_0 : decode jdk_93_method_1_code 0 = .ok (.aload_n 0, 1) := by decide +kernel
theorem own_d13_1 : decode jdk_93_method_1_code 1 = .ok (.invokespecial 1, 3) := by decide +kernel
theorem own_d13_4 : decode jdk_93_method_1_code 4 = .ok (.aload_n 0, 1) := by decide +kernel
theorem own_d13_5 : decode jdk_93_method_1_code 5 = .ok (.new 7, 3) := by decide +kernel
theorem own_d13_8 : decode jdk_93_method_1_code 8 = .ok (.dup, 1) := by decide +kernel
theorem own_d13_9 : decode jdk_93_method_1_code 9 = .ok (.invokespecial 9, 3) := by decide +kernel
theorem own_d13_12 : decode jdk_93_method_1_code 12 = .ok (.putfield 10, 3) := by decide +kernel
theorem own_d13_15 : decode jdk_93_method_1_code 15 = .ok (.return_, 1) := by decide +kernel
theorem own_ef13 (m : MethodId) (a1 : Addr) : entryFrame m #[(.ref a1)] 1 = mkF m 0 #[.val (.ref a1)] [] := by first | (simp [entryFrame, mkF, argsToLocals, Value.category]; done) | rfl
def own_Q13 (Z : State) (a1 : Addr) (h0 : Heap) (n0 : Nat) (v : Option Value) (h : Heap) (L : List Loc) : Prop := v = none ∧ Fr n0 L ∧ Keep h0 h [a1]
set_option maxRecDepth 65536 in
set_option maxHeartbeats 40000000 in
theorem own_rm13 (l : Launch) (Z : State) (a0 : Array Value) (hw : ∀ d ∈ tables_1, d.before a0 Z = true) (ws : List Jvm.Cond) (a1 : Addr) (h0 : Heap) (n0 : Nat) (Z0 : n0 ≤ h0.size) (pE : Exa Z h0 a1 "java/util/HashSet") (pF0 : Fld Z h0 a1 "java/util/HashSet" "map" "Ljava/util/HashMap;" .null) (pg : n0 ≤ a1) :
    MetFree l (⟨"java/util/HashSet", "<init>", "()V"⟩ : MethodName) (head1 (Jvm.Cond.code (⟨"java/util/HashSet", "<init>", "()V"⟩ : MethodName) jdk_93_method_1_code 1 none :: ws) ({ frames := 3, cells := 1, slots := 8, locals := 38 } : Room)) (fun a U => a = #[(.ref a1)] ∧ Z.Warmed39 U.vm ∧ U.heap = h0) (fun _ _ _ _ _ => True) (fun _ U o U' => ∃ v L, o = .returned v ∧ own_Q13 Z a1 h0 n0 v U'.heap L ∧ FrameEnd U o U' L ({ frames := 3, cells := 1, slots := 8, locals := 38 } : Room).cells ({ frames := 3, cells := 1, slots := 8, locals := 38 } : Room).slots) := by
  refine MetFree.of_bodySF (plainFor_of_name own_pn6) hisR ?_
  intro p e s m args below meth c s₁ Bd hml0 hP hK
  obtain ⟨rfl, hZ, hh⟩ := hP
  have hx := Bd.exec
  have hby := Bd.bytes
  have hml : c.maxLocals = 1 := hml0
  have hown : s.vm.findClass "java/util/HashSet" = some m.cls := findClass_of_methodNamed Bd.named
  have hnm := (name_of_methodNamed Bd.named Bd.method).1
  have X0 : Stand p l e ({ frames := 3, cells := 1, slots := 8, locals := 38 } : Room) s m #[(.ref a1)] below meth c s₁ [] 0 0 := Stand.of_body Bd
  have e0 : s₁.heap = h0 := by rw [← hh, Bd.state]; rfl
  have N0 := Fr.nil n0
  refine own_nm (st := s₁.setTop (entryFrame m #[(.ref a1)] 1)) fun P fin => ?_
  refine own_fwd (fun tt kt => castTop (own_ef13 m a1) kt) ?_
  show own_R p.tables e below P (s₁.setTop (mkF m 0 #[.val (.ref a1)] []))
  have K0 := Keep.refl h0 [a1]
  refine own_fwd (fun tt kt => XS.aloadN X0.here hx rfl (hb hby own_d13_0) rfl rfl kt) ?_
  show own_R p.tables e below P (s₁.setTop (mkF m 1 #[.val (.ref a1)] [(.ref a1)]))
  obtain ⟨_, _, ⟨T50, L50, k50, n50⟩, -, X50, ⟨Lc50, hQ50, l50, y50, z50⟩, st50⟩ := X0.specialBack hx (y := (⟨"java/util/AbstractSet", "<init>", "()V"⟩ : MethodName)) rfl hown (mvT hZ (hw _ (List.mem_of_getElem? (i := 23) rfl))) (mvT hZ (hw _ (List.mem_of_getElem? (i := 24) rfl))) (mvT hZ (hw _ (List.mem_of_getElem? (i := 28) rfl))) (by decide) (backOf (W := 0) (own_rm5 l Z a0 hw [] a1 h0 n0 Z0 ) hZ (hw _ (List.mem_of_getElem? (i := 28) rfl)) (hw _ (List.mem_of_getElem? (i := 27) rfl)) (by decide) (by decide)) (g := (mkF m 1 #[.val (.ref a1)] [(.ref a1)])) rfl (by rw [hml]; rfl) (Steps.refl _) (a := a1) (argsL := []) (rest := []) (lenOf own_pd0 rfl) rfl (by show 2 * 0 + _ ≤ _; exact Nat.le_of_eq rfl) (hb hby own_d13_1) (fun _ _ => ⟨rfl, e0, (by decide : 0 + 0 ≤ _), (by decide : 0 + 0 ≤ _)⟩)
  dsimp only [Pt.U, Pt.locs, Pt.cells, Pt.slots] at X50 l50 y50 z50 st50 hQ50
  subst l50 y50 z50
  obtain ⟨h50, e50⟩ : ∃ z, T50.heap = z := ⟨_, rfl⟩
  rw [e50] at hQ50
  obtain ⟨hq50, N50q, q50⟩ := hQ50
  rw [q50] at e50
  subst hq50
  have N50 := Fr.app N0 N50q
  refine own_trn st50 ?_
  show own_R p.tables e below P (T50.setTop (mkF m 4 #[.val (.ref a1)] []))
  refine own_fwd (fun tt kt => XS.aloadN X50.here hx rfl (hb hby own_d13_4) rfl rfl kt) ?_
  show own_R p.tables e below P (T50.setTop (mkF m 5 #[.val (.ref a1)] [(.ref a1)]))
  obtain ⟨T51, h51, X51, e51, E51, A51, D51, -, st51⟩ := newO X50 hx hZ hown (hw _ (List.mem_of_getElem? (i := 90) rfl)) (hw _ (List.mem_of_getElem? (i := 91) rfl)) (hw _ (List.mem_of_getElem? (i := 47) rfl)) e50 (g := (mkF m 5 #[.val (.ref a1)] [(.ref a1)])) rfl (hb hby own_d13_5) (by decide) (by decide)
  obtain ⟨b51, g51⟩ : ∃ z, z = h0.size := ⟨_, rfl⟩
  rw [← g51] at A51 D51 st51
  have ne51_a1 : a1 ≠ b51 := Nat.ne_of_lt (by rw [g51]; exact pE.lt)
  have ge_b51 : n0 ≤ b51 := by rw [g51]; exact Z0
  have sz_b51 : h0.size ≤ b51 := by rw [g51]; exact (Nat.le_refl h0.size)
  have pE_x51 := pE.ext E51
  have pF0_x51 := pF0.ext E51
  have F51_loadFactor : Fld Z h51 b51 "java/util/HashMap" "loadFactor" "F" (.float (0 : UInt32)) := D51 (Or.inr (hw _ (List.mem_of_getElem? (i := 98) rfl))) (ty := .float) (by decide)
  have Z51 : n0 ≤ h51.size := Nat.le_trans Z0 E51.1
  have K51 := K0.ext E51
  have Y51 : h0.size ≤ h51.size := Nat.le_trans (Nat.le_refl h0.size) E51.1
  refine own_fwd st51 ?_
  show own_R p.tables e below P (T51.setTop (mkF m 8 #[.val (.ref a1)] [(.ref b51), (.ref a1)]))
  refine own_fwd (fun tt kt => XS.dup X51.here hx rfl (hb hby own_d13_8) rfl rfl kt) ?_
  show own_R p.tables e below P (T51.setTop (mkF m 9 #[.val (.ref a1)] [(.ref b51), (.ref b51), (.ref a1)]))
  obtain ⟨_, _, ⟨T52, L52, k52, n52⟩, -, X52, ⟨Lc52, hQ52, l52, y52, z52⟩, st52⟩ := X51.specialBack hx (y := (⟨"java/util/HashMap", "<init>", "()V"⟩ : MethodName)) rfl hown (mvT hZ (hw _ (List.mem_of_getElem? (i := 92) rfl))) (mvT hZ (hw _ (List.mem_of_getElem? (i := 93) rfl))) (mvT hZ (hw _ (List.mem_of_getElem? (i := 95) rfl))) (by decide) (backOf (W := 2) (own_rm14 l Z a0 hw [] b51  h51 n0 Z51 A51 F51_loadFactor ge_b51) hZ (hw _ (List.mem_of_getElem? (i := 95) rfl)) (hw _ (List.mem_of_getElem? (i := 47) rfl)) (by decide) (by decide)) (g := (mkF m 9 #[.val (.ref a1)] [(.ref b51), (.ref b51), (.ref a1)])) rfl (by rw [hml]; rfl) (Steps.refl _) (a := b51) (argsL := []) (rest := [(.ref b51), (.ref a1)]) (lenOf own_pd0 rfl) rfl (by show 2 * 0 + _ ≤ _; exact Nat.le_of_eq rfl) (hb hby own_d13_9) (fun _ _ => ⟨rfl, e51, (by decide : 1 + 0 ≤ _), (by decide : 8 + 0 ≤ _)⟩)
  dsimp only [Pt.U, Pt.locs, Pt.cells, Pt.slots] at X52 l52 y52 z52 st52 hQ52
  subst l52 y52 z52
  obtain ⟨h52, e52⟩ : ∃ z, T52.heap = z := ⟨_, rfl⟩
  rw [e52] at hQ52
  obtain ⟨hq52, N52q, K52⟩ := hQ52
  subst hq52
  have N52 := Fr.app N50 N52q
  have pE_x52 := pE_x51.keep K52
  have pF0_x52 := pF0_x51.keep K52 (ninS ne51_a1 nin0)
  have A51_x52 := A51.keep K52
  have Z52 : n0 ≤ h52.size := Nat.le_trans Z51 K52.1
  have KK52 := K51.trans K52 (allS (Or.inr sz_b51) all0)
  have Y52 : h0.size ≤ h52.size := Nat.le_trans Y51 K52.1
  refine own_trn st52 ?_
  show own_R p.tables e below P (T52.setTop (mkF m 12 #[.val (.ref a1)] [(.ref b51), (.ref a1)]))
  obtain ⟨T53, h53, X53, e53, W53, st53⟩ := putF X52 hx hZ hown (host := "") (Or.inl (hw _ (List.mem_of_getElem? (i := 77) rfl))) Via.refl e52 pF0_x52 pE_x52 (Or.inl (hw _ (List.mem_of_getElem? (i := 99) rfl))) (hw _ (List.mem_of_getElem? (i := 84) rfl)) (ty := (.object "java/util/HashMap")) (by decide) rfl rfl (g := (mkF m 12 #[.val (.ref a1)] [(.ref b51), (.ref a1)])) rfl rfl (hb hby own_d13_12)
  have F53_ := pF0_x52.same W53
  have pE_x53 := pE_x52.wr W53
  have A51_x53 := A51_x52.wr W53
  have N53 := Fr.snoc X53 N52 pg
  have Z53 : n0 ≤ h53.size := by rw [W53.size]; exact Z52
  have K53 := KK52.wr W53 (Or.inl (List.mem_of_getElem? (i := 0) rfl))
  have Y53 : h0.size ≤ h53.size := by rw [W53.size]; exact Y52
  refine own_fwd st53 ?_
  show own_R p.tables e below P (T53.setTop (mkF m 15 #[.val (.ref a1)] []))
  obtain ⟨fs54, hr54, hrun54, hended54, hW54, hsame54⟩ := X53.leave (v := none) (fun _ => rfl)
  refine ⟨_, _, X53.returnOut hx Bd.returns (hb hby own_d13_15) hr54, fin _ _ ⟨hrun54, hended54, _, _, rfl, ?_, ⟨_, rfl⟩, hW54, hsame54.mono (by decide) (by decide)⟩⟩
  show own_Q13 Z a1 h0 n0 _ T53.heap _
  rw [e53]
  exact ⟨rfl, N53, K53⟩
theorem own_d1_0 : decode prog_3_method_1_code 0 = .ok (.aload_n 0, 1) := by decide +kernel
theorem own_d1_1 : decode prog_3_method_1_code 1 = .ok (.invokespecial 3, 3) := by decide +kernel
theorem own_d1_4 : decode prog_3_method_1_code 4 = .ok (.aload_n 0, 1) := by decide +kernel
theorem own_d1_5 : decode prog_3_method_1_code 5 = .ok (.new 9, 3) := by decide +kernel
theorem own_d1_8 : decode prog_3_method_1_code 8 = .ok (.dup, 1) := by decide +kernel
theorem own_d1_9 : decode prog_3_method_1_code 9 = .ok (.invokespecial 11, 3) := by decide +kernel
theorem own_d1_12 : decode prog_3_method_1_code 12 = .ok (.putfield 12, 3) := by decide +kernel
theorem own_d1_15 : decode prog_3_method_1_code 15 = .ok (.aload_n 0, 1) := by decide +kernel
theorem own_d1_16 : decode prog_3_method_1_code 16 = .ok (.new 9, 3) := by decide +kernel
theorem own_d1_19 : decode prog_3_method_1_code 19 = .ok (.dup, 1) := by decide +kernel
theorem own_d1_20 : decode prog_3_method_1_code 20 = .ok (.invokespecial 11, 3) := by decide +kernel
theorem own_d1_23 : decode prog_3_method_1_code 23 = .ok (.putfield 16, 3) := by decide +kernel
theorem own_d1_26 : decode prog_3_method_1_code 26 = .ok (.aload_n 0, 1) := by decide +kernel
theorem own_d1_27 : decode prog_3_method_1_code 27 = .ok (.new 19, 3) := by decide +kernel
theorem own_d1_30 : decode prog_3_method_1_code 30 = .ok (.dup, 1) := by decide +kernel
theorem own_d1_31 : decode prog_3_method_1_code 31 = .ok (.invokespecial 21, 3) := by decide +kernel
theorem own_d1_34 : decode prog_3_method_1_code 34 = .ok (.putfield 22, 3) := by decide +kernel
theorem own_d1_37 : decode prog_3_method_1_code 37 = .ok (.aload_n 0, 1) := by decide +kernel
theorem own_d1_38 : decode prog_3_method_1_code 38 = .ok (.iconst 2, 1) := by decide +kernel
theorem own_d1_39 : decode prog_3_method_1_code 39 = .ok (.putfield 25, 3) := by decide +kernel
theorem own_d1_42 : decode prog_3_method_1_code 42 = .ok (.return_, 1) := by decide +kernel
theorem own_pn8 : plainName "com/example/erpctl/erpctl/connectors/yallav/ListPlace" = true := by first | (simp [plainName, overriddenIn]; done) | decide +kernel
theorem own_ef1 (m : MethodId) (a1 : Addr) : entryFrame m #[(.ref a1)] 1 = mkF m 0 #[.val (.ref a1)] [] := by first | (simp [entryFrame, mkF, argsToLocals, Value.category]; done) | rfl
def own_Q1 (Z : State) (a1 : Addr) (h0 : Heap) (n0 : Nat) (v : Option Value) (h : Heap) (L : List Loc) : Prop := v = none ∧ Fr n0 L ∧ Keep h0 h [a1] ∧ Exa Z h a1 "com/example/erpctl/erpctl/connectors/yallav/ListPlace" ∧ Fld Z h a1 "com/example/erpctl/erpctl/connectors/yallav/ListPlace" "span" "I" (.int (2 : Int32)) ∧ Fld Z h a1 "com/example/erpctl/erpctl/connectors/yallav/ListPlace" "skip" "J" (.long (0 : Int64)) ∧ Fld Z h a1 "com/example/erpctl/erpctl/connectors/yallav/ListPlace" "reached" "J" (.long (0 : Int64)) ∧ Fld Z h a1 "com/example/erpctl/erpctl/connectors/yallav/ListPlace" "lowest" "J" (.long (0 : Int64))
set_option maxRecDepth 65536 in
set_option maxHeartbeats 40000000 in
theorem own_rm1 (l : Launch) (Z : State) (a0 : Array Value) (hw : ∀ d ∈ tables_1, d.before a0 Z = true) (ws : List Jvm.Cond) (a1 : Addr) (h0 : Heap) (n0 : Nat) (Z0 : n0 ≤ h0.size) (pE : Exa Z h0 a1 "com/example/erpctl/erpctl/connectors/yallav/ListPlace") (pF0 : Fld Z h0 a1 "com/example/erpctl/erpctl/connectors/yallav/ListPlace" "recent" "Ljava/util/Set;" .null) (pF1 : Fld Z h0 a1 "com/example/erpctl/erpctl/connectors/yallav/ListPlace" "shown" "Ljava/util/Set;" .null) (pF2 : Fld Z h0 a1 "com/example/erpctl/erpctl/connectors/yallav/ListPlace" "before" "Ljava/util/Set;" .null) (pF3 : Fld Z h0 a1 "com/example/erpctl/erpctl/connectors/yallav/ListPlace" "span" "I" (.int (0 : Int32))) (pF4 : Fld Z h0 a1 "com/example/erpctl/erpctl/connectors/yallav/ListPlace" "skip" "J" (.long (0 : Int64))) (pF5 : Fld Z h0 a1 "com/example/erpctl/erpctl/connectors/yallav/ListPlace" "reached" "J" (.long (0 : Int64))) (pF6 : Fld Z h0 a1 "com/example/erpctl/erpctl/connectors/yallav/ListPlace" "lowest" "J" (.long (0 : Int64))) (pg : n0 ≤ a1) :
    MetFree l (⟨"com/example/erpctl/erpctl/connectors/yallav/ListPlace", "<init>", "()V"⟩ : MethodName) (head1 (Jvm.Cond.code (⟨"com/example/erpctl/erpctl/connectors/yallav/ListPlace", "<init>", "()V"⟩ : MethodName) prog_3_method_1_code 1 none :: ws) ({ frames := 6, cells := 6, slots := 35, locals := 87 } : Room)) (fun a U => a = #[(.ref a1)] ∧ Z.Warmed39 U.vm ∧ U.heap = h0) (fun _ _ _ _ _ => True) (fun _ U o U' => ∃ v L, o = .returned v ∧ own_Q1 Z a1 h0 n0 v U'.heap L ∧ FrameEnd U o U' L ({ frames := 6, cells := 6, slots := 35, locals := 87 } : Room).cells ({ frames := 6, cells := 6, slots := 35, locals := 87 } : Room).slots) := by
  refine MetFree.of_bodySF (plainFor_of_name own_pn8) hisR ?_
  intro p e s m args below meth c s₁ Bd hml0 hP hK
  obtain ⟨rfl, hZ, hh⟩ := hP
  have hx := Bd.exec
  have hby := Bd.bytes
  have hml : c.maxLocals = 1 := hml0
  have hown : s.vm.findClass "com/example/erpctl/erpctl/connectors/yallav/ListPlace" = some m.cls := findClass_of_methodNamed Bd.named
  have hnm := (name_of_methodNamed Bd.named Bd.method).1
  have X0 : Stand p l e ({ frames := 6, cells := 6, slots := 35, locals := 87 } : Room) s m #[(.ref a1)] below meth c s₁ [] 0 0 := Stand.of_body Bd
  have e0 : s₁.heap = h0 := by rw [← hh, Bd.state]; rfl
  have N0 := Fr.nil n0
  refine own_nm (st := s₁.setTop (entryFrame m #[(.ref a1)] 1)) fun P fin => ?_
  refine own_fwd (fun tt kt => castTop (own_ef1 m a1) kt) ?_
  show own_R p.tables e below P (s₁.setTop (mkF m 0 #[.val (.ref a1)] []))
  have K0 := Keep.refl h0 [a1]
  refine own_fwd (fun tt kt => XS.aloadN X0.here hx rfl (hb hby own_d1_0) rfl rfl kt) ?_
  show own_R p.tables e below P (s₁.setTop (mkF m 1 #[.val (.ref a1)] [(.ref a1)]))
  obtain ⟨T55, X55, e55, st55⟩ := initO X0 hx hZ hown (hw _ (List.mem_of_getElem? (i := 7) rfl)) (hw _ (List.mem_of_getElem? (i := 8) rfl)) (hw _ (List.mem_of_getElem? (i := 9) rfl)) e0 (g := (mkF m 1 #[.val (.ref a1)] [(.ref a1)])) rfl (by rw [hml]; rfl) rfl (hb hby own_d1_1) (by decide) (W := 0) (by show 2 * 0 + _ ≤ _; exact Nat.le_of_eq rfl) (by decide)
  refine own_fwd st55 ?_
  show own_R p.tables e below P (T55.setTop (mkF m 4 #[.val (.ref a1)] []))
  refine own_fwd (fun tt kt => XS.aloadN X55.here hx rfl (hb hby own_d1_4) rfl rfl kt) ?_
  show own_R p.tables e below P (T55.setTop (mkF m 5 #[.val (.ref a1)] [(.ref a1)]))
  obtain ⟨T56, h56, X56, e56, E56, A56, D56, -, st56⟩ := newO X55 hx hZ hown (hw _ (List.mem_of_getElem? (i := 10) rfl)) (hw _ (List.mem_of_getElem? (i := 11) rfl)) (hw _ (List.mem_of_getElem? (i := 12) rfl)) e55 (g := (mkF m 5 #[.val (.ref a1)] [(.ref a1)])) rfl (hb hby own_d1_5) (by decide) (by decide)
  obtain ⟨b56, g56⟩ : ∃ z, z = h0.size := ⟨_, rfl⟩
  rw [← g56] at A56 D56 st56
  have ne56_a1 : a1 ≠ b56 := Nat.ne_of_lt (by rw [g56]; exact pE.lt)
  have ge_b56 : n0 ≤ b56 := by rw [g56]; exact Z0
  have sz_b56 : h0.size ≤ b56 := by rw [g56]; exact (Nat.le_refl h0.size)
  have pE_x56 := pE.ext E56
  have pF0_x56 := pF0.ext E56
  have pF1_x56 := pF1.ext E56
  have pF2_x56 := pF2.ext E56
  have pF3_x56 := pF3.ext E56
  have pF4_x56 := pF4.ext E56
  have pF5_x56 := pF5.ext E56
  have pF6_x56 := pF6.ext E56
  have F56_map : Fld Z h56 b56 "java/util/HashSet" "map" "Ljava/util/HashMap;" .null := D56 (Or.inl (hw _ (List.mem_of_getElem? (i := 78) rfl))) (ty := (.object "java/util/HashMap")) (by decide)
  have Z56 : n0 ≤ h56.size := Nat.le_trans Z0 E56.1
  have K56 := K0.ext E56
  have Y56 : h0.size ≤ h56.size := Nat.le_trans (Nat.le_refl h0.size) E56.1
  refine own_fwd st56 ?_
  show own_R p.tables e below P (T56.setTop (mkF m 8 #[.val (.ref a1)] [(.ref b56), (.ref a1)]))
  refine own_fwd (fun tt kt => XS.dup X56.here hx rfl (hb hby own_d1_8) rfl rfl kt) ?_
  show own_R p.tables e below P (T56.setTop (mkF m 9 #[.val (.ref a1)] [(.ref b56), (.ref b56), (.ref a1)]))
  obtain ⟨_, _, ⟨T57, L57, k57, n57⟩, -, X57, ⟨Lc57, hQ57, l57, y57, z57⟩, st57⟩ := X56.specialBack hx (y := (⟨"java/util/LinkedHashSet", "<init>", "()V"⟩ : MethodName)) rfl hown (mvT hZ (hw _ (List.mem_of_getElem? (i := 13) rfl))) (mvT hZ (hw _ (List.mem_of_getElem? (i := 14) rfl))) (mvT hZ (hw _ (List.mem_of_getElem? (i := 15) rfl))) (by decide) (backOf (W := 2) (own_rm3 l Z a0 hw [] b56  h56 n0 Z56 A56 F56_map ge_b56) hZ (hw _ (List.mem_of_getElem? (i := 15) rfl)) (hw _ (List.mem_of_getElem? (i := 12) rfl)) (by decide) (by decide)) (g := (mkF m 9 #[.val (.ref a1)] [(.ref b56), (.ref b56), (.ref a1)])) rfl (by rw [hml]; rfl) (Steps.refl _) (a := b56) (argsL := []) (rest := [(.ref b56), (.ref a1)]) (lenOf own_pd0 rfl) rfl (by show 2 * 0 + _ ≤ _; exact Nat.le_of_eq rfl) (hb hby own_d1_9) (fun _ _ => ⟨rfl, e56, (by decide : 1 + 1 ≤ _), (by decide : 1 + 12 ≤ _)⟩)
  dsimp only [Pt.U, Pt.locs, Pt.cells, Pt.slots] at X57 l57 y57 z57 st57 hQ57
  subst l57 y57 z57
  obtain ⟨h57, e57⟩ : ∃ z, T57.heap = z := ⟨_, rfl⟩
  rw [e57] at hQ57
  obtain ⟨hq57, N57q, K57⟩ := hQ57
  subst hq57
  have N57 := Fr.app N0 N57q
  have pE_x57 := pE_x56.keep K57
  have pF0_x57 := pF0_x56.keep K57 (ninS ne56_a1 nin0)
  have pF1_x57 := pF1_x56.keep K57 (ninS ne56_a1 nin0)
  have pF2_x57 := pF2_x56.keep K57 (ninS ne56_a1 nin0)
  have pF3_x57 := pF3_x56.keep K57 (ninS ne56_a1 nin0)
  have pF4_x57 := pF4_x56.keep K57 (ninS ne56_a1 nin0)
  have pF5_x57 := pF5_x56.keep K57 (ninS ne56_a1 nin0)
  have pF6_x57 := pF6_x56.keep K57 (ninS ne56_a1 nin0)
  have A56_x57 := A56.keep K57
  have Z57 : n0 ≤ h57.size := Nat.le_trans Z56 K57.1
  have KK57 := K56.trans K57 (allS (Or.inr sz_b56) all0)
  have Y57 : h0.size ≤ h57.size := Nat.le_trans Y56 K57.1
  refine own_trn st57 ?_
  show own_R p.tables e below P (T57.setTop (mkF m 12 #[.val (.ref a1)] [(.ref b56), (.ref a1)]))
  obtain ⟨T58, h58, X58, e58, W58, st58⟩ := putF X57 hx hZ hown (host := "") (Or.inl (hw _ (List.mem_of_getElem? (i := 79) rfl))) Via.refl e57 pF0_x57 pE_x57 (Or.inr ⟨(hw _ (List.mem_of_getElem? (i := 80) rfl)), rfl, hnm⟩) (hw _ (List.mem_of_getElem? (i := 2) rfl)) (ty := (.object "java/util/Set")) (by decide) rfl rfl (g := (mkF m 12 #[.val (.ref a1)] [(.ref b56), (.ref a1)])) rfl rfl (hb hby own_d1_12)
  have F58_ := pF0_x57.same W58
  have pE_x58 := pE_x57.wr W58
  have pF1_x58 := pF1_x57.other W58 (Or.inr (slot_ne (Or.inr (hw _ (List.mem_of_getElem? (i := 82) rfl))) (Or.inr (hw _ (List.mem_of_getElem? (i := 80) rfl))) (by decide) (t := (.object "java/util/Set")) (t' := (.object "java/util/Set")) (by decide) (by decide)))
  have pF2_x58 := pF2_x57.other W58 (Or.inr (slot_ne (Or.inr (hw _ (List.mem_of_getElem? (i := 101) rfl))) (Or.inr (hw _ (List.mem_of_getElem? (i := 80) rfl))) (by decide) (t := (.object "java/util/Set")) (t' := (.object "java/util/Set")) (by decide) (by decide)))
  have pF3_x58 := pF3_x57.other W58 (Or.inr (slot_ne (Or.inl (hw _ (List.mem_of_getElem? (i := 103) rfl))) (Or.inr (hw _ (List.mem_of_getElem? (i := 80) rfl))) (by decide) (t := .int) (t' := (.object "java/util/Set")) (by decide) (by decide)))
  have pF4_x58 := pF4_x57.other W58 (Or.inr (slot_ne (Or.inl (hw _ (List.mem_of_getElem? (i := 110) rfl))) (Or.inr (hw _ (List.mem_of_getElem? (i := 80) rfl))) (by decide) (t := .long) (t' := (.object "java/util/Set")) (by decide) (by decide)))
  have pF5_x58 := pF5_x57.other W58 (Or.inr (slot_ne (Or.inl (hw _ (List.mem_of_getElem? (i := 112) rfl))) (Or.inr (hw _ (List.mem_of_getElem? (i := 80) rfl))) (by decide) (t := .long) (t' := (.object "java/util/Set")) (by decide) (by decide)))
  have pF6_x58 := pF6_x57.other W58 (Or.inr (slot_ne (Or.inl (hw _ (List.mem_of_getElem? (i := 114) rfl))) (Or.inr (hw _ (List.mem_of_getElem? (i := 80) rfl))) (by decide) (t := .long) (t' := (.object "java/util/Set")) (by decide) (by decide)))
  have A56_x58 := A56_x57.wr W58
  have N58 := Fr.snoc X58 N57 pg
  have Z58 : n0 ≤ h58.size := by rw [W58.size]; exact Z57
  have K58 := KK57.wr W58 (Or.inl (List.mem_of_getElem? (i := 0) rfl))
  have Y58 : h0.size ≤ h58.size := by rw [W58.size]; exact Y57
  refine own_fwd st58 ?_
  show own_R p.tables e below P (T58.setTop (mkF m 15 #[.val (.ref a1)] []))
  refine own_fwd (fun tt kt => XS.aloadN X58.here hx rfl (hb hby own_d1_15) rfl rfl kt) ?_
  show own_R p.tables e below P (T58.setTop (mkF m 16 #[.val (.ref a1)] [(.ref a1)]))
  obtain ⟨T59, h59, X59, e59, E59, A59, D59, -, st59⟩ := newO X58 hx hZ hown (hw _ (List.mem_of_getElem? (i := 10) rfl)) (hw _ (List.mem_of_getElem? (i := 11) rfl)) (hw _ (List.mem_of_getElem? (i := 12) rfl)) e58 (g := (mkF m 16 #[.val (.ref a1)] [(.ref a1)])) rfl (hb hby own_d1_16) (by decide) (by decide)
  obtain ⟨b59, g59⟩ : ∃ z, z = h58.size := ⟨_, rfl⟩
  rw [← g59] at A59 D59 st59
  have ne59_a1 : a1 ≠ b59 := Nat.ne_of_lt (by rw [g59]; exact pE_x58.lt)
  have ne59_b56 : b56 ≠ b59 := Nat.ne_of_lt (by rw [g59]; exact A56_x58.lt)
  have ge_b59 : n0 ≤ b59 := by rw [g59]; exact Z58
  have sz_b59 : h0.size ≤ b59 := by rw [g59]; exact Y58
  have pE_x59 := pE_x58.ext E59
  have F58__x59 := F58_.ext E59
  have pF1_x59 := pF1_x58.ext E59
  have pF2_x59 := pF2_x58.ext E59
  have pF3_x59 := pF3_x58.ext E59
  have pF4_x59 := pF4_x58.ext E59
  have pF5_x59 := pF5_x58.ext E59
  have pF6_x59 := pF6_x58.ext E59
  have A56_x59 := A56_x58.ext E59
  have F59_map : Fld Z h59 b59 "java/util/HashSet" "map" "Ljava/util/HashMap;" .null := D59 (Or.inl (hw _ (List.mem_of_getElem? (i := 78) rfl))) (ty := (.object "java/util/HashMap")) (by decide)
  have Z59 : n0 ≤ h59.size := Nat.le_trans Z58 E59.1
  have K59 := K58.ext E59
  have Y59 : h0.size ≤ h59.size := Nat.le_trans Y58 E59.1
  refine own_fwd st59 ?_
  show own_R p.tables e below P (T59.setTop (mkF m 19 #[.val (.ref a1)] [(.ref b59), (.ref a1)]))
  refine own_fwd (fun tt kt => XS.dup X59.here hx rfl (hb hby own_d1_19) rfl rfl kt) ?_
  show own_R p.tables e below P (T59.setTop (mkF m 20 #[.val (.ref a1)] [(.ref b59), (.ref b59), (.ref a1)]))
  obtain ⟨_, _, ⟨T60, L60, k60, n60⟩, -, X60, ⟨Lc60, hQ60, l60, y60, z60⟩, st60⟩ := X59.specialBack hx (y := (⟨"java/util/LinkedHashSet", "<init>", "()V"⟩ : MethodName)) rfl hown (mvT hZ (hw _ (List.mem_of_getElem? (i := 13) rfl))) (mvT hZ (hw _ (List.mem_of_getElem? (i := 14) rfl))) (mvT hZ (hw _ (List.mem_of_getElem? (i := 15) rfl))) (by decide) (backOf (W := 2) (own_rm3 l Z a0 hw [] b59  h59 n0 Z59 A59 F59_map ge_b59) hZ (hw _ (List.mem_of_getElem? (i := 15) rfl)) (hw _ (List.mem_of_getElem? (i := 12) rfl)) (by decide) (by decide)) (g := (mkF m 20 #[.val (.ref a1)] [(.ref b59), (.ref b59), (.ref a1)])) rfl (by rw [hml]; rfl) (Steps.refl _) (a := b59) (argsL := []) (rest := [(.ref b59), (.ref a1)]) (lenOf own_pd0 rfl) rfl (by show 2 * 0 + _ ≤ _; exact Nat.le_of_eq rfl) (hb hby own_d1_20) (fun _ _ => ⟨rfl, e59, (by decide : 3 + 1 ≤ _), (by decide : 14 + 12 ≤ _)⟩)
  dsimp only [Pt.U, Pt.locs, Pt.cells, Pt.slots] at X60 l60 y60 z60 st60 hQ60
  subst l60 y60 z60
  obtain ⟨h60, e60⟩ : ∃ z, T60.heap = z := ⟨_, rfl⟩
  rw [e60] at hQ60
  obtain ⟨hq60, N60q, K60⟩ := hQ60
  subst hq60
  have N60 := Fr.app N58 N60q
  have pE_x60 := pE_x59.keep K60
  have F58__x60 := F58__x59.keep K60 (ninS ne59_a1 nin0)
  have pF1_x60 := pF1_x59.keep K60 (ninS ne59_a1 nin0)
  have pF2_x60 := pF2_x59.keep K60 (ninS ne59_a1 nin0)
  have pF3_x60 := pF3_x59.keep K60 (ninS ne59_a1 nin0)
  have pF4_x60 := pF4_x59.keep K60 (ninS ne59_a1 nin0)
  have pF5_x60 := pF5_x59.keep K60 (ninS ne59_a1 nin0)
  have pF6_x60 := pF6_x59.keep K60 (ninS ne59_a1 nin0)
  have A56_x60 := A56_x59.keep K60
  have A59_x60 := A59.keep K60
  have Z60 : n0 ≤ h60.size := Nat.le_trans Z59 K60.1
  have KK60 := K59.trans K60 (allS (Or.inr sz_b59) all0)
  have Y60 : h0.size ≤ h60.size := Nat.le_trans Y59 K60.1
  refine own_trn st60 ?_
  show own_R p.tables e below P (T60.setTop (mkF m 23 #[.val (.ref a1)] [(.ref b59), (.ref a1)]))
  obtain ⟨T61, h61, X61, e61, W61, st61⟩ := putF X60 hx hZ hown (host := "") (Or.inl (hw _ (List.mem_of_getElem? (i := 81) rfl))) Via.refl e60 pF1_x60 pE_x60 (Or.inr ⟨(hw _ (List.mem_of_getElem? (i := 82) rfl)), rfl, hnm⟩) (hw _ (List.mem_of_getElem? (i := 2) rfl)) (ty := (.object "java/util/Set")) (by decide) rfl rfl (g := (mkF m 23 #[.val (.ref a1)] [(.ref b59), (.ref a1)])) rfl rfl (hb hby own_d1_23)
  have F61_ := pF1_x60.same W61
  have pE_x61 := pE_x60.wr W61
  have F58__x61 := F58__x60.other W61 (Or.inr (slot_ne (Or.inr (hw _ (List.mem_of_getElem? (i := 80) rfl))) (Or.inr (hw _ (List.mem_of_getElem? (i := 82) rfl))) (by decide) (t := (.object "java/util/Set")) (t' := (.object "java/util/Set")) (by decide) (by decide)))
  have pF2_x61 := pF2_x60.other W61 (Or.inr (slot_ne (Or.inr (hw _ (List.mem_of_getElem? (i := 101) rfl))) (Or.inr (hw _ (List.mem_of_getElem? (i := 82) rfl))) (by decide) (t := (.object "java/util/Set")) (t' := (.object "java/util/Set")) (by decide) (by decide)))
  have pF3_x61 := pF3_x60.other W61 (Or.inr (slot_ne (Or.inl (hw _ (List.mem_of_getElem? (i := 103) rfl))) (Or.inr (hw _ (List.mem_of_getElem? (i := 82) rfl))) (by decide) (t := .int) (t' := (.object "java/util/Set")) (by decide) (by decide)))
  have pF4_x61 := pF4_x60.other W61 (Or.inr (slot_ne (Or.inl (hw _ (List.mem_of_getElem? (i := 110) rfl))) (Or.inr (hw _ (List.mem_of_getElem? (i := 82) rfl))) (by decide) (t := .long) (t' := (.object "java/util/Set")) (by decide) (by decide)))
  have pF5_x61 := pF5_x60.other W61 (Or.inr (slot_ne (Or.inl (hw _ (List.mem_of_getElem? (i := 112) rfl))) (Or.inr (hw _ (List.mem_of_getElem? (i := 82) rfl))) (by decide) (t := .long) (t' := (.object "java/util/Set")) (by decide) (by decide)))
  have pF6_x61 := pF6_x60.other W61 (Or.inr (slot_ne (Or.inl (hw _ (List.mem_of_getElem? (i := 114) rfl))) (Or.inr (hw _ (List.mem_of_getElem? (i := 82) rfl))) (by decide) (t := .long) (t' := (.object "java/util/Set")) (by decide) (by decide)))
  have A56_x61 := A56_x60.wr W61
  have A59_x61 := A59_x60.wr W61
  have N61 := Fr.snoc X61 N60 pg
  have Z61 : n0 ≤ h61.size := by rw [W61.size]; exact Z60
  have K61 := KK60.wr W61 (Or.inl (List.mem_of_getElem? (i := 0) rfl))
  have Y61 : h0.size ≤ h61.size := by rw [W61.size]; exact Y60
  refine own_fwd st61 ?_
  show own_R p.tables e below P (T61.setTop (mkF m 26 #[.val (.ref a1)] []))
  refine own_fwd (fun tt kt => XS.aloadN X61.here hx rfl (hb hby own_d1_26) rfl rfl kt) ?_
  show own_R p.tables e below P (T61.setTop (mkF m 27 #[.val (.ref a1)] [(.ref a1)]))
  obtain ⟨T62, h62, X62, e62, E62, A62, D62, -, st62⟩ := newO X61 hx hZ hown (hw _ (List.mem_of_getElem? (i := 83) rfl)) (hw _ (List.mem_of_getElem? (i := 84) rfl)) (hw _ (List.mem_of_getElem? (i := 21) rfl)) e61 (g := (mkF m 27 #[.val (.ref a1)] [(.ref a1)])) rfl (hb hby own_d1_27) (by decide) (by decide)
  obtain ⟨b62, g62⟩ : ∃ z, z = h61.size := ⟨_, rfl⟩
  rw [← g62] at A62 D62 st62
  have ne62_a1 : a1 ≠ b62 := Nat.ne_of_lt (by rw [g62]; exact pE_x61.lt)
  have ne62_b56 : b56 ≠ b62 := Nat.ne_of_lt (by rw [g62]; exact A56_x61.lt)
  have ne62_b59 : b59 ≠ b62 := Nat.ne_of_lt (by rw [g62]; exact A59_x61.lt)
  have ge_b62 : n0 ≤ b62 := by rw [g62]; exact Z61
  have sz_b62 : h0.size ≤ b62 := by rw [g62]; exact Y61
  have pE_x62 := pE_x61.ext E62
  have F58__x62 := F58__x61.ext E62
  have F61__x62 := F61_.ext E62
  have pF2_x62 := pF2_x61.ext E62
  have pF3_x62 := pF3_x61.ext E62
  have pF4_x62 := pF4_x61.ext E62
  have pF5_x62 := pF5_x61.ext E62
  have pF6_x62 := pF6_x61.ext E62
  have A56_x62 := A56_x61.ext E62
  have A59_x62 := A59_x61.ext E62
  have F62_map : Fld Z h62 b62 "java/util/HashSet" "map" "Ljava/util/HashMap;" .null := D62 (Or.inl (hw _ (List.mem_of_getElem? (i := 99) rfl))) (ty := (.object "java/util/HashMap")) (by decide)
  have Z62 : n0 ≤ h62.size := Nat.le_trans Z61 E62.1
  have K62 := K61.ext E62
  have Y62 : h0.size ≤ h62.size := Nat.le_trans Y61 E62.1
  refine own_fwd st62 ?_
  show own_R p.tables e below P (T62.setTop (mkF m 30 #[.val (.ref a1)] [(.ref b62), (.ref a1)]))
  refine own_fwd (fun tt kt => XS.dup X62.here hx rfl (hb hby own_d1_30) rfl rfl kt) ?_
  show own_R p.tables e below P (T62.setTop (mkF m 31 #[.val (.ref a1)] [(.ref b62), (.ref b62), (.ref a1)]))
  obtain ⟨_, _, ⟨T63, L63, k63, n63⟩, -, X63, ⟨Lc63, hQ63, l63, y63, z63⟩, st63⟩ := X62.specialBack hx (y := (⟨"java/util/HashSet", "<init>", "()V"⟩ : MethodName)) rfl hown (mvT hZ (hw _ (List.mem_of_getElem? (i := 85) rfl))) (mvT hZ (hw _ (List.mem_of_getElem? (i := 86) rfl))) (mvT hZ (hw _ (List.mem_of_getElem? (i := 87) rfl))) (by decide) (backOf (W := 2) (own_rm13 l Z a0 hw [] b62  h62 n0 Z62 A62 F62_map ge_b62) hZ (hw _ (List.mem_of_getElem? (i := 87) rfl)) (hw _ (List.mem_of_getElem? (i := 21) rfl)) (by decide) (by decide)) (g := (mkF m 31 #[.val (.ref a1)] [(.ref b62), (.ref b62), (.ref a1)])) rfl (by rw [hml]; rfl) (Steps.refl _) (a := b62) (argsL := []) (rest := [(.ref b62), (.ref a1)]) (lenOf own_pd0 rfl) rfl (by show 2 * 0 + _ ≤ _; exact Nat.le_of_eq rfl) (hb hby own_d1_31) (fun _ _ => ⟨rfl, e62, (by decide : 5 + 1 ≤ _), (by decide : 27 + 8 ≤ _)⟩)
  dsimp only [Pt.U, Pt.locs, Pt.cells, Pt.slots] at X63 l63 y63 z63 st63 hQ63
  subst l63 y63 z63
  obtain ⟨h63, e63⟩ : ∃ z, T63.heap = z := ⟨_, rfl⟩
  rw [e63] at hQ63
  obtain ⟨hq63, N63q, K63⟩ := hQ63
  subst hq63
  have N63 := Fr.app N61 N63q
  have pE_x63 := pE_x62.keep K63
  have F58__x63 := F58__x62.keep K63 (ninS ne62_a1 nin0)
  have F61__x63 := F61__x62.keep K63 (ninS ne62_a1 nin0)
  have pF2_x63 := pF2_x62.keep K63 (ninS ne62_a1 nin0)
  have pF3_x63 := pF3_x62.keep K63 (ninS ne62_a1 nin0)
  have pF4_x63 := pF4_x62.keep K63 (ninS ne62_a1 nin0)
  have pF5_x63 := pF5_x62.keep K63 (ninS ne62_a1 nin0)
  have pF6_x63 := pF6_x62.keep K63 (ninS ne62_a1 nin0)
  have A56_x63 := A56_x62.keep K63
  have A59_x63 := A59_x62.keep K63
  have A62_x63 := A62.keep K63
  have Z63 : n0 ≤ h63.size := Nat.le_trans Z62 K63.1
  have KK63 := K62.trans K63 (allS (Or.inr sz_b62) all0)
  have Y63 : h0.size ≤ h63.size := Nat.le_trans Y62 K63.1
  refine own_trn st63 ?_
  show own_R p.tables e below P (T63.setTop (mkF m 34 #[.val (.ref a1)] [(.ref b62), (.ref a1)]))
  obtain ⟨T64, h64, X64, e64, W64, st64⟩ := putF X63 hx hZ hown (host := "") (Or.inl (hw _ (List.mem_of_getElem? (i := 100) rfl))) Via.refl e63 pF2_x63 pE_x63 (Or.inr ⟨(hw _ (List.mem_of_getElem? (i := 101) rfl)), rfl, hnm⟩) (hw _ (List.mem_of_getElem? (i := 2) rfl)) (ty := (.object "java/util/Set")) (by decide) rfl rfl (g := (mkF m 34 #[.val (.ref a1)] [(.ref b62), (.ref a1)])) rfl rfl (hb hby own_d1_34)
  have F64_ := pF2_x63.same W64
  have pE_x64 := pE_x63.wr W64
  have F58__x64 := F58__x63.other W64 (Or.inr (slot_ne (Or.inr (hw _ (List.mem_of_getElem? (i := 80) rfl))) (Or.inr (hw _ (List.mem_of_getElem? (i := 101) rfl))) (by decide) (t := (.object "java/util/Set")) (t' := (.object "java/util/Set")) (by decide) (by decide)))
  have F61__x64 := F61__x63.other W64 (Or.inr (slot_ne (Or.inr (hw _ (List.mem_of_getElem? (i := 82) rfl))) (Or.inr (hw _ (List.mem_of_getElem? (i := 101) rfl))) (by decide) (t := (.object "java/util/Set")) (t' := (.object "java/util/Set")) (by decide) (by decide)))
  have pF3_x64 := pF3_x63.other W64 (Or.inr (slot_ne (Or.inl (hw _ (List.mem_of_getElem? (i := 103) rfl))) (Or.inr (hw _ (List.mem_of_getElem? (i := 101) rfl))) (by decide) (t := .int) (t' := (.object "java/util/Set")) (by decide) (by decide)))
  have pF4_x64 := pF4_x63.other W64 (Or.inr (slot_ne (Or.inl (hw _ (List.mem_of_getElem? (i := 110) rfl))) (Or.inr (hw _ (List.mem_of_getElem? (i := 101) rfl))) (by decide) (t := .long) (t' := (.object "java/util/Set")) (by decide) (by decide)))
  have pF5_x64 := pF5_x63.other W64 (Or.inr (slot_ne (Or.inl (hw _ (List.mem_of_getElem? (i := 112) rfl))) (Or.inr (hw _ (List.mem_of_getElem? (i := 101) rfl))) (by decide) (t := .long) (t' := (.object "java/util/Set")) (by decide) (by decide)))
  have pF6_x64 := pF6_x63.other W64 (Or.inr (slot_ne (Or.inl (hw _ (List.mem_of_getElem? (i := 114) rfl))) (Or.inr (hw _ (List.mem_of_getElem? (i := 101) rfl))) (by decide) (t := .long) (t' := (.object "java/util/Set")) (by decide) (by decide)))
  have A56_x64 := A56_x63.wr W64
  have A59_x64 := A59_x63.wr W64
  have A62_x64 := A62_x63.wr W64
  have N64 := Fr.snoc X64 N63 pg
  have Z64 : n0 ≤ h64.size := by rw [W64.size]; exact Z63
  have K64 := KK63.wr W64 (Or.inl (List.mem_of_getElem? (i := 0) rfl))
  have Y64 : h0.size ≤ h64.size := by rw [W64.size]; exact Y63
  refine own_fwd st64 ?_
  show own_R p.tables e below P (T64.setTop (mkF m 37 #[.val (.ref a1)] []))
  refine own_fwd (fun tt kt => XS.aloadN X64.here hx rfl (hb hby own_d1_37) rfl rfl kt) ?_
  show own_R p.tables e below P (T64.setTop (mkF m 38 #[.val (.ref a1)] [(.ref a1)]))
  refine own_fwd (fun tt kt => XS.iconst X64.here hx rfl (hb hby own_d1_38) kt) ?_
  show own_R p.tables e below P (T64.setTop (mkF m 39 #[.val (.ref a1)] [(.int (2 : Int32)), (.ref a1)]))
  obtain ⟨T65, h65, X65, e65, W65, st65⟩ := putF X64 hx hZ hown (host := "") (Or.inl (hw _ (List.mem_of_getElem? (i := 102) rfl))) Via.refl e64 pF3_x64 pE_x64 (Or.inl (hw _ (List.mem_of_getElem? (i := 103) rfl))) (hw _ (List.mem_of_getElem? (i := 2) rfl)) (ty := .int) (by decide) rfl rfl (g := (mkF m 39 #[.val (.ref a1)] [(.int (2 : Int32)), (.ref a1)])) rfl rfl (hb hby own_d1_39)
  have F65_ := pF3_x64.same W65
  have pE_x65 := pE_x64.wr W65
  have F58__x65 := F58__x64.other W65 (Or.inr (slot_ne (Or.inr (hw _ (List.mem_of_getElem? (i := 80) rfl))) (Or.inl (hw _ (List.mem_of_getElem? (i := 103) rfl))) (by decide) (t := (.object "java/util/Set")) (t' := .int) (by decide) (by decide)))
  have F61__x65 := F61__x64.other W65 (Or.inr (slot_ne (Or.inr (hw _ (List.mem_of_getElem? (i := 82) rfl))) (Or.inl (hw _ (List.mem_of_getElem? (i := 103) rfl))) (by decide) (t := (.object "java/util/Set")) (t' := .int) (by decide) (by decide)))
  have F64__x65 := F64_.other W65 (Or.inr (slot_ne (Or.inr (hw _ (List.mem_of_getElem? (i := 101) rfl))) (Or.inl (hw _ (List.mem_of_getElem? (i := 103) rfl))) (by decide) (t := (.object "java/util/Set")) (t' := .int) (by decide) (by decide)))
  have pF4_x65 := pF4_x64.other W65 (Or.inr (slot_ne (Or.inl (hw _ (List.mem_of_getElem? (i := 110) rfl))) (Or.inl (hw _ (List.mem_of_getElem? (i := 103) rfl))) (by decide) (t := .long) (t' := .int) (by decide) (by decide)))
  have pF5_x65 := pF5_x64.other W65 (Or.inr (slot_ne (Or.inl (hw _ (List.mem_of_getElem? (i := 112) rfl))) (Or.inl (hw _ (List.mem_of_getElem? (i := 103) rfl))) (by decide) (t := .long) (t' := .int) (by decide) (by decide)))
  have pF6_x65 := pF6_x64.other W65 (Or.inr (slot_ne (Or.inl (hw _ (List.mem_of_getElem? (i := 114) rfl))) (Or.inl (hw _ (List.mem_of_getElem? (i := 103) rfl))) (by decide) (t := .long) (t' := .int) (by decide) (by decide)))
  have A56_x65 := A56_x64.wr W65
  have A59_x65 := A59_x64.wr W65
  have A62_x65 := A62_x64.wr W65
  have N65 := Fr.snoc X65 N64 pg
  have Z65 : n0 ≤ h65.size := by rw [W65.size]; exact Z64
  have K65 := K64.wr W65 (Or.inl (List.mem_of_getElem? (i := 0) rfl))
  have Y65 : h0.size ≤ h65.size := by rw [W65.size]; exact Y64
  refine own_fwd st65 ?_
  show own_R p.tables e below P (T65.setTop (mkF m 42 #[.val (.ref a1)] []))
  obtain ⟨fs66, hr66, hrun66, hended66, hW66, hsame66⟩ := X65.leave (v := none) (fun _ => rfl)
  refine ⟨_, _, X65.returnOut hx Bd.returns (hb hby own_d1_42) hr66, fin _ _ ⟨hrun66, hended66, _, _, rfl, ?_, ⟨_, rfl⟩, hW66, hsame66.mono (by decide) (by decide)⟩⟩
  show own_Q1 Z a1 h0 n0 _ T65.heap _
  rw [e65]
  exact ⟨rfl, N65, K65, pE_x65, F65_, pF4_x65, pF5_x65, pF6_x65⟩
theorem own_i1 : (1 : Int32).toInt = 1 := rfl
theorem own_j0 : (0 : Int64).toInt = 0 := rfl
theorem own_j1 : (1 : Int64).toInt = 1 := rfl
theorem own_j100 : (100 : Int64).toInt = 100 := rfl
/-- what moveOn leaves -/
def own_Mv (p1 p2 : Int32) (s r lo : Int64) (z : Int32) (s' r' lo' : Int64) : Prop := s'.toInt = s.toInt + p1.toInt - 1 ∧ (p2 = 0 → r' = r ∧ lo' = lo) ∧ (¬ p2 = 0 → r' = s' ∧ lo' = s') ∧ ((z = 1 ∧ s'.toInt ≤ r'.toInt + 100) ∨ (z = 0 ∧ r'.toInt + 100 < s'.toInt))
theorem own_mvs (s : Int64) (p1 : Int32) (h1 : -10000000000 ≤ s.toInt) (h2 : s.toInt ≤ 10000000000) (h3 : 0 ≤ p1.toInt) : (s + (p1 - (1 : Int32)).toInt64).toInt = s.toInt + p1.toInt - 1 := by
  have a1 := c_isub p1 1
  have r1 := rng32 (p1 - 1); have r0 := rng32 p1
  rw [own_i1] at a1
  have a2 := c_ladd s (p1 - (1 : Int32)).toInt64
  have r2 := rng64 (s + (p1 - (1 : Int32)).toInt64)
  rw [c_i2l] at a2
  omega
theorem own_100 (r : Int64) (h1 : -1000000000000 ≤ r.toInt) (h2 : r.toInt ≤ 1000000000000) : (r + (100 : Int64)).toInt = r.toInt + 100 := by
  have a2 := c_ladd r 100
  have r2 := rng64 (r + 100)
  rw [own_j100] at a2
  omega
theorem own_m100 (r : Int64) (h1 : -1000000000000 ≤ r.toInt) (h2 : r.toInt ≤ 1000000000000) : (r - (100 : Int64)).toInt = r.toInt - 100 := by
  have a2 := c_lsub r 100
  have r2 := rng64 (r - 100)
  rw [own_j100] at a2
  omega
theorem own_d15_0 : decode prog_3_method_6_code 0 = .ok (.aload_n 0, 1) := by decide +kernel
theorem own_d15_1 : decode prog_3_method_6_code 1 = .ok (.dup, 1) := by decide +kernel
theorem own_d15_2 : decode prog_3_method_6_code 2 = .ok (.getfield 29, 3) := by decide +kernel
theorem own_d15_5 : decode prog_3_method_6_code 5 = .ok (.iload_n 1, 1) := by decide +kernel
theorem own_d15_6 : decode prog_3_method_6_code 6 = .ok (.iconst 1, 1) := by decide +kernel
theorem own_d15_7 : decode prog_3_method_6_code 7 = .ok (.isub, 1) := by decide +kernel
theorem own_d15_8 : decode prog_3_method_6_code 8 = .ok (.i2l, 1) := by decide +kernel
theorem own_d15_9 : decode prog_3_method_6_code 9 = .ok (.ladd, 1) := by decide +kernel
theorem own_d15_10 : decode prog_3_method_6_code 10 = .ok (.putfield 29, 3) := by decide +kernel
theorem own_d15_13 : decode prog_3_method_6_code 13 = .ok (.iload_n 2, 1) := by decide +kernel
theorem own_d15_14 : decode prog_3_method_6_code 14 = .ok (.ifCond .eq 19, 3) := by decide +kernel
theorem own_d15_17 : decode prog_3_method_6_code 17 = .ok (.aload_n 0, 1) := by decide +kernel
theorem own_d15_18 : decode prog_3_method_6_code 18 = .ok (.aload_n 0, 1) := by decide +kernel
theorem own_d15_19 : decode prog_3_method_6_code 19 = .ok (.getfield 29, 3) := by decide +kernel
theorem own_d15_22 : decode prog_3_method_6_code 22 = .ok (.putfield 94, 3) := by decide +kernel
theorem own_d15_25 : decode prog_3_method_6_code 25 = .ok (.aload_n 0, 1) := by decide +kernel
theorem own_d15_26 : decode prog_3_method_6_code 26 = .ok (.aload_n 0, 1) := by decide +kernel
theorem own_d15_27 : decode prog_3_method_6_code 27 = .ok (.getfield 29, 3) := by decide +kernel
theorem own_d15_30 : decode prog_3_method_6_code 30 = .ok (.putfield 97, 3) := by decide +kernel
theorem own_d15_33 : decode prog_3_method_6_code 33 = .ok (.aload_n 0, 1) := by decide +kernel
theorem own_d15_34 : decode prog_3_method_6_code 34 = .ok (.getfield 29, 3) := by decide +kernel
theorem own_d15_37 : decode prog_3_method_6_code 37 = .ok (.aload_n 0, 1) := by decide +kernel
theorem own_d15_38 : decode prog_3_method_6_code 38 = .ok (.getfield 94, 3) := by decide +kernel
theorem own_d15_41 : decode prog_3_method_6_code 41 = .ok (.ldc2_w 100, 3) := by decide +kernel
theorem own_d15_44 : decode prog_3_method_6_code 44 = .ok (.ladd, 1) := by decide +kernel
theorem own_d15_45 : decode prog_3_method_6_code 45 = .ok (.lcmp, 1) := by decide +kernel
theorem own_d15_46 : decode prog_3_method_6_code 46 = .ok (.ifCond .gt 7, 3) := by decide +kernel
theorem own_d15_49 : decode prog_3_method_6_code 49 = .ok (.iconst 1, 1) := by decide +kernel
theorem own_d15_50 : decode prog_3_method_6_code 50 = .ok (.goto 4, 3) := by decide +kernel
theorem own_d15_53 : decode prog_3_method_6_code 53 = .ok (.iconst 0, 1) := by decide +kernel
theorem own_d15_54 : decode prog_3_method_6_code 54 = .ok (.ireturn, 1) := by decide +kernel
theorem own_ef15 (m : MethodId) (a1 : Addr) (p1 : Int32) (p2 : Int32) : entryFrame m #[(.ref a1), (.int p1), (.int p2)] 3 = mkF m 0 #[.val (.ref a1), .val (.int p1), .val (.int p2)] [] := by first | (simp [entryFrame, mkF, argsToLocals, Value.category]; done) | rfl
def own_Q15 (Z : State) (a1 : Addr) (p1 p2 : Int32) (q1 q2 q3 : Int64) (h0 : Heap) (n0 : Nat) (v : Option Value) (h : Heap) (L : List Loc) : Prop := ∃ (z : Int32) (s' r' lo' : Int64), v = some (.int z) ∧ Fr n0 L ∧ Keep h0 h [a1] ∧ own_Mv p1 p2 q1 q2 q3 z s' r' lo' ∧ Exa Z h a1 "com/example/erpctl/erpctl/connectors/yallav/ListPlace" ∧ Fld Z h a1 "com/example/erpctl/erpctl/connectors/yallav/ListPlace" "span" "I" (.int (2 : Int32)) ∧ Fld Z h a1 "com/example/erpctl/erpctl/connectors/yallav/ListPlace" "skip" "J" (.long s') ∧ Fld Z h a1 "com/example/erpctl/erpctl/connectors/yallav/ListPlace" "reached" "J" (.long r') ∧ Fld Z h a1 "com/example/erpctl/erpctl/connectors/yallav/ListPlace" "lowest" "J" (.long lo')
set_option maxRecDepth 65536 in
set_option maxHeartbeats 40000000 in
theorem own_rm15 (l : Launch) (Z : State) (a0 : Array Value) (hw : ∀ d ∈ tables_1, d.before a0 Z = true) (ws : List Jvm.Cond) (a1 : Addr) (p1 p2 : Int32) (q1 q2 q3 : Int64) (h0 : Heap) (n0 : Nat) (Z0 : n0 ≤ h0.size) (pE : Exa Z h0 a1 "com/example/erpctl/erpctl/connectors/yallav/ListPlace") (pF0 : Fld Z h0 a1 "com/example/erpctl/erpctl/connectors/yallav/ListPlace" "span" "I" (.int (2 : Int32))) (pF1 : Fld Z h0 a1 "com/example/erpctl/erpctl/connectors/yallav/ListPlace" "skip" "J" (.long q1)) (pF2 : Fld Z h0 a1 "com/example/erpctl/erpctl/connectors/yallav/ListPlace" "reached" "J" (.long q2)) (pF3 : Fld Z h0 a1 "com/example/erpctl/erpctl/connectors/yallav/ListPlace" "lowest" "J" (.long q3)) (pg : n0 ≤ a1) (hp : 0 ≤ p1.toInt) (b1q1 : -10000000000 ≤ q1.toInt) (b2q1 : q1.toInt ≤ 10000000000) (b1q2 : -10000000000 ≤ q2.toInt) (b2q2 : q2.toInt ≤ 10000000000) :
    MetFree l (⟨"com/example/erpctl/erpctl/connectors/yallav/ListPlace", "moveOn", "(IZ)Z"⟩ : MethodName) (head1 (Jvm.Cond.code (⟨"com/example/erpctl/erpctl/connectors/yallav/ListPlace", "moveOn", "(IZ)Z"⟩ : MethodName) prog_3_method_6_code 3 (some .boolean) :: ws) ({ frames := 0, cells := 0, slots := 0, locals := 0 } : Room)) (fun a U => a = #[(.ref a1), (.int p1), (.int p2)] ∧ Z.Warmed39 U.vm ∧ U.heap = h0) (fun _ _ _ _ _ => True) (fun _ U o U' => ∃ v L, o = .returned v ∧ own_Q15 Z a1 p1 p2 q1 q2 q3 h0 n0 v U'.heap L ∧ FrameEnd U o U' L ({ frames := 0, cells := 0, slots := 0, locals := 0 } : Room).cells ({ frames := 0, cells := 0, slots := 0, locals := 0 } : Room).slots) := by
  refine MetFree.of_bodySF (plainFor_of_name own_pn8) hisR ?_
  intro p e s m args below meth c s₁ Bd hml0 hP hK
  obtain ⟨rfl, hZ, hh⟩ := hP
  have hx := Bd.exec
  have hby := Bd.bytes
  have hml : c.maxLocals = 3 := hml0
  have hown : s.vm.findClass "com/example/erpctl/erpctl/connectors/yallav/ListPlace" = some m.cls := findClass_of_methodNamed Bd.named
  have hnm := (name_of_methodNamed Bd.named Bd.method).1
  have X0 : Stand p l e ({ frames := 0, cells := 0, slots := 0, locals := 0 } : Room) s m #[(.ref a1), (.int p1), (.int p2)] below meth c s₁ [] 0 0 := Stand.of_body Bd
  have e0 : s₁.heap = h0 := by rw [← hh, Bd.state]; rfl
  have N0 := Fr.nil n0
  refine own_nm (st := s₁.setTop (entryFrame m #[(.ref a1), (.int p1), (.int p2)] 3)) fun P fin => ?_
  refine own_fwd (fun tt kt => castTop (own_ef15 m a1 p1 p2) kt) ?_
  show own_R p.tables e below P (s₁.setTop (mkF m 0 #[.val (.ref a1), .val (.int p1), .val (.int p2)] []))
  have K0 := Keep.refl h0 [a1]
  refine own_fwd (fun tt kt => XS.aloadN X0.here hx rfl (hb hby own_d15_0) rfl rfl kt) ?_
  show own_R p.tables e below P (s₁.setTop (mkF m 1 #[.val (.ref a1), .val (.int p1), .val (.int p2)] [(.ref a1)]))
  refine own_fwd (fun tt kt => XS.dup X0.here hx rfl (hb hby own_d15_1) rfl rfl kt) ?_
  show own_R p.tables e below P (s₁.setTop (mkF m 2 #[.val (.ref a1), .val (.int p1), .val (.int p2)] [(.ref a1), (.ref a1)]))
  obtain ⟨T67, X67, e67, st67⟩ := getF X0 hx hZ hown (host := "") (Or.inl (hw _ (List.mem_of_getElem? (i := 109) rfl))) Via.refl e0 pF1 (g := (mkF m 2 #[.val (.ref a1), .val (.int p1), .val (.int p2)] [(.ref a1), (.ref a1)])) rfl rfl (hb hby own_d15_2)
  refine own_fwd st67 ?_
  show own_R p.tables e below P (T67.setTop (mkF m 5 #[.val (.ref a1), .val (.int p1), .val (.int p2)] [(.long q1), (.ref a1)]))
  refine own_fwd (fun tt kt => XS.iloadN X67.here hx rfl (hb hby own_d15_5) rfl kt) ?_
  show own_R p.tables e below P (T67.setTop (mkF m 6 #[.val (.ref a1), .val (.int p1), .val (.int p2)] [(.int p1), (.long q1), (.ref a1)]))
  refine own_fwd (fun tt kt => XS.iconst X67.here hx rfl (hb hby own_d15_6) kt) ?_
  show own_R p.tables e below P (T67.setTop (mkF m 7 #[.val (.ref a1), .val (.int p1), .val (.int p2)] [(.int (1 : Int32)), (.int p1), (.long q1), (.ref a1)]))
  refine own_fwd (fun tt kt => XS.isub X67.here hx rfl (hb hby own_d15_7) rfl kt) ?_
  show own_R p.tables e below P (T67.setTop (mkF m 8 #[.val (.ref a1), .val (.int p1), .val (.int p2)] [(.int (p1 - (1 : Int32))), (.long q1), (.ref a1)]))
  refine own_fwd (fun tt kt => XS.i2l X67.here hx rfl (hb hby own_d15_8) rfl kt) ?_
  show own_R p.tables e below P (T67.setTop (mkF m 9 #[.val (.ref a1), .val (.int p1), .val (.int p2)] [(.long ((p1 - (1 : Int32)).toInt64)), (.long q1), (.ref a1)]))
  refine own_fwd (fun tt kt => XS.ladd X67.here hx rfl (hb hby own_d15_9) rfl kt) ?_
  show own_R p.tables e below P (T67.setTop (mkF m 10 #[.val (.ref a1), .val (.int p1), .val (.int p2)] [(.long (q1 + ((p1 - (1 : Int32)).toInt64))), (.ref a1)]))
  obtain ⟨T68, h68, X68, e68, W68, st68⟩ := putF X67 hx hZ hown (host := "") (Or.inl (hw _ (List.mem_of_getElem? (i := 109) rfl))) Via.refl e67 pF1 pE (Or.inl (hw _ (List.mem_of_getElem? (i := 110) rfl))) (hw _ (List.mem_of_getElem? (i := 2) rfl)) (ty := .long) (by decide) rfl rfl (g := (mkF m 10 #[.val (.ref a1), .val (.int p1), .val (.int p2)] [(.long (q1 + ((p1 - (1 : Int32)).toInt64))), (.ref a1)])) rfl rfl (hb hby own_d15_10)
  have F68_ := pF1.same W68
  have pE_x68 := pE.wr W68
  have pF0_x68 := pF0.other W68 (Or.inr (slot_ne (Or.inl (hw _ (List.mem_of_getElem? (i := 103) rfl))) (Or.inl (hw _ (List.mem_of_getElem? (i := 110) rfl))) (by decide) (t := .int) (t' := .long) (by decide) (by decide)))
  have pF2_x68 := pF2.other W68 (Or.inr (slot_ne (Or.inl (hw _ (List.mem_of_getElem? (i := 112) rfl))) (Or.inl (hw _ (List.mem_of_getElem? (i := 110) rfl))) (by decide) (t := .long) (t' := .long) (by decide) (by decide)))
  have pF3_x68 := pF3.other W68 (Or.inr (slot_ne (Or.inl (hw _ (List.mem_of_getElem? (i := 114) rfl))) (Or.inl (hw _ (List.mem_of_getElem? (i := 110) rfl))) (by decide) (t := .long) (t' := .long) (by decide) (by decide)))
  have N68 := Fr.snoc X68 N0 pg
  have Z68 : n0 ≤ h68.size := by rw [W68.size]; exact Z0
  have K68 := K0.wr W68 (Or.inl (List.mem_of_getElem? (i := 0) rfl))
  have Y68 : h0.size ≤ h68.size := by rw [W68.size]; exact (Nat.le_refl h0.size)
  refine own_fwd st68 ?_
  show own_R p.tables e below P (T68.setTop (mkF m 13 #[.val (.ref a1), .val (.int p1), .val (.int p2)] []))
  refine own_fwd (fun tt kt => XS.iloadN X68.here hx rfl (hb hby own_d15_13) rfl kt) ?_
  show own_R p.tables e below P (T68.setTop (mkF m 14 #[.val (.ref a1), .val (.int p1), .val (.int p2)] [(.int p2)]))
  by_cases hc69 : p2 = (0 : Int32)
  · refine own_fwd (fun tt kt => XS.ifYes X68.here hx rfl (pc0 := 14) (pc' := 33) rfl (hb hby own_d15_14) rfl ((if0 _ _).trans (teq hc69).1) (by decide) (by decide) kt) ?_
    show own_R p.tables e below P (T68.setTop (mkF m 33 #[.val (.ref a1), .val (.int p1), .val (.int p2)] []))
    refine own_fwd (fun tt kt => XS.aloadN X68.here hx rfl (hb hby own_d15_33) rfl rfl kt) ?_
    show own_R p.tables e below P (T68.setTop (mkF m 34 #[.val (.ref a1), .val (.int p1), .val (.int p2)] [(.ref a1)]))
    obtain ⟨T70, X70, e70, st70⟩ := getF X68 hx hZ hown (host := "") (Or.inl (hw _ (List.mem_of_getElem? (i := 109) rfl))) Via.refl e68 F68_ (g := (mkF m 34 #[.val (.ref a1), .val (.int p1), .val (.int p2)] [(.ref a1)])) rfl rfl (hb hby own_d15_34)
    refine own_fwd st70 ?_
    show own_R p.tables e below P (T70.setTop (mkF m 37 #[.val (.ref a1), .val (.int p1), .val (.int p2)] [(.long (q1 + ((p1 - (1 : Int32)).toInt64)))]))
    refine own_fwd (fun tt kt => XS.aloadN X70.here hx rfl (hb hby own_d15_37) rfl rfl kt) ?_
    show own_R p.tables e below P (T70.setTop (mkF m 38 #[.val (.ref a1), .val (.int p1), .val (.int p2)] [(.ref a1), (.long (q1 + ((p1 - (1 : Int32)).toInt64)))]))
    obtain ⟨T71, X71, e71, st71⟩ := getF X70 hx hZ hown (host := "") (Or.inl (hw _ (List.mem_of_getElem? (i := 111) rfl))) Via.refl e70 pF2_x68 (g := (mkF m 38 #[.val (.ref a1), .val (.int p1), .val (.int p2)] [(.ref a1), (.long (q1 + ((p1 - (1 : Int32)).toInt64)))])) rfl rfl (hb hby own_d15_38)
    refine own_fwd st71 ?_
    show own_R p.tables e below P (T71.setTop (mkF m 41 #[.val (.ref a1), .val (.int p1), .val (.int p2)] [(.long q2), (.long (q1 + ((p1 - (1 : Int32)).toInt64)))]))
    refine own_fwd (fun tt kt => X71.ldc2Long hx hown (mvT hZ (hw _ (List.mem_of_getElem? (i := 115) rfl))) (g := (mkF m 41 #[.val (.ref a1), .val (.int p1), .val (.int p2)] [(.long q2), (.long (q1 + ((p1 - (1 : Int32)).toInt64)))])) rfl (hb hby own_d15_41) tt kt) ?_
    show own_R p.tables e below P (T71.setTop (mkF m 44 #[.val (.ref a1), .val (.int p1), .val (.int p2)] [(.long (100 : Int64)), (.long q2), (.long (q1 + ((p1 - (1 : Int32)).toInt64)))]))
    refine own_fwd (fun tt kt => XS.ladd X71.here hx rfl (hb hby own_d15_44) rfl kt) ?_
    show own_R p.tables e below P (T71.setTop (mkF m 45 #[.val (.ref a1), .val (.int p1), .val (.int p2)] [(.long (q2 + (100 : Int64))), (.long (q1 + ((p1 - (1 : Int32)).toInt64)))]))
    refine own_fwd (fun tt kt => XS.lcmp X71.here hx rfl (hb hby own_d15_45) rfl kt) ?_
    show own_R p.tables e below P (T71.setTop (mkF m 46 #[.val (.ref a1), .val (.int p1), .val (.int p2)] [(.int (lcmpW (q1 + ((p1 - (1 : Int32)).toInt64)) (q2 + (100 : Int64))))]))
    by_cases hc72 : (0 : Int32) < (lcmpW (q1 + ((p1 - (1 : Int32)).toInt64)) (q2 + (100 : Int64)))
    · refine own_fwd (fun tt kt => XS.ifYes X71.here hx rfl (pc0 := 46) (pc' := 53) rfl (hb hby own_d15_46) rfl ((if0 _ _).trans (tlt hc72).2.2.1) (by decide) (by decide) kt) ?_
      show own_R p.tables e below P (T71.setTop (mkF m 53 #[.val (.ref a1), .val (.int p1), .val (.int p2)] []))
      refine own_fwd (fun tt kt => XS.iconst X71.here hx rfl (hb hby own_d15_53) kt) ?_
      show own_R p.tables e below P (T71.setTop (mkF m 54 #[.val (.ref a1), .val (.int p1), .val (.int p2)] [(.int (0 : Int32))]))
      obtain ⟨fs73, hr73, hrun73, hended73, hW73, hsame73⟩ := X71.leave (v := some (.int (0 : Int32))) (fun h => by rw [Bd.returns] at h; cases h)
      refine ⟨_, _, X71.ireturnOut hx (w := (0 : Int32)) Bd.returns rfl (by simp) (hb hby own_d15_54) hr73, fin _ _ ⟨hrun73, hended73, _, _, rfl, ?_, ⟨_, rfl⟩, hW73, hsame73.mono (by decide) (by decide)⟩⟩
      show own_Q15 Z a1 p1 p2 q1 q2 q3 h0 n0 _ T71.heap _
      rw [e71]
      have hm := own_mvs q1 p1 b1q1 b2q1 hp
      have hr := rng32 p1
      exact ⟨(0 : Int32), (q1 + ((p1 - (1 : Int32)).toInt64)), q2, q3, rfl, N68, K68, ⟨hm, fun _ => ⟨rfl, rfl⟩, fun q => absurd hc69 q, by have q : (q2 + (100 : Int64)) < (q1 + ((p1 - (1 : Int32)).toInt64)) := (lw_gt _ _).mp hc72; rw [Int64.lt_iff_toInt_lt, own_100 q2 (by omega) (by omega)] at q; exact Or.inr ⟨rfl, q⟩⟩, pE_x68, pF0_x68, F68_, pF2_x68, pF3_x68⟩
    · refine own_fwd (fun tt kt => XS.ifNo X71.here hx rfl (hb hby own_d15_46) rfl ((if0 _ _).trans (flt hc72).2.2.1) kt) ?_
      show own_R p.tables e below P (T71.setTop (mkF m 49 #[.val (.ref a1), .val (.int p1), .val (.int p2)] []))
      refine own_fwd (fun tt kt => XS.iconst X71.here hx rfl (hb hby own_d15_49) kt) ?_
      show own_R p.tables e below P (T71.setTop (mkF m 50 #[.val (.ref a1), .val (.int p1), .val (.int p2)] [(.int (1 : Int32))]))
      refine own_fwd (fun tt kt => XS.goto X71.here hx rfl (pc0 := 50) (pc' := 54) rfl (hb hby own_d15_50) (by decide) (by decide) kt) ?_
      show own_R p.tables e below P (T71.setTop (mkF m 54 #[.val (.ref a1), .val (.int p1), .val (.int p2)] [(.int (1 : Int32))]))
      obtain ⟨fs74, hr74, hrun74, hended74, hW74, hsame74⟩ := X71.leave (v := some (.int (1 : Int32))) (fun h => by rw [Bd.returns] at h; cases h)
      refine ⟨_, _, X71.ireturnOut hx (w := (1 : Int32)) Bd.returns rfl (by simp) (hb hby own_d15_54) hr74, fin _ _ ⟨hrun74, hended74, _, _, rfl, ?_, ⟨_, rfl⟩, hW74, hsame74.mono (by decide) (by decide)⟩⟩
      show own_Q15 Z a1 p1 p2 q1 q2 q3 h0 n0 _ T71.heap _
      rw [e71]
      have hm := own_mvs q1 p1 b1q1 b2q1 hp
      have hr := rng32 p1
      exact ⟨(1 : Int32), (q1 + ((p1 - (1 : Int32)).toInt64)), q2, q3, rfl, N68, K68, ⟨hm, fun _ => ⟨rfl, rfl⟩, fun q => absurd hc69 q, by have q : ¬ (q2 + (100 : Int64)) < (q1 + ((p1 - (1 : Int32)).toInt64)) := (fun z => hc72 ((lw_gt _ _).mpr z)); rw [Int64.lt_iff_toInt_lt, own_100 q2 (by omega) (by omega)] at q; exact Or.inl ⟨rfl, by omega⟩⟩, pE_x68, pF0_x68, F68_, pF2_x68, pF3_x68⟩
  · refine own_fwd (fun tt kt => XS.ifNo X68.here hx rfl (hb hby own_d15_14) rfl ((if0 _ _).trans (feq hc69).1) kt) ?_
    show own_R p.tables e below P (T68.setTop (mkF m 17 #[.val (.ref a1), .val (.int p1), .val (.int p2)] []))
    refine own_fwd (fun tt kt => XS.aloadN X68.here hx rfl (hb hby own_d15_17) rfl rfl kt) ?_
    show own_R p.tables e below P (T68.setTop (mkF m 18 #[.val (.ref a1), .val (.int p1), .val (.int p2)] [(.ref a1)]))
    refine own_fwd (fun tt kt => XS.aloadN X68.here hx rfl (hb hby own_d15_18) rfl rfl kt) ?_
    show own_R p.tables e below P (T68.setTop (mkF m 19 #[.val (.ref a1), .val (.int p1), .val (.int p2)] [(.ref a1), (.ref a1)]))
    obtain ⟨T75, X75, e75, st75⟩ := getF X68 hx hZ hown (host := "") (Or.inl (hw _ (List.mem_of_getElem? (i := 109) rfl))) Via.refl e68 F68_ (g := (mkF m 19 #[.val (.ref a1), .val (.int p1), .val (.int p2)] [(.ref a1), (.ref a1)])) rfl rfl (hb hby own_d15_19)
    refine own_fwd st75 ?_
    show own_R p.tables e below P (T75.setTop (mkF m 22 #[.val (.ref a1), .val (.int p1), .val (.int p2)] [(.long (q1 + ((p1 - (1 : Int32)).toInt64))), (.ref a1)]))
    obtain ⟨T76, h76, X76, e76, W76, st76⟩ := putF X75 hx hZ hown (host := "") (Or.inl (hw _ (List.mem_of_getElem? (i := 111) rfl))) Via.refl e75 pF2_x68 pE_x68 (Or.inl (hw _ (List.mem_of_getElem? (i := 112) rfl))) (hw _ (List.mem_of_getElem? (i := 2) rfl)) (ty := .long) (by decide) rfl rfl (g := (mkF m 22 #[.val (.ref a1), .val (.int p1), .val (.int p2)] [(.long (q1 + ((p1 - (1 : Int32)).toInt64))), (.ref a1)])) rfl rfl (hb hby own_d15_22)
    have F76_ := pF2_x68.same W76
    have pE_x76 := pE_x68.wr W76
    have pF0_x76 := pF0_x68.other W76 (Or.inr (slot_ne (Or.inl (hw _ (List.mem_of_getElem? (i := 103) rfl))) (Or.inl (hw _ (List.mem_of_getElem? (i := 112) rfl))) (by decide) (t := .int) (t' := .long) (by decide) (by decide)))
    have F68__x76 := F68_.other W76 (Or.inr (slot_ne (Or.inl (hw _ (List.mem_of_getElem? (i := 110) rfl))) (Or.inl (hw _ (List.mem_of_getElem? (i := 112) rfl))) (by decide) (t := .long) (t' := .long) (by decide) (by decide)))
    have pF3_x76 := pF3_x68.other W76 (Or.inr (slot_ne (Or.inl (hw _ (List.mem_of_getElem? (i := 114) rfl))) (Or.inl (hw _ (List.mem_of_getElem? (i := 112) rfl))) (by decide) (t := .long) (t' := .long) (by decide) (by decide)))
    have N76 := Fr.snoc X76 N68 pg
    have Z76 : n0 ≤ h76.size := by rw [W76.size]; exact Z68
    have K76 := K68.wr W76 (Or.inl (List.mem_of_getElem? (i := 0) rfl))
    have Y76 : h0.size ≤ h76.size := by rw [W76.size]; exact Y68
    refine own_fwd st76 ?_
    show own_R p.tables e below P (T76.setTop (mkF m 25 #[.val (.ref a1), .val (.int p1), .val (.int p2)] []))
    refine own_fwd (fun tt kt => XS.aloadN X76.here hx rfl (hb hby own_d15_25) rfl rfl kt) ?_
    show own_R p.tables e below P (T76.setTop (mkF m 26 #[.val (.ref a1), .val (.int p1), .val (.int p2)] [(.ref a1)]))
    refine own_fwd (fun tt kt => XS.aloadN X76.here hx rfl (hb hby own_d15_26) rfl rfl kt) ?_
    show own_R p.tables e below P (T76.setTop (mkF m 27 #[.val (.ref a1), .val (.int p1), .val (.int p2)] [(.ref a1), (.ref a1)]))
    obtain ⟨T77, X77, e77, st77⟩ := getF X76 hx hZ hown (host := "") (Or.inl (hw _ (List.mem_of_getElem? (i := 109) rfl))) Via.refl e76 F68__x76 (g := (mkF m 27 #[.val (.ref a1), .val (.int p1), .val (.int p2)] [(.ref a1), (.ref a1)])) rfl rfl (hb hby own_d15_27)
    refine own_fwd st77 ?_
    show own_R p.tables e below P (T77.setTop (mkF m 30 #[.val (.ref a1), .val (.int p1), .val (.int p2)] [(.long (q1 + ((p1 - (1 : Int32)).toInt64))), (.ref a1)]))
    obtain ⟨T78, h78, X78, e78, W78, st78⟩ := putF X77 hx hZ hown (host := "") (Or.inl (hw _ (List.mem_of_getElem? (i := 113) rfl))) Via.refl e77 pF3_x76 pE_x76 (Or.inl (hw _ (List.mem_of_getElem? (i := 114) rfl))) (hw _ (List.mem_of_getElem? (i := 2) rfl)) (ty := .long) (by decide) rfl rfl (g := (mkF m 30 #[.val (.ref a1), .val (.int p1), .val (.int p2)] [(.long (q1 + ((p1 - (1 : Int32)).toInt64))), (.ref a1)])) rfl rfl (hb hby own_d15_30)
    have F78_ := pF3_x76.same W78
    have pE_x78 := pE_x76.wr W78
    have pF0_x78 := pF0_x76.other W78 (Or.inr (slot_ne (Or.inl (hw _ (List.mem_of_getElem? (i := 103) rfl))) (Or.inl (hw _ (List.mem_of_getElem? (i := 114) rfl))) (by decide) (t := .int) (t' := .long) (by decide) (by decide)))
    have F68__x78 := F68__x76.other W78 (Or.inr (slot_ne (Or.inl (hw _ (List.mem_of_getElem? (i := 110) rfl))) (Or.inl (hw _ (List.mem_of_getElem? (i := 114) rfl))) (by decide) (t := .long) (t' := .long) (by decide) (by decide)))
    have F76__x78 := F76_.other W78 (Or.inr (slot_ne (Or.inl (hw _ (List.mem_of_getElem? (i := 112) rfl))) (Or.inl (hw _ (List.mem_of_getElem? (i := 114) rfl))) (by decide) (t := .long) (t' := .long) (by decide) (by decide)))
    have N78 := Fr.snoc X78 N76 pg
    have Z78 : n0 ≤ h78.size := by rw [W78.size]; exact Z76
    have K78 := K76.wr W78 (Or.inl (List.mem_of_getElem? (i := 0) rfl))
    have Y78 : h0.size ≤ h78.size := by rw [W78.size]; exact Y76
    refine own_fwd st78 ?_
    show own_R p.tables e below P (T78.setTop (mkF m 33 #[.val (.ref a1), .val (.int p1), .val (.int p2)] []))
    refine own_fwd (fun tt kt => XS.aloadN X78.here hx rfl (hb hby own_d15_33) rfl rfl kt) ?_
    show own_R p.tables e below P (T78.setTop (mkF m 34 #[.val (.ref a1), .val (.int p1), .val (.int p2)] [(.ref a1)]))
    obtain ⟨T79, X79, e79, st79⟩ := getF X78 hx hZ hown (host := "") (Or.inl (hw _ (List.mem_of_getElem? (i := 109) rfl))) Via.refl e78 F68__x78 (g := (mkF m 34 #[.val (.ref a1), .val (.int p1), .val (.int p2)] [(.ref a1)])) rfl rfl (hb hby own_d15_34)
    refine own_fwd st79 ?_
    show own_R p.tables e below P (T79.setTop (mkF m 37 #[.val (.ref a1), .val (.int p1), .val (.int p2)] [(.long (q1 + ((p1 - (1 : Int32)).toInt64)))]))
    refine own_fwd (fun tt kt => XS.aloadN X79.here hx rfl (hb hby own_d15_37) rfl rfl kt) ?_
    show own_R p.tables e below P (T79.setTop (mkF m 38 #[.val (.ref a1), .val (.int p1), .val (.int p2)] [(.ref a1), (.long (q1 + ((p1 - (1 : Int32)).toInt64)))]))
    obtain ⟨T80, X80, e80, st80⟩ := getF X79 hx hZ hown (host := "") (Or.inl (hw _ (List.mem_of_getElem? (i := 111) rfl))) Via.refl e79 F76__x78 (g := (mkF m 38 #[.val (.ref a1), .val (.int p1), .val (.int p2)] [(.ref a1), (.long (q1 + ((p1 - (1 : Int32)).toInt64)))])) rfl rfl (hb hby own_d15_38)
    refine own_fwd st80 ?_
    show own_R p.tables e below P (T80.setTop (mkF m 41 #[.val (.ref a1), .val (.int p1), .val (.int p2)] [(.long (q1 + ((p1 - (1 : Int32)).toInt64))), (.long (q1 + ((p1 - (1 : Int32)).toInt64)))]))
    refine own_fwd (fun tt kt => X80.ldc2Long hx hown (mvT hZ (hw _ (List.mem_of_getElem? (i := 115) rfl))) (g := (mkF m 41 #[.val (.ref a1), .val (.int p1), .val (.int p2)] [(.long (q1 + ((p1 - (1 : Int32)).toInt64))), (.long (q1 + ((p1 - (1 : Int32)).toInt64)))])) rfl (hb hby own_d15_41) tt kt) ?_
    show own_R p.tables e below P (T80.setTop (mkF m 44 #[.val (.ref a1), .val (.int p1), .val (.int p2)] [(.long (100 : Int64)), (.long (q1 + ((p1 - (1 : Int32)).toInt64))), (.long (q1 + ((p1 - (1 : Int32)).toInt64)))]))
    refine own_fwd (fun tt kt => XS.ladd X80.here hx rfl (hb hby own_d15_44) rfl kt) ?_
    show own_R p.tables e below P (T80.setTop (mkF m 45 #[.val (.ref a1), .val (.int p1), .val (.int p2)] [(.long ((q1 + ((p1 - (1 : Int32)).toInt64)) + (100 : Int64))), (.long (q1 + ((p1 - (1 : Int32)).toInt64)))]))
    refine own_fwd (fun tt kt => XS.lcmp X80.here hx rfl (hb hby own_d15_45) rfl kt) ?_
    show own_R p.tables e below P (T80.setTop (mkF m 46 #[.val (.ref a1), .val (.int p1), .val (.int p2)] [(.int (lcmpW (q1 + ((p1 - (1 : Int32)).toInt64)) ((q1 + ((p1 - (1 : Int32)).toInt64)) + (100 : Int64))))]))
    by_cases hc81 : (0 : Int32) < (lcmpW (q1 + ((p1 - (1 : Int32)).toInt64)) ((q1 + ((p1 - (1 : Int32)).toInt64)) + (100 : Int64)))
    · refine own_fwd (fun tt kt => XS.ifYes X80.here hx rfl (pc0 := 46) (pc' := 53) rfl (hb hby own_d15_46) rfl ((if0 _ _).trans (tlt hc81).2.2.1) (by decide) (by decide) kt) ?_
      show own_R p.tables e below P (T80.setTop (mkF m 53 #[.val (.ref a1), .val (.int p1), .val (.int p2)] []))
      refine own_fwd (fun tt kt => XS.iconst X80.here hx rfl (hb hby own_d15_53) kt) ?_
      show own_R p.tables e below P (T80.setTop (mkF m 54 #[.val (.ref a1), .val (.int p1), .val (.int p2)] [(.int (0 : Int32))]))
      obtain ⟨fs82, hr82, hrun82, hended82, hW82, hsame82⟩ := X80.leave (v := some (.int (0 : Int32))) (fun h => by rw [Bd.returns] at h; cases h)
      refine ⟨_, _, X80.ireturnOut hx (w := (0 : Int32)) Bd.returns rfl (by simp) (hb hby own_d15_54) hr82, fin _ _ ⟨hrun82, hended82, _, _, rfl, ?_, ⟨_, rfl⟩, hW82, hsame82.mono (by decide) (by decide)⟩⟩
      show own_Q15 Z a1 p1 p2 q1 q2 q3 h0 n0 _ T80.heap _
      rw [e80]
      have hm := own_mvs q1 p1 b1q1 b2q1 hp
      have hr := rng32 p1
      exact ⟨(0 : Int32), (q1 + ((p1 - (1 : Int32)).toInt64)), (q1 + ((p1 - (1 : Int32)).toInt64)), (q1 + ((p1 - (1 : Int32)).toInt64)), rfl, N78, K78, ⟨hm, fun q => absurd q hc69, fun _ => ⟨rfl, rfl⟩, by have q : ((q1 + ((p1 - (1 : Int32)).toInt64)) + (100 : Int64)) < (q1 + ((p1 - (1 : Int32)).toInt64)) := (lw_gt _ _).mp hc81; rw [Int64.lt_iff_toInt_lt, own_100 (q1 + ((p1 - (1 : Int32)).toInt64)) (by omega) (by omega)] at q; exact Or.inr ⟨rfl, q⟩⟩, pE_x78, pF0_x78, F68__x78, F76__x78, F78_⟩
    · refine own_fwd (fun tt kt => XS.ifNo X80.here hx rfl (hb hby own_d15_46) rfl ((if0 _ _).trans (flt hc81).2.2.1) kt) ?_
      show own_R p.tables e below P (T80.setTop (mkF m 49 #[.val (.ref a1), .val (.int p1), .val (.int p2)] []))
      refine own_fwd (fun tt kt => XS.iconst X80.here hx rfl (hb hby own_d15_49) kt) ?_
      show own_R p.tables e below P (T80.setTop (mkF m 50 #[.val (.ref a1), .val (.int p1), .val (.int p2)] [(.int (1 : Int32))]))
      refine own_fwd (fun tt kt => XS.goto X80.here hx rfl (pc0 := 50) (pc' := 54) rfl (hb hby own_d15_50) (by decide) (by decide) kt) ?_
      show own_R p.tables e below P (T80.setTop (mkF m 54 #[.val (.ref a1), .val (.int p1), .val (.int p2)] [(.int (1 : Int32))]))
      obtain ⟨fs83, hr83, hrun83, hended83, hW83, hsame83⟩ := X80.leave (v := some (.int (1 : Int32))) (fun h => by rw [Bd.returns] at h; cases h)
      refine ⟨_, _, X80.ireturnOut hx (w := (1 : Int32)) Bd.returns rfl (by simp) (hb hby own_d15_54) hr83, fin _ _ ⟨hrun83, hended83, _, _, rfl, ?_, ⟨_, rfl⟩, hW83, hsame83.mono (by decide) (by decide)⟩⟩
      show own_Q15 Z a1 p1 p2 q1 q2 q3 h0 n0 _ T80.heap _
      rw [e80]
      have hm := own_mvs q1 p1 b1q1 b2q1 hp
      have hr := rng32 p1
      exact ⟨(1 : Int32), (q1 + ((p1 - (1 : Int32)).toInt64)), (q1 + ((p1 - (1 : Int32)).toInt64)), (q1 + ((p1 - (1 : Int32)).toInt64)), rfl, N78, K78, ⟨hm, fun q => absurd q hc69, fun _ => ⟨rfl, rfl⟩, by have q : ¬ ((q1 + ((p1 - (1 : Int32)).toInt64)) + (100 : Int64)) < (q1 + ((p1 - (1 : Int32)).toInt64)) := (fun z => hc81 ((lw_gt _ _).mpr z)); rw [Int64.lt_iff_toInt_lt, own_100 (q1 + ((p1 - (1 : Int32)).toInt64)) (by omega) (by omega)] at q; exact Or.inl ⟨rfl, by omega⟩⟩, pE_x78, pF0_x78, F68__x78, F76__x78, F78_⟩
theorem own_d16_0 : decode prog_3_method_2_code 0 = .ok (.aload_n 0, 1) := by decide +kernel
theorem own_d16_1 : decode prog_3_method_2_code 1 = .ok (.getfield 29, 3) := by decide +kernel
theorem own_d16_4 : decode prog_3_method_2_code 4 = .ok (.lreturn, 1) := by decide +kernel
theorem own_ef16 (m : MethodId) (a1 : Addr) : entryFrame m #[(.ref a1)] 1 = mkF m 0 #[.val (.ref a1)] [] := by first | (simp [entryFrame, mkF, argsToLocals, Value.category]; done) | rfl
def own_Q16 (Z : State) (a1 : Addr) (q1 : Int64) (h0 : Heap) (n0 : Nat) (v : Option Value) (h : Heap) (L : List Loc) : Prop := v = some (.long q1) ∧ Fr n0 L ∧ h = h0
set_option maxRecDepth 65536 in
set_option maxHeartbeats 40000000 in
theorem own_rm16 (l : Launch) (Z : State) (a0 : Array Value) (hw : ∀ d ∈ tables_1, d.before a0 Z = true) (ws : List Jvm.Cond) (a1 : Addr) (q1 : Int64) (h0 : Heap) (n0 : Nat) (Z0 : n0 ≤ h0.size) (pE : Exa Z h0 a1 "com/example/erpctl/erpctl/connectors/yallav/ListPlace") (pF0 : Fld Z h0 a1 "com/example/erpctl/erpctl/connectors/yallav/ListPlace" "skip" "J" (.long q1)) (pg : n0 ≤ a1) :
    MetFree l (⟨"com/example/erpctl/erpctl/connectors/yallav/ListPlace", "skip", "()J"⟩ : MethodName) (head1 (Jvm.Cond.code (⟨"com/example/erpctl/erpctl/connectors/yallav/ListPlace", "skip", "()J"⟩ : MethodName) prog_3_method_2_code 1 (some .long) :: ws) ({ frames := 0, cells := 0, slots := 0, locals := 0 } : Room)) (fun a U => a = #[(.ref a1)] ∧ Z.Warmed39 U.vm ∧ U.heap = h0) (fun _ _ _ _ _ => True) (fun _ U o U' => ∃ v L, o = .returned v ∧ own_Q16 Z a1 q1 h0 n0 v U'.heap L ∧ FrameEnd U o U' L ({ frames := 0, cells := 0, slots := 0, locals := 0 } : Room).cells ({ frames := 0, cells := 0, slots := 0, locals := 0 } : Room).slots) := by
  refine MetFree.of_bodySF (plainFor_of_name own_pn8) hisR ?_
  intro p e s m args below meth c s₁ Bd hml0 hP hK
  obtain ⟨rfl, hZ, hh⟩ := hP
  have hx := Bd.exec
  have hby := Bd.bytes
  have hml : c.maxLocals = 1 := hml0
  have hown : s.vm.findClass "com/example/erpctl/erpctl/connectors/yallav/ListPlace" = some m.cls := findClass_of_methodNamed Bd.named
  have hnm := (name_of_methodNamed Bd.named Bd.method).1
  have X0 : Stand p l e ({ frames := 0, cells := 0, slots := 0, locals := 0 } : Room) s m #[(.ref a1)] below meth c s₁ [] 0 0 := Stand.of_body Bd
  have e0 : s₁.heap = h0 := by rw [← hh, Bd.state]; rfl
  have N0 := Fr.nil n0
  refine own_nm (st := s₁.setTop (entryFrame m #[(.ref a1)] 1)) fun P fin => ?_
  refine own_fwd (fun tt kt => castTop (own_ef16 m a1) kt) ?_
  show own_R p.tables e below P (s₁.setTop (mkF m 0 #[.val (.ref a1)] []))
  have K0 := Keep.refl h0 [a1]
  refine own_fwd (fun tt kt => XS.aloadN X0.here hx rfl (hb hby own_d16_0) rfl rfl kt) ?_
  show own_R p.tables e below P (s₁.setTop (mkF m 1 #[.val (.ref a1)] [(.ref a1)]))
  obtain ⟨T84, X84, e84, st84⟩ := getF X0 hx hZ hown (host := "") (Or.inl (hw _ (List.mem_of_getElem? (i := 109) rfl))) Via.refl e0 pF0 (g := (mkF m 1 #[.val (.ref a1)] [(.ref a1)])) rfl rfl (hb hby own_d16_1)
  refine own_fwd st84 ?_
  show own_R p.tables e below P (T84.setTop (mkF m 4 #[.val (.ref a1)] [(.long q1)]))
  obtain ⟨fs85, hr85, hrun85, hended85, hW85, hsame85⟩ := X84.leave (v := some (.long q1)) (fun h => by rw [Bd.returns] at h; cases h)
  refine ⟨_, _, X84.lreturnOut hx Bd.returns (hb hby own_d16_4) hr85, fin _ _ ⟨hrun85, hended85, _, _, rfl, ?_, ⟨_, rfl⟩, hW85, hsame85.mono (by decide) (by decide)⟩⟩
  show own_Q16 Z a1 q1 h0 n0 _ T84.heap _
  rw [e84]
  exact ⟨rfl, N0, rfl⟩
theorem own_d18_0 : decode jdk_29_method_66_code 0 = .ok (.lload_n 0, 1) := by decide +kernel
theorem own_d18_1 : decode jdk_29_method_66_code 1 = .ok (.lload_n 2, 1) := by decide +kernel
theorem own_d18_2 : decode jdk_29_method_66_code 2 = .ok (.lcmp, 1) := by decide +kernel
theorem own_d18_3 : decode jdk_29_method_66_code 3 = .ok (.ifCond .lt 7, 3) := by decide +kernel
theorem own_d18_6 : decode jdk_29_method_66_code 6 = .ok (.lload_n 0, 1) := by decide +kernel
theorem own_d18_7 : decode jdk_29_method_66_code 7 = .ok (.goto 4, 3) := by decide +kernel
theorem own_d18_10 : decode jdk_29_method_66_code 10 = .ok (.lload_n 2, 1) := by decide +kernel
theorem own_d18_11 : decode jdk_29_method_66_code 11 = .ok (.lreturn, 1) := by decide +kernel
theorem own_ef18 (m : MethodId) (q1 : Int64) (q2 : Int64) : entryFrame m #[(.long q1), (.long q2)] 4 = mkF m 0 #[.val (.long q1), .second, .val (.long q2), .second] [] := by first | (simp [entryFrame, mkF, argsToLocals, Value.category]; done) | rfl
def own_Q18 (Z : State) (q1 q2 : Int64) (h0 : Heap) (n0 : Nat) (v : Option Value) (h : Heap) (L : List Loc) : Prop := v = some (.long (if q1 < q2 then q2 else q1)) ∧ Fr n0 L ∧ h = h0
set_option maxRecDepth 65536 in
set_option maxHeartbeats 40000000 in
theorem own_rm18 (l : Launch) (Z : State) (a0 : Array Value) (hw : ∀ d ∈ tables_1, d.before a0 Z = true) (ws : List Jvm.Cond) (q1 q2 : Int64) (h0 : Heap) (n0 : Nat) (Z0 : n0 ≤ h0.size) :
    MetFree l (⟨"java/lang/Math", "max", "(JJ)J"⟩ : MethodName) (head1 (Jvm.Cond.code (⟨"java/lang/Math", "max", "(JJ)J"⟩ : MethodName) jdk_29_method_66_code 4 (some .long) :: ws) ({ frames := 0, cells := 0, slots := 0, locals := 0 } : Room)) (fun a U => a = #[(.long q1), (.long q2)] ∧ Z.Warmed39 U.vm ∧ U.heap = h0) (fun _ _ _ _ _ => True) (fun _ U o U' => ∃ v L, o = .returned v ∧ own_Q18 Z q1 q2 h0 n0 v U'.heap L ∧ FrameEnd U o U' L ({ frames := 0, cells := 0, slots := 0, locals := 0 } : Room).cells ({ frames := 0, cells := 0, slots := 0, locals := 0 } : Room).slots) := by
  refine MetFree.of_bodySF (Jvm.Free.JP.mathPlain rfl (by decide +kernel)) hisR ?_
  intro p e s m args below meth c s₁ Bd hml0 hP hK
  obtain ⟨rfl, hZ, hh⟩ := hP
  have hx := Bd.exec
  have hby := Bd.bytes
  have hml : c.maxLocals = 4 := hml0
  have hown : s.vm.findClass "java/lang/Math" = some m.cls := findClass_of_methodNamed Bd.named
  have hnm := (name_of_methodNamed Bd.named Bd.method).1
  have X0 : Stand p l e ({ frames := 0, cells := 0, slots := 0, locals := 0 } : Room) s m #[(.long q1), (.long q2)] below meth c s₁ [] 0 0 := Stand.of_body Bd
  have e0 : s₁.heap = h0 := by rw [← hh, Bd.state]; rfl
  have N0 := Fr.nil n0
  refine own_nm (st := s₁.setTop (entryFrame m #[(.long q1), (.long q2)] 4)) fun P fin => ?_
  refine own_fwd (fun tt kt => castTop (own_ef18 m q1 q2) kt) ?_
  show own_R p.tables e below P (s₁.setTop (mkF m 0 #[.val (.long q1), .second, .val (.long q2), .second] []))
  refine own_fwd (fun tt kt => XS.lloadN X0.here hx rfl (hb hby own_d18_0) rfl kt) ?_
  show own_R p.tables e below P (s₁.setTop (mkF m 1 #[.val (.long q1), .second, .val (.long q2), .second] [(.long q1)]))
  refine own_fwd (fun tt kt => XS.lloadN X0.here hx rfl (hb hby own_d18_1) rfl kt) ?_
  show own_R p.tables e below P (s₁.setTop (mkF m 2 #[.val (.long q1), .second, .val (.long q2), .second] [(.long q2), (.long q1)]))
  refine own_fwd (fun tt kt => XS.lcmp X0.here hx rfl (hb hby own_d18_2) rfl kt) ?_
  show own_R p.tables e below P (s₁.setTop (mkF m 3 #[.val (.long q1), .second, .val (.long q2), .second] [(.int (lcmpW q1 q2))]))
  by_cases hc86 : (lcmpW q1 q2) < (0 : Int32)
  · refine own_fwd (fun tt kt => XS.ifYes X0.here hx rfl (pc0 := 3) (pc' := 10) rfl (hb hby own_d18_3) rfl ((if0 _ _).trans (tlt hc86).1) (by decide) (by decide) kt) ?_
    show own_R p.tables e below P (s₁.setTop (mkF m 10 #[.val (.long q1), .second, .val (.long q2), .second] []))
    refine own_fwd (fun tt kt => XS.lloadN X0.here hx rfl (hb hby own_d18_10) rfl kt) ?_
    show own_R p.tables e below P (s₁.setTop (mkF m 11 #[.val (.long q1), .second, .val (.long q2), .second] [(.long q2)]))
    obtain ⟨fs87, hr87, hrun87, hended87, hW87, hsame87⟩ := X0.leave (v := some (.long q2)) (fun h => by rw [Bd.returns] at h; cases h)
    refine ⟨_, _, X0.lreturnOut hx Bd.returns (hb hby own_d18_11) hr87, fin _ _ ⟨hrun87, hended87, _, _, rfl, ?_, ⟨_, rfl⟩, hW87, hsame87.mono (by decide) (by decide)⟩⟩
    show own_Q18 Z q1 q2 h0 n0 _ s₁.heap _
    rw [e0]
    exact ⟨by rw [if_pos ((lw_lt _ _).mp hc86)], N0, rfl⟩
  · refine own_fwd (fun tt kt => XS.ifNo X0.here hx rfl (hb hby own_d18_3) rfl ((if0 _ _).trans (flt hc86).1) kt) ?_
    show own_R p.tables e below P (s₁.setTop (mkF m 6 #[.val (.long q1), .second, .val (.long q2), .second] []))
    refine own_fwd (fun tt kt => XS.lloadN X0.here hx rfl (hb hby own_d18_6) rfl kt) ?_
    show own_R p.tables e below P (s₁.setTop (mkF m 7 #[.val (.long q1), .second, .val (.long q2), .second] [(.long q1)]))
    refine own_fwd (fun tt kt => XS.goto X0.here hx rfl (pc0 := 7) (pc' := 11) rfl (hb hby own_d18_7) (by decide) (by decide) kt) ?_
    show own_R p.tables e below P (s₁.setTop (mkF m 11 #[.val (.long q1), .second, .val (.long q2), .second] [(.long q1)]))
    obtain ⟨fs88, hr88, hrun88, hended88, hW88, hsame88⟩ := X0.leave (v := some (.long q1)) (fun h => by rw [Bd.returns] at h; cases h)
    refine ⟨_, _, X0.lreturnOut hx Bd.returns (hb hby own_d18_11) hr88, fin _ _ ⟨hrun88, hended88, _, _, rfl, ?_, ⟨_, rfl⟩, hW88, hsame88.mono (by decide) (by decide)⟩⟩
    show own_Q18 Z q1 q2 h0 n0 _ s₁.heap _
    rw [e0]
    exact ⟨by rw [if_neg (fun q => hc86 ((lw_lt _ _).mpr q))], N0, rfl⟩
theorem own_d17_0 : decode prog_3_method_7_code 0 = .ok (.aload_n 0, 1) := by decide +kernel
theorem own_d17_1 : decode prog_3_method_7_code 1 = .ok (.getfield 97, 3) := by decide +kernel
theorem own_d17_4 : decode prog_3_method_7_code 4 = .ok (.lconst 0, 1) := by decide +kernel
theorem own_d17_5 : decode prog_3_method_7_code 5 = .ok (.aload_n 0, 1) := by decide +kernel
theorem own_d17_6 : decode prog_3_method_7_code 6 = .ok (.getfield 94, 3) := by decide +kernel
theorem own_d17_9 : decode prog_3_method_7_code 9 = .ok (.ldc2_w 100, 3) := by decide +kernel
theorem own_d17_12 : decode prog_3_method_7_code 12 = .ok (.lsub, 1) := by decide +kernel
theorem own_d17_13 : decode prog_3_method_7_code 13 = .ok (.invokestatic 102, 3) := by decide +kernel
theorem own_d17_16 : decode prog_3_method_7_code 16 = .ok (.lcmp, 1) := by decide +kernel
theorem own_d17_17 : decode prog_3_method_7_code 17 = .ok (.ifCond .le 7, 3) := by decide +kernel
theorem own_d17_20 : decode prog_3_method_7_code 20 = .ok (.iconst 1, 1) := by decide +kernel
theorem own_d17_21 : decode prog_3_method_7_code 21 = .ok (.goto 4, 3) := by decide +kernel
theorem own_d17_24 : decode prog_3_method_7_code 24 = .ok (.iconst 0, 1) := by decide +kernel
theorem own_d17_25 : decode prog_3_method_7_code 25 = .ok (.istore_n 1, 1) := by decide +kernel
theorem own_d17_26 : decode prog_3_method_7_code 26 = .ok (.iload_n 1, 1) := by decide +kernel
theorem own_d17_27 : decode prog_3_method_7_code 27 = .ok (.ifCond .eq 31, 3) := by decide +kernel
theorem own_d17_30 : decode prog_3_method_7_code 30 = .ok (.aload_n 0, 1) := by decide +kernel
theorem own_d17_31 : decode prog_3_method_7_code 31 = .ok (.lconst 0, 1) := by decide +kernel
theorem own_d17_32 : decode prog_3_method_7_code 32 = .ok (.aload_n 0, 1) := by decide +kernel
theorem own_d17_33 : decode prog_3_method_7_code 33 = .ok (.getfield 97, 3) := by decide +kernel
theorem own_d17_36 : decode prog_3_method_7_code 36 = .ok (.aload_n 0, 1) := by decide +kernel
theorem own_d17_37 : decode prog_3_method_7_code 37 = .ok (.getfield 25, 3) := by decide +kernel
theorem own_d17_40 : decode prog_3_method_7_code 40 = .ok (.iconst 1, 1) := by decide +kernel
theorem own_d17_41 : decode prog_3_method_7_code 41 = .ok (.isub, 1) := by decide +kernel
theorem own_d17_42 : decode prog_3_method_7_code 42 = .ok (.i2l, 1) := by decide +kernel
theorem own_d17_43 : decode prog_3_method_7_code 43 = .ok (.lsub, 1) := by decide +kernel
theorem own_d17_44 : decode prog_3_method_7_code 44 = .ok (.invokestatic 102, 3) := by decide +kernel
theorem own_d17_47 : decode prog_3_method_7_code 47 = .ok (.putfield 97, 3) := by decide +kernel
theorem own_d17_50 : decode prog_3_method_7_code 50 = .ok (.aload_n 0, 1) := by decide +kernel
theorem own_d17_51 : decode prog_3_method_7_code 51 = .ok (.aload_n 0, 1) := by decide +kernel
theorem own_d17_52 : decode prog_3_method_7_code 52 = .ok (.getfield 97, 3) := by decide +kernel
theorem own_d17_55 : decode prog_3_method_7_code 55 = .ok (.putfield 29, 3) := by decide +kernel
theorem own_d17_58 : decode prog_3_method_7_code 58 = .ok (.iload_n 1, 1) := by decide +kernel
theorem own_d17_59 : decode prog_3_method_7_code 59 = .ok (.ireturn, 1) := by decide +kernel
theorem own_pd5 : parseMethodDescriptor "(JJ)J" = some ⟨[.long, .long], some .long⟩ := by decide +kernel
theorem own_ef17 (m : MethodId) (a1 : Addr) : entryFrame m #[(.ref a1)] 2 = mkF m 0 #[.val (.ref a1), .unset] [] := by first | (simp [entryFrame, mkF, argsToLocals, Value.category]; done) | rfl
def own_Q17 (Z : State) (a1 : Addr) (q1 q2 q3 : Int64) (h0 : Heap) (n0 : Nat) (v : Option Value) (h : Heap) (L : List Loc) : Prop := ∃ (z : Int32) (s' : Int64), v = some (.int z) ∧ Fr n0 L ∧ Keep h0 h [a1] ∧ ((z = 1 ∧ (if (0 : Int64) < (q2 - (100 : Int64)) then (q2 - (100 : Int64)) else (0 : Int64)) < q3 ∧ s' = (if (0 : Int64) < (q3 - ((2 : Int32) - (1 : Int32)).toInt64) then (q3 - ((2 : Int32) - (1 : Int32)).toInt64) else (0 : Int64))) ∨ (z = 0 ∧ ¬ (if (0 : Int64) < (q2 - (100 : Int64)) then (q2 - (100 : Int64)) else (0 : Int64)) < q3 ∧ s' = q1)) ∧ Fld Z h a1 "com/example/erpctl/erpctl/connectors/yallav/ListPlace" "skip" "J" (.long s') ∧ Exa Z h a1 "com/example/erpctl/erpctl/connectors/yallav/ListPlace"
set_option maxRecDepth 65536 in
set_option maxHeartbeats 40000000 in
theorem own_rm17 (l : Launch) (Z : State) (a0 : Array Value) (hw : ∀ d ∈ tables_1, d.before a0 Z = true) (ws : List Jvm.Cond) (a1 : Addr) (q1 q2 q3 : Int64) (h0 : Heap) (n0 : Nat) (Z0 : n0 ≤ h0.size) (pE : Exa Z h0 a1 "com/example/erpctl/erpctl/connectors/yallav/ListPlace") (pF0 : Fld Z h0 a1 "com/example/erpctl/erpctl/connectors/yallav/ListPlace" "span" "I" (.int (2 : Int32))) (pF1 : Fld Z h0 a1 "com/example/erpctl/erpctl/connectors/yallav/ListPlace" "skip" "J" (.long q1)) (pF2 : Fld Z h0 a1 "com/example/erpctl/erpctl/connectors/yallav/ListPlace" "reached" "J" (.long q2)) (pF3 : Fld Z h0 a1 "com/example/erpctl/erpctl/connectors/yallav/ListPlace" "lowest" "J" (.long q3)) (pg : n0 ≤ a1) (b1q2 : -10000000000 ≤ q2.toInt) (b2q2 : q2.toInt ≤ 10000000000) (b1q3 : -10000000000 ≤ q3.toInt) (b2q3 : q3.toInt ≤ 10000000000) :
    MetFree l (⟨"com/example/erpctl/erpctl/connectors/yallav/ListPlace", "lookFurtherBack", "()Z"⟩ : MethodName) (head1 (Jvm.Cond.code (⟨"com/example/erpctl/erpctl/connectors/yallav/ListPlace", "lookFurtherBack", "()Z"⟩ : MethodName) prog_3_method_7_code 2 (some .boolean) :: ws) ({ frames := 1, cells := 0, slots := 0, locals := 17 } : Room)) (fun a U => a = #[(.ref a1)] ∧ Z.Warmed39 U.vm ∧ U.heap = h0) (fun _ _ _ _ _ => True) (fun _ U o U' => ∃ v L, o = .returned v ∧ own_Q17 Z a1 q1 q2 q3 h0 n0 v U'.heap L ∧ FrameEnd U o U' L ({ frames := 1, cells := 0, slots := 0, locals := 17 } : Room).cells ({ frames := 1, cells := 0, slots := 0, locals := 17 } : Room).slots) := by
  refine MetFree.of_bodySF (plainFor_of_name own_pn8) hisR ?_
  intro p e s m args below meth c s₁ Bd hml0 hP hK
  obtain ⟨rfl, hZ, hh⟩ := hP
  have hx := Bd.exec
  have hby := Bd.bytes
  have hml : c.maxLocals = 2 := hml0
  have hown : s.vm.findClass "com/example/erpctl/erpctl/connectors/yallav/ListPlace" = some m.cls := findClass_of_methodNamed Bd.named
  have hnm := (name_of_methodNamed Bd.named Bd.method).1
  have X0 : Stand p l e ({ frames := 1, cells := 0, slots := 0, locals := 17 } : Room) s m #[(.ref a1)] below meth c s₁ [] 0 0 := Stand.of_body Bd
  have e0 : s₁.heap = h0 := by rw [← hh, Bd.state]; rfl
  have N0 := Fr.nil n0
  refine own_nm (st := s₁.setTop (entryFrame m #[(.ref a1)] 2)) fun P fin => ?_
  refine own_fwd (fun tt kt => castTop (own_ef17 m a1) kt) ?_
  show own_R p.tables e below P (s₁.setTop (mkF m 0 #[.val (.ref a1), .unset] []))
  have K0 := Keep.refl h0 [a1]
  refine own_fwd (fun tt kt => XS.aloadN X0.here hx rfl (hb hby own_d17_0) rfl rfl kt) ?_
  show own_R p.tables e below P (s₁.setTop (mkF m 1 #[.val (.ref a1), .unset] [(.ref a1)]))
  obtain ⟨T89, X89, e89, st89⟩ := getF X0 hx hZ hown (host := "") (Or.inl (hw _ (List.mem_of_getElem? (i := 113) rfl))) Via.refl e0 pF3 (g := (mkF m 1 #[.val (.ref a1), .unset] [(.ref a1)])) rfl rfl (hb hby own_d17_1)
  refine own_fwd st89 ?_
  show own_R p.tables e below P (T89.setTop (mkF m 4 #[.val (.ref a1), .unset] [(.long q3)]))
  refine own_fwd (fun tt kt => XS.lconst X89.here hx rfl (hb hby own_d17_4) kt) ?_
  show own_R p.tables e below P (T89.setTop (mkF m 5 #[.val (.ref a1), .unset] [(.long (0 : Int64)), (.long q3)]))
  refine own_fwd (fun tt kt => XS.aloadN X89.here hx rfl (hb hby own_d17_5) rfl rfl kt) ?_
  show own_R p.tables e below P (T89.setTop (mkF m 6 #[.val (.ref a1), .unset] [(.ref a1), (.long (0 : Int64)), (.long q3)]))
  obtain ⟨T90, X90, e90, st90⟩ := getF X89 hx hZ hown (host := "") (Or.inl (hw _ (List.mem_of_getElem? (i := 111) rfl))) Via.refl e89 pF2 (g := (mkF m 6 #[.val (.ref a1), .unset] [(.ref a1), (.long (0 : Int64)), (.long q3)])) rfl rfl (hb hby own_d17_6)
  refine own_fwd st90 ?_
  show own_R p.tables e below P (T90.setTop (mkF m 9 #[.val (.ref a1), .unset] [(.long q2), (.long (0 : Int64)), (.long q3)]))
  refine own_fwd (fun tt kt => X90.ldc2Long hx hown (mvT hZ (hw _ (List.mem_of_getElem? (i := 115) rfl))) (g := (mkF m 9 #[.val (.ref a1), .unset] [(.long q2), (.long (0 : Int64)), (.long q3)])) rfl (hb hby own_d17_9) tt kt) ?_
  show own_R p.tables e below P (T90.setTop (mkF m 12 #[.val (.ref a1), .unset] [(.long (100 : Int64)), (.long q2), (.long (0 : Int64)), (.long q3)]))
  refine own_fwd (fun tt kt => XS.lsub X90.here hx rfl (hb hby own_d17_12) rfl kt) ?_
  show own_R p.tables e below P (T90.setTop (mkF m 13 #[.val (.ref a1), .unset] [(.long (q2 - (100 : Int64))), (.long (0 : Int64)), (.long q3)]))
  obtain ⟨_, _, ⟨T91, L91, k91, n91⟩, -, X91, ⟨Lc91, hQ91, l91, y91, z91⟩, st91⟩ := Jvm.LawKit.callS X90 hx (y := (⟨"java/lang/Math", "max", "(JJ)J"⟩ : MethodName)) hown (mvT hZ (hw _ (List.mem_of_getElem? (i := 126) rfl))) (mvT hZ (hw _ (List.mem_of_getElem? (i := 127) rfl))) (mvT hZ (hw _ (List.mem_of_getElem? (i := 128) rfl))) (mvT hZ (hw _ (List.mem_of_getElem? (i := 129) rfl))) (by decide) (backOf (W := 2) (own_rm18 l Z a0 hw [] (0 : Int64) (q2 - (100 : Int64)) h0 n0 Z0 ) hZ (hw _ (List.mem_of_getElem? (i := 129) rfl)) (hw _ (List.mem_of_getElem? (i := 128) rfl)) (by decide) (by decide)) (g := (mkF m 13 #[.val (.ref a1), .unset] [(.long (q2 - (100 : Int64))), (.long (0 : Int64)), (.long q3)])) rfl (by rw [hml]; rfl) (argsL := [(.long (0 : Int64)), (.long (q2 - (100 : Int64)))]) (rest := [(.long q3)]) (lenOf own_pd5 rfl) rfl (by show 2 * 0 + _ ≤ _; exact Nat.le_of_eq rfl) (hb hby own_d17_13) (fun _ _ => ⟨rfl, e90, (by decide : 0 + 0 ≤ _), (by decide : 0 + 0 ≤ _)⟩)
  dsimp only [Pt.U, Pt.locs, Pt.cells, Pt.slots] at X91 l91 y91 z91 st91 hQ91
  subst l91 y91 z91
  obtain ⟨h91, e91⟩ : ∃ z, T91.heap = z := ⟨_, rfl⟩
  rw [e91] at hQ91
  obtain ⟨hq91, N91q, q91⟩ := hQ91
  rw [q91] at e91
  subst hq91
  have N91 := Fr.app N0 N91q
  refine own_fwd st91 ?_
  show own_R p.tables e below P (T91.setTop (mkF m 16 #[.val (.ref a1), .unset] [(.long (if (0 : Int64) < (q2 - (100 : Int64)) then (q2 - (100 : Int64)) else (0 : Int64))), (.long q3)]))
  refine own_fwd (fun tt kt => XS.lcmp X91.here hx rfl (hb hby own_d17_16) rfl kt) ?_
  show own_R p.tables e below P (T91.setTop (mkF m 17 #[.val (.ref a1), .unset] [(.int (lcmpW q3 (if (0 : Int64) < (q2 - (100 : Int64)) then (q2 - (100 : Int64)) else (0 : Int64))))]))
  by_cases hc92 : (0 : Int32) < (lcmpW q3 (if (0 : Int64) < (q2 - (100 : Int64)) then (q2 - (100 : Int64)) else (0 : Int64)))
  · refine own_fwd (fun tt kt => XS.ifNo X91.here hx rfl (hb hby own_d17_17) rfl ((if0 _ _).trans (tlt hc92).2.2.2) kt) ?_
    show own_R p.tables e below P (T91.setTop (mkF m 20 #[.val (.ref a1), .unset] []))
    refine own_fwd (fun tt kt => XS.iconst X91.here hx rfl (hb hby own_d17_20) kt) ?_
    show own_R p.tables e below P (T91.setTop (mkF m 21 #[.val (.ref a1), .unset] [(.int (1 : Int32))]))
    refine own_fwd (fun tt kt => XS.goto X91.here hx rfl (pc0 := 21) (pc' := 25) rfl (hb hby own_d17_21) (by decide) (by decide) kt) ?_
    show own_R p.tables e below P (T91.setTop (mkF m 25 #[.val (.ref a1), .unset] [(.int (1 : Int32))]))
    refine own_fwd (fun tt kt => XS.istoreN X91.here hx rfl (hb hby own_d17_25) rfl (l' := #[.val (.ref a1), .val (.int (1 : Int32))]) rfl kt) ?_
    show own_R p.tables e below P (T91.setTop (mkF m 26 #[.val (.ref a1), .val (.int (1 : Int32))] []))
    refine own_fwd (fun tt kt => XS.iloadN X91.here hx rfl (hb hby own_d17_26) rfl kt) ?_
    show own_R p.tables e below P (T91.setTop (mkF m 27 #[.val (.ref a1), .val (.int (1 : Int32))] [(.int (1 : Int32))]))
    have hc93 : ¬ ((1 : Int32) = (0 : Int32)) := (by decide)
    refine own_fwd (fun tt kt => XS.ifNo X91.here hx rfl (hb hby own_d17_27) rfl ((if0 _ _).trans (feq hc93).1) kt) ?_
    show own_R p.tables e below P (T91.setTop (mkF m 30 #[.val (.ref a1), .val (.int (1 : Int32))] []))
    refine own_fwd (fun tt kt => XS.aloadN X91.here hx rfl (hb hby own_d17_30) rfl rfl kt) ?_
    show own_R p.tables e below P (T91.setTop (mkF m 31 #[.val (.ref a1), .val (.int (1 : Int32))] [(.ref a1)]))
    refine own_fwd (fun tt kt => XS.lconst X91.here hx rfl (hb hby own_d17_31) kt) ?_
    show own_R p.tables e below P (T91.setTop (mkF m 32 #[.val (.ref a1), .val (.int (1 : Int32))] [(.long (0 : Int64)), (.ref a1)]))
    refine own_fwd (fun tt kt => XS.aloadN X91.here hx rfl (hb hby own_d17_32) rfl rfl kt) ?_
    show own_R p.tables e below P (T91.setTop (mkF m 33 #[.val (.ref a1), .val (.int (1 : Int32))] [(.ref a1), (.long (0 : Int64)), (.ref a1)]))
    obtain ⟨T94, X94, e94, st94⟩ := getF X91 hx hZ hown (host := "") (Or.inl (hw _ (List.mem_of_getElem? (i := 113) rfl))) Via.refl e91 pF3 (g := (mkF m 33 #[.val (.ref a1), .val (.int (1 : Int32))] [(.ref a1), (.long (0 : Int64)), (.ref a1)])) rfl rfl (hb hby own_d17_33)
    refine own_fwd st94 ?_
    show own_R p.tables e below P (T94.setTop (mkF m 36 #[.val (.ref a1), .val (.int (1 : Int32))] [(.long q3), (.long (0 : Int64)), (.ref a1)]))
    refine own_fwd (fun tt kt => XS.aloadN X94.here hx rfl (hb hby own_d17_36) rfl rfl kt) ?_
    show own_R p.tables e below P (T94.setTop (mkF m 37 #[.val (.ref a1), .val (.int (1 : Int32))] [(.ref a1), (.long q3), (.long (0 : Int64)), (.ref a1)]))
    obtain ⟨T95, X95, e95, st95⟩ := getF X94 hx hZ hown (host := "") (Or.inl (hw _ (List.mem_of_getElem? (i := 102) rfl))) Via.refl e94 pF0 (g := (mkF m 37 #[.val (.ref a1), .val (.int (1 : Int32))] [(.ref a1), (.long q3), (.long (0 : Int64)), (.ref a1)])) rfl rfl (hb hby own_d17_37)
    refine own_fwd st95 ?_
    show own_R p.tables e below P (T95.setTop (mkF m 40 #[.val (.ref a1), .val (.int (1 : Int32))] [(.int (2 : Int32)), (.long q3), (.long (0 : Int64)), (.ref a1)]))
    refine own_fwd (fun tt kt => XS.iconst X95.here hx rfl (hb hby own_d17_40) kt) ?_
    show own_R p.tables e below P (T95.setTop (mkF m 41 #[.val (.ref a1), .val (.int (1 : Int32))] [(.int (1 : Int32)), (.int (2 : Int32)), (.long q3), (.long (0 : Int64)), (.ref a1)]))
    refine own_fwd (fun tt kt => XS.isub X95.here hx rfl (hb hby own_d17_41) rfl kt) ?_
    show own_R p.tables e below P (T95.setTop (mkF m 42 #[.val (.ref a1), .val (.int (1 : Int32))] [(.int ((2 : Int32) - (1 : Int32))), (.long q3), (.long (0 : Int64)), (.ref a1)]))
    refine own_fwd (fun tt kt => XS.i2l X95.here hx rfl (hb hby own_d17_42) rfl kt) ?_
    show own_R p.tables e below P (T95.setTop (mkF m 43 #[.val (.ref a1), .val (.int (1 : Int32))] [(.long (((2 : Int32) - (1 : Int32)).toInt64)), (.long q3), (.long (0 : Int64)), (.ref a1)]))
    refine own_fwd (fun tt kt => XS.lsub X95.here hx rfl (hb hby own_d17_43) rfl kt) ?_
    show own_R p.tables e below P (T95.setTop (mkF m 44 #[.val (.ref a1), .val (.int (1 : Int32))] [(.long (q3 - (((2 : Int32) - (1 : Int32)).toInt64))), (.long (0 : Int64)), (.ref a1)]))
    obtain ⟨_, _, ⟨T96, L96, k96, n96⟩, -, X96, ⟨Lc96, hQ96, l96, y96, z96⟩, st96⟩ := Jvm.LawKit.callS X95 hx (y := (⟨"java/lang/Math", "max", "(JJ)J"⟩ : MethodName)) hown (mvT hZ (hw _ (List.mem_of_getElem? (i := 126) rfl))) (mvT hZ (hw _ (List.mem_of_getElem? (i := 127) rfl))) (mvT hZ (hw _ (List.mem_of_getElem? (i := 128) rfl))) (mvT hZ (hw _ (List.mem_of_getElem? (i := 129) rfl))) (by decide) (backOf (W := 1) (own_rm18 l Z a0 hw [] (0 : Int64) (q3 - (((2 : Int32) - (1 : Int32)).toInt64)) h0 n0 Z0 ) hZ (hw _ (List.mem_of_getElem? (i := 129) rfl)) (hw _ (List.mem_of_getElem? (i := 128) rfl)) (by decide) (by decide)) (g := (mkF m 44 #[.val (.ref a1), .val (.int (1 : Int32))] [(.long (q3 - (((2 : Int32) - (1 : Int32)).toInt64))), (.long (0 : Int64)), (.ref a1)])) rfl (by rw [hml]; rfl) (argsL := [(.long (0 : Int64)), (.long (q3 - (((2 : Int32) - (1 : Int32)).toInt64)))]) (rest := [(.ref a1)]) (lenOf own_pd5 rfl) rfl (by show 2 * 0 + _ ≤ _; exact Nat.le_of_eq rfl) (hb hby own_d17_44) (fun _ _ => ⟨rfl, e95, (by decide : 0 + 0 ≤ _), (by decide : 0 + 0 ≤ _)⟩)
    dsimp only [Pt.U, Pt.locs, Pt.cells, Pt.slots] at X96 l96 y96 z96 st96 hQ96
    subst l96 y96 z96
    obtain ⟨h96, e96⟩ : ∃ z, T96.heap = z := ⟨_, rfl⟩
    rw [e96] at hQ96
    obtain ⟨hq96, N96q, q96⟩ := hQ96
    rw [q96] at e96
    subst hq96
    have N96 := Fr.app N91 N96q
    refine own_fwd st96 ?_
    show own_R p.tables e below P (T96.setTop (mkF m 47 #[.val (.ref a1), .val (.int (1 : Int32))] [(.long (if (0 : Int64) < (q3 - (((2 : Int32) - (1 : Int32)).toInt64)) then (q3 - (((2 : Int32) - (1 : Int32)).toInt64)) else (0 : Int64))), (.ref a1)]))
    obtain ⟨T97, h97, X97, e97, W97, st97⟩ := putF X96 hx hZ hown (host := "") (Or.inl (hw _ (List.mem_of_getElem? (i := 113) rfl))) Via.refl e96 pF3 pE (Or.inl (hw _ (List.mem_of_getElem? (i := 114) rfl))) (hw _ (List.mem_of_getElem? (i := 2) rfl)) (ty := .long) (by decide) rfl rfl (g := (mkF m 47 #[.val (.ref a1), .val (.int (1 : Int32))] [(.long (if (0 : Int64) < (q3 - (((2 : Int32) - (1 : Int32)).toInt64)) then (q3 - (((2 : Int32) - (1 : Int32)).toInt64)) else (0 : Int64))), (.ref a1)])) rfl rfl (hb hby own_d17_47)
    have F97_ := pF3.same W97
    have pE_x97 := pE.wr W97
    have pF0_x97 := pF0.other W97 (Or.inr (slot_ne (Or.inl (hw _ (List.mem_of_getElem? (i := 103) rfl))) (Or.inl (hw _ (List.mem_of_getElem? (i := 114) rfl))) (by decide) (t := .int) (t' := .long) (by decide) (by decide)))
    have pF1_x97 := pF1.other W97 (Or.inr (slot_ne (Or.inl (hw _ (List.mem_of_getElem? (i := 110) rfl))) (Or.inl (hw _ (List.mem_of_getElem? (i := 114) rfl))) (by decide) (t := .long) (t' := .long) (by decide) (by decide)))
    have pF2_x97 := pF2.other W97 (Or.inr (slot_ne (Or.inl (hw _ (List.mem_of_getElem? (i := 112) rfl))) (Or.inl (hw _ (List.mem_of_getElem? (i := 114) rfl))) (by decide) (t := .long) (t' := .long) (by decide) (by decide)))
    have N97 := Fr.snoc X97 N96 pg
    have Z97 : n0 ≤ h97.size := by rw [W97.size]; exact Z0
    have K97 := K0.wr W97 (Or.inl (List.mem_of_getElem? (i := 0) rfl))
    have Y97 : h0.size ≤ h97.size := by rw [W97.size]; exact (Nat.le_refl h0.size)
    refine own_fwd st97 ?_
    show own_R p.tables e below P (T97.setTop (mkF m 50 #[.val (.ref a1), .val (.int (1 : Int32))] []))
    refine own_fwd (fun tt kt => XS.aloadN X97.here hx rfl (hb hby own_d17_50) rfl rfl kt) ?_
    show own_R p.tables e below P (T97.setTop (mkF m 51 #[.val (.ref a1), .val (.int (1 : Int32))] [(.ref a1)]))
    refine own_fwd (fun tt kt => XS.aloadN X97.here hx rfl (hb hby own_d17_51) rfl rfl kt) ?_
    show own_R p.tables e below P (T97.setTop (mkF m 52 #[.val (.ref a1), .val (.int (1 : Int32))] [(.ref a1), (.ref a1)]))
    obtain ⟨T98, X98, e98, st98⟩ := getF X97 hx hZ hown (host := "") (Or.inl (hw _ (List.mem_of_getElem? (i := 113) rfl))) Via.refl e97 F97_ (g := (mkF m 52 #[.val (.ref a1), .val (.int (1 : Int32))] [(.ref a1), (.ref a1)])) rfl rfl (hb hby own_d17_52)
    refine own_fwd st98 ?_
    show own_R p.tables e below P (T98.setTop (mkF m 55 #[.val (.ref a1), .val (.int (1 : Int32))] [(.long (if (0 : Int64) < (q3 - (((2 : Int32) - (1 : Int32)).toInt64)) then (q3 - (((2 : Int32) - (1 : Int32)).toInt64)) else (0 : Int64))), (.ref a1)]))
    obtain ⟨T99, h99, X99, e99, W99, st99⟩ := putF X98 hx hZ hown (host := "") (Or.inl (hw _ (List.mem_of_getElem? (i := 109) rfl))) Via.refl e98 pF1_x97 pE_x97 (Or.inl (hw _ (List.mem_of_getElem? (i := 110) rfl))) (hw _ (List.mem_of_getElem? (i := 2) rfl)) (ty := .long) (by decide) rfl rfl (g := (mkF m 55 #[.val (.ref a1), .val (.int (1 : Int32))] [(.long (if (0 : Int64) < (q3 - (((2 : Int32) - (1 : Int32)).toInt64)) then (q3 - (((2 : Int32) - (1 : Int32)).toInt64)) else (0 : Int64))), (.ref a1)])) rfl rfl (hb hby own_d17_55)
    have F99_ := pF1_x97.same W99
    have pE_x99 := pE_x97.wr W99
    have pF0_x99 := pF0_x97.other W99 (Or.inr (slot_ne (Or.inl (hw _ (List.mem_of_getElem? (i := 103) rfl))) (Or.inl (hw _ (List.mem_of_getElem? (i := 110) rfl))) (by decide) (t := .int) (t' := .long) (by decide) (by decide)))
    have pF2_x99 := pF2_x97.other W99 (Or.inr (slot_ne (Or.inl (hw _ (List.mem_of_getElem? (i := 112) rfl))) (Or.inl (hw _ (List.mem_of_getElem? (i := 110) rfl))) (by decide) (t := .long) (t' := .long) (by decide) (by decide)))
    have F97__x99 := F97_.other W99 (Or.inr (slot_ne (Or.inl (hw _ (List.mem_of_getElem? (i := 114) rfl))) (Or.inl (hw _ (List.mem_of_getElem? (i := 110) rfl))) (by decide) (t := .long) (t' := .long) (by decide) (by decide)))
    have N99 := Fr.snoc X99 N97 pg
    have Z99 : n0 ≤ h99.size := by rw [W99.size]; exact Z97
    have K99 := K97.wr W99 (Or.inl (List.mem_of_getElem? (i := 0) rfl))
    have Y99 : h0.size ≤ h99.size := by rw [W99.size]; exact Y97
    refine own_fwd st99 ?_
    show own_R p.tables e below P (T99.setTop (mkF m 58 #[.val (.ref a1), .val (.int (1 : Int32))] []))
    refine own_fwd (fun tt kt => XS.iloadN X99.here hx rfl (hb hby own_d17_58) rfl kt) ?_
    show own_R p.tables e below P (T99.setTop (mkF m 59 #[.val (.ref a1), .val (.int (1 : Int32))] [(.int (1 : Int32))]))
    obtain ⟨fs100, hr100, hrun100, hended100, hW100, hsame100⟩ := X99.leave (v := some (.int (1 : Int32))) (fun h => by rw [Bd.returns] at h; cases h)
    refine ⟨_, _, X99.ireturnOut hx (w := (1 : Int32)) Bd.returns rfl (by simp) (hb hby own_d17_59) hr100, fin _ _ ⟨hrun100, hended100, _, _, rfl, ?_, ⟨_, rfl⟩, hW100, hsame100.mono (by decide) (by decide)⟩⟩
    show own_Q17 Z a1 q1 q2 q3 h0 n0 _ T99.heap _
    rw [e99]
    exact ⟨(1 : Int32), (if (0 : Int64) < (q3 - (((2 : Int32) - (1 : Int32)).toInt64)) then (q3 - (((2 : Int32) - (1 : Int32)).toInt64)) else (0 : Int64)), rfl, N99, K99, Or.inl ⟨rfl, (lw_gt _ _).mp hc92, rfl⟩, F99_, pE_x99⟩
  · refine own_fwd (fun tt kt => XS.ifYes X91.here hx rfl (pc0 := 17) (pc' := 24) rfl (hb hby own_d17_17) rfl ((if0 _ _).trans (flt hc92).2.2.2) (by decide) (by decide) kt) ?_
    show own_R p.tables e below P (T91.setTop (mkF m 24 #[.val (.ref a1), .unset] []))
    refine own_fwd (fun tt kt => XS.iconst X91.here hx rfl (hb hby own_d17_24) kt) ?_
    show own_R p.tables e below P (T91.setTop (mkF m 25 #[.val (.ref a1), .unset] [(.int (0 : Int32))]))
    refine own_fwd (fun tt kt => XS.istoreN X91.here hx rfl (hb hby own_d17_25) rfl (l' := #[.val (.ref a1), .val (.int (0 : Int32))]) rfl kt) ?_
    show own_R p.tables e below P (T91.setTop (mkF m 26 #[.val (.ref a1), .val (.int (0 : Int32))] []))
    refine own_fwd (fun tt kt => XS.iloadN X91.here hx rfl (hb hby own_d17_26) rfl kt) ?_
    show own_R p.tables e below P (T91.setTop (mkF m 27 #[.val (.ref a1), .val (.int (0 : Int32))] [(.int (0 : Int32))]))
    have hc101 : (0 : Int32) = (0 : Int32) := (by decide)
    refine own_fwd (fun tt kt => XS.ifYes X91.here hx rfl (pc0 := 27) (pc' := 58) rfl (hb hby own_d17_27) rfl ((if0 _ _).trans (teq hc101).1) (by decide) (by decide) kt) ?_
    show own_R p.tables e below P (T91.setTop (mkF m 58 #[.val (.ref a1), .val (.int (0 : Int32))] []))
    refine own_fwd (fun tt kt => XS.iloadN X91.here hx rfl (hb hby own_d17_58) rfl kt) ?_
    show own_R p.tables e below P (T91.setTop (mkF m 59 #[.val (.ref a1), .val (.int (0 : Int32))] [(.int (0 : Int32))]))
    obtain ⟨fs102, hr102, hrun102, hended102, hW102, hsame102⟩ := X91.leave (v := some (.int (0 : Int32))) (fun h => by rw [Bd.returns] at h; cases h)
    refine ⟨_, _, X91.ireturnOut hx (w := (0 : Int32)) Bd.returns rfl (by simp) (hb hby own_d17_59) hr102, fin _ _ ⟨hrun102, hended102, _, _, rfl, ?_, ⟨_, rfl⟩, hW102, hsame102.mono (by decide) (by decide)⟩⟩
    show own_Q17 Z a1 q1 q2 q3 h0 n0 _ T91.heap _
    rw [e91]
    exact ⟨(0 : Int32), q1, rfl, N91, K0, Or.inr ⟨rfl, fun q => hc92 ((lw_gt _ _).mpr q), rfl⟩, pF1, pE⟩
theorem own_stepS {va fa z : Int32} {s r lo s' r' lo' e : Int64} (M : own_Mv va fa s r lo z s' r' lo') (he : e.toInt = s.toInt + va.toInt - 1) : s' = e := by
  rw [← Int64.toInt_inj, he, M.1]
theorem own_stepR {va fa z : Int32} {s r lo s' r' lo' : Int64} (M : own_Mv va fa s r lo z s' r' lo') : r' = (if fa = (0 : Int32) then r else s') ∧ lo' = (if fa = (0 : Int32) then lo else s') := by
  by_cases c : fa = 0
  · rw [if_pos c, if_pos c]; exact M.2.1 c
  · rw [if_neg c, if_neg c]; exact M.2.2.1 c
theorem own_stepZ {va fa z : Int32} {s r lo s' r' lo' d : Int64} (M : own_Mv va fa s r lo z s' r' lo') (hd : d.toInt = s'.toInt - r.toInt) : z = (if fa = (0 : Int32) then (if (0 : Int32) < (lcmpW d (100 : Int64)) then (0 : Int32) else (1 : Int32)) else (1 : Int32)) := by
  obtain ⟨-, m1, m2, m3⟩ := M
  have q : (0 : Int32) < (lcmpW d (100 : Int64)) ↔ 100 < d.toInt := by rw [lw_gt, Int64.lt_iff_toInt_lt, own_j100]
  by_cases c : fa = 0
  · rw [if_pos c]
    obtain ⟨rfl, -⟩ := m1 c
    rcases m3 with ⟨rfl, h⟩ | ⟨rfl, h⟩
    · rw [if_neg (by rw [q]; omega)]
    · rw [if_pos (by rw [q]; omega)]
  · rw [if_neg c]
    obtain ⟨rfl, -⟩ := m2 c
    rcases m3 with ⟨rfl, h⟩ | ⟨rfl, h⟩
    · rfl
    · omega
theorem own_sub (x y : Int64) (h1 : -100000000000 ≤ x.toInt) (h2 : x.toInt ≤ 100000000000) (h3 : -100000000000 ≤ y.toInt) (h4 : y.toInt ≤ 100000000000) : (x - y).toInt = x.toInt - y.toInt := by
  have a := c_lsub x y; have r := rng64 (x - y); omega
theorem own_addL (x y : Int64) (h1 : -100000000000 ≤ x.toInt) (h2 : x.toInt ≤ 100000000000) (h3 : -100000000000 ≤ y.toInt) (h4 : y.toInt ≤ 100000000000) : (x + y).toInt = x.toInt + y.toInt := by
  have a := c_ladd x y; have r := rng64 (x + y); omega
theorem own_dec (x : Int32) : (x.toInt64 - (1 : Int64)).toInt = x.toInt - 1 := by
  have r := rng32 x; rw [own_sub _ _ (by rw [c_i2l]; omega) (by rw [c_i2l]; omega) (by decide) (by decide), c_i2l, own_j1]
theorem own_max (x y : Int64) : (if x < y then y else x).toInt = max x.toInt y.toInt := by
  split <;> rename_i q <;> rw [Int64.lt_iff_toInt_lt] at q <;> omega
theorem own_look {z : Int32} {s4 s3 k : Int64} (h1 : -100000000000 ≤ k.toInt) (h2 : k.toInt ≤ 100000000000)
    (D : (z = 1 ∧ (if (0 : Int64) < (k - (100 : Int64)) then (k - (100 : Int64)) else (0 : Int64)) < k ∧ s4 = (if (0 : Int64) < (k - ((2 : Int32) - (1 : Int32)).toInt64) then (k - ((2 : Int32) - (1 : Int32)).toInt64) else (0 : Int64))) ∨ (z = 0 ∧ ¬ (if (0 : Int64) < (k - (100 : Int64)) then (k - (100 : Int64)) else (0 : Int64)) < k ∧ s4 = s3)) :
    ((0 : Int32) < (lcmpW k (0 : Int64)) → z = 1 ∧ s4 = (k - (1 : Int64))) ∧ (¬ (0 : Int32) < (lcmpW k (0 : Int64)) → z = 0 ∧ s4 = s3) := by
  have q : (0 : Int32) < (lcmpW k (0 : Int64)) ↔ 0 < k.toInt := by rw [lw_gt, Int64.lt_iff_toInt_lt, own_j0]
  have e1 : ((2 : Int32) - (1 : Int32)).toInt64 = (1 : Int64) := by decide
  rw [e1] at D
  have a1 : (k - (100 : Int64)).toInt = k.toInt - 100 := own_m100 k (by omega) (by omega)
  have a2 : (k - (1 : Int64)).toInt = k.toInt - 1 := own_sub k 1 h1 h2 (by decide) (by decide)
  rw [q]
  rw [Int64.lt_iff_toInt_lt, own_max, a1, own_j0] at D
  have e0 := own_j0
  rcases D with ⟨rfl, d1, d2⟩ | ⟨rfl, d1, d2⟩
  · refine ⟨fun c => ⟨rfl, ?_⟩, fun c => by omega⟩
    rw [d2, ← Int64.toInt_inj, own_max, a2, own_j0]; omega
  · exact ⟨fun c => by omega, fun c => ⟨rfl, d2⟩⟩
theorem own_if01 {c : Prop} [Decidable c] : (if c then (0 : Int32) else (1 : Int32)) = 0 ∨ (if c then (0 : Int32) else (1 : Int32)) = 1 := by split <;> simp
theorem own_pos (x : Int32) : 0 ≤ (x &&& (2147483647 : Int32)).toInt := (c_andS x 2147483647).2.2 (by decide)
theorem own_pn9 : plainName "com/example/erpctl/erpctl/connectors/yallav/ListPlaceMoveOnPinLaw" = true := by first | (simp [plainName, overriddenIn]; done) | decide +kernel
theorem own_pd6 : parseMethodDescriptor "(IZ)Z" = some ⟨[.int, .boolean], some .boolean⟩ := by decide +kernel
theorem own_pd7 : parseMethodDescriptor "()J" = some ⟨[], some .long⟩ := by decide +kernel
theorem own_pd8 : parseMethodDescriptor "()Z" = some ⟨[], some .boolean⟩ := by decide +kernel
theorem own_eflaw (m : MethodId) (p0 : Int32) (p1 : Int32) (p2 : Int32) (p3 : Int32) : entryFrame m #[(.int p0), (.int p1), (.int p2), (.int p3)] maxLocals = mkF m 0 #[.val (.int p0), .val (.int p1), .val (.int p2), .val (.int p3), .unset, .unset, .unset, .unset, .unset, .unset, .unset, .unset, .unset, .unset, .unset, .unset, .unset, .unset, .unset, .unset, .unset, .unset, .unset, .unset, .unset, .unset, .unset, .unset, .unset, .unset, .unset, .unset, .unset, .unset, .unset, .unset, .unset, .unset, .unset, .unset, .unset] [] := by first | (simp [entryFrame, mkF, argsToLocals, Value.category, maxLocals]; done) | rfl
def own_Qlaw (Z : State) (p0 p1 p2 p3 : Int32) (h0 : Heap) (n0 : Nat) (v : Option Value) (h : Heap) (L : List Loc) : Prop := v = some (.int 1) ∧ Fr n0 L
set_option maxRecDepth 65536 in
set_option maxHeartbeats 40000000 in
theorem own_rmlaw (l : Launch) (Z : State) (a0 : Array Value) (hw : ∀ d ∈ tables_1, d.before a0 Z = true) (ws : List Jvm.Cond) (p0 p1 p2 p3 : Int32) (h0 : Heap) (n0 : Nat) (Z0 : n0 ≤ h0.size) :
    MetFree l x (head1 (Jvm.Cond.code x code maxLocals ret :: ws) room_1) (fun a U => a = #[(.int p0), (.int p1), (.int p2), (.int p3)] ∧ Z.Warmed39 U.vm ∧ U.heap = h0) (fun _ _ _ _ _ => True) (fun _ U o U' => ∃ v L, o = .returned v ∧ own_Qlaw Z p0 p1 p2 p3 h0 n0 v U'.heap L ∧ FrameEnd U o U' L 24 192) := by
  refine MetFree.of_bodySF (plainFor_of_name own_pn9) hisR ?_
  intro p e s m args below meth c s₁ Bd hml0 hP hK
  obtain ⟨rfl, hZ, hh⟩ := hP
  have hx := Bd.exec
  have hby := Bd.bytes
  have hml : c.maxLocals = 41 := hml0
  have hown : s.vm.findClass "com/example/erpctl/erpctl/connectors/yallav/ListPlaceMoveOnPinLaw" = some m.cls := findClass_of_methodNamed Bd.named
  have hnm := (name_of_methodNamed Bd.named Bd.method).1
  have X0 : Stand p l e room_1 s m #[(.int p0), (.int p1), (.int p2), (.int p3)] below meth c s₁ [] 0 0 := Stand.of_body Bd
  have e0 : s₁.heap = h0 := by rw [← hh, Bd.state]; rfl
  have N0 := Fr.nil n0
  refine own_nm (st := s₁.setTop (entryFrame m #[(.int p0), (.int p1), (.int p2), (.int p3)] maxLocals)) fun P fin => ?_
  refine own_fwd (fun tt kt => castTop (own_eflaw m p0 p1 p2 p3) kt) ?_
  show own_R p.tables e below P (s₁.setTop (mkF m 0 #[.val (.int p0), .val (.int p1), .val (.int p2), .val (.int p3), .unset, .unset, .unset, .unset, .unset, .unset, .unset, .unset, .unset, .unset, .unset, .unset, .unset, .unset, .unset, .unset, .unset, .unset, .unset, .unset, .unset, .unset, .unset, .unset, .unset, .unset, .unset, .unset, .unset, .unset, .unset, .unset, .unset, .unset, .unset, .unset, .unset] []))
  refine own_fwd (fun tt kt => XS.iloadN X0.here hx rfl (hb hby at_0) rfl kt) ?_
  show own_R p.tables e below P (s₁.setTop (mkF m 1 #[.val (.int p0), .val (.int p1), .val (.int p2), .val (.int p3), .unset, .unset, .unset, .unset, .unset, .unset, .unset, .unset, .unset, .unset, .unset, .unset, .unset, .unset, .unset, .unset, .unset, .unset, .unset, .unset, .unset, .unset, .unset, .unset, .unset, .unset, .unset, .unset, .unset, .unset, .unset, .unset, .unset, .unset, .unset, .unset, .unset] [(.int p0)]))
  refine own_fwd (fun tt kt => X0.ldcInt hx hown (mvT hZ (hw _ (List.mem_of_getElem? (i := 0) rfl))) (g := (mkF m 1 #[.val (.int p0), .val (.int p1), .val (.int p2), .val (.int p3), .unset, .unset, .unset, .unset, .unset, .unset, .unset, .unset, .unset, .unset, .unset, .unset, .unset, .unset, .unset, .unset, .unset, .unset, .unset, .unset, .unset, .unset, .unset, .unset, .unset, .unset, .unset, .unset, .unset, .unset, .unset, .unset, .unset, .unset, .unset, .unset, .unset] [(.int p0)])) rfl (hb hby at_1) tt kt) ?_
  show own_R p.tables e below P (s₁.setTop (mkF m 3 #[.val (.int p0), .val (.int p1), .val (.int p2), .val (.int p3), .unset, .unset, .unset, .unset, .unset, .unset, .unset, .unset, .unset, .unset, .unset, .unset, .unset, .unset, .unset, .unset, .unset, .unset, .unset, .unset, .unset, .unset, .unset, .unset, .unset, .unset, .unset, .unset, .unset, .unset, .unset, .unset, .unset, .unset, .unset, .unset, .unset] [(.int (2147483647 : Int32)), (.int p0)]))
  refine own_fwd (fun tt kt => XS.iand X0.here hx rfl (hb hby at_3) rfl kt) ?_
  show own_R p.tables e below P (s₁.setTop (mkF m 4 #[.val (.int p0), .val (.int p1), .val (.int p2), .val (.int p3), .unset, .unset, .unset, .unset, .unset, .unset, .unset, .unset, .unset, .unset, .unset, .unset, .unset, .unset, .unset, .unset, .unset, .unset, .unset, .unset, .unset, .unset, .unset, .unset, .unset, .unset, .unset, .unset, .unset, .unset, .unset, .unset, .unset, .unset, .unset, .unset, .unset] [(.int (p0 &&& (2147483647 : Int32)))]))
  have o_va := own_pos p0
  obtain ⟨va, hg_va⟩ : ∃ z, (p0 &&& (2147483647 : Int32)) = z := ⟨_, rfl⟩
  rw [hg_va]
  show own_R p.tables e below P (s₁.setTop (mkF m 4 #[.val (.int p0), .val (.int p1), .val (.int p2), .val (.int p3), .unset, .unset, .unset, .unset, .unset, .unset, .unset, .unset, .unset, .unset, .unset, .unset, .unset, .unset, .unset, .unset, .unset, .unset, .unset, .unset, .unset, .unset, .unset, .unset, .unset, .unset, .unset, .unset, .unset, .unset, .unset, .unset, .unset, .unset, .unset, .unset, .unset] [(.int va)]))
  rw [hg_va] at o_va
  have r_va := rng32 va
  refine own_fwd (fun tt kt => XS.istore X0.here hx rfl (hb hby at_4) rfl (l' := #[.val (.int p0), .val (.int p1), .val (.int p2), .val (.int p3), .val (.int va), .unset, .unset, .unset, .unset, .unset, .unset, .unset, .unset, .unset, .unset, .unset, .unset, .unset, .unset, .unset, .unset, .unset, .unset, .unset, .unset, .unset, .unset, .unset, .unset, .unset, .unset, .unset, .unset, .unset, .unset, .unset, .unset, .unset, .unset, .unset, .unset]) rfl kt) ?_
  show own_R p.tables e below P (s₁.setTop (mkF m 6 #[.val (.int p0), .val (.int p1), .val (.int p2), .val (.int p3), .val (.int va), .unset, .unset, .unset, .unset, .unset, .unset, .unset, .unset, .unset, .unset, .unset, .unset, .unset, .unset, .unset, .unset, .unset, .unset, .unset, .unset, .unset, .unset, .unset, .unset, .unset, .unset, .unset, .unset, .unset, .unset, .unset, .unset, .unset, .unset, .unset, .unset] []))
  refine own_fwd (fun tt kt => XS.iloadN X0.here hx rfl (hb hby at_6) rfl kt) ?_
  show own_R p.tables e below P (s₁.setTop (mkF m 7 #[.val (.int p0), .val (.int p1), .val (.int p2), .val (.int p3), .val (.int va), .unset, .unset, .unset, .unset, .unset, .unset, .unset, .unset, .unset, .unset, .unset, .unset, .unset, .unset, .unset, .unset, .unset, .unset, .unset, .unset, .unset, .unset, .unset, .unset, .unset, .unset, .unset, .unset, .unset, .unset, .unset, .unset, .unset, .unset, .unset, .unset] [(.int p1)]))
  refine own_fwd (fun tt kt => X0.ldcInt hx hown (mvT hZ (hw _ (List.mem_of_getElem? (i := 0) rfl))) (g := (mkF m 7 #[.val (.int p0), .val (.int p1), .val (.int p2), .val (.int p3), .val (.int va), .unset, .unset, .unset, .unset, .unset, .unset, .unset, .unset, .unset, .unset, .unset, .unset, .unset, .unset, .unset, .unset, .unset, .unset, .unset, .unset, .unset, .unset, .unset, .unset, .unset, .unset, .unset, .unset, .unset, .unset, .unset, .unset, .unset, .unset, .unset, .unset] [(.int p1)])) rfl (hb hby at_7) tt kt) ?_
  show own_R p.tables e below P (s₁.setTop (mkF m 9 #[.val (.int p0), .val (.int p1), .val (.int p2), .val (.int p3), .val (.int va), .unset, .unset, .unset, .unset, .unset, .unset, .unset, .unset, .unset, .unset, .unset, .unset, .unset, .unset, .unset, .unset, .unset, .unset, .unset, .unset, .unset, .unset, .unset, .unset, .unset, .unset, .unset, .unset, .unset, .unset, .unset, .unset, .unset, .unset, .unset, .unset] [(.int (2147483647 : Int32)), (.int p1)]))
  refine own_fwd (fun tt kt => XS.iand X0.here hx rfl (hb hby at_9) rfl kt) ?_
  show own_R p.tables e below P (s₁.setTop (mkF m 10 #[.val (.int p0), .val (.int p1), .val (.int p2), .val (.int p3), .val (.int va), .unset, .unset, .unset, .unset, .unset, .unset, .unset, .unset, .unset, .unset, .unset, .unset, .unset, .unset, .unset, .unset, .unset, .unset, .unset, .unset, .unset, .unset, .unset, .unset, .unset, .unset, .unset, .unset, .unset, .unset, .unset, .unset, .unset, .unset, .unset, .unset] [(.int (p1 &&& (2147483647 : Int32)))]))
  have o_vb := own_pos p1
  obtain ⟨vb, hg_vb⟩ : ∃ z, (p1 &&& (2147483647 : Int32)) = z := ⟨_, rfl⟩
  rw [hg_vb]
  show own_R p.tables e below P (s₁.setTop (mkF m 10 #[.val (.int p0), .val (.int p1), .val (.int p2), .val (.int p3), .val (.int va), .unset, .unset, .unset, .unset, .unset, .unset, .unset, .unset, .unset, .unset, .unset, .unset, .unset, .unset, .unset, .unset, .unset, .unset, .unset, .unset, .unset, .unset, .unset, .unset, .unset, .unset, .unset, .unset, .unset, .unset, .unset, .unset, .unset, .unset, .unset, .unset] [(.int vb)]))
  rw [hg_vb] at o_vb
  have r_vb := rng32 vb
  refine own_fwd (fun tt kt => XS.istore X0.here hx rfl (hb hby at_10) rfl (l' := #[.val (.int p0), .val (.int p1), .val (.int p2), .val (.int p3), .val (.int va), .val (.int vb), .unset, .unset, .unset, .unset, .unset, .unset, .unset, .unset, .unset, .unset, .unset, .unset, .unset, .unset, .unset, .unset, .unset, .unset, .unset, .unset, .unset, .unset, .unset, .unset, .unset, .unset, .unset, .unset, .unset, .unset, .unset, .unset, .unset, .unset, .unset]) rfl kt) ?_
  show own_R p.tables e below P (s₁.setTop (mkF m 12 #[.val (.int p0), .val (.int p1), .val (.int p2), .val (.int p3), .val (.int va), .val (.int vb), .unset, .unset, .unset, .unset, .unset, .unset, .unset, .unset, .unset, .unset, .unset, .unset, .unset, .unset, .unset, .unset, .unset, .unset, .unset, .unset, .unset, .unset, .unset, .unset, .unset, .unset, .unset, .unset, .unset, .unset, .unset, .unset, .unset, .unset, .unset] []))
  refine own_fwd (fun tt kt => XS.iloadN X0.here hx rfl (hb hby at_12) rfl kt) ?_
  show own_R p.tables e below P (s₁.setTop (mkF m 13 #[.val (.int p0), .val (.int p1), .val (.int p2), .val (.int p3), .val (.int va), .val (.int vb), .unset, .unset, .unset, .unset, .unset, .unset, .unset, .unset, .unset, .unset, .unset, .unset, .unset, .unset, .unset, .unset, .unset, .unset, .unset, .unset, .unset, .unset, .unset, .unset, .unset, .unset, .unset, .unset, .unset, .unset, .unset, .unset, .unset, .unset, .unset] [(.int p2)]))
  refine own_fwd (fun tt kt => X0.ldcInt hx hown (mvT hZ (hw _ (List.mem_of_getElem? (i := 0) rfl))) (g := (mkF m 13 #[.val (.int p0), .val (.int p1), .val (.int p2), .val (.int p3), .val (.int va), .val (.int vb), .unset, .unset, .unset, .unset, .unset, .unset, .unset, .unset, .unset, .unset, .unset, .unset, .unset, .unset, .unset, .unset, .unset, .unset, .unset, .unset, .unset, .unset, .unset, .unset, .unset, .unset, .unset, .unset, .unset, .unset, .unset, .unset, .unset, .unset, .unset] [(.int p2)])) rfl (hb hby at_13) tt kt) ?_
  show own_R p.tables e below P (s₁.setTop (mkF m 15 #[.val (.int p0), .val (.int p1), .val (.int p2), .val (.int p3), .val (.int va), .val (.int vb), .unset, .unset, .unset, .unset, .unset, .unset, .unset, .unset, .unset, .unset, .unset, .unset, .unset, .unset, .unset, .unset, .unset, .unset, .unset, .unset, .unset, .unset, .unset, .unset, .unset, .unset, .unset, .unset, .unset, .unset, .unset, .unset, .unset, .unset, .unset] [(.int (2147483647 : Int32)), (.int p2)]))
  refine own_fwd (fun tt kt => XS.iand X0.here hx rfl (hb hby at_15) rfl kt) ?_
  show own_R p.tables e below P (s₁.setTop (mkF m 16 #[.val (.int p0), .val (.int p1), .val (.int p2), .val (.int p3), .val (.int va), .val (.int vb), .unset, .unset, .unset, .unset, .unset, .unset, .unset, .unset, .unset, .unset, .unset, .unset, .unset, .unset, .unset, .unset, .unset, .unset, .unset, .unset, .unset, .unset, .unset, .unset, .unset, .unset, .unset, .unset, .unset, .unset, .unset, .unset, .unset, .unset, .unset] [(.int (p2 &&& (2147483647 : Int32)))]))
  have o_vc := own_pos p2
  obtain ⟨vc, hg_vc⟩ : ∃ z, (p2 &&& (2147483647 : Int32)) = z := ⟨_, rfl⟩
  rw [hg_vc]
  show own_R p.tables e below P (s₁.setTop (mkF m 16 #[.val (.int p0), .val (.int p1), .val (.int p2), .val (.int p3), .val (.int va), .val (.int vb), .unset, .unset, .unset, .unset, .unset, .unset, .unset, .unset, .unset, .unset, .unset, .unset, .unset, .unset, .unset, .unset, .unset, .unset, .unset, .unset, .unset, .unset, .unset, .unset, .unset, .unset, .unset, .unset, .unset, .unset, .unset, .unset, .unset, .unset, .unset] [(.int vc)]))
  rw [hg_vc] at o_vc
  have r_vc := rng32 vc
  refine own_fwd (fun tt kt => XS.istore X0.here hx rfl (hb hby at_16) rfl (l' := #[.val (.int p0), .val (.int p1), .val (.int p2), .val (.int p3), .val (.int va), .val (.int vb), .val (.int vc), .unset, .unset, .unset, .unset, .unset, .unset, .unset, .unset, .unset, .unset, .unset, .unset, .unset, .unset, .unset, .unset, .unset, .unset, .unset, .unset, .unset, .unset, .unset, .unset, .unset, .unset, .unset, .unset, .unset, .unset, .unset, .unset, .unset, .unset]) rfl kt) ?_
  show own_R p.tables e below P (s₁.setTop (mkF m 18 #[.val (.int p0), .val (.int p1), .val (.int p2), .val (.int p3), .val (.int va), .val (.int vb), .val (.int vc), .unset, .unset, .unset, .unset, .unset, .unset, .unset, .unset, .unset, .unset, .unset, .unset, .unset, .unset, .unset, .unset, .unset, .unset, .unset, .unset, .unset, .unset, .unset, .unset, .unset, .unset, .unset, .unset, .unset, .unset, .unset, .unset, .unset, .unset] []))
  refine own_fwd (fun tt kt => XS.iloadN X0.here hx rfl (hb hby at_18) rfl kt) ?_
  show own_R p.tables e below P (s₁.setTop (mkF m 19 #[.val (.int p0), .val (.int p1), .val (.int p2), .val (.int p3), .val (.int va), .val (.int vb), .val (.int vc), .unset, .unset, .unset, .unset, .unset, .unset, .unset, .unset, .unset, .unset, .unset, .unset, .unset, .unset, .unset, .unset, .unset, .unset, .unset, .unset, .unset, .unset, .unset, .unset, .unset, .unset, .unset, .unset, .unset, .unset, .unset, .unset, .unset, .unset] [(.int p3)]))
  refine own_fwd (fun tt kt => XS.iconst X0.here hx rfl (hb hby at_19) kt) ?_
  show own_R p.tables e below P (s₁.setTop (mkF m 20 #[.val (.int p0), .val (.int p1), .val (.int p2), .val (.int p3), .val (.int va), .val (.int vb), .val (.int vc), .unset, .unset, .unset, .unset, .unset, .unset, .unset, .unset, .unset, .unset, .unset, .unset, .unset, .unset, .unset, .unset, .unset, .unset, .unset, .unset, .unset, .unset, .unset, .unset, .unset, .unset, .unset, .unset, .unset, .unset, .unset, .unset, .unset, .unset] [(.int (1 : Int32)), (.int p3)]))
  refine own_fwd (fun tt kt => XS.iand X0.here hx rfl (hb hby at_20) rfl kt) ?_
  show own_R p.tables e below P (s₁.setTop (mkF m 21 #[.val (.int p0), .val (.int p1), .val (.int p2), .val (.int p3), .val (.int va), .val (.int vb), .val (.int vc), .unset, .unset, .unset, .unset, .unset, .unset, .unset, .unset, .unset, .unset, .unset, .unset, .unset, .unset, .unset, .unset, .unset, .unset, .unset, .unset, .unset, .unset, .unset, .unset, .unset, .unset, .unset, .unset, .unset, .unset, .unset, .unset, .unset, .unset] [(.int (p3 &&& (1 : Int32)))]))
  have j104 : ∀ P, own_R p.tables e below P (s₁.setTop (mkF m 29 #[.val (.int p0), .val (.int p1), .val (.int p2), .val (.int p3), .val (.int va), .val (.int vb), .val (.int vc), .unset, .unset, .unset, .unset, .unset, .unset, .unset, .unset, .unset, .unset, .unset, .unset, .unset, .unset, .unset, .unset, .unset, .unset, .unset, .unset, .unset, .unset, .unset, .unset, .unset, .unset, .unset, .unset, .unset, .unset, .unset, .unset, .unset, .unset] [(.int (if (p3 &&& (1 : Int32)) = (0 : Int32) then (0 : Int32) else (1 : Int32)))])) → own_R p.tables e below P (s₁.setTop (mkF m 21 #[.val (.int p0), .val (.int p1), .val (.int p2), .val (.int p3), .val (.int va), .val (.int vb), .val (.int vc), .unset, .unset, .unset, .unset, .unset, .unset, .unset, .unset, .unset, .unset, .unset, .unset, .unset, .unset, .unset, .unset, .unset, .unset, .unset, .unset, .unset, .unset, .unset, .unset, .unset, .unset, .unset, .unset, .unset, .unset, .unset, .unset, .unset, .unset] [(.int (p3 &&& (1 : Int32)))])) := by
    intro P k
    by_cases hc103 : (p3 &&& (1 : Int32)) = (0 : Int32)
    · try simp only [if_pos hc103] at k
      refine own_fwd (fun tt kt => XS.ifYes X0.here hx rfl (pc0 := 21) (pc' := 28) rfl (hb hby at_21) rfl ((if0 _ _).trans (teq hc103).1) (by decide) (by decide) kt) ?_
      show own_R p.tables e below P (s₁.setTop (mkF m 28 #[.val (.int p0), .val (.int p1), .val (.int p2), .val (.int p3), .val (.int va), .val (.int vb), .val (.int vc), .unset, .unset, .unset, .unset, .unset, .unset, .unset, .unset, .unset, .unset, .unset, .unset, .unset, .unset, .unset, .unset, .unset, .unset, .unset, .unset, .unset, .unset, .unset, .unset, .unset, .unset, .unset, .unset, .unset, .unset, .unset, .unset, .unset, .unset] []))
      refine own_fwd (fun tt kt => XS.iconst X0.here hx rfl (hb hby at_28) kt) ?_
      show own_R p.tables e below P (s₁.setTop (mkF m 29 #[.val (.int p0), .val (.int p1), .val (.int p2), .val (.int p3), .val (.int va), .val (.int vb), .val (.int vc), .unset, .unset, .unset, .unset, .unset, .unset, .unset, .unset, .unset, .unset, .unset, .unset, .unset, .unset, .unset, .unset, .unset, .unset, .unset, .unset, .unset, .unset, .unset, .unset, .unset, .unset, .unset, .unset, .unset, .unset, .unset, .unset, .unset, .unset] [(.int (0 : Int32))]))
      exact k
    · try simp only [if_neg hc103] at k
      refine own_fwd (fun tt kt => XS.ifNo X0.here hx rfl (hb hby at_21) rfl ((if0 _ _).trans (feq hc103).1) kt) ?_
      show own_R p.tables e below P (s₁.setTop (mkF m 24 #[.val (.int p0), .val (.int p1), .val (.int p2), .val (.int p3), .val (.int va), .val (.int vb), .val (.int vc), .unset, .unset, .unset, .unset, .unset, .unset, .unset, .unset, .unset, .unset, .unset, .unset, .unset, .unset, .unset, .unset, .unset, .unset, .unset, .unset, .unset, .unset, .unset, .unset, .unset, .unset, .unset, .unset, .unset, .unset, .unset, .unset, .unset, .unset] []))
      refine own_fwd (fun tt kt => XS.iconst X0.here hx rfl (hb hby at_24) kt) ?_
      show own_R p.tables e below P (s₁.setTop (mkF m 25 #[.val (.int p0), .val (.int p1), .val (.int p2), .val (.int p3), .val (.int va), .val (.int vb), .val (.int vc), .unset, .unset, .unset, .unset, .unset, .unset, .unset, .unset, .unset, .unset, .unset, .unset, .unset, .unset, .unset, .unset, .unset, .unset, .unset, .unset, .unset, .unset, .unset, .unset, .unset, .unset, .unset, .unset, .unset, .unset, .unset, .unset, .unset, .unset] [(.int (1 : Int32))]))
      refine own_fwd (fun tt kt => XS.goto X0.here hx rfl (pc0 := 25) (pc' := 29) rfl (hb hby at_25) (by decide) (by decide) kt) ?_
      show own_R p.tables e below P (s₁.setTop (mkF m 29 #[.val (.int p0), .val (.int p1), .val (.int p2), .val (.int p3), .val (.int va), .val (.int vb), .val (.int vc), .unset, .unset, .unset, .unset, .unset, .unset, .unset, .unset, .unset, .unset, .unset, .unset, .unset, .unset, .unset, .unset, .unset, .unset, .unset, .unset, .unset, .unset, .unset, .unset, .unset, .unset, .unset, .unset, .unset, .unset, .unset, .unset, .unset, .unset] [(.int (1 : Int32))]))
      exact k
  refine j104 P ?_
  show own_R p.tables e below P (s₁.setTop (mkF m 29 #[.val (.int p0), .val (.int p1), .val (.int p2), .val (.int p3), .val (.int va), .val (.int vb), .val (.int vc), .unset, .unset, .unset, .unset, .unset, .unset, .unset, .unset, .unset, .unset, .unset, .unset, .unset, .unset, .unset, .unset, .unset, .unset, .unset, .unset, .unset, .unset, .unset, .unset, .unset, .unset, .unset, .unset, .unset, .unset, .unset, .unset, .unset, .unset] [(.int (if (p3 &&& (1 : Int32)) = (0 : Int32) then (0 : Int32) else (1 : Int32)))]))
  obtain ⟨fa, hg_fa⟩ : ∃ z, (if (p3 &&& (1 : Int32)) = (0 : Int32) then (0 : Int32) else (1 : Int32)) = z := ⟨_, rfl⟩
  rw [hg_fa]
  show own_R p.tables e below P (s₁.setTop (mkF m 29 #[.val (.int p0), .val (.int p1), .val (.int p2), .val (.int p3), .val (.int va), .val (.int vb), .val (.int vc), .unset, .unset, .unset, .unset, .unset, .unset, .unset, .unset, .unset, .unset, .unset, .unset, .unset, .unset, .unset, .unset, .unset, .unset, .unset, .unset, .unset, .unset, .unset, .unset, .unset, .unset, .unset, .unset, .unset, .unset, .unset, .unset, .unset, .unset] [(.int fa)]))
  refine own_fwd (fun tt kt => XS.istore X0.here hx rfl (hb hby at_29) rfl (l' := #[.val (.int p0), .val (.int p1), .val (.int p2), .val (.int p3), .val (.int va), .val (.int vb), .val (.int vc), .val (.int fa), .unset, .unset, .unset, .unset, .unset, .unset, .unset, .unset, .unset, .unset, .unset, .unset, .unset, .unset, .unset, .unset, .unset, .unset, .unset, .unset, .unset, .unset, .unset, .unset, .unset, .unset, .unset, .unset, .unset, .unset, .unset, .unset, .unset]) rfl kt) ?_
  show own_R p.tables e below P (s₁.setTop (mkF m 31 #[.val (.int p0), .val (.int p1), .val (.int p2), .val (.int p3), .val (.int va), .val (.int vb), .val (.int vc), .val (.int fa), .unset, .unset, .unset, .unset, .unset, .unset, .unset, .unset, .unset, .unset, .unset, .unset, .unset, .unset, .unset, .unset, .unset, .unset, .unset, .unset, .unset, .unset, .unset, .unset, .unset, .unset, .unset, .unset, .unset, .unset, .unset, .unset, .unset] []))
  refine own_fwd (fun tt kt => XS.iloadN X0.here hx rfl (hb hby at_31) rfl kt) ?_
  show own_R p.tables e below P (s₁.setTop (mkF m 32 #[.val (.int p0), .val (.int p1), .val (.int p2), .val (.int p3), .val (.int va), .val (.int vb), .val (.int vc), .val (.int fa), .unset, .unset, .unset, .unset, .unset, .unset, .unset, .unset, .unset, .unset, .unset, .unset, .unset, .unset, .unset, .unset, .unset, .unset, .unset, .unset, .unset, .unset, .unset, .unset, .unset, .unset, .unset, .unset, .unset, .unset, .unset, .unset, .unset] [(.int p3)]))
  refine own_fwd (fun tt kt => XS.iconst X0.here hx rfl (hb hby at_32) kt) ?_
  show own_R p.tables e below P (s₁.setTop (mkF m 33 #[.val (.int p0), .val (.int p1), .val (.int p2), .val (.int p3), .val (.int va), .val (.int vb), .val (.int vc), .val (.int fa), .unset, .unset, .unset, .unset, .unset, .unset, .unset, .unset, .unset, .unset, .unset, .unset, .unset, .unset, .unset, .unset, .unset, .unset, .unset, .unset, .unset, .unset, .unset, .unset, .unset, .unset, .unset, .unset, .unset, .unset, .unset, .unset, .unset] [(.int (2 : Int32)), (.int p3)]))
  refine own_fwd (fun tt kt => XS.iand X0.here hx rfl (hb hby at_33) rfl kt) ?_
  show own_R p.tables e below P (s₁.setTop (mkF m 34 #[.val (.int p0), .val (.int p1), .val (.int p2), .val (.int p3), .val (.int va), .val (.int vb), .val (.int vc), .val (.int fa), .unset, .unset, .unset, .unset, .unset, .unset, .unset, .unset, .unset, .unset, .unset, .unset, .unset, .unset, .unset, .unset, .unset, .unset, .unset, .unset, .unset, .unset, .unset, .unset, .unset, .unset, .unset, .unset, .unset, .unset, .unset, .unset, .unset] [(.int (p3 &&& (2 : Int32)))]))
  have j106 : ∀ P, own_R p.tables e below P (s₁.setTop (mkF m 42 #[.val (.int p0), .val (.int p1), .val (.int p2), .val (.int p3), .val (.int va), .val (.int vb), .val (.int vc), .val (.int fa), .unset, .unset, .unset, .unset, .unset, .unset, .unset, .unset, .unset, .unset, .unset, .unset, .unset, .unset, .unset, .unset, .unset, .unset, .unset, .unset, .unset, .unset, .unset, .unset, .unset, .unset, .unset, .unset, .unset, .unset, .unset, .unset, .unset] [(.int (if (p3 &&& (2 : Int32)) = (0 : Int32) then (0 : Int32) else (1 : Int32)))])) → own_R p.tables e below P (s₁.setTop (mkF m 34 #[.val (.int p0), .val (.int p1), .val (.int p2), .val (.int p3), .val (.int va), .val (.int vb), .val (.int vc), .val (.int fa), .unset, .unset, .unset, .unset, .unset, .unset, .unset, .unset, .unset, .unset, .unset, .unset, .unset, .unset, .unset, .unset, .unset, .unset, .unset, .unset, .unset, .unset, .unset, .unset, .unset, .unset, .unset, .unset, .unset, .unset, .unset, .unset, .unset] [(.int (p3 &&& (2 : Int32)))])) := by
    intro P k
    by_cases hc105 : (p3 &&& (2 : Int32)) = (0 : Int32)
    · try simp only [if_pos hc105] at k
      refine own_fwd (fun tt kt => XS.ifYes X0.here hx rfl (pc0 := 34) (pc' := 41) rfl (hb hby at_34) rfl ((if0 _ _).trans (teq hc105).1) (by decide) (by decide) kt) ?_
      show own_R p.tables e below P (s₁.setTop (mkF m 41 #[.val (.int p0), .val (.int p1), .val (.int p2), .val (.int p3), .val (.int va), .val (.int vb), .val (.int vc), .val (.int fa), .unset, .unset, .unset, .unset, .unset, .unset, .unset, .unset, .unset, .unset, .unset, .unset, .unset, .unset, .unset, .unset, .unset, .unset, .unset, .unset, .unset, .unset, .unset, .unset, .unset, .unset, .unset, .unset, .unset, .unset, .unset, .unset, .unset] []))
      refine own_fwd (fun tt kt => XS.iconst X0.here hx rfl (hb hby at_41) kt) ?_
      show own_R p.tables e below P (s₁.setTop (mkF m 42 #[.val (.int p0), .val (.int p1), .val (.int p2), .val (.int p3), .val (.int va), .val (.int vb), .val (.int vc), .val (.int fa), .unset, .unset, .unset, .unset, .unset, .unset, .unset, .unset, .unset, .unset, .unset, .unset, .unset, .unset, .unset, .unset, .unset, .unset, .unset, .unset, .unset, .unset, .unset, .unset, .unset, .unset, .unset, .unset, .unset, .unset, .unset, .unset, .unset] [(.int (0 : Int32))]))
      exact k
    · try simp only [if_neg hc105] at k
      refine own_fwd (fun tt kt => XS.ifNo X0.here hx rfl (hb hby at_34) rfl ((if0 _ _).trans (feq hc105).1) kt) ?_
      show own_R p.tables e below P (s₁.setTop (mkF m 37 #[.val (.int p0), .val (.int p1), .val (.int p2), .val (.int p3), .val (.int va), .val (.int vb), .val (.int vc), .val (.int fa), .unset, .unset, .unset, .unset, .unset, .unset, .unset, .unset, .unset, .unset, .unset, .unset, .unset, .unset, .unset, .unset, .unset, .unset, .unset, .unset, .unset, .unset, .unset, .unset, .unset, .unset, .unset, .unset, .unset, .unset, .unset, .unset, .unset] []))
      refine own_fwd (fun tt kt => XS.iconst X0.here hx rfl (hb hby at_37) kt) ?_
      show own_R p.tables e below P (s₁.setTop (mkF m 38 #[.val (.int p0), .val (.int p1), .val (.int p2), .val (.int p3), .val (.int va), .val (.int vb), .val (.int vc), .val (.int fa), .unset, .unset, .unset, .unset, .unset, .unset, .unset, .unset, .unset, .unset, .unset, .unset, .unset, .unset, .unset, .unset, .unset, .unset, .unset, .unset, .unset, .unset, .unset, .unset, .unset, .unset, .unset, .unset, .unset, .unset, .unset, .unset, .unset] [(.int (1 : Int32))]))
      refine own_fwd (fun tt kt => XS.goto X0.here hx rfl (pc0 := 38) (pc' := 42) rfl (hb hby at_38) (by decide) (by decide) kt) ?_
      show own_R p.tables e below P (s₁.setTop (mkF m 42 #[.val (.int p0), .val (.int p1), .val (.int p2), .val (.int p3), .val (.int va), .val (.int vb), .val (.int vc), .val (.int fa), .unset, .unset, .unset, .unset, .unset, .unset, .unset, .unset, .unset, .unset, .unset, .unset, .unset, .unset, .unset, .unset, .unset, .unset, .unset, .unset, .unset, .unset, .unset, .unset, .unset, .unset, .unset, .unset, .unset, .unset, .unset, .unset, .unset] [(.int (1 : Int32))]))
      exact k
  refine j106 P ?_
  show own_R p.tables e below P (s₁.setTop (mkF m 42 #[.val (.int p0), .val (.int p1), .val (.int p2), .val (.int p3), .val (.int va), .val (.int vb), .val (.int vc), .val (.int fa), .unset, .unset, .unset, .unset, .unset, .unset, .unset, .unset, .unset, .unset, .unset, .unset, .unset, .unset, .unset, .unset, .unset, .unset, .unset, .unset, .unset, .unset, .unset, .unset, .unset, .unset, .unset, .unset, .unset, .unset, .unset, .unset, .unset] [(.int (if (p3 &&& (2 : Int32)) = (0 : Int32) then (0 : Int32) else (1 : Int32)))]))
  obtain ⟨fb, hg_fb⟩ : ∃ z, (if (p3 &&& (2 : Int32)) = (0 : Int32) then (0 : Int32) else (1 : Int32)) = z := ⟨_, rfl⟩
  rw [hg_fb]
  show own_R p.tables e below P (s₁.setTop (mkF m 42 #[.val (.int p0), .val (.int p1), .val (.int p2), .val (.int p3), .val (.int va), .val (.int vb), .val (.int vc), .val (.int fa), .unset, .unset, .unset, .unset, .unset, .unset, .unset, .unset, .unset, .unset, .unset, .unset, .unset, .unset, .unset, .unset, .unset, .unset, .unset, .unset, .unset, .unset, .unset, .unset, .unset, .unset, .unset, .unset, .unset, .unset, .unset, .unset, .unset] [(.int fb)]))
  refine own_fwd (fun tt kt => XS.istore X0.here hx rfl (hb hby at_42) rfl (l' := #[.val (.int p0), .val (.int p1), .val (.int p2), .val (.int p3), .val (.int va), .val (.int vb), .val (.int vc), .val (.int fa), .val (.int fb), .unset, .unset, .unset, .unset, .unset, .unset, .unset, .unset, .unset, .unset, .unset, .unset, .unset, .unset, .unset, .unset, .unset, .unset, .unset, .unset, .unset, .unset, .unset, .unset, .unset, .unset, .unset, .unset, .unset, .unset, .unset, .unset]) rfl kt) ?_
  show own_R p.tables e below P (s₁.setTop (mkF m 44 #[.val (.int p0), .val (.int p1), .val (.int p2), .val (.int p3), .val (.int va), .val (.int vb), .val (.int vc), .val (.int fa), .val (.int fb), .unset, .unset, .unset, .unset, .unset, .unset, .unset, .unset, .unset, .unset, .unset, .unset, .unset, .unset, .unset, .unset, .unset, .unset, .unset, .unset, .unset, .unset, .unset, .unset, .unset, .unset, .unset, .unset, .unset, .unset, .unset, .unset] []))
  refine own_fwd (fun tt kt => XS.iloadN X0.here hx rfl (hb hby at_44) rfl kt) ?_
  show own_R p.tables e below P (s₁.setTop (mkF m 45 #[.val (.int p0), .val (.int p1), .val (.int p2), .val (.int p3), .val (.int va), .val (.int vb), .val (.int vc), .val (.int fa), .val (.int fb), .unset, .unset, .unset, .unset, .unset, .unset, .unset, .unset, .unset, .unset, .unset, .unset, .unset, .unset, .unset, .unset, .unset, .unset, .unset, .unset, .unset, .unset, .unset, .unset, .unset, .unset, .unset, .unset, .unset, .unset, .unset, .unset] [(.int p3)]))
  refine own_fwd (fun tt kt => XS.iconst X0.here hx rfl (hb hby at_45) kt) ?_
  show own_R p.tables e below P (s₁.setTop (mkF m 46 #[.val (.int p0), .val (.int p1), .val (.int p2), .val (.int p3), .val (.int va), .val (.int vb), .val (.int vc), .val (.int fa), .val (.int fb), .unset, .unset, .unset, .unset, .unset, .unset, .unset, .unset, .unset, .unset, .unset, .unset, .unset, .unset, .unset, .unset, .unset, .unset, .unset, .unset, .unset, .unset, .unset, .unset, .unset, .unset, .unset, .unset, .unset, .unset, .unset, .unset] [(.int (4 : Int32)), (.int p3)]))
  refine own_fwd (fun tt kt => XS.iand X0.here hx rfl (hb hby at_46) rfl kt) ?_
  show own_R p.tables e below P (s₁.setTop (mkF m 47 #[.val (.int p0), .val (.int p1), .val (.int p2), .val (.int p3), .val (.int va), .val (.int vb), .val (.int vc), .val (.int fa), .val (.int fb), .unset, .unset, .unset, .unset, .unset, .unset, .unset, .unset, .unset, .unset, .unset, .unset, .unset, .unset, .unset, .unset, .unset, .unset, .unset, .unset, .unset, .unset, .unset, .unset, .unset, .unset, .unset, .unset, .unset, .unset, .unset, .unset] [(.int (p3 &&& (4 : Int32)))]))
  have j108 : ∀ P, own_R p.tables e below P (s₁.setTop (mkF m 55 #[.val (.int p0), .val (.int p1), .val (.int p2), .val (.int p3), .val (.int va), .val (.int vb), .val (.int vc), .val (.int fa), .val (.int fb), .unset, .unset, .unset, .unset, .unset, .unset, .unset, .unset, .unset, .unset, .unset, .unset, .unset, .unset, .unset, .unset, .unset, .unset, .unset, .unset, .unset, .unset, .unset, .unset, .unset, .unset, .unset, .unset, .unset, .unset, .unset, .unset] [(.int (if (p3 &&& (4 : Int32)) = (0 : Int32) then (0 : Int32) else (1 : Int32)))])) → own_R p.tables e below P (s₁.setTop (mkF m 47 #[.val (.int p0), .val (.int p1), .val (.int p2), .val (.int p3), .val (.int va), .val (.int vb), .val (.int vc), .val (.int fa), .val (.int fb), .unset, .unset, .unset, .unset, .unset, .unset, .unset, .unset, .unset, .unset, .unset, .unset, .unset, .unset, .unset, .unset, .unset, .unset, .unset, .unset, .unset, .unset, .unset, .unset, .unset, .unset, .unset, .unset, .unset, .unset, .unset, .unset] [(.int (p3 &&& (4 : Int32)))])) := by
    intro P k
    by_cases hc107 : (p3 &&& (4 : Int32)) = (0 : Int32)
    · try simp only [if_pos hc107] at k
      refine own_fwd (fun tt kt => XS.ifYes X0.here hx rfl (pc0 := 47) (pc' := 54) rfl (hb hby at_47) rfl ((if0 _ _).trans (teq hc107).1) (by decide) (by decide) kt) ?_
      show own_R p.tables e below P (s₁.setTop (mkF m 54 #[.val (.int p0), .val (.int p1), .val (.int p2), .val (.int p3), .val (.int va), .val (.int vb), .val (.int vc), .val (.int fa), .val (.int fb), .unset, .unset, .unset, .unset, .unset, .unset, .unset, .unset, .unset, .unset, .unset, .unset, .unset, .unset, .unset, .unset, .unset, .unset, .unset, .unset, .unset, .unset, .unset, .unset, .unset, .unset, .unset, .unset, .unset, .unset, .unset, .unset] []))
      refine own_fwd (fun tt kt => XS.iconst X0.here hx rfl (hb hby at_54) kt) ?_
      show own_R p.tables e below P (s₁.setTop (mkF m 55 #[.val (.int p0), .val (.int p1), .val (.int p2), .val (.int p3), .val (.int va), .val (.int vb), .val (.int vc), .val (.int fa), .val (.int fb), .unset, .unset, .unset, .unset, .unset, .unset, .unset, .unset, .unset, .unset, .unset, .unset, .unset, .unset, .unset, .unset, .unset, .unset, .unset, .unset, .unset, .unset, .unset, .unset, .unset, .unset, .unset, .unset, .unset, .unset, .unset, .unset] [(.int (0 : Int32))]))
      exact k
    · try simp only [if_neg hc107] at k
      refine own_fwd (fun tt kt => XS.ifNo X0.here hx rfl (hb hby at_47) rfl ((if0 _ _).trans (feq hc107).1) kt) ?_
      show own_R p.tables e below P (s₁.setTop (mkF m 50 #[.val (.int p0), .val (.int p1), .val (.int p2), .val (.int p3), .val (.int va), .val (.int vb), .val (.int vc), .val (.int fa), .val (.int fb), .unset, .unset, .unset, .unset, .unset, .unset, .unset, .unset, .unset, .unset, .unset, .unset, .unset, .unset, .unset, .unset, .unset, .unset, .unset, .unset, .unset, .unset, .unset, .unset, .unset, .unset, .unset, .unset, .unset, .unset, .unset, .unset] []))
      refine own_fwd (fun tt kt => XS.iconst X0.here hx rfl (hb hby at_50) kt) ?_
      show own_R p.tables e below P (s₁.setTop (mkF m 51 #[.val (.int p0), .val (.int p1), .val (.int p2), .val (.int p3), .val (.int va), .val (.int vb), .val (.int vc), .val (.int fa), .val (.int fb), .unset, .unset, .unset, .unset, .unset, .unset, .unset, .unset, .unset, .unset, .unset, .unset, .unset, .unset, .unset, .unset, .unset, .unset, .unset, .unset, .unset, .unset, .unset, .unset, .unset, .unset, .unset, .unset, .unset, .unset, .unset, .unset] [(.int (1 : Int32))]))
      refine own_fwd (fun tt kt => XS.goto X0.here hx rfl (pc0 := 51) (pc' := 55) rfl (hb hby at_51) (by decide) (by decide) kt) ?_
      show own_R p.tables e below P (s₁.setTop (mkF m 55 #[.val (.int p0), .val (.int p1), .val (.int p2), .val (.int p3), .val (.int va), .val (.int vb), .val (.int vc), .val (.int fa), .val (.int fb), .unset, .unset, .unset, .unset, .unset, .unset, .unset, .unset, .unset, .unset, .unset, .unset, .unset, .unset, .unset, .unset, .unset, .unset, .unset, .unset, .unset, .unset, .unset, .unset, .unset, .unset, .unset, .unset, .unset, .unset, .unset, .unset] [(.int (1 : Int32))]))
      exact k
  refine j108 P ?_
  show own_R p.tables e below P (s₁.setTop (mkF m 55 #[.val (.int p0), .val (.int p1), .val (.int p2), .val (.int p3), .val (.int va), .val (.int vb), .val (.int vc), .val (.int fa), .val (.int fb), .unset, .unset, .unset, .unset, .unset, .unset, .unset, .unset, .unset, .unset, .unset, .unset, .unset, .unset, .unset, .unset, .unset, .unset, .unset, .unset, .unset, .unset, .unset, .unset, .unset, .unset, .unset, .unset, .unset, .unset, .unset, .unset] [(.int (if (p3 &&& (4 : Int32)) = (0 : Int32) then (0 : Int32) else (1 : Int32)))]))
  obtain ⟨fc, hg_fc⟩ : ∃ z, (if (p3 &&& (4 : Int32)) = (0 : Int32) then (0 : Int32) else (1 : Int32)) = z := ⟨_, rfl⟩
  rw [hg_fc]
  show own_R p.tables e below P (s₁.setTop (mkF m 55 #[.val (.int p0), .val (.int p1), .val (.int p2), .val (.int p3), .val (.int va), .val (.int vb), .val (.int vc), .val (.int fa), .val (.int fb), .unset, .unset, .unset, .unset, .unset, .unset, .unset, .unset, .unset, .unset, .unset, .unset, .unset, .unset, .unset, .unset, .unset, .unset, .unset, .unset, .unset, .unset, .unset, .unset, .unset, .unset, .unset, .unset, .unset, .unset, .unset, .unset] [(.int fc)]))
  refine own_fwd (fun tt kt => XS.istore X0.here hx rfl (hb hby at_55) rfl (l' := #[.val (.int p0), .val (.int p1), .val (.int p2), .val (.int p3), .val (.int va), .val (.int vb), .val (.int vc), .val (.int fa), .val (.int fb), .val (.int fc), .unset, .unset, .unset, .unset, .unset, .unset, .unset, .unset, .unset, .unset, .unset, .unset, .unset, .unset, .unset, .unset, .unset, .unset, .unset, .unset, .unset, .unset, .unset, .unset, .unset, .unset, .unset, .unset, .unset, .unset, .unset]) rfl kt) ?_
  show own_R p.tables e below P (s₁.setTop (mkF m 57 #[.val (.int p0), .val (.int p1), .val (.int p2), .val (.int p3), .val (.int va), .val (.int vb), .val (.int vc), .val (.int fa), .val (.int fb), .val (.int fc), .unset, .unset, .unset, .unset, .unset, .unset, .unset, .unset, .unset, .unset, .unset, .unset, .unset, .unset, .unset, .unset, .unset, .unset, .unset, .unset, .unset, .unset, .unset, .unset, .unset, .unset, .unset, .unset, .unset, .unset, .unset] []))
  obtain ⟨T109, h109, X109, e109, E109, A109, D109, -, st109⟩ := newO X0 hx hZ hown (hw _ (List.mem_of_getElem? (i := 1) rfl)) (hw _ (List.mem_of_getElem? (i := 2) rfl)) (hw _ (List.mem_of_getElem? (i := 3) rfl)) e0 (g := (mkF m 57 #[.val (.int p0), .val (.int p1), .val (.int p2), .val (.int p3), .val (.int va), .val (.int vb), .val (.int vc), .val (.int fa), .val (.int fb), .val (.int fc), .unset, .unset, .unset, .unset, .unset, .unset, .unset, .unset, .unset, .unset, .unset, .unset, .unset, .unset, .unset, .unset, .unset, .unset, .unset, .unset, .unset, .unset, .unset, .unset, .unset, .unset, .unset, .unset, .unset, .unset, .unset] [])) rfl (hb hby at_57) (by decide) (by decide)
  obtain ⟨b109, g109⟩ : ∃ z, z = h0.size := ⟨_, rfl⟩
  rw [← g109] at A109 D109 st109
  have ge_b109 : n0 ≤ b109 := by rw [g109]; exact Z0
  have sz_b109 : h0.size ≤ b109 := by rw [g109]; exact (Nat.le_refl h0.size)
  have F109_recent : Fld Z h109 b109 "com/example/erpctl/erpctl/connectors/yallav/ListPlace" "recent" "Ljava/util/Set;" .null := D109 (Or.inr (hw _ (List.mem_of_getElem? (i := 80) rfl))) (ty := (.object "java/util/Set")) (by decide)
  have F109_shown : Fld Z h109 b109 "com/example/erpctl/erpctl/connectors/yallav/ListPlace" "shown" "Ljava/util/Set;" .null := D109 (Or.inr (hw _ (List.mem_of_getElem? (i := 82) rfl))) (ty := (.object "java/util/Set")) (by decide)
  have F109_before : Fld Z h109 b109 "com/example/erpctl/erpctl/connectors/yallav/ListPlace" "before" "Ljava/util/Set;" .null := D109 (Or.inr (hw _ (List.mem_of_getElem? (i := 101) rfl))) (ty := (.object "java/util/Set")) (by decide)
  have F109_span : Fld Z h109 b109 "com/example/erpctl/erpctl/connectors/yallav/ListPlace" "span" "I" (.int (0 : Int32)) := D109 (Or.inl (hw _ (List.mem_of_getElem? (i := 103) rfl))) (ty := .int) (by decide)
  have F109_skip : Fld Z h109 b109 "com/example/erpctl/erpctl/connectors/yallav/ListPlace" "skip" "J" (.long (0 : Int64)) := D109 (Or.inl (hw _ (List.mem_of_getElem? (i := 110) rfl))) (ty := .long) (by decide)
  have F109_reached : Fld Z h109 b109 "com/example/erpctl/erpctl/connectors/yallav/ListPlace" "reached" "J" (.long (0 : Int64)) := D109 (Or.inl (hw _ (List.mem_of_getElem? (i := 112) rfl))) (ty := .long) (by decide)
  have F109_lowest : Fld Z h109 b109 "com/example/erpctl/erpctl/connectors/yallav/ListPlace" "lowest" "J" (.long (0 : Int64)) := D109 (Or.inl (hw _ (List.mem_of_getElem? (i := 114) rfl))) (ty := .long) (by decide)
  have Z109 : n0 ≤ h109.size := Nat.le_trans Z0 E109.1
  have Y109 : h0.size ≤ h109.size := Nat.le_trans (Nat.le_refl h0.size) E109.1
  refine own_fwd st109 ?_
  show own_R p.tables e below P (T109.setTop (mkF m 60 #[.val (.int p0), .val (.int p1), .val (.int p2), .val (.int p3), .val (.int va), .val (.int vb), .val (.int vc), .val (.int fa), .val (.int fb), .val (.int fc), .unset, .unset, .unset, .unset, .unset, .unset, .unset, .unset, .unset, .unset, .unset, .unset, .unset, .unset, .unset, .unset, .unset, .unset, .unset, .unset, .unset, .unset, .unset, .unset, .unset, .unset, .unset, .unset, .unset, .unset, .unset] [(.ref b109)]))
  refine own_fwd (fun tt kt => XS.dup X109.here hx rfl (hb hby at_60) rfl rfl kt) ?_
  show own_R p.tables e below P (T109.setTop (mkF m 61 #[.val (.int p0), .val (.int p1), .val (.int p2), .val (.int p3), .val (.int va), .val (.int vb), .val (.int vc), .val (.int fa), .val (.int fb), .val (.int fc), .unset, .unset, .unset, .unset, .unset, .unset, .unset, .unset, .unset, .unset, .unset, .unset, .unset, .unset, .unset, .unset, .unset, .unset, .unset, .unset, .unset, .unset, .unset, .unset, .unset, .unset, .unset, .unset, .unset, .unset, .unset] [(.ref b109), (.ref b109)]))
  obtain ⟨_, _, ⟨T110, L110, k110, n110⟩, -, X110, ⟨Lc110, hQ110, l110, y110, z110⟩, st110⟩ := X109.specialBack hx (y := (⟨"com/example/erpctl/erpctl/connectors/yallav/ListPlace", "<init>", "()V"⟩ : MethodName)) rfl hown (mvT hZ (hw _ (List.mem_of_getElem? (i := 4) rfl))) (mvT hZ (hw _ (List.mem_of_getElem? (i := 5) rfl))) (mvT hZ (hw _ (List.mem_of_getElem? (i := 6) rfl))) (by decide) (backOf (W := 1) (own_rm1 l Z a0 hw [] b109 h109 n0 Z109 A109 F109_recent F109_shown F109_before F109_span F109_skip F109_reached F109_lowest ge_b109) hZ (hw _ (List.mem_of_getElem? (i := 6) rfl)) (hw _ (List.mem_of_getElem? (i := 3) rfl)) (by decide) (by decide)) (g := (mkF m 61 #[.val (.int p0), .val (.int p1), .val (.int p2), .val (.int p3), .val (.int va), .val (.int vb), .val (.int vc), .val (.int fa), .val (.int fb), .val (.int fc), .unset, .unset, .unset, .unset, .unset, .unset, .unset, .unset, .unset, .unset, .unset, .unset, .unset, .unset, .unset, .unset, .unset, .unset, .unset, .unset, .unset, .unset, .unset, .unset, .unset, .unset, .unset, .unset, .unset, .unset, .unset] [(.ref b109), (.ref b109)])) rfl (by rw [hml]; rfl) (Steps.refl _) (a := b109) (argsL := []) (rest := [(.ref b109)]) (lenOf own_pd0 rfl) rfl (by show 2 * 0 + _ ≤ _; exact Nat.le_of_eq rfl) (hb hby at_61) (fun _ _ => ⟨rfl, e109, (by decide : 1 + 6 ≤ _), (by decide : 8 + 35 ≤ _)⟩)
  dsimp only [Pt.U, Pt.locs, Pt.cells, Pt.slots] at X110 l110 y110 z110 st110 hQ110
  subst l110 y110 z110
  obtain ⟨h110, e110⟩ : ∃ z, T110.heap = z := ⟨_, rfl⟩
  rw [e110] at hQ110
  obtain ⟨hq110, N110q, K110, E110_, G110_, H110_, I110_, J110_⟩ := hQ110
  subst hq110
  have N110 := Fr.app N0 N110q
  have A109_x110 := A109.keep K110
  have Z110 : n0 ≤ h110.size := Nat.le_trans Z109 K110.1
  have Y110 : h0.size ≤ h110.size := Nat.le_trans Y109 K110.1
  refine own_trn st110 ?_
  show own_R p.tables e below P (T110.setTop (mkF m 64 #[.val (.int p0), .val (.int p1), .val (.int p2), .val (.int p3), .val (.int va), .val (.int vb), .val (.int vc), .val (.int fa), .val (.int fb), .val (.int fc), .unset, .unset, .unset, .unset, .unset, .unset, .unset, .unset, .unset, .unset, .unset, .unset, .unset, .unset, .unset, .unset, .unset, .unset, .unset, .unset, .unset, .unset, .unset, .unset, .unset, .unset, .unset, .unset, .unset, .unset, .unset] [(.ref b109)]))
  refine own_fwd (fun tt kt => XS.astore X110.here hx rfl (hb hby at_64) rfl rfl (l' := #[.val (.int p0), .val (.int p1), .val (.int p2), .val (.int p3), .val (.int va), .val (.int vb), .val (.int vc), .val (.int fa), .val (.int fb), .val (.int fc), .val (.ref b109), .unset, .unset, .unset, .unset, .unset, .unset, .unset, .unset, .unset, .unset, .unset, .unset, .unset, .unset, .unset, .unset, .unset, .unset, .unset, .unset, .unset, .unset, .unset, .unset, .unset, .unset, .unset, .unset, .unset, .unset]) rfl kt) ?_
  show own_R p.tables e below P (T110.setTop (mkF m 66 #[.val (.int p0), .val (.int p1), .val (.int p2), .val (.int p3), .val (.int va), .val (.int vb), .val (.int vc), .val (.int fa), .val (.int fb), .val (.int fc), .val (.ref b109), .unset, .unset, .unset, .unset, .unset, .unset, .unset, .unset, .unset, .unset, .unset, .unset, .unset, .unset, .unset, .unset, .unset, .unset, .unset, .unset, .unset, .unset, .unset, .unset, .unset, .unset, .unset, .unset, .unset, .unset] []))
  refine own_fwd (fun tt kt => XS.aload X110.here hx rfl (hb hby at_66) rfl rfl kt) ?_
  show own_R p.tables e below P (T110.setTop (mkF m 68 #[.val (.int p0), .val (.int p1), .val (.int p2), .val (.int p3), .val (.int va), .val (.int vb), .val (.int vc), .val (.int fa), .val (.int fb), .val (.int fc), .val (.ref b109), .unset, .unset, .unset, .unset, .unset, .unset, .unset, .unset, .unset, .unset, .unset, .unset, .unset, .unset, .unset, .unset, .unset, .unset, .unset, .unset, .unset, .unset, .unset, .unset, .unset, .unset, .unset, .unset, .unset, .unset] [(.ref b109)]))
  refine own_fwd (fun tt kt => XS.iload X110.here hx rfl (hb hby at_68) rfl kt) ?_
  show own_R p.tables e below P (T110.setTop (mkF m 70 #[.val (.int p0), .val (.int p1), .val (.int p2), .val (.int p3), .val (.int va), .val (.int vb), .val (.int vc), .val (.int fa), .val (.int fb), .val (.int fc), .val (.ref b109), .unset, .unset, .unset, .unset, .unset, .unset, .unset, .unset, .unset, .unset, .unset, .unset, .unset, .unset, .unset, .unset, .unset, .unset, .unset, .unset, .unset, .unset, .unset, .unset, .unset, .unset, .unset, .unset, .unset, .unset] [(.int va), (.ref b109)]))
  refine own_fwd (fun tt kt => XS.iload X110.here hx rfl (hb hby at_70) rfl kt) ?_
  show own_R p.tables e below P (T110.setTop (mkF m 72 #[.val (.int p0), .val (.int p1), .val (.int p2), .val (.int p3), .val (.int va), .val (.int vb), .val (.int vc), .val (.int fa), .val (.int fb), .val (.int fc), .val (.ref b109), .unset, .unset, .unset, .unset, .unset, .unset, .unset, .unset, .unset, .unset, .unset, .unset, .unset, .unset, .unset, .unset, .unset, .unset, .unset, .unset, .unset, .unset, .unset, .unset, .unset, .unset, .unset, .unset, .unset, .unset] [(.int fa), (.int va), (.ref b109)]))
  obtain ⟨cq111, kq111, q111a, q111b, q111c⟩ := isOf hZ e110 E110_
  obtain ⟨_, _, ⟨T111, L111, k111, n111⟩, -, X111, ⟨Lc111, hQ111, l111, y111, z111⟩, st111⟩ := X110.virtualBack hx (y := (⟨"com/example/erpctl/erpctl/connectors/yallav/ListPlace", "moveOn", "(IZ)Z"⟩ : MethodName)) (z := (⟨"com/example/erpctl/erpctl/connectors/yallav/ListPlace", "moveOn", "(IZ)Z"⟩ : MethodName)) hown (mvT hZ (hw _ (List.mem_of_getElem? (i := 104) rfl))) (mvT hZ (hw _ (List.mem_of_getElem? (i := 105) rfl))) (notFace_of_selects (args := #[]) (mvT hZ (hw _ (List.mem_of_getElem? (i := 107) rfl)))) (mvT hZ (hw _ (List.mem_of_getElem? (i := 107) rfl))) (mvT hZ (hw _ (List.mem_of_getElem? (i := 106) rfl))) (by decide) (backOf (W := 0) (own_rm15 l Z a0 hw [] b109 va fa (0 : Int64) (0 : Int64) (0 : Int64) h110 n0 Z110 E110_ G110_ H110_ I110_ J110_ ge_b109 o_va (by have q0 := own_j0; omega) (by have q0 := own_j0; omega) (by have q0 := own_j0; omega) (by have q0 := own_j0; omega)) hZ (hw _ (List.mem_of_getElem? (i := 108) rfl)) (hw _ (List.mem_of_getElem? (i := 3) rfl)) (by decide) (by decide)) q111a q111c (g := (mkF m 72 #[.val (.int p0), .val (.int p1), .val (.int p2), .val (.int p3), .val (.int va), .val (.int vb), .val (.int vc), .val (.int fa), .val (.int fb), .val (.int fc), .val (.ref b109), .unset, .unset, .unset, .unset, .unset, .unset, .unset, .unset, .unset, .unset, .unset, .unset, .unset, .unset, .unset, .unset, .unset, .unset, .unset, .unset, .unset, .unset, .unset, .unset, .unset, .unset, .unset, .unset, .unset, .unset] [(.int fa), (.int va), (.ref b109)])) rfl (by rw [hml]; rfl) (Steps.refl _) (argsL := [(.int va), (.int fa)]) (rest := []) (lenOf own_pd6 rfl) rfl (by show 2 * 0 + _ ≤ _; exact Nat.le_of_eq rfl) (hb hby at_72) (fun _ _ => ⟨rfl, e110, (by decide : 7 + 0 ≤ _), (by decide : 43 + 0 ≤ _)⟩)
  dsimp only [Pt.U, Pt.locs, Pt.cells, Pt.slots] at X111 l111 y111 z111 st111 hQ111
  subst l111 y111 z111
  obtain ⟨h111, e111⟩ : ∃ z, T111.heap = z := ⟨_, rfl⟩
  rw [e111] at hQ111
  obtain ⟨z1, s1, r1, l1, hq111, N111q, K111, M1, E111_, G111_, H111_, I111_, J111_⟩ := hQ111
  subst hq111
  have N111 := Fr.app N110 N111q
  have E110__x111 := E110_.keep K111
  have Z111 : n0 ≤ h111.size := Nat.le_trans Z110 K111.1
  have Y111 : h0.size ≤ h111.size := Nat.le_trans Y110 K111.1
  have ms1 := M1.1
  have mr1 : r1.toInt = (0 : Int64).toInt ∨ r1.toInt = s1.toInt := by
    rcases Classical.em (fa = 0) with q | q
    · exact Or.inl (by rw [(M1.2.1 q).1])
    · exact Or.inr (by rw [(M1.2.2.1 q).1])
  rw [own_j0] at ms1 mr1
  refine own_trn st111 ?_
  show own_R p.tables e below P (T111.setTop (mkF m 75 #[.val (.int p0), .val (.int p1), .val (.int p2), .val (.int p3), .val (.int va), .val (.int vb), .val (.int vc), .val (.int fa), .val (.int fb), .val (.int fc), .val (.ref b109), .unset, .unset, .unset, .unset, .unset, .unset, .unset, .unset, .unset, .unset, .unset, .unset, .unset, .unset, .unset, .unset, .unset, .unset, .unset, .unset, .unset, .unset, .unset, .unset, .unset, .unset, .unset, .unset, .unset, .unset] [(.int z1)]))
  refine own_fwd (fun tt kt => XS.istore X111.here hx rfl (hb hby at_75) rfl (l' := #[.val (.int p0), .val (.int p1), .val (.int p2), .val (.int p3), .val (.int va), .val (.int vb), .val (.int vc), .val (.int fa), .val (.int fb), .val (.int fc), .val (.ref b109), .val (.int z1), .unset, .unset, .unset, .unset, .unset, .unset, .unset, .unset, .unset, .unset, .unset, .unset, .unset, .unset, .unset, .unset, .unset, .unset, .unset, .unset, .unset, .unset, .unset, .unset, .unset, .unset, .unset, .unset, .unset]) rfl kt) ?_
  show own_R p.tables e below P (T111.setTop (mkF m 77 #[.val (.int p0), .val (.int p1), .val (.int p2), .val (.int p3), .val (.int va), .val (.int vb), .val (.int vc), .val (.int fa), .val (.int fb), .val (.int fc), .val (.ref b109), .val (.int z1), .unset, .unset, .unset, .unset, .unset, .unset, .unset, .unset, .unset, .unset, .unset, .unset, .unset, .unset, .unset, .unset, .unset, .unset, .unset, .unset, .unset, .unset, .unset, .unset, .unset, .unset, .unset, .unset, .unset] []))
  refine own_fwd (fun tt kt => XS.aload X111.here hx rfl (hb hby at_77) rfl rfl kt) ?_
  show own_R p.tables e below P (T111.setTop (mkF m 79 #[.val (.int p0), .val (.int p1), .val (.int p2), .val (.int p3), .val (.int va), .val (.int vb), .val (.int vc), .val (.int fa), .val (.int fb), .val (.int fc), .val (.ref b109), .val (.int z1), .unset, .unset, .unset, .unset, .unset, .unset, .unset, .unset, .unset, .unset, .unset, .unset, .unset, .unset, .unset, .unset, .unset, .unset, .unset, .unset, .unset, .unset, .unset, .unset, .unset, .unset, .unset, .unset, .unset] [(.ref b109)]))
  obtain ⟨cq112, kq112, q112a, q112b, q112c⟩ := isOf hZ e111 E111_
  obtain ⟨_, _, ⟨T112, L112, k112, n112⟩, -, X112, ⟨Lc112, hQ112, l112, y112, z112⟩, st112⟩ := X111.virtualBack hx (y := (⟨"com/example/erpctl/erpctl/connectors/yallav/ListPlace", "skip", "()J"⟩ : MethodName)) (z := (⟨"com/example/erpctl/erpctl/connectors/yallav/ListPlace", "skip", "()J"⟩ : MethodName)) hown (mvT hZ (hw _ (List.mem_of_getElem? (i := 116) rfl))) (mvT hZ (hw _ (List.mem_of_getElem? (i := 117) rfl))) (notFace_of_selects (args := #[]) (mvT hZ (hw _ (List.mem_of_getElem? (i := 119) rfl)))) (mvT hZ (hw _ (List.mem_of_getElem? (i := 119) rfl))) (mvT hZ (hw _ (List.mem_of_getElem? (i := 118) rfl))) (by decide) (backOf (W := 0) (own_rm16 l Z a0 hw [] b109 s1 h111 n0 Z111 E111_ H111_ ge_b109) hZ (hw _ (List.mem_of_getElem? (i := 120) rfl)) (hw _ (List.mem_of_getElem? (i := 3) rfl)) (by decide) (by decide)) q112a q112c (g := (mkF m 79 #[.val (.int p0), .val (.int p1), .val (.int p2), .val (.int p3), .val (.int va), .val (.int vb), .val (.int vc), .val (.int fa), .val (.int fb), .val (.int fc), .val (.ref b109), .val (.int z1), .unset, .unset, .unset, .unset, .unset, .unset, .unset, .unset, .unset, .unset, .unset, .unset, .unset, .unset, .unset, .unset, .unset, .unset, .unset, .unset, .unset, .unset, .unset, .unset, .unset, .unset, .unset, .unset, .unset] [(.ref b109)])) rfl (by rw [hml]; rfl) (Steps.refl _) (argsL := []) (rest := []) (lenOf own_pd7 rfl) rfl (by show 2 * 0 + _ ≤ _; exact Nat.le_of_eq rfl) (hb hby at_79) (fun _ _ => ⟨rfl, e111, (by decide : 7 + 0 ≤ _), (by decide : 43 + 0 ≤ _)⟩)
  dsimp only [Pt.U, Pt.locs, Pt.cells, Pt.slots] at X112 l112 y112 z112 st112 hQ112
  subst l112 y112 z112
  obtain ⟨h112, e112⟩ : ∃ z, T112.heap = z := ⟨_, rfl⟩
  rw [e112] at hQ112
  obtain ⟨hq112, N112q, q112⟩ := hQ112
  rw [q112] at e112
  subst hq112
  have N112 := Fr.app N111 N112q
  refine own_trn st112 ?_
  show own_R p.tables e below P (T112.setTop (mkF m 82 #[.val (.int p0), .val (.int p1), .val (.int p2), .val (.int p3), .val (.int va), .val (.int vb), .val (.int vc), .val (.int fa), .val (.int fb), .val (.int fc), .val (.ref b109), .val (.int z1), .unset, .unset, .unset, .unset, .unset, .unset, .unset, .unset, .unset, .unset, .unset, .unset, .unset, .unset, .unset, .unset, .unset, .unset, .unset, .unset, .unset, .unset, .unset, .unset, .unset, .unset, .unset, .unset, .unset] [(.long s1)]))
  refine own_fwd (fun tt kt => XS.lstore X112.here hx rfl (hb hby at_82) rfl (l' := #[.val (.int p0), .val (.int p1), .val (.int p2), .val (.int p3), .val (.int va), .val (.int vb), .val (.int vc), .val (.int fa), .val (.int fb), .val (.int fc), .val (.ref b109), .val (.int z1), .val (.long s1), .second, .unset, .unset, .unset, .unset, .unset, .unset, .unset, .unset, .unset, .unset, .unset, .unset, .unset, .unset, .unset, .unset, .unset, .unset, .unset, .unset, .unset, .unset, .unset, .unset, .unset, .unset, .unset]) rfl kt) ?_
  show own_R p.tables e below P (T112.setTop (mkF m 84 #[.val (.int p0), .val (.int p1), .val (.int p2), .val (.int p3), .val (.int va), .val (.int vb), .val (.int vc), .val (.int fa), .val (.int fb), .val (.int fc), .val (.ref b109), .val (.int z1), .val (.long s1), .second, .unset, .unset, .unset, .unset, .unset, .unset, .unset, .unset, .unset, .unset, .unset, .unset, .unset, .unset, .unset, .unset, .unset, .unset, .unset, .unset, .unset, .unset, .unset, .unset, .unset, .unset, .unset] []))
  refine own_fwd (fun tt kt => XS.aload X112.here hx rfl (hb hby at_84) rfl rfl kt) ?_
  show own_R p.tables e below P (T112.setTop (mkF m 86 #[.val (.int p0), .val (.int p1), .val (.int p2), .val (.int p3), .val (.int va), .val (.int vb), .val (.int vc), .val (.int fa), .val (.int fb), .val (.int fc), .val (.ref b109), .val (.int z1), .val (.long s1), .second, .unset, .unset, .unset, .unset, .unset, .unset, .unset, .unset, .unset, .unset, .unset, .unset, .unset, .unset, .unset, .unset, .unset, .unset, .unset, .unset, .unset, .unset, .unset, .unset, .unset, .unset, .unset] [(.ref b109)]))
  refine own_fwd (fun tt kt => XS.iload X112.here hx rfl (hb hby at_86) rfl kt) ?_
  show own_R p.tables e below P (T112.setTop (mkF m 88 #[.val (.int p0), .val (.int p1), .val (.int p2), .val (.int p3), .val (.int va), .val (.int vb), .val (.int vc), .val (.int fa), .val (.int fb), .val (.int fc), .val (.ref b109), .val (.int z1), .val (.long s1), .second, .unset, .unset, .unset, .unset, .unset, .unset, .unset, .unset, .unset, .unset, .unset, .unset, .unset, .unset, .unset, .unset, .unset, .unset, .unset, .unset, .unset, .unset, .unset, .unset, .unset, .unset, .unset] [(.int vb), (.ref b109)]))
  refine own_fwd (fun tt kt => XS.iload X112.here hx rfl (hb hby at_88) rfl kt) ?_
  show own_R p.tables e below P (T112.setTop (mkF m 90 #[.val (.int p0), .val (.int p1), .val (.int p2), .val (.int p3), .val (.int va), .val (.int vb), .val (.int vc), .val (.int fa), .val (.int fb), .val (.int fc), .val (.ref b109), .val (.int z1), .val (.long s1), .second, .unset, .unset, .unset, .unset, .unset, .unset, .unset, .unset, .unset, .unset, .unset, .unset, .unset, .unset, .unset, .unset, .unset, .unset, .unset, .unset, .unset, .unset, .unset, .unset, .unset, .unset, .unset] [(.int fb), (.int vb), (.ref b109)]))
  obtain ⟨cq113, kq113, q113a, q113b, q113c⟩ := isOf hZ e112 E111_
  obtain ⟨_, _, ⟨T113, L113, k113, n113⟩, -, X113, ⟨Lc113, hQ113, l113, y113, z113⟩, st113⟩ := X112.virtualBack hx (y := (⟨"com/example/erpctl/erpctl/connectors/yallav/ListPlace", "moveOn", "(IZ)Z"⟩ : MethodName)) (z := (⟨"com/example/erpctl/erpctl/connectors/yallav/ListPlace", "moveOn", "(IZ)Z"⟩ : MethodName)) hown (mvT hZ (hw _ (List.mem_of_getElem? (i := 104) rfl))) (mvT hZ (hw _ (List.mem_of_getElem? (i := 105) rfl))) (notFace_of_selects (args := #[]) (mvT hZ (hw _ (List.mem_of_getElem? (i := 107) rfl)))) (mvT hZ (hw _ (List.mem_of_getElem? (i := 107) rfl))) (mvT hZ (hw _ (List.mem_of_getElem? (i := 106) rfl))) (by decide) (backOf (W := 0) (own_rm15 l Z a0 hw [] b109 vb fb s1 r1 l1 h111 n0 Z111 E111_ G111_ H111_ I111_ J111_ ge_b109 o_vb (by have q0 := own_j0; omega) (by have q0 := own_j0; omega) (by have q0 := own_j0; omega) (by have q0 := own_j0; omega)) hZ (hw _ (List.mem_of_getElem? (i := 108) rfl)) (hw _ (List.mem_of_getElem? (i := 3) rfl)) (by decide) (by decide)) q113a q113c (g := (mkF m 90 #[.val (.int p0), .val (.int p1), .val (.int p2), .val (.int p3), .val (.int va), .val (.int vb), .val (.int vc), .val (.int fa), .val (.int fb), .val (.int fc), .val (.ref b109), .val (.int z1), .val (.long s1), .second, .unset, .unset, .unset, .unset, .unset, .unset, .unset, .unset, .unset, .unset, .unset, .unset, .unset, .unset, .unset, .unset, .unset, .unset, .unset, .unset, .unset, .unset, .unset, .unset, .unset, .unset, .unset] [(.int fb), (.int vb), (.ref b109)])) rfl (by rw [hml]; rfl) (Steps.refl _) (argsL := [(.int vb), (.int fb)]) (rest := []) (lenOf own_pd6 rfl) rfl (by show 2 * 0 + _ ≤ _; exact Nat.le_of_eq rfl) (hb hby at_90) (fun _ _ => ⟨rfl, e112, (by decide : 7 + 0 ≤ _), (by decide : 43 + 0 ≤ _)⟩)
  dsimp only [Pt.U, Pt.locs, Pt.cells, Pt.slots] at X113 l113 y113 z113 st113 hQ113
  subst l113 y113 z113
  obtain ⟨h113, e113⟩ : ∃ z, T113.heap = z := ⟨_, rfl⟩
  rw [e113] at hQ113
  obtain ⟨z2, s2, r2, l2, hq113, N113q, K113, M2, E113_, G113_, H113_, I113_, J113_⟩ := hQ113
  subst hq113
  have N113 := Fr.app N112 N113q
  have E111__x113 := E111_.keep K113
  have Z113 : n0 ≤ h113.size := Nat.le_trans Z111 K113.1
  have Y113 : h0.size ≤ h113.size := Nat.le_trans Y111 K113.1
  have ms2 := M2.1
  have mr2 : r2.toInt = r1.toInt ∨ r2.toInt = s2.toInt := by
    rcases Classical.em (fb = 0) with q | q
    · exact Or.inl (by rw [(M2.2.1 q).1])
    · exact Or.inr (by rw [(M2.2.2.1 q).1])
  refine own_trn st113 ?_
  show own_R p.tables e below P (T113.setTop (mkF m 93 #[.val (.int p0), .val (.int p1), .val (.int p2), .val (.int p3), .val (.int va), .val (.int vb), .val (.int vc), .val (.int fa), .val (.int fb), .val (.int fc), .val (.ref b109), .val (.int z1), .val (.long s1), .second, .unset, .unset, .unset, .unset, .unset, .unset, .unset, .unset, .unset, .unset, .unset, .unset, .unset, .unset, .unset, .unset, .unset, .unset, .unset, .unset, .unset, .unset, .unset, .unset, .unset, .unset, .unset] [(.int z2)]))
  refine own_fwd (fun tt kt => XS.istore X113.here hx rfl (hb hby at_93) rfl (l' := #[.val (.int p0), .val (.int p1), .val (.int p2), .val (.int p3), .val (.int va), .val (.int vb), .val (.int vc), .val (.int fa), .val (.int fb), .val (.int fc), .val (.ref b109), .val (.int z1), .val (.long s1), .second, .val (.int z2), .unset, .unset, .unset, .unset, .unset, .unset, .unset, .unset, .unset, .unset, .unset, .unset, .unset, .unset, .unset, .unset, .unset, .unset, .unset, .unset, .unset, .unset, .unset, .unset, .unset, .unset]) rfl kt) ?_
  show own_R p.tables e below P (T113.setTop (mkF m 95 #[.val (.int p0), .val (.int p1), .val (.int p2), .val (.int p3), .val (.int va), .val (.int vb), .val (.int vc), .val (.int fa), .val (.int fb), .val (.int fc), .val (.ref b109), .val (.int z1), .val (.long s1), .second, .val (.int z2), .unset, .unset, .unset, .unset, .unset, .unset, .unset, .unset, .unset, .unset, .unset, .unset, .unset, .unset, .unset, .unset, .unset, .unset, .unset, .unset, .unset, .unset, .unset, .unset, .unset, .unset] []))
  refine own_fwd (fun tt kt => XS.aload X113.here hx rfl (hb hby at_95) rfl rfl kt) ?_
  show own_R p.tables e below P (T113.setTop (mkF m 97 #[.val (.int p0), .val (.int p1), .val (.int p2), .val (.int p3), .val (.int va), .val (.int vb), .val (.int vc), .val (.int fa), .val (.int fb), .val (.int fc), .val (.ref b109), .val (.int z1), .val (.long s1), .second, .val (.int z2), .unset, .unset, .unset, .unset, .unset, .unset, .unset, .unset, .unset, .unset, .unset, .unset, .unset, .unset, .unset, .unset, .unset, .unset, .unset, .unset, .unset, .unset, .unset, .unset, .unset, .unset] [(.ref b109)]))
  obtain ⟨cq114, kq114, q114a, q114b, q114c⟩ := isOf hZ e113 E113_
  obtain ⟨_, _, ⟨T114, L114, k114, n114⟩, -, X114, ⟨Lc114, hQ114, l114, y114, z114⟩, st114⟩ := X113.virtualBack hx (y := (⟨"com/example/erpctl/erpctl/connectors/yallav/ListPlace", "skip", "()J"⟩ : MethodName)) (z := (⟨"com/example/erpctl/erpctl/connectors/yallav/ListPlace", "skip", "()J"⟩ : MethodName)) hown (mvT hZ (hw _ (List.mem_of_getElem? (i := 116) rfl))) (mvT hZ (hw _ (List.mem_of_getElem? (i := 117) rfl))) (notFace_of_selects (args := #[]) (mvT hZ (hw _ (List.mem_of_getElem? (i := 119) rfl)))) (mvT hZ (hw _ (List.mem_of_getElem? (i := 119) rfl))) (mvT hZ (hw _ (List.mem_of_getElem? (i := 118) rfl))) (by decide) (backOf (W := 0) (own_rm16 l Z a0 hw [] b109 s2 h113 n0 Z113 E113_ H113_ ge_b109) hZ (hw _ (List.mem_of_getElem? (i := 120) rfl)) (hw _ (List.mem_of_getElem? (i := 3) rfl)) (by decide) (by decide)) q114a q114c (g := (mkF m 97 #[.val (.int p0), .val (.int p1), .val (.int p2), .val (.int p3), .val (.int va), .val (.int vb), .val (.int vc), .val (.int fa), .val (.int fb), .val (.int fc), .val (.ref b109), .val (.int z1), .val (.long s1), .second, .val (.int z2), .unset, .unset, .unset, .unset, .unset, .unset, .unset, .unset, .unset, .unset, .unset, .unset, .unset, .unset, .unset, .unset, .unset, .unset, .unset, .unset, .unset, .unset, .unset, .unset, .unset, .unset] [(.ref b109)])) rfl (by rw [hml]; rfl) (Steps.refl _) (argsL := []) (rest := []) (lenOf own_pd7 rfl) rfl (by show 2 * 0 + _ ≤ _; exact Nat.le_of_eq rfl) (hb hby at_97) (fun _ _ => ⟨rfl, e113, (by decide : 7 + 0 ≤ _), (by decide : 43 + 0 ≤ _)⟩)
  dsimp only [Pt.U, Pt.locs, Pt.cells, Pt.slots] at X114 l114 y114 z114 st114 hQ114
  subst l114 y114 z114
  obtain ⟨h114, e114⟩ : ∃ z, T114.heap = z := ⟨_, rfl⟩
  rw [e114] at hQ114
  obtain ⟨hq114, N114q, q114⟩ := hQ114
  rw [q114] at e114
  subst hq114
  have N114 := Fr.app N113 N114q
  refine own_trn st114 ?_
  show own_R p.tables e below P (T114.setTop (mkF m 100 #[.val (.int p0), .val (.int p1), .val (.int p2), .val (.int p3), .val (.int va), .val (.int vb), .val (.int vc), .val (.int fa), .val (.int fb), .val (.int fc), .val (.ref b109), .val (.int z1), .val (.long s1), .second, .val (.int z2), .unset, .unset, .unset, .unset, .unset, .unset, .unset, .unset, .unset, .unset, .unset, .unset, .unset, .unset, .unset, .unset, .unset, .unset, .unset, .unset, .unset, .unset, .unset, .unset, .unset, .unset] [(.long s2)]))
  refine own_fwd (fun tt kt => XS.lstore X114.here hx rfl (hb hby at_100) rfl (l' := #[.val (.int p0), .val (.int p1), .val (.int p2), .val (.int p3), .val (.int va), .val (.int vb), .val (.int vc), .val (.int fa), .val (.int fb), .val (.int fc), .val (.ref b109), .val (.int z1), .val (.long s1), .second, .val (.int z2), .val (.long s2), .second, .unset, .unset, .unset, .unset, .unset, .unset, .unset, .unset, .unset, .unset, .unset, .unset, .unset, .unset, .unset, .unset, .unset, .unset, .unset, .unset, .unset, .unset, .unset, .unset]) rfl kt) ?_
  show own_R p.tables e below P (T114.setTop (mkF m 102 #[.val (.int p0), .val (.int p1), .val (.int p2), .val (.int p3), .val (.int va), .val (.int vb), .val (.int vc), .val (.int fa), .val (.int fb), .val (.int fc), .val (.ref b109), .val (.int z1), .val (.long s1), .second, .val (.int z2), .val (.long s2), .second, .unset, .unset, .unset, .unset, .unset, .unset, .unset, .unset, .unset, .unset, .unset, .unset, .unset, .unset, .unset, .unset, .unset, .unset, .unset, .unset, .unset, .unset, .unset, .unset] []))
  refine own_fwd (fun tt kt => XS.aload X114.here hx rfl (hb hby at_102) rfl rfl kt) ?_
  show own_R p.tables e below P (T114.setTop (mkF m 104 #[.val (.int p0), .val (.int p1), .val (.int p2), .val (.int p3), .val (.int va), .val (.int vb), .val (.int vc), .val (.int fa), .val (.int fb), .val (.int fc), .val (.ref b109), .val (.int z1), .val (.long s1), .second, .val (.int z2), .val (.long s2), .second, .unset, .unset, .unset, .unset, .unset, .unset, .unset, .unset, .unset, .unset, .unset, .unset, .unset, .unset, .unset, .unset, .unset, .unset, .unset, .unset, .unset, .unset, .unset, .unset] [(.ref b109)]))
  refine own_fwd (fun tt kt => XS.iload X114.here hx rfl (hb hby at_104) rfl kt) ?_
  show own_R p.tables e below P (T114.setTop (mkF m 106 #[.val (.int p0), .val (.int p1), .val (.int p2), .val (.int p3), .val (.int va), .val (.int vb), .val (.int vc), .val (.int fa), .val (.int fb), .val (.int fc), .val (.ref b109), .val (.int z1), .val (.long s1), .second, .val (.int z2), .val (.long s2), .second, .unset, .unset, .unset, .unset, .unset, .unset, .unset, .unset, .unset, .unset, .unset, .unset, .unset, .unset, .unset, .unset, .unset, .unset, .unset, .unset, .unset, .unset, .unset, .unset] [(.int vc), (.ref b109)]))
  refine own_fwd (fun tt kt => XS.iload X114.here hx rfl (hb hby at_106) rfl kt) ?_
  show own_R p.tables e below P (T114.setTop (mkF m 108 #[.val (.int p0), .val (.int p1), .val (.int p2), .val (.int p3), .val (.int va), .val (.int vb), .val (.int vc), .val (.int fa), .val (.int fb), .val (.int fc), .val (.ref b109), .val (.int z1), .val (.long s1), .second, .val (.int z2), .val (.long s2), .second, .unset, .unset, .unset, .unset, .unset, .unset, .unset, .unset, .unset, .unset, .unset, .unset, .unset, .unset, .unset, .unset, .unset, .unset, .unset, .unset, .unset, .unset, .unset, .unset] [(.int fc), (.int vc), (.ref b109)]))
  obtain ⟨cq115, kq115, q115a, q115b, q115c⟩ := isOf hZ e114 E113_
  obtain ⟨_, _, ⟨T115, L115, k115, n115⟩, -, X115, ⟨Lc115, hQ115, l115, y115, z115⟩, st115⟩ := X114.virtualBack hx (y := (⟨"com/example/erpctl/erpctl/connectors/yallav/ListPlace", "moveOn", "(IZ)Z"⟩ : MethodName)) (z := (⟨"com/example/erpctl/erpctl/connectors/yallav/ListPlace", "moveOn", "(IZ)Z"⟩ : MethodName)) hown (mvT hZ (hw _ (List.mem_of_getElem? (i := 104) rfl))) (mvT hZ (hw _ (List.mem_of_getElem? (i := 105) rfl))) (notFace_of_selects (args := #[]) (mvT hZ (hw _ (List.mem_of_getElem? (i := 107) rfl)))) (mvT hZ (hw _ (List.mem_of_getElem? (i := 107) rfl))) (mvT hZ (hw _ (List.mem_of_getElem? (i := 106) rfl))) (by decide) (backOf (W := 0) (own_rm15 l Z a0 hw [] b109 vc fc s2 r2 l2 h113 n0 Z113 E113_ G113_ H113_ I113_ J113_ ge_b109 o_vc (by have q0 := own_j0; omega) (by have q0 := own_j0; omega) (by have q0 := own_j0; omega) (by have q0 := own_j0; omega)) hZ (hw _ (List.mem_of_getElem? (i := 108) rfl)) (hw _ (List.mem_of_getElem? (i := 3) rfl)) (by decide) (by decide)) q115a q115c (g := (mkF m 108 #[.val (.int p0), .val (.int p1), .val (.int p2), .val (.int p3), .val (.int va), .val (.int vb), .val (.int vc), .val (.int fa), .val (.int fb), .val (.int fc), .val (.ref b109), .val (.int z1), .val (.long s1), .second, .val (.int z2), .val (.long s2), .second, .unset, .unset, .unset, .unset, .unset, .unset, .unset, .unset, .unset, .unset, .unset, .unset, .unset, .unset, .unset, .unset, .unset, .unset, .unset, .unset, .unset, .unset, .unset, .unset] [(.int fc), (.int vc), (.ref b109)])) rfl (by rw [hml]; rfl) (Steps.refl _) (argsL := [(.int vc), (.int fc)]) (rest := []) (lenOf own_pd6 rfl) rfl (by show 2 * 0 + _ ≤ _; exact Nat.le_of_eq rfl) (hb hby at_108) (fun _ _ => ⟨rfl, e114, (by decide : 7 + 0 ≤ _), (by decide : 43 + 0 ≤ _)⟩)
  dsimp only [Pt.U, Pt.locs, Pt.cells, Pt.slots] at X115 l115 y115 z115 st115 hQ115
  subst l115 y115 z115
  obtain ⟨h115, e115⟩ : ∃ z, T115.heap = z := ⟨_, rfl⟩
  rw [e115] at hQ115
  obtain ⟨z3, s3, r3, l3, hq115, N115q, K115, M3, E115_, G115_, H115_, I115_, J115_⟩ := hQ115
  subst hq115
  have N115 := Fr.app N114 N115q
  have E113__x115 := E113_.keep K115
  have Z115 : n0 ≤ h115.size := Nat.le_trans Z113 K115.1
  have Y115 : h0.size ≤ h115.size := Nat.le_trans Y113 K115.1
  have ms3 := M3.1
  have mr3 : r3.toInt = r2.toInt ∨ r3.toInt = s3.toInt := by
    rcases Classical.em (fc = 0) with q | q
    · exact Or.inl (by rw [(M3.2.1 q).1])
    · exact Or.inr (by rw [(M3.2.2.1 q).1])
  refine own_trn st115 ?_
  show own_R p.tables e below P (T115.setTop (mkF m 111 #[.val (.int p0), .val (.int p1), .val (.int p2), .val (.int p3), .val (.int va), .val (.int vb), .val (.int vc), .val (.int fa), .val (.int fb), .val (.int fc), .val (.ref b109), .val (.int z1), .val (.long s1), .second, .val (.int z2), .val (.long s2), .second, .unset, .unset, .unset, .unset, .unset, .unset, .unset, .unset, .unset, .unset, .unset, .unset, .unset, .unset, .unset, .unset, .unset, .unset, .unset, .unset, .unset, .unset, .unset, .unset] [(.int z3)]))
  refine own_fwd (fun tt kt => XS.istore X115.here hx rfl (hb hby at_111) rfl (l' := #[.val (.int p0), .val (.int p1), .val (.int p2), .val (.int p3), .val (.int va), .val (.int vb), .val (.int vc), .val (.int fa), .val (.int fb), .val (.int fc), .val (.ref b109), .val (.int z1), .val (.long s1), .second, .val (.int z2), .val (.long s2), .second, .val (.int z3), .unset, .unset, .unset, .unset, .unset, .unset, .unset, .unset, .unset, .unset, .unset, .unset, .unset, .unset, .unset, .unset, .unset, .unset, .unset, .unset, .unset, .unset, .unset]) rfl kt) ?_
  show own_R p.tables e below P (T115.setTop (mkF m 113 #[.val (.int p0), .val (.int p1), .val (.int p2), .val (.int p3), .val (.int va), .val (.int vb), .val (.int vc), .val (.int fa), .val (.int fb), .val (.int fc), .val (.ref b109), .val (.int z1), .val (.long s1), .second, .val (.int z2), .val (.long s2), .second, .val (.int z3), .unset, .unset, .unset, .unset, .unset, .unset, .unset, .unset, .unset, .unset, .unset, .unset, .unset, .unset, .unset, .unset, .unset, .unset, .unset, .unset, .unset, .unset, .unset] []))
  refine own_fwd (fun tt kt => XS.aload X115.here hx rfl (hb hby at_113) rfl rfl kt) ?_
  show own_R p.tables e below P (T115.setTop (mkF m 115 #[.val (.int p0), .val (.int p1), .val (.int p2), .val (.int p3), .val (.int va), .val (.int vb), .val (.int vc), .val (.int fa), .val (.int fb), .val (.int fc), .val (.ref b109), .val (.int z1), .val (.long s1), .second, .val (.int z2), .val (.long s2), .second, .val (.int z3), .unset, .unset, .unset, .unset, .unset, .unset, .unset, .unset, .unset, .unset, .unset, .unset, .unset, .unset, .unset, .unset, .unset, .unset, .unset, .unset, .unset, .unset, .unset] [(.ref b109)]))
  obtain ⟨cq116, kq116, q116a, q116b, q116c⟩ := isOf hZ e115 E115_
  obtain ⟨_, _, ⟨T116, L116, k116, n116⟩, -, X116, ⟨Lc116, hQ116, l116, y116, z116⟩, st116⟩ := X115.virtualBack hx (y := (⟨"com/example/erpctl/erpctl/connectors/yallav/ListPlace", "skip", "()J"⟩ : MethodName)) (z := (⟨"com/example/erpctl/erpctl/connectors/yallav/ListPlace", "skip", "()J"⟩ : MethodName)) hown (mvT hZ (hw _ (List.mem_of_getElem? (i := 116) rfl))) (mvT hZ (hw _ (List.mem_of_getElem? (i := 117) rfl))) (notFace_of_selects (args := #[]) (mvT hZ (hw _ (List.mem_of_getElem? (i := 119) rfl)))) (mvT hZ (hw _ (List.mem_of_getElem? (i := 119) rfl))) (mvT hZ (hw _ (List.mem_of_getElem? (i := 118) rfl))) (by decide) (backOf (W := 0) (own_rm16 l Z a0 hw [] b109 s3 h115 n0 Z115 E115_ H115_ ge_b109) hZ (hw _ (List.mem_of_getElem? (i := 120) rfl)) (hw _ (List.mem_of_getElem? (i := 3) rfl)) (by decide) (by decide)) q116a q116c (g := (mkF m 115 #[.val (.int p0), .val (.int p1), .val (.int p2), .val (.int p3), .val (.int va), .val (.int vb), .val (.int vc), .val (.int fa), .val (.int fb), .val (.int fc), .val (.ref b109), .val (.int z1), .val (.long s1), .second, .val (.int z2), .val (.long s2), .second, .val (.int z3), .unset, .unset, .unset, .unset, .unset, .unset, .unset, .unset, .unset, .unset, .unset, .unset, .unset, .unset, .unset, .unset, .unset, .unset, .unset, .unset, .unset, .unset, .unset] [(.ref b109)])) rfl (by rw [hml]; rfl) (Steps.refl _) (argsL := []) (rest := []) (lenOf own_pd7 rfl) rfl (by show 2 * 0 + _ ≤ _; exact Nat.le_of_eq rfl) (hb hby at_115) (fun _ _ => ⟨rfl, e115, (by decide : 7 + 0 ≤ _), (by decide : 43 + 0 ≤ _)⟩)
  dsimp only [Pt.U, Pt.locs, Pt.cells, Pt.slots] at X116 l116 y116 z116 st116 hQ116
  subst l116 y116 z116
  obtain ⟨h116, e116⟩ : ∃ z, T116.heap = z := ⟨_, rfl⟩
  rw [e116] at hQ116
  obtain ⟨hq116, N116q, q116⟩ := hQ116
  rw [q116] at e116
  subst hq116
  have N116 := Fr.app N115 N116q
  refine own_trn st116 ?_
  show own_R p.tables e below P (T116.setTop (mkF m 118 #[.val (.int p0), .val (.int p1), .val (.int p2), .val (.int p3), .val (.int va), .val (.int vb), .val (.int vc), .val (.int fa), .val (.int fb), .val (.int fc), .val (.ref b109), .val (.int z1), .val (.long s1), .second, .val (.int z2), .val (.long s2), .second, .val (.int z3), .unset, .unset, .unset, .unset, .unset, .unset, .unset, .unset, .unset, .unset, .unset, .unset, .unset, .unset, .unset, .unset, .unset, .unset, .unset, .unset, .unset, .unset, .unset] [(.long s3)]))
  refine own_fwd (fun tt kt => XS.lstore X116.here hx rfl (hb hby at_118) rfl (l' := #[.val (.int p0), .val (.int p1), .val (.int p2), .val (.int p3), .val (.int va), .val (.int vb), .val (.int vc), .val (.int fa), .val (.int fb), .val (.int fc), .val (.ref b109), .val (.int z1), .val (.long s1), .second, .val (.int z2), .val (.long s2), .second, .val (.int z3), .val (.long s3), .second, .unset, .unset, .unset, .unset, .unset, .unset, .unset, .unset, .unset, .unset, .unset, .unset, .unset, .unset, .unset, .unset, .unset, .unset, .unset, .unset, .unset]) rfl kt) ?_
  show own_R p.tables e below P (T116.setTop (mkF m 120 #[.val (.int p0), .val (.int p1), .val (.int p2), .val (.int p3), .val (.int va), .val (.int vb), .val (.int vc), .val (.int fa), .val (.int fb), .val (.int fc), .val (.ref b109), .val (.int z1), .val (.long s1), .second, .val (.int z2), .val (.long s2), .second, .val (.int z3), .val (.long s3), .second, .unset, .unset, .unset, .unset, .unset, .unset, .unset, .unset, .unset, .unset, .unset, .unset, .unset, .unset, .unset, .unset, .unset, .unset, .unset, .unset, .unset] []))
  refine own_fwd (fun tt kt => XS.aload X116.here hx rfl (hb hby at_120) rfl rfl kt) ?_
  show own_R p.tables e below P (T116.setTop (mkF m 122 #[.val (.int p0), .val (.int p1), .val (.int p2), .val (.int p3), .val (.int va), .val (.int vb), .val (.int vc), .val (.int fa), .val (.int fb), .val (.int fc), .val (.ref b109), .val (.int z1), .val (.long s1), .second, .val (.int z2), .val (.long s2), .second, .val (.int z3), .val (.long s3), .second, .unset, .unset, .unset, .unset, .unset, .unset, .unset, .unset, .unset, .unset, .unset, .unset, .unset, .unset, .unset, .unset, .unset, .unset, .unset, .unset, .unset] [(.ref b109)]))
  have lb : -10000000000 ≤ l3.toInt ∧ l3.toInt ≤ 10000000000 := by
    have j0 := own_j0
    rcases Classical.em (fc = 0) with q | q
    · rw [(M3.2.1 q).2]
      rcases Classical.em (fb = 0) with q | q
      · rw [(M2.2.1 q).2]
        rcases Classical.em (fa = 0) with q | q
        · rw [(M1.2.1 q).2]; omega
        · rw [(M1.2.2.1 q).2]; omega
      · rw [(M2.2.2.1 q).2]; omega
    · rw [(M3.2.2.1 q).2]; omega
  obtain ⟨cq117, kq117, q117a, q117b, q117c⟩ := isOf hZ e116 E115_
  obtain ⟨_, _, ⟨T117, L117, k117, n117⟩, -, X117, ⟨Lc117, hQ117, l117, y117, z117⟩, st117⟩ := X116.virtualBack hx (y := (⟨"com/example/erpctl/erpctl/connectors/yallav/ListPlace", "lookFurtherBack", "()Z"⟩ : MethodName)) (z := (⟨"com/example/erpctl/erpctl/connectors/yallav/ListPlace", "lookFurtherBack", "()Z"⟩ : MethodName)) hown (mvT hZ (hw _ (List.mem_of_getElem? (i := 121) rfl))) (mvT hZ (hw _ (List.mem_of_getElem? (i := 122) rfl))) (notFace_of_selects (args := #[]) (mvT hZ (hw _ (List.mem_of_getElem? (i := 124) rfl)))) (mvT hZ (hw _ (List.mem_of_getElem? (i := 124) rfl))) (mvT hZ (hw _ (List.mem_of_getElem? (i := 123) rfl))) (by decide) (backOf (W := 0) (own_rm17 l Z a0 hw [] b109 s3 r3 l3 h115 n0 Z115 E115_ G115_ H115_ I115_ J115_ ge_b109 (by have q0 := own_j0; omega) (by have q0 := own_j0; omega) lb.1 lb.2) hZ (hw _ (List.mem_of_getElem? (i := 125) rfl)) (hw _ (List.mem_of_getElem? (i := 3) rfl)) (by decide) (by decide)) q117a q117c (g := (mkF m 122 #[.val (.int p0), .val (.int p1), .val (.int p2), .val (.int p3), .val (.int va), .val (.int vb), .val (.int vc), .val (.int fa), .val (.int fb), .val (.int fc), .val (.ref b109), .val (.int z1), .val (.long s1), .second, .val (.int z2), .val (.long s2), .second, .val (.int z3), .val (.long s3), .second, .unset, .unset, .unset, .unset, .unset, .unset, .unset, .unset, .unset, .unset, .unset, .unset, .unset, .unset, .unset, .unset, .unset, .unset, .unset, .unset, .unset] [(.ref b109)])) rfl (by rw [hml]; rfl) (Steps.refl _) (argsL := []) (rest := []) (lenOf own_pd8 rfl) rfl (by show 2 * 0 + _ ≤ _; exact Nat.le_of_eq rfl) (hb hby at_122) (fun _ _ => ⟨rfl, e116, (by decide : 7 + 0 ≤ _), (by decide : 43 + 0 ≤ _)⟩)
  dsimp only [Pt.U, Pt.locs, Pt.cells, Pt.slots] at X117 l117 y117 z117 st117 hQ117
  subst l117 y117 z117
  obtain ⟨h117, e117⟩ : ∃ z, T117.heap = z := ⟨_, rfl⟩
  rw [e117] at hQ117
  obtain ⟨z4, s4, hq117, N117q, K117, M4, G117_, E117_⟩ := hQ117
  subst hq117
  have N117 := Fr.app N116 N117q
  have E115__x117 := E115_.keep K117
  have Z117 : n0 ≤ h117.size := Nat.le_trans Z115 K117.1
  have Y117 : h0.size ≤ h117.size := Nat.le_trans Y115 K117.1
  refine own_trn st117 ?_
  show own_R p.tables e below P (T117.setTop (mkF m 125 #[.val (.int p0), .val (.int p1), .val (.int p2), .val (.int p3), .val (.int va), .val (.int vb), .val (.int vc), .val (.int fa), .val (.int fb), .val (.int fc), .val (.ref b109), .val (.int z1), .val (.long s1), .second, .val (.int z2), .val (.long s2), .second, .val (.int z3), .val (.long s3), .second, .unset, .unset, .unset, .unset, .unset, .unset, .unset, .unset, .unset, .unset, .unset, .unset, .unset, .unset, .unset, .unset, .unset, .unset, .unset, .unset, .unset] [(.int z4)]))
  refine own_fwd (fun tt kt => XS.istore X117.here hx rfl (hb hby at_125) rfl (l' := #[.val (.int p0), .val (.int p1), .val (.int p2), .val (.int p3), .val (.int va), .val (.int vb), .val (.int vc), .val (.int fa), .val (.int fb), .val (.int fc), .val (.ref b109), .val (.int z1), .val (.long s1), .second, .val (.int z2), .val (.long s2), .second, .val (.int z3), .val (.long s3), .second, .val (.int z4), .unset, .unset, .unset, .unset, .unset, .unset, .unset, .unset, .unset, .unset, .unset, .unset, .unset, .unset, .unset, .unset, .unset, .unset, .unset, .unset]) rfl kt) ?_
  show own_R p.tables e below P (T117.setTop (mkF m 127 #[.val (.int p0), .val (.int p1), .val (.int p2), .val (.int p3), .val (.int va), .val (.int vb), .val (.int vc), .val (.int fa), .val (.int fb), .val (.int fc), .val (.ref b109), .val (.int z1), .val (.long s1), .second, .val (.int z2), .val (.long s2), .second, .val (.int z3), .val (.long s3), .second, .val (.int z4), .unset, .unset, .unset, .unset, .unset, .unset, .unset, .unset, .unset, .unset, .unset, .unset, .unset, .unset, .unset, .unset, .unset, .unset, .unset, .unset] []))
  refine own_fwd (fun tt kt => XS.aload X117.here hx rfl (hb hby at_127) rfl rfl kt) ?_
  show own_R p.tables e below P (T117.setTop (mkF m 129 #[.val (.int p0), .val (.int p1), .val (.int p2), .val (.int p3), .val (.int va), .val (.int vb), .val (.int vc), .val (.int fa), .val (.int fb), .val (.int fc), .val (.ref b109), .val (.int z1), .val (.long s1), .second, .val (.int z2), .val (.long s2), .second, .val (.int z3), .val (.long s3), .second, .val (.int z4), .unset, .unset, .unset, .unset, .unset, .unset, .unset, .unset, .unset, .unset, .unset, .unset, .unset, .unset, .unset, .unset, .unset, .unset, .unset, .unset] [(.ref b109)]))
  obtain ⟨cq118, kq118, q118a, q118b, q118c⟩ := isOf hZ e117 E117_
  obtain ⟨_, _, ⟨T118, L118, k118, n118⟩, -, X118, ⟨Lc118, hQ118, l118, y118, z118⟩, st118⟩ := X117.virtualBack hx (y := (⟨"com/example/erpctl/erpctl/connectors/yallav/ListPlace", "skip", "()J"⟩ : MethodName)) (z := (⟨"com/example/erpctl/erpctl/connectors/yallav/ListPlace", "skip", "()J"⟩ : MethodName)) hown (mvT hZ (hw _ (List.mem_of_getElem? (i := 116) rfl))) (mvT hZ (hw _ (List.mem_of_getElem? (i := 117) rfl))) (notFace_of_selects (args := #[]) (mvT hZ (hw _ (List.mem_of_getElem? (i := 119) rfl)))) (mvT hZ (hw _ (List.mem_of_getElem? (i := 119) rfl))) (mvT hZ (hw _ (List.mem_of_getElem? (i := 118) rfl))) (by decide) (backOf (W := 0) (own_rm16 l Z a0 hw [] b109 s4 h117 n0 Z117 E117_ G117_ ge_b109) hZ (hw _ (List.mem_of_getElem? (i := 120) rfl)) (hw _ (List.mem_of_getElem? (i := 3) rfl)) (by decide) (by decide)) q118a q118c (g := (mkF m 129 #[.val (.int p0), .val (.int p1), .val (.int p2), .val (.int p3), .val (.int va), .val (.int vb), .val (.int vc), .val (.int fa), .val (.int fb), .val (.int fc), .val (.ref b109), .val (.int z1), .val (.long s1), .second, .val (.int z2), .val (.long s2), .second, .val (.int z3), .val (.long s3), .second, .val (.int z4), .unset, .unset, .unset, .unset, .unset, .unset, .unset, .unset, .unset, .unset, .unset, .unset, .unset, .unset, .unset, .unset, .unset, .unset, .unset, .unset] [(.ref b109)])) rfl (by rw [hml]; rfl) (Steps.refl _) (argsL := []) (rest := []) (lenOf own_pd7 rfl) rfl (by show 2 * 0 + _ ≤ _; exact Nat.le_of_eq rfl) (hb hby at_129) (fun _ _ => ⟨rfl, e117, (by decide : 7 + 0 ≤ _), (by decide : 43 + 0 ≤ _)⟩)
  dsimp only [Pt.U, Pt.locs, Pt.cells, Pt.slots] at X118 l118 y118 z118 st118 hQ118
  subst l118 y118 z118
  obtain ⟨h118, e118⟩ : ∃ z, T118.heap = z := ⟨_, rfl⟩
  rw [e118] at hQ118
  obtain ⟨hq118, N118q, q118⟩ := hQ118
  rw [q118] at e118
  subst hq118
  have N118 := Fr.app N117 N118q
  refine own_trn st118 ?_
  show own_R p.tables e below P (T118.setTop (mkF m 132 #[.val (.int p0), .val (.int p1), .val (.int p2), .val (.int p3), .val (.int va), .val (.int vb), .val (.int vc), .val (.int fa), .val (.int fb), .val (.int fc), .val (.ref b109), .val (.int z1), .val (.long s1), .second, .val (.int z2), .val (.long s2), .second, .val (.int z3), .val (.long s3), .second, .val (.int z4), .unset, .unset, .unset, .unset, .unset, .unset, .unset, .unset, .unset, .unset, .unset, .unset, .unset, .unset, .unset, .unset, .unset, .unset, .unset, .unset] [(.long s4)]))
  refine own_fwd (fun tt kt => XS.lstore X118.here hx rfl (hb hby at_132) rfl (l' := #[.val (.int p0), .val (.int p1), .val (.int p2), .val (.int p3), .val (.int va), .val (.int vb), .val (.int vc), .val (.int fa), .val (.int fb), .val (.int fc), .val (.ref b109), .val (.int z1), .val (.long s1), .second, .val (.int z2), .val (.long s2), .second, .val (.int z3), .val (.long s3), .second, .val (.int z4), .val (.long s4), .second, .unset, .unset, .unset, .unset, .unset, .unset, .unset, .unset, .unset, .unset, .unset, .unset, .unset, .unset, .unset, .unset, .unset, .unset]) rfl kt) ?_
  show own_R p.tables e below P (T118.setTop (mkF m 134 #[.val (.int p0), .val (.int p1), .val (.int p2), .val (.int p3), .val (.int va), .val (.int vb), .val (.int vc), .val (.int fa), .val (.int fb), .val (.int fc), .val (.ref b109), .val (.int z1), .val (.long s1), .second, .val (.int z2), .val (.long s2), .second, .val (.int z3), .val (.long s3), .second, .val (.int z4), .val (.long s4), .second, .unset, .unset, .unset, .unset, .unset, .unset, .unset, .unset, .unset, .unset, .unset, .unset, .unset, .unset, .unset, .unset, .unset, .unset] []))
  refine own_fwd (fun tt kt => XS.iload X118.here hx rfl (hb hby at_134) rfl kt) ?_
  show own_R p.tables e below P (T118.setTop (mkF m 136 #[.val (.int p0), .val (.int p1), .val (.int p2), .val (.int p3), .val (.int va), .val (.int vb), .val (.int vc), .val (.int fa), .val (.int fb), .val (.int fc), .val (.ref b109), .val (.int z1), .val (.long s1), .second, .val (.int z2), .val (.long s2), .second, .val (.int z3), .val (.long s3), .second, .val (.int z4), .val (.long s4), .second, .unset, .unset, .unset, .unset, .unset, .unset, .unset, .unset, .unset, .unset, .unset, .unset, .unset, .unset, .unset, .unset, .unset, .unset] [(.int va)]))
  refine own_fwd (fun tt kt => XS.i2l X118.here hx rfl (hb hby at_136) rfl kt) ?_
  show own_R p.tables e below P (T118.setTop (mkF m 137 #[.val (.int p0), .val (.int p1), .val (.int p2), .val (.int p3), .val (.int va), .val (.int vb), .val (.int vc), .val (.int fa), .val (.int fb), .val (.int fc), .val (.ref b109), .val (.int z1), .val (.long s1), .second, .val (.int z2), .val (.long s2), .second, .val (.int z3), .val (.long s3), .second, .val (.int z4), .val (.long s4), .second, .unset, .unset, .unset, .unset, .unset, .unset, .unset, .unset, .unset, .unset, .unset, .unset, .unset, .unset, .unset, .unset, .unset, .unset] [(.long (va.toInt64))]))
  refine own_fwd (fun tt kt => XS.lconst X118.here hx rfl (hb hby at_137) kt) ?_
  show own_R p.tables e below P (T118.setTop (mkF m 138 #[.val (.int p0), .val (.int p1), .val (.int p2), .val (.int p3), .val (.int va), .val (.int vb), .val (.int vc), .val (.int fa), .val (.int fb), .val (.int fc), .val (.ref b109), .val (.int z1), .val (.long s1), .second, .val (.int z2), .val (.long s2), .second, .val (.int z3), .val (.long s3), .second, .val (.int z4), .val (.long s4), .second, .unset, .unset, .unset, .unset, .unset, .unset, .unset, .unset, .unset, .unset, .unset, .unset, .unset, .unset, .unset, .unset, .unset, .unset] [(.long (1 : Int64)), (.long (va.toInt64))]))
  refine own_fwd (fun tt kt => XS.lsub X118.here hx rfl (hb hby at_138) rfl kt) ?_
  show own_R p.tables e below P (T118.setTop (mkF m 139 #[.val (.int p0), .val (.int p1), .val (.int p2), .val (.int p3), .val (.int va), .val (.int vb), .val (.int vc), .val (.int fa), .val (.int fb), .val (.int fc), .val (.ref b109), .val (.int z1), .val (.long s1), .second, .val (.int z2), .val (.long s2), .second, .val (.int z3), .val (.long s3), .second, .val (.int z4), .val (.long s4), .second, .unset, .unset, .unset, .unset, .unset, .unset, .unset, .unset, .unset, .unset, .unset, .unset, .unset, .unset, .unset, .unset, .unset, .unset] [(.long ((va.toInt64) - (1 : Int64)))]))
  have t1 := own_dec va
  obtain ⟨ea, hg_ea⟩ : ∃ z, ((va.toInt64) - (1 : Int64)) = z := ⟨_, rfl⟩
  rw [hg_ea]
  show own_R p.tables e below P (T118.setTop (mkF m 139 #[.val (.int p0), .val (.int p1), .val (.int p2), .val (.int p3), .val (.int va), .val (.int vb), .val (.int vc), .val (.int fa), .val (.int fb), .val (.int fc), .val (.ref b109), .val (.int z1), .val (.long s1), .second, .val (.int z2), .val (.long s2), .second, .val (.int z3), .val (.long s3), .second, .val (.int z4), .val (.long s4), .second, .unset, .unset, .unset, .unset, .unset, .unset, .unset, .unset, .unset, .unset, .unset, .unset, .unset, .unset, .unset, .unset, .unset, .unset] [(.long ea)]))
  rw [hg_ea] at t1
  refine own_fwd (fun tt kt => XS.lstore X118.here hx rfl (hb hby at_139) rfl (l' := #[.val (.int p0), .val (.int p1), .val (.int p2), .val (.int p3), .val (.int va), .val (.int vb), .val (.int vc), .val (.int fa), .val (.int fb), .val (.int fc), .val (.ref b109), .val (.int z1), .val (.long s1), .second, .val (.int z2), .val (.long s2), .second, .val (.int z3), .val (.long s3), .second, .val (.int z4), .val (.long s4), .second, .val (.long ea), .second, .unset, .unset, .unset, .unset, .unset, .unset, .unset, .unset, .unset, .unset, .unset, .unset, .unset, .unset, .unset, .unset]) rfl kt) ?_
  show own_R p.tables e below P (T118.setTop (mkF m 141 #[.val (.int p0), .val (.int p1), .val (.int p2), .val (.int p3), .val (.int va), .val (.int vb), .val (.int vc), .val (.int fa), .val (.int fb), .val (.int fc), .val (.ref b109), .val (.int z1), .val (.long s1), .second, .val (.int z2), .val (.long s2), .second, .val (.int z3), .val (.long s3), .second, .val (.int z4), .val (.long s4), .second, .val (.long ea), .second, .unset, .unset, .unset, .unset, .unset, .unset, .unset, .unset, .unset, .unset, .unset, .unset, .unset, .unset, .unset, .unset] []))
  refine own_fwd (fun tt kt => XS.lload X118.here hx rfl (hb hby at_141) rfl kt) ?_
  show own_R p.tables e below P (T118.setTop (mkF m 143 #[.val (.int p0), .val (.int p1), .val (.int p2), .val (.int p3), .val (.int va), .val (.int vb), .val (.int vc), .val (.int fa), .val (.int fb), .val (.int fc), .val (.ref b109), .val (.int z1), .val (.long s1), .second, .val (.int z2), .val (.long s2), .second, .val (.int z3), .val (.long s3), .second, .val (.int z4), .val (.long s4), .second, .val (.long ea), .second, .unset, .unset, .unset, .unset, .unset, .unset, .unset, .unset, .unset, .unset, .unset, .unset, .unset, .unset, .unset, .unset] [(.long ea)]))
  refine own_fwd (fun tt kt => XS.iload X118.here hx rfl (hb hby at_143) rfl kt) ?_
  show own_R p.tables e below P (T118.setTop (mkF m 145 #[.val (.int p0), .val (.int p1), .val (.int p2), .val (.int p3), .val (.int va), .val (.int vb), .val (.int vc), .val (.int fa), .val (.int fb), .val (.int fc), .val (.ref b109), .val (.int z1), .val (.long s1), .second, .val (.int z2), .val (.long s2), .second, .val (.int z3), .val (.long s3), .second, .val (.int z4), .val (.long s4), .second, .val (.long ea), .second, .unset, .unset, .unset, .unset, .unset, .unset, .unset, .unset, .unset, .unset, .unset, .unset, .unset, .unset, .unset, .unset] [(.int vb), (.long ea)]))
  refine own_fwd (fun tt kt => XS.i2l X118.here hx rfl (hb hby at_145) rfl kt) ?_
  show own_R p.tables e below P (T118.setTop (mkF m 146 #[.val (.int p0), .val (.int p1), .val (.int p2), .val (.int p3), .val (.int va), .val (.int vb), .val (.int vc), .val (.int fa), .val (.int fb), .val (.int fc), .val (.ref b109), .val (.int z1), .val (.long s1), .second, .val (.int z2), .val (.long s2), .second, .val (.int z3), .val (.long s3), .second, .val (.int z4), .val (.long s4), .second, .val (.long ea), .second, .unset, .unset, .unset, .unset, .unset, .unset, .unset, .unset, .unset, .unset, .unset, .unset, .unset, .unset, .unset, .unset] [(.long (vb.toInt64)), (.long ea)]))
  refine own_fwd (fun tt kt => XS.lconst X118.here hx rfl (hb hby at_146) kt) ?_
  show own_R p.tables e below P (T118.setTop (mkF m 147 #[.val (.int p0), .val (.int p1), .val (.int p2), .val (.int p3), .val (.int va), .val (.int vb), .val (.int vc), .val (.int fa), .val (.int fb), .val (.int fc), .val (.ref b109), .val (.int z1), .val (.long s1), .second, .val (.int z2), .val (.long s2), .second, .val (.int z3), .val (.long s3), .second, .val (.int z4), .val (.long s4), .second, .val (.long ea), .second, .unset, .unset, .unset, .unset, .unset, .unset, .unset, .unset, .unset, .unset, .unset, .unset, .unset, .unset, .unset, .unset] [(.long (1 : Int64)), (.long (vb.toInt64)), (.long ea)]))
  refine own_fwd (fun tt kt => XS.lsub X118.here hx rfl (hb hby at_147) rfl kt) ?_
  show own_R p.tables e below P (T118.setTop (mkF m 148 #[.val (.int p0), .val (.int p1), .val (.int p2), .val (.int p3), .val (.int va), .val (.int vb), .val (.int vc), .val (.int fa), .val (.int fb), .val (.int fc), .val (.ref b109), .val (.int z1), .val (.long s1), .second, .val (.int z2), .val (.long s2), .second, .val (.int z3), .val (.long s3), .second, .val (.int z4), .val (.long s4), .second, .val (.long ea), .second, .unset, .unset, .unset, .unset, .unset, .unset, .unset, .unset, .unset, .unset, .unset, .unset, .unset, .unset, .unset, .unset] [(.long ((vb.toInt64) - (1 : Int64))), (.long ea)]))
  refine own_fwd (fun tt kt => XS.ladd X118.here hx rfl (hb hby at_148) rfl kt) ?_
  show own_R p.tables e below P (T118.setTop (mkF m 149 #[.val (.int p0), .val (.int p1), .val (.int p2), .val (.int p3), .val (.int va), .val (.int vb), .val (.int vc), .val (.int fa), .val (.int fb), .val (.int fc), .val (.ref b109), .val (.int z1), .val (.long s1), .second, .val (.int z2), .val (.long s2), .second, .val (.int z3), .val (.long s3), .second, .val (.int z4), .val (.long s4), .second, .val (.long ea), .second, .unset, .unset, .unset, .unset, .unset, .unset, .unset, .unset, .unset, .unset, .unset, .unset, .unset, .unset, .unset, .unset] [(.long (ea + ((vb.toInt64) - (1 : Int64))))]))
  have t2 := own_addL ea (vb.toInt64 - (1 : Int64)) (by omega) (by omega) (by rw [own_dec]; omega) (by rw [own_dec]; omega)
  rw [own_dec] at t2
  obtain ⟨eb, hg_eb⟩ : ∃ z, (ea + ((vb.toInt64) - (1 : Int64))) = z := ⟨_, rfl⟩
  rw [hg_eb]
  show own_R p.tables e below P (T118.setTop (mkF m 149 #[.val (.int p0), .val (.int p1), .val (.int p2), .val (.int p3), .val (.int va), .val (.int vb), .val (.int vc), .val (.int fa), .val (.int fb), .val (.int fc), .val (.ref b109), .val (.int z1), .val (.long s1), .second, .val (.int z2), .val (.long s2), .second, .val (.int z3), .val (.long s3), .second, .val (.int z4), .val (.long s4), .second, .val (.long ea), .second, .unset, .unset, .unset, .unset, .unset, .unset, .unset, .unset, .unset, .unset, .unset, .unset, .unset, .unset, .unset, .unset] [(.long eb)]))
  rw [hg_eb] at t2
  refine own_fwd (fun tt kt => XS.lstore X118.here hx rfl (hb hby at_149) rfl (l' := #[.val (.int p0), .val (.int p1), .val (.int p2), .val (.int p3), .val (.int va), .val (.int vb), .val (.int vc), .val (.int fa), .val (.int fb), .val (.int fc), .val (.ref b109), .val (.int z1), .val (.long s1), .second, .val (.int z2), .val (.long s2), .second, .val (.int z3), .val (.long s3), .second, .val (.int z4), .val (.long s4), .second, .val (.long ea), .second, .val (.long eb), .second, .unset, .unset, .unset, .unset, .unset, .unset, .unset, .unset, .unset, .unset, .unset, .unset, .unset, .unset]) rfl kt) ?_
  show own_R p.tables e below P (T118.setTop (mkF m 151 #[.val (.int p0), .val (.int p1), .val (.int p2), .val (.int p3), .val (.int va), .val (.int vb), .val (.int vc), .val (.int fa), .val (.int fb), .val (.int fc), .val (.ref b109), .val (.int z1), .val (.long s1), .second, .val (.int z2), .val (.long s2), .second, .val (.int z3), .val (.long s3), .second, .val (.int z4), .val (.long s4), .second, .val (.long ea), .second, .val (.long eb), .second, .unset, .unset, .unset, .unset, .unset, .unset, .unset, .unset, .unset, .unset, .unset, .unset, .unset, .unset] []))
  refine own_fwd (fun tt kt => XS.lload X118.here hx rfl (hb hby at_151) rfl kt) ?_
  show own_R p.tables e below P (T118.setTop (mkF m 153 #[.val (.int p0), .val (.int p1), .val (.int p2), .val (.int p3), .val (.int va), .val (.int vb), .val (.int vc), .val (.int fa), .val (.int fb), .val (.int fc), .val (.ref b109), .val (.int z1), .val (.long s1), .second, .val (.int z2), .val (.long s2), .second, .val (.int z3), .val (.long s3), .second, .val (.int z4), .val (.long s4), .second, .val (.long ea), .second, .val (.long eb), .second, .unset, .unset, .unset, .unset, .unset, .unset, .unset, .unset, .unset, .unset, .unset, .unset, .unset, .unset] [(.long eb)]))
  refine own_fwd (fun tt kt => XS.iload X118.here hx rfl (hb hby at_153) rfl kt) ?_
  show own_R p.tables e below P (T118.setTop (mkF m 155 #[.val (.int p0), .val (.int p1), .val (.int p2), .val (.int p3), .val (.int va), .val (.int vb), .val (.int vc), .val (.int fa), .val (.int fb), .val (.int fc), .val (.ref b109), .val (.int z1), .val (.long s1), .second, .val (.int z2), .val (.long s2), .second, .val (.int z3), .val (.long s3), .second, .val (.int z4), .val (.long s4), .second, .val (.long ea), .second, .val (.long eb), .second, .unset, .unset, .unset, .unset, .unset, .unset, .unset, .unset, .unset, .unset, .unset, .unset, .unset, .unset] [(.int vc), (.long eb)]))
  refine own_fwd (fun tt kt => XS.i2l X118.here hx rfl (hb hby at_155) rfl kt) ?_
  show own_R p.tables e below P (T118.setTop (mkF m 156 #[.val (.int p0), .val (.int p1), .val (.int p2), .val (.int p3), .val (.int va), .val (.int vb), .val (.int vc), .val (.int fa), .val (.int fb), .val (.int fc), .val (.ref b109), .val (.int z1), .val (.long s1), .second, .val (.int z2), .val (.long s2), .second, .val (.int z3), .val (.long s3), .second, .val (.int z4), .val (.long s4), .second, .val (.long ea), .second, .val (.long eb), .second, .unset, .unset, .unset, .unset, .unset, .unset, .unset, .unset, .unset, .unset, .unset, .unset, .unset, .unset] [(.long (vc.toInt64)), (.long eb)]))
  refine own_fwd (fun tt kt => XS.lconst X118.here hx rfl (hb hby at_156) kt) ?_
  show own_R p.tables e below P (T118.setTop (mkF m 157 #[.val (.int p0), .val (.int p1), .val (.int p2), .val (.int p3), .val (.int va), .val (.int vb), .val (.int vc), .val (.int fa), .val (.int fb), .val (.int fc), .val (.ref b109), .val (.int z1), .val (.long s1), .second, .val (.int z2), .val (.long s2), .second, .val (.int z3), .val (.long s3), .second, .val (.int z4), .val (.long s4), .second, .val (.long ea), .second, .val (.long eb), .second, .unset, .unset, .unset, .unset, .unset, .unset, .unset, .unset, .unset, .unset, .unset, .unset, .unset, .unset] [(.long (1 : Int64)), (.long (vc.toInt64)), (.long eb)]))
  refine own_fwd (fun tt kt => XS.lsub X118.here hx rfl (hb hby at_157) rfl kt) ?_
  show own_R p.tables e below P (T118.setTop (mkF m 158 #[.val (.int p0), .val (.int p1), .val (.int p2), .val (.int p3), .val (.int va), .val (.int vb), .val (.int vc), .val (.int fa), .val (.int fb), .val (.int fc), .val (.ref b109), .val (.int z1), .val (.long s1), .second, .val (.int z2), .val (.long s2), .second, .val (.int z3), .val (.long s3), .second, .val (.int z4), .val (.long s4), .second, .val (.long ea), .second, .val (.long eb), .second, .unset, .unset, .unset, .unset, .unset, .unset, .unset, .unset, .unset, .unset, .unset, .unset, .unset, .unset] [(.long ((vc.toInt64) - (1 : Int64))), (.long eb)]))
  refine own_fwd (fun tt kt => XS.ladd X118.here hx rfl (hb hby at_158) rfl kt) ?_
  show own_R p.tables e below P (T118.setTop (mkF m 159 #[.val (.int p0), .val (.int p1), .val (.int p2), .val (.int p3), .val (.int va), .val (.int vb), .val (.int vc), .val (.int fa), .val (.int fb), .val (.int fc), .val (.ref b109), .val (.int z1), .val (.long s1), .second, .val (.int z2), .val (.long s2), .second, .val (.int z3), .val (.long s3), .second, .val (.int z4), .val (.long s4), .second, .val (.long ea), .second, .val (.long eb), .second, .unset, .unset, .unset, .unset, .unset, .unset, .unset, .unset, .unset, .unset, .unset, .unset, .unset, .unset] [(.long (eb + ((vc.toInt64) - (1 : Int64))))]))
  have t3 := own_addL eb (vc.toInt64 - (1 : Int64)) (by omega) (by omega) (by rw [own_dec]; omega) (by rw [own_dec]; omega)
  rw [own_dec] at t3
  obtain ⟨ec, hg_ec⟩ : ∃ z, (eb + ((vc.toInt64) - (1 : Int64))) = z := ⟨_, rfl⟩
  rw [hg_ec]
  show own_R p.tables e below P (T118.setTop (mkF m 159 #[.val (.int p0), .val (.int p1), .val (.int p2), .val (.int p3), .val (.int va), .val (.int vb), .val (.int vc), .val (.int fa), .val (.int fb), .val (.int fc), .val (.ref b109), .val (.int z1), .val (.long s1), .second, .val (.int z2), .val (.long s2), .second, .val (.int z3), .val (.long s3), .second, .val (.int z4), .val (.long s4), .second, .val (.long ea), .second, .val (.long eb), .second, .unset, .unset, .unset, .unset, .unset, .unset, .unset, .unset, .unset, .unset, .unset, .unset, .unset, .unset] [(.long ec)]))
  rw [hg_ec] at t3
  have S1 : s1 = ea := own_stepS M1 (by rw [t1, own_j0]; omega)
  subst S1
  have S2 : s2 = eb := own_stepS M2 (by rw [t2]; omega)
  subst S2
  have S3 : s3 = ec := own_stepS M3 (by rw [t3]; omega)
  subst S3
  have R1 := own_stepR M1
  have R2 := own_stepR M2
  have R3 := own_stepR M3
  show own_R p.tables e below P (T118.setTop (mkF m 159 #[.val (.int p0), .val (.int p1), .val (.int p2), .val (.int p3), .val (.int va), .val (.int vb), .val (.int vc), .val (.int fa), .val (.int fb), .val (.int fc), .val (.ref b109), .val (.int z1), .val (.long s1), .second, .val (.int z2), .val (.long s2), .second, .val (.int z3), .val (.long s3), .second, .val (.int z4), .val (.long s4), .second, .val (.long s1), .second, .val (.long s2), .second, .unset, .unset, .unset, .unset, .unset, .unset, .unset, .unset, .unset, .unset, .unset, .unset, .unset, .unset] [(.long s3)]))
  refine own_fwd (fun tt kt => XS.lstore X118.here hx rfl (hb hby at_159) rfl (l' := #[.val (.int p0), .val (.int p1), .val (.int p2), .val (.int p3), .val (.int va), .val (.int vb), .val (.int vc), .val (.int fa), .val (.int fb), .val (.int fc), .val (.ref b109), .val (.int z1), .val (.long s1), .second, .val (.int z2), .val (.long s2), .second, .val (.int z3), .val (.long s3), .second, .val (.int z4), .val (.long s4), .second, .val (.long s1), .second, .val (.long s2), .second, .val (.long s3), .second, .unset, .unset, .unset, .unset, .unset, .unset, .unset, .unset, .unset, .unset, .unset, .unset]) rfl kt) ?_
  show own_R p.tables e below P (T118.setTop (mkF m 161 #[.val (.int p0), .val (.int p1), .val (.int p2), .val (.int p3), .val (.int va), .val (.int vb), .val (.int vc), .val (.int fa), .val (.int fb), .val (.int fc), .val (.ref b109), .val (.int z1), .val (.long s1), .second, .val (.int z2), .val (.long s2), .second, .val (.int z3), .val (.long s3), .second, .val (.int z4), .val (.long s4), .second, .val (.long s1), .second, .val (.long s2), .second, .val (.long s3), .second, .unset, .unset, .unset, .unset, .unset, .unset, .unset, .unset, .unset, .unset, .unset, .unset] []))
  refine own_fwd (fun tt kt => XS.iload X118.here hx rfl (hb hby at_161) rfl kt) ?_
  show own_R p.tables e below P (T118.setTop (mkF m 163 #[.val (.int p0), .val (.int p1), .val (.int p2), .val (.int p3), .val (.int va), .val (.int vb), .val (.int vc), .val (.int fa), .val (.int fb), .val (.int fc), .val (.ref b109), .val (.int z1), .val (.long s1), .second, .val (.int z2), .val (.long s2), .second, .val (.int z3), .val (.long s3), .second, .val (.int z4), .val (.long s4), .second, .val (.long s1), .second, .val (.long s2), .second, .val (.long s3), .second, .unset, .unset, .unset, .unset, .unset, .unset, .unset, .unset, .unset, .unset, .unset, .unset] [(.int fa)]))
  have j120 : ∀ P, own_R p.tables e below P (T118.setTop (mkF m 172 #[.val (.int p0), .val (.int p1), .val (.int p2), .val (.int p3), .val (.int va), .val (.int vb), .val (.int vc), .val (.int fa), .val (.int fb), .val (.int fc), .val (.ref b109), .val (.int z1), .val (.long s1), .second, .val (.int z2), .val (.long s2), .second, .val (.int z3), .val (.long s3), .second, .val (.int z4), .val (.long s4), .second, .val (.long s1), .second, .val (.long s2), .second, .val (.long s3), .second, .unset, .unset, .unset, .unset, .unset, .unset, .unset, .unset, .unset, .unset, .unset, .unset] [(.long (if fa = (0 : Int32) then (0 : Int64) else s1))])) → own_R p.tables e below P (T118.setTop (mkF m 163 #[.val (.int p0), .val (.int p1), .val (.int p2), .val (.int p3), .val (.int va), .val (.int vb), .val (.int vc), .val (.int fa), .val (.int fb), .val (.int fc), .val (.ref b109), .val (.int z1), .val (.long s1), .second, .val (.int z2), .val (.long s2), .second, .val (.int z3), .val (.long s3), .second, .val (.int z4), .val (.long s4), .second, .val (.long s1), .second, .val (.long s2), .second, .val (.long s3), .second, .unset, .unset, .unset, .unset, .unset, .unset, .unset, .unset, .unset, .unset, .unset, .unset] [(.int fa)])) := by
    intro P k
    by_cases hc119 : fa = (0 : Int32)
    · try simp only [if_pos hc119] at k
      refine own_fwd (fun tt kt => XS.ifYes X118.here hx rfl (pc0 := 163) (pc' := 171) rfl (hb hby at_163) rfl ((if0 _ _).trans (teq hc119).1) (by decide) (by decide) kt) ?_
      show own_R p.tables e below P (T118.setTop (mkF m 171 #[.val (.int p0), .val (.int p1), .val (.int p2), .val (.int p3), .val (.int va), .val (.int vb), .val (.int vc), .val (.int fa), .val (.int fb), .val (.int fc), .val (.ref b109), .val (.int z1), .val (.long s1), .second, .val (.int z2), .val (.long s2), .second, .val (.int z3), .val (.long s3), .second, .val (.int z4), .val (.long s4), .second, .val (.long s1), .second, .val (.long s2), .second, .val (.long s3), .second, .unset, .unset, .unset, .unset, .unset, .unset, .unset, .unset, .unset, .unset, .unset, .unset] []))
      refine own_fwd (fun tt kt => XS.lconst X118.here hx rfl (hb hby at_171) kt) ?_
      show own_R p.tables e below P (T118.setTop (mkF m 172 #[.val (.int p0), .val (.int p1), .val (.int p2), .val (.int p3), .val (.int va), .val (.int vb), .val (.int vc), .val (.int fa), .val (.int fb), .val (.int fc), .val (.ref b109), .val (.int z1), .val (.long s1), .second, .val (.int z2), .val (.long s2), .second, .val (.int z3), .val (.long s3), .second, .val (.int z4), .val (.long s4), .second, .val (.long s1), .second, .val (.long s2), .second, .val (.long s3), .second, .unset, .unset, .unset, .unset, .unset, .unset, .unset, .unset, .unset, .unset, .unset, .unset] [(.long (0 : Int64))]))
      exact k
    · try simp only [if_neg hc119] at k
      refine own_fwd (fun tt kt => XS.ifNo X118.here hx rfl (hb hby at_163) rfl ((if0 _ _).trans (feq hc119).1) kt) ?_
      show own_R p.tables e below P (T118.setTop (mkF m 166 #[.val (.int p0), .val (.int p1), .val (.int p2), .val (.int p3), .val (.int va), .val (.int vb), .val (.int vc), .val (.int fa), .val (.int fb), .val (.int fc), .val (.ref b109), .val (.int z1), .val (.long s1), .second, .val (.int z2), .val (.long s2), .second, .val (.int z3), .val (.long s3), .second, .val (.int z4), .val (.long s4), .second, .val (.long s1), .second, .val (.long s2), .second, .val (.long s3), .second, .unset, .unset, .unset, .unset, .unset, .unset, .unset, .unset, .unset, .unset, .unset, .unset] []))
      refine own_fwd (fun tt kt => XS.lload X118.here hx rfl (hb hby at_166) rfl kt) ?_
      show own_R p.tables e below P (T118.setTop (mkF m 168 #[.val (.int p0), .val (.int p1), .val (.int p2), .val (.int p3), .val (.int va), .val (.int vb), .val (.int vc), .val (.int fa), .val (.int fb), .val (.int fc), .val (.ref b109), .val (.int z1), .val (.long s1), .second, .val (.int z2), .val (.long s2), .second, .val (.int z3), .val (.long s3), .second, .val (.int z4), .val (.long s4), .second, .val (.long s1), .second, .val (.long s2), .second, .val (.long s3), .second, .unset, .unset, .unset, .unset, .unset, .unset, .unset, .unset, .unset, .unset, .unset, .unset] [(.long s1)]))
      refine own_fwd (fun tt kt => XS.goto X118.here hx rfl (pc0 := 168) (pc' := 172) rfl (hb hby at_168) (by decide) (by decide) kt) ?_
      show own_R p.tables e below P (T118.setTop (mkF m 172 #[.val (.int p0), .val (.int p1), .val (.int p2), .val (.int p3), .val (.int va), .val (.int vb), .val (.int vc), .val (.int fa), .val (.int fb), .val (.int fc), .val (.ref b109), .val (.int z1), .val (.long s1), .second, .val (.int z2), .val (.long s2), .second, .val (.int z3), .val (.long s3), .second, .val (.int z4), .val (.long s4), .second, .val (.long s1), .second, .val (.long s2), .second, .val (.long s3), .second, .unset, .unset, .unset, .unset, .unset, .unset, .unset, .unset, .unset, .unset, .unset, .unset] [(.long s1)]))
      exact k
  refine j120 P ?_
  show own_R p.tables e below P (T118.setTop (mkF m 172 #[.val (.int p0), .val (.int p1), .val (.int p2), .val (.int p3), .val (.int va), .val (.int vb), .val (.int vc), .val (.int fa), .val (.int fb), .val (.int fc), .val (.ref b109), .val (.int z1), .val (.long s1), .second, .val (.int z2), .val (.long s2), .second, .val (.int z3), .val (.long s3), .second, .val (.int z4), .val (.long s4), .second, .val (.long s1), .second, .val (.long s2), .second, .val (.long s3), .second, .unset, .unset, .unset, .unset, .unset, .unset, .unset, .unset, .unset, .unset, .unset, .unset] [(.long (if fa = (0 : Int32) then (0 : Int64) else s1))]))
  obtain ⟨kk1, hg_kk1⟩ : ∃ z, (if fa = (0 : Int32) then (0 : Int64) else s1) = z := ⟨_, rfl⟩
  rw [hg_kk1]
  show own_R p.tables e below P (T118.setTop (mkF m 172 #[.val (.int p0), .val (.int p1), .val (.int p2), .val (.int p3), .val (.int va), .val (.int vb), .val (.int vc), .val (.int fa), .val (.int fb), .val (.int fc), .val (.ref b109), .val (.int z1), .val (.long s1), .second, .val (.int z2), .val (.long s2), .second, .val (.int z3), .val (.long s3), .second, .val (.int z4), .val (.long s4), .second, .val (.long s1), .second, .val (.long s2), .second, .val (.long s3), .second, .unset, .unset, .unset, .unset, .unset, .unset, .unset, .unset, .unset, .unset, .unset, .unset] [(.long kk1)]))
  have ke1 : r1 = kk1 ∧ l1 = kk1 := ⟨R1.1.trans hg_kk1, R1.2.trans hg_kk1⟩
  refine own_fwd (fun tt kt => XS.lstore X118.here hx rfl (hb hby at_172) rfl (l' := #[.val (.int p0), .val (.int p1), .val (.int p2), .val (.int p3), .val (.int va), .val (.int vb), .val (.int vc), .val (.int fa), .val (.int fb), .val (.int fc), .val (.ref b109), .val (.int z1), .val (.long s1), .second, .val (.int z2), .val (.long s2), .second, .val (.int z3), .val (.long s3), .second, .val (.int z4), .val (.long s4), .second, .val (.long s1), .second, .val (.long s2), .second, .val (.long s3), .second, .val (.long kk1), .second, .unset, .unset, .unset, .unset, .unset, .unset, .unset, .unset, .unset, .unset]) rfl kt) ?_
  show own_R p.tables e below P (T118.setTop (mkF m 174 #[.val (.int p0), .val (.int p1), .val (.int p2), .val (.int p3), .val (.int va), .val (.int vb), .val (.int vc), .val (.int fa), .val (.int fb), .val (.int fc), .val (.ref b109), .val (.int z1), .val (.long s1), .second, .val (.int z2), .val (.long s2), .second, .val (.int z3), .val (.long s3), .second, .val (.int z4), .val (.long s4), .second, .val (.long s1), .second, .val (.long s2), .second, .val (.long s3), .second, .val (.long kk1), .second, .unset, .unset, .unset, .unset, .unset, .unset, .unset, .unset, .unset, .unset] []))
  refine own_fwd (fun tt kt => XS.iload X118.here hx rfl (hb hby at_174) rfl kt) ?_
  show own_R p.tables e below P (T118.setTop (mkF m 176 #[.val (.int p0), .val (.int p1), .val (.int p2), .val (.int p3), .val (.int va), .val (.int vb), .val (.int vc), .val (.int fa), .val (.int fb), .val (.int fc), .val (.ref b109), .val (.int z1), .val (.long s1), .second, .val (.int z2), .val (.long s2), .second, .val (.int z3), .val (.long s3), .second, .val (.int z4), .val (.long s4), .second, .val (.long s1), .second, .val (.long s2), .second, .val (.long s3), .second, .val (.long kk1), .second, .unset, .unset, .unset, .unset, .unset, .unset, .unset, .unset, .unset, .unset] [(.int fb)]))
  have j122 : ∀ P, own_R p.tables e below P (T118.setTop (mkF m 186 #[.val (.int p0), .val (.int p1), .val (.int p2), .val (.int p3), .val (.int va), .val (.int vb), .val (.int vc), .val (.int fa), .val (.int fb), .val (.int fc), .val (.ref b109), .val (.int z1), .val (.long s1), .second, .val (.int z2), .val (.long s2), .second, .val (.int z3), .val (.long s3), .second, .val (.int z4), .val (.long s4), .second, .val (.long s1), .second, .val (.long s2), .second, .val (.long s3), .second, .val (.long kk1), .second, .unset, .unset, .unset, .unset, .unset, .unset, .unset, .unset, .unset, .unset] [(.long (if fb = (0 : Int32) then kk1 else s2))])) → own_R p.tables e below P (T118.setTop (mkF m 176 #[.val (.int p0), .val (.int p1), .val (.int p2), .val (.int p3), .val (.int va), .val (.int vb), .val (.int vc), .val (.int fa), .val (.int fb), .val (.int fc), .val (.ref b109), .val (.int z1), .val (.long s1), .second, .val (.int z2), .val (.long s2), .second, .val (.int z3), .val (.long s3), .second, .val (.int z4), .val (.long s4), .second, .val (.long s1), .second, .val (.long s2), .second, .val (.long s3), .second, .val (.long kk1), .second, .unset, .unset, .unset, .unset, .unset, .unset, .unset, .unset, .unset, .unset] [(.int fb)])) := by
    intro P k
    by_cases hc121 : fb = (0 : Int32)
    · try simp only [if_pos hc121] at k
      refine own_fwd (fun tt kt => XS.ifYes X118.here hx rfl (pc0 := 176) (pc' := 184) rfl (hb hby at_176) rfl ((if0 _ _).trans (teq hc121).1) (by decide) (by decide) kt) ?_
      show own_R p.tables e below P (T118.setTop (mkF m 184 #[.val (.int p0), .val (.int p1), .val (.int p2), .val (.int p3), .val (.int va), .val (.int vb), .val (.int vc), .val (.int fa), .val (.int fb), .val (.int fc), .val (.ref b109), .val (.int z1), .val (.long s1), .second, .val (.int z2), .val (.long s2), .second, .val (.int z3), .val (.long s3), .second, .val (.int z4), .val (.long s4), .second, .val (.long s1), .second, .val (.long s2), .second, .val (.long s3), .second, .val (.long kk1), .second, .unset, .unset, .unset, .unset, .unset, .unset, .unset, .unset, .unset, .unset] []))
      refine own_fwd (fun tt kt => XS.lload X118.here hx rfl (hb hby at_184) rfl kt) ?_
      show own_R p.tables e below P (T118.setTop (mkF m 186 #[.val (.int p0), .val (.int p1), .val (.int p2), .val (.int p3), .val (.int va), .val (.int vb), .val (.int vc), .val (.int fa), .val (.int fb), .val (.int fc), .val (.ref b109), .val (.int z1), .val (.long s1), .second, .val (.int z2), .val (.long s2), .second, .val (.int z3), .val (.long s3), .second, .val (.int z4), .val (.long s4), .second, .val (.long s1), .second, .val (.long s2), .second, .val (.long s3), .second, .val (.long kk1), .second, .unset, .unset, .unset, .unset, .unset, .unset, .unset, .unset, .unset, .unset] [(.long kk1)]))
      exact k
    · try simp only [if_neg hc121] at k
      refine own_fwd (fun tt kt => XS.ifNo X118.here hx rfl (hb hby at_176) rfl ((if0 _ _).trans (feq hc121).1) kt) ?_
      show own_R p.tables e below P (T118.setTop (mkF m 179 #[.val (.int p0), .val (.int p1), .val (.int p2), .val (.int p3), .val (.int va), .val (.int vb), .val (.int vc), .val (.int fa), .val (.int fb), .val (.int fc), .val (.ref b109), .val (.int z1), .val (.long s1), .second, .val (.int z2), .val (.long s2), .second, .val (.int z3), .val (.long s3), .second, .val (.int z4), .val (.long s4), .second, .val (.long s1), .second, .val (.long s2), .second, .val (.long s3), .second, .val (.long kk1), .second, .unset, .unset, .unset, .unset, .unset, .unset, .unset, .unset, .unset, .unset] []))
      refine own_fwd (fun tt kt => XS.lload X118.here hx rfl (hb hby at_179) rfl kt) ?_
      show own_R p.tables e below P (T118.setTop (mkF m 181 #[.val (.int p0), .val (.int p1), .val (.int p2), .val (.int p3), .val (.int va), .val (.int vb), .val (.int vc), .val (.int fa), .val (.int fb), .val (.int fc), .val (.ref b109), .val (.int z1), .val (.long s1), .second, .val (.int z2), .val (.long s2), .second, .val (.int z3), .val (.long s3), .second, .val (.int z4), .val (.long s4), .second, .val (.long s1), .second, .val (.long s2), .second, .val (.long s3), .second, .val (.long kk1), .second, .unset, .unset, .unset, .unset, .unset, .unset, .unset, .unset, .unset, .unset] [(.long s2)]))
      refine own_fwd (fun tt kt => XS.goto X118.here hx rfl (pc0 := 181) (pc' := 186) rfl (hb hby at_181) (by decide) (by decide) kt) ?_
      show own_R p.tables e below P (T118.setTop (mkF m 186 #[.val (.int p0), .val (.int p1), .val (.int p2), .val (.int p3), .val (.int va), .val (.int vb), .val (.int vc), .val (.int fa), .val (.int fb), .val (.int fc), .val (.ref b109), .val (.int z1), .val (.long s1), .second, .val (.int z2), .val (.long s2), .second, .val (.int z3), .val (.long s3), .second, .val (.int z4), .val (.long s4), .second, .val (.long s1), .second, .val (.long s2), .second, .val (.long s3), .second, .val (.long kk1), .second, .unset, .unset, .unset, .unset, .unset, .unset, .unset, .unset, .unset, .unset] [(.long s2)]))
      exact k
  refine j122 P ?_
  show own_R p.tables e below P (T118.setTop (mkF m 186 #[.val (.int p0), .val (.int p1), .val (.int p2), .val (.int p3), .val (.int va), .val (.int vb), .val (.int vc), .val (.int fa), .val (.int fb), .val (.int fc), .val (.ref b109), .val (.int z1), .val (.long s1), .second, .val (.int z2), .val (.long s2), .second, .val (.int z3), .val (.long s3), .second, .val (.int z4), .val (.long s4), .second, .val (.long s1), .second, .val (.long s2), .second, .val (.long s3), .second, .val (.long kk1), .second, .unset, .unset, .unset, .unset, .unset, .unset, .unset, .unset, .unset, .unset] [(.long (if fb = (0 : Int32) then kk1 else s2))]))
  obtain ⟨kk2, hg_kk2⟩ : ∃ z, (if fb = (0 : Int32) then kk1 else s2) = z := ⟨_, rfl⟩
  rw [hg_kk2]
  show own_R p.tables e below P (T118.setTop (mkF m 186 #[.val (.int p0), .val (.int p1), .val (.int p2), .val (.int p3), .val (.int va), .val (.int vb), .val (.int vc), .val (.int fa), .val (.int fb), .val (.int fc), .val (.ref b109), .val (.int z1), .val (.long s1), .second, .val (.int z2), .val (.long s2), .second, .val (.int z3), .val (.long s3), .second, .val (.int z4), .val (.long s4), .second, .val (.long s1), .second, .val (.long s2), .second, .val (.long s3), .second, .val (.long kk1), .second, .unset, .unset, .unset, .unset, .unset, .unset, .unset, .unset, .unset, .unset] [(.long kk2)]))
  rw [(show r1 = kk1 from ke1.1), (show l1 = kk1 from ke1.2)] at R2
  have ke2 : r2 = kk2 ∧ l2 = kk2 := ⟨R2.1.trans hg_kk2, R2.2.trans hg_kk2⟩
  refine own_fwd (fun tt kt => XS.lstore X118.here hx rfl (hb hby at_186) rfl (l' := #[.val (.int p0), .val (.int p1), .val (.int p2), .val (.int p3), .val (.int va), .val (.int vb), .val (.int vc), .val (.int fa), .val (.int fb), .val (.int fc), .val (.ref b109), .val (.int z1), .val (.long s1), .second, .val (.int z2), .val (.long s2), .second, .val (.int z3), .val (.long s3), .second, .val (.int z4), .val (.long s4), .second, .val (.long s1), .second, .val (.long s2), .second, .val (.long s3), .second, .val (.long kk1), .second, .val (.long kk2), .second, .unset, .unset, .unset, .unset, .unset, .unset, .unset, .unset]) rfl kt) ?_
  show own_R p.tables e below P (T118.setTop (mkF m 188 #[.val (.int p0), .val (.int p1), .val (.int p2), .val (.int p3), .val (.int va), .val (.int vb), .val (.int vc), .val (.int fa), .val (.int fb), .val (.int fc), .val (.ref b109), .val (.int z1), .val (.long s1), .second, .val (.int z2), .val (.long s2), .second, .val (.int z3), .val (.long s3), .second, .val (.int z4), .val (.long s4), .second, .val (.long s1), .second, .val (.long s2), .second, .val (.long s3), .second, .val (.long kk1), .second, .val (.long kk2), .second, .unset, .unset, .unset, .unset, .unset, .unset, .unset, .unset] []))
  refine own_fwd (fun tt kt => XS.iload X118.here hx rfl (hb hby at_188) rfl kt) ?_
  show own_R p.tables e below P (T118.setTop (mkF m 190 #[.val (.int p0), .val (.int p1), .val (.int p2), .val (.int p3), .val (.int va), .val (.int vb), .val (.int vc), .val (.int fa), .val (.int fb), .val (.int fc), .val (.ref b109), .val (.int z1), .val (.long s1), .second, .val (.int z2), .val (.long s2), .second, .val (.int z3), .val (.long s3), .second, .val (.int z4), .val (.long s4), .second, .val (.long s1), .second, .val (.long s2), .second, .val (.long s3), .second, .val (.long kk1), .second, .val (.long kk2), .second, .unset, .unset, .unset, .unset, .unset, .unset, .unset, .unset] [(.int fc)]))
  have j124 : ∀ P, own_R p.tables e below P (T118.setTop (mkF m 200 #[.val (.int p0), .val (.int p1), .val (.int p2), .val (.int p3), .val (.int va), .val (.int vb), .val (.int vc), .val (.int fa), .val (.int fb), .val (.int fc), .val (.ref b109), .val (.int z1), .val (.long s1), .second, .val (.int z2), .val (.long s2), .second, .val (.int z3), .val (.long s3), .second, .val (.int z4), .val (.long s4), .second, .val (.long s1), .second, .val (.long s2), .second, .val (.long s3), .second, .val (.long kk1), .second, .val (.long kk2), .second, .unset, .unset, .unset, .unset, .unset, .unset, .unset, .unset] [(.long (if fc = (0 : Int32) then kk2 else s3))])) → own_R p.tables e below P (T118.setTop (mkF m 190 #[.val (.int p0), .val (.int p1), .val (.int p2), .val (.int p3), .val (.int va), .val (.int vb), .val (.int vc), .val (.int fa), .val (.int fb), .val (.int fc), .val (.ref b109), .val (.int z1), .val (.long s1), .second, .val (.int z2), .val (.long s2), .second, .val (.int z3), .val (.long s3), .second, .val (.int z4), .val (.long s4), .second, .val (.long s1), .second, .val (.long s2), .second, .val (.long s3), .second, .val (.long kk1), .second, .val (.long kk2), .second, .unset, .unset, .unset, .unset, .unset, .unset, .unset, .unset] [(.int fc)])) := by
    intro P k
    by_cases hc123 : fc = (0 : Int32)
    · try simp only [if_pos hc123] at k
      refine own_fwd (fun tt kt => XS.ifYes X118.here hx rfl (pc0 := 190) (pc' := 198) rfl (hb hby at_190) rfl ((if0 _ _).trans (teq hc123).1) (by decide) (by decide) kt) ?_
      show own_R p.tables e below P (T118.setTop (mkF m 198 #[.val (.int p0), .val (.int p1), .val (.int p2), .val (.int p3), .val (.int va), .val (.int vb), .val (.int vc), .val (.int fa), .val (.int fb), .val (.int fc), .val (.ref b109), .val (.int z1), .val (.long s1), .second, .val (.int z2), .val (.long s2), .second, .val (.int z3), .val (.long s3), .second, .val (.int z4), .val (.long s4), .second, .val (.long s1), .second, .val (.long s2), .second, .val (.long s3), .second, .val (.long kk1), .second, .val (.long kk2), .second, .unset, .unset, .unset, .unset, .unset, .unset, .unset, .unset] []))
      refine own_fwd (fun tt kt => XS.lload X118.here hx rfl (hb hby at_198) rfl kt) ?_
      show own_R p.tables e below P (T118.setTop (mkF m 200 #[.val (.int p0), .val (.int p1), .val (.int p2), .val (.int p3), .val (.int va), .val (.int vb), .val (.int vc), .val (.int fa), .val (.int fb), .val (.int fc), .val (.ref b109), .val (.int z1), .val (.long s1), .second, .val (.int z2), .val (.long s2), .second, .val (.int z3), .val (.long s3), .second, .val (.int z4), .val (.long s4), .second, .val (.long s1), .second, .val (.long s2), .second, .val (.long s3), .second, .val (.long kk1), .second, .val (.long kk2), .second, .unset, .unset, .unset, .unset, .unset, .unset, .unset, .unset] [(.long kk2)]))
      exact k
    · try simp only [if_neg hc123] at k
      refine own_fwd (fun tt kt => XS.ifNo X118.here hx rfl (hb hby at_190) rfl ((if0 _ _).trans (feq hc123).1) kt) ?_
      show own_R p.tables e below P (T118.setTop (mkF m 193 #[.val (.int p0), .val (.int p1), .val (.int p2), .val (.int p3), .val (.int va), .val (.int vb), .val (.int vc), .val (.int fa), .val (.int fb), .val (.int fc), .val (.ref b109), .val (.int z1), .val (.long s1), .second, .val (.int z2), .val (.long s2), .second, .val (.int z3), .val (.long s3), .second, .val (.int z4), .val (.long s4), .second, .val (.long s1), .second, .val (.long s2), .second, .val (.long s3), .second, .val (.long kk1), .second, .val (.long kk2), .second, .unset, .unset, .unset, .unset, .unset, .unset, .unset, .unset] []))
      refine own_fwd (fun tt kt => XS.lload X118.here hx rfl (hb hby at_193) rfl kt) ?_
      show own_R p.tables e below P (T118.setTop (mkF m 195 #[.val (.int p0), .val (.int p1), .val (.int p2), .val (.int p3), .val (.int va), .val (.int vb), .val (.int vc), .val (.int fa), .val (.int fb), .val (.int fc), .val (.ref b109), .val (.int z1), .val (.long s1), .second, .val (.int z2), .val (.long s2), .second, .val (.int z3), .val (.long s3), .second, .val (.int z4), .val (.long s4), .second, .val (.long s1), .second, .val (.long s2), .second, .val (.long s3), .second, .val (.long kk1), .second, .val (.long kk2), .second, .unset, .unset, .unset, .unset, .unset, .unset, .unset, .unset] [(.long s3)]))
      refine own_fwd (fun tt kt => XS.goto X118.here hx rfl (pc0 := 195) (pc' := 200) rfl (hb hby at_195) (by decide) (by decide) kt) ?_
      show own_R p.tables e below P (T118.setTop (mkF m 200 #[.val (.int p0), .val (.int p1), .val (.int p2), .val (.int p3), .val (.int va), .val (.int vb), .val (.int vc), .val (.int fa), .val (.int fb), .val (.int fc), .val (.ref b109), .val (.int z1), .val (.long s1), .second, .val (.int z2), .val (.long s2), .second, .val (.int z3), .val (.long s3), .second, .val (.int z4), .val (.long s4), .second, .val (.long s1), .second, .val (.long s2), .second, .val (.long s3), .second, .val (.long kk1), .second, .val (.long kk2), .second, .unset, .unset, .unset, .unset, .unset, .unset, .unset, .unset] [(.long s3)]))
      exact k
  refine j124 P ?_
  show own_R p.tables e below P (T118.setTop (mkF m 200 #[.val (.int p0), .val (.int p1), .val (.int p2), .val (.int p3), .val (.int va), .val (.int vb), .val (.int vc), .val (.int fa), .val (.int fb), .val (.int fc), .val (.ref b109), .val (.int z1), .val (.long s1), .second, .val (.int z2), .val (.long s2), .second, .val (.int z3), .val (.long s3), .second, .val (.int z4), .val (.long s4), .second, .val (.long s1), .second, .val (.long s2), .second, .val (.long s3), .second, .val (.long kk1), .second, .val (.long kk2), .second, .unset, .unset, .unset, .unset, .unset, .unset, .unset, .unset] [(.long (if fc = (0 : Int32) then kk2 else s3))]))
  obtain ⟨kk3, hg_kk3⟩ : ∃ z, (if fc = (0 : Int32) then kk2 else s3) = z := ⟨_, rfl⟩
  rw [hg_kk3]
  show own_R p.tables e below P (T118.setTop (mkF m 200 #[.val (.int p0), .val (.int p1), .val (.int p2), .val (.int p3), .val (.int va), .val (.int vb), .val (.int vc), .val (.int fa), .val (.int fb), .val (.int fc), .val (.ref b109), .val (.int z1), .val (.long s1), .second, .val (.int z2), .val (.long s2), .second, .val (.int z3), .val (.long s3), .second, .val (.int z4), .val (.long s4), .second, .val (.long s1), .second, .val (.long s2), .second, .val (.long s3), .second, .val (.long kk1), .second, .val (.long kk2), .second, .unset, .unset, .unset, .unset, .unset, .unset, .unset, .unset] [(.long kk3)]))
  rw [(show r2 = kk2 from ke2.1), (show l2 = kk2 from ke2.2)] at R3
  have ke3 : r3 = kk3 ∧ l3 = kk3 := ⟨R3.1.trans hg_kk3, R3.2.trans hg_kk3⟩
  obtain ⟨rfl, hl1⟩ := ke1
  obtain ⟨rfl, hl2⟩ := ke2
  obtain ⟨rfl, hl3⟩ := ke3
  subst hl1 hl2 hl3
  show own_R p.tables e below P (T118.setTop (mkF m 200 #[.val (.int p0), .val (.int p1), .val (.int p2), .val (.int p3), .val (.int va), .val (.int vb), .val (.int vc), .val (.int fa), .val (.int fb), .val (.int fc), .val (.ref b109), .val (.int z1), .val (.long s1), .second, .val (.int z2), .val (.long s2), .second, .val (.int z3), .val (.long s3), .second, .val (.int z4), .val (.long s4), .second, .val (.long s1), .second, .val (.long s2), .second, .val (.long s3), .second, .val (.long l1), .second, .val (.long l2), .second, .unset, .unset, .unset, .unset, .unset, .unset, .unset, .unset] [(.long l3)]))
  refine own_fwd (fun tt kt => XS.lstore X118.here hx rfl (hb hby at_200) rfl (l' := #[.val (.int p0), .val (.int p1), .val (.int p2), .val (.int p3), .val (.int va), .val (.int vb), .val (.int vc), .val (.int fa), .val (.int fb), .val (.int fc), .val (.ref b109), .val (.int z1), .val (.long s1), .second, .val (.int z2), .val (.long s2), .second, .val (.int z3), .val (.long s3), .second, .val (.int z4), .val (.long s4), .second, .val (.long s1), .second, .val (.long s2), .second, .val (.long s3), .second, .val (.long l1), .second, .val (.long l2), .second, .val (.long l3), .second, .unset, .unset, .unset, .unset, .unset, .unset]) rfl kt) ?_
  show own_R p.tables e below P (T118.setTop (mkF m 202 #[.val (.int p0), .val (.int p1), .val (.int p2), .val (.int p3), .val (.int va), .val (.int vb), .val (.int vc), .val (.int fa), .val (.int fb), .val (.int fc), .val (.ref b109), .val (.int z1), .val (.long s1), .second, .val (.int z2), .val (.long s2), .second, .val (.int z3), .val (.long s3), .second, .val (.int z4), .val (.long s4), .second, .val (.long s1), .second, .val (.long s2), .second, .val (.long s3), .second, .val (.long l1), .second, .val (.long l2), .second, .val (.long l3), .second, .unset, .unset, .unset, .unset, .unset, .unset] []))
  refine own_fwd (fun tt kt => XS.iload X118.here hx rfl (hb hby at_202) rfl kt) ?_
  show own_R p.tables e below P (T118.setTop (mkF m 204 #[.val (.int p0), .val (.int p1), .val (.int p2), .val (.int p3), .val (.int va), .val (.int vb), .val (.int vc), .val (.int fa), .val (.int fb), .val (.int fc), .val (.ref b109), .val (.int z1), .val (.long s1), .second, .val (.int z2), .val (.long s2), .second, .val (.int z3), .val (.long s3), .second, .val (.int z4), .val (.long s4), .second, .val (.long s1), .second, .val (.long s2), .second, .val (.long s3), .second, .val (.long l1), .second, .val (.long l2), .second, .val (.long l3), .second, .unset, .unset, .unset, .unset, .unset, .unset] [(.int fa)]))
  have j127 : ∀ P, own_R p.tables e below P (T118.setTop (mkF m 221 #[.val (.int p0), .val (.int p1), .val (.int p2), .val (.int p3), .val (.int va), .val (.int vb), .val (.int vc), .val (.int fa), .val (.int fb), .val (.int fc), .val (.ref b109), .val (.int z1), .val (.long s1), .second, .val (.int z2), .val (.long s2), .second, .val (.int z3), .val (.long s3), .second, .val (.int z4), .val (.long s4), .second, .val (.long s1), .second, .val (.long s2), .second, .val (.long s3), .second, .val (.long l1), .second, .val (.long l2), .second, .val (.long l3), .second, .unset, .unset, .unset, .unset, .unset, .unset] [(.int (if fa = (0 : Int32) then (if (0 : Int32) < (lcmpW s1 (100 : Int64)) then (0 : Int32) else (1 : Int32)) else (1 : Int32)))])) → own_R p.tables e below P (T118.setTop (mkF m 204 #[.val (.int p0), .val (.int p1), .val (.int p2), .val (.int p3), .val (.int va), .val (.int vb), .val (.int vc), .val (.int fa), .val (.int fb), .val (.int fc), .val (.ref b109), .val (.int z1), .val (.long s1), .second, .val (.int z2), .val (.long s2), .second, .val (.int z3), .val (.long s3), .second, .val (.int z4), .val (.long s4), .second, .val (.long s1), .second, .val (.long s2), .second, .val (.long s3), .second, .val (.long l1), .second, .val (.long l2), .second, .val (.long l3), .second, .unset, .unset, .unset, .unset, .unset, .unset] [(.int fa)])) := by
    intro P k
    by_cases hc125 : fa = (0 : Int32)
    · try simp only [if_pos hc125] at k
      refine own_fwd (fun tt kt => XS.ifNo X118.here hx rfl (hb hby at_204) rfl ((if0 _ _).trans (teq hc125).2) kt) ?_
      show own_R p.tables e below P (T118.setTop (mkF m 207 #[.val (.int p0), .val (.int p1), .val (.int p2), .val (.int p3), .val (.int va), .val (.int vb), .val (.int vc), .val (.int fa), .val (.int fb), .val (.int fc), .val (.ref b109), .val (.int z1), .val (.long s1), .second, .val (.int z2), .val (.long s2), .second, .val (.int z3), .val (.long s3), .second, .val (.int z4), .val (.long s4), .second, .val (.long s1), .second, .val (.long s2), .second, .val (.long s3), .second, .val (.long l1), .second, .val (.long l2), .second, .val (.long l3), .second, .unset, .unset, .unset, .unset, .unset, .unset] []))
      refine own_fwd (fun tt kt => XS.lload X118.here hx rfl (hb hby at_207) rfl kt) ?_
      show own_R p.tables e below P (T118.setTop (mkF m 209 #[.val (.int p0), .val (.int p1), .val (.int p2), .val (.int p3), .val (.int va), .val (.int vb), .val (.int vc), .val (.int fa), .val (.int fb), .val (.int fc), .val (.ref b109), .val (.int z1), .val (.long s1), .second, .val (.int z2), .val (.long s2), .second, .val (.int z3), .val (.long s3), .second, .val (.int z4), .val (.long s4), .second, .val (.long s1), .second, .val (.long s2), .second, .val (.long s3), .second, .val (.long l1), .second, .val (.long l2), .second, .val (.long l3), .second, .unset, .unset, .unset, .unset, .unset, .unset] [(.long s1)]))
      refine own_fwd (fun tt kt => X118.ldc2Long hx hown (mvT hZ (hw _ (List.mem_of_getElem? (i := 130) rfl))) (g := (mkF m 209 #[.val (.int p0), .val (.int p1), .val (.int p2), .val (.int p3), .val (.int va), .val (.int vb), .val (.int vc), .val (.int fa), .val (.int fb), .val (.int fc), .val (.ref b109), .val (.int z1), .val (.long s1), .second, .val (.int z2), .val (.long s2), .second, .val (.int z3), .val (.long s3), .second, .val (.int z4), .val (.long s4), .second, .val (.long s1), .second, .val (.long s2), .second, .val (.long s3), .second, .val (.long l1), .second, .val (.long l2), .second, .val (.long l3), .second, .unset, .unset, .unset, .unset, .unset, .unset] [(.long s1)])) rfl (hb hby at_209) tt kt) ?_
      show own_R p.tables e below P (T118.setTop (mkF m 212 #[.val (.int p0), .val (.int p1), .val (.int p2), .val (.int p3), .val (.int va), .val (.int vb), .val (.int vc), .val (.int fa), .val (.int fb), .val (.int fc), .val (.ref b109), .val (.int z1), .val (.long s1), .second, .val (.int z2), .val (.long s2), .second, .val (.int z3), .val (.long s3), .second, .val (.int z4), .val (.long s4), .second, .val (.long s1), .second, .val (.long s2), .second, .val (.long s3), .second, .val (.long l1), .second, .val (.long l2), .second, .val (.long l3), .second, .unset, .unset, .unset, .unset, .unset, .unset] [(.long (100 : Int64)), (.long s1)]))
      refine own_fwd (fun tt kt => XS.lcmp X118.here hx rfl (hb hby at_212) rfl kt) ?_
      show own_R p.tables e below P (T118.setTop (mkF m 213 #[.val (.int p0), .val (.int p1), .val (.int p2), .val (.int p3), .val (.int va), .val (.int vb), .val (.int vc), .val (.int fa), .val (.int fb), .val (.int fc), .val (.ref b109), .val (.int z1), .val (.long s1), .second, .val (.int z2), .val (.long s2), .second, .val (.int z3), .val (.long s3), .second, .val (.int z4), .val (.long s4), .second, .val (.long s1), .second, .val (.long s2), .second, .val (.long s3), .second, .val (.long l1), .second, .val (.long l2), .second, .val (.long l3), .second, .unset, .unset, .unset, .unset, .unset, .unset] [(.int (lcmpW s1 (100 : Int64)))]))
      by_cases hc126 : (0 : Int32) < (lcmpW s1 (100 : Int64))
      · try simp only [if_pos hc126] at k
        refine own_fwd (fun tt kt => XS.ifYes X118.here hx rfl (pc0 := 213) (pc' := 220) rfl (hb hby at_213) rfl ((if0 _ _).trans (tlt hc126).2.2.1) (by decide) (by decide) kt) ?_
        show own_R p.tables e below P (T118.setTop (mkF m 220 #[.val (.int p0), .val (.int p1), .val (.int p2), .val (.int p3), .val (.int va), .val (.int vb), .val (.int vc), .val (.int fa), .val (.int fb), .val (.int fc), .val (.ref b109), .val (.int z1), .val (.long s1), .second, .val (.int z2), .val (.long s2), .second, .val (.int z3), .val (.long s3), .second, .val (.int z4), .val (.long s4), .second, .val (.long s1), .second, .val (.long s2), .second, .val (.long s3), .second, .val (.long l1), .second, .val (.long l2), .second, .val (.long l3), .second, .unset, .unset, .unset, .unset, .unset, .unset] []))
        refine own_fwd (fun tt kt => XS.iconst X118.here hx rfl (hb hby at_220) kt) ?_
        show own_R p.tables e below P (T118.setTop (mkF m 221 #[.val (.int p0), .val (.int p1), .val (.int p2), .val (.int p3), .val (.int va), .val (.int vb), .val (.int vc), .val (.int fa), .val (.int fb), .val (.int fc), .val (.ref b109), .val (.int z1), .val (.long s1), .second, .val (.int z2), .val (.long s2), .second, .val (.int z3), .val (.long s3), .second, .val (.int z4), .val (.long s4), .second, .val (.long s1), .second, .val (.long s2), .second, .val (.long s3), .second, .val (.long l1), .second, .val (.long l2), .second, .val (.long l3), .second, .unset, .unset, .unset, .unset, .unset, .unset] [(.int (0 : Int32))]))
        exact k
      · try simp only [if_neg hc126] at k
        refine own_fwd (fun tt kt => XS.ifNo X118.here hx rfl (hb hby at_213) rfl ((if0 _ _).trans (flt hc126).2.2.1) kt) ?_
        show own_R p.tables e below P (T118.setTop (mkF m 216 #[.val (.int p0), .val (.int p1), .val (.int p2), .val (.int p3), .val (.int va), .val (.int vb), .val (.int vc), .val (.int fa), .val (.int fb), .val (.int fc), .val (.ref b109), .val (.int z1), .val (.long s1), .second, .val (.int z2), .val (.long s2), .second, .val (.int z3), .val (.long s3), .second, .val (.int z4), .val (.long s4), .second, .val (.long s1), .second, .val (.long s2), .second, .val (.long s3), .second, .val (.long l1), .second, .val (.long l2), .second, .val (.long l3), .second, .unset, .unset, .unset, .unset, .unset, .unset] []))
        refine own_fwd (fun tt kt => XS.iconst X118.here hx rfl (hb hby at_216) kt) ?_
        show own_R p.tables e below P (T118.setTop (mkF m 217 #[.val (.int p0), .val (.int p1), .val (.int p2), .val (.int p3), .val (.int va), .val (.int vb), .val (.int vc), .val (.int fa), .val (.int fb), .val (.int fc), .val (.ref b109), .val (.int z1), .val (.long s1), .second, .val (.int z2), .val (.long s2), .second, .val (.int z3), .val (.long s3), .second, .val (.int z4), .val (.long s4), .second, .val (.long s1), .second, .val (.long s2), .second, .val (.long s3), .second, .val (.long l1), .second, .val (.long l2), .second, .val (.long l3), .second, .unset, .unset, .unset, .unset, .unset, .unset] [(.int (1 : Int32))]))
        refine own_fwd (fun tt kt => XS.goto X118.here hx rfl (pc0 := 217) (pc' := 221) rfl (hb hby at_217) (by decide) (by decide) kt) ?_
        show own_R p.tables e below P (T118.setTop (mkF m 221 #[.val (.int p0), .val (.int p1), .val (.int p2), .val (.int p3), .val (.int va), .val (.int vb), .val (.int vc), .val (.int fa), .val (.int fb), .val (.int fc), .val (.ref b109), .val (.int z1), .val (.long s1), .second, .val (.int z2), .val (.long s2), .second, .val (.int z3), .val (.long s3), .second, .val (.int z4), .val (.long s4), .second, .val (.long s1), .second, .val (.long s2), .second, .val (.long s3), .second, .val (.long l1), .second, .val (.long l2), .second, .val (.long l3), .second, .unset, .unset, .unset, .unset, .unset, .unset] [(.int (1 : Int32))]))
        exact k
    · try simp only [if_neg hc125] at k
      refine own_fwd (fun tt kt => XS.ifYes X118.here hx rfl (pc0 := 204) (pc' := 216) rfl (hb hby at_204) rfl ((if0 _ _).trans (feq hc125).2) (by decide) (by decide) kt) ?_
      show own_R p.tables e below P (T118.setTop (mkF m 216 #[.val (.int p0), .val (.int p1), .val (.int p2), .val (.int p3), .val (.int va), .val (.int vb), .val (.int vc), .val (.int fa), .val (.int fb), .val (.int fc), .val (.ref b109), .val (.int z1), .val (.long s1), .second, .val (.int z2), .val (.long s2), .second, .val (.int z3), .val (.long s3), .second, .val (.int z4), .val (.long s4), .second, .val (.long s1), .second, .val (.long s2), .second, .val (.long s3), .second, .val (.long l1), .second, .val (.long l2), .second, .val (.long l3), .second, .unset, .unset, .unset, .unset, .unset, .unset] []))
      refine own_fwd (fun tt kt => XS.iconst X118.here hx rfl (hb hby at_216) kt) ?_
      show own_R p.tables e below P (T118.setTop (mkF m 217 #[.val (.int p0), .val (.int p1), .val (.int p2), .val (.int p3), .val (.int va), .val (.int vb), .val (.int vc), .val (.int fa), .val (.int fb), .val (.int fc), .val (.ref b109), .val (.int z1), .val (.long s1), .second, .val (.int z2), .val (.long s2), .second, .val (.int z3), .val (.long s3), .second, .val (.int z4), .val (.long s4), .second, .val (.long s1), .second, .val (.long s2), .second, .val (.long s3), .second, .val (.long l1), .second, .val (.long l2), .second, .val (.long l3), .second, .unset, .unset, .unset, .unset, .unset, .unset] [(.int (1 : Int32))]))
      refine own_fwd (fun tt kt => XS.goto X118.here hx rfl (pc0 := 217) (pc' := 221) rfl (hb hby at_217) (by decide) (by decide) kt) ?_
      show own_R p.tables e below P (T118.setTop (mkF m 221 #[.val (.int p0), .val (.int p1), .val (.int p2), .val (.int p3), .val (.int va), .val (.int vb), .val (.int vc), .val (.int fa), .val (.int fb), .val (.int fc), .val (.ref b109), .val (.int z1), .val (.long s1), .second, .val (.int z2), .val (.long s2), .second, .val (.int z3), .val (.long s3), .second, .val (.int z4), .val (.long s4), .second, .val (.long s1), .second, .val (.long s2), .second, .val (.long s3), .second, .val (.long l1), .second, .val (.long l2), .second, .val (.long l3), .second, .unset, .unset, .unset, .unset, .unset, .unset] [(.int (1 : Int32))]))
      exact k
  refine j127 P ?_
  show own_R p.tables e below P (T118.setTop (mkF m 221 #[.val (.int p0), .val (.int p1), .val (.int p2), .val (.int p3), .val (.int va), .val (.int vb), .val (.int vc), .val (.int fa), .val (.int fb), .val (.int fc), .val (.ref b109), .val (.int z1), .val (.long s1), .second, .val (.int z2), .val (.long s2), .second, .val (.int z3), .val (.long s3), .second, .val (.int z4), .val (.long s4), .second, .val (.long s1), .second, .val (.long s2), .second, .val (.long s3), .second, .val (.long l1), .second, .val (.long l2), .second, .val (.long l3), .second, .unset, .unset, .unset, .unset, .unset, .unset] [(.int (if fa = (0 : Int32) then (if (0 : Int32) < (lcmpW s1 (100 : Int64)) then (0 : Int32) else (1 : Int32)) else (1 : Int32)))]))
  refine own_fwd (fun tt kt => XS.istore X118.here hx rfl (hb hby at_221) rfl (l' := #[.val (.int p0), .val (.int p1), .val (.int p2), .val (.int p3), .val (.int va), .val (.int vb), .val (.int vc), .val (.int fa), .val (.int fb), .val (.int fc), .val (.ref b109), .val (.int z1), .val (.long s1), .second, .val (.int z2), .val (.long s2), .second, .val (.int z3), .val (.long s3), .second, .val (.int z4), .val (.long s4), .second, .val (.long s1), .second, .val (.long s2), .second, .val (.long s3), .second, .val (.long l1), .second, .val (.long l2), .second, .val (.long l3), .second, .val (.int (if fa = (0 : Int32) then (if (0 : Int32) < (lcmpW s1 (100 : Int64)) then (0 : Int32) else (1 : Int32)) else (1 : Int32))), .unset, .unset, .unset, .unset, .unset]) rfl kt) ?_
  show own_R p.tables e below P (T118.setTop (mkF m 223 #[.val (.int p0), .val (.int p1), .val (.int p2), .val (.int p3), .val (.int va), .val (.int vb), .val (.int vc), .val (.int fa), .val (.int fb), .val (.int fc), .val (.ref b109), .val (.int z1), .val (.long s1), .second, .val (.int z2), .val (.long s2), .second, .val (.int z3), .val (.long s3), .second, .val (.int z4), .val (.long s4), .second, .val (.long s1), .second, .val (.long s2), .second, .val (.long s3), .second, .val (.long l1), .second, .val (.long l2), .second, .val (.long l3), .second, .val (.int (if fa = (0 : Int32) then (if (0 : Int32) < (lcmpW s1 (100 : Int64)) then (0 : Int32) else (1 : Int32)) else (1 : Int32))), .unset, .unset, .unset, .unset, .unset] []))
  refine own_fwd (fun tt kt => XS.iload X118.here hx rfl (hb hby at_223) rfl kt) ?_
  show own_R p.tables e below P (T118.setTop (mkF m 225 #[.val (.int p0), .val (.int p1), .val (.int p2), .val (.int p3), .val (.int va), .val (.int vb), .val (.int vc), .val (.int fa), .val (.int fb), .val (.int fc), .val (.ref b109), .val (.int z1), .val (.long s1), .second, .val (.int z2), .val (.long s2), .second, .val (.int z3), .val (.long s3), .second, .val (.int z4), .val (.long s4), .second, .val (.long s1), .second, .val (.long s2), .second, .val (.long s3), .second, .val (.long l1), .second, .val (.long l2), .second, .val (.long l3), .second, .val (.int (if fa = (0 : Int32) then (if (0 : Int32) < (lcmpW s1 (100 : Int64)) then (0 : Int32) else (1 : Int32)) else (1 : Int32))), .unset, .unset, .unset, .unset, .unset] [(.int fb)]))
  have j130 : ∀ P, own_R p.tables e below P (T118.setTop (mkF m 245 #[.val (.int p0), .val (.int p1), .val (.int p2), .val (.int p3), .val (.int va), .val (.int vb), .val (.int vc), .val (.int fa), .val (.int fb), .val (.int fc), .val (.ref b109), .val (.int z1), .val (.long s1), .second, .val (.int z2), .val (.long s2), .second, .val (.int z3), .val (.long s3), .second, .val (.int z4), .val (.long s4), .second, .val (.long s1), .second, .val (.long s2), .second, .val (.long s3), .second, .val (.long l1), .second, .val (.long l2), .second, .val (.long l3), .second, .val (.int (if fa = (0 : Int32) then (if (0 : Int32) < (lcmpW s1 (100 : Int64)) then (0 : Int32) else (1 : Int32)) else (1 : Int32))), .unset, .unset, .unset, .unset, .unset] [(.int (if fb = (0 : Int32) then (if (0 : Int32) < (lcmpW (s2 - l1) (100 : Int64)) then (0 : Int32) else (1 : Int32)) else (1 : Int32)))])) → own_R p.tables e below P (T118.setTop (mkF m 225 #[.val (.int p0), .val (.int p1), .val (.int p2), .val (.int p3), .val (.int va), .val (.int vb), .val (.int vc), .val (.int fa), .val (.int fb), .val (.int fc), .val (.ref b109), .val (.int z1), .val (.long s1), .second, .val (.int z2), .val (.long s2), .second, .val (.int z3), .val (.long s3), .second, .val (.int z4), .val (.long s4), .second, .val (.long s1), .second, .val (.long s2), .second, .val (.long s3), .second, .val (.long l1), .second, .val (.long l2), .second, .val (.long l3), .second, .val (.int (if fa = (0 : Int32) then (if (0 : Int32) < (lcmpW s1 (100 : Int64)) then (0 : Int32) else (1 : Int32)) else (1 : Int32))), .unset, .unset, .unset, .unset, .unset] [(.int fb)])) := by
    intro P k
    by_cases hc128 : fb = (0 : Int32)
    · try simp only [if_pos hc128] at k
      refine own_fwd (fun tt kt => XS.ifNo X118.here hx rfl (hb hby at_225) rfl ((if0 _ _).trans (teq hc128).2) kt) ?_
      show own_R p.tables e below P (T118.setTop (mkF m 228 #[.val (.int p0), .val (.int p1), .val (.int p2), .val (.int p3), .val (.int va), .val (.int vb), .val (.int vc), .val (.int fa), .val (.int fb), .val (.int fc), .val (.ref b109), .val (.int z1), .val (.long s1), .second, .val (.int z2), .val (.long s2), .second, .val (.int z3), .val (.long s3), .second, .val (.int z4), .val (.long s4), .second, .val (.long s1), .second, .val (.long s2), .second, .val (.long s3), .second, .val (.long l1), .second, .val (.long l2), .second, .val (.long l3), .second, .val (.int (if fa = (0 : Int32) then (if (0 : Int32) < (lcmpW s1 (100 : Int64)) then (0 : Int32) else (1 : Int32)) else (1 : Int32))), .unset, .unset, .unset, .unset, .unset] []))
      refine own_fwd (fun tt kt => XS.lload X118.here hx rfl (hb hby at_228) rfl kt) ?_
      show own_R p.tables e below P (T118.setTop (mkF m 230 #[.val (.int p0), .val (.int p1), .val (.int p2), .val (.int p3), .val (.int va), .val (.int vb), .val (.int vc), .val (.int fa), .val (.int fb), .val (.int fc), .val (.ref b109), .val (.int z1), .val (.long s1), .second, .val (.int z2), .val (.long s2), .second, .val (.int z3), .val (.long s3), .second, .val (.int z4), .val (.long s4), .second, .val (.long s1), .second, .val (.long s2), .second, .val (.long s3), .second, .val (.long l1), .second, .val (.long l2), .second, .val (.long l3), .second, .val (.int (if fa = (0 : Int32) then (if (0 : Int32) < (lcmpW s1 (100 : Int64)) then (0 : Int32) else (1 : Int32)) else (1 : Int32))), .unset, .unset, .unset, .unset, .unset] [(.long s2)]))
      refine own_fwd (fun tt kt => XS.lload X118.here hx rfl (hb hby at_230) rfl kt) ?_
      show own_R p.tables e below P (T118.setTop (mkF m 232 #[.val (.int p0), .val (.int p1), .val (.int p2), .val (.int p3), .val (.int va), .val (.int vb), .val (.int vc), .val (.int fa), .val (.int fb), .val (.int fc), .val (.ref b109), .val (.int z1), .val (.long s1), .second, .val (.int z2), .val (.long s2), .second, .val (.int z3), .val (.long s3), .second, .val (.int z4), .val (.long s4), .second, .val (.long s1), .second, .val (.long s2), .second, .val (.long s3), .second, .val (.long l1), .second, .val (.long l2), .second, .val (.long l3), .second, .val (.int (if fa = (0 : Int32) then (if (0 : Int32) < (lcmpW s1 (100 : Int64)) then (0 : Int32) else (1 : Int32)) else (1 : Int32))), .unset, .unset, .unset, .unset, .unset] [(.long l1), (.long s2)]))
      refine own_fwd (fun tt kt => XS.lsub X118.here hx rfl (hb hby at_232) rfl kt) ?_
      show own_R p.tables e below P (T118.setTop (mkF m 233 #[.val (.int p0), .val (.int p1), .val (.int p2), .val (.int p3), .val (.int va), .val (.int vb), .val (.int vc), .val (.int fa), .val (.int fb), .val (.int fc), .val (.ref b109), .val (.int z1), .val (.long s1), .second, .val (.int z2), .val (.long s2), .second, .val (.int z3), .val (.long s3), .second, .val (.int z4), .val (.long s4), .second, .val (.long s1), .second, .val (.long s2), .second, .val (.long s3), .second, .val (.long l1), .second, .val (.long l2), .second, .val (.long l3), .second, .val (.int (if fa = (0 : Int32) then (if (0 : Int32) < (lcmpW s1 (100 : Int64)) then (0 : Int32) else (1 : Int32)) else (1 : Int32))), .unset, .unset, .unset, .unset, .unset] [(.long (s2 - l1))]))
      refine own_fwd (fun tt kt => X118.ldc2Long hx hown (mvT hZ (hw _ (List.mem_of_getElem? (i := 130) rfl))) (g := (mkF m 233 #[.val (.int p0), .val (.int p1), .val (.int p2), .val (.int p3), .val (.int va), .val (.int vb), .val (.int vc), .val (.int fa), .val (.int fb), .val (.int fc), .val (.ref b109), .val (.int z1), .val (.long s1), .second, .val (.int z2), .val (.long s2), .second, .val (.int z3), .val (.long s3), .second, .val (.int z4), .val (.long s4), .second, .val (.long s1), .second, .val (.long s2), .second, .val (.long s3), .second, .val (.long l1), .second, .val (.long l2), .second, .val (.long l3), .second, .val (.int (if fa = (0 : Int32) then (if (0 : Int32) < (lcmpW s1 (100 : Int64)) then (0 : Int32) else (1 : Int32)) else (1 : Int32))), .unset, .unset, .unset, .unset, .unset] [(.long (s2 - l1))])) rfl (hb hby at_233) tt kt) ?_
      show own_R p.tables e below P (T118.setTop (mkF m 236 #[.val (.int p0), .val (.int p1), .val (.int p2), .val (.int p3), .val (.int va), .val (.int vb), .val (.int vc), .val (.int fa), .val (.int fb), .val (.int fc), .val (.ref b109), .val (.int z1), .val (.long s1), .second, .val (.int z2), .val (.long s2), .second, .val (.int z3), .val (.long s3), .second, .val (.int z4), .val (.long s4), .second, .val (.long s1), .second, .val (.long s2), .second, .val (.long s3), .second, .val (.long l1), .second, .val (.long l2), .second, .val (.long l3), .second, .val (.int (if fa = (0 : Int32) then (if (0 : Int32) < (lcmpW s1 (100 : Int64)) then (0 : Int32) else (1 : Int32)) else (1 : Int32))), .unset, .unset, .unset, .unset, .unset] [(.long (100 : Int64)), (.long (s2 - l1))]))
      refine own_fwd (fun tt kt => XS.lcmp X118.here hx rfl (hb hby at_236) rfl kt) ?_
      show own_R p.tables e below P (T118.setTop (mkF m 237 #[.val (.int p0), .val (.int p1), .val (.int p2), .val (.int p3), .val (.int va), .val (.int vb), .val (.int vc), .val (.int fa), .val (.int fb), .val (.int fc), .val (.ref b109), .val (.int z1), .val (.long s1), .second, .val (.int z2), .val (.long s2), .second, .val (.int z3), .val (.long s3), .second, .val (.int z4), .val (.long s4), .second, .val (.long s1), .second, .val (.long s2), .second, .val (.long s3), .second, .val (.long l1), .second, .val (.long l2), .second, .val (.long l3), .second, .val (.int (if fa = (0 : Int32) then (if (0 : Int32) < (lcmpW s1 (100 : Int64)) then (0 : Int32) else (1 : Int32)) else (1 : Int32))), .unset, .unset, .unset, .unset, .unset] [(.int (lcmpW (s2 - l1) (100 : Int64)))]))
      by_cases hc129 : (0 : Int32) < (lcmpW (s2 - l1) (100 : Int64))
      · try simp only [if_pos hc129] at k
        refine own_fwd (fun tt kt => XS.ifYes X118.here hx rfl (pc0 := 237) (pc' := 244) rfl (hb hby at_237) rfl ((if0 _ _).trans (tlt hc129).2.2.1) (by decide) (by decide) kt) ?_
        show own_R p.tables e below P (T118.setTop (mkF m 244 #[.val (.int p0), .val (.int p1), .val (.int p2), .val (.int p3), .val (.int va), .val (.int vb), .val (.int vc), .val (.int fa), .val (.int fb), .val (.int fc), .val (.ref b109), .val (.int z1), .val (.long s1), .second, .val (.int z2), .val (.long s2), .second, .val (.int z3), .val (.long s3), .second, .val (.int z4), .val (.long s4), .second, .val (.long s1), .second, .val (.long s2), .second, .val (.long s3), .second, .val (.long l1), .second, .val (.long l2), .second, .val (.long l3), .second, .val (.int (if fa = (0 : Int32) then (if (0 : Int32) < (lcmpW s1 (100 : Int64)) then (0 : Int32) else (1 : Int32)) else (1 : Int32))), .unset, .unset, .unset, .unset, .unset] []))
        refine own_fwd (fun tt kt => XS.iconst X118.here hx rfl (hb hby at_244) kt) ?_
        show own_R p.tables e below P (T118.setTop (mkF m 245 #[.val (.int p0), .val (.int p1), .val (.int p2), .val (.int p3), .val (.int va), .val (.int vb), .val (.int vc), .val (.int fa), .val (.int fb), .val (.int fc), .val (.ref b109), .val (.int z1), .val (.long s1), .second, .val (.int z2), .val (.long s2), .second, .val (.int z3), .val (.long s3), .second, .val (.int z4), .val (.long s4), .second, .val (.long s1), .second, .val (.long s2), .second, .val (.long s3), .second, .val (.long l1), .second, .val (.long l2), .second, .val (.long l3), .second, .val (.int (if fa = (0 : Int32) then (if (0 : Int32) < (lcmpW s1 (100 : Int64)) then (0 : Int32) else (1 : Int32)) else (1 : Int32))), .unset, .unset, .unset, .unset, .unset] [(.int (0 : Int32))]))
        exact k
      · try simp only [if_neg hc129] at k
        refine own_fwd (fun tt kt => XS.ifNo X118.here hx rfl (hb hby at_237) rfl ((if0 _ _).trans (flt hc129).2.2.1) kt) ?_
        show own_R p.tables e below P (T118.setTop (mkF m 240 #[.val (.int p0), .val (.int p1), .val (.int p2), .val (.int p3), .val (.int va), .val (.int vb), .val (.int vc), .val (.int fa), .val (.int fb), .val (.int fc), .val (.ref b109), .val (.int z1), .val (.long s1), .second, .val (.int z2), .val (.long s2), .second, .val (.int z3), .val (.long s3), .second, .val (.int z4), .val (.long s4), .second, .val (.long s1), .second, .val (.long s2), .second, .val (.long s3), .second, .val (.long l1), .second, .val (.long l2), .second, .val (.long l3), .second, .val (.int (if fa = (0 : Int32) then (if (0 : Int32) < (lcmpW s1 (100 : Int64)) then (0 : Int32) else (1 : Int32)) else (1 : Int32))), .unset, .unset, .unset, .unset, .unset] []))
        refine own_fwd (fun tt kt => XS.iconst X118.here hx rfl (hb hby at_240) kt) ?_
        show own_R p.tables e below P (T118.setTop (mkF m 241 #[.val (.int p0), .val (.int p1), .val (.int p2), .val (.int p3), .val (.int va), .val (.int vb), .val (.int vc), .val (.int fa), .val (.int fb), .val (.int fc), .val (.ref b109), .val (.int z1), .val (.long s1), .second, .val (.int z2), .val (.long s2), .second, .val (.int z3), .val (.long s3), .second, .val (.int z4), .val (.long s4), .second, .val (.long s1), .second, .val (.long s2), .second, .val (.long s3), .second, .val (.long l1), .second, .val (.long l2), .second, .val (.long l3), .second, .val (.int (if fa = (0 : Int32) then (if (0 : Int32) < (lcmpW s1 (100 : Int64)) then (0 : Int32) else (1 : Int32)) else (1 : Int32))), .unset, .unset, .unset, .unset, .unset] [(.int (1 : Int32))]))
        refine own_fwd (fun tt kt => XS.goto X118.here hx rfl (pc0 := 241) (pc' := 245) rfl (hb hby at_241) (by decide) (by decide) kt) ?_
        show own_R p.tables e below P (T118.setTop (mkF m 245 #[.val (.int p0), .val (.int p1), .val (.int p2), .val (.int p3), .val (.int va), .val (.int vb), .val (.int vc), .val (.int fa), .val (.int fb), .val (.int fc), .val (.ref b109), .val (.int z1), .val (.long s1), .second, .val (.int z2), .val (.long s2), .second, .val (.int z3), .val (.long s3), .second, .val (.int z4), .val (.long s4), .second, .val (.long s1), .second, .val (.long s2), .second, .val (.long s3), .second, .val (.long l1), .second, .val (.long l2), .second, .val (.long l3), .second, .val (.int (if fa = (0 : Int32) then (if (0 : Int32) < (lcmpW s1 (100 : Int64)) then (0 : Int32) else (1 : Int32)) else (1 : Int32))), .unset, .unset, .unset, .unset, .unset] [(.int (1 : Int32))]))
        exact k
    · try simp only [if_neg hc128] at k
      refine own_fwd (fun tt kt => XS.ifYes X118.here hx rfl (pc0 := 225) (pc' := 240) rfl (hb hby at_225) rfl ((if0 _ _).trans (feq hc128).2) (by decide) (by decide) kt) ?_
      show own_R p.tables e below P (T118.setTop (mkF m 240 #[.val (.int p0), .val (.int p1), .val (.int p2), .val (.int p3), .val (.int va), .val (.int vb), .val (.int vc), .val (.int fa), .val (.int fb), .val (.int fc), .val (.ref b109), .val (.int z1), .val (.long s1), .second, .val (.int z2), .val (.long s2), .second, .val (.int z3), .val (.long s3), .second, .val (.int z4), .val (.long s4), .second, .val (.long s1), .second, .val (.long s2), .second, .val (.long s3), .second, .val (.long l1), .second, .val (.long l2), .second, .val (.long l3), .second, .val (.int (if fa = (0 : Int32) then (if (0 : Int32) < (lcmpW s1 (100 : Int64)) then (0 : Int32) else (1 : Int32)) else (1 : Int32))), .unset, .unset, .unset, .unset, .unset] []))
      refine own_fwd (fun tt kt => XS.iconst X118.here hx rfl (hb hby at_240) kt) ?_
      show own_R p.tables e below P (T118.setTop (mkF m 241 #[.val (.int p0), .val (.int p1), .val (.int p2), .val (.int p3), .val (.int va), .val (.int vb), .val (.int vc), .val (.int fa), .val (.int fb), .val (.int fc), .val (.ref b109), .val (.int z1), .val (.long s1), .second, .val (.int z2), .val (.long s2), .second, .val (.int z3), .val (.long s3), .second, .val (.int z4), .val (.long s4), .second, .val (.long s1), .second, .val (.long s2), .second, .val (.long s3), .second, .val (.long l1), .second, .val (.long l2), .second, .val (.long l3), .second, .val (.int (if fa = (0 : Int32) then (if (0 : Int32) < (lcmpW s1 (100 : Int64)) then (0 : Int32) else (1 : Int32)) else (1 : Int32))), .unset, .unset, .unset, .unset, .unset] [(.int (1 : Int32))]))
      refine own_fwd (fun tt kt => XS.goto X118.here hx rfl (pc0 := 241) (pc' := 245) rfl (hb hby at_241) (by decide) (by decide) kt) ?_
      show own_R p.tables e below P (T118.setTop (mkF m 245 #[.val (.int p0), .val (.int p1), .val (.int p2), .val (.int p3), .val (.int va), .val (.int vb), .val (.int vc), .val (.int fa), .val (.int fb), .val (.int fc), .val (.ref b109), .val (.int z1), .val (.long s1), .second, .val (.int z2), .val (.long s2), .second, .val (.int z3), .val (.long s3), .second, .val (.int z4), .val (.long s4), .second, .val (.long s1), .second, .val (.long s2), .second, .val (.long s3), .second, .val (.long l1), .second, .val (.long l2), .second, .val (.long l3), .second, .val (.int (if fa = (0 : Int32) then (if (0 : Int32) < (lcmpW s1 (100 : Int64)) then (0 : Int32) else (1 : Int32)) else (1 : Int32))), .unset, .unset, .unset, .unset, .unset] [(.int (1 : Int32))]))
      exact k
  refine j130 P ?_
  show own_R p.tables e below P (T118.setTop (mkF m 245 #[.val (.int p0), .val (.int p1), .val (.int p2), .val (.int p3), .val (.int va), .val (.int vb), .val (.int vc), .val (.int fa), .val (.int fb), .val (.int fc), .val (.ref b109), .val (.int z1), .val (.long s1), .second, .val (.int z2), .val (.long s2), .second, .val (.int z3), .val (.long s3), .second, .val (.int z4), .val (.long s4), .second, .val (.long s1), .second, .val (.long s2), .second, .val (.long s3), .second, .val (.long l1), .second, .val (.long l2), .second, .val (.long l3), .second, .val (.int (if fa = (0 : Int32) then (if (0 : Int32) < (lcmpW s1 (100 : Int64)) then (0 : Int32) else (1 : Int32)) else (1 : Int32))), .unset, .unset, .unset, .unset, .unset] [(.int (if fb = (0 : Int32) then (if (0 : Int32) < (lcmpW (s2 - l1) (100 : Int64)) then (0 : Int32) else (1 : Int32)) else (1 : Int32)))]))
  refine own_fwd (fun tt kt => XS.istore X118.here hx rfl (hb hby at_245) rfl (l' := #[.val (.int p0), .val (.int p1), .val (.int p2), .val (.int p3), .val (.int va), .val (.int vb), .val (.int vc), .val (.int fa), .val (.int fb), .val (.int fc), .val (.ref b109), .val (.int z1), .val (.long s1), .second, .val (.int z2), .val (.long s2), .second, .val (.int z3), .val (.long s3), .second, .val (.int z4), .val (.long s4), .second, .val (.long s1), .second, .val (.long s2), .second, .val (.long s3), .second, .val (.long l1), .second, .val (.long l2), .second, .val (.long l3), .second, .val (.int (if fa = (0 : Int32) then (if (0 : Int32) < (lcmpW s1 (100 : Int64)) then (0 : Int32) else (1 : Int32)) else (1 : Int32))), .val (.int (if fb = (0 : Int32) then (if (0 : Int32) < (lcmpW (s2 - l1) (100 : Int64)) then (0 : Int32) else (1 : Int32)) else (1 : Int32))), .unset, .unset, .unset, .unset]) rfl kt) ?_
  show own_R p.tables e below P (T118.setTop (mkF m 247 #[.val (.int p0), .val (.int p1), .val (.int p2), .val (.int p3), .val (.int va), .val (.int vb), .val (.int vc), .val (.int fa), .val (.int fb), .val (.int fc), .val (.ref b109), .val (.int z1), .val (.long s1), .second, .val (.int z2), .val (.long s2), .second, .val (.int z3), .val (.long s3), .second, .val (.int z4), .val (.long s4), .second, .val (.long s1), .second, .val (.long s2), .second, .val (.long s3), .second, .val (.long l1), .second, .val (.long l2), .second, .val (.long l3), .second, .val (.int (if fa = (0 : Int32) then (if (0 : Int32) < (lcmpW s1 (100 : Int64)) then (0 : Int32) else (1 : Int32)) else (1 : Int32))), .val (.int (if fb = (0 : Int32) then (if (0 : Int32) < (lcmpW (s2 - l1) (100 : Int64)) then (0 : Int32) else (1 : Int32)) else (1 : Int32))), .unset, .unset, .unset, .unset] []))
  refine own_fwd (fun tt kt => XS.iload X118.here hx rfl (hb hby at_247) rfl kt) ?_
  show own_R p.tables e below P (T118.setTop (mkF m 249 #[.val (.int p0), .val (.int p1), .val (.int p2), .val (.int p3), .val (.int va), .val (.int vb), .val (.int vc), .val (.int fa), .val (.int fb), .val (.int fc), .val (.ref b109), .val (.int z1), .val (.long s1), .second, .val (.int z2), .val (.long s2), .second, .val (.int z3), .val (.long s3), .second, .val (.int z4), .val (.long s4), .second, .val (.long s1), .second, .val (.long s2), .second, .val (.long s3), .second, .val (.long l1), .second, .val (.long l2), .second, .val (.long l3), .second, .val (.int (if fa = (0 : Int32) then (if (0 : Int32) < (lcmpW s1 (100 : Int64)) then (0 : Int32) else (1 : Int32)) else (1 : Int32))), .val (.int (if fb = (0 : Int32) then (if (0 : Int32) < (lcmpW (s2 - l1) (100 : Int64)) then (0 : Int32) else (1 : Int32)) else (1 : Int32))), .unset, .unset, .unset, .unset] [(.int fc)]))
  have j133 : ∀ P, own_R p.tables e below P (T118.setTop (mkF m 269 #[.val (.int p0), .val (.int p1), .val (.int p2), .val (.int p3), .val (.int va), .val (.int vb), .val (.int vc), .val (.int fa), .val (.int fb), .val (.int fc), .val (.ref b109), .val (.int z1), .val (.long s1), .second, .val (.int z2), .val (.long s2), .second, .val (.int z3), .val (.long s3), .second, .val (.int z4), .val (.long s4), .second, .val (.long s1), .second, .val (.long s2), .second, .val (.long s3), .second, .val (.long l1), .second, .val (.long l2), .second, .val (.long l3), .second, .val (.int (if fa = (0 : Int32) then (if (0 : Int32) < (lcmpW s1 (100 : Int64)) then (0 : Int32) else (1 : Int32)) else (1 : Int32))), .val (.int (if fb = (0 : Int32) then (if (0 : Int32) < (lcmpW (s2 - l1) (100 : Int64)) then (0 : Int32) else (1 : Int32)) else (1 : Int32))), .unset, .unset, .unset, .unset] [(.int (if fc = (0 : Int32) then (if (0 : Int32) < (lcmpW (s3 - l2) (100 : Int64)) then (0 : Int32) else (1 : Int32)) else (1 : Int32)))])) → own_R p.tables e below P (T118.setTop (mkF m 249 #[.val (.int p0), .val (.int p1), .val (.int p2), .val (.int p3), .val (.int va), .val (.int vb), .val (.int vc), .val (.int fa), .val (.int fb), .val (.int fc), .val (.ref b109), .val (.int z1), .val (.long s1), .second, .val (.int z2), .val (.long s2), .second, .val (.int z3), .val (.long s3), .second, .val (.int z4), .val (.long s4), .second, .val (.long s1), .second, .val (.long s2), .second, .val (.long s3), .second, .val (.long l1), .second, .val (.long l2), .second, .val (.long l3), .second, .val (.int (if fa = (0 : Int32) then (if (0 : Int32) < (lcmpW s1 (100 : Int64)) then (0 : Int32) else (1 : Int32)) else (1 : Int32))), .val (.int (if fb = (0 : Int32) then (if (0 : Int32) < (lcmpW (s2 - l1) (100 : Int64)) then (0 : Int32) else (1 : Int32)) else (1 : Int32))), .unset, .unset, .unset, .unset] [(.int fc)])) := by
    intro P k
    by_cases hc131 : fc = (0 : Int32)
    · try simp only [if_pos hc131] at k
      refine own_fwd (fun tt kt => XS.ifNo X118.here hx rfl (hb hby at_249) rfl ((if0 _ _).trans (teq hc131).2) kt) ?_
      show own_R p.tables e below P (T118.setTop (mkF m 252 #[.val (.int p0), .val (.int p1), .val (.int p2), .val (.int p3), .val (.int va), .val (.int vb), .val (.int vc), .val (.int fa), .val (.int fb), .val (.int fc), .val (.ref b109), .val (.int z1), .val (.long s1), .second, .val (.int z2), .val (.long s2), .second, .val (.int z3), .val (.long s3), .second, .val (.int z4), .val (.long s4), .second, .val (.long s1), .second, .val (.long s2), .second, .val (.long s3), .second, .val (.long l1), .second, .val (.long l2), .second, .val (.long l3), .second, .val (.int (if fa = (0 : Int32) then (if (0 : Int32) < (lcmpW s1 (100 : Int64)) then (0 : Int32) else (1 : Int32)) else (1 : Int32))), .val (.int (if fb = (0 : Int32) then (if (0 : Int32) < (lcmpW (s2 - l1) (100 : Int64)) then (0 : Int32) else (1 : Int32)) else (1 : Int32))), .unset, .unset, .unset, .unset] []))
      refine own_fwd (fun tt kt => XS.lload X118.here hx rfl (hb hby at_252) rfl kt) ?_
      show own_R p.tables e below P (T118.setTop (mkF m 254 #[.val (.int p0), .val (.int p1), .val (.int p2), .val (.int p3), .val (.int va), .val (.int vb), .val (.int vc), .val (.int fa), .val (.int fb), .val (.int fc), .val (.ref b109), .val (.int z1), .val (.long s1), .second, .val (.int z2), .val (.long s2), .second, .val (.int z3), .val (.long s3), .second, .val (.int z4), .val (.long s4), .second, .val (.long s1), .second, .val (.long s2), .second, .val (.long s3), .second, .val (.long l1), .second, .val (.long l2), .second, .val (.long l3), .second, .val (.int (if fa = (0 : Int32) then (if (0 : Int32) < (lcmpW s1 (100 : Int64)) then (0 : Int32) else (1 : Int32)) else (1 : Int32))), .val (.int (if fb = (0 : Int32) then (if (0 : Int32) < (lcmpW (s2 - l1) (100 : Int64)) then (0 : Int32) else (1 : Int32)) else (1 : Int32))), .unset, .unset, .unset, .unset] [(.long s3)]))
      refine own_fwd (fun tt kt => XS.lload X118.here hx rfl (hb hby at_254) rfl kt) ?_
      show own_R p.tables e below P (T118.setTop (mkF m 256 #[.val (.int p0), .val (.int p1), .val (.int p2), .val (.int p3), .val (.int va), .val (.int vb), .val (.int vc), .val (.int fa), .val (.int fb), .val (.int fc), .val (.ref b109), .val (.int z1), .val (.long s1), .second, .val (.int z2), .val (.long s2), .second, .val (.int z3), .val (.long s3), .second, .val (.int z4), .val (.long s4), .second, .val (.long s1), .second, .val (.long s2), .second, .val (.long s3), .second, .val (.long l1), .second, .val (.long l2), .second, .val (.long l3), .second, .val (.int (if fa = (0 : Int32) then (if (0 : Int32) < (lcmpW s1 (100 : Int64)) then (0 : Int32) else (1 : Int32)) else (1 : Int32))), .val (.int (if fb = (0 : Int32) then (if (0 : Int32) < (lcmpW (s2 - l1) (100 : Int64)) then (0 : Int32) else (1 : Int32)) else (1 : Int32))), .unset, .unset, .unset, .unset] [(.long l2), (.long s3)]))
      refine own_fwd (fun tt kt => XS.lsub X118.here hx rfl (hb hby at_256) rfl kt) ?_
      show own_R p.tables e below P (T118.setTop (mkF m 257 #[.val (.int p0), .val (.int p1), .val (.int p2), .val (.int p3), .val (.int va), .val (.int vb), .val (.int vc), .val (.int fa), .val (.int fb), .val (.int fc), .val (.ref b109), .val (.int z1), .val (.long s1), .second, .val (.int z2), .val (.long s2), .second, .val (.int z3), .val (.long s3), .second, .val (.int z4), .val (.long s4), .second, .val (.long s1), .second, .val (.long s2), .second, .val (.long s3), .second, .val (.long l1), .second, .val (.long l2), .second, .val (.long l3), .second, .val (.int (if fa = (0 : Int32) then (if (0 : Int32) < (lcmpW s1 (100 : Int64)) then (0 : Int32) else (1 : Int32)) else (1 : Int32))), .val (.int (if fb = (0 : Int32) then (if (0 : Int32) < (lcmpW (s2 - l1) (100 : Int64)) then (0 : Int32) else (1 : Int32)) else (1 : Int32))), .unset, .unset, .unset, .unset] [(.long (s3 - l2))]))
      refine own_fwd (fun tt kt => X118.ldc2Long hx hown (mvT hZ (hw _ (List.mem_of_getElem? (i := 130) rfl))) (g := (mkF m 257 #[.val (.int p0), .val (.int p1), .val (.int p2), .val (.int p3), .val (.int va), .val (.int vb), .val (.int vc), .val (.int fa), .val (.int fb), .val (.int fc), .val (.ref b109), .val (.int z1), .val (.long s1), .second, .val (.int z2), .val (.long s2), .second, .val (.int z3), .val (.long s3), .second, .val (.int z4), .val (.long s4), .second, .val (.long s1), .second, .val (.long s2), .second, .val (.long s3), .second, .val (.long l1), .second, .val (.long l2), .second, .val (.long l3), .second, .val (.int (if fa = (0 : Int32) then (if (0 : Int32) < (lcmpW s1 (100 : Int64)) then (0 : Int32) else (1 : Int32)) else (1 : Int32))), .val (.int (if fb = (0 : Int32) then (if (0 : Int32) < (lcmpW (s2 - l1) (100 : Int64)) then (0 : Int32) else (1 : Int32)) else (1 : Int32))), .unset, .unset, .unset, .unset] [(.long (s3 - l2))])) rfl (hb hby at_257) tt kt) ?_
      show own_R p.tables e below P (T118.setTop (mkF m 260 #[.val (.int p0), .val (.int p1), .val (.int p2), .val (.int p3), .val (.int va), .val (.int vb), .val (.int vc), .val (.int fa), .val (.int fb), .val (.int fc), .val (.ref b109), .val (.int z1), .val (.long s1), .second, .val (.int z2), .val (.long s2), .second, .val (.int z3), .val (.long s3), .second, .val (.int z4), .val (.long s4), .second, .val (.long s1), .second, .val (.long s2), .second, .val (.long s3), .second, .val (.long l1), .second, .val (.long l2), .second, .val (.long l3), .second, .val (.int (if fa = (0 : Int32) then (if (0 : Int32) < (lcmpW s1 (100 : Int64)) then (0 : Int32) else (1 : Int32)) else (1 : Int32))), .val (.int (if fb = (0 : Int32) then (if (0 : Int32) < (lcmpW (s2 - l1) (100 : Int64)) then (0 : Int32) else (1 : Int32)) else (1 : Int32))), .unset, .unset, .unset, .unset] [(.long (100 : Int64)), (.long (s3 - l2))]))
      refine own_fwd (fun tt kt => XS.lcmp X118.here hx rfl (hb hby at_260) rfl kt) ?_
      show own_R p.tables e below P (T118.setTop (mkF m 261 #[.val (.int p0), .val (.int p1), .val (.int p2), .val (.int p3), .val (.int va), .val (.int vb), .val (.int vc), .val (.int fa), .val (.int fb), .val (.int fc), .val (.ref b109), .val (.int z1), .val (.long s1), .second, .val (.int z2), .val (.long s2), .second, .val (.int z3), .val (.long s3), .second, .val (.int z4), .val (.long s4), .second, .val (.long s1), .second, .val (.long s2), .second, .val (.long s3), .second, .val (.long l1), .second, .val (.long l2), .second, .val (.long l3), .second, .val (.int (if fa = (0 : Int32) then (if (0 : Int32) < (lcmpW s1 (100 : Int64)) then (0 : Int32) else (1 : Int32)) else (1 : Int32))), .val (.int (if fb = (0 : Int32) then (if (0 : Int32) < (lcmpW (s2 - l1) (100 : Int64)) then (0 : Int32) else (1 : Int32)) else (1 : Int32))), .unset, .unset, .unset, .unset] [(.int (lcmpW (s3 - l2) (100 : Int64)))]))
      by_cases hc132 : (0 : Int32) < (lcmpW (s3 - l2) (100 : Int64))
      · try simp only [if_pos hc132] at k
        refine own_fwd (fun tt kt => XS.ifYes X118.here hx rfl (pc0 := 261) (pc' := 268) rfl (hb hby at_261) rfl ((if0 _ _).trans (tlt hc132).2.2.1) (by decide) (by decide) kt) ?_
        show own_R p.tables e below P (T118.setTop (mkF m 268 #[.val (.int p0), .val (.int p1), .val (.int p2), .val (.int p3), .val (.int va), .val (.int vb), .val (.int vc), .val (.int fa), .val (.int fb), .val (.int fc), .val (.ref b109), .val (.int z1), .val (.long s1), .second, .val (.int z2), .val (.long s2), .second, .val (.int z3), .val (.long s3), .second, .val (.int z4), .val (.long s4), .second, .val (.long s1), .second, .val (.long s2), .second, .val (.long s3), .second, .val (.long l1), .second, .val (.long l2), .second, .val (.long l3), .second, .val (.int (if fa = (0 : Int32) then (if (0 : Int32) < (lcmpW s1 (100 : Int64)) then (0 : Int32) else (1 : Int32)) else (1 : Int32))), .val (.int (if fb = (0 : Int32) then (if (0 : Int32) < (lcmpW (s2 - l1) (100 : Int64)) then (0 : Int32) else (1 : Int32)) else (1 : Int32))), .unset, .unset, .unset, .unset] []))
        refine own_fwd (fun tt kt => XS.iconst X118.here hx rfl (hb hby at_268) kt) ?_
        show own_R p.tables e below P (T118.setTop (mkF m 269 #[.val (.int p0), .val (.int p1), .val (.int p2), .val (.int p3), .val (.int va), .val (.int vb), .val (.int vc), .val (.int fa), .val (.int fb), .val (.int fc), .val (.ref b109), .val (.int z1), .val (.long s1), .second, .val (.int z2), .val (.long s2), .second, .val (.int z3), .val (.long s3), .second, .val (.int z4), .val (.long s4), .second, .val (.long s1), .second, .val (.long s2), .second, .val (.long s3), .second, .val (.long l1), .second, .val (.long l2), .second, .val (.long l3), .second, .val (.int (if fa = (0 : Int32) then (if (0 : Int32) < (lcmpW s1 (100 : Int64)) then (0 : Int32) else (1 : Int32)) else (1 : Int32))), .val (.int (if fb = (0 : Int32) then (if (0 : Int32) < (lcmpW (s2 - l1) (100 : Int64)) then (0 : Int32) else (1 : Int32)) else (1 : Int32))), .unset, .unset, .unset, .unset] [(.int (0 : Int32))]))
        exact k
      · try simp only [if_neg hc132] at k
        refine own_fwd (fun tt kt => XS.ifNo X118.here hx rfl (hb hby at_261) rfl ((if0 _ _).trans (flt hc132).2.2.1) kt) ?_
        show own_R p.tables e below P (T118.setTop (mkF m 264 #[.val (.int p0), .val (.int p1), .val (.int p2), .val (.int p3), .val (.int va), .val (.int vb), .val (.int vc), .val (.int fa), .val (.int fb), .val (.int fc), .val (.ref b109), .val (.int z1), .val (.long s1), .second, .val (.int z2), .val (.long s2), .second, .val (.int z3), .val (.long s3), .second, .val (.int z4), .val (.long s4), .second, .val (.long s1), .second, .val (.long s2), .second, .val (.long s3), .second, .val (.long l1), .second, .val (.long l2), .second, .val (.long l3), .second, .val (.int (if fa = (0 : Int32) then (if (0 : Int32) < (lcmpW s1 (100 : Int64)) then (0 : Int32) else (1 : Int32)) else (1 : Int32))), .val (.int (if fb = (0 : Int32) then (if (0 : Int32) < (lcmpW (s2 - l1) (100 : Int64)) then (0 : Int32) else (1 : Int32)) else (1 : Int32))), .unset, .unset, .unset, .unset] []))
        refine own_fwd (fun tt kt => XS.iconst X118.here hx rfl (hb hby at_264) kt) ?_
        show own_R p.tables e below P (T118.setTop (mkF m 265 #[.val (.int p0), .val (.int p1), .val (.int p2), .val (.int p3), .val (.int va), .val (.int vb), .val (.int vc), .val (.int fa), .val (.int fb), .val (.int fc), .val (.ref b109), .val (.int z1), .val (.long s1), .second, .val (.int z2), .val (.long s2), .second, .val (.int z3), .val (.long s3), .second, .val (.int z4), .val (.long s4), .second, .val (.long s1), .second, .val (.long s2), .second, .val (.long s3), .second, .val (.long l1), .second, .val (.long l2), .second, .val (.long l3), .second, .val (.int (if fa = (0 : Int32) then (if (0 : Int32) < (lcmpW s1 (100 : Int64)) then (0 : Int32) else (1 : Int32)) else (1 : Int32))), .val (.int (if fb = (0 : Int32) then (if (0 : Int32) < (lcmpW (s2 - l1) (100 : Int64)) then (0 : Int32) else (1 : Int32)) else (1 : Int32))), .unset, .unset, .unset, .unset] [(.int (1 : Int32))]))
        refine own_fwd (fun tt kt => XS.goto X118.here hx rfl (pc0 := 265) (pc' := 269) rfl (hb hby at_265) (by decide) (by decide) kt) ?_
        show own_R p.tables e below P (T118.setTop (mkF m 269 #[.val (.int p0), .val (.int p1), .val (.int p2), .val (.int p3), .val (.int va), .val (.int vb), .val (.int vc), .val (.int fa), .val (.int fb), .val (.int fc), .val (.ref b109), .val (.int z1), .val (.long s1), .second, .val (.int z2), .val (.long s2), .second, .val (.int z3), .val (.long s3), .second, .val (.int z4), .val (.long s4), .second, .val (.long s1), .second, .val (.long s2), .second, .val (.long s3), .second, .val (.long l1), .second, .val (.long l2), .second, .val (.long l3), .second, .val (.int (if fa = (0 : Int32) then (if (0 : Int32) < (lcmpW s1 (100 : Int64)) then (0 : Int32) else (1 : Int32)) else (1 : Int32))), .val (.int (if fb = (0 : Int32) then (if (0 : Int32) < (lcmpW (s2 - l1) (100 : Int64)) then (0 : Int32) else (1 : Int32)) else (1 : Int32))), .unset, .unset, .unset, .unset] [(.int (1 : Int32))]))
        exact k
    · try simp only [if_neg hc131] at k
      refine own_fwd (fun tt kt => XS.ifYes X118.here hx rfl (pc0 := 249) (pc' := 264) rfl (hb hby at_249) rfl ((if0 _ _).trans (feq hc131).2) (by decide) (by decide) kt) ?_
      show own_R p.tables e below P (T118.setTop (mkF m 264 #[.val (.int p0), .val (.int p1), .val (.int p2), .val (.int p3), .val (.int va), .val (.int vb), .val (.int vc), .val (.int fa), .val (.int fb), .val (.int fc), .val (.ref b109), .val (.int z1), .val (.long s1), .second, .val (.int z2), .val (.long s2), .second, .val (.int z3), .val (.long s3), .second, .val (.int z4), .val (.long s4), .second, .val (.long s1), .second, .val (.long s2), .second, .val (.long s3), .second, .val (.long l1), .second, .val (.long l2), .second, .val (.long l3), .second, .val (.int (if fa = (0 : Int32) then (if (0 : Int32) < (lcmpW s1 (100 : Int64)) then (0 : Int32) else (1 : Int32)) else (1 : Int32))), .val (.int (if fb = (0 : Int32) then (if (0 : Int32) < (lcmpW (s2 - l1) (100 : Int64)) then (0 : Int32) else (1 : Int32)) else (1 : Int32))), .unset, .unset, .unset, .unset] []))
      refine own_fwd (fun tt kt => XS.iconst X118.here hx rfl (hb hby at_264) kt) ?_
      show own_R p.tables e below P (T118.setTop (mkF m 265 #[.val (.int p0), .val (.int p1), .val (.int p2), .val (.int p3), .val (.int va), .val (.int vb), .val (.int vc), .val (.int fa), .val (.int fb), .val (.int fc), .val (.ref b109), .val (.int z1), .val (.long s1), .second, .val (.int z2), .val (.long s2), .second, .val (.int z3), .val (.long s3), .second, .val (.int z4), .val (.long s4), .second, .val (.long s1), .second, .val (.long s2), .second, .val (.long s3), .second, .val (.long l1), .second, .val (.long l2), .second, .val (.long l3), .second, .val (.int (if fa = (0 : Int32) then (if (0 : Int32) < (lcmpW s1 (100 : Int64)) then (0 : Int32) else (1 : Int32)) else (1 : Int32))), .val (.int (if fb = (0 : Int32) then (if (0 : Int32) < (lcmpW (s2 - l1) (100 : Int64)) then (0 : Int32) else (1 : Int32)) else (1 : Int32))), .unset, .unset, .unset, .unset] [(.int (1 : Int32))]))
      refine own_fwd (fun tt kt => XS.goto X118.here hx rfl (pc0 := 265) (pc' := 269) rfl (hb hby at_265) (by decide) (by decide) kt) ?_
      show own_R p.tables e below P (T118.setTop (mkF m 269 #[.val (.int p0), .val (.int p1), .val (.int p2), .val (.int p3), .val (.int va), .val (.int vb), .val (.int vc), .val (.int fa), .val (.int fb), .val (.int fc), .val (.ref b109), .val (.int z1), .val (.long s1), .second, .val (.int z2), .val (.long s2), .second, .val (.int z3), .val (.long s3), .second, .val (.int z4), .val (.long s4), .second, .val (.long s1), .second, .val (.long s2), .second, .val (.long s3), .second, .val (.long l1), .second, .val (.long l2), .second, .val (.long l3), .second, .val (.int (if fa = (0 : Int32) then (if (0 : Int32) < (lcmpW s1 (100 : Int64)) then (0 : Int32) else (1 : Int32)) else (1 : Int32))), .val (.int (if fb = (0 : Int32) then (if (0 : Int32) < (lcmpW (s2 - l1) (100 : Int64)) then (0 : Int32) else (1 : Int32)) else (1 : Int32))), .unset, .unset, .unset, .unset] [(.int (1 : Int32))]))
      exact k
  refine j133 P ?_
  show own_R p.tables e below P (T118.setTop (mkF m 269 #[.val (.int p0), .val (.int p1), .val (.int p2), .val (.int p3), .val (.int va), .val (.int vb), .val (.int vc), .val (.int fa), .val (.int fb), .val (.int fc), .val (.ref b109), .val (.int z1), .val (.long s1), .second, .val (.int z2), .val (.long s2), .second, .val (.int z3), .val (.long s3), .second, .val (.int z4), .val (.long s4), .second, .val (.long s1), .second, .val (.long s2), .second, .val (.long s3), .second, .val (.long l1), .second, .val (.long l2), .second, .val (.long l3), .second, .val (.int (if fa = (0 : Int32) then (if (0 : Int32) < (lcmpW s1 (100 : Int64)) then (0 : Int32) else (1 : Int32)) else (1 : Int32))), .val (.int (if fb = (0 : Int32) then (if (0 : Int32) < (lcmpW (s2 - l1) (100 : Int64)) then (0 : Int32) else (1 : Int32)) else (1 : Int32))), .unset, .unset, .unset, .unset] [(.int (if fc = (0 : Int32) then (if (0 : Int32) < (lcmpW (s3 - l2) (100 : Int64)) then (0 : Int32) else (1 : Int32)) else (1 : Int32)))]))
  have LK := own_look (by omega) (by omega) M4
  refine own_fwd (fun tt kt => XS.istore X118.here hx rfl (hb hby at_269) rfl (l' := #[.val (.int p0), .val (.int p1), .val (.int p2), .val (.int p3), .val (.int va), .val (.int vb), .val (.int vc), .val (.int fa), .val (.int fb), .val (.int fc), .val (.ref b109), .val (.int z1), .val (.long s1), .second, .val (.int z2), .val (.long s2), .second, .val (.int z3), .val (.long s3), .second, .val (.int z4), .val (.long s4), .second, .val (.long s1), .second, .val (.long s2), .second, .val (.long s3), .second, .val (.long l1), .second, .val (.long l2), .second, .val (.long l3), .second, .val (.int (if fa = (0 : Int32) then (if (0 : Int32) < (lcmpW s1 (100 : Int64)) then (0 : Int32) else (1 : Int32)) else (1 : Int32))), .val (.int (if fb = (0 : Int32) then (if (0 : Int32) < (lcmpW (s2 - l1) (100 : Int64)) then (0 : Int32) else (1 : Int32)) else (1 : Int32))), .val (.int (if fc = (0 : Int32) then (if (0 : Int32) < (lcmpW (s3 - l2) (100 : Int64)) then (0 : Int32) else (1 : Int32)) else (1 : Int32))), .unset, .unset, .unset]) rfl kt) ?_
  show own_R p.tables e below P (T118.setTop (mkF m 271 #[.val (.int p0), .val (.int p1), .val (.int p2), .val (.int p3), .val (.int va), .val (.int vb), .val (.int vc), .val (.int fa), .val (.int fb), .val (.int fc), .val (.ref b109), .val (.int z1), .val (.long s1), .second, .val (.int z2), .val (.long s2), .second, .val (.int z3), .val (.long s3), .second, .val (.int z4), .val (.long s4), .second, .val (.long s1), .second, .val (.long s2), .second, .val (.long s3), .second, .val (.long l1), .second, .val (.long l2), .second, .val (.long l3), .second, .val (.int (if fa = (0 : Int32) then (if (0 : Int32) < (lcmpW s1 (100 : Int64)) then (0 : Int32) else (1 : Int32)) else (1 : Int32))), .val (.int (if fb = (0 : Int32) then (if (0 : Int32) < (lcmpW (s2 - l1) (100 : Int64)) then (0 : Int32) else (1 : Int32)) else (1 : Int32))), .val (.int (if fc = (0 : Int32) then (if (0 : Int32) < (lcmpW (s3 - l2) (100 : Int64)) then (0 : Int32) else (1 : Int32)) else (1 : Int32))), .unset, .unset, .unset] []))
  refine own_fwd (fun tt kt => XS.lload X118.here hx rfl (hb hby at_271) rfl kt) ?_
  show own_R p.tables e below P (T118.setTop (mkF m 273 #[.val (.int p0), .val (.int p1), .val (.int p2), .val (.int p3), .val (.int va), .val (.int vb), .val (.int vc), .val (.int fa), .val (.int fb), .val (.int fc), .val (.ref b109), .val (.int z1), .val (.long s1), .second, .val (.int z2), .val (.long s2), .second, .val (.int z3), .val (.long s3), .second, .val (.int z4), .val (.long s4), .second, .val (.long s1), .second, .val (.long s2), .second, .val (.long s3), .second, .val (.long l1), .second, .val (.long l2), .second, .val (.long l3), .second, .val (.int (if fa = (0 : Int32) then (if (0 : Int32) < (lcmpW s1 (100 : Int64)) then (0 : Int32) else (1 : Int32)) else (1 : Int32))), .val (.int (if fb = (0 : Int32) then (if (0 : Int32) < (lcmpW (s2 - l1) (100 : Int64)) then (0 : Int32) else (1 : Int32)) else (1 : Int32))), .val (.int (if fc = (0 : Int32) then (if (0 : Int32) < (lcmpW (s3 - l2) (100 : Int64)) then (0 : Int32) else (1 : Int32)) else (1 : Int32))), .unset, .unset, .unset] [(.long l3)]))
  refine own_fwd (fun tt kt => XS.lconst X118.here hx rfl (hb hby at_273) kt) ?_
  show own_R p.tables e below P (T118.setTop (mkF m 274 #[.val (.int p0), .val (.int p1), .val (.int p2), .val (.int p3), .val (.int va), .val (.int vb), .val (.int vc), .val (.int fa), .val (.int fb), .val (.int fc), .val (.ref b109), .val (.int z1), .val (.long s1), .second, .val (.int z2), .val (.long s2), .second, .val (.int z3), .val (.long s3), .second, .val (.int z4), .val (.long s4), .second, .val (.long s1), .second, .val (.long s2), .second, .val (.long s3), .second, .val (.long l1), .second, .val (.long l2), .second, .val (.long l3), .second, .val (.int (if fa = (0 : Int32) then (if (0 : Int32) < (lcmpW s1 (100 : Int64)) then (0 : Int32) else (1 : Int32)) else (1 : Int32))), .val (.int (if fb = (0 : Int32) then (if (0 : Int32) < (lcmpW (s2 - l1) (100 : Int64)) then (0 : Int32) else (1 : Int32)) else (1 : Int32))), .val (.int (if fc = (0 : Int32) then (if (0 : Int32) < (lcmpW (s3 - l2) (100 : Int64)) then (0 : Int32) else (1 : Int32)) else (1 : Int32))), .unset, .unset, .unset] [(.long (0 : Int64)), (.long l3)]))
  refine own_fwd (fun tt kt => XS.lcmp X118.here hx rfl (hb hby at_274) rfl kt) ?_
  show own_R p.tables e below P (T118.setTop (mkF m 275 #[.val (.int p0), .val (.int p1), .val (.int p2), .val (.int p3), .val (.int va), .val (.int vb), .val (.int vc), .val (.int fa), .val (.int fb), .val (.int fc), .val (.ref b109), .val (.int z1), .val (.long s1), .second, .val (.int z2), .val (.long s2), .second, .val (.int z3), .val (.long s3), .second, .val (.int z4), .val (.long s4), .second, .val (.long s1), .second, .val (.long s2), .second, .val (.long s3), .second, .val (.long l1), .second, .val (.long l2), .second, .val (.long l3), .second, .val (.int (if fa = (0 : Int32) then (if (0 : Int32) < (lcmpW s1 (100 : Int64)) then (0 : Int32) else (1 : Int32)) else (1 : Int32))), .val (.int (if fb = (0 : Int32) then (if (0 : Int32) < (lcmpW (s2 - l1) (100 : Int64)) then (0 : Int32) else (1 : Int32)) else (1 : Int32))), .val (.int (if fc = (0 : Int32) then (if (0 : Int32) < (lcmpW (s3 - l2) (100 : Int64)) then (0 : Int32) else (1 : Int32)) else (1 : Int32))), .unset, .unset, .unset] [(.int (lcmpW l3 (0 : Int64)))]))
  by_cases hc134 : (0 : Int32) < (lcmpW l3 (0 : Int64))
  · refine own_fwd (fun tt kt => XS.ifNo X118.here hx rfl (hb hby at_275) rfl ((if0 _ _).trans (tlt hc134).2.2.2) kt) ?_
    show own_R p.tables e below P (T118.setTop (mkF m 278 #[.val (.int p0), .val (.int p1), .val (.int p2), .val (.int p3), .val (.int va), .val (.int vb), .val (.int vc), .val (.int fa), .val (.int fb), .val (.int fc), .val (.ref b109), .val (.int z1), .val (.long s1), .second, .val (.int z2), .val (.long s2), .second, .val (.int z3), .val (.long s3), .second, .val (.int z4), .val (.long s4), .second, .val (.long s1), .second, .val (.long s2), .second, .val (.long s3), .second, .val (.long l1), .second, .val (.long l2), .second, .val (.long l3), .second, .val (.int (if fa = (0 : Int32) then (if (0 : Int32) < (lcmpW s1 (100 : Int64)) then (0 : Int32) else (1 : Int32)) else (1 : Int32))), .val (.int (if fb = (0 : Int32) then (if (0 : Int32) < (lcmpW (s2 - l1) (100 : Int64)) then (0 : Int32) else (1 : Int32)) else (1 : Int32))), .val (.int (if fc = (0 : Int32) then (if (0 : Int32) < (lcmpW (s3 - l2) (100 : Int64)) then (0 : Int32) else (1 : Int32)) else (1 : Int32))), .unset, .unset, .unset] []))
    refine own_fwd (fun tt kt => XS.iconst X118.here hx rfl (hb hby at_278) kt) ?_
    show own_R p.tables e below P (T118.setTop (mkF m 279 #[.val (.int p0), .val (.int p1), .val (.int p2), .val (.int p3), .val (.int va), .val (.int vb), .val (.int vc), .val (.int fa), .val (.int fb), .val (.int fc), .val (.ref b109), .val (.int z1), .val (.long s1), .second, .val (.int z2), .val (.long s2), .second, .val (.int z3), .val (.long s3), .second, .val (.int z4), .val (.long s4), .second, .val (.long s1), .second, .val (.long s2), .second, .val (.long s3), .second, .val (.long l1), .second, .val (.long l2), .second, .val (.long l3), .second, .val (.int (if fa = (0 : Int32) then (if (0 : Int32) < (lcmpW s1 (100 : Int64)) then (0 : Int32) else (1 : Int32)) else (1 : Int32))), .val (.int (if fb = (0 : Int32) then (if (0 : Int32) < (lcmpW (s2 - l1) (100 : Int64)) then (0 : Int32) else (1 : Int32)) else (1 : Int32))), .val (.int (if fc = (0 : Int32) then (if (0 : Int32) < (lcmpW (s3 - l2) (100 : Int64)) then (0 : Int32) else (1 : Int32)) else (1 : Int32))), .unset, .unset, .unset] [(.int (1 : Int32))]))
    refine own_fwd (fun tt kt => XS.goto X118.here hx rfl (pc0 := 279) (pc' := 283) rfl (hb hby at_279) (by decide) (by decide) kt) ?_
    show own_R p.tables e below P (T118.setTop (mkF m 283 #[.val (.int p0), .val (.int p1), .val (.int p2), .val (.int p3), .val (.int va), .val (.int vb), .val (.int vc), .val (.int fa), .val (.int fb), .val (.int fc), .val (.ref b109), .val (.int z1), .val (.long s1), .second, .val (.int z2), .val (.long s2), .second, .val (.int z3), .val (.long s3), .second, .val (.int z4), .val (.long s4), .second, .val (.long s1), .second, .val (.long s2), .second, .val (.long s3), .second, .val (.long l1), .second, .val (.long l2), .second, .val (.long l3), .second, .val (.int (if fa = (0 : Int32) then (if (0 : Int32) < (lcmpW s1 (100 : Int64)) then (0 : Int32) else (1 : Int32)) else (1 : Int32))), .val (.int (if fb = (0 : Int32) then (if (0 : Int32) < (lcmpW (s2 - l1) (100 : Int64)) then (0 : Int32) else (1 : Int32)) else (1 : Int32))), .val (.int (if fc = (0 : Int32) then (if (0 : Int32) < (lcmpW (s3 - l2) (100 : Int64)) then (0 : Int32) else (1 : Int32)) else (1 : Int32))), .unset, .unset, .unset] [(.int (1 : Int32))]))
    refine own_fwd (fun tt kt => XS.istore X118.here hx rfl (hb hby at_283) rfl (l' := #[.val (.int p0), .val (.int p1), .val (.int p2), .val (.int p3), .val (.int va), .val (.int vb), .val (.int vc), .val (.int fa), .val (.int fb), .val (.int fc), .val (.ref b109), .val (.int z1), .val (.long s1), .second, .val (.int z2), .val (.long s2), .second, .val (.int z3), .val (.long s3), .second, .val (.int z4), .val (.long s4), .second, .val (.long s1), .second, .val (.long s2), .second, .val (.long s3), .second, .val (.long l1), .second, .val (.long l2), .second, .val (.long l3), .second, .val (.int (if fa = (0 : Int32) then (if (0 : Int32) < (lcmpW s1 (100 : Int64)) then (0 : Int32) else (1 : Int32)) else (1 : Int32))), .val (.int (if fb = (0 : Int32) then (if (0 : Int32) < (lcmpW (s2 - l1) (100 : Int64)) then (0 : Int32) else (1 : Int32)) else (1 : Int32))), .val (.int (if fc = (0 : Int32) then (if (0 : Int32) < (lcmpW (s3 - l2) (100 : Int64)) then (0 : Int32) else (1 : Int32)) else (1 : Int32))), .val (.int (1 : Int32)), .unset, .unset]) rfl kt) ?_
    show own_R p.tables e below P (T118.setTop (mkF m 285 #[.val (.int p0), .val (.int p1), .val (.int p2), .val (.int p3), .val (.int va), .val (.int vb), .val (.int vc), .val (.int fa), .val (.int fb), .val (.int fc), .val (.ref b109), .val (.int z1), .val (.long s1), .second, .val (.int z2), .val (.long s2), .second, .val (.int z3), .val (.long s3), .second, .val (.int z4), .val (.long s4), .second, .val (.long s1), .second, .val (.long s2), .second, .val (.long s3), .second, .val (.long l1), .second, .val (.long l2), .second, .val (.long l3), .second, .val (.int (if fa = (0 : Int32) then (if (0 : Int32) < (lcmpW s1 (100 : Int64)) then (0 : Int32) else (1 : Int32)) else (1 : Int32))), .val (.int (if fb = (0 : Int32) then (if (0 : Int32) < (lcmpW (s2 - l1) (100 : Int64)) then (0 : Int32) else (1 : Int32)) else (1 : Int32))), .val (.int (if fc = (0 : Int32) then (if (0 : Int32) < (lcmpW (s3 - l2) (100 : Int64)) then (0 : Int32) else (1 : Int32)) else (1 : Int32))), .val (.int (1 : Int32)), .unset, .unset] []))
    refine own_fwd (fun tt kt => XS.iload X118.here hx rfl (hb hby at_285) rfl kt) ?_
    show own_R p.tables e below P (T118.setTop (mkF m 287 #[.val (.int p0), .val (.int p1), .val (.int p2), .val (.int p3), .val (.int va), .val (.int vb), .val (.int vc), .val (.int fa), .val (.int fb), .val (.int fc), .val (.ref b109), .val (.int z1), .val (.long s1), .second, .val (.int z2), .val (.long s2), .second, .val (.int z3), .val (.long s3), .second, .val (.int z4), .val (.long s4), .second, .val (.long s1), .second, .val (.long s2), .second, .val (.long s3), .second, .val (.long l1), .second, .val (.long l2), .second, .val (.long l3), .second, .val (.int (if fa = (0 : Int32) then (if (0 : Int32) < (lcmpW s1 (100 : Int64)) then (0 : Int32) else (1 : Int32)) else (1 : Int32))), .val (.int (if fb = (0 : Int32) then (if (0 : Int32) < (lcmpW (s2 - l1) (100 : Int64)) then (0 : Int32) else (1 : Int32)) else (1 : Int32))), .val (.int (if fc = (0 : Int32) then (if (0 : Int32) < (lcmpW (s3 - l2) (100 : Int64)) then (0 : Int32) else (1 : Int32)) else (1 : Int32))), .val (.int (1 : Int32)), .unset, .unset] [(.int (1 : Int32))]))
    have hc135 : ¬ ((1 : Int32) = (0 : Int32)) := (by decide)
    refine own_fwd (fun tt kt => XS.ifNo X118.here hx rfl (hb hby at_287) rfl ((if0 _ _).trans (feq hc135).1) kt) ?_
    show own_R p.tables e below P (T118.setTop (mkF m 290 #[.val (.int p0), .val (.int p1), .val (.int p2), .val (.int p3), .val (.int va), .val (.int vb), .val (.int vc), .val (.int fa), .val (.int fb), .val (.int fc), .val (.ref b109), .val (.int z1), .val (.long s1), .second, .val (.int z2), .val (.long s2), .second, .val (.int z3), .val (.long s3), .second, .val (.int z4), .val (.long s4), .second, .val (.long s1), .second, .val (.long s2), .second, .val (.long s3), .second, .val (.long l1), .second, .val (.long l2), .second, .val (.long l3), .second, .val (.int (if fa = (0 : Int32) then (if (0 : Int32) < (lcmpW s1 (100 : Int64)) then (0 : Int32) else (1 : Int32)) else (1 : Int32))), .val (.int (if fb = (0 : Int32) then (if (0 : Int32) < (lcmpW (s2 - l1) (100 : Int64)) then (0 : Int32) else (1 : Int32)) else (1 : Int32))), .val (.int (if fc = (0 : Int32) then (if (0 : Int32) < (lcmpW (s3 - l2) (100 : Int64)) then (0 : Int32) else (1 : Int32)) else (1 : Int32))), .val (.int (1 : Int32)), .unset, .unset] []))
    refine own_fwd (fun tt kt => XS.lload X118.here hx rfl (hb hby at_290) rfl kt) ?_
    show own_R p.tables e below P (T118.setTop (mkF m 292 #[.val (.int p0), .val (.int p1), .val (.int p2), .val (.int p3), .val (.int va), .val (.int vb), .val (.int vc), .val (.int fa), .val (.int fb), .val (.int fc), .val (.ref b109), .val (.int z1), .val (.long s1), .second, .val (.int z2), .val (.long s2), .second, .val (.int z3), .val (.long s3), .second, .val (.int z4), .val (.long s4), .second, .val (.long s1), .second, .val (.long s2), .second, .val (.long s3), .second, .val (.long l1), .second, .val (.long l2), .second, .val (.long l3), .second, .val (.int (if fa = (0 : Int32) then (if (0 : Int32) < (lcmpW s1 (100 : Int64)) then (0 : Int32) else (1 : Int32)) else (1 : Int32))), .val (.int (if fb = (0 : Int32) then (if (0 : Int32) < (lcmpW (s2 - l1) (100 : Int64)) then (0 : Int32) else (1 : Int32)) else (1 : Int32))), .val (.int (if fc = (0 : Int32) then (if (0 : Int32) < (lcmpW (s3 - l2) (100 : Int64)) then (0 : Int32) else (1 : Int32)) else (1 : Int32))), .val (.int (1 : Int32)), .unset, .unset] [(.long l3)]))
    refine own_fwd (fun tt kt => XS.lconst X118.here hx rfl (hb hby at_292) kt) ?_
    show own_R p.tables e below P (T118.setTop (mkF m 293 #[.val (.int p0), .val (.int p1), .val (.int p2), .val (.int p3), .val (.int va), .val (.int vb), .val (.int vc), .val (.int fa), .val (.int fb), .val (.int fc), .val (.ref b109), .val (.int z1), .val (.long s1), .second, .val (.int z2), .val (.long s2), .second, .val (.int z3), .val (.long s3), .second, .val (.int z4), .val (.long s4), .second, .val (.long s1), .second, .val (.long s2), .second, .val (.long s3), .second, .val (.long l1), .second, .val (.long l2), .second, .val (.long l3), .second, .val (.int (if fa = (0 : Int32) then (if (0 : Int32) < (lcmpW s1 (100 : Int64)) then (0 : Int32) else (1 : Int32)) else (1 : Int32))), .val (.int (if fb = (0 : Int32) then (if (0 : Int32) < (lcmpW (s2 - l1) (100 : Int64)) then (0 : Int32) else (1 : Int32)) else (1 : Int32))), .val (.int (if fc = (0 : Int32) then (if (0 : Int32) < (lcmpW (s3 - l2) (100 : Int64)) then (0 : Int32) else (1 : Int32)) else (1 : Int32))), .val (.int (1 : Int32)), .unset, .unset] [(.long (1 : Int64)), (.long l3)]))
    refine own_fwd (fun tt kt => XS.lsub X118.here hx rfl (hb hby at_293) rfl kt) ?_
    show own_R p.tables e below P (T118.setTop (mkF m 294 #[.val (.int p0), .val (.int p1), .val (.int p2), .val (.int p3), .val (.int va), .val (.int vb), .val (.int vc), .val (.int fa), .val (.int fb), .val (.int fc), .val (.ref b109), .val (.int z1), .val (.long s1), .second, .val (.int z2), .val (.long s2), .second, .val (.int z3), .val (.long s3), .second, .val (.int z4), .val (.long s4), .second, .val (.long s1), .second, .val (.long s2), .second, .val (.long s3), .second, .val (.long l1), .second, .val (.long l2), .second, .val (.long l3), .second, .val (.int (if fa = (0 : Int32) then (if (0 : Int32) < (lcmpW s1 (100 : Int64)) then (0 : Int32) else (1 : Int32)) else (1 : Int32))), .val (.int (if fb = (0 : Int32) then (if (0 : Int32) < (lcmpW (s2 - l1) (100 : Int64)) then (0 : Int32) else (1 : Int32)) else (1 : Int32))), .val (.int (if fc = (0 : Int32) then (if (0 : Int32) < (lcmpW (s3 - l2) (100 : Int64)) then (0 : Int32) else (1 : Int32)) else (1 : Int32))), .val (.int (1 : Int32)), .unset, .unset] [(.long (l3 - (1 : Int64)))]))
    refine own_fwd (fun tt kt => XS.goto X118.here hx rfl (pc0 := 294) (pc' := 299) rfl (hb hby at_294) (by decide) (by decide) kt) ?_
    show own_R p.tables e below P (T118.setTop (mkF m 299 #[.val (.int p0), .val (.int p1), .val (.int p2), .val (.int p3), .val (.int va), .val (.int vb), .val (.int vc), .val (.int fa), .val (.int fb), .val (.int fc), .val (.ref b109), .val (.int z1), .val (.long s1), .second, .val (.int z2), .val (.long s2), .second, .val (.int z3), .val (.long s3), .second, .val (.int z4), .val (.long s4), .second, .val (.long s1), .second, .val (.long s2), .second, .val (.long s3), .second, .val (.long l1), .second, .val (.long l2), .second, .val (.long l3), .second, .val (.int (if fa = (0 : Int32) then (if (0 : Int32) < (lcmpW s1 (100 : Int64)) then (0 : Int32) else (1 : Int32)) else (1 : Int32))), .val (.int (if fb = (0 : Int32) then (if (0 : Int32) < (lcmpW (s2 - l1) (100 : Int64)) then (0 : Int32) else (1 : Int32)) else (1 : Int32))), .val (.int (if fc = (0 : Int32) then (if (0 : Int32) < (lcmpW (s3 - l2) (100 : Int64)) then (0 : Int32) else (1 : Int32)) else (1 : Int32))), .val (.int (1 : Int32)), .unset, .unset] [(.long (l3 - (1 : Int64)))]))
    refine own_fwd (fun tt kt => XS.lstore X118.here hx rfl (hb hby at_299) rfl (l' := #[.val (.int p0), .val (.int p1), .val (.int p2), .val (.int p3), .val (.int va), .val (.int vb), .val (.int vc), .val (.int fa), .val (.int fb), .val (.int fc), .val (.ref b109), .val (.int z1), .val (.long s1), .second, .val (.int z2), .val (.long s2), .second, .val (.int z3), .val (.long s3), .second, .val (.int z4), .val (.long s4), .second, .val (.long s1), .second, .val (.long s2), .second, .val (.long s3), .second, .val (.long l1), .second, .val (.long l2), .second, .val (.long l3), .second, .val (.int (if fa = (0 : Int32) then (if (0 : Int32) < (lcmpW s1 (100 : Int64)) then (0 : Int32) else (1 : Int32)) else (1 : Int32))), .val (.int (if fb = (0 : Int32) then (if (0 : Int32) < (lcmpW (s2 - l1) (100 : Int64)) then (0 : Int32) else (1 : Int32)) else (1 : Int32))), .val (.int (if fc = (0 : Int32) then (if (0 : Int32) < (lcmpW (s3 - l2) (100 : Int64)) then (0 : Int32) else (1 : Int32)) else (1 : Int32))), .val (.int (1 : Int32)), .val (.long (l3 - (1 : Int64))), .second]) rfl kt) ?_
    show own_R p.tables e below P (T118.setTop (mkF m 301 #[.val (.int p0), .val (.int p1), .val (.int p2), .val (.int p3), .val (.int va), .val (.int vb), .val (.int vc), .val (.int fa), .val (.int fb), .val (.int fc), .val (.ref b109), .val (.int z1), .val (.long s1), .second, .val (.int z2), .val (.long s2), .second, .val (.int z3), .val (.long s3), .second, .val (.int z4), .val (.long s4), .second, .val (.long s1), .second, .val (.long s2), .second, .val (.long s3), .second, .val (.long l1), .second, .val (.long l2), .second, .val (.long l3), .second, .val (.int (if fa = (0 : Int32) then (if (0 : Int32) < (lcmpW s1 (100 : Int64)) then (0 : Int32) else (1 : Int32)) else (1 : Int32))), .val (.int (if fb = (0 : Int32) then (if (0 : Int32) < (lcmpW (s2 - l1) (100 : Int64)) then (0 : Int32) else (1 : Int32)) else (1 : Int32))), .val (.int (if fc = (0 : Int32) then (if (0 : Int32) < (lcmpW (s3 - l2) (100 : Int64)) then (0 : Int32) else (1 : Int32)) else (1 : Int32))), .val (.int (1 : Int32)), .val (.long (l3 - (1 : Int64))), .second] []))
    refine own_fwd (fun tt kt => XS.lload X118.here hx rfl (hb hby at_301) rfl kt) ?_
    show own_R p.tables e below P (T118.setTop (mkF m 303 #[.val (.int p0), .val (.int p1), .val (.int p2), .val (.int p3), .val (.int va), .val (.int vb), .val (.int vc), .val (.int fa), .val (.int fb), .val (.int fc), .val (.ref b109), .val (.int z1), .val (.long s1), .second, .val (.int z2), .val (.long s2), .second, .val (.int z3), .val (.long s3), .second, .val (.int z4), .val (.long s4), .second, .val (.long s1), .second, .val (.long s2), .second, .val (.long s3), .second, .val (.long l1), .second, .val (.long l2), .second, .val (.long l3), .second, .val (.int (if fa = (0 : Int32) then (if (0 : Int32) < (lcmpW s1 (100 : Int64)) then (0 : Int32) else (1 : Int32)) else (1 : Int32))), .val (.int (if fb = (0 : Int32) then (if (0 : Int32) < (lcmpW (s2 - l1) (100 : Int64)) then (0 : Int32) else (1 : Int32)) else (1 : Int32))), .val (.int (if fc = (0 : Int32) then (if (0 : Int32) < (lcmpW (s3 - l2) (100 : Int64)) then (0 : Int32) else (1 : Int32)) else (1 : Int32))), .val (.int (1 : Int32)), .val (.long (l3 - (1 : Int64))), .second] [(.long s1)]))
    refine own_fwd (fun tt kt => XS.lload X118.here hx rfl (hb hby at_303) rfl kt) ?_
    show own_R p.tables e below P (T118.setTop (mkF m 305 #[.val (.int p0), .val (.int p1), .val (.int p2), .val (.int p3), .val (.int va), .val (.int vb), .val (.int vc), .val (.int fa), .val (.int fb), .val (.int fc), .val (.ref b109), .val (.int z1), .val (.long s1), .second, .val (.int z2), .val (.long s2), .second, .val (.int z3), .val (.long s3), .second, .val (.int z4), .val (.long s4), .second, .val (.long s1), .second, .val (.long s2), .second, .val (.long s3), .second, .val (.long l1), .second, .val (.long l2), .second, .val (.long l3), .second, .val (.int (if fa = (0 : Int32) then (if (0 : Int32) < (lcmpW s1 (100 : Int64)) then (0 : Int32) else (1 : Int32)) else (1 : Int32))), .val (.int (if fb = (0 : Int32) then (if (0 : Int32) < (lcmpW (s2 - l1) (100 : Int64)) then (0 : Int32) else (1 : Int32)) else (1 : Int32))), .val (.int (if fc = (0 : Int32) then (if (0 : Int32) < (lcmpW (s3 - l2) (100 : Int64)) then (0 : Int32) else (1 : Int32)) else (1 : Int32))), .val (.int (1 : Int32)), .val (.long (l3 - (1 : Int64))), .second] [(.long s1), (.long s1)]))
    refine own_fwd (fun tt kt => XS.lcmp X118.here hx rfl (hb hby at_305) rfl kt) ?_
    show own_R p.tables e below P (T118.setTop (mkF m 306 #[.val (.int p0), .val (.int p1), .val (.int p2), .val (.int p3), .val (.int va), .val (.int vb), .val (.int vc), .val (.int fa), .val (.int fb), .val (.int fc), .val (.ref b109), .val (.int z1), .val (.long s1), .second, .val (.int z2), .val (.long s2), .second, .val (.int z3), .val (.long s3), .second, .val (.int z4), .val (.long s4), .second, .val (.long s1), .second, .val (.long s2), .second, .val (.long s3), .second, .val (.long l1), .second, .val (.long l2), .second, .val (.long l3), .second, .val (.int (if fa = (0 : Int32) then (if (0 : Int32) < (lcmpW s1 (100 : Int64)) then (0 : Int32) else (1 : Int32)) else (1 : Int32))), .val (.int (if fb = (0 : Int32) then (if (0 : Int32) < (lcmpW (s2 - l1) (100 : Int64)) then (0 : Int32) else (1 : Int32)) else (1 : Int32))), .val (.int (if fc = (0 : Int32) then (if (0 : Int32) < (lcmpW (s3 - l2) (100 : Int64)) then (0 : Int32) else (1 : Int32)) else (1 : Int32))), .val (.int (1 : Int32)), .val (.long (l3 - (1 : Int64))), .second] [(.int (lcmpW s1 s1))]))
    have hc136 : (lcmpW s1 s1) = (0 : Int32) := (lw_eq _ _).mpr rfl
    refine own_fwd (fun tt kt => XS.ifNo X118.here hx rfl (hb hby at_306) rfl ((if0 _ _).trans (teq hc136).2) kt) ?_
    show own_R p.tables e below P (T118.setTop (mkF m 309 #[.val (.int p0), .val (.int p1), .val (.int p2), .val (.int p3), .val (.int va), .val (.int vb), .val (.int vc), .val (.int fa), .val (.int fb), .val (.int fc), .val (.ref b109), .val (.int z1), .val (.long s1), .second, .val (.int z2), .val (.long s2), .second, .val (.int z3), .val (.long s3), .second, .val (.int z4), .val (.long s4), .second, .val (.long s1), .second, .val (.long s2), .second, .val (.long s3), .second, .val (.long l1), .second, .val (.long l2), .second, .val (.long l3), .second, .val (.int (if fa = (0 : Int32) then (if (0 : Int32) < (lcmpW s1 (100 : Int64)) then (0 : Int32) else (1 : Int32)) else (1 : Int32))), .val (.int (if fb = (0 : Int32) then (if (0 : Int32) < (lcmpW (s2 - l1) (100 : Int64)) then (0 : Int32) else (1 : Int32)) else (1 : Int32))), .val (.int (if fc = (0 : Int32) then (if (0 : Int32) < (lcmpW (s3 - l2) (100 : Int64)) then (0 : Int32) else (1 : Int32)) else (1 : Int32))), .val (.int (1 : Int32)), .val (.long (l3 - (1 : Int64))), .second] []))
    refine own_fwd (fun tt kt => XS.iload X118.here hx rfl (hb hby at_309) rfl kt) ?_
    show own_R p.tables e below P (T118.setTop (mkF m 311 #[.val (.int p0), .val (.int p1), .val (.int p2), .val (.int p3), .val (.int va), .val (.int vb), .val (.int vc), .val (.int fa), .val (.int fb), .val (.int fc), .val (.ref b109), .val (.int z1), .val (.long s1), .second, .val (.int z2), .val (.long s2), .second, .val (.int z3), .val (.long s3), .second, .val (.int z4), .val (.long s4), .second, .val (.long s1), .second, .val (.long s2), .second, .val (.long s3), .second, .val (.long l1), .second, .val (.long l2), .second, .val (.long l3), .second, .val (.int (if fa = (0 : Int32) then (if (0 : Int32) < (lcmpW s1 (100 : Int64)) then (0 : Int32) else (1 : Int32)) else (1 : Int32))), .val (.int (if fb = (0 : Int32) then (if (0 : Int32) < (lcmpW (s2 - l1) (100 : Int64)) then (0 : Int32) else (1 : Int32)) else (1 : Int32))), .val (.int (if fc = (0 : Int32) then (if (0 : Int32) < (lcmpW (s3 - l2) (100 : Int64)) then (0 : Int32) else (1 : Int32)) else (1 : Int32))), .val (.int (1 : Int32)), .val (.long (l3 - (1 : Int64))), .second] [(.int z1)]))
    refine own_fwd (fun tt kt => XS.iload X118.here hx rfl (hb hby at_311) rfl kt) ?_
    show own_R p.tables e below P (T118.setTop (mkF m 313 #[.val (.int p0), .val (.int p1), .val (.int p2), .val (.int p3), .val (.int va), .val (.int vb), .val (.int vc), .val (.int fa), .val (.int fb), .val (.int fc), .val (.ref b109), .val (.int z1), .val (.long s1), .second, .val (.int z2), .val (.long s2), .second, .val (.int z3), .val (.long s3), .second, .val (.int z4), .val (.long s4), .second, .val (.long s1), .second, .val (.long s2), .second, .val (.long s3), .second, .val (.long l1), .second, .val (.long l2), .second, .val (.long l3), .second, .val (.int (if fa = (0 : Int32) then (if (0 : Int32) < (lcmpW s1 (100 : Int64)) then (0 : Int32) else (1 : Int32)) else (1 : Int32))), .val (.int (if fb = (0 : Int32) then (if (0 : Int32) < (lcmpW (s2 - l1) (100 : Int64)) then (0 : Int32) else (1 : Int32)) else (1 : Int32))), .val (.int (if fc = (0 : Int32) then (if (0 : Int32) < (lcmpW (s3 - l2) (100 : Int64)) then (0 : Int32) else (1 : Int32)) else (1 : Int32))), .val (.int (1 : Int32)), .val (.long (l3 - (1 : Int64))), .second] [(.int (if fa = (0 : Int32) then (if (0 : Int32) < (lcmpW s1 (100 : Int64)) then (0 : Int32) else (1 : Int32)) else (1 : Int32))), (.int z1)]))
    have hc137 : z1 = (if fa = (0 : Int32) then (if (0 : Int32) < (lcmpW s1 (100 : Int64)) then (0 : Int32) else (1 : Int32)) else (1 : Int32)) := own_stepZ M1 (by rw [own_j0]; omega)
    refine own_fwd (fun tt kt => XS.icmpNo X118.here hx rfl (hb hby at_313) rfl (teq hc137).2 kt) ?_
    show own_R p.tables e below P (T118.setTop (mkF m 316 #[.val (.int p0), .val (.int p1), .val (.int p2), .val (.int p3), .val (.int va), .val (.int vb), .val (.int vc), .val (.int fa), .val (.int fb), .val (.int fc), .val (.ref b109), .val (.int z1), .val (.long s1), .second, .val (.int z2), .val (.long s2), .second, .val (.int z3), .val (.long s3), .second, .val (.int z4), .val (.long s4), .second, .val (.long s1), .second, .val (.long s2), .second, .val (.long s3), .second, .val (.long l1), .second, .val (.long l2), .second, .val (.long l3), .second, .val (.int (if fa = (0 : Int32) then (if (0 : Int32) < (lcmpW s1 (100 : Int64)) then (0 : Int32) else (1 : Int32)) else (1 : Int32))), .val (.int (if fb = (0 : Int32) then (if (0 : Int32) < (lcmpW (s2 - l1) (100 : Int64)) then (0 : Int32) else (1 : Int32)) else (1 : Int32))), .val (.int (if fc = (0 : Int32) then (if (0 : Int32) < (lcmpW (s3 - l2) (100 : Int64)) then (0 : Int32) else (1 : Int32)) else (1 : Int32))), .val (.int (1 : Int32)), .val (.long (l3 - (1 : Int64))), .second] []))
    refine own_fwd (fun tt kt => XS.lload X118.here hx rfl (hb hby at_316) rfl kt) ?_
    show own_R p.tables e below P (T118.setTop (mkF m 318 #[.val (.int p0), .val (.int p1), .val (.int p2), .val (.int p3), .val (.int va), .val (.int vb), .val (.int vc), .val (.int fa), .val (.int fb), .val (.int fc), .val (.ref b109), .val (.int z1), .val (.long s1), .second, .val (.int z2), .val (.long s2), .second, .val (.int z3), .val (.long s3), .second, .val (.int z4), .val (.long s4), .second, .val (.long s1), .second, .val (.long s2), .second, .val (.long s3), .second, .val (.long l1), .second, .val (.long l2), .second, .val (.long l3), .second, .val (.int (if fa = (0 : Int32) then (if (0 : Int32) < (lcmpW s1 (100 : Int64)) then (0 : Int32) else (1 : Int32)) else (1 : Int32))), .val (.int (if fb = (0 : Int32) then (if (0 : Int32) < (lcmpW (s2 - l1) (100 : Int64)) then (0 : Int32) else (1 : Int32)) else (1 : Int32))), .val (.int (if fc = (0 : Int32) then (if (0 : Int32) < (lcmpW (s3 - l2) (100 : Int64)) then (0 : Int32) else (1 : Int32)) else (1 : Int32))), .val (.int (1 : Int32)), .val (.long (l3 - (1 : Int64))), .second] [(.long s2)]))
    refine own_fwd (fun tt kt => XS.lload X118.here hx rfl (hb hby at_318) rfl kt) ?_
    show own_R p.tables e below P (T118.setTop (mkF m 320 #[.val (.int p0), .val (.int p1), .val (.int p2), .val (.int p3), .val (.int va), .val (.int vb), .val (.int vc), .val (.int fa), .val (.int fb), .val (.int fc), .val (.ref b109), .val (.int z1), .val (.long s1), .second, .val (.int z2), .val (.long s2), .second, .val (.int z3), .val (.long s3), .second, .val (.int z4), .val (.long s4), .second, .val (.long s1), .second, .val (.long s2), .second, .val (.long s3), .second, .val (.long l1), .second, .val (.long l2), .second, .val (.long l3), .second, .val (.int (if fa = (0 : Int32) then (if (0 : Int32) < (lcmpW s1 (100 : Int64)) then (0 : Int32) else (1 : Int32)) else (1 : Int32))), .val (.int (if fb = (0 : Int32) then (if (0 : Int32) < (lcmpW (s2 - l1) (100 : Int64)) then (0 : Int32) else (1 : Int32)) else (1 : Int32))), .val (.int (if fc = (0 : Int32) then (if (0 : Int32) < (lcmpW (s3 - l2) (100 : Int64)) then (0 : Int32) else (1 : Int32)) else (1 : Int32))), .val (.int (1 : Int32)), .val (.long (l3 - (1 : Int64))), .second] [(.long s2), (.long s2)]))
    refine own_fwd (fun tt kt => XS.lcmp X118.here hx rfl (hb hby at_320) rfl kt) ?_
    show own_R p.tables e below P (T118.setTop (mkF m 321 #[.val (.int p0), .val (.int p1), .val (.int p2), .val (.int p3), .val (.int va), .val (.int vb), .val (.int vc), .val (.int fa), .val (.int fb), .val (.int fc), .val (.ref b109), .val (.int z1), .val (.long s1), .second, .val (.int z2), .val (.long s2), .second, .val (.int z3), .val (.long s3), .second, .val (.int z4), .val (.long s4), .second, .val (.long s1), .second, .val (.long s2), .second, .val (.long s3), .second, .val (.long l1), .second, .val (.long l2), .second, .val (.long l3), .second, .val (.int (if fa = (0 : Int32) then (if (0 : Int32) < (lcmpW s1 (100 : Int64)) then (0 : Int32) else (1 : Int32)) else (1 : Int32))), .val (.int (if fb = (0 : Int32) then (if (0 : Int32) < (lcmpW (s2 - l1) (100 : Int64)) then (0 : Int32) else (1 : Int32)) else (1 : Int32))), .val (.int (if fc = (0 : Int32) then (if (0 : Int32) < (lcmpW (s3 - l2) (100 : Int64)) then (0 : Int32) else (1 : Int32)) else (1 : Int32))), .val (.int (1 : Int32)), .val (.long (l3 - (1 : Int64))), .second] [(.int (lcmpW s2 s2))]))
    have hc138 : (lcmpW s2 s2) = (0 : Int32) := (lw_eq _ _).mpr rfl
    refine own_fwd (fun tt kt => XS.ifNo X118.here hx rfl (hb hby at_321) rfl ((if0 _ _).trans (teq hc138).2) kt) ?_
    show own_R p.tables e below P (T118.setTop (mkF m 324 #[.val (.int p0), .val (.int p1), .val (.int p2), .val (.int p3), .val (.int va), .val (.int vb), .val (.int vc), .val (.int fa), .val (.int fb), .val (.int fc), .val (.ref b109), .val (.int z1), .val (.long s1), .second, .val (.int z2), .val (.long s2), .second, .val (.int z3), .val (.long s3), .second, .val (.int z4), .val (.long s4), .second, .val (.long s1), .second, .val (.long s2), .second, .val (.long s3), .second, .val (.long l1), .second, .val (.long l2), .second, .val (.long l3), .second, .val (.int (if fa = (0 : Int32) then (if (0 : Int32) < (lcmpW s1 (100 : Int64)) then (0 : Int32) else (1 : Int32)) else (1 : Int32))), .val (.int (if fb = (0 : Int32) then (if (0 : Int32) < (lcmpW (s2 - l1) (100 : Int64)) then (0 : Int32) else (1 : Int32)) else (1 : Int32))), .val (.int (if fc = (0 : Int32) then (if (0 : Int32) < (lcmpW (s3 - l2) (100 : Int64)) then (0 : Int32) else (1 : Int32)) else (1 : Int32))), .val (.int (1 : Int32)), .val (.long (l3 - (1 : Int64))), .second] []))
    refine own_fwd (fun tt kt => XS.iload X118.here hx rfl (hb hby at_324) rfl kt) ?_
    show own_R p.tables e below P (T118.setTop (mkF m 326 #[.val (.int p0), .val (.int p1), .val (.int p2), .val (.int p3), .val (.int va), .val (.int vb), .val (.int vc), .val (.int fa), .val (.int fb), .val (.int fc), .val (.ref b109), .val (.int z1), .val (.long s1), .second, .val (.int z2), .val (.long s2), .second, .val (.int z3), .val (.long s3), .second, .val (.int z4), .val (.long s4), .second, .val (.long s1), .second, .val (.long s2), .second, .val (.long s3), .second, .val (.long l1), .second, .val (.long l2), .second, .val (.long l3), .second, .val (.int (if fa = (0 : Int32) then (if (0 : Int32) < (lcmpW s1 (100 : Int64)) then (0 : Int32) else (1 : Int32)) else (1 : Int32))), .val (.int (if fb = (0 : Int32) then (if (0 : Int32) < (lcmpW (s2 - l1) (100 : Int64)) then (0 : Int32) else (1 : Int32)) else (1 : Int32))), .val (.int (if fc = (0 : Int32) then (if (0 : Int32) < (lcmpW (s3 - l2) (100 : Int64)) then (0 : Int32) else (1 : Int32)) else (1 : Int32))), .val (.int (1 : Int32)), .val (.long (l3 - (1 : Int64))), .second] [(.int z2)]))
    refine own_fwd (fun tt kt => XS.iload X118.here hx rfl (hb hby at_326) rfl kt) ?_
    show own_R p.tables e below P (T118.setTop (mkF m 328 #[.val (.int p0), .val (.int p1), .val (.int p2), .val (.int p3), .val (.int va), .val (.int vb), .val (.int vc), .val (.int fa), .val (.int fb), .val (.int fc), .val (.ref b109), .val (.int z1), .val (.long s1), .second, .val (.int z2), .val (.long s2), .second, .val (.int z3), .val (.long s3), .second, .val (.int z4), .val (.long s4), .second, .val (.long s1), .second, .val (.long s2), .second, .val (.long s3), .second, .val (.long l1), .second, .val (.long l2), .second, .val (.long l3), .second, .val (.int (if fa = (0 : Int32) then (if (0 : Int32) < (lcmpW s1 (100 : Int64)) then (0 : Int32) else (1 : Int32)) else (1 : Int32))), .val (.int (if fb = (0 : Int32) then (if (0 : Int32) < (lcmpW (s2 - l1) (100 : Int64)) then (0 : Int32) else (1 : Int32)) else (1 : Int32))), .val (.int (if fc = (0 : Int32) then (if (0 : Int32) < (lcmpW (s3 - l2) (100 : Int64)) then (0 : Int32) else (1 : Int32)) else (1 : Int32))), .val (.int (1 : Int32)), .val (.long (l3 - (1 : Int64))), .second] [(.int (if fb = (0 : Int32) then (if (0 : Int32) < (lcmpW (s2 - l1) (100 : Int64)) then (0 : Int32) else (1 : Int32)) else (1 : Int32))), (.int z2)]))
    have hc139 : z2 = (if fb = (0 : Int32) then (if (0 : Int32) < (lcmpW (s2 - l1) (100 : Int64)) then (0 : Int32) else (1 : Int32)) else (1 : Int32)) := own_stepZ M2 (own_sub _ _ (by omega) (by omega) (by omega) (by omega))
    refine own_fwd (fun tt kt => XS.icmpNo X118.here hx rfl (hb hby at_328) rfl (teq hc139).2 kt) ?_
    show own_R p.tables e below P (T118.setTop (mkF m 331 #[.val (.int p0), .val (.int p1), .val (.int p2), .val (.int p3), .val (.int va), .val (.int vb), .val (.int vc), .val (.int fa), .val (.int fb), .val (.int fc), .val (.ref b109), .val (.int z1), .val (.long s1), .second, .val (.int z2), .val (.long s2), .second, .val (.int z3), .val (.long s3), .second, .val (.int z4), .val (.long s4), .second, .val (.long s1), .second, .val (.long s2), .second, .val (.long s3), .second, .val (.long l1), .second, .val (.long l2), .second, .val (.long l3), .second, .val (.int (if fa = (0 : Int32) then (if (0 : Int32) < (lcmpW s1 (100 : Int64)) then (0 : Int32) else (1 : Int32)) else (1 : Int32))), .val (.int (if fb = (0 : Int32) then (if (0 : Int32) < (lcmpW (s2 - l1) (100 : Int64)) then (0 : Int32) else (1 : Int32)) else (1 : Int32))), .val (.int (if fc = (0 : Int32) then (if (0 : Int32) < (lcmpW (s3 - l2) (100 : Int64)) then (0 : Int32) else (1 : Int32)) else (1 : Int32))), .val (.int (1 : Int32)), .val (.long (l3 - (1 : Int64))), .second] []))
    refine own_fwd (fun tt kt => XS.lload X118.here hx rfl (hb hby at_331) rfl kt) ?_
    show own_R p.tables e below P (T118.setTop (mkF m 333 #[.val (.int p0), .val (.int p1), .val (.int p2), .val (.int p3), .val (.int va), .val (.int vb), .val (.int vc), .val (.int fa), .val (.int fb), .val (.int fc), .val (.ref b109), .val (.int z1), .val (.long s1), .second, .val (.int z2), .val (.long s2), .second, .val (.int z3), .val (.long s3), .second, .val (.int z4), .val (.long s4), .second, .val (.long s1), .second, .val (.long s2), .second, .val (.long s3), .second, .val (.long l1), .second, .val (.long l2), .second, .val (.long l3), .second, .val (.int (if fa = (0 : Int32) then (if (0 : Int32) < (lcmpW s1 (100 : Int64)) then (0 : Int32) else (1 : Int32)) else (1 : Int32))), .val (.int (if fb = (0 : Int32) then (if (0 : Int32) < (lcmpW (s2 - l1) (100 : Int64)) then (0 : Int32) else (1 : Int32)) else (1 : Int32))), .val (.int (if fc = (0 : Int32) then (if (0 : Int32) < (lcmpW (s3 - l2) (100 : Int64)) then (0 : Int32) else (1 : Int32)) else (1 : Int32))), .val (.int (1 : Int32)), .val (.long (l3 - (1 : Int64))), .second] [(.long s3)]))
    refine own_fwd (fun tt kt => XS.lload X118.here hx rfl (hb hby at_333) rfl kt) ?_
    show own_R p.tables e below P (T118.setTop (mkF m 335 #[.val (.int p0), .val (.int p1), .val (.int p2), .val (.int p3), .val (.int va), .val (.int vb), .val (.int vc), .val (.int fa), .val (.int fb), .val (.int fc), .val (.ref b109), .val (.int z1), .val (.long s1), .second, .val (.int z2), .val (.long s2), .second, .val (.int z3), .val (.long s3), .second, .val (.int z4), .val (.long s4), .second, .val (.long s1), .second, .val (.long s2), .second, .val (.long s3), .second, .val (.long l1), .second, .val (.long l2), .second, .val (.long l3), .second, .val (.int (if fa = (0 : Int32) then (if (0 : Int32) < (lcmpW s1 (100 : Int64)) then (0 : Int32) else (1 : Int32)) else (1 : Int32))), .val (.int (if fb = (0 : Int32) then (if (0 : Int32) < (lcmpW (s2 - l1) (100 : Int64)) then (0 : Int32) else (1 : Int32)) else (1 : Int32))), .val (.int (if fc = (0 : Int32) then (if (0 : Int32) < (lcmpW (s3 - l2) (100 : Int64)) then (0 : Int32) else (1 : Int32)) else (1 : Int32))), .val (.int (1 : Int32)), .val (.long (l3 - (1 : Int64))), .second] [(.long s3), (.long s3)]))
    refine own_fwd (fun tt kt => XS.lcmp X118.here hx rfl (hb hby at_335) rfl kt) ?_
    show own_R p.tables e below P (T118.setTop (mkF m 336 #[.val (.int p0), .val (.int p1), .val (.int p2), .val (.int p3), .val (.int va), .val (.int vb), .val (.int vc), .val (.int fa), .val (.int fb), .val (.int fc), .val (.ref b109), .val (.int z1), .val (.long s1), .second, .val (.int z2), .val (.long s2), .second, .val (.int z3), .val (.long s3), .second, .val (.int z4), .val (.long s4), .second, .val (.long s1), .second, .val (.long s2), .second, .val (.long s3), .second, .val (.long l1), .second, .val (.long l2), .second, .val (.long l3), .second, .val (.int (if fa = (0 : Int32) then (if (0 : Int32) < (lcmpW s1 (100 : Int64)) then (0 : Int32) else (1 : Int32)) else (1 : Int32))), .val (.int (if fb = (0 : Int32) then (if (0 : Int32) < (lcmpW (s2 - l1) (100 : Int64)) then (0 : Int32) else (1 : Int32)) else (1 : Int32))), .val (.int (if fc = (0 : Int32) then (if (0 : Int32) < (lcmpW (s3 - l2) (100 : Int64)) then (0 : Int32) else (1 : Int32)) else (1 : Int32))), .val (.int (1 : Int32)), .val (.long (l3 - (1 : Int64))), .second] [(.int (lcmpW s3 s3))]))
    have hc140 : (lcmpW s3 s3) = (0 : Int32) := (lw_eq _ _).mpr rfl
    refine own_fwd (fun tt kt => XS.ifNo X118.here hx rfl (hb hby at_336) rfl ((if0 _ _).trans (teq hc140).2) kt) ?_
    show own_R p.tables e below P (T118.setTop (mkF m 339 #[.val (.int p0), .val (.int p1), .val (.int p2), .val (.int p3), .val (.int va), .val (.int vb), .val (.int vc), .val (.int fa), .val (.int fb), .val (.int fc), .val (.ref b109), .val (.int z1), .val (.long s1), .second, .val (.int z2), .val (.long s2), .second, .val (.int z3), .val (.long s3), .second, .val (.int z4), .val (.long s4), .second, .val (.long s1), .second, .val (.long s2), .second, .val (.long s3), .second, .val (.long l1), .second, .val (.long l2), .second, .val (.long l3), .second, .val (.int (if fa = (0 : Int32) then (if (0 : Int32) < (lcmpW s1 (100 : Int64)) then (0 : Int32) else (1 : Int32)) else (1 : Int32))), .val (.int (if fb = (0 : Int32) then (if (0 : Int32) < (lcmpW (s2 - l1) (100 : Int64)) then (0 : Int32) else (1 : Int32)) else (1 : Int32))), .val (.int (if fc = (0 : Int32) then (if (0 : Int32) < (lcmpW (s3 - l2) (100 : Int64)) then (0 : Int32) else (1 : Int32)) else (1 : Int32))), .val (.int (1 : Int32)), .val (.long (l3 - (1 : Int64))), .second] []))
    refine own_fwd (fun tt kt => XS.iload X118.here hx rfl (hb hby at_339) rfl kt) ?_
    show own_R p.tables e below P (T118.setTop (mkF m 341 #[.val (.int p0), .val (.int p1), .val (.int p2), .val (.int p3), .val (.int va), .val (.int vb), .val (.int vc), .val (.int fa), .val (.int fb), .val (.int fc), .val (.ref b109), .val (.int z1), .val (.long s1), .second, .val (.int z2), .val (.long s2), .second, .val (.int z3), .val (.long s3), .second, .val (.int z4), .val (.long s4), .second, .val (.long s1), .second, .val (.long s2), .second, .val (.long s3), .second, .val (.long l1), .second, .val (.long l2), .second, .val (.long l3), .second, .val (.int (if fa = (0 : Int32) then (if (0 : Int32) < (lcmpW s1 (100 : Int64)) then (0 : Int32) else (1 : Int32)) else (1 : Int32))), .val (.int (if fb = (0 : Int32) then (if (0 : Int32) < (lcmpW (s2 - l1) (100 : Int64)) then (0 : Int32) else (1 : Int32)) else (1 : Int32))), .val (.int (if fc = (0 : Int32) then (if (0 : Int32) < (lcmpW (s3 - l2) (100 : Int64)) then (0 : Int32) else (1 : Int32)) else (1 : Int32))), .val (.int (1 : Int32)), .val (.long (l3 - (1 : Int64))), .second] [(.int z3)]))
    refine own_fwd (fun tt kt => XS.iload X118.here hx rfl (hb hby at_341) rfl kt) ?_
    show own_R p.tables e below P (T118.setTop (mkF m 343 #[.val (.int p0), .val (.int p1), .val (.int p2), .val (.int p3), .val (.int va), .val (.int vb), .val (.int vc), .val (.int fa), .val (.int fb), .val (.int fc), .val (.ref b109), .val (.int z1), .val (.long s1), .second, .val (.int z2), .val (.long s2), .second, .val (.int z3), .val (.long s3), .second, .val (.int z4), .val (.long s4), .second, .val (.long s1), .second, .val (.long s2), .second, .val (.long s3), .second, .val (.long l1), .second, .val (.long l2), .second, .val (.long l3), .second, .val (.int (if fa = (0 : Int32) then (if (0 : Int32) < (lcmpW s1 (100 : Int64)) then (0 : Int32) else (1 : Int32)) else (1 : Int32))), .val (.int (if fb = (0 : Int32) then (if (0 : Int32) < (lcmpW (s2 - l1) (100 : Int64)) then (0 : Int32) else (1 : Int32)) else (1 : Int32))), .val (.int (if fc = (0 : Int32) then (if (0 : Int32) < (lcmpW (s3 - l2) (100 : Int64)) then (0 : Int32) else (1 : Int32)) else (1 : Int32))), .val (.int (1 : Int32)), .val (.long (l3 - (1 : Int64))), .second] [(.int (if fc = (0 : Int32) then (if (0 : Int32) < (lcmpW (s3 - l2) (100 : Int64)) then (0 : Int32) else (1 : Int32)) else (1 : Int32))), (.int z3)]))
    have hc141 : z3 = (if fc = (0 : Int32) then (if (0 : Int32) < (lcmpW (s3 - l2) (100 : Int64)) then (0 : Int32) else (1 : Int32)) else (1 : Int32)) := own_stepZ M3 (own_sub _ _ (by omega) (by omega) (by omega) (by omega))
    refine own_fwd (fun tt kt => XS.icmpNo X118.here hx rfl (hb hby at_343) rfl (teq hc141).2 kt) ?_
    show own_R p.tables e below P (T118.setTop (mkF m 346 #[.val (.int p0), .val (.int p1), .val (.int p2), .val (.int p3), .val (.int va), .val (.int vb), .val (.int vc), .val (.int fa), .val (.int fb), .val (.int fc), .val (.ref b109), .val (.int z1), .val (.long s1), .second, .val (.int z2), .val (.long s2), .second, .val (.int z3), .val (.long s3), .second, .val (.int z4), .val (.long s4), .second, .val (.long s1), .second, .val (.long s2), .second, .val (.long s3), .second, .val (.long l1), .second, .val (.long l2), .second, .val (.long l3), .second, .val (.int (if fa = (0 : Int32) then (if (0 : Int32) < (lcmpW s1 (100 : Int64)) then (0 : Int32) else (1 : Int32)) else (1 : Int32))), .val (.int (if fb = (0 : Int32) then (if (0 : Int32) < (lcmpW (s2 - l1) (100 : Int64)) then (0 : Int32) else (1 : Int32)) else (1 : Int32))), .val (.int (if fc = (0 : Int32) then (if (0 : Int32) < (lcmpW (s3 - l2) (100 : Int64)) then (0 : Int32) else (1 : Int32)) else (1 : Int32))), .val (.int (1 : Int32)), .val (.long (l3 - (1 : Int64))), .second] []))
    refine own_fwd (fun tt kt => XS.iload X118.here hx rfl (hb hby at_346) rfl kt) ?_
    show own_R p.tables e below P (T118.setTop (mkF m 348 #[.val (.int p0), .val (.int p1), .val (.int p2), .val (.int p3), .val (.int va), .val (.int vb), .val (.int vc), .val (.int fa), .val (.int fb), .val (.int fc), .val (.ref b109), .val (.int z1), .val (.long s1), .second, .val (.int z2), .val (.long s2), .second, .val (.int z3), .val (.long s3), .second, .val (.int z4), .val (.long s4), .second, .val (.long s1), .second, .val (.long s2), .second, .val (.long s3), .second, .val (.long l1), .second, .val (.long l2), .second, .val (.long l3), .second, .val (.int (if fa = (0 : Int32) then (if (0 : Int32) < (lcmpW s1 (100 : Int64)) then (0 : Int32) else (1 : Int32)) else (1 : Int32))), .val (.int (if fb = (0 : Int32) then (if (0 : Int32) < (lcmpW (s2 - l1) (100 : Int64)) then (0 : Int32) else (1 : Int32)) else (1 : Int32))), .val (.int (if fc = (0 : Int32) then (if (0 : Int32) < (lcmpW (s3 - l2) (100 : Int64)) then (0 : Int32) else (1 : Int32)) else (1 : Int32))), .val (.int (1 : Int32)), .val (.long (l3 - (1 : Int64))), .second] [(.int z4)]))
    refine own_fwd (fun tt kt => XS.iload X118.here hx rfl (hb hby at_348) rfl kt) ?_
    show own_R p.tables e below P (T118.setTop (mkF m 350 #[.val (.int p0), .val (.int p1), .val (.int p2), .val (.int p3), .val (.int va), .val (.int vb), .val (.int vc), .val (.int fa), .val (.int fb), .val (.int fc), .val (.ref b109), .val (.int z1), .val (.long s1), .second, .val (.int z2), .val (.long s2), .second, .val (.int z3), .val (.long s3), .second, .val (.int z4), .val (.long s4), .second, .val (.long s1), .second, .val (.long s2), .second, .val (.long s3), .second, .val (.long l1), .second, .val (.long l2), .second, .val (.long l3), .second, .val (.int (if fa = (0 : Int32) then (if (0 : Int32) < (lcmpW s1 (100 : Int64)) then (0 : Int32) else (1 : Int32)) else (1 : Int32))), .val (.int (if fb = (0 : Int32) then (if (0 : Int32) < (lcmpW (s2 - l1) (100 : Int64)) then (0 : Int32) else (1 : Int32)) else (1 : Int32))), .val (.int (if fc = (0 : Int32) then (if (0 : Int32) < (lcmpW (s3 - l2) (100 : Int64)) then (0 : Int32) else (1 : Int32)) else (1 : Int32))), .val (.int (1 : Int32)), .val (.long (l3 - (1 : Int64))), .second] [(.int (1 : Int32)), (.int z4)]))
    have hc142 : z4 = (1 : Int32) := (LK.1 hc134).1
    refine own_fwd (fun tt kt => XS.icmpNo X118.here hx rfl (hb hby at_350) rfl (teq hc142).2 kt) ?_
    show own_R p.tables e below P (T118.setTop (mkF m 353 #[.val (.int p0), .val (.int p1), .val (.int p2), .val (.int p3), .val (.int va), .val (.int vb), .val (.int vc), .val (.int fa), .val (.int fb), .val (.int fc), .val (.ref b109), .val (.int z1), .val (.long s1), .second, .val (.int z2), .val (.long s2), .second, .val (.int z3), .val (.long s3), .second, .val (.int z4), .val (.long s4), .second, .val (.long s1), .second, .val (.long s2), .second, .val (.long s3), .second, .val (.long l1), .second, .val (.long l2), .second, .val (.long l3), .second, .val (.int (if fa = (0 : Int32) then (if (0 : Int32) < (lcmpW s1 (100 : Int64)) then (0 : Int32) else (1 : Int32)) else (1 : Int32))), .val (.int (if fb = (0 : Int32) then (if (0 : Int32) < (lcmpW (s2 - l1) (100 : Int64)) then (0 : Int32) else (1 : Int32)) else (1 : Int32))), .val (.int (if fc = (0 : Int32) then (if (0 : Int32) < (lcmpW (s3 - l2) (100 : Int64)) then (0 : Int32) else (1 : Int32)) else (1 : Int32))), .val (.int (1 : Int32)), .val (.long (l3 - (1 : Int64))), .second] []))
    refine own_fwd (fun tt kt => XS.lload X118.here hx rfl (hb hby at_353) rfl kt) ?_
    show own_R p.tables e below P (T118.setTop (mkF m 355 #[.val (.int p0), .val (.int p1), .val (.int p2), .val (.int p3), .val (.int va), .val (.int vb), .val (.int vc), .val (.int fa), .val (.int fb), .val (.int fc), .val (.ref b109), .val (.int z1), .val (.long s1), .second, .val (.int z2), .val (.long s2), .second, .val (.int z3), .val (.long s3), .second, .val (.int z4), .val (.long s4), .second, .val (.long s1), .second, .val (.long s2), .second, .val (.long s3), .second, .val (.long l1), .second, .val (.long l2), .second, .val (.long l3), .second, .val (.int (if fa = (0 : Int32) then (if (0 : Int32) < (lcmpW s1 (100 : Int64)) then (0 : Int32) else (1 : Int32)) else (1 : Int32))), .val (.int (if fb = (0 : Int32) then (if (0 : Int32) < (lcmpW (s2 - l1) (100 : Int64)) then (0 : Int32) else (1 : Int32)) else (1 : Int32))), .val (.int (if fc = (0 : Int32) then (if (0 : Int32) < (lcmpW (s3 - l2) (100 : Int64)) then (0 : Int32) else (1 : Int32)) else (1 : Int32))), .val (.int (1 : Int32)), .val (.long (l3 - (1 : Int64))), .second] [(.long s4)]))
    refine own_fwd (fun tt kt => XS.lload X118.here hx rfl (hb hby at_355) rfl kt) ?_
    show own_R p.tables e below P (T118.setTop (mkF m 357 #[.val (.int p0), .val (.int p1), .val (.int p2), .val (.int p3), .val (.int va), .val (.int vb), .val (.int vc), .val (.int fa), .val (.int fb), .val (.int fc), .val (.ref b109), .val (.int z1), .val (.long s1), .second, .val (.int z2), .val (.long s2), .second, .val (.int z3), .val (.long s3), .second, .val (.int z4), .val (.long s4), .second, .val (.long s1), .second, .val (.long s2), .second, .val (.long s3), .second, .val (.long l1), .second, .val (.long l2), .second, .val (.long l3), .second, .val (.int (if fa = (0 : Int32) then (if (0 : Int32) < (lcmpW s1 (100 : Int64)) then (0 : Int32) else (1 : Int32)) else (1 : Int32))), .val (.int (if fb = (0 : Int32) then (if (0 : Int32) < (lcmpW (s2 - l1) (100 : Int64)) then (0 : Int32) else (1 : Int32)) else (1 : Int32))), .val (.int (if fc = (0 : Int32) then (if (0 : Int32) < (lcmpW (s3 - l2) (100 : Int64)) then (0 : Int32) else (1 : Int32)) else (1 : Int32))), .val (.int (1 : Int32)), .val (.long (l3 - (1 : Int64))), .second] [(.long (l3 - (1 : Int64))), (.long s4)]))
    refine own_fwd (fun tt kt => XS.lcmp X118.here hx rfl (hb hby at_357) rfl kt) ?_
    show own_R p.tables e below P (T118.setTop (mkF m 358 #[.val (.int p0), .val (.int p1), .val (.int p2), .val (.int p3), .val (.int va), .val (.int vb), .val (.int vc), .val (.int fa), .val (.int fb), .val (.int fc), .val (.ref b109), .val (.int z1), .val (.long s1), .second, .val (.int z2), .val (.long s2), .second, .val (.int z3), .val (.long s3), .second, .val (.int z4), .val (.long s4), .second, .val (.long s1), .second, .val (.long s2), .second, .val (.long s3), .second, .val (.long l1), .second, .val (.long l2), .second, .val (.long l3), .second, .val (.int (if fa = (0 : Int32) then (if (0 : Int32) < (lcmpW s1 (100 : Int64)) then (0 : Int32) else (1 : Int32)) else (1 : Int32))), .val (.int (if fb = (0 : Int32) then (if (0 : Int32) < (lcmpW (s2 - l1) (100 : Int64)) then (0 : Int32) else (1 : Int32)) else (1 : Int32))), .val (.int (if fc = (0 : Int32) then (if (0 : Int32) < (lcmpW (s3 - l2) (100 : Int64)) then (0 : Int32) else (1 : Int32)) else (1 : Int32))), .val (.int (1 : Int32)), .val (.long (l3 - (1 : Int64))), .second] [(.int (lcmpW s4 (l3 - (1 : Int64))))]))
    have hc143 : (lcmpW s4 (l3 - (1 : Int64))) = (0 : Int32) := (lw_eq _ _).mpr (LK.1 hc134).2
    refine own_fwd (fun tt kt => XS.ifNo X118.here hx rfl (hb hby at_358) rfl ((if0 _ _).trans (teq hc143).2) kt) ?_
    show own_R p.tables e below P (T118.setTop (mkF m 361 #[.val (.int p0), .val (.int p1), .val (.int p2), .val (.int p3), .val (.int va), .val (.int vb), .val (.int vc), .val (.int fa), .val (.int fb), .val (.int fc), .val (.ref b109), .val (.int z1), .val (.long s1), .second, .val (.int z2), .val (.long s2), .second, .val (.int z3), .val (.long s3), .second, .val (.int z4), .val (.long s4), .second, .val (.long s1), .second, .val (.long s2), .second, .val (.long s3), .second, .val (.long l1), .second, .val (.long l2), .second, .val (.long l3), .second, .val (.int (if fa = (0 : Int32) then (if (0 : Int32) < (lcmpW s1 (100 : Int64)) then (0 : Int32) else (1 : Int32)) else (1 : Int32))), .val (.int (if fb = (0 : Int32) then (if (0 : Int32) < (lcmpW (s2 - l1) (100 : Int64)) then (0 : Int32) else (1 : Int32)) else (1 : Int32))), .val (.int (if fc = (0 : Int32) then (if (0 : Int32) < (lcmpW (s3 - l2) (100 : Int64)) then (0 : Int32) else (1 : Int32)) else (1 : Int32))), .val (.int (1 : Int32)), .val (.long (l3 - (1 : Int64))), .second] []))
    refine own_fwd (fun tt kt => XS.iconst X118.here hx rfl (hb hby at_361) kt) ?_
    show own_R p.tables e below P (T118.setTop (mkF m 362 #[.val (.int p0), .val (.int p1), .val (.int p2), .val (.int p3), .val (.int va), .val (.int vb), .val (.int vc), .val (.int fa), .val (.int fb), .val (.int fc), .val (.ref b109), .val (.int z1), .val (.long s1), .second, .val (.int z2), .val (.long s2), .second, .val (.int z3), .val (.long s3), .second, .val (.int z4), .val (.long s4), .second, .val (.long s1), .second, .val (.long s2), .second, .val (.long s3), .second, .val (.long l1), .second, .val (.long l2), .second, .val (.long l3), .second, .val (.int (if fa = (0 : Int32) then (if (0 : Int32) < (lcmpW s1 (100 : Int64)) then (0 : Int32) else (1 : Int32)) else (1 : Int32))), .val (.int (if fb = (0 : Int32) then (if (0 : Int32) < (lcmpW (s2 - l1) (100 : Int64)) then (0 : Int32) else (1 : Int32)) else (1 : Int32))), .val (.int (if fc = (0 : Int32) then (if (0 : Int32) < (lcmpW (s3 - l2) (100 : Int64)) then (0 : Int32) else (1 : Int32)) else (1 : Int32))), .val (.int (1 : Int32)), .val (.long (l3 - (1 : Int64))), .second] [(.int (1 : Int32))]))
    refine own_fwd (fun tt kt => XS.goto X118.here hx rfl (pc0 := 362) (pc' := 366) rfl (hb hby at_362) (by decide) (by decide) kt) ?_
    show own_R p.tables e below P (T118.setTop (mkF m 366 #[.val (.int p0), .val (.int p1), .val (.int p2), .val (.int p3), .val (.int va), .val (.int vb), .val (.int vc), .val (.int fa), .val (.int fb), .val (.int fc), .val (.ref b109), .val (.int z1), .val (.long s1), .second, .val (.int z2), .val (.long s2), .second, .val (.int z3), .val (.long s3), .second, .val (.int z4), .val (.long s4), .second, .val (.long s1), .second, .val (.long s2), .second, .val (.long s3), .second, .val (.long l1), .second, .val (.long l2), .second, .val (.long l3), .second, .val (.int (if fa = (0 : Int32) then (if (0 : Int32) < (lcmpW s1 (100 : Int64)) then (0 : Int32) else (1 : Int32)) else (1 : Int32))), .val (.int (if fb = (0 : Int32) then (if (0 : Int32) < (lcmpW (s2 - l1) (100 : Int64)) then (0 : Int32) else (1 : Int32)) else (1 : Int32))), .val (.int (if fc = (0 : Int32) then (if (0 : Int32) < (lcmpW (s3 - l2) (100 : Int64)) then (0 : Int32) else (1 : Int32)) else (1 : Int32))), .val (.int (1 : Int32)), .val (.long (l3 - (1 : Int64))), .second] [(.int (1 : Int32))]))
    obtain ⟨fs144, hr144, hrun144, hended144, hW144, hsame144⟩ := X118.leave (v := some (.int (1 : Int32))) (fun h => by rw [Bd.returns] at h; cases h)
    refine ⟨_, _, X118.ireturnOut hx (w := (1 : Int32)) Bd.returns rfl (by simp) (hb hby at_366) hr144, fin _ _ ⟨hrun144, hended144, _, _, rfl, ?_, ⟨_, rfl⟩, hW144, hsame144.mono (by decide) (by decide)⟩⟩
    show own_Qlaw Z p0 p1 p2 p3 h0 n0 _ T118.heap _
    rw [e118]
    exact ⟨rfl, N118⟩
  · refine own_fwd (fun tt kt => XS.ifYes X118.here hx rfl (pc0 := 275) (pc' := 282) rfl (hb hby at_275) rfl ((if0 _ _).trans (flt hc134).2.2.2) (by decide) (by decide) kt) ?_
    show own_R p.tables e below P (T118.setTop (mkF m 282 #[.val (.int p0), .val (.int p1), .val (.int p2), .val (.int p3), .val (.int va), .val (.int vb), .val (.int vc), .val (.int fa), .val (.int fb), .val (.int fc), .val (.ref b109), .val (.int z1), .val (.long s1), .second, .val (.int z2), .val (.long s2), .second, .val (.int z3), .val (.long s3), .second, .val (.int z4), .val (.long s4), .second, .val (.long s1), .second, .val (.long s2), .second, .val (.long s3), .second, .val (.long l1), .second, .val (.long l2), .second, .val (.long l3), .second, .val (.int (if fa = (0 : Int32) then (if (0 : Int32) < (lcmpW s1 (100 : Int64)) then (0 : Int32) else (1 : Int32)) else (1 : Int32))), .val (.int (if fb = (0 : Int32) then (if (0 : Int32) < (lcmpW (s2 - l1) (100 : Int64)) then (0 : Int32) else (1 : Int32)) else (1 : Int32))), .val (.int (if fc = (0 : Int32) then (if (0 : Int32) < (lcmpW (s3 - l2) (100 : Int64)) then (0 : Int32) else (1 : Int32)) else (1 : Int32))), .unset, .unset, .unset] []))
    refine own_fwd (fun tt kt => XS.iconst X118.here hx rfl (hb hby at_282) kt) ?_
    show own_R p.tables e below P (T118.setTop (mkF m 283 #[.val (.int p0), .val (.int p1), .val (.int p2), .val (.int p3), .val (.int va), .val (.int vb), .val (.int vc), .val (.int fa), .val (.int fb), .val (.int fc), .val (.ref b109), .val (.int z1), .val (.long s1), .second, .val (.int z2), .val (.long s2), .second, .val (.int z3), .val (.long s3), .second, .val (.int z4), .val (.long s4), .second, .val (.long s1), .second, .val (.long s2), .second, .val (.long s3), .second, .val (.long l1), .second, .val (.long l2), .second, .val (.long l3), .second, .val (.int (if fa = (0 : Int32) then (if (0 : Int32) < (lcmpW s1 (100 : Int64)) then (0 : Int32) else (1 : Int32)) else (1 : Int32))), .val (.int (if fb = (0 : Int32) then (if (0 : Int32) < (lcmpW (s2 - l1) (100 : Int64)) then (0 : Int32) else (1 : Int32)) else (1 : Int32))), .val (.int (if fc = (0 : Int32) then (if (0 : Int32) < (lcmpW (s3 - l2) (100 : Int64)) then (0 : Int32) else (1 : Int32)) else (1 : Int32))), .unset, .unset, .unset] [(.int (0 : Int32))]))
    refine own_fwd (fun tt kt => XS.istore X118.here hx rfl (hb hby at_283) rfl (l' := #[.val (.int p0), .val (.int p1), .val (.int p2), .val (.int p3), .val (.int va), .val (.int vb), .val (.int vc), .val (.int fa), .val (.int fb), .val (.int fc), .val (.ref b109), .val (.int z1), .val (.long s1), .second, .val (.int z2), .val (.long s2), .second, .val (.int z3), .val (.long s3), .second, .val (.int z4), .val (.long s4), .second, .val (.long s1), .second, .val (.long s2), .second, .val (.long s3), .second, .val (.long l1), .second, .val (.long l2), .second, .val (.long l3), .second, .val (.int (if fa = (0 : Int32) then (if (0 : Int32) < (lcmpW s1 (100 : Int64)) then (0 : Int32) else (1 : Int32)) else (1 : Int32))), .val (.int (if fb = (0 : Int32) then (if (0 : Int32) < (lcmpW (s2 - l1) (100 : Int64)) then (0 : Int32) else (1 : Int32)) else (1 : Int32))), .val (.int (if fc = (0 : Int32) then (if (0 : Int32) < (lcmpW (s3 - l2) (100 : Int64)) then (0 : Int32) else (1 : Int32)) else (1 : Int32))), .val (.int (0 : Int32)), .unset, .unset]) rfl kt) ?_
    show own_R p.tables e below P (T118.setTop (mkF m 285 #[.val (.int p0), .val (.int p1), .val (.int p2), .val (.int p3), .val (.int va), .val (.int vb), .val (.int vc), .val (.int fa), .val (.int fb), .val (.int fc), .val (.ref b109), .val (.int z1), .val (.long s1), .second, .val (.int z2), .val (.long s2), .second, .val (.int z3), .val (.long s3), .second, .val (.int z4), .val (.long s4), .second, .val (.long s1), .second, .val (.long s2), .second, .val (.long s3), .second, .val (.long l1), .second, .val (.long l2), .second, .val (.long l3), .second, .val (.int (if fa = (0 : Int32) then (if (0 : Int32) < (lcmpW s1 (100 : Int64)) then (0 : Int32) else (1 : Int32)) else (1 : Int32))), .val (.int (if fb = (0 : Int32) then (if (0 : Int32) < (lcmpW (s2 - l1) (100 : Int64)) then (0 : Int32) else (1 : Int32)) else (1 : Int32))), .val (.int (if fc = (0 : Int32) then (if (0 : Int32) < (lcmpW (s3 - l2) (100 : Int64)) then (0 : Int32) else (1 : Int32)) else (1 : Int32))), .val (.int (0 : Int32)), .unset, .unset] []))
    refine own_fwd (fun tt kt => XS.iload X118.here hx rfl (hb hby at_285) rfl kt) ?_
    show own_R p.tables e below P (T118.setTop (mkF m 287 #[.val (.int p0), .val (.int p1), .val (.int p2), .val (.int p3), .val (.int va), .val (.int vb), .val (.int vc), .val (.int fa), .val (.int fb), .val (.int fc), .val (.ref b109), .val (.int z1), .val (.long s1), .second, .val (.int z2), .val (.long s2), .second, .val (.int z3), .val (.long s3), .second, .val (.int z4), .val (.long s4), .second, .val (.long s1), .second, .val (.long s2), .second, .val (.long s3), .second, .val (.long l1), .second, .val (.long l2), .second, .val (.long l3), .second, .val (.int (if fa = (0 : Int32) then (if (0 : Int32) < (lcmpW s1 (100 : Int64)) then (0 : Int32) else (1 : Int32)) else (1 : Int32))), .val (.int (if fb = (0 : Int32) then (if (0 : Int32) < (lcmpW (s2 - l1) (100 : Int64)) then (0 : Int32) else (1 : Int32)) else (1 : Int32))), .val (.int (if fc = (0 : Int32) then (if (0 : Int32) < (lcmpW (s3 - l2) (100 : Int64)) then (0 : Int32) else (1 : Int32)) else (1 : Int32))), .val (.int (0 : Int32)), .unset, .unset] [(.int (0 : Int32))]))
    have hc145 : (0 : Int32) = (0 : Int32) := (by decide)
    refine own_fwd (fun tt kt => XS.ifYes X118.here hx rfl (pc0 := 287) (pc' := 297) rfl (hb hby at_287) rfl ((if0 _ _).trans (teq hc145).1) (by decide) (by decide) kt) ?_
    show own_R p.tables e below P (T118.setTop (mkF m 297 #[.val (.int p0), .val (.int p1), .val (.int p2), .val (.int p3), .val (.int va), .val (.int vb), .val (.int vc), .val (.int fa), .val (.int fb), .val (.int fc), .val (.ref b109), .val (.int z1), .val (.long s1), .second, .val (.int z2), .val (.long s2), .second, .val (.int z3), .val (.long s3), .second, .val (.int z4), .val (.long s4), .second, .val (.long s1), .second, .val (.long s2), .second, .val (.long s3), .second, .val (.long l1), .second, .val (.long l2), .second, .val (.long l3), .second, .val (.int (if fa = (0 : Int32) then (if (0 : Int32) < (lcmpW s1 (100 : Int64)) then (0 : Int32) else (1 : Int32)) else (1 : Int32))), .val (.int (if fb = (0 : Int32) then (if (0 : Int32) < (lcmpW (s2 - l1) (100 : Int64)) then (0 : Int32) else (1 : Int32)) else (1 : Int32))), .val (.int (if fc = (0 : Int32) then (if (0 : Int32) < (lcmpW (s3 - l2) (100 : Int64)) then (0 : Int32) else (1 : Int32)) else (1 : Int32))), .val (.int (0 : Int32)), .unset, .unset] []))
    refine own_fwd (fun tt kt => XS.lload X118.here hx rfl (hb hby at_297) rfl kt) ?_
    show own_R p.tables e below P (T118.setTop (mkF m 299 #[.val (.int p0), .val (.int p1), .val (.int p2), .val (.int p3), .val (.int va), .val (.int vb), .val (.int vc), .val (.int fa), .val (.int fb), .val (.int fc), .val (.ref b109), .val (.int z1), .val (.long s1), .second, .val (.int z2), .val (.long s2), .second, .val (.int z3), .val (.long s3), .second, .val (.int z4), .val (.long s4), .second, .val (.long s1), .second, .val (.long s2), .second, .val (.long s3), .second, .val (.long l1), .second, .val (.long l2), .second, .val (.long l3), .second, .val (.int (if fa = (0 : Int32) then (if (0 : Int32) < (lcmpW s1 (100 : Int64)) then (0 : Int32) else (1 : Int32)) else (1 : Int32))), .val (.int (if fb = (0 : Int32) then (if (0 : Int32) < (lcmpW (s2 - l1) (100 : Int64)) then (0 : Int32) else (1 : Int32)) else (1 : Int32))), .val (.int (if fc = (0 : Int32) then (if (0 : Int32) < (lcmpW (s3 - l2) (100 : Int64)) then (0 : Int32) else (1 : Int32)) else (1 : Int32))), .val (.int (0 : Int32)), .unset, .unset] [(.long s3)]))
    refine own_fwd (fun tt kt => XS.lstore X118.here hx rfl (hb hby at_299) rfl (l' := #[.val (.int p0), .val (.int p1), .val (.int p2), .val (.int p3), .val (.int va), .val (.int vb), .val (.int vc), .val (.int fa), .val (.int fb), .val (.int fc), .val (.ref b109), .val (.int z1), .val (.long s1), .second, .val (.int z2), .val (.long s2), .second, .val (.int z3), .val (.long s3), .second, .val (.int z4), .val (.long s4), .second, .val (.long s1), .second, .val (.long s2), .second, .val (.long s3), .second, .val (.long l1), .second, .val (.long l2), .second, .val (.long l3), .second, .val (.int (if fa = (0 : Int32) then (if (0 : Int32) < (lcmpW s1 (100 : Int64)) then (0 : Int32) else (1 : Int32)) else (1 : Int32))), .val (.int (if fb = (0 : Int32) then (if (0 : Int32) < (lcmpW (s2 - l1) (100 : Int64)) then (0 : Int32) else (1 : Int32)) else (1 : Int32))), .val (.int (if fc = (0 : Int32) then (if (0 : Int32) < (lcmpW (s3 - l2) (100 : Int64)) then (0 : Int32) else (1 : Int32)) else (1 : Int32))), .val (.int (0 : Int32)), .val (.long s3), .second]) rfl kt) ?_
    show own_R p.tables e below P (T118.setTop (mkF m 301 #[.val (.int p0), .val (.int p1), .val (.int p2), .val (.int p3), .val (.int va), .val (.int vb), .val (.int vc), .val (.int fa), .val (.int fb), .val (.int fc), .val (.ref b109), .val (.int z1), .val (.long s1), .second, .val (.int z2), .val (.long s2), .second, .val (.int z3), .val (.long s3), .second, .val (.int z4), .val (.long s4), .second, .val (.long s1), .second, .val (.long s2), .second, .val (.long s3), .second, .val (.long l1), .second, .val (.long l2), .second, .val (.long l3), .second, .val (.int (if fa = (0 : Int32) then (if (0 : Int32) < (lcmpW s1 (100 : Int64)) then (0 : Int32) else (1 : Int32)) else (1 : Int32))), .val (.int (if fb = (0 : Int32) then (if (0 : Int32) < (lcmpW (s2 - l1) (100 : Int64)) then (0 : Int32) else (1 : Int32)) else (1 : Int32))), .val (.int (if fc = (0 : Int32) then (if (0 : Int32) < (lcmpW (s3 - l2) (100 : Int64)) then (0 : Int32) else (1 : Int32)) else (1 : Int32))), .val (.int (0 : Int32)), .val (.long s3), .second] []))
    refine own_fwd (fun tt kt => XS.lload X118.here hx rfl (hb hby at_301) rfl kt) ?_
    show own_R p.tables e below P (T118.setTop (mkF m 303 #[.val (.int p0), .val (.int p1), .val (.int p2), .val (.int p3), .val (.int va), .val (.int vb), .val (.int vc), .val (.int fa), .val (.int fb), .val (.int fc), .val (.ref b109), .val (.int z1), .val (.long s1), .second, .val (.int z2), .val (.long s2), .second, .val (.int z3), .val (.long s3), .second, .val (.int z4), .val (.long s4), .second, .val (.long s1), .second, .val (.long s2), .second, .val (.long s3), .second, .val (.long l1), .second, .val (.long l2), .second, .val (.long l3), .second, .val (.int (if fa = (0 : Int32) then (if (0 : Int32) < (lcmpW s1 (100 : Int64)) then (0 : Int32) else (1 : Int32)) else (1 : Int32))), .val (.int (if fb = (0 : Int32) then (if (0 : Int32) < (lcmpW (s2 - l1) (100 : Int64)) then (0 : Int32) else (1 : Int32)) else (1 : Int32))), .val (.int (if fc = (0 : Int32) then (if (0 : Int32) < (lcmpW (s3 - l2) (100 : Int64)) then (0 : Int32) else (1 : Int32)) else (1 : Int32))), .val (.int (0 : Int32)), .val (.long s3), .second] [(.long s1)]))
    refine own_fwd (fun tt kt => XS.lload X118.here hx rfl (hb hby at_303) rfl kt) ?_
    show own_R p.tables e below P (T118.setTop (mkF m 305 #[.val (.int p0), .val (.int p1), .val (.int p2), .val (.int p3), .val (.int va), .val (.int vb), .val (.int vc), .val (.int fa), .val (.int fb), .val (.int fc), .val (.ref b109), .val (.int z1), .val (.long s1), .second, .val (.int z2), .val (.long s2), .second, .val (.int z3), .val (.long s3), .second, .val (.int z4), .val (.long s4), .second, .val (.long s1), .second, .val (.long s2), .second, .val (.long s3), .second, .val (.long l1), .second, .val (.long l2), .second, .val (.long l3), .second, .val (.int (if fa = (0 : Int32) then (if (0 : Int32) < (lcmpW s1 (100 : Int64)) then (0 : Int32) else (1 : Int32)) else (1 : Int32))), .val (.int (if fb = (0 : Int32) then (if (0 : Int32) < (lcmpW (s2 - l1) (100 : Int64)) then (0 : Int32) else (1 : Int32)) else (1 : Int32))), .val (.int (if fc = (0 : Int32) then (if (0 : Int32) < (lcmpW (s3 - l2) (100 : Int64)) then (0 : Int32) else (1 : Int32)) else (1 : Int32))), .val (.int (0 : Int32)), .val (.long s3), .second] [(.long s1), (.long s1)]))
    refine own_fwd (fun tt kt => XS.lcmp X118.here hx rfl (hb hby at_305) rfl kt) ?_
    show own_R p.tables e below P (T118.setTop (mkF m 306 #[.val (.int p0), .val (.int p1), .val (.int p2), .val (.int p3), .val (.int va), .val (.int vb), .val (.int vc), .val (.int fa), .val (.int fb), .val (.int fc), .val (.ref b109), .val (.int z1), .val (.long s1), .second, .val (.int z2), .val (.long s2), .second, .val (.int z3), .val (.long s3), .second, .val (.int z4), .val (.long s4), .second, .val (.long s1), .second, .val (.long s2), .second, .val (.long s3), .second, .val (.long l1), .second, .val (.long l2), .second, .val (.long l3), .second, .val (.int (if fa = (0 : Int32) then (if (0 : Int32) < (lcmpW s1 (100 : Int64)) then (0 : Int32) else (1 : Int32)) else (1 : Int32))), .val (.int (if fb = (0 : Int32) then (if (0 : Int32) < (lcmpW (s2 - l1) (100 : Int64)) then (0 : Int32) else (1 : Int32)) else (1 : Int32))), .val (.int (if fc = (0 : Int32) then (if (0 : Int32) < (lcmpW (s3 - l2) (100 : Int64)) then (0 : Int32) else (1 : Int32)) else (1 : Int32))), .val (.int (0 : Int32)), .val (.long s3), .second] [(.int (lcmpW s1 s1))]))
    have hc146 : (lcmpW s1 s1) = (0 : Int32) := (lw_eq _ _).mpr rfl
    refine own_fwd (fun tt kt => XS.ifNo X118.here hx rfl (hb hby at_306) rfl ((if0 _ _).trans (teq hc146).2) kt) ?_
    show own_R p.tables e below P (T118.setTop (mkF m 309 #[.val (.int p0), .val (.int p1), .val (.int p2), .val (.int p3), .val (.int va), .val (.int vb), .val (.int vc), .val (.int fa), .val (.int fb), .val (.int fc), .val (.ref b109), .val (.int z1), .val (.long s1), .second, .val (.int z2), .val (.long s2), .second, .val (.int z3), .val (.long s3), .second, .val (.int z4), .val (.long s4), .second, .val (.long s1), .second, .val (.long s2), .second, .val (.long s3), .second, .val (.long l1), .second, .val (.long l2), .second, .val (.long l3), .second, .val (.int (if fa = (0 : Int32) then (if (0 : Int32) < (lcmpW s1 (100 : Int64)) then (0 : Int32) else (1 : Int32)) else (1 : Int32))), .val (.int (if fb = (0 : Int32) then (if (0 : Int32) < (lcmpW (s2 - l1) (100 : Int64)) then (0 : Int32) else (1 : Int32)) else (1 : Int32))), .val (.int (if fc = (0 : Int32) then (if (0 : Int32) < (lcmpW (s3 - l2) (100 : Int64)) then (0 : Int32) else (1 : Int32)) else (1 : Int32))), .val (.int (0 : Int32)), .val (.long s3), .second] []))
    refine own_fwd (fun tt kt => XS.iload X118.here hx rfl (hb hby at_309) rfl kt) ?_
    show own_R p.tables e below P (T118.setTop (mkF m 311 #[.val (.int p0), .val (.int p1), .val (.int p2), .val (.int p3), .val (.int va), .val (.int vb), .val (.int vc), .val (.int fa), .val (.int fb), .val (.int fc), .val (.ref b109), .val (.int z1), .val (.long s1), .second, .val (.int z2), .val (.long s2), .second, .val (.int z3), .val (.long s3), .second, .val (.int z4), .val (.long s4), .second, .val (.long s1), .second, .val (.long s2), .second, .val (.long s3), .second, .val (.long l1), .second, .val (.long l2), .second, .val (.long l3), .second, .val (.int (if fa = (0 : Int32) then (if (0 : Int32) < (lcmpW s1 (100 : Int64)) then (0 : Int32) else (1 : Int32)) else (1 : Int32))), .val (.int (if fb = (0 : Int32) then (if (0 : Int32) < (lcmpW (s2 - l1) (100 : Int64)) then (0 : Int32) else (1 : Int32)) else (1 : Int32))), .val (.int (if fc = (0 : Int32) then (if (0 : Int32) < (lcmpW (s3 - l2) (100 : Int64)) then (0 : Int32) else (1 : Int32)) else (1 : Int32))), .val (.int (0 : Int32)), .val (.long s3), .second] [(.int z1)]))
    refine own_fwd (fun tt kt => XS.iload X118.here hx rfl (hb hby at_311) rfl kt) ?_
    show own_R p.tables e below P (T118.setTop (mkF m 313 #[.val (.int p0), .val (.int p1), .val (.int p2), .val (.int p3), .val (.int va), .val (.int vb), .val (.int vc), .val (.int fa), .val (.int fb), .val (.int fc), .val (.ref b109), .val (.int z1), .val (.long s1), .second, .val (.int z2), .val (.long s2), .second, .val (.int z3), .val (.long s3), .second, .val (.int z4), .val (.long s4), .second, .val (.long s1), .second, .val (.long s2), .second, .val (.long s3), .second, .val (.long l1), .second, .val (.long l2), .second, .val (.long l3), .second, .val (.int (if fa = (0 : Int32) then (if (0 : Int32) < (lcmpW s1 (100 : Int64)) then (0 : Int32) else (1 : Int32)) else (1 : Int32))), .val (.int (if fb = (0 : Int32) then (if (0 : Int32) < (lcmpW (s2 - l1) (100 : Int64)) then (0 : Int32) else (1 : Int32)) else (1 : Int32))), .val (.int (if fc = (0 : Int32) then (if (0 : Int32) < (lcmpW (s3 - l2) (100 : Int64)) then (0 : Int32) else (1 : Int32)) else (1 : Int32))), .val (.int (0 : Int32)), .val (.long s3), .second] [(.int (if fa = (0 : Int32) then (if (0 : Int32) < (lcmpW s1 (100 : Int64)) then (0 : Int32) else (1 : Int32)) else (1 : Int32))), (.int z1)]))
    have hc147 : z1 = (if fa = (0 : Int32) then (if (0 : Int32) < (lcmpW s1 (100 : Int64)) then (0 : Int32) else (1 : Int32)) else (1 : Int32)) := own_stepZ M1 (by rw [own_j0]; omega)
    refine own_fwd (fun tt kt => XS.icmpNo X118.here hx rfl (hb hby at_313) rfl (teq hc147).2 kt) ?_
    show own_R p.tables e below P (T118.setTop (mkF m 316 #[.val (.int p0), .val (.int p1), .val (.int p2), .val (.int p3), .val (.int va), .val (.int vb), .val (.int vc), .val (.int fa), .val (.int fb), .val (.int fc), .val (.ref b109), .val (.int z1), .val (.long s1), .second, .val (.int z2), .val (.long s2), .second, .val (.int z3), .val (.long s3), .second, .val (.int z4), .val (.long s4), .second, .val (.long s1), .second, .val (.long s2), .second, .val (.long s3), .second, .val (.long l1), .second, .val (.long l2), .second, .val (.long l3), .second, .val (.int (if fa = (0 : Int32) then (if (0 : Int32) < (lcmpW s1 (100 : Int64)) then (0 : Int32) else (1 : Int32)) else (1 : Int32))), .val (.int (if fb = (0 : Int32) then (if (0 : Int32) < (lcmpW (s2 - l1) (100 : Int64)) then (0 : Int32) else (1 : Int32)) else (1 : Int32))), .val (.int (if fc = (0 : Int32) then (if (0 : Int32) < (lcmpW (s3 - l2) (100 : Int64)) then (0 : Int32) else (1 : Int32)) else (1 : Int32))), .val (.int (0 : Int32)), .val (.long s3), .second] []))
    refine own_fwd (fun tt kt => XS.lload X118.here hx rfl (hb hby at_316) rfl kt) ?_
    show own_R p.tables e below P (T118.setTop (mkF m 318 #[.val (.int p0), .val (.int p1), .val (.int p2), .val (.int p3), .val (.int va), .val (.int vb), .val (.int vc), .val (.int fa), .val (.int fb), .val (.int fc), .val (.ref b109), .val (.int z1), .val (.long s1), .second, .val (.int z2), .val (.long s2), .second, .val (.int z3), .val (.long s3), .second, .val (.int z4), .val (.long s4), .second, .val (.long s1), .second, .val (.long s2), .second, .val (.long s3), .second, .val (.long l1), .second, .val (.long l2), .second, .val (.long l3), .second, .val (.int (if fa = (0 : Int32) then (if (0 : Int32) < (lcmpW s1 (100 : Int64)) then (0 : Int32) else (1 : Int32)) else (1 : Int32))), .val (.int (if fb = (0 : Int32) then (if (0 : Int32) < (lcmpW (s2 - l1) (100 : Int64)) then (0 : Int32) else (1 : Int32)) else (1 : Int32))), .val (.int (if fc = (0 : Int32) then (if (0 : Int32) < (lcmpW (s3 - l2) (100 : Int64)) then (0 : Int32) else (1 : Int32)) else (1 : Int32))), .val (.int (0 : Int32)), .val (.long s3), .second] [(.long s2)]))
    refine own_fwd (fun tt kt => XS.lload X118.here hx rfl (hb hby at_318) rfl kt) ?_
    show own_R p.tables e below P (T118.setTop (mkF m 320 #[.val (.int p0), .val (.int p1), .val (.int p2), .val (.int p3), .val (.int va), .val (.int vb), .val (.int vc), .val (.int fa), .val (.int fb), .val (.int fc), .val (.ref b109), .val (.int z1), .val (.long s1), .second, .val (.int z2), .val (.long s2), .second, .val (.int z3), .val (.long s3), .second, .val (.int z4), .val (.long s4), .second, .val (.long s1), .second, .val (.long s2), .second, .val (.long s3), .second, .val (.long l1), .second, .val (.long l2), .second, .val (.long l3), .second, .val (.int (if fa = (0 : Int32) then (if (0 : Int32) < (lcmpW s1 (100 : Int64)) then (0 : Int32) else (1 : Int32)) else (1 : Int32))), .val (.int (if fb = (0 : Int32) then (if (0 : Int32) < (lcmpW (s2 - l1) (100 : Int64)) then (0 : Int32) else (1 : Int32)) else (1 : Int32))), .val (.int (if fc = (0 : Int32) then (if (0 : Int32) < (lcmpW (s3 - l2) (100 : Int64)) then (0 : Int32) else (1 : Int32)) else (1 : Int32))), .val (.int (0 : Int32)), .val (.long s3), .second] [(.long s2), (.long s2)]))
    refine own_fwd (fun tt kt => XS.lcmp X118.here hx rfl (hb hby at_320) rfl kt) ?_
    show own_R p.tables e below P (T118.setTop (mkF m 321 #[.val (.int p0), .val (.int p1), .val (.int p2), .val (.int p3), .val (.int va), .val (.int vb), .val (.int vc), .val (.int fa), .val (.int fb), .val (.int fc), .val (.ref b109), .val (.int z1), .val (.long s1), .second, .val (.int z2), .val (.long s2), .second, .val (.int z3), .val (.long s3), .second, .val (.int z4), .val (.long s4), .second, .val (.long s1), .second, .val (.long s2), .second, .val (.long s3), .second, .val (.long l1), .second, .val (.long l2), .second, .val (.long l3), .second, .val (.int (if fa = (0 : Int32) then (if (0 : Int32) < (lcmpW s1 (100 : Int64)) then (0 : Int32) else (1 : Int32)) else (1 : Int32))), .val (.int (if fb = (0 : Int32) then (if (0 : Int32) < (lcmpW (s2 - l1) (100 : Int64)) then (0 : Int32) else (1 : Int32)) else (1 : Int32))), .val (.int (if fc = (0 : Int32) then (if (0 : Int32) < (lcmpW (s3 - l2) (100 : Int64)) then (0 : Int32) else (1 : Int32)) else (1 : Int32))), .val (.int (0 : Int32)), .val (.long s3), .second] [(.int (lcmpW s2 s2))]))
    have hc148 : (lcmpW s2 s2) = (0 : Int32) := (lw_eq _ _).mpr rfl
    refine own_fwd (fun tt kt => XS.ifNo X118.here hx rfl (hb hby at_321) rfl ((if0 _ _).trans (teq hc148).2) kt) ?_
    show own_R p.tables e below P (T118.setTop (mkF m 324 #[.val (.int p0), .val (.int p1), .val (.int p2), .val (.int p3), .val (.int va), .val (.int vb), .val (.int vc), .val (.int fa), .val (.int fb), .val (.int fc), .val (.ref b109), .val (.int z1), .val (.long s1), .second, .val (.int z2), .val (.long s2), .second, .val (.int z3), .val (.long s3), .second, .val (.int z4), .val (.long s4), .second, .val (.long s1), .second, .val (.long s2), .second, .val (.long s3), .second, .val (.long l1), .second, .val (.long l2), .second, .val (.long l3), .second, .val (.int (if fa = (0 : Int32) then (if (0 : Int32) < (lcmpW s1 (100 : Int64)) then (0 : Int32) else (1 : Int32)) else (1 : Int32))), .val (.int (if fb = (0 : Int32) then (if (0 : Int32) < (lcmpW (s2 - l1) (100 : Int64)) then (0 : Int32) else (1 : Int32)) else (1 : Int32))), .val (.int (if fc = (0 : Int32) then (if (0 : Int32) < (lcmpW (s3 - l2) (100 : Int64)) then (0 : Int32) else (1 : Int32)) else (1 : Int32))), .val (.int (0 : Int32)), .val (.long s3), .second] []))
    refine own_fwd (fun tt kt => XS.iload X118.here hx rfl (hb hby at_324) rfl kt) ?_
    show own_R p.tables e below P (T118.setTop (mkF m 326 #[.val (.int p0), .val (.int p1), .val (.int p2), .val (.int p3), .val (.int va), .val (.int vb), .val (.int vc), .val (.int fa), .val (.int fb), .val (.int fc), .val (.ref b109), .val (.int z1), .val (.long s1), .second, .val (.int z2), .val (.long s2), .second, .val (.int z3), .val (.long s3), .second, .val (.int z4), .val (.long s4), .second, .val (.long s1), .second, .val (.long s2), .second, .val (.long s3), .second, .val (.long l1), .second, .val (.long l2), .second, .val (.long l3), .second, .val (.int (if fa = (0 : Int32) then (if (0 : Int32) < (lcmpW s1 (100 : Int64)) then (0 : Int32) else (1 : Int32)) else (1 : Int32))), .val (.int (if fb = (0 : Int32) then (if (0 : Int32) < (lcmpW (s2 - l1) (100 : Int64)) then (0 : Int32) else (1 : Int32)) else (1 : Int32))), .val (.int (if fc = (0 : Int32) then (if (0 : Int32) < (lcmpW (s3 - l2) (100 : Int64)) then (0 : Int32) else (1 : Int32)) else (1 : Int32))), .val (.int (0 : Int32)), .val (.long s3), .second] [(.int z2)]))
    refine own_fwd (fun tt kt => XS.iload X118.here hx rfl (hb hby at_326) rfl kt) ?_
    show own_R p.tables e below P (T118.setTop (mkF m 328 #[.val (.int p0), .val (.int p1), .val (.int p2), .val (.int p3), .val (.int va), .val (.int vb), .val (.int vc), .val (.int fa), .val (.int fb), .val (.int fc), .val (.ref b109), .val (.int z1), .val (.long s1), .second, .val (.int z2), .val (.long s2), .second, .val (.int z3), .val (.long s3), .second, .val (.int z4), .val (.long s4), .second, .val (.long s1), .second, .val (.long s2), .second, .val (.long s3), .second, .val (.long l1), .second, .val (.long l2), .second, .val (.long l3), .second, .val (.int (if fa = (0 : Int32) then (if (0 : Int32) < (lcmpW s1 (100 : Int64)) then (0 : Int32) else (1 : Int32)) else (1 : Int32))), .val (.int (if fb = (0 : Int32) then (if (0 : Int32) < (lcmpW (s2 - l1) (100 : Int64)) then (0 : Int32) else (1 : Int32)) else (1 : Int32))), .val (.int (if fc = (0 : Int32) then (if (0 : Int32) < (lcmpW (s3 - l2) (100 : Int64)) then (0 : Int32) else (1 : Int32)) else (1 : Int32))), .val (.int (0 : Int32)), .val (.long s3), .second] [(.int (if fb = (0 : Int32) then (if (0 : Int32) < (lcmpW (s2 - l1) (100 : Int64)) then (0 : Int32) else (1 : Int32)) else (1 : Int32))), (.int z2)]))
    have hc149 : z2 = (if fb = (0 : Int32) then (if (0 : Int32) < (lcmpW (s2 - l1) (100 : Int64)) then (0 : Int32) else (1 : Int32)) else (1 : Int32)) := own_stepZ M2 (own_sub _ _ (by omega) (by omega) (by omega) (by omega))
    refine own_fwd (fun tt kt => XS.icmpNo X118.here hx rfl (hb hby at_328) rfl (teq hc149).2 kt) ?_
    show own_R p.tables e below P (T118.setTop (mkF m 331 #[.val (.int p0), .val (.int p1), .val (.int p2), .val (.int p3), .val (.int va), .val (.int vb), .val (.int vc), .val (.int fa), .val (.int fb), .val (.int fc), .val (.ref b109), .val (.int z1), .val (.long s1), .second, .val (.int z2), .val (.long s2), .second, .val (.int z3), .val (.long s3), .second, .val (.int z4), .val (.long s4), .second, .val (.long s1), .second, .val (.long s2), .second, .val (.long s3), .second, .val (.long l1), .second, .val (.long l2), .second, .val (.long l3), .second, .val (.int (if fa = (0 : Int32) then (if (0 : Int32) < (lcmpW s1 (100 : Int64)) then (0 : Int32) else (1 : Int32)) else (1 : Int32))), .val (.int (if fb = (0 : Int32) then (if (0 : Int32) < (lcmpW (s2 - l1) (100 : Int64)) then (0 : Int32) else (1 : Int32)) else (1 : Int32))), .val (.int (if fc = (0 : Int32) then (if (0 : Int32) < (lcmpW (s3 - l2) (100 : Int64)) then (0 : Int32) else (1 : Int32)) else (1 : Int32))), .val (.int (0 : Int32)), .val (.long s3), .second] []))
    refine own_fwd (fun tt kt => XS.lload X118.here hx rfl (hb hby at_331) rfl kt) ?_
    show own_R p.tables e below P (T118.setTop (mkF m 333 #[.val (.int p0), .val (.int p1), .val (.int p2), .val (.int p3), .val (.int va), .val (.int vb), .val (.int vc), .val (.int fa), .val (.int fb), .val (.int fc), .val (.ref b109), .val (.int z1), .val (.long s1), .second, .val (.int z2), .val (.long s2), .second, .val (.int z3), .val (.long s3), .second, .val (.int z4), .val (.long s4), .second, .val (.long s1), .second, .val (.long s2), .second, .val (.long s3), .second, .val (.long l1), .second, .val (.long l2), .second, .val (.long l3), .second, .val (.int (if fa = (0 : Int32) then (if (0 : Int32) < (lcmpW s1 (100 : Int64)) then (0 : Int32) else (1 : Int32)) else (1 : Int32))), .val (.int (if fb = (0 : Int32) then (if (0 : Int32) < (lcmpW (s2 - l1) (100 : Int64)) then (0 : Int32) else (1 : Int32)) else (1 : Int32))), .val (.int (if fc = (0 : Int32) then (if (0 : Int32) < (lcmpW (s3 - l2) (100 : Int64)) then (0 : Int32) else (1 : Int32)) else (1 : Int32))), .val (.int (0 : Int32)), .val (.long s3), .second] [(.long s3)]))
    refine own_fwd (fun tt kt => XS.lload X118.here hx rfl (hb hby at_333) rfl kt) ?_
    show own_R p.tables e below P (T118.setTop (mkF m 335 #[.val (.int p0), .val (.int p1), .val (.int p2), .val (.int p3), .val (.int va), .val (.int vb), .val (.int vc), .val (.int fa), .val (.int fb), .val (.int fc), .val (.ref b109), .val (.int z1), .val (.long s1), .second, .val (.int z2), .val (.long s2), .second, .val (.int z3), .val (.long s3), .second, .val (.int z4), .val (.long s4), .second, .val (.long s1), .second, .val (.long s2), .second, .val (.long s3), .second, .val (.long l1), .second, .val (.long l2), .second, .val (.long l3), .second, .val (.int (if fa = (0 : Int32) then (if (0 : Int32) < (lcmpW s1 (100 : Int64)) then (0 : Int32) else (1 : Int32)) else (1 : Int32))), .val (.int (if fb = (0 : Int32) then (if (0 : Int32) < (lcmpW (s2 - l1) (100 : Int64)) then (0 : Int32) else (1 : Int32)) else (1 : Int32))), .val (.int (if fc = (0 : Int32) then (if (0 : Int32) < (lcmpW (s3 - l2) (100 : Int64)) then (0 : Int32) else (1 : Int32)) else (1 : Int32))), .val (.int (0 : Int32)), .val (.long s3), .second] [(.long s3), (.long s3)]))
    refine own_fwd (fun tt kt => XS.lcmp X118.here hx rfl (hb hby at_335) rfl kt) ?_
    show own_R p.tables e below P (T118.setTop (mkF m 336 #[.val (.int p0), .val (.int p1), .val (.int p2), .val (.int p3), .val (.int va), .val (.int vb), .val (.int vc), .val (.int fa), .val (.int fb), .val (.int fc), .val (.ref b109), .val (.int z1), .val (.long s1), .second, .val (.int z2), .val (.long s2), .second, .val (.int z3), .val (.long s3), .second, .val (.int z4), .val (.long s4), .second, .val (.long s1), .second, .val (.long s2), .second, .val (.long s3), .second, .val (.long l1), .second, .val (.long l2), .second, .val (.long l3), .second, .val (.int (if fa = (0 : Int32) then (if (0 : Int32) < (lcmpW s1 (100 : Int64)) then (0 : Int32) else (1 : Int32)) else (1 : Int32))), .val (.int (if fb = (0 : Int32) then (if (0 : Int32) < (lcmpW (s2 - l1) (100 : Int64)) then (0 : Int32) else (1 : Int32)) else (1 : Int32))), .val (.int (if fc = (0 : Int32) then (if (0 : Int32) < (lcmpW (s3 - l2) (100 : Int64)) then (0 : Int32) else (1 : Int32)) else (1 : Int32))), .val (.int (0 : Int32)), .val (.long s3), .second] [(.int (lcmpW s3 s3))]))
    have hc150 : (lcmpW s3 s3) = (0 : Int32) := (lw_eq _ _).mpr rfl
    refine own_fwd (fun tt kt => XS.ifNo X118.here hx rfl (hb hby at_336) rfl ((if0 _ _).trans (teq hc150).2) kt) ?_
    show own_R p.tables e below P (T118.setTop (mkF m 339 #[.val (.int p0), .val (.int p1), .val (.int p2), .val (.int p3), .val (.int va), .val (.int vb), .val (.int vc), .val (.int fa), .val (.int fb), .val (.int fc), .val (.ref b109), .val (.int z1), .val (.long s1), .second, .val (.int z2), .val (.long s2), .second, .val (.int z3), .val (.long s3), .second, .val (.int z4), .val (.long s4), .second, .val (.long s1), .second, .val (.long s2), .second, .val (.long s3), .second, .val (.long l1), .second, .val (.long l2), .second, .val (.long l3), .second, .val (.int (if fa = (0 : Int32) then (if (0 : Int32) < (lcmpW s1 (100 : Int64)) then (0 : Int32) else (1 : Int32)) else (1 : Int32))), .val (.int (if fb = (0 : Int32) then (if (0 : Int32) < (lcmpW (s2 - l1) (100 : Int64)) then (0 : Int32) else (1 : Int32)) else (1 : Int32))), .val (.int (if fc = (0 : Int32) then (if (0 : Int32) < (lcmpW (s3 - l2) (100 : Int64)) then (0 : Int32) else (1 : Int32)) else (1 : Int32))), .val (.int (0 : Int32)), .val (.long s3), .second] []))
    refine own_fwd (fun tt kt => XS.iload X118.here hx rfl (hb hby at_339) rfl kt) ?_
    show own_R p.tables e below P (T118.setTop (mkF m 341 #[.val (.int p0), .val (.int p1), .val (.int p2), .val (.int p3), .val (.int va), .val (.int vb), .val (.int vc), .val (.int fa), .val (.int fb), .val (.int fc), .val (.ref b109), .val (.int z1), .val (.long s1), .second, .val (.int z2), .val (.long s2), .second, .val (.int z3), .val (.long s3), .second, .val (.int z4), .val (.long s4), .second, .val (.long s1), .second, .val (.long s2), .second, .val (.long s3), .second, .val (.long l1), .second, .val (.long l2), .second, .val (.long l3), .second, .val (.int (if fa = (0 : Int32) then (if (0 : Int32) < (lcmpW s1 (100 : Int64)) then (0 : Int32) else (1 : Int32)) else (1 : Int32))), .val (.int (if fb = (0 : Int32) then (if (0 : Int32) < (lcmpW (s2 - l1) (100 : Int64)) then (0 : Int32) else (1 : Int32)) else (1 : Int32))), .val (.int (if fc = (0 : Int32) then (if (0 : Int32) < (lcmpW (s3 - l2) (100 : Int64)) then (0 : Int32) else (1 : Int32)) else (1 : Int32))), .val (.int (0 : Int32)), .val (.long s3), .second] [(.int z3)]))
    refine own_fwd (fun tt kt => XS.iload X118.here hx rfl (hb hby at_341) rfl kt) ?_
    show own_R p.tables e below P (T118.setTop (mkF m 343 #[.val (.int p0), .val (.int p1), .val (.int p2), .val (.int p3), .val (.int va), .val (.int vb), .val (.int vc), .val (.int fa), .val (.int fb), .val (.int fc), .val (.ref b109), .val (.int z1), .val (.long s1), .second, .val (.int z2), .val (.long s2), .second, .val (.int z3), .val (.long s3), .second, .val (.int z4), .val (.long s4), .second, .val (.long s1), .second, .val (.long s2), .second, .val (.long s3), .second, .val (.long l1), .second, .val (.long l2), .second, .val (.long l3), .second, .val (.int (if fa = (0 : Int32) then (if (0 : Int32) < (lcmpW s1 (100 : Int64)) then (0 : Int32) else (1 : Int32)) else (1 : Int32))), .val (.int (if fb = (0 : Int32) then (if (0 : Int32) < (lcmpW (s2 - l1) (100 : Int64)) then (0 : Int32) else (1 : Int32)) else (1 : Int32))), .val (.int (if fc = (0 : Int32) then (if (0 : Int32) < (lcmpW (s3 - l2) (100 : Int64)) then (0 : Int32) else (1 : Int32)) else (1 : Int32))), .val (.int (0 : Int32)), .val (.long s3), .second] [(.int (if fc = (0 : Int32) then (if (0 : Int32) < (lcmpW (s3 - l2) (100 : Int64)) then (0 : Int32) else (1 : Int32)) else (1 : Int32))), (.int z3)]))
    have hc151 : z3 = (if fc = (0 : Int32) then (if (0 : Int32) < (lcmpW (s3 - l2) (100 : Int64)) then (0 : Int32) else (1 : Int32)) else (1 : Int32)) := own_stepZ M3 (own_sub _ _ (by omega) (by omega) (by omega) (by omega))
    refine own_fwd (fun tt kt => XS.icmpNo X118.here hx rfl (hb hby at_343) rfl (teq hc151).2 kt) ?_
    show own_R p.tables e below P (T118.setTop (mkF m 346 #[.val (.int p0), .val (.int p1), .val (.int p2), .val (.int p3), .val (.int va), .val (.int vb), .val (.int vc), .val (.int fa), .val (.int fb), .val (.int fc), .val (.ref b109), .val (.int z1), .val (.long s1), .second, .val (.int z2), .val (.long s2), .second, .val (.int z3), .val (.long s3), .second, .val (.int z4), .val (.long s4), .second, .val (.long s1), .second, .val (.long s2), .second, .val (.long s3), .second, .val (.long l1), .second, .val (.long l2), .second, .val (.long l3), .second, .val (.int (if fa = (0 : Int32) then (if (0 : Int32) < (lcmpW s1 (100 : Int64)) then (0 : Int32) else (1 : Int32)) else (1 : Int32))), .val (.int (if fb = (0 : Int32) then (if (0 : Int32) < (lcmpW (s2 - l1) (100 : Int64)) then (0 : Int32) else (1 : Int32)) else (1 : Int32))), .val (.int (if fc = (0 : Int32) then (if (0 : Int32) < (lcmpW (s3 - l2) (100 : Int64)) then (0 : Int32) else (1 : Int32)) else (1 : Int32))), .val (.int (0 : Int32)), .val (.long s3), .second] []))
    refine own_fwd (fun tt kt => XS.iload X118.here hx rfl (hb hby at_346) rfl kt) ?_
    show own_R p.tables e below P (T118.setTop (mkF m 348 #[.val (.int p0), .val (.int p1), .val (.int p2), .val (.int p3), .val (.int va), .val (.int vb), .val (.int vc), .val (.int fa), .val (.int fb), .val (.int fc), .val (.ref b109), .val (.int z1), .val (.long s1), .second, .val (.int z2), .val (.long s2), .second, .val (.int z3), .val (.long s3), .second, .val (.int z4), .val (.long s4), .second, .val (.long s1), .second, .val (.long s2), .second, .val (.long s3), .second, .val (.long l1), .second, .val (.long l2), .second, .val (.long l3), .second, .val (.int (if fa = (0 : Int32) then (if (0 : Int32) < (lcmpW s1 (100 : Int64)) then (0 : Int32) else (1 : Int32)) else (1 : Int32))), .val (.int (if fb = (0 : Int32) then (if (0 : Int32) < (lcmpW (s2 - l1) (100 : Int64)) then (0 : Int32) else (1 : Int32)) else (1 : Int32))), .val (.int (if fc = (0 : Int32) then (if (0 : Int32) < (lcmpW (s3 - l2) (100 : Int64)) then (0 : Int32) else (1 : Int32)) else (1 : Int32))), .val (.int (0 : Int32)), .val (.long s3), .second] [(.int z4)]))
    refine own_fwd (fun tt kt => XS.iload X118.here hx rfl (hb hby at_348) rfl kt) ?_
    show own_R p.tables e below P (T118.setTop (mkF m 350 #[.val (.int p0), .val (.int p1), .val (.int p2), .val (.int p3), .val (.int va), .val (.int vb), .val (.int vc), .val (.int fa), .val (.int fb), .val (.int fc), .val (.ref b109), .val (.int z1), .val (.long s1), .second, .val (.int z2), .val (.long s2), .second, .val (.int z3), .val (.long s3), .second, .val (.int z4), .val (.long s4), .second, .val (.long s1), .second, .val (.long s2), .second, .val (.long s3), .second, .val (.long l1), .second, .val (.long l2), .second, .val (.long l3), .second, .val (.int (if fa = (0 : Int32) then (if (0 : Int32) < (lcmpW s1 (100 : Int64)) then (0 : Int32) else (1 : Int32)) else (1 : Int32))), .val (.int (if fb = (0 : Int32) then (if (0 : Int32) < (lcmpW (s2 - l1) (100 : Int64)) then (0 : Int32) else (1 : Int32)) else (1 : Int32))), .val (.int (if fc = (0 : Int32) then (if (0 : Int32) < (lcmpW (s3 - l2) (100 : Int64)) then (0 : Int32) else (1 : Int32)) else (1 : Int32))), .val (.int (0 : Int32)), .val (.long s3), .second] [(.int (0 : Int32)), (.int z4)]))
    have hc152 : z4 = (0 : Int32) := (LK.2 hc134).1
    refine own_fwd (fun tt kt => XS.icmpNo X118.here hx rfl (hb hby at_350) rfl (teq hc152).2 kt) ?_
    show own_R p.tables e below P (T118.setTop (mkF m 353 #[.val (.int p0), .val (.int p1), .val (.int p2), .val (.int p3), .val (.int va), .val (.int vb), .val (.int vc), .val (.int fa), .val (.int fb), .val (.int fc), .val (.ref b109), .val (.int z1), .val (.long s1), .second, .val (.int z2), .val (.long s2), .second, .val (.int z3), .val (.long s3), .second, .val (.int z4), .val (.long s4), .second, .val (.long s1), .second, .val (.long s2), .second, .val (.long s3), .second, .val (.long l1), .second, .val (.long l2), .second, .val (.long l3), .second, .val (.int (if fa = (0 : Int32) then (if (0 : Int32) < (lcmpW s1 (100 : Int64)) then (0 : Int32) else (1 : Int32)) else (1 : Int32))), .val (.int (if fb = (0 : Int32) then (if (0 : Int32) < (lcmpW (s2 - l1) (100 : Int64)) then (0 : Int32) else (1 : Int32)) else (1 : Int32))), .val (.int (if fc = (0 : Int32) then (if (0 : Int32) < (lcmpW (s3 - l2) (100 : Int64)) then (0 : Int32) else (1 : Int32)) else (1 : Int32))), .val (.int (0 : Int32)), .val (.long s3), .second] []))
    refine own_fwd (fun tt kt => XS.lload X118.here hx rfl (hb hby at_353) rfl kt) ?_
    show own_R p.tables e below P (T118.setTop (mkF m 355 #[.val (.int p0), .val (.int p1), .val (.int p2), .val (.int p3), .val (.int va), .val (.int vb), .val (.int vc), .val (.int fa), .val (.int fb), .val (.int fc), .val (.ref b109), .val (.int z1), .val (.long s1), .second, .val (.int z2), .val (.long s2), .second, .val (.int z3), .val (.long s3), .second, .val (.int z4), .val (.long s4), .second, .val (.long s1), .second, .val (.long s2), .second, .val (.long s3), .second, .val (.long l1), .second, .val (.long l2), .second, .val (.long l3), .second, .val (.int (if fa = (0 : Int32) then (if (0 : Int32) < (lcmpW s1 (100 : Int64)) then (0 : Int32) else (1 : Int32)) else (1 : Int32))), .val (.int (if fb = (0 : Int32) then (if (0 : Int32) < (lcmpW (s2 - l1) (100 : Int64)) then (0 : Int32) else (1 : Int32)) else (1 : Int32))), .val (.int (if fc = (0 : Int32) then (if (0 : Int32) < (lcmpW (s3 - l2) (100 : Int64)) then (0 : Int32) else (1 : Int32)) else (1 : Int32))), .val (.int (0 : Int32)), .val (.long s3), .second] [(.long s4)]))
    refine own_fwd (fun tt kt => XS.lload X118.here hx rfl (hb hby at_355) rfl kt) ?_
    show own_R p.tables e below P (T118.setTop (mkF m 357 #[.val (.int p0), .val (.int p1), .val (.int p2), .val (.int p3), .val (.int va), .val (.int vb), .val (.int vc), .val (.int fa), .val (.int fb), .val (.int fc), .val (.ref b109), .val (.int z1), .val (.long s1), .second, .val (.int z2), .val (.long s2), .second, .val (.int z3), .val (.long s3), .second, .val (.int z4), .val (.long s4), .second, .val (.long s1), .second, .val (.long s2), .second, .val (.long s3), .second, .val (.long l1), .second, .val (.long l2), .second, .val (.long l3), .second, .val (.int (if fa = (0 : Int32) then (if (0 : Int32) < (lcmpW s1 (100 : Int64)) then (0 : Int32) else (1 : Int32)) else (1 : Int32))), .val (.int (if fb = (0 : Int32) then (if (0 : Int32) < (lcmpW (s2 - l1) (100 : Int64)) then (0 : Int32) else (1 : Int32)) else (1 : Int32))), .val (.int (if fc = (0 : Int32) then (if (0 : Int32) < (lcmpW (s3 - l2) (100 : Int64)) then (0 : Int32) else (1 : Int32)) else (1 : Int32))), .val (.int (0 : Int32)), .val (.long s3), .second] [(.long s3), (.long s4)]))
    refine own_fwd (fun tt kt => XS.lcmp X118.here hx rfl (hb hby at_357) rfl kt) ?_
    show own_R p.tables e below P (T118.setTop (mkF m 358 #[.val (.int p0), .val (.int p1), .val (.int p2), .val (.int p3), .val (.int va), .val (.int vb), .val (.int vc), .val (.int fa), .val (.int fb), .val (.int fc), .val (.ref b109), .val (.int z1), .val (.long s1), .second, .val (.int z2), .val (.long s2), .second, .val (.int z3), .val (.long s3), .second, .val (.int z4), .val (.long s4), .second, .val (.long s1), .second, .val (.long s2), .second, .val (.long s3), .second, .val (.long l1), .second, .val (.long l2), .second, .val (.long l3), .second, .val (.int (if fa = (0 : Int32) then (if (0 : Int32) < (lcmpW s1 (100 : Int64)) then (0 : Int32) else (1 : Int32)) else (1 : Int32))), .val (.int (if fb = (0 : Int32) then (if (0 : Int32) < (lcmpW (s2 - l1) (100 : Int64)) then (0 : Int32) else (1 : Int32)) else (1 : Int32))), .val (.int (if fc = (0 : Int32) then (if (0 : Int32) < (lcmpW (s3 - l2) (100 : Int64)) then (0 : Int32) else (1 : Int32)) else (1 : Int32))), .val (.int (0 : Int32)), .val (.long s3), .second] [(.int (lcmpW s4 s3))]))
    have hc153 : (lcmpW s4 s3) = (0 : Int32) := (lw_eq _ _).mpr (LK.2 hc134).2
    refine own_fwd (fun tt kt => XS.ifNo X118.here hx rfl (hb hby at_358) rfl ((if0 _ _).trans (teq hc153).2) kt) ?_
    show own_R p.tables e below P (T118.setTop (mkF m 361 #[.val (.int p0), .val (.int p1), .val (.int p2), .val (.int p3), .val (.int va), .val (.int vb), .val (.int vc), .val (.int fa), .val (.int fb), .val (.int fc), .val (.ref b109), .val (.int z1), .val (.long s1), .second, .val (.int z2), .val (.long s2), .second, .val (.int z3), .val (.long s3), .second, .val (.int z4), .val (.long s4), .second, .val (.long s1), .second, .val (.long s2), .second, .val (.long s3), .second, .val (.long l1), .second, .val (.long l2), .second, .val (.long l3), .second, .val (.int (if fa = (0 : Int32) then (if (0 : Int32) < (lcmpW s1 (100 : Int64)) then (0 : Int32) else (1 : Int32)) else (1 : Int32))), .val (.int (if fb = (0 : Int32) then (if (0 : Int32) < (lcmpW (s2 - l1) (100 : Int64)) then (0 : Int32) else (1 : Int32)) else (1 : Int32))), .val (.int (if fc = (0 : Int32) then (if (0 : Int32) < (lcmpW (s3 - l2) (100 : Int64)) then (0 : Int32) else (1 : Int32)) else (1 : Int32))), .val (.int (0 : Int32)), .val (.long s3), .second] []))
    refine own_fwd (fun tt kt => XS.iconst X118.here hx rfl (hb hby at_361) kt) ?_
    show own_R p.tables e below P (T118.setTop (mkF m 362 #[.val (.int p0), .val (.int p1), .val (.int p2), .val (.int p3), .val (.int va), .val (.int vb), .val (.int vc), .val (.int fa), .val (.int fb), .val (.int fc), .val (.ref b109), .val (.int z1), .val (.long s1), .second, .val (.int z2), .val (.long s2), .second, .val (.int z3), .val (.long s3), .second, .val (.int z4), .val (.long s4), .second, .val (.long s1), .second, .val (.long s2), .second, .val (.long s3), .second, .val (.long l1), .second, .val (.long l2), .second, .val (.long l3), .second, .val (.int (if fa = (0 : Int32) then (if (0 : Int32) < (lcmpW s1 (100 : Int64)) then (0 : Int32) else (1 : Int32)) else (1 : Int32))), .val (.int (if fb = (0 : Int32) then (if (0 : Int32) < (lcmpW (s2 - l1) (100 : Int64)) then (0 : Int32) else (1 : Int32)) else (1 : Int32))), .val (.int (if fc = (0 : Int32) then (if (0 : Int32) < (lcmpW (s3 - l2) (100 : Int64)) then (0 : Int32) else (1 : Int32)) else (1 : Int32))), .val (.int (0 : Int32)), .val (.long s3), .second] [(.int (1 : Int32))]))
    refine own_fwd (fun tt kt => XS.goto X118.here hx rfl (pc0 := 362) (pc' := 366) rfl (hb hby at_362) (by decide) (by decide) kt) ?_
    show own_R p.tables e below P (T118.setTop (mkF m 366 #[.val (.int p0), .val (.int p1), .val (.int p2), .val (.int p3), .val (.int va), .val (.int vb), .val (.int vc), .val (.int fa), .val (.int fb), .val (.int fc), .val (.ref b109), .val (.int z1), .val (.long s1), .second, .val (.int z2), .val (.long s2), .second, .val (.int z3), .val (.long s3), .second, .val (.int z4), .val (.long s4), .second, .val (.long s1), .second, .val (.long s2), .second, .val (.long s3), .second, .val (.long l1), .second, .val (.long l2), .second, .val (.long l3), .second, .val (.int (if fa = (0 : Int32) then (if (0 : Int32) < (lcmpW s1 (100 : Int64)) then (0 : Int32) else (1 : Int32)) else (1 : Int32))), .val (.int (if fb = (0 : Int32) then (if (0 : Int32) < (lcmpW (s2 - l1) (100 : Int64)) then (0 : Int32) else (1 : Int32)) else (1 : Int32))), .val (.int (if fc = (0 : Int32) then (if (0 : Int32) < (lcmpW (s3 - l2) (100 : Int64)) then (0 : Int32) else (1 : Int32)) else (1 : Int32))), .val (.int (0 : Int32)), .val (.long s3), .second] [(.int (1 : Int32))]))
    obtain ⟨fs154, hr154, hrun154, hended154, hW154, hsame154⟩ := X118.leave (v := some (.int (1 : Int32))) (fun h => by rw [Bd.returns] at h; cases h)
    refine ⟨_, _, X118.ireturnOut hx (w := (1 : Int32)) Bd.returns rfl (by simp) (hb hby at_366) hr154, fin _ _ ⟨hrun154, hended154, _, _, rfl, ?_, ⟨_, rfl⟩, hW154, hsame154.mono (by decide) (by decide)⟩⟩
    show own_Qlaw Z p0 p1 p2 p3 h0 n0 _ T118.heap _
    rw [e118]
    exact ⟨rfl, N118⟩
set_option maxRecDepth 65536 in
set_option maxHeartbeats 40000000 in
theorem own_comes {Post : Tables → Env → Array Value → State → Outcome → State → Prop} (hpost : ∀ tb e args s v u, (limb_1_1.after args s (.returned v) u = true ∧ limb_1_2.after args s (.returned v) u = true ∧ True) → FrameEnd s (.returned v) u (Jvm.fieldLocs frame_1_writes args s ++ Jvm.arrayLocs frame_1_arrays args s ++ Jvm.staticLocs frame_1_statics s) 24 192 → Post tb e args s (.returned v) u) :
    ArmFor flags0 classFile x code maxLocals ret World_1 tables_1 room_1 Calls_1 rest_1 Pre_1 Post := by
  intro l hfl _ _ p e ha hc hk s m args below hf hA hF happ hP
  obtain ⟨hcalls, hrest, hpre⟩ := hP
  obtain ⟨-, -, -, hnamed, -, -, -, hat⟩ := (Spec.applies_iff hf).mp happ
  obtain ⟨hg, hn⟩ := and_e (Cond.before_iff.mp (show (Jvm.Cond.and given_1 narrow_1).before args s = true from hpre))
  obtain ⟨g1, g2⟩ := and_e hg
  obtain ⟨g3, g4⟩ := and_e g2
  obtain ⟨g5, g6⟩ := and_e g4
  obtain ⟨g7, g8⟩ := and_e g6
  obtain ⟨w0, w1, w2, w3, rfl⟩ : ∃ w0 w1 w2 w3 : Value, args = #[w0, w1, w2, w3] := by
    have hs : args.size = 4 := by simpa [Cond.value, given_1] using g1
    obtain ⟨L⟩ := args
    match L, hs with
    | [w0, w1, w2, w3], _ => exact ⟨w0, w1, w2, w3, rfl⟩
  have hw := fun d (hd : d ∈ tables_1) => atoms_spec (ws := Jvm.Cond.code x code maxLocals ret :: tables_1) hat d (List.mem_cons_of_mem _ hd)
  obtain ⟨i0, ei0⟩ := is_v g3
  obtain rfl : w0 = (.int i0) := Option.some.inj ei0
  obtain ⟨i1, ei1⟩ := is_v g5
  obtain rfl : w1 = (.int i1) := Option.some.inj ei1
  obtain ⟨i2, ei2⟩ := is_v g7
  obtain rfl : w2 = (.int i2) := Option.some.inj ei2
  obtain ⟨i3, ei3⟩ := is_v g8
  obtain rfl : w3 = (.int i3) := Option.some.inj ei3
  obtain ⟨n, o, h1, h2, h3, _, L, rfl, ⟨rfl, N⟩, hq⟩ := own_rmlaw l s _ hw tables_1 i0 i1 i2 i3 s.heap s.heap.size (Nat.le_refl _) p e ha hc hk s m _ below hf ((Spec.applies_iff_loose hf).mp happ).1 ⟨rfl, State.Warmed39.refl s, rfl⟩ trivial
  refine ⟨n, _, h1, h2, h3, hpost _ _ _ _ _ _ ⟨Cond.after_iff.mpr rfl, Cond.after_iff.mpr (eq_i res_at (Term.int_eval (1)) rfl), trivial⟩ ⟨hq.1, hq.2.1, (hq.2.2.sift fun y hy => Or.inr (N y hy)).mono (by decide) (by decide)⟩⟩
theorem main_1_1 : Claimed_1_1 := own_comes fun _ _ _ _ _ _ h hF => ⟨h.1, hF⟩
theorem main_1_2 : Claimed_1_2 := own_comes fun _ _ _ _ _ _ h hF => ⟨h.2.1, hF⟩
end Jvm.Pilot.@@N@@
namespace Jvm.Pilot.@@N@@
open Jvm Jvm.ClassFile Sem Op Lib Jvm.Free Jvm.Stand Jvm.Pilot.@@N@@.Jvm.D
/-! MADE BY PROGRAM (witnessworld.py) out of the Statement's table words and the real class files: 30 classes; the members and pool entries that the words name. The judged class is class 1, her method 1. -/
namespace start1
open Jvm.ClassFile
def u (s : String) : CpInfo := .utf8 (stringToUtf16 s)
/-- a pool by its gaps: so many unusable entries, then the entry; so many at the end -/
def gap : Nat → List CpInfo → List CpInfo
  | 0, r => r
  | n + 1, r => .unusable :: gap n r
def poolList (es : List (Nat × CpInfo)) (last : Nat) : List CpInfo := es.foldr (fun e r => gap e.1 (e.2 :: r)) (gap last [])
def pool (es : List (Nat × CpInfo)) (last : Nat) : Array CpInfo := ⟨poolList es last⟩
def fileOf (pool : Array CpInfo) (this : Nat) (attrs : Array Attribute := #[]) (ms : Array MethodInfo := #[]) (fl : Nat := 33) (sup : Nat := 0) (ifs : Array Nat := #[]) (fds : Array FieldInfo := #[]) : ClassFile where
  minorVersion := 0
  majorVersion := 65
  constantPool := pool
  accessFlags := fl
  thisClass := this
  superClass := sup
  interfaces := ifs
  fields := fds
  methods := ms
  attributes := attrs
def plain (name : String) (sup : Option ClassId) : Class where
  name := name
  kind := .ordinary
  loader := none
  accessFlags := 33
  super := sup
  interfaces := #[]
  cf := none
  fields := #[]
  methods := #[]
  instanceTypes := #[]
  staticTypes := #[]
  resolved := #[]
  callSites := []
  init := .initialized
  statics := none
  mirror := none

def pool0 : Array CpInfo := pool [(5, u "<init>"), (0, u "()V"), (1, .class_ 10), (1, u "java/lang/Object")] 113

def k0c0 : Code := { maxStack := 0, maxLocals := 1, code := object_method_1_code, exceptionTable := #[], attributes := #[] }
def k0m0 : Method := { name := "<init>", desc := "()V", sig := { parameters := [], returnType := none }, accessFlags := 1, code := some k0c0 }
/-- java/lang/Object -/
def k0 : Class := { plain "java/lang/Object" none with
  accessFlags := 33
  interfaces := #[]
  cf := some (fileOf pool0 8 #[] #[{ accessFlags := 1, nameIndex := 5, descriptorIndex := 6, attributes := #[] }] 33 0 #[] #[])
  fields := #[]
  methods := #[k0m0]
  instanceTypes := #[]
  staticTypes := #[]
  resolved := Array.replicate 124 none
  statics := none }

def pool1 : Array CpInfo := pool [(2, .class_ 4), (0, .nameAndType 5 6), (0, u "java/lang/Object"), (0, u "<init>"), (0, u "()V"), (0, .integer 2147483647), (0, .class_ 9), (0, u "com/example/erpctl/erpctl/connectors/yallav/ListPlace"), (0, .methodref 8 3), (0, .methodref 8 12), (0, .nameAndType 13 14), (0, u "moveOn"), (0, u "(IZ)Z"), (0, .methodref 8 16), (0, .nameAndType 17 18), (0, u "skip"), (0, u "()J"), (0, .methodref 8 20), (0, .nameAndType 21 22), (0, u "lookFurtherBack"), (0, u "()Z"), (0, .long 100), (1, .class_ 26), (0, u "com/example/erpctl/erpctl/connectors/yallav/ListPlaceMoveOnPinLaw"), (2, u "law"), (0, u "(IIII)Z")] 3

def k1m0 : Method := { name := "<init>", desc := "()V", sig := { parameters := [], returnType := none }, accessFlags := 1, code := none }
def k1c1 : Code := { maxStack := 6, maxLocals := 41, code := code, exceptionTable := #[], attributes := #[] }
def k1m1 : Method := { name := "law", desc := "(IIII)Z", sig := { parameters := [.int, .int, .int, .int], returnType := some .boolean }, accessFlags := 9, code := some k1c1 }
/-- com/example/erpctl/erpctl/connectors/yallav/ListPlaceMoveOnPinLaw -/
def k1 : Class := { plain "com/example/erpctl/erpctl/connectors/yallav/ListPlaceMoveOnPinLaw" (some 0) with
  accessFlags := 49
  interfaces := #[]
  cf := some (fileOf pool1 25 #[] #[{ accessFlags := 1, nameIndex := 5, descriptorIndex := 6, attributes := #[] }, { accessFlags := 9, nameIndex := 29, descriptorIndex := 30, attributes := #[] }] 49 2 #[] #[])
  fields := #[]
  methods := #[k1m0, k1m1]
  instanceTypes := #[]
  staticTypes := #[]
  resolved := Array.replicate 34 none
  statics := none }

def pool2 : Array CpInfo := pool [(1, .class_ 2), (0, u "com/example/erpctl/erpctl/connectors/yallav/ListPlace"), (0, .methodref 4 5), (0, .class_ 6), (0, .nameAndType 7 8), (0, u "java/lang/Object"), (0, u "<init>"), (0, u "()V"), (0, .class_ 10), (0, u "java/util/LinkedHashSet"), (0, .methodref 9 5), (0, .fieldref 1 13), (0, .nameAndType 14 15), (0, u "recent"), (0, u "Ljava/util/Set;"), (0, .fieldref 1 17), (0, .nameAndType 18 15), (0, u "shown"), (0, .class_ 20), (0, u "java/util/HashSet"), (0, .methodref 19 5), (0, .fieldref 1 23), (0, .nameAndType 24 15), (0, u "before"), (0, .fieldref 1 26), (0, .nameAndType 27 28), (0, u "span"), (0, u "I"), (0, .fieldref 1 30), (0, .nameAndType 31 32), (0, u "skip"), (0, u "J"), (7, .class_ 42), (1, u "java/lang/Math"), (0, u "max"), (15, u "handed"), (15, u "()Z"), (18, .fieldref 1 95), (0, .nameAndType 96 32), (0, u "reached"), (0, .fieldref 1 98), (0, .nameAndType 99 32), (0, u "lowest"), (0, .long 100), (1, .methodref 40 103), (0, .nameAndType 43 104), (0, u "(JJ)J"), (0, u "MOVED_MOST"), (2, u "RECENT"), (5, u "()J"), (8, u "moveOn"), (0, u "(IZ)Z"), (0, u "lookFurtherBack")] 2

def k2c0 : Code := { maxStack := 3, maxLocals := 1, code := prog_3_method_1_code, exceptionTable := #[], attributes := #[] }
def k2m0 : Method := { name := "<init>", desc := "()V", sig := { parameters := [], returnType := none }, accessFlags := 0, code := some k2c0 }
def k2c1 : Code := { maxStack := 2, maxLocals := 1, code := prog_3_method_2_code, exceptionTable := #[], attributes := #[] }
def k2m1 : Method := { name := "skip", desc := "()J", sig := { parameters := [], returnType := some .long }, accessFlags := 0, code := some k2c1 }
def k2c2 : Code := { maxStack := 6, maxLocals := 3, code := prog_3_method_6_code, exceptionTable := #[], attributes := #[] }
def k2m2 : Method := { name := "moveOn", desc := "(IZ)Z", sig := { parameters := [.int, .boolean], returnType := some .boolean }, accessFlags := 0, code := some k2c2 }
def k2c3 : Code := { maxStack := 8, maxLocals := 2, code := prog_3_method_7_code, exceptionTable := #[], attributes := #[] }
def k2m3 : Method := { name := "lookFurtherBack", desc := "()Z", sig := { parameters := [], returnType := some .boolean }, accessFlags := 0, code := some k2c3 }
/-- com/example/erpctl/erpctl/connectors/yallav/ListPlace -/
def k2 : Class := { plain "com/example/erpctl/erpctl/connectors/yallav/ListPlace" (some 0) with
  accessFlags := 48
  interfaces := #[]
  cf := some (fileOf pool2 1 #[] #[{ accessFlags := 0, nameIndex := 7, descriptorIndex := 8, attributes := #[] }, { accessFlags := 0, nameIndex := 31, descriptorIndex := 114, attributes := #[] }, { accessFlags := 0, nameIndex := 123, descriptorIndex := 124, attributes := #[] }, { accessFlags := 0, nameIndex := 125, descriptorIndex := 75, attributes := #[] }] 48 4 #[] #[{ accessFlags := 24, nameIndex := 105, descriptorIndex := 28, attributes := #[] }, { accessFlags := 26, nameIndex := 108, descriptorIndex := 28, attributes := #[] }, { accessFlags := 18, nameIndex := 14, descriptorIndex := 15, attributes := #[] }, { accessFlags := 18, nameIndex := 18, descriptorIndex := 15, attributes := #[] }, { accessFlags := 18, nameIndex := 24, descriptorIndex := 15, attributes := #[] }, { accessFlags := 2, nameIndex := 59, descriptorIndex := 32, attributes := #[] }, { accessFlags := 2, nameIndex := 31, descriptorIndex := 32, attributes := #[] }, { accessFlags := 2, nameIndex := 96, descriptorIndex := 32, attributes := #[] }, { accessFlags := 2, nameIndex := 99, descriptorIndex := 32, attributes := #[] }, { accessFlags := 2, nameIndex := 27, descriptorIndex := 28, attributes := #[] }])
  fields := #[{ name := "MOVED_MOST", type := .int, accessFlags := 24, slot := 0, constantValue := 0 }, { name := "RECENT", type := .int, accessFlags := 26, slot := 1, constantValue := 0 }, { name := "recent", type := (.object "java/util/Set"), accessFlags := 18, slot := 0, constantValue := 0 }, { name := "shown", type := (.object "java/util/Set"), accessFlags := 18, slot := 1, constantValue := 0 }, { name := "before", type := (.object "java/util/Set"), accessFlags := 18, slot := 2, constantValue := 0 }, { name := "handed", type := .long, accessFlags := 2, slot := 3, constantValue := 0 }, { name := "skip", type := .long, accessFlags := 2, slot := 4, constantValue := 0 }, { name := "reached", type := .long, accessFlags := 2, slot := 5, constantValue := 0 }, { name := "lowest", type := .long, accessFlags := 2, slot := 6, constantValue := 0 }, { name := "span", type := .int, accessFlags := 2, slot := 7, constantValue := 0 }]
  methods := #[k2m0, k2m1, k2m2, k2m3]
  instanceTypes := #[(.object "java/util/Set"), (.object "java/util/Set"), (.object "java/util/Set"), .long, .long, .long, .long, .int]
  staticTypes := #[.int, .int]
  resolved := Array.replicate 128 none
  statics := none }

def pool3 : Array CpInfo := pool [(8, .class_ 10), (1, u "java/lang/Iterable"), (24, .class_ 36), (0, u "java/lang/Object")] 25

/-- java/lang/Iterable -/
def k3 : Class := { plain "java/lang/Iterable" (some 0) with
  accessFlags := 1537
  interfaces := #[]
  cf := some (fileOf pool3 8 #[] #[] 1537 35 #[] #[])
  fields := #[]
  methods := #[]
  instanceTypes := #[]
  staticTypes := #[]
  resolved := Array.replicate 62 none
  statics := none }

def pool4 : Array CpInfo := pool [(10, .class_ 12), (1, u "java/util/Collection"), (47, .class_ 61), (0, u "java/lang/Object"), (0, .class_ 63), (0, u "java/lang/Iterable")] 51

/-- java/util/Collection -/
def k4 : Class := { plain "java/util/Collection" (some 0) with
  accessFlags := 1537
  interfaces := #[3]
  cf := some (fileOf pool4 10 #[] #[] 1537 60 #[62] #[])
  fields := #[]
  methods := #[]
  instanceTypes := #[]
  staticTypes := #[]
  resolved := Array.replicate 115 none
  statics := none }

def pool5 : Array CpInfo := pool [(1, .methodref 2 3), (0, .class_ 4), (0, .nameAndType 5 6), (0, u "java/lang/Object"), (0, u "<init>"), (0, u "()V"), (1, .class_ 10), (1, u "java/util/AbstractCollection"), (66, .class_ 78), (0, u "java/util/Collection")] 81

def k5c0 : Code := { maxStack := 1, maxLocals := 1, code := jdk_22_method_1_code, exceptionTable := #[], attributes := #[] }
def k5m0 : Method := { name := "<init>", desc := "()V", sig := { parameters := [], returnType := none }, accessFlags := 4, code := some k5c0 }
/-- java/util/AbstractCollection -/
def k5 : Class := { plain "java/util/AbstractCollection" (some 0) with
  accessFlags := 1057
  interfaces := #[4]
  cf := some (fileOf pool5 8 #[] #[{ accessFlags := 4, nameIndex := 5, descriptorIndex := 6, attributes := #[] }] 1057 2 #[77] #[])
  fields := #[]
  methods := #[k5m0]
  instanceTypes := #[]
  staticTypes := #[]
  resolved := Array.replicate 160 none
  statics := none }

def pool6 : Array CpInfo := pool [(26, .class_ 27), (0, u "java/lang/Object"), (5, .class_ 34), (0, u "java/util/Set"), (1, .class_ 38), (1, u "java/util/Collection")] 105

/-- java/util/Set -/
def k6 : Class := { plain "java/util/Set" (some 0) with
  accessFlags := 1537
  interfaces := #[4]
  cf := some (fileOf pool6 33 #[] #[] 1537 26 #[36] #[])
  fields := #[]
  methods := #[]
  instanceTypes := #[]
  staticTypes := #[]
  resolved := Array.replicate 144 none
  statics := none }

def pool7 : Array CpInfo := pool [(1, .methodref 2 3), (0, .class_ 4), (0, .nameAndType 5 6), (0, u "java/util/AbstractCollection"), (0, u "<init>"), (0, u "()V"), (0, .class_ 8), (0, u "java/util/Set"), (7, .class_ 17), (0, u "java/util/AbstractSet")] 78

def k7c0 : Code := { maxStack := 1, maxLocals := 1, code := jdk_91_method_1_code, exceptionTable := #[], attributes := #[] }
def k7m0 : Method := { name := "<init>", desc := "()V", sig := { parameters := [], returnType := none }, accessFlags := 4, code := some k7c0 }
/-- java/util/AbstractSet -/
def k7 : Class := { plain "java/util/AbstractSet" (some 5) with
  accessFlags := 1057
  interfaces := #[6]
  cf := some (fileOf pool7 16 #[] #[{ accessFlags := 4, nameIndex := 5, descriptorIndex := 6, attributes := #[] }] 1057 2 #[7] #[])
  fields := #[]
  methods := #[k7m0]
  instanceTypes := #[]
  staticTypes := #[]
  resolved := Array.replicate 96 none
  statics := none }

def pool8 : Array CpInfo := pool [(1, .class_ 2), (0, u "java/lang/Cloneable"), (0, .class_ 4), (0, u "java/lang/Object")] 2

/-- java/lang/Cloneable -/
def k8 : Class := { plain "java/lang/Cloneable" (some 0) with
  accessFlags := 1537
  interfaces := #[]
  cf := some (fileOf pool8 1 #[] #[] 1537 3 #[] #[])
  fields := #[]
  methods := #[]
  instanceTypes := #[]
  staticTypes := #[]
  resolved := Array.replicate 7 none
  statics := none }

def pool9 : Array CpInfo := pool [(1, .class_ 2), (0, u "java/io/Serializable"), (0, .class_ 4), (0, u "java/lang/Object")] 2

/-- java/io/Serializable -/
def k9 : Class := { plain "java/io/Serializable" (some 0) with
  accessFlags := 1537
  interfaces := #[]
  cf := some (fileOf pool9 1 #[] #[] 1537 3 #[] #[])
  fields := #[]
  methods := #[]
  instanceTypes := #[]
  staticTypes := #[]
  resolved := Array.replicate 7 none
  statics := none }

def pool10 : Array CpInfo := pool [(1, .methodref 2 3), (0, .class_ 4), (0, .nameAndType 5 6), (0, u "java/util/AbstractSet"), (0, u "<init>"), (0, u "()V"), (0, .class_ 8), (0, u "java/util/HashMap"), (0, .methodref 7 3), (0, .fieldref 11 12), (0, .class_ 13), (0, .nameAndType 14 15), (0, u "java/util/HashSet"), (0, u "map"), (0, u "Ljava/util/HashMap;"), (21, .nameAndType 5 38), (0, u "(IF)V"), (3, .class_ 43), (0, u "java/util/LinkedHashMap"), (0, .methodref 42 37), (5, .class_ 52), (1, u "java/util/Set"), (13, u "PRESENT"), (0, u "Ljava/lang/Object;"), (158, .class_ 227), (0, u "java/lang/Cloneable"), (0, .class_ 229), (0, u "java/io/Serializable"), (0, u "serialVersionUID"), (0, u "J"), (20, u "(IFZ)V")] 50

def k10c0 : Code := { maxStack := 3, maxLocals := 1, code := jdk_93_method_1_code, exceptionTable := #[], attributes := #[] }
def k10m0 : Method := { name := "<init>", desc := "()V", sig := { parameters := [], returnType := none }, accessFlags := 1, code := some k10c0 }
def k10c1 : Code := { maxStack := 5, maxLocals := 4, code := jdk_93_method_5_code, exceptionTable := #[], attributes := #[] }
def k10m1 : Method := { name := "<init>", desc := "(IFZ)V", sig := { parameters := [.int, .float, .boolean], returnType := none }, accessFlags := 0, code := some k10c1 }
/-- java/util/HashSet -/
def k10 : Class := { plain "java/util/HashSet" (some 7) with
  accessFlags := 33
  interfaces := #[6, 8, 9]
  cf := some (fileOf pool10 11 #[] #[{ accessFlags := 1, nameIndex := 5, descriptorIndex := 6, attributes := #[] }, { accessFlags := 0, nameIndex := 5, descriptorIndex := 252, attributes := #[] }] 33 2 #[50, 226, 228] #[{ accessFlags := 24, nameIndex := 230, descriptorIndex := 231, attributes := #[] }, { accessFlags := 128, nameIndex := 14, descriptorIndex := 15, attributes := #[] }, { accessFlags := 24, nameIndex := 66, descriptorIndex := 67, attributes := #[] }])
  fields := #[{ name := "serialVersionUID", type := .long, accessFlags := 24, slot := 0, constantValue := 0 }, { name := "map", type := (.object "java/util/HashMap"), accessFlags := 128, slot := 0, constantValue := 0 }, { name := "PRESENT", type := (.object "java/lang/Object"), accessFlags := 24, slot := 1, constantValue := 0 }]
  methods := #[k10m0, k10m1]
  instanceTypes := #[(.object "java/util/HashMap")]
  staticTypes := #[.long, (.object "java/lang/Object")]
  resolved := Array.replicate 303 none
  statics := none }

def pool11 : Array CpInfo := pool [(8, .class_ 10), (1, u "java/util/SequencedCollection"), (15, .class_ 27), (0, u "java/lang/Object"), (0, .class_ 29), (0, u "java/util/Collection")] 27

/-- java/util/SequencedCollection -/
def k11 : Class := { plain "java/util/SequencedCollection" (some 0) with
  accessFlags := 1537
  interfaces := #[4]
  cf := some (fileOf pool11 8 #[] #[] 1537 26 #[28] #[])
  fields := #[]
  methods := #[]
  instanceTypes := #[]
  staticTypes := #[]
  resolved := Array.replicate 57 none
  statics := none }

def pool12 : Array CpInfo := pool [(2, .class_ 4), (1, u "java/util/SequencedSet"), (2, .class_ 8), (0, u "java/lang/Object"), (0, .class_ 10), (0, u "java/util/SequencedCollection"), (0, .class_ 12), (0, u "java/util/Set")] 13

/-- java/util/SequencedSet -/
def k12 : Class := { plain "java/util/SequencedSet" (some 0) with
  accessFlags := 1537
  interfaces := #[11, 6]
  cf := some (fileOf pool12 2 #[] #[] 1537 7 #[9, 11] #[])
  fields := #[]
  methods := #[]
  instanceTypes := #[]
  staticTypes := #[]
  resolved := Array.replicate 26 none
  statics := none }

def pool13 : Array CpInfo := pool [(1, .methodref 2 3), (0, .class_ 4), (0, .nameAndType 5 6), (0, u "java/util/HashSet"), (0, u "<init>"), (0, u "(IFZ)V"), (0, .float 1061158912), (19, .class_ 29), (1, u "java/util/LinkedHashSet"), (16, u "()V"), (44, .class_ 93), (1, u "java/util/SequencedSet"), (11, .class_ 106), (0, u "java/util/LinkedHashSet$1ReverseLinkedHashSetView"), (6, .class_ 114), (0, u "java/lang/Cloneable"), (0, .class_ 116), (0, u "java/io/Serializable"), (0, u "serialVersionUID"), (0, u "J")] 44

def k13c0 : Code := { maxStack := 4, maxLocals := 1, code := jdk_2620_method_3_code, exceptionTable := #[], attributes := #[] }
def k13m0 : Method := { name := "<init>", desc := "()V", sig := { parameters := [], returnType := none }, accessFlags := 1, code := some k13c0 }
/-- java/util/LinkedHashSet -/
def k13 : Class := { plain "java/util/LinkedHashSet" (some 10) with
  accessFlags := 33
  interfaces := #[12, 8, 9]
  cf := some (fileOf pool13 27 #[.nestMembers #[105]] #[{ accessFlags := 1, nameIndex := 5, descriptorIndex := 46, attributes := #[] }] 33 2 #[91, 113, 115] #[{ accessFlags := 26, nameIndex := 117, descriptorIndex := 118, attributes := #[] }])
  fields := #[{ name := "serialVersionUID", type := .long, accessFlags := 26, slot := 0, constantValue := 0 }]
  methods := #[k13m0]
  instanceTypes := #[(.object "java/util/HashMap")]
  staticTypes := #[.long]
  resolved := Array.replicate 163 none
  statics := none }

def pool14 : Array CpInfo := pool [(2, .class_ 4), (1, u "java/util/Map"), (31, .class_ 37), (0, u "java/util/Map$Entry"), (55, .class_ 94), (0, u "java/lang/Object")] 168

/-- java/util/Map -/
def k14 : Class := { plain "java/util/Map" (some 0) with
  accessFlags := 1537
  interfaces := #[]
  cf := some (fileOf pool14 2 #[.nestMembers #[36]] #[] 1537 93 #[] #[])
  fields := #[]
  methods := #[]
  instanceTypes := #[]
  staticTypes := #[]
  resolved := Array.replicate 263 none
  statics := none }

def pool15 : Array CpInfo := pool [(1, .methodref 2 3), (0, .class_ 4), (0, .nameAndType 5 6), (0, u "java/lang/Object"), (0, u "<init>"), (0, u "()V"), (1, .class_ 10), (1, u "java/util/AbstractMap"), (42, .class_ 54), (0, u "java/util/Map"), (9, u "keySet"), (0, u "Ljava/util/Set;"), (0, .class_ 67), (0, u "java/util/AbstractMap$1"), (5, u "values"), (0, u "Ljava/util/Collection;"), (0, .class_ 76), (0, u "java/util/AbstractMap$2"), (104, .class_ 182), (0, u "java/util/AbstractMap$ViewCollection"), (0, .class_ 184), (0, u "java/util/AbstractMap$SimpleImmutableEntry"), (0, .class_ 186), (0, u "java/util/AbstractMap$SimpleEntry"), (0, .class_ 188), (0, u "java/util/AbstractMap$2$1"), (0, .class_ 190), (0, u "java/util/AbstractMap$1$1")] 5

def k15c0 : Code := { maxStack := 1, maxLocals := 1, code := jdk_71_method_1_code, exceptionTable := #[], attributes := #[] }
def k15m0 : Method := { name := "<init>", desc := "()V", sig := { parameters := [], returnType := none }, accessFlags := 4, code := some k15c0 }
/-- java/util/AbstractMap -/
def k15 : Class := { plain "java/util/AbstractMap" (some 0) with
  accessFlags := 1057
  interfaces := #[14]
  cf := some (fileOf pool15 8 #[.nestMembers #[181, 183, 185, 75, 187, 66, 189]] #[{ accessFlags := 4, nameIndex := 5, descriptorIndex := 6, attributes := #[] }] 1057 2 #[53] #[{ accessFlags := 128, nameIndex := 64, descriptorIndex := 65, attributes := #[] }, { accessFlags := 128, nameIndex := 73, descriptorIndex := 74, attributes := #[] }])
  fields := #[{ name := "keySet", type := (.object "java/util/Set"), accessFlags := 128, slot := 0, constantValue := 0 }, { name := "values", type := (.object "java/util/Collection"), accessFlags := 128, slot := 1, constantValue := 0 }]
  methods := #[k15m0]
  instanceTypes := #[(.object "java/util/Set"), (.object "java/util/Collection")]
  staticTypes := #[]
  resolved := Array.replicate 196 none
  statics := none }

def pool16 : Array CpInfo := pool [(34, .methodref 35 36), (0, .class_ 37), (0, .nameAndType 38 39), (0, u "java/lang/Integer"), (0, u "numberOfLeadingZeros"), (0, u "(I)I"), (0, .class_ 41), (0, u "java/util/HashMap"), (0, .integer 1073741824), (0, .methodref 44 45), (0, .class_ 46), (0, .nameAndType 47 48), (0, u "java/util/AbstractMap"), (0, u "<init>"), (0, u "()V"), (21, .methodref 71 72), (0, .class_ 73), (0, .nameAndType 74 75), (0, u "java/lang/Float"), (0, u "isNaN"), (0, u "(F)Z"), (5, .fieldref 40 82), (0, .nameAndType 83 84), (0, u "loadFactor"), (0, u "F"), (0, .methodref 40 86), (0, .nameAndType 87 39), (0, u "tableSizeFor"), (0, .fieldref 40 89), (0, .nameAndType 90 91), (0, u "threshold"), (0, u "I"), (0, .float 1061158912), (2, u "(IF)V"), (5, .class_ 103), (1, u "java/util/Map"), (0, u "size"), (2, u "table"), (0, u "[Ljava/util/HashMap$Node;"), (14, u "entrySet"), (39, .class_ 165), (1, u "java/util/HashMap$Node"), (14, .class_ 181), (0, u "java/util/HashMap$TreeNode"), (22, u "modCount"), (37, u "Ljava/util/Set;"), (0, .class_ 244), (0, u "java/util/HashMap$KeySet"), (18, .class_ 264), (0, u "java/util/HashMap$Values"), (3, .class_ 269), (0, u "java/util/HashMap$EntrySet"), (76, .class_ 348), (1, u "java/util/HashMap$UnsafeHolder"), (43, .class_ 393), (0, u "java/lang/Cloneable"), (0, .class_ 395), (0, u "java/io/Serializable"), (0, u "serialVersionUID"), (0, u "J"), (3, u "DEFAULT_INITIAL_CAPACITY"), (1, u "MAXIMUM_CAPACITY"), (0, u "DEFAULT_LOAD_FACTOR"), (0, u "TREEIFY_THRESHOLD"), (1, u "UNTREEIFY_THRESHOLD"), (1, u "MIN_TREEIFY_CAPACITY"), (186, .class_ 597), (0, u "java/util/HashMap$EntrySpliterator"), (0, .class_ 599), (0, u "java/util/HashMap$ValueSpliterator"), (0, .class_ 601), (0, u "java/util/HashMap$KeySpliterator"), (0, .class_ 603), (0, u "java/util/HashMap$HashMapSpliterator"), (0, .class_ 605), (0, u "java/util/HashMap$EntryIterator"), (0, .class_ 607), (0, u "java/util/HashMap$ValueIterator"), (0, .class_ 609), (0, u "java/util/HashMap$KeyIterator"), (0, .class_ 611), (0, u "java/util/HashMap$HashIterator")] 17

def k16c0 : Code := { maxStack := 3, maxLocals := 2, code := jdk_69_method_4_code, exceptionTable := #[], attributes := #[] }
def k16m0 : Method := { name := "tableSizeFor", desc := "(I)I", sig := { parameters := [.int], returnType := some .int }, accessFlags := 24, code := some k16c0 }
def k16c1 : Code := { maxStack := 4, maxLocals := 3, code := jdk_69_method_5_code, exceptionTable := #[], attributes := #[] }
def k16m1 : Method := { name := "<init>", desc := "(IF)V", sig := { parameters := [.int, .float], returnType := none }, accessFlags := 1, code := some k16c1 }
def k16c2 : Code := { maxStack := 2, maxLocals := 1, code := jdk_69_method_7_code, exceptionTable := #[], attributes := #[] }
def k16m2 : Method := { name := "<init>", desc := "()V", sig := { parameters := [], returnType := none }, accessFlags := 1, code := some k16c2 }
/-- java/util/HashMap -/
def k16 : Class := { plain "java/util/HashMap" (some 15) with
  accessFlags := 33
  interfaces := #[14, 8, 9]
  cf := some (fileOf pool16 40 #[.nestMembers #[180, 596, 598, 600, 602, 604, 606, 608, 610, 346, 268, 263, 243, 163]] #[{ accessFlags := 24, nameIndex := 87, descriptorIndex := 39, attributes := #[] }, { accessFlags := 1, nameIndex := 47, descriptorIndex := 95, attributes := #[] }, { accessFlags := 1, nameIndex := 47, descriptorIndex := 48, attributes := #[] }] 33 44 #[101, 392, 394] #[{ accessFlags := 26, nameIndex := 396, descriptorIndex := 397, attributes := #[] }, { accessFlags := 24, nameIndex := 401, descriptorIndex := 91, attributes := #[] }, { accessFlags := 24, nameIndex := 403, descriptorIndex := 91, attributes := #[] }, { accessFlags := 24, nameIndex := 404, descriptorIndex := 84, attributes := #[] }, { accessFlags := 24, nameIndex := 405, descriptorIndex := 91, attributes := #[] }, { accessFlags := 24, nameIndex := 407, descriptorIndex := 91, attributes := #[] }, { accessFlags := 24, nameIndex := 409, descriptorIndex := 91, attributes := #[] }, { accessFlags := 128, nameIndex := 107, descriptorIndex := 108, attributes := #[] }, { accessFlags := 128, nameIndex := 123, descriptorIndex := 242, attributes := #[] }, { accessFlags := 128, nameIndex := 104, descriptorIndex := 91, attributes := #[] }, { accessFlags := 128, nameIndex := 204, descriptorIndex := 91, attributes := #[] }, { accessFlags := 0, nameIndex := 90, descriptorIndex := 91, attributes := #[] }, { accessFlags := 16, nameIndex := 83, descriptorIndex := 84, attributes := #[] }])
  fields := #[{ name := "serialVersionUID", type := .long, accessFlags := 26, slot := 0, constantValue := 0 }, { name := "DEFAULT_INITIAL_CAPACITY", type := .int, accessFlags := 24, slot := 1, constantValue := 0 }, { name := "MAXIMUM_CAPACITY", type := .int, accessFlags := 24, slot := 2, constantValue := 0 }, { name := "DEFAULT_LOAD_FACTOR", type := .float, accessFlags := 24, slot := 3, constantValue := 0 }, { name := "TREEIFY_THRESHOLD", type := .int, accessFlags := 24, slot := 4, constantValue := 0 }, { name := "UNTREEIFY_THRESHOLD", type := .int, accessFlags := 24, slot := 5, constantValue := 0 }, { name := "MIN_TREEIFY_CAPACITY", type := .int, accessFlags := 24, slot := 6, constantValue := 0 }, { name := "table", type := (.array (.object "java/util/HashMap$Node")), accessFlags := 128, slot := 2, constantValue := 0 }, { name := "entrySet", type := (.object "java/util/Set"), accessFlags := 128, slot := 3, constantValue := 0 }, { name := "size", type := .int, accessFlags := 128, slot := 4, constantValue := 0 }, { name := "modCount", type := .int, accessFlags := 128, slot := 5, constantValue := 0 }, { name := "threshold", type := .int, accessFlags := 0, slot := 6, constantValue := 0 }, { name := "loadFactor", type := .float, accessFlags := 16, slot := 7, constantValue := 0 }]
  methods := #[k16m0, k16m1, k16m2]
  instanceTypes := #[(.object "java/util/Set"), (.object "java/util/Collection"), (.array (.object "java/util/HashMap$Node")), (.object "java/util/Set"), .int, .int, .int, .float]
  staticTypes := #[.long, .int, .int, .float, .int, .int, .int]
  resolved := Array.replicate 629 none
  statics := none }

def pool17 : Array CpInfo := pool [(2, .class_ 4), (1, u "java/util/SequencedMap"), (38, .class_ 44), (0, u "java/util/SequencedMap$1SeqKeySet"), (3, .class_ 49), (0, u "java/util/SequencedMap$1SeqValues"), (1, .class_ 52), (0, u "java/util/SequencedMap$1SeqEntrySet"), (1, .class_ 55), (0, u "java/lang/Object"), (0, .class_ 57), (0, u "java/util/Map")] 48

/-- java/util/SequencedMap -/
def k17 : Class := { plain "java/util/SequencedMap" (some 0) with
  accessFlags := 1537
  interfaces := #[14]
  cf := some (fileOf pool17 2 #[.nestMembers #[51, 48, 43]] #[] 1537 54 #[56] #[])
  fields := #[]
  methods := #[]
  instanceTypes := #[]
  staticTypes := #[]
  resolved := Array.replicate 106 none
  statics := none }

def pool18 : Array CpInfo := pool [(1, .fieldref 2 3), (0, .class_ 4), (0, .nameAndType 5 6), (0, u "java/util/LinkedHashMap"), (0, u "putMode"), (0, u "I"), (2, u "head"), (0, u "Ljava/util/LinkedHashMap$Entry;"), (2, u "tail"), (1, .class_ 17), (1, u "java/util/LinkedHashMap$Entry"), (5, .class_ 25), (1, u "java/util/HashMap"), (1, u "()V"), (2, u "<init>"), (33, .fieldref 2 65), (0, .nameAndType 66 67), (0, u "accessOrder"), (0, u "Z"), (13, .methodref 23 82), (0, .nameAndType 30 83), (0, u "(IF)V"), (37, .class_ 122), (0, u "java/util/LinkedHashMap$LinkedKeySet"), (20, .class_ 144), (0, u "java/util/LinkedHashMap$LinkedValues"), (9, .class_ 155), (0, u "java/util/LinkedHashMap$LinkedEntrySet"), (44, .class_ 201), (0, u "java/util/LinkedHashMap$ReversedLinkedHashMapView"), (3, .class_ 206), (0, u "java/util/SequencedMap"), (0, u "serialVersionUID"), (0, u "J"), (5, u "PUT_NORM"), (1, u "PUT_FIRST"), (1, u "PUT_LAST"), (143, .class_ 363), (0, u "java/util/LinkedHashMap$LinkedEntryIterator"), (0, .class_ 365), (0, u "java/util/LinkedHashMap$LinkedValueIterator"), (0, .class_ 367), (0, u "java/util/LinkedHashMap$LinkedKeyIterator"), (0, .class_ 369), (0, u "java/util/LinkedHashMap$LinkedHashIterator")] 16

def k18c0 : Code := { maxStack := 3, maxLocals := 3, code := jdk_94_method_14_code, exceptionTable := #[], attributes := #[] }
def k18m0 : Method := { name := "<init>", desc := "(IF)V", sig := { parameters := [.int, .float], returnType := none }, accessFlags := 1, code := some k18c0 }
def k18m1 : Method := { name := "<init>", desc := "()V", sig := { parameters := [], returnType := none }, accessFlags := 1, code := none }
/-- java/util/LinkedHashMap -/
def k18 : Class := { plain "java/util/LinkedHashMap" (some 16) with
  accessFlags := 33
  interfaces := #[17]
  cf := some (fileOf pool18 2 #[.nestMembers #[200, 362, 364, 366, 368, 154, 143, 121, 15]] #[{ accessFlags := 1, nameIndex := 30, descriptorIndex := 83, attributes := #[] }, { accessFlags := 1, nameIndex := 30, descriptorIndex := 27, attributes := #[] }] 33 23 #[205] #[{ accessFlags := 26, nameIndex := 207, descriptorIndex := 208, attributes := #[] }, { accessFlags := 128, nameIndex := 9, descriptorIndex := 10, attributes := #[] }, { accessFlags := 128, nameIndex := 13, descriptorIndex := 10, attributes := #[] }, { accessFlags := 16, nameIndex := 66, descriptorIndex := 67, attributes := #[] }, { accessFlags := 24, nameIndex := 214, descriptorIndex := 6, attributes := #[] }, { accessFlags := 24, nameIndex := 216, descriptorIndex := 6, attributes := #[] }, { accessFlags := 24, nameIndex := 218, descriptorIndex := 6, attributes := #[] }, { accessFlags := 128, nameIndex := 5, descriptorIndex := 6, attributes := #[] }])
  fields := #[{ name := "serialVersionUID", type := .long, accessFlags := 26, slot := 0, constantValue := 0 }, { name := "head", type := (.object "java/util/LinkedHashMap$Entry"), accessFlags := 128, slot := 8, constantValue := 0 }, { name := "tail", type := (.object "java/util/LinkedHashMap$Entry"), accessFlags := 128, slot := 9, constantValue := 0 }, { name := "accessOrder", type := .boolean, accessFlags := 16, slot := 10, constantValue := 0 }, { name := "PUT_NORM", type := .int, accessFlags := 24, slot := 1, constantValue := 0 }, { name := "PUT_FIRST", type := .int, accessFlags := 24, slot := 2, constantValue := 0 }, { name := "PUT_LAST", type := .int, accessFlags := 24, slot := 3, constantValue := 0 }, { name := "putMode", type := .int, accessFlags := 128, slot := 11, constantValue := 0 }]
  methods := #[k18m0, k18m1]
  instanceTypes := #[(.object "java/util/Set"), (.object "java/util/Collection"), (.array (.object "java/util/HashMap$Node")), (.object "java/util/Set"), .int, .int, .int, .float, (.object "java/util/LinkedHashMap$Entry"), (.object "java/util/LinkedHashMap$Entry"), .boolean, .int]
  staticTypes := #[.long, .int, .int, .int]
  resolved := Array.replicate 386 none
  statics := none }

def pool19 : Array CpInfo := pool [(2, .class_ 4), (1, u "java/lang/Object"), (0, u "<init>"), (0, u "()V"), (1, .class_ 10), (1, u "java/lang/Number"), (2, .class_ 14), (0, u "java/io/Serializable"), (0, u "serialVersionUID"), (0, u "J")] 20

def k19m0 : Method := { name := "<init>", desc := "()V", sig := { parameters := [], returnType := none }, accessFlags := 1, code := none }
/-- java/lang/Number -/
def k19 : Class := { plain "java/lang/Number" (some 0) with
  accessFlags := 1057
  interfaces := #[9]
  cf := some (fileOf pool19 8 #[] #[{ accessFlags := 1, nameIndex := 5, descriptorIndex := 6, attributes := #[] }] 1057 2 #[13] #[{ accessFlags := 26, nameIndex := 15, descriptorIndex := 16, attributes := #[] }])
  fields := #[{ name := "serialVersionUID", type := .long, accessFlags := 26, slot := 0, constantValue := 0 }]
  methods := #[k19m0]
  instanceTypes := #[]
  staticTypes := #[.long]
  resolved := Array.replicate 37 none
  statics := none }

def pool20 : Array CpInfo := pool [(1, .class_ 2), (0, u "java/lang/Comparable"), (0, .class_ 4), (0, u "java/lang/Object")] 7

/-- java/lang/Comparable -/
def k20 : Class := { plain "java/lang/Comparable" (some 0) with
  accessFlags := 1537
  interfaces := #[]
  cf := some (fileOf pool20 1 #[] #[] 1537 3 #[] #[])
  fields := #[]
  methods := #[]
  instanceTypes := #[]
  staticTypes := #[]
  resolved := Array.replicate 12 none
  statics := none }

def pool21 : Array CpInfo := pool [(1, .class_ 2), (0, u "java/lang/constant/Constable"), (0, .class_ 4), (0, u "java/lang/Object")] 6

/-- java/lang/constant/Constable -/
def k21 : Class := { plain "java/lang/constant/Constable" (some 0) with
  accessFlags := 1537
  interfaces := #[]
  cf := some (fileOf pool21 1 #[] #[] 1537 3 #[] #[])
  fields := #[]
  methods := #[]
  instanceTypes := #[]
  staticTypes := #[]
  resolved := Array.replicate 11 none
  statics := none }

def pool22 : Array CpInfo := pool [(1, .class_ 2), (0, u "java/lang/constant/ConstantDesc"), (0, .class_ 4), (0, u "java/lang/Object")] 32

/-- java/lang/constant/ConstantDesc -/
def k22 : Class := { plain "java/lang/constant/ConstantDesc" (some 0) with
  accessFlags := 1537
  interfaces := #[]
  cf := some (fileOf pool22 1 #[] #[] 1537 3 #[] #[])
  fields := #[]
  methods := #[]
  instanceTypes := #[]
  staticTypes := #[]
  resolved := Array.replicate 37 none
  statics := none }

def pool23 : Array CpInfo := pool [(1, .class_ 2), (0, u "java/lang/Float"), (48, .class_ 53), (1, u "java/lang/Number"), (3, u "value"), (0, u "F"), (2, u "isNaN"), (0, u "(F)Z"), (28, u "$assertionsDisabled"), (0, u "Z"), (52, u "TYPE"), (0, u "Ljava/lang/Class;"), (0, .class_ 148), (0, u "java/lang/Comparable"), (0, .class_ 150), (0, u "java/lang/constant/Constable"), (0, .class_ 152), (0, u "java/lang/constant/ConstantDesc"), (0, u "POSITIVE_INFINITY"), (1, u "NEGATIVE_INFINITY"), (1, u "NaN"), (1, u "MAX_VALUE"), (0, u "MIN_NORMAL"), (0, u "MIN_VALUE"), (1, u "SIZE"), (0, u "I"), (1, u "PRECISION"), (1, u "MAX_EXPONENT"), (1, u "MIN_EXPONENT"), (1, u "BYTES"), (3, u "serialVersionUID"), (0, u "J")] 101

def k23c0 : Code := { maxStack := 2, maxLocals := 1, code := jdk_118_method_6_code, exceptionTable := #[], attributes := #[] }
def k23m0 : Method := { name := "isNaN", desc := "(F)Z", sig := { parameters := [.float], returnType := some .boolean }, accessFlags := 9, code := some k23c0 }
/-- java/lang/Float -/
def k23 : Class := { plain "java/lang/Float" (some 19) with
  accessFlags := 49
  interfaces := #[20, 21, 22]
  cf := some (fileOf pool23 1 #[] #[{ accessFlags := 9, nameIndex := 61, descriptorIndex := 62, attributes := #[] }] 49 51 #[147, 149, 151] #[{ accessFlags := 25, nameIndex := 153, descriptorIndex := 58, attributes := #[] }, { accessFlags := 25, nameIndex := 155, descriptorIndex := 58, attributes := #[] }, { accessFlags := 25, nameIndex := 157, descriptorIndex := 58, attributes := #[] }, { accessFlags := 25, nameIndex := 159, descriptorIndex := 58, attributes := #[] }, { accessFlags := 25, nameIndex := 160, descriptorIndex := 58, attributes := #[] }, { accessFlags := 25, nameIndex := 161, descriptorIndex := 58, attributes := #[] }, { accessFlags := 25, nameIndex := 163, descriptorIndex := 164, attributes := #[] }, { accessFlags := 25, nameIndex := 166, descriptorIndex := 164, attributes := #[] }, { accessFlags := 25, nameIndex := 168, descriptorIndex := 164, attributes := #[] }, { accessFlags := 25, nameIndex := 170, descriptorIndex := 164, attributes := #[] }, { accessFlags := 25, nameIndex := 172, descriptorIndex := 164, attributes := #[] }, { accessFlags := 25, nameIndex := 145, descriptorIndex := 146, attributes := #[] }, { accessFlags := 18, nameIndex := 57, descriptorIndex := 58, attributes := #[] }, { accessFlags := 26, nameIndex := 176, descriptorIndex := 177, attributes := #[] }, { accessFlags := 4120, nameIndex := 91, descriptorIndex := 92, attributes := #[] }])
  fields := #[{ name := "POSITIVE_INFINITY", type := .float, accessFlags := 25, slot := 0, constantValue := 0 }, { name := "NEGATIVE_INFINITY", type := .float, accessFlags := 25, slot := 1, constantValue := 0 }, { name := "NaN", type := .float, accessFlags := 25, slot := 2, constantValue := 0 }, { name := "MAX_VALUE", type := .float, accessFlags := 25, slot := 3, constantValue := 0 }, { name := "MIN_NORMAL", type := .float, accessFlags := 25, slot := 4, constantValue := 0 }, { name := "MIN_VALUE", type := .float, accessFlags := 25, slot := 5, constantValue := 0 }, { name := "SIZE", type := .int, accessFlags := 25, slot := 6, constantValue := 0 }, { name := "PRECISION", type := .int, accessFlags := 25, slot := 7, constantValue := 0 }, { name := "MAX_EXPONENT", type := .int, accessFlags := 25, slot := 8, constantValue := 0 }, { name := "MIN_EXPONENT", type := .int, accessFlags := 25, slot := 9, constantValue := 0 }, { name := "BYTES", type := .int, accessFlags := 25, slot := 10, constantValue := 0 }, { name := "TYPE", type := (.object "java/lang/Class"), accessFlags := 25, slot := 11, constantValue := 0 }, { name := "value", type := .float, accessFlags := 18, slot := 0, constantValue := 0 }, { name := "serialVersionUID", type := .long, accessFlags := 26, slot := 12, constantValue := 0 }, { name := "$assertionsDisabled", type := .boolean, accessFlags := 4120, slot := 13, constantValue := 0 }]
  methods := #[k23m0]
  instanceTypes := #[.float]
  staticTypes := #[.float, .float, .float, .float, .float, .float, .int, .int, .int, .int, .int, (.object "java/lang/Class"), .long, .boolean]
  resolved := Array.replicate 279 none
  statics := none }

def pool24 : Array CpInfo := pool [(1, .class_ 2), (0, u "java/lang/Integer"), (16, u "digits"), (0, u "[C"), (32, u "numberOfLeadingZeros"), (0, u "(I)I"), (30, u "DigitOnes"), (0, u "[B"), (2, u "DigitTens"), (99, .class_ 190), (0, u "java/lang/Integer$IntegerCache"), (3, u "I"), (8, .class_ 204), (0, u "java/lang/Number"), (2, u "value"), (56, .integer 65536), (37, u "TYPE"), (0, u "Ljava/lang/Class;"), (0, .class_ 305), (0, u "java/lang/Comparable"), (0, .class_ 307), (0, u "java/lang/constant/Constable"), (0, .class_ 309), (0, u "java/lang/constant/ConstantDesc"), (0, u "MIN_VALUE"), (1, u "MAX_VALUE"), (3, u "SIZE"), (1, u "BYTES"), (1, u "serialVersionUID"), (0, u "J")] 131

def k24c0 : Code := { maxStack := 3, maxLocals := 2, code := jdk_33_method_47_code, exceptionTable := #[], attributes := #[] }
def k24m0 : Method := { name := "numberOfLeadingZeros", desc := "(I)I", sig := { parameters := [.int], returnType := some .int }, accessFlags := 9, code := some k24c0 }
/-- java/lang/Integer -/
def k24 : Class := { plain "java/lang/Integer" (some 19) with
  accessFlags := 49
  interfaces := #[20, 21, 22]
  cf := some (fileOf pool24 1 #[.nestMembers #[189]] #[{ accessFlags := 9, nameIndex := 53, descriptorIndex := 54, attributes := #[] }] 49 203 #[304, 306, 308] #[{ accessFlags := 25, nameIndex := 310, descriptorIndex := 194, attributes := #[] }, { accessFlags := 25, nameIndex := 312, descriptorIndex := 194, attributes := #[] }, { accessFlags := 25, nameIndex := 302, descriptorIndex := 303, attributes := #[] }, { accessFlags := 24, nameIndex := 19, descriptorIndex := 20, attributes := #[] }, { accessFlags := 24, nameIndex := 89, descriptorIndex := 86, attributes := #[] }, { accessFlags := 24, nameIndex := 85, descriptorIndex := 86, attributes := #[] }, { accessFlags := 18, nameIndex := 207, descriptorIndex := 194, attributes := #[] }, { accessFlags := 25, nameIndex := 316, descriptorIndex := 194, attributes := #[] }, { accessFlags := 25, nameIndex := 318, descriptorIndex := 194, attributes := #[] }, { accessFlags := 26, nameIndex := 320, descriptorIndex := 321, attributes := #[] }])
  fields := #[{ name := "MIN_VALUE", type := .int, accessFlags := 25, slot := 0, constantValue := 0 }, { name := "MAX_VALUE", type := .int, accessFlags := 25, slot := 1, constantValue := 0 }, { name := "TYPE", type := (.object "java/lang/Class"), accessFlags := 25, slot := 2, constantValue := 0 }, { name := "digits", type := (.array .char), accessFlags := 24, slot := 3, constantValue := 0 }, { name := "DigitTens", type := (.array .byte), accessFlags := 24, slot := 4, constantValue := 0 }, { name := "DigitOnes", type := (.array .byte), accessFlags := 24, slot := 5, constantValue := 0 }, { name := "value", type := .int, accessFlags := 18, slot := 0, constantValue := 0 }, { name := "SIZE", type := .int, accessFlags := 25, slot := 6, constantValue := 0 }, { name := "BYTES", type := .int, accessFlags := 25, slot := 7, constantValue := 0 }, { name := "serialVersionUID", type := .long, accessFlags := 26, slot := 8, constantValue := 0 }]
  methods := #[k24m0]
  instanceTypes := #[.int]
  staticTypes := #[.int, .int, (.object "java/lang/Class"), (.array .char), (.array .byte), (.array .byte), .int, .int, .long]
  resolved := Array.replicate 453 none
  statics := none }

def pool25 : Array CpInfo := pool [(1, .class_ 2), (0, u "java/lang/Math"), (1, .class_ 6), (1, u "java/lang/Object"), (0, u "<init>"), (0, u "()V"), (89, .class_ 100), (1, u "java/lang/Math$RandomNumberGeneratorHolder"), (20, u "(JJ)J"), (50, u "negativeZeroFloatBits"), (0, u "J"), (2, u "negativeZeroDoubleBits"), (21, u "max"), (46, u "$assertionsDisabled"), (0, u "Z"), (91, u "twoToTheDoubleScaleDown"), (0, u "D"), (4, u "twoToTheDoubleScaleUp"), (9, u "E"), (3, u "PI"), (2, u "TAU"), (2, u "DEGREES_TO_RADIANS"), (0, u "RADIANS_TO_DEGREES")] 94

def k25m0 : Method := { name := "<init>", desc := "()V", sig := { parameters := [], returnType := none }, accessFlags := 2, code := none }
def k25c1 : Code := { maxStack := 4, maxLocals := 4, code := jdk_29_method_66_code, exceptionTable := #[], attributes := #[] }
def k25m1 : Method := { name := "max", desc := "(JJ)J", sig := { parameters := [.long, .long], returnType := some .long }, accessFlags := 9, code := some k25c1 }
/-- java/lang/Math -/
def k25 : Class := { plain "java/lang/Math" (some 0) with
  accessFlags := 49
  interfaces := #[]
  cf := some (fileOf pool25 1 #[.nestMembers #[98]] #[{ accessFlags := 2, nameIndex := 7, descriptorIndex := 8, attributes := #[] }, { accessFlags := 9, nameIndex := 198, descriptorIndex := 121, attributes := #[] }] 49 4 #[] #[{ accessFlags := 25, nameIndex := 354, descriptorIndex := 339, attributes := #[] }, { accessFlags := 25, nameIndex := 358, descriptorIndex := 339, attributes := #[] }, { accessFlags := 25, nameIndex := 361, descriptorIndex := 339, attributes := #[] }, { accessFlags := 26, nameIndex := 364, descriptorIndex := 339, attributes := #[] }, { accessFlags := 26, nameIndex := 365, descriptorIndex := 339, attributes := #[] }, { accessFlags := 26, nameIndex := 172, descriptorIndex := 173, attributes := #[] }, { accessFlags := 26, nameIndex := 176, descriptorIndex := 173, attributes := #[] }, { accessFlags := 8, nameIndex := 344, descriptorIndex := 339, attributes := #[] }, { accessFlags := 8, nameIndex := 338, descriptorIndex := 339, attributes := #[] }, { accessFlags := 4120, nameIndex := 245, descriptorIndex := 246, attributes := #[] }])
  fields := #[{ name := "E", type := .double, accessFlags := 25, slot := 0, constantValue := 0 }, { name := "PI", type := .double, accessFlags := 25, slot := 1, constantValue := 0 }, { name := "TAU", type := .double, accessFlags := 25, slot := 2, constantValue := 0 }, { name := "DEGREES_TO_RADIANS", type := .double, accessFlags := 26, slot := 3, constantValue := 0 }, { name := "RADIANS_TO_DEGREES", type := .double, accessFlags := 26, slot := 4, constantValue := 0 }, { name := "negativeZeroFloatBits", type := .long, accessFlags := 26, slot := 5, constantValue := 0 }, { name := "negativeZeroDoubleBits", type := .long, accessFlags := 26, slot := 6, constantValue := 0 }, { name := "twoToTheDoubleScaleUp", type := .double, accessFlags := 8, slot := 7, constantValue := 0 }, { name := "twoToTheDoubleScaleDown", type := .double, accessFlags := 8, slot := 8, constantValue := 0 }, { name := "$assertionsDisabled", type := .boolean, accessFlags := 4120, slot := 9, constantValue := 0 }]
  methods := #[k25m0, k25m1]
  instanceTypes := #[]
  staticTypes := #[.double, .double, .double, .double, .double, .long, .long, .double, .double, .boolean]
  resolved := Array.replicate 460 none
  statics := none }

/-- the primitive byte -/
def k26 : Class := { plain "byte" none with kind := .primitive 'B', accessFlags := 0x411 }
/-- [B -/
def k27 : Class := { plain "[B" (some 0) with kind := .array 26 .byte, interfaces := #[8, 9], accessFlags := 1041 }

/-- the primitive int -/
def k28 : Class := { plain "int" none with kind := .primitive 'I', accessFlags := 0x411 }
/-- [I -/
def k29 : Class := { plain "[I" (some 0) with kind := .array 28 .int, interfaces := #[8, 9], accessFlags := 1041 }

def heap : Heap := #[]
def classes : Array Class := #[k0, k1, k2, k3, k4, k5, k6, k7, k8, k9, k10, k11, k12, k13, k14, k15, k16, k17, k18, k19, k20, k21, k22, k23, k24, k25, k26, k27, k28, k29]
def interned : List (Array UInt16 × Addr) := []
def slotsUsed : Nat := 0
def theMethod : MethodId := ⟨1, 1⟩
def args0 : Array Value := #[.int 2, .int 5, .int 9, .int 3]
def aboutOver (below : List Frame) : State where
  vm := { classes := classes, interned := interned.toArray }
  heap := heap
  slotsUsed := slotsUsed
  threads := #[{ frames := .invoking theMethod args0 :: below }]
def below0 : List Frame := [.native { method := ⟨0, 0⟩, args := #[] }]
def about1 : State := aboutOver below0
def p0 : Program := .bare "" "" ""
def e0 : Env := launch0.env 0 0 0
theorem w_frames : about1.frames = Frame.invoking theMethod args0 :: below0 := rfl
set_option maxRecDepth 65536 in
theorem w_args : argsFit about1.vm theMethod args0 = true := by decide +kernel
set_option maxRecDepth 65536 in
theorem w_heap : heapFits about1 = true := by decide +kernel
set_option maxRecDepth 65536 in
theorem w_runnable : about1.curStatus? = some .runnable := by decide +kernel
set_option maxRecDepth 65536 in
theorem w_alone : about1.alone = true := by decide +kernel
set_option maxRecDepth 65536 in
theorem w_named : about1.methodNamed? x = some theMethod := by decide +kernel
set_option maxRecDepth 65536 in
theorem w_hears : about1.hears theMethod below0 = true := by decide +kernel
set_option maxRecDepth 65536 in
theorem w_ripe : about1.ripe theMethod args0 below0 = true := by decide +kernel
theorem w_running : about1.status = .running := rfl
set_option maxRecDepth 65536 in
theorem w_room : about1.hasRoom e0.platform room_1 = true :=
  launch0.hasRoom_least _ room_1 (by decide +kernel) (by decide +kernel) (by decide +kernel) (by decide +kernel) (by decide +kernel) (by decide +kernel)
theorem allAtoms_all (ts : List Jvm.Cond) (a : Array Jvm.Value) (st : Jvm.State) : (allAtoms ts).before a st = ts.all (fun c => c.before a st) := by
  induction ts with
  | nil => rfl
  | cons c t ih =>
    show (Jvm.Cond.and c (allAtoms t)).before a st = _
    rw [Jvm.Cond.before_and, ih, List.all_cons]
def words1 : List Jvm.Cond := Jvm.Cond.code x code maxLocals ret :: tables_1
/-- a 'code' word, met by the world's own term for the bytes: nothing is compared byte by byte -/
theorem code_word {y : MethodName} {bytes : ByteArray} {mx : Nat} {rt : Option FieldType} {a : Array Value} {s : State} {m : MethodId} {meth : Method} {c : Code} (h1 : s.methodNamed? y = some m) (h2 : s.vm.method? m = some meth) (h3 : meth.code = some c) (h4 : c.code = bytes)
    (h5 : (c.maxLocals == mx && c.exceptionTable.isEmpty && decide (c.maxStack ≤ mostOperands) && decide (meth.sig.returnType = rt) && !meth.locks && decide (parseMethodDescriptor y.desc = some meth.sig)) = true) : (Jvm.Cond.code y bytes mx rt).before a s = true := by
  simp only [Bool.and_eq_true, beq_iff_eq, Bool.not_eq_true', decide_eq_true_eq] at h5
  obtain ⟨⟨⟨⟨⟨g1, g2⟩, g3⟩, g4⟩, g5⟩, g6⟩ := h5
  simp [Cond.before, Cond.holds, Cond.value, h1, h2, h3, h4, g1, g2, g3, g4, g5, g6]
def isCode : Jvm.Cond → Bool
  | .code _ _ _ _ => true
  | _ => false
theorem all_split {L : List Jvm.Cond} {P : Jvm.Cond → Bool} (h1 : L.all (fun c => isCode c || P c) = true) (h2 : ∀ c ∈ L.filter isCode, P c = true) : L.all P = true := by
  refine List.all_eq_true.mpr fun c hc => ?_
  have h := List.all_eq_true.mp h1 c hc
  rcases Bool.eq_false_or_eq_true (isCode c) with hi | hi
  · exact h2 c (List.mem_filter.mpr ⟨hc, hi⟩)
  · simpa [hi] using h
set_option maxRecDepth 65536 in
theorem w_c0 : (Jvm.Cond.code x code maxLocals ret).before args0 about1 = true := code_word (m := ⟨1, 1⟩) (meth := k1m1) (c := k1c1) (by decide +kernel) rfl rfl rfl (by decide +kernel)
set_option maxRecDepth 65536 in
theorem w_c1 : (Jvm.Cond.code ({ cls := "com/example/erpctl/erpctl/connectors/yallav/ListPlace", name := "<init>", desc := "()V" } : Jvm.MethodName) prog_3_method_1_code (1 : Nat) (Option.none : Option Jvm.ClassFile.FieldType)).before args0 about1 = true := code_word (m := ⟨2, 0⟩) (meth := k2m0) (c := k2c0) (by decide +kernel) rfl rfl rfl (by decide +kernel)
set_option maxRecDepth 65536 in
theorem w_c2 : (Jvm.Cond.code ({ cls := "java/lang/Object", name := "<init>", desc := "()V" } : Jvm.MethodName) object_method_1_code (1 : Nat) (Option.none : Option Jvm.ClassFile.FieldType)).before args0 about1 = true := code_word (m := ⟨0, 0⟩) (meth := k0m0) (c := k0c0) (by decide +kernel) rfl rfl rfl (by decide +kernel)
set_option maxRecDepth 65536 in
theorem w_c3 : (Jvm.Cond.code ({ cls := "java/util/LinkedHashSet", name := "<init>", desc := "()V" } : Jvm.MethodName) jdk_2620_method_3_code (1 : Nat) (Option.none : Option Jvm.ClassFile.FieldType)).before args0 about1 = true := code_word (m := ⟨13, 0⟩) (meth := k13m0) (c := k13c0) (by decide +kernel) rfl rfl rfl (by decide +kernel)
set_option maxRecDepth 65536 in
theorem w_c4 : (Jvm.Cond.code ({ cls := "java/util/HashSet", name := "<init>", desc := "(IFZ)V" } : Jvm.MethodName) jdk_93_method_5_code (4 : Nat) (Option.none : Option Jvm.ClassFile.FieldType)).before args0 about1 = true := code_word (m := ⟨10, 1⟩) (meth := k10m1) (c := k10c1) (by decide +kernel) rfl rfl rfl (by decide +kernel)
set_option maxRecDepth 65536 in
theorem w_c5 : (Jvm.Cond.code ({ cls := "java/util/AbstractSet", name := "<init>", desc := "()V" } : Jvm.MethodName) jdk_91_method_1_code (1 : Nat) (Option.none : Option Jvm.ClassFile.FieldType)).before args0 about1 = true := code_word (m := ⟨7, 0⟩) (meth := k7m0) (c := k7c0) (by decide +kernel) rfl rfl rfl (by decide +kernel)
set_option maxRecDepth 65536 in
theorem w_c6 : (Jvm.Cond.code ({ cls := "java/util/AbstractCollection", name := "<init>", desc := "()V" } : Jvm.MethodName) jdk_22_method_1_code (1 : Nat) (Option.none : Option Jvm.ClassFile.FieldType)).before args0 about1 = true := code_word (m := ⟨5, 0⟩) (meth := k5m0) (c := k5c0) (by decide +kernel) rfl rfl rfl (by decide +kernel)
set_option maxRecDepth 65536 in
theorem w_c7 : (Jvm.Cond.code ({ cls := "java/util/LinkedHashMap", name := "<init>", desc := "(IF)V" } : Jvm.MethodName) jdk_94_method_14_code (3 : Nat) (Option.none : Option Jvm.ClassFile.FieldType)).before args0 about1 = true := code_word (m := ⟨18, 0⟩) (meth := k18m0) (c := k18c0) (by decide +kernel) rfl rfl rfl (by decide +kernel)
set_option maxRecDepth 65536 in
theorem w_c8 : (Jvm.Cond.code ({ cls := "java/util/HashMap", name := "<init>", desc := "(IF)V" } : Jvm.MethodName) jdk_69_method_5_code (3 : Nat) (Option.none : Option Jvm.ClassFile.FieldType)).before args0 about1 = true := code_word (m := ⟨16, 1⟩) (meth := k16m1) (c := k16c1) (by decide +kernel) rfl rfl rfl (by decide +kernel)
set_option maxRecDepth 65536 in
theorem w_c9 : (Jvm.Cond.code ({ cls := "java/util/AbstractMap", name := "<init>", desc := "()V" } : Jvm.MethodName) jdk_71_method_1_code (1 : Nat) (Option.none : Option Jvm.ClassFile.FieldType)).before args0 about1 = true := code_word (m := ⟨15, 0⟩) (meth := k15m0) (c := k15c0) (by decide +kernel) rfl rfl rfl (by decide +kernel)
set_option maxRecDepth 65536 in
theorem w_c10 : (Jvm.Cond.code ({ cls := "java/lang/Float", name := "isNaN", desc := "(F)Z" } : Jvm.MethodName) jdk_118_method_6_code (1 : Nat) (Option.some Jvm.ClassFile.FieldType.boolean)).before args0 about1 = true := code_word (m := ⟨23, 0⟩) (meth := k23m0) (c := k23c0) (by decide +kernel) rfl rfl rfl (by decide +kernel)
set_option maxRecDepth 65536 in
theorem w_c11 : (Jvm.Cond.code ({ cls := "java/util/HashMap", name := "tableSizeFor", desc := "(I)I" } : Jvm.MethodName) jdk_69_method_4_code (2 : Nat) (Option.some Jvm.ClassFile.FieldType.int)).before args0 about1 = true := code_word (m := ⟨16, 0⟩) (meth := k16m0) (c := k16c0) (by decide +kernel) rfl rfl rfl (by decide +kernel)
set_option maxRecDepth 65536 in
theorem w_c12 : (Jvm.Cond.code ({ cls := "java/lang/Integer", name := "numberOfLeadingZeros", desc := "(I)I" } : Jvm.MethodName) jdk_33_method_47_code (2 : Nat) (Option.some Jvm.ClassFile.FieldType.int)).before args0 about1 = true := code_word (m := ⟨24, 0⟩) (meth := k24m0) (c := k24c0) (by decide +kernel) rfl rfl rfl (by decide +kernel)
set_option maxRecDepth 65536 in
theorem w_c13 : (Jvm.Cond.code ({ cls := "java/util/HashSet", name := "<init>", desc := "()V" } : Jvm.MethodName) jdk_93_method_1_code (1 : Nat) (Option.none : Option Jvm.ClassFile.FieldType)).before args0 about1 = true := code_word (m := ⟨10, 0⟩) (meth := k10m0) (c := k10c0) (by decide +kernel) rfl rfl rfl (by decide +kernel)
set_option maxRecDepth 65536 in
theorem w_c14 : (Jvm.Cond.code ({ cls := "java/util/HashMap", name := "<init>", desc := "()V" } : Jvm.MethodName) jdk_69_method_7_code (1 : Nat) (Option.none : Option Jvm.ClassFile.FieldType)).before args0 about1 = true := code_word (m := ⟨16, 2⟩) (meth := k16m2) (c := k16c2) (by decide +kernel) rfl rfl rfl (by decide +kernel)
set_option maxRecDepth 65536 in
theorem w_c15 : (Jvm.Cond.code ({ cls := "com/example/erpctl/erpctl/connectors/yallav/ListPlace", name := "moveOn", desc := "(IZ)Z" } : Jvm.MethodName) prog_3_method_6_code (3 : Nat) (Option.some Jvm.ClassFile.FieldType.boolean)).before args0 about1 = true := code_word (m := ⟨2, 2⟩) (meth := k2m2) (c := k2c2) (by decide +kernel) rfl rfl rfl (by decide +kernel)
set_option maxRecDepth 65536 in
theorem w_c16 : (Jvm.Cond.code ({ cls := "com/example/erpctl/erpctl/connectors/yallav/ListPlace", name := "skip", desc := "()J" } : Jvm.MethodName) prog_3_method_2_code (1 : Nat) (Option.some Jvm.ClassFile.FieldType.long)).before args0 about1 = true := code_word (m := ⟨2, 1⟩) (meth := k2m1) (c := k2c1) (by decide +kernel) rfl rfl rfl (by decide +kernel)
set_option maxRecDepth 65536 in
theorem w_c17 : (Jvm.Cond.code ({ cls := "com/example/erpctl/erpctl/connectors/yallav/ListPlace", name := "lookFurtherBack", desc := "()Z" } : Jvm.MethodName) prog_3_method_7_code (2 : Nat) (Option.some Jvm.ClassFile.FieldType.boolean)).before args0 about1 = true := code_word (m := ⟨2, 3⟩) (meth := k2m3) (c := k2c3) (by decide +kernel) rfl rfl rfl (by decide +kernel)
set_option maxRecDepth 65536 in
theorem w_c18 : (Jvm.Cond.code ({ cls := "java/lang/Math", name := "max", desc := "(JJ)J" } : Jvm.MethodName) jdk_29_method_66_code (4 : Nat) (Option.some Jvm.ClassFile.FieldType.long)).before args0 about1 = true := code_word (m := ⟨25, 1⟩) (meth := k25m1) (c := k25c1) (by decide +kernel) rfl rfl rfl (by decide +kernel)
def codes1 : List Jvm.Cond := [Jvm.Cond.code x code maxLocals ret, Jvm.Cond.code ({ cls := "com/example/erpctl/erpctl/connectors/yallav/ListPlace", name := "<init>", desc := "()V" } : Jvm.MethodName) prog_3_method_1_code (1 : Nat) (Option.none : Option Jvm.ClassFile.FieldType), Jvm.Cond.code ({ cls := "java/lang/Object", name := "<init>", desc := "()V" } : Jvm.MethodName) object_method_1_code (1 : Nat) (Option.none : Option Jvm.ClassFile.FieldType), Jvm.Cond.code ({ cls := "java/util/LinkedHashSet", name := "<init>", desc := "()V" } : Jvm.MethodName) jdk_2620_method_3_code (1 : Nat) (Option.none : Option Jvm.ClassFile.FieldType), Jvm.Cond.code ({ cls := "java/util/HashSet", name := "<init>", desc := "(IFZ)V" } : Jvm.MethodName) jdk_93_method_5_code (4 : Nat) (Option.none : Option Jvm.ClassFile.FieldType), Jvm.Cond.code ({ cls := "java/util/AbstractSet", name := "<init>", desc := "()V" } : Jvm.MethodName) jdk_91_method_1_code (1 : Nat) (Option.none : Option Jvm.ClassFile.FieldType), Jvm.Cond.code ({ cls := "java/util/AbstractCollection", name := "<init>", desc := "()V" } : Jvm.MethodName) jdk_22_method_1_code (1 : Nat) (Option.none : Option Jvm.ClassFile.FieldType), Jvm.Cond.code ({ cls := "java/util/LinkedHashMap", name := "<init>", desc := "(IF)V" } : Jvm.MethodName) jdk_94_method_14_code (3 : Nat) (Option.none : Option Jvm.ClassFile.FieldType), Jvm.Cond.code ({ cls := "java/util/HashMap", name := "<init>", desc := "(IF)V" } : Jvm.MethodName) jdk_69_method_5_code (3 : Nat) (Option.none : Option Jvm.ClassFile.FieldType), Jvm.Cond.code ({ cls := "java/util/AbstractMap", name := "<init>", desc := "()V" } : Jvm.MethodName) jdk_71_method_1_code (1 : Nat) (Option.none : Option Jvm.ClassFile.FieldType), Jvm.Cond.code ({ cls := "java/lang/Float", name := "isNaN", desc := "(F)Z" } : Jvm.MethodName) jdk_118_method_6_code (1 : Nat) (Option.some Jvm.ClassFile.FieldType.boolean), Jvm.Cond.code ({ cls := "java/util/HashMap", name := "tableSizeFor", desc := "(I)I" } : Jvm.MethodName) jdk_69_method_4_code (2 : Nat) (Option.some Jvm.ClassFile.FieldType.int), Jvm.Cond.code ({ cls := "java/lang/Integer", name := "numberOfLeadingZeros", desc := "(I)I" } : Jvm.MethodName) jdk_33_method_47_code (2 : Nat) (Option.some Jvm.ClassFile.FieldType.int), Jvm.Cond.code ({ cls := "java/util/HashSet", name := "<init>", desc := "()V" } : Jvm.MethodName) jdk_93_method_1_code (1 : Nat) (Option.none : Option Jvm.ClassFile.FieldType), Jvm.Cond.code ({ cls := "java/util/HashMap", name := "<init>", desc := "()V" } : Jvm.MethodName) jdk_69_method_7_code (1 : Nat) (Option.none : Option Jvm.ClassFile.FieldType), Jvm.Cond.code ({ cls := "com/example/erpctl/erpctl/connectors/yallav/ListPlace", name := "moveOn", desc := "(IZ)Z" } : Jvm.MethodName) prog_3_method_6_code (3 : Nat) (Option.some Jvm.ClassFile.FieldType.boolean), Jvm.Cond.code ({ cls := "com/example/erpctl/erpctl/connectors/yallav/ListPlace", name := "skip", desc := "()J" } : Jvm.MethodName) prog_3_method_2_code (1 : Nat) (Option.some Jvm.ClassFile.FieldType.long), Jvm.Cond.code ({ cls := "com/example/erpctl/erpctl/connectors/yallav/ListPlace", name := "lookFurtherBack", desc := "()Z" } : Jvm.MethodName) prog_3_method_7_code (2 : Nat) (Option.some Jvm.ClassFile.FieldType.boolean), Jvm.Cond.code ({ cls := "java/lang/Math", name := "max", desc := "(JJ)J" } : Jvm.MethodName) jdk_29_method_66_code (4 : Nat) (Option.some Jvm.ClassFile.FieldType.long)]
set_option maxRecDepth 65536 in
theorem codes_eq : words1.filter isCode = codes1 := rfl
theorem w_codes : ∀ c ∈ words1.filter isCode, c.before args0 about1 = true := by
  rw [codes_eq]
  intro c hc
  simp only [codes1, List.mem_cons, List.not_mem_nil, or_false] at hc
  rcases hc with rfl | rfl | rfl | rfl | rfl | rfl | rfl | rfl | rfl | rfl | rfl | rfl | rfl | rfl | rfl | rfl | rfl | rfl | rfl
  · exact w_c0
  · exact w_c1
  · exact w_c2
  · exact w_c3
  · exact w_c4
  · exact w_c5
  · exact w_c6
  · exact w_c7
  · exact w_c8
  · exact w_c9
  · exact w_c10
  · exact w_c11
  · exact w_c12
  · exact w_c13
  · exact w_c14
  · exact w_c15
  · exact w_c16
  · exact w_c17
  · exact w_c18
set_option maxRecDepth 65536 in
theorem w_t1 : (words1.take 24).all (fun c => isCode c || c.before args0 about1) = true := by decide +kernel
set_option maxRecDepth 65536 in
theorem w_t2 : ((words1.drop 24).take 24).all (fun c => isCode c || c.before args0 about1) = true := by decide +kernel
set_option maxRecDepth 65536 in
theorem w_t3 : (((words1.drop 24).drop 24).take 24).all (fun c => isCode c || c.before args0 about1) = true := by decide +kernel
set_option maxRecDepth 65536 in
theorem w_t4 : ((((words1.drop 24).drop 24).drop 24).take 24).all (fun c => isCode c || c.before args0 about1) = true := by decide +kernel
set_option maxRecDepth 65536 in
theorem w_t5 : (((((words1.drop 24).drop 24).drop 24).drop 24).take 24).all (fun c => isCode c || c.before args0 about1) = true := by decide +kernel
set_option maxRecDepth 65536 in
theorem w_t6 : (((((words1.drop 24).drop 24).drop 24).drop 24).drop 24).all (fun c => isCode c || c.before args0 about1) = true := by decide +kernel
theorem w_tables : (allAtoms (Jvm.Cond.code x code maxLocals ret :: tables_1)).before args0 about1 = true := by
  rw [allAtoms_all]
  show words1.all (fun c => c.before args0 about1) = true
  refine all_split ?_ w_codes
  rw [← List.take_append_drop 24 words1, List.all_append, w_t1, ← List.take_append_drop 24 (words1.drop 24), List.all_append, w_t2, ← List.take_append_drop 24 ((words1.drop 24).drop 24), List.all_append, w_t3, ← List.take_append_drop 24 (((words1.drop 24).drop 24).drop 24), List.all_append, w_t4, ← List.take_append_drop 24 ((((words1.drop 24).drop 24).drop 24).drop 24), List.all_append, w_t5, w_t6]
  rfl
set_option maxRecDepth 65536 in
theorem w_case : (Jvm.Cond.and given_1 narrow_1).before args0 about1 = true := by decide +kernel
theorem w_applies : (headSpec (Jvm.Cond.code x code maxLocals ret :: tables_1) room_1).applies x e0.platform about1 = true :=
  (Spec.applies_iff w_frames).mpr ⟨w_running, w_runnable, w_alone, w_named, w_hears, w_ripe, w_room, w_tables⟩
theorem atStart : AtStart classFile x code maxLocals ret World_1 tables_1 room_1 Calls_1 rest_1 Pre_1 launch0 p0 e0 about1 theMethod args0 below0 :=
  ⟨lists_1, trivial, launch0.admits_env _ _ _, launch0.least_env, fairChoices_fair.cas, fairChoices_fair.clock, w_frames, w_args, w_heap, w_applies, trivial, trivial, w_case⟩
end start1
theorem witness_1 : WitnessClaimed_1 := ⟨start1.p0, start1.e0, start1.about1, start1.theMethod, start1.args0, start1.below0, start1.atStart⟩
end Jvm.Pilot.@@N@@

import JvmDerived
import JvmDerived.Pilot.@@N@@Statement
import JvmDerived.Pilot.@@N@@Code
set_option linter.unusedVariables false
set_option linter.unusedSimpArgs false
namespace Jvm.Pilot.@@N@@
open Jvm Jvm.ClassFile Sem Op Lib Jvm.Free Jvm.Stand Jvm.LawKit Jvm.RoadKit Bundle Jvm.Pilot.@@N@@.Jvm.D
/-! own layer: forward walking in continuation style, arrays as functions -/
def own_R (tb : Tables) (e : Env) (below : List Frame) (P : State → Outcome → Prop) (st : State) : Prop := ∃ t o, Steps tb e below st t ∧ P t o
theorem own_fwd {tb : Tables} {e : Env} {below : List Frame} {P : State → Outcome → Prop} {st st' : State} (k : ∀ t, Steps tb e below st' t → Steps tb e below st t) (h : own_R tb e below P st') : own_R tb e below P st := by
  obtain ⟨t, o, h1, h2⟩ := h; exact ⟨t, o, k t h1, h2⟩
theorem own_trn {tb : Tables} {e : Env} {below : List Frame} {P : State → Outcome → Prop} {st st' : State} (k : Steps tb e below st st') (h : own_R tb e below P st') : own_R tb e below P st := own_fwd (fun _ q => k.trans q) h
theorem own_nm {tb : Tables} {e : Env} {below : List Frame} {P : State → Outcome → Prop} {st : State} (h : ∀ P' : State → Outcome → Prop, (∀ t o, P t o → P' t o) → own_R tb e below P' st) : own_R tb e below P st := h P fun _ _ q => q
/-- an array, n long, place i holds f i -/
def own_AV (Z : State) (h : Heap) (a : Addr) (ty : FieldType) (n : Nat) (f : Nat → Value) : Prop := ∃ c : Cell, Arr Z h a c ty ∧ c.slots.size = n ∧ n < 2 ^ 31 ∧ ∀ i, i < n → c.slots[i]? = some (f i)
abbrev own_AI (Z : State) (h : Heap) (a : Addr) (ty : FieldType) (n : Nat) (f : Nat → Int32) : Prop := own_AV Z h a ty n fun i => .int (f i)
abbrev own_AJ (Z : State) (h : Heap) (a : Addr) (n : Nat) (f : Nat → Int64) : Prop := own_AV Z h a .long n fun i => .long (f i)
def own_upd {α : Type} (f : Nat → α) (i : Nat) (x : α) : Nat → α := fun k => if k = i then x else f k
theorem own_upd_hit {α : Type} (f : Nat → α) (i : Nat) (x : α) : own_upd f i x i = x := if_pos rfl
theorem own_upd_miss {α : Type} (f : Nat → α) {i k : Nat} (x : α) (q : k ≠ i) : own_upd f i x k = f k := if_neg q
section Own
variable {p : Program} {l : Launch} {e : Env} {R : Room} {s : State} {m : MethodId} {args : Array Value} {below : List Frame} {meth : Method} {c : Code} {T : State} {locs : List Loc} {cells slots : Nat} {Z : State} {a0 : Array Value} {h h' : Heap} {a b : Addr} {ty : FieldType} {n : Nat} {f : Nat → Value} {v : Value} {sl : Nat}
theorem own_AV.lt (F : own_AV Z h a ty n f) : a < h.size := by obtain ⟨c, A, -⟩ := F; exact A.lt
theorem own_AV.bd (F : own_AV Z h a ty n f) : n < 2 ^ 31 := by obtain ⟨c, A, -, q, -⟩ := F; exact q
theorem own_AV.ext (F : own_AV Z h a ty n f) (E : Ext h h') : own_AV Z h' a ty n f := by obtain ⟨c, A, r⟩ := F; exact ⟨c, A.ext E, r⟩
theorem own_AV.other (F : own_AV Z h b ty n f) (W : Wr h h' a sl v) (q : b ≠ a) : own_AV Z h' b ty n f := by obtain ⟨c, A, r⟩ := F; exact ⟨c, A.other W q, r⟩
theorem own_AV.keep {ws : List Addr} (F : own_AV Z h a ty n f) (K : Keep h h' ws) (q : a ∉ ws) : own_AV Z h' a ty n f := by obtain ⟨c, A, r⟩ := F; exact ⟨c, ⟨K.2.1 a c A.1 q, A.2⟩, r⟩
theorem own_AV.cong {f' : Nat → Value} (F : own_AV Z h a ty n f) (q : ∀ i, i < n → f' i = f i) : own_AV Z h a ty n f' := by obtain ⟨c, A, r1, r2, r3⟩ := F; exact ⟨c, A, r1, r2, fun i hi => by rw [q i hi]; exact r3 i hi⟩
theorem own_clamp {j : Int32} {i : Nat} (hj : j.toInt = (i : Int)) : j.toNatClampNeg = i ∧ ¬ j < 0 := by
  have q0 : (0 : Int32).toInt = 0 := rfl
  exact ⟨by unfold Int32.toNatClampNeg; omega, by rw [Int32.lt_iff_toInt_lt]; omega⟩
theorem own_inb {cl : Cell} {j : Int32} {i : Nat} (hj : j.toInt = (i : Int)) (S : cl.slots.size = n) (hi : i < n) : ¬ (j < 0 ∨ cl.slots.size ≤ j.toNatClampNeg) := by
  obtain ⟨q1, q2⟩ := own_clamp hj
  rw [q1]; rintro (q | q)
  · exact q2 q
  · omega
theorem own_AV.new {k : ClassId} {z : Int32} (A : Arr Z h a (newA k ty z) ty) (hz : z.toInt = (n : Int)) : own_AV Z h a ty n (fun _ => defaultValue ty) := by
  obtain ⟨q1, q2⟩ := own_clamp hz
  have hb := z.toInt_lt
  refine ⟨_, A, by rw [sz_new]; exact q1, by omega, fun i hi => ?_⟩
  simp [newA, q1, hi]
theorem own_ldI (X : Stand p l e R s m args below meth c T locs cells slots) (hx : p.tables.exec = Jvm.exec) (hZ : Z.Warmed39 s.vm) (eT : T.heap = h) (F : own_AV Z h a .int n f) {j : Int32} (i : Nat) (hj : j.toInt = (i : Int)) (hi : i < n) {g : JFrame} (hg : g.method = m) {rest : List Value} (hs : g.stack = .int j :: .ref a :: rest) (hd : decode c.code g.pc = .ok (.iaload, 1)) :
    ∀ t, Steps p.tables e below (T.setTop { g with pc := g.pc + 1, stack := f i :: rest }) t → Steps p.tables e below (T.setTop g) t := fun t k => by
  obtain ⟨cl, A, S, -, H⟩ := F
  exact X.iaload hx (by rw [eT]; exact A.1) (State.isArrayOf_alike hZ.alike A.2.1) A.2.2 (own_inb hj S hi) (by rw [(own_clamp hj).1]; exact H i hi) hg hs hd t k
theorem own_ldS (X : Stand p l e R s m args below meth c T locs cells slots) (hx : p.tables.exec = Jvm.exec) (hZ : Z.Warmed39 s.vm) (eT : T.heap = h) (F : own_AV Z h a .short n f) {j : Int32} (i : Nat) (hj : j.toInt = (i : Int)) (hi : i < n) {g : JFrame} (hg : g.method = m) {rest : List Value} (hs : g.stack = .int j :: .ref a :: rest) (hd : decode c.code g.pc = .ok (.saload, 1)) :
    ∀ t, Steps p.tables e below (T.setTop { g with pc := g.pc + 1, stack := f i :: rest }) t → Steps p.tables e below (T.setTop g) t := fun t k => by
  obtain ⟨cl, A, S, -, H⟩ := F
  exact X.saload hx (by rw [eT]; exact A.1) (State.isArrayOf_alike hZ.alike A.2.1) A.2.2 (own_inb hj S hi) (by rw [(own_clamp hj).1]; exact H i hi) hg hs hd t k
theorem own_ldC (X : Stand p l e R s m args below meth c T locs cells slots) (hx : p.tables.exec = Jvm.exec) (hZ : Z.Warmed39 s.vm) (eT : T.heap = h) (F : own_AV Z h a .char n f) {j : Int32} (i : Nat) (hj : j.toInt = (i : Int)) (hi : i < n) {g : JFrame} (hg : g.method = m) {rest : List Value} (hs : g.stack = .int j :: .ref a :: rest) (hd : decode c.code g.pc = .ok (.caload, 1)) :
    ∀ t, Steps p.tables e below (T.setTop { g with pc := g.pc + 1, stack := f i :: rest }) t → Steps p.tables e below (T.setTop g) t := fun t k => by
  obtain ⟨cl, A, S, -, H⟩ := F
  exact X.caload hx (by rw [eT]; exact A.1) (State.isArrayOf_alike hZ.alike A.2.1) A.2.2 (own_inb hj S hi) (by rw [(own_clamp hj).1]; exact H i hi) hg hs hd t k
theorem own_ldJ (X : Stand p l e R s m args below meth c T locs cells slots) (hx : p.tables.exec = Jvm.exec) (hZ : Z.Warmed39 s.vm) (eT : T.heap = h) (F : own_AV Z h a .long n f) {j : Int32} (i : Nat) (hj : j.toInt = (i : Int)) (hi : i < n) {g : JFrame} (hg : g.method = m) {rest : List Value} (hs : g.stack = .int j :: .ref a :: rest) (hd : decode c.code g.pc = .ok (.laload, 1)) :
    ∀ t, Steps p.tables e below (T.setTop { g with pc := g.pc + 1, stack := f i :: rest }) t → Steps p.tables e below (T.setTop g) t := fun t k => by
  obtain ⟨cl, A, S, -, H⟩ := F
  exact X.laload hx (by rw [eT]; exact A.1) (State.isArrayOf_alike hZ.alike A.2.1) A.2.2 (own_inb hj S hi) (by rw [(own_clamp hj).1]; exact H i hi) hg hs hd t k
theorem own_len (X : Stand p l e R s m args below meth c T locs cells slots) (hx : p.tables.exec = Jvm.exec) (hZ : Z.Warmed39 s.vm) (eT : T.heap = h) (F : own_AV Z h a ty n f) (z : Int32) (hz : z.toInt = (n : Int)) {g : JFrame} (hg : g.method = m) {rest : List Value} (hs : g.stack = .ref a :: rest) (hd : decode c.code g.pc = .ok (.arraylength, 1)) :
    ∀ t, Steps p.tables e below (T.setTop { g with pc := g.pc + 1, stack := .int z :: rest }) t → Steps p.tables e below (T.setTop g) t := fun t k => by
  obtain ⟨cl, A, S, q, H⟩ := F
  have e1 : cl.slots.size.toInt32 = z := by
    rw [S]; apply Int32.toInt_inj.mp; rw [hz]; exact len_toInt q
  refine X.arraylength hx (by rw [eT]; exact A.1) (State.isArrayOf_alike hZ.alike A.2.1) hg hs hd t ?_
  rw [e1]; exact k
theorem own_AV.set {h' : Heap} {cl : Cell} {j : Int32} {i : Nat} {w : Value} (A : Arr Z h a cl ty) (S : cl.slots.size = n) (q : n < 2 ^ 31) (H : ∀ i, i < n → cl.slots[i]? = some (f i)) (hj : j.toInt = (i : Int)) (hi : i < n) (W : Wr h h' a j.toNatClampNeg w) : own_AV Z h' a ty n (own_upd f i w) := by
  rw [(own_clamp hj).1] at W
  refine ⟨_, A.same W, by rw [sz_set]; exact S, q, fun k hk => ?_⟩
  by_cases e : k = i
  · subst e; rw [own_upd_hit]; simp [Cell.setSlot, S, hi]
  · rw [own_upd_miss _ _ e]; simp only [Cell.setSlot]; rw [Array.getElem?_setIfInBounds_ne (Ne.symm e)]; exact H k hk
theorem own_stI {g0 : Nat → Int32} (X : Stand p l e R s m args below meth c T locs cells slots) (hx : p.tables.exec = Jvm.exec) (hZ : Z.Warmed39 s.vm) (eT : T.heap = h) (F : own_AI Z h a .int n g0) {j x : Int32} (i : Nat) (hj : j.toInt = (i : Int)) (hi : i < n) {g : JFrame} (hg : g.method = m) {rest : List Value} (hs : g.stack = .int x :: .int j :: .ref a :: rest) (hd : decode c.code g.pc = .ok (.iastore, 1)) :
    ∃ T' h', Stand p l e R s m args below meth c T' (locs ++ [⟨a, j.toNatClampNeg⟩]) cells slots ∧ T'.heap = h' ∧ Wr h h' a j.toNatClampNeg (.int x) ∧ own_AI Z h' a .int n (own_upd g0 i x) ∧ ∀ t, Steps p.tables e below (T'.setTop { g with pc := g.pc + 1, stack := rest }) t → Steps p.tables e below (T.setTop g) t := by
  obtain ⟨cl, A, S, q, H⟩ := F
  obtain ⟨T', h', X', e', W, st⟩ := stI X hx hZ eT A (own_inb hj S hi) hg hs hd
  exact ⟨T', h', X', e', W, (own_AV.set A S q H hj hi W).cong fun k _ => by simp only [own_upd]; split <;> rfl, st⟩
theorem own_stS {g0 : Nat → Int32} (X : Stand p l e R s m args below meth c T locs cells slots) (hx : p.tables.exec = Jvm.exec) (hZ : Z.Warmed39 s.vm) (eT : T.heap = h) (F : own_AI Z h a .short n g0) {j x : Int32} (i : Nat) (hj : j.toInt = (i : Int)) (hi : i < n) {g : JFrame} (hg : g.method = m) {rest : List Value} (hs : g.stack = .int x :: .int j :: .ref a :: rest) (hd : decode c.code g.pc = .ok (.sastore, 1)) :
    ∃ T' h', Stand p l e R s m args below meth c T' (locs ++ [⟨a, j.toNatClampNeg⟩]) cells slots ∧ T'.heap = h' ∧ Wr h h' a j.toNatClampNeg (.int (nar .short x)) ∧ own_AI Z h' a .short n (own_upd g0 i (nar .short x)) ∧ ∀ t, Steps p.tables e below (T'.setTop { g with pc := g.pc + 1, stack := rest }) t → Steps p.tables e below (T.setTop g) t := by
  obtain ⟨cl, A, S, q, H⟩ := F
  obtain ⟨T', h', X', e', W, st⟩ := stS X hx hZ eT A (own_inb hj S hi) hg hs hd
  exact ⟨T', h', X', e', W, (own_AV.set A S q H hj hi W).cong fun k _ => by simp only [own_upd]; split <;> rfl, st⟩
theorem own_stC {g0 : Nat → Int32} (X : Stand p l e R s m args below meth c T locs cells slots) (hx : p.tables.exec = Jvm.exec) (hZ : Z.Warmed39 s.vm) (eT : T.heap = h) (F : own_AI Z h a .char n g0) {j x : Int32} (i : Nat) (hj : j.toInt = (i : Int)) (hi : i < n) {g : JFrame} (hg : g.method = m) {rest : List Value} (hs : g.stack = .int x :: .int j :: .ref a :: rest) (hd : decode c.code g.pc = .ok (.castore, 1)) :
    ∃ T' h', Stand p l e R s m args below meth c T' (locs ++ [⟨a, j.toNatClampNeg⟩]) cells slots ∧ T'.heap = h' ∧ Wr h h' a j.toNatClampNeg (.int (nar .char x)) ∧ own_AI Z h' a .char n (own_upd g0 i (nar .char x)) ∧ ∀ t, Steps p.tables e below (T'.setTop { g with pc := g.pc + 1, stack := rest }) t → Steps p.tables e below (T.setTop g) t := by
  obtain ⟨cl, A, S, q, H⟩ := F
  obtain ⟨T', h', X', e', W, st⟩ := stC X hx hZ eT A (own_inb hj S hi) hg hs hd
  exact ⟨T', h', X', e', W, (own_AV.set A S q H hj hi W).cong fun k _ => by simp only [own_upd]; split <;> rfl, st⟩
theorem own_stJ {g0 : Nat → Int64} (X : Stand p l e R s m args below meth c T locs cells slots) (hx : p.tables.exec = Jvm.exec) (hZ : Z.Warmed39 s.vm) (eT : T.heap = h) (F : own_AJ Z h a n g0) {j : Int32} {x : Int64} (i : Nat) (hj : j.toInt = (i : Int)) (hi : i < n) {g : JFrame} (hg : g.method = m) {rest : List Value} (hs : g.stack = .long x :: .int j :: .ref a :: rest) (hd : decode c.code g.pc = .ok (.lastore, 1)) :
    ∃ T' h', Stand p l e R s m args below meth c T' (locs ++ [⟨a, j.toNatClampNeg⟩]) cells slots ∧ T'.heap = h' ∧ Wr h h' a j.toNatClampNeg (.long x) ∧ own_AJ Z h' a n (own_upd g0 i x) ∧ ∀ t, Steps p.tables e below (T'.setTop { g with pc := g.pc + 1, stack := rest }) t → Steps p.tables e below (T.setTop g) t := by
  obtain ⟨cl, A, S, q, H⟩ := F
  obtain ⟨T', h', X', e', W, st⟩ := stJ X hx hZ eT A (own_inb hj S hi) hg hs hd
  exact ⟨T', h', X', e', W, (own_AV.set A S q H hj hi W).cong fun k _ => by simp only [own_upd]; split <;> rfl, st⟩
theorem own_newA (X : Stand p l e R s m args below meth c T locs cells slots) (hx : p.tables.exec = Jvm.exec) (hZ : Z.Warmed39 s.vm) {aty : ArrayType} (w : (Cond.arrayClass (newarray.typeOf aty)).before a0 Z = true) (eT : T.heap = h) {z : Int32} (hz : z.toInt = (n : Int)) {cap : Nat} (hcap : n ≤ cap) {g : JFrame} (hg : g.method = m) (hd : decode c.code g.pc = .ok (.newarray aty, 2)) {rest : List Value} (hs : g.stack = .int z :: rest)
    (hb : cap * 8 ≤ 536870912) (hc : cells + 1 ≤ R.cells) (hl : slots + cap ≤ R.slots) {ad : String} (had : "[" ++ (newarray.typeOf aty).toString = ad) :
    ∃ T' h' b, b = h.size ∧ Stand p l e R s m args below meth c T' locs (cells + 1) (slots + cap) ∧ T'.heap = h' ∧ Ext h h' ∧ own_AV Z h' b (newarray.typeOf aty) n (fun _ => defaultValue (newarray.typeOf aty)) ∧ Exa Z h' b ad ∧
      ∀ t, Steps p.tables e below (T'.setTop { g with pc := g.pc + 2, stack := .ref b :: rest }) t → Steps p.tables e below (T.setTop g) t := by
  obtain ⟨q1, q2⟩ := own_clamp hz
  obtain ⟨T', h', k, X', e', E, A, Ea, st⟩ := newPE X hx hZ w eT hg hd hs q2 (by rw [q1]; exact hcap) hb hc hl had
  exact ⟨T', h', _, rfl, X', e', E, own_AV.new A hz, Ea, st⟩
end Own
def own_two {α : Type} (x y : α) : Nat → α
  | 0 => x
  | _ => y
theorem own_nlt {i n : Nat} (hi : i < n) (hn : n < 2 ^ 31) : i.toInt32 < n.toInt32 := by
  rw [Int32.lt_iff_toInt_lt, len_toInt hn, len_toInt (by omega)]; omega
theorem own_nge {i n : Nat} (hi : n ≤ i) (hn : i < 2 ^ 31) : ¬ i.toInt32 < n.toInt32 := by
  rw [Int32.lt_iff_toInt_lt, len_toInt hn, len_toInt (by omega)]; omega
theorem own_nsucc {i : Nat} (hn : i + 1 < 2 ^ 31) : i.toInt32 + (1 : Int32) = (i + 1).toInt32 := by
  have e1 : (1 : Int32).toInt = 1 := rfl
  have h1 := c_iadd i.toInt32 1
  have h2 := rng32 (i.toInt32 + 1)
  rw [← Int32.toInt_inj, len_toInt hn]
  rw [len_toInt (by omega), e1] at h1
  omega
theorem own_and3 (x : Int32) : (x &&& (3 : Int32)) = 0 ∨ (x &&& (3 : Int32)) = 1 ∨ (x &&& (3 : Int32)) = 2 ∨ (x &&& (3 : Int32)) = 3 := by
  have h := c_mask x 3 2 (by decide) (by decide)
  have e : ((2 ^ 2 : Nat) : Int) = 4 := by decide
  rw [e] at h
  have e0 : (0 : Int32).toInt = 0 := rfl
  have e1 : (1 : Int32).toInt = 1 := rfl
  have e2 : (2 : Int32).toInt = 2 := rfl
  have e3 : (3 : Int32).toInt = 3 := rfl
  simp only [← Int32.toInt_inj]
  omega
theorem own_d1_0 : decode prog_53_method_5_code 0 = .ok (.iload_n 0, 1) := by decide +kernel
theorem own_d1_1 : decode prog_53_method_5_code 1 = .ok (.bipush 100, 2) := by decide +kernel
theorem own_d1_3 : decode prog_53_method_5_code 3 = .ok (.if_icmp .gt 7, 3) := by decide +kernel
theorem own_d1_6 : decode prog_53_method_5_code 6 = .ok (.iconst 1, 1) := by decide +kernel
theorem own_d1_7 : decode prog_53_method_5_code 7 = .ok (.goto 4, 3) := by decide +kernel
theorem own_d1_10 : decode prog_53_method_5_code 10 = .ok (.iconst 0, 1) := by decide +kernel
theorem own_d1_11 : decode prog_53_method_5_code 11 = .ok (.ireturn, 1) := by decide +kernel
theorem own_pn0 : plainName "com/example/grantee/grantee/service/RequestedAcl" = true := by first | (simp [plainName, overriddenIn]; done) | decide +kernel
theorem own_ef1 (m : MethodId) (p1 : Int32) : entryFrame m #[(.int p1)] 1 = mkF m 0 #[.val (.int p1)] [] := by first | (simp [entryFrame, mkF, argsToLocals, Value.category]; done) | rfl
def own_Q1 (Z : State) (p1 : Int32) (h0 : Heap) (n0 : Nat) (v : Option Value) (h : Heap) (L : List Loc) : Prop := v = some (.int (if (100 : Int32) < p1 then (0 : Int32) else (1 : Int32))) ∧ Fr n0 L ∧ h = h0
set_option maxRecDepth 65536 in
set_option maxHeartbeats 40000000 in
theorem own_rm1 (l : Launch) (Z : State) (a0 : Array Value) (hw : ∀ d ∈ tables_1, d.before a0 Z = true) (ws : List Jvm.Cond) (p1 : Int32) (h0 : Heap) (n0 : Nat) (Z0 : n0 ≤ h0.size) :
    MetFree l (⟨"com/example/grantee/grantee/service/RequestedAcl", "withinGrantLimit", "(I)Z"⟩ : MethodName) (head1 (Jvm.Cond.code (⟨"com/example/grantee/grantee/service/RequestedAcl", "withinGrantLimit", "(I)Z"⟩ : MethodName) prog_53_method_5_code 1 (some .boolean) :: ws) ({ frames := 0, cells := 0, slots := 0, locals := 0 } : Room)) (fun a U => a = #[(.int p1)] ∧ Z.Warmed39 U.vm ∧ U.heap = h0) (fun _ _ _ _ _ => True) (fun _ U o U' => ∃ v L, o = .returned v ∧ own_Q1 Z p1 h0 n0 v U'.heap L ∧ FrameEnd U o U' L ({ frames := 0, cells := 0, slots := 0, locals := 0 } : Room).cells ({ frames := 0, cells := 0, slots := 0, locals := 0 } : Room).slots) := by
  refine MetFree.of_bodySF (plainFor_of_name own_pn0) hisR ?_
  intro p e s m args below meth c s₁ Bd hml0 hP hK
  obtain ⟨rfl, hZ, hh⟩ := hP
  have hx := Bd.exec
  have hby := Bd.bytes
  have hml : c.maxLocals = 1 := hml0
  have hown : s.vm.findClass "com/example/grantee/grantee/service/RequestedAcl" = some m.cls := findClass_of_methodNamed Bd.named
  have hnm := (name_of_methodNamed Bd.named Bd.method).1
  have X0 : Stand p l e ({ frames := 0, cells := 0, slots := 0, locals := 0 } : Room) s m #[(.int p1)] below meth c s₁ [] 0 0 := Stand.of_body Bd
  have e0 : s₁.heap = h0 := by rw [← hh, Bd.state]; rfl
  have N0 := Fr.nil n0
  refine own_nm (st := s₁.setTop (entryFrame m #[(.int p1)] 1)) fun P fin => ?_
  refine own_fwd (fun t k => castTop (own_ef1 m p1) k) ?_
  show own_R p.tables e below P (s₁.setTop (mkF m 0 #[.val (.int p1)] []))
  refine own_fwd (fun t k => XS.iloadN X0.here hx rfl (hb hby own_d1_0) rfl k) ?_
  show own_R p.tables e below P (s₁.setTop (mkF m 1 #[.val (.int p1)] [(.int p1)]))
  refine own_fwd (fun t k => XS.bipush X0.here hx rfl (hb hby own_d1_1) k) ?_
  show own_R p.tables e below P (s₁.setTop (mkF m 3 #[.val (.int p1)] [(.int (100 : Int32)), (.int p1)]))
  by_cases hc1 : (100 : Int32) < p1
  · refine own_fwd (fun t k => XS.icmpYes X0.here hx rfl (pc0 := 3) (pc' := 10) rfl (hb hby own_d1_3) rfl (tlt hc1).2.2.1 (by decide) (by decide) k) ?_
    show own_R p.tables e below P (s₁.setTop (mkF m 10 #[.val (.int p1)] []))
    refine own_fwd (fun t k => XS.iconst X0.here hx rfl (hb hby own_d1_10) k) ?_
    show own_R p.tables e below P (s₁.setTop (mkF m 11 #[.val (.int p1)] [(.int (0 : Int32))]))
    obtain ⟨fs2, hr2, hrun2, hended2, hW2, hsame2⟩ := X0.leave (v := some (.int (0 : Int32))) (fun h => by rw [Bd.returns] at h; cases h)
    refine ⟨_, _, X0.ireturnOut hx (w := (0 : Int32)) Bd.returns rfl (by simp) (hb hby own_d1_11) hr2, fin _ _ ⟨hrun2, hended2, _, _, rfl, ?_, ⟨_, rfl⟩, hW2, hsame2.mono (by decide) (by decide)⟩⟩
    show own_Q1 Z p1 h0 n0 _ s₁.heap _
    rw [e0]
    exact ⟨by rw [if_pos hc1], N0, rfl⟩
  · refine own_fwd (fun t k => XS.icmpNo X0.here hx rfl (hb hby own_d1_3) rfl (flt hc1).2.2.1 k) ?_
    show own_R p.tables e below P (s₁.setTop (mkF m 6 #[.val (.int p1)] []))
    refine own_fwd (fun t k => XS.iconst X0.here hx rfl (hb hby own_d1_6) k) ?_
    show own_R p.tables e below P (s₁.setTop (mkF m 7 #[.val (.int p1)] [(.int (1 : Int32))]))
    refine own_fwd (fun t k => XS.goto X0.here hx rfl (pc0 := 7) (pc' := 11) rfl (hb hby own_d1_7) (by decide) (by decide) k) ?_
    show own_R p.tables e below P (s₁.setTop (mkF m 11 #[.val (.int p1)] [(.int (1 : Int32))]))
    obtain ⟨fs3, hr3, hrun3, hended3, hW3, hsame3⟩ := X0.leave (v := some (.int (1 : Int32))) (fun h => by rw [Bd.returns] at h; cases h)
    refine ⟨_, _, X0.ireturnOut hx (w := (1 : Int32)) Bd.returns rfl (by simp) (hb hby own_d1_11) hr3, fin _ _ ⟨hrun3, hended3, _, _, rfl, ?_, ⟨_, rfl⟩, hW3, hsame3.mono (by decide) (by decide)⟩⟩
    show own_Q1 Z p1 h0 n0 _ s₁.heap _
    rw [e0]
    exact ⟨by rw [if_neg hc1], N0, rfl⟩
theorem own_pn1 : plainName "com/example/grantee/grantee/service/RequestedAclWithinGrantLimitPinLaw" = true := by first | (simp [plainName, overriddenIn]; done) | decide +kernel
theorem own_pd0 : parseMethodDescriptor "(I)Z" = some ⟨[.int], some .boolean⟩ := by decide +kernel
theorem own_eflaw (m : MethodId) (p0 : Int32) (p1 : Int32) : entryFrame m #[(.int p0), (.int p1)] maxLocals = mkF m 0 #[.val (.int p0), .val (.int p1), .unset, .unset, .unset, .unset, .unset] [] := by first | (simp [entryFrame, mkF, argsToLocals, Value.category, maxLocals]; done) | rfl
def own_Qlaw (Z : State) (p0 p1 : Int32) (h0 : Heap) (n0 : Nat) (v : Option Value) (h : Heap) (L : List Loc) : Prop := v = some (.int 1) ∧ Fr n0 L
set_option maxRecDepth 65536 in
set_option maxHeartbeats 40000000 in
theorem own_rmlaw (l : Launch) (Z : State) (a0 : Array Value) (hw : ∀ d ∈ tables_1, d.before a0 Z = true) (ws : List Jvm.Cond) (p0 p1 : Int32) (h0 : Heap) (n0 : Nat) (Z0 : n0 ≤ h0.size) :
    MetFree l x (head1 (Jvm.Cond.code x code maxLocals ret :: ws) room_1) (fun a U => a = #[(.int p0), (.int p1)] ∧ Z.Warmed39 U.vm ∧ U.heap = h0) (fun _ _ _ _ _ => True) (fun _ U o U' => ∃ v L, o = .returned v ∧ own_Qlaw Z p0 p1 h0 n0 v U'.heap L ∧ FrameEnd U o U' L 0 0) := by
  refine MetFree.of_bodySF (plainFor_of_name own_pn1) hisR ?_
  intro p e s m args below meth c s₁ Bd hml0 hP hK
  obtain ⟨rfl, hZ, hh⟩ := hP
  have hx := Bd.exec
  have hby := Bd.bytes
  have hml : c.maxLocals = 7 := hml0
  have hown : s.vm.findClass "com/example/grantee/grantee/service/RequestedAclWithinGrantLimitPinLaw" = some m.cls := findClass_of_methodNamed Bd.named
  have hnm := (name_of_methodNamed Bd.named Bd.method).1
  have X0 : Stand p l e room_1 s m #[(.int p0), (.int p1)] below meth c s₁ [] 0 0 := Stand.of_body Bd
  have e0 : s₁.heap = h0 := by rw [← hh, Bd.state]; rfl
  have N0 := Fr.nil n0
  refine own_nm (st := s₁.setTop (entryFrame m #[(.int p0), (.int p1)] maxLocals)) fun P fin => ?_
  refine own_fwd (fun t k => castTop (own_eflaw m p0 p1) k) ?_
  show own_R p.tables e below P (s₁.setTop (mkF m 0 #[.val (.int p0), .val (.int p1), .unset, .unset, .unset, .unset, .unset] []))
  refine own_fwd (fun t k => XS.bipush X0.here hx rfl (hb hby at_0) k) ?_
  show own_R p.tables e below P (s₁.setTop (mkF m 2 #[.val (.int p0), .val (.int p1), .unset, .unset, .unset, .unset, .unset] [(.int (100 : Int32))]))
  obtain ⟨_, _, ⟨T4, L4, k4, n4⟩, -, X4, ⟨Lc4, hQ4, l4, y4, z4⟩, st4⟩ := Jvm.LawKit.callS X0 hx (y := (⟨"com/example/grantee/grantee/service/RequestedAcl", "withinGrantLimit", "(I)Z"⟩ : MethodName)) hown (mvT hZ (hw _ (List.mem_of_getElem? (i := 0) rfl))) (mvT hZ (hw _ (List.mem_of_getElem? (i := 1) rfl))) (mvT hZ (hw _ (List.mem_of_getElem? (i := 2) rfl))) (mvT hZ (hw _ (List.mem_of_getElem? (i := 3) rfl))) (by decide) (backOf (W := 0) (own_rm1 l Z a0 hw [] (100 : Int32) h0 n0 Z0 ) hZ (hw _ (List.mem_of_getElem? (i := 3) rfl)) (hw _ (List.mem_of_getElem? (i := 2) rfl)) (by decide) (by decide)) (g := (mkF m 2 #[.val (.int p0), .val (.int p1), .unset, .unset, .unset, .unset, .unset] [(.int (100 : Int32))])) rfl (by rw [hml]; rfl) (argsL := [(.int (100 : Int32))]) (rest := []) (lenOf own_pd0 rfl) rfl (by show 2 * 0 + _ ≤ _; exact Nat.le_of_eq rfl) (hb hby at_2) (fun _ _ => ⟨rfl, e0, (by decide : 0 + 0 ≤ _), (by decide : 0 + 0 ≤ _)⟩)
  dsimp only [Pt.U, Pt.locs, Pt.cells, Pt.slots] at X4 l4 y4 z4 st4 hQ4
  subst l4 y4 z4
  obtain ⟨h4, e4⟩ : ∃ z, T4.heap = z := ⟨_, rfl⟩
  rw [e4] at hQ4
  obtain ⟨hq4, N4q, q4⟩ := hQ4
  rw [q4] at e4
  subst hq4
  have N4 := Fr.app N0 N4q
  refine own_fwd st4 ?_
  show own_R p.tables e below P (T4.setTop (mkF m 5 #[.val (.int p0), .val (.int p1), .unset, .unset, .unset, .unset, .unset] [(.int (if (100 : Int32) < (100 : Int32) then (0 : Int32) else (1 : Int32)))]))
  have hv5 : (if (100 : Int32) < (100 : Int32) then (0 : Int32) else (1 : Int32)) = (1 : Int32) := by decide
  rw [hv5]
  show own_R p.tables e below P (T4.setTop (mkF m 5 #[.val (.int p0), .val (.int p1), .unset, .unset, .unset, .unset, .unset] [(.int (1 : Int32))]))
  refine own_fwd (fun t k => XS.istoreN X4.here hx rfl (hb hby at_5) rfl (l' := #[.val (.int p0), .val (.int p1), .val (.int (1 : Int32)), .unset, .unset, .unset, .unset]) rfl k) ?_
  show own_R p.tables e below P (T4.setTop (mkF m 6 #[.val (.int p0), .val (.int p1), .val (.int (1 : Int32)), .unset, .unset, .unset, .unset] []))
  refine own_fwd (fun t k => XS.bipush X4.here hx rfl (hb hby at_6) k) ?_
  show own_R p.tables e below P (T4.setTop (mkF m 8 #[.val (.int p0), .val (.int p1), .val (.int (1 : Int32)), .unset, .unset, .unset, .unset] [(.int (101 : Int32))]))
  obtain ⟨_, _, ⟨T6, L6, k6, n6⟩, -, X6, ⟨Lc6, hQ6, l6, y6, z6⟩, st6⟩ := Jvm.LawKit.callS X4 hx (y := (⟨"com/example/grantee/grantee/service/RequestedAcl", "withinGrantLimit", "(I)Z"⟩ : MethodName)) hown (mvT hZ (hw _ (List.mem_of_getElem? (i := 0) rfl))) (mvT hZ (hw _ (List.mem_of_getElem? (i := 1) rfl))) (mvT hZ (hw _ (List.mem_of_getElem? (i := 2) rfl))) (mvT hZ (hw _ (List.mem_of_getElem? (i := 3) rfl))) (by decide) (backOf (W := 0) (own_rm1 l Z a0 hw [] (101 : Int32) h0 n0 Z0 ) hZ (hw _ (List.mem_of_getElem? (i := 3) rfl)) (hw _ (List.mem_of_getElem? (i := 2) rfl)) (by decide) (by decide)) (g := (mkF m 8 #[.val (.int p0), .val (.int p1), .val (.int (1 : Int32)), .unset, .unset, .unset, .unset] [(.int (101 : Int32))])) rfl (by rw [hml]; rfl) (argsL := [(.int (101 : Int32))]) (rest := []) (lenOf own_pd0 rfl) rfl (by show 2 * 0 + _ ≤ _; exact Nat.le_of_eq rfl) (hb hby at_8) (fun _ _ => ⟨rfl, e4, (by decide : 0 + 0 ≤ _), (by decide : 0 + 0 ≤ _)⟩)
  dsimp only [Pt.U, Pt.locs, Pt.cells, Pt.slots] at X6 l6 y6 z6 st6 hQ6
  subst l6 y6 z6
  obtain ⟨h6, e6⟩ : ∃ z, T6.heap = z := ⟨_, rfl⟩
  rw [e6] at hQ6
  obtain ⟨hq6, N6q, q6⟩ := hQ6
  rw [q6] at e6
  subst hq6
  have N6 := Fr.app N4 N6q
  refine own_fwd st6 ?_
  show own_R p.tables e below P (T6.setTop (mkF m 11 #[.val (.int p0), .val (.int p1), .val (.int (1 : Int32)), .unset, .unset, .unset, .unset] [(.int (if (100 : Int32) < (101 : Int32) then (0 : Int32) else (1 : Int32)))]))
  have hv7 : (if (100 : Int32) < (101 : Int32) then (0 : Int32) else (1 : Int32)) = (0 : Int32) := by decide
  rw [hv7]
  show own_R p.tables e below P (T6.setTop (mkF m 11 #[.val (.int p0), .val (.int p1), .val (.int (1 : Int32)), .unset, .unset, .unset, .unset] [(.int (0 : Int32))]))
  refine own_fwd (fun t k => XS.istoreN X6.here hx rfl (hb hby at_11) rfl (l' := #[.val (.int p0), .val (.int p1), .val (.int (1 : Int32)), .val (.int (0 : Int32)), .unset, .unset, .unset]) rfl k) ?_
  show own_R p.tables e below P (T6.setTop (mkF m 12 #[.val (.int p0), .val (.int p1), .val (.int (1 : Int32)), .val (.int (0 : Int32)), .unset, .unset, .unset] []))
  refine own_fwd (fun t k => XS.iloadN X6.here hx rfl (hb hby at_12) rfl k) ?_
  show own_R p.tables e below P (T6.setTop (mkF m 13 #[.val (.int p0), .val (.int p1), .val (.int (1 : Int32)), .val (.int (0 : Int32)), .unset, .unset, .unset] [(.int p0)]))
  obtain ⟨_, _, ⟨T8, L8, k8, n8⟩, -, X8, ⟨Lc8, hQ8, l8, y8, z8⟩, st8⟩ := Jvm.LawKit.callS X6 hx (y := (⟨"com/example/grantee/grantee/service/RequestedAcl", "withinGrantLimit", "(I)Z"⟩ : MethodName)) hown (mvT hZ (hw _ (List.mem_of_getElem? (i := 0) rfl))) (mvT hZ (hw _ (List.mem_of_getElem? (i := 1) rfl))) (mvT hZ (hw _ (List.mem_of_getElem? (i := 2) rfl))) (mvT hZ (hw _ (List.mem_of_getElem? (i := 3) rfl))) (by decide) (backOf (W := 0) (own_rm1 l Z a0 hw [] p0 h0 n0 Z0 ) hZ (hw _ (List.mem_of_getElem? (i := 3) rfl)) (hw _ (List.mem_of_getElem? (i := 2) rfl)) (by decide) (by decide)) (g := (mkF m 13 #[.val (.int p0), .val (.int p1), .val (.int (1 : Int32)), .val (.int (0 : Int32)), .unset, .unset, .unset] [(.int p0)])) rfl (by rw [hml]; rfl) (argsL := [(.int p0)]) (rest := []) (lenOf own_pd0 rfl) rfl (by show 2 * 0 + _ ≤ _; exact Nat.le_of_eq rfl) (hb hby at_13) (fun _ _ => ⟨rfl, e6, (by decide : 0 + 0 ≤ _), (by decide : 0 + 0 ≤ _)⟩)
  dsimp only [Pt.U, Pt.locs, Pt.cells, Pt.slots] at X8 l8 y8 z8 st8 hQ8
  subst l8 y8 z8
  obtain ⟨h8, e8⟩ : ∃ z, T8.heap = z := ⟨_, rfl⟩
  rw [e8] at hQ8
  obtain ⟨hq8, N8q, q8⟩ := hQ8
  rw [q8] at e8
  subst hq8
  have N8 := Fr.app N6 N8q
  refine own_fwd st8 ?_
  show own_R p.tables e below P (T8.setTop (mkF m 16 #[.val (.int p0), .val (.int p1), .val (.int (1 : Int32)), .val (.int (0 : Int32)), .unset, .unset, .unset] [(.int (if (100 : Int32) < p0 then (0 : Int32) else (1 : Int32)))]))
  refine own_fwd (fun t k => XS.istore X8.here hx rfl (hb hby at_16) rfl (l' := #[.val (.int p0), .val (.int p1), .val (.int (1 : Int32)), .val (.int (0 : Int32)), .val (.int (if (100 : Int32) < p0 then (0 : Int32) else (1 : Int32))), .unset, .unset]) rfl k) ?_
  show own_R p.tables e below P (T8.setTop (mkF m 18 #[.val (.int p0), .val (.int p1), .val (.int (1 : Int32)), .val (.int (0 : Int32)), .val (.int (if (100 : Int32) < p0 then (0 : Int32) else (1 : Int32))), .unset, .unset] []))
  refine own_fwd (fun t k => XS.iloadN X8.here hx rfl (hb hby at_18) rfl k) ?_
  show own_R p.tables e below P (T8.setTop (mkF m 19 #[.val (.int p0), .val (.int p1), .val (.int (1 : Int32)), .val (.int (0 : Int32)), .val (.int (if (100 : Int32) < p0 then (0 : Int32) else (1 : Int32))), .unset, .unset] [(.int p1)]))
  obtain ⟨_, _, ⟨T9, L9, k9, n9⟩, -, X9, ⟨Lc9, hQ9, l9, y9, z9⟩, st9⟩ := Jvm.LawKit.callS X8 hx (y := (⟨"com/example/grantee/grantee/service/RequestedAcl", "withinGrantLimit", "(I)Z"⟩ : MethodName)) hown (mvT hZ (hw _ (List.mem_of_getElem? (i := 0) rfl))) (mvT hZ (hw _ (List.mem_of_getElem? (i := 1) rfl))) (mvT hZ (hw _ (List.mem_of_getElem? (i := 2) rfl))) (mvT hZ (hw _ (List.mem_of_getElem? (i := 3) rfl))) (by decide) (backOf (W := 0) (own_rm1 l Z a0 hw [] p1 h0 n0 Z0 ) hZ (hw _ (List.mem_of_getElem? (i := 3) rfl)) (hw _ (List.mem_of_getElem? (i := 2) rfl)) (by decide) (by decide)) (g := (mkF m 19 #[.val (.int p0), .val (.int p1), .val (.int (1 : Int32)), .val (.int (0 : Int32)), .val (.int (if (100 : Int32) < p0 then (0 : Int32) else (1 : Int32))), .unset, .unset] [(.int p1)])) rfl (by rw [hml]; rfl) (argsL := [(.int p1)]) (rest := []) (lenOf own_pd0 rfl) rfl (by show 2 * 0 + _ ≤ _; exact Nat.le_of_eq rfl) (hb hby at_19) (fun _ _ => ⟨rfl, e8, (by decide : 0 + 0 ≤ _), (by decide : 0 + 0 ≤ _)⟩)
  dsimp only [Pt.U, Pt.locs, Pt.cells, Pt.slots] at X9 l9 y9 z9 st9 hQ9
  subst l9 y9 z9
  obtain ⟨h9, e9⟩ : ∃ z, T9.heap = z := ⟨_, rfl⟩
  rw [e9] at hQ9
  obtain ⟨hq9, N9q, q9⟩ := hQ9
  rw [q9] at e9
  subst hq9
  have N9 := Fr.app N8 N9q
  refine own_fwd st9 ?_
  show own_R p.tables e below P (T9.setTop (mkF m 22 #[.val (.int p0), .val (.int p1), .val (.int (1 : Int32)), .val (.int (0 : Int32)), .val (.int (if (100 : Int32) < p0 then (0 : Int32) else (1 : Int32))), .unset, .unset] [(.int (if (100 : Int32) < p1 then (0 : Int32) else (1 : Int32)))]))
  refine own_fwd (fun t k => XS.istore X9.here hx rfl (hb hby at_22) rfl (l' := #[.val (.int p0), .val (.int p1), .val (.int (1 : Int32)), .val (.int (0 : Int32)), .val (.int (if (100 : Int32) < p0 then (0 : Int32) else (1 : Int32))), .val (.int (if (100 : Int32) < p1 then (0 : Int32) else (1 : Int32))), .unset]) rfl k) ?_
  show own_R p.tables e below P (T9.setTop (mkF m 24 #[.val (.int p0), .val (.int p1), .val (.int (1 : Int32)), .val (.int (0 : Int32)), .val (.int (if (100 : Int32) < p0 then (0 : Int32) else (1 : Int32))), .val (.int (if (100 : Int32) < p1 then (0 : Int32) else (1 : Int32))), .unset] []))
  refine own_fwd (fun t k => XS.iconst X9.here hx rfl (hb hby at_24) k) ?_
  show own_R p.tables e below P (T9.setTop (mkF m 25 #[.val (.int p0), .val (.int p1), .val (.int (1 : Int32)), .val (.int (0 : Int32)), .val (.int (if (100 : Int32) < p0 then (0 : Int32) else (1 : Int32))), .val (.int (if (100 : Int32) < p1 then (0 : Int32) else (1 : Int32))), .unset] [(.int (1 : Int32))]))
  refine own_fwd (fun t k => XS.istore X9.here hx rfl (hb hby at_25) rfl (l' := #[.val (.int p0), .val (.int p1), .val (.int (1 : Int32)), .val (.int (0 : Int32)), .val (.int (if (100 : Int32) < p0 then (0 : Int32) else (1 : Int32))), .val (.int (if (100 : Int32) < p1 then (0 : Int32) else (1 : Int32))), .val (.int (1 : Int32))]) rfl k) ?_
  show own_R p.tables e below P (T9.setTop (mkF m 27 #[.val (.int p0), .val (.int p1), .val (.int (1 : Int32)), .val (.int (0 : Int32)), .val (.int (if (100 : Int32) < p0 then (0 : Int32) else (1 : Int32))), .val (.int (if (100 : Int32) < p1 then (0 : Int32) else (1 : Int32))), .val (.int (1 : Int32))] []))
  refine own_fwd (fun t k => XS.iloadN X9.here hx rfl (hb hby at_27) rfl k) ?_
  show own_R p.tables e below P (T9.setTop (mkF m 28 #[.val (.int p0), .val (.int p1), .val (.int (1 : Int32)), .val (.int (0 : Int32)), .val (.int (if (100 : Int32) < p0 then (0 : Int32) else (1 : Int32))), .val (.int (if (100 : Int32) < p1 then (0 : Int32) else (1 : Int32))), .val (.int (1 : Int32))] [(.int p1)]))
  refine own_fwd (fun t k => XS.iloadN X9.here hx rfl (hb hby at_28) rfl k) ?_
  show own_R p.tables e below P (T9.setTop (mkF m 29 #[.val (.int p0), .val (.int p1), .val (.int (1 : Int32)), .val (.int (0 : Int32)), .val (.int (if (100 : Int32) < p0 then (0 : Int32) else (1 : Int32))), .val (.int (if (100 : Int32) < p1 then (0 : Int32) else (1 : Int32))), .val (.int (1 : Int32))] [(.int p0), (.int p1)]))
  by_cases hc10 : p0 < p1
  · refine own_fwd (fun t k => XS.icmpYes X9.here hx rfl (pc0 := 29) (pc' := 41) rfl (hb hby at_29) rfl (tlt hc10).2.2.1 (by decide) (by decide) k) ?_
    show own_R p.tables e below P (T9.setTop (mkF m 41 #[.val (.int p0), .val (.int p1), .val (.int (1 : Int32)), .val (.int (0 : Int32)), .val (.int (if (100 : Int32) < p0 then (0 : Int32) else (1 : Int32))), .val (.int (if (100 : Int32) < p1 then (0 : Int32) else (1 : Int32))), .val (.int (1 : Int32))] []))
    refine own_fwd (fun t k => XS.iloadN X9.here hx rfl (hb hby at_41) rfl k) ?_
    show own_R p.tables e below P (T9.setTop (mkF m 42 #[.val (.int p0), .val (.int p1), .val (.int (1 : Int32)), .val (.int (0 : Int32)), .val (.int (if (100 : Int32) < p0 then (0 : Int32) else (1 : Int32))), .val (.int (if (100 : Int32) < p1 then (0 : Int32) else (1 : Int32))), .val (.int (1 : Int32))] [(.int (1 : Int32))]))
    have hc11 : ¬ ((1 : Int32) = (0 : Int32)) := (by decide)
    refine own_fwd (fun t k => XS.ifNo X9.here hx rfl (hb hby at_42) rfl ((if0 _ _).trans (feq hc11).1) k) ?_
    show own_R p.tables e below P (T9.setTop (mkF m 45 #[.val (.int p0), .val (.int p1), .val (.int (1 : Int32)), .val (.int (0 : Int32)), .val (.int (if (100 : Int32) < p0 then (0 : Int32) else (1 : Int32))), .val (.int (if (100 : Int32) < p1 then (0 : Int32) else (1 : Int32))), .val (.int (1 : Int32))] []))
    refine own_fwd (fun t k => XS.iloadN X9.here hx rfl (hb hby at_45) rfl k) ?_
    show own_R p.tables e below P (T9.setTop (mkF m 46 #[.val (.int p0), .val (.int p1), .val (.int (1 : Int32)), .val (.int (0 : Int32)), .val (.int (if (100 : Int32) < p0 then (0 : Int32) else (1 : Int32))), .val (.int (if (100 : Int32) < p1 then (0 : Int32) else (1 : Int32))), .val (.int (1 : Int32))] [(.int (0 : Int32))]))
    have hc12 : (0 : Int32) = (0 : Int32) := (by decide)
    refine own_fwd (fun t k => XS.ifNo X9.here hx rfl (hb hby at_46) rfl ((if0 _ _).trans (teq hc12).2) k) ?_
    show own_R p.tables e below P (T9.setTop (mkF m 49 #[.val (.int p0), .val (.int p1), .val (.int (1 : Int32)), .val (.int (0 : Int32)), .val (.int (if (100 : Int32) < p0 then (0 : Int32) else (1 : Int32))), .val (.int (if (100 : Int32) < p1 then (0 : Int32) else (1 : Int32))), .val (.int (1 : Int32))] []))
    refine own_fwd (fun t k => XS.iload X9.here hx rfl (hb hby at_49) rfl k) ?_
    show own_R p.tables e below P (T9.setTop (mkF m 51 #[.val (.int p0), .val (.int p1), .val (.int (1 : Int32)), .val (.int (0 : Int32)), .val (.int (if (100 : Int32) < p0 then (0 : Int32) else (1 : Int32))), .val (.int (if (100 : Int32) < p1 then (0 : Int32) else (1 : Int32))), .val (.int (1 : Int32))] [(.int (1 : Int32))]))
    have hc13 : ¬ ((1 : Int32) = (0 : Int32)) := (by decide)
    refine own_fwd (fun t k => XS.ifNo X9.here hx rfl (hb hby at_51) rfl ((if0 _ _).trans (feq hc13).1) k) ?_
    show own_R p.tables e below P (T9.setTop (mkF m 54 #[.val (.int p0), .val (.int p1), .val (.int (1 : Int32)), .val (.int (0 : Int32)), .val (.int (if (100 : Int32) < p0 then (0 : Int32) else (1 : Int32))), .val (.int (if (100 : Int32) < p1 then (0 : Int32) else (1 : Int32))), .val (.int (1 : Int32))] []))
    refine own_fwd (fun t k => XS.iconst X9.here hx rfl (hb hby at_54) k) ?_
    show own_R p.tables e below P (T9.setTop (mkF m 55 #[.val (.int p0), .val (.int p1), .val (.int (1 : Int32)), .val (.int (0 : Int32)), .val (.int (if (100 : Int32) < p0 then (0 : Int32) else (1 : Int32))), .val (.int (if (100 : Int32) < p1 then (0 : Int32) else (1 : Int32))), .val (.int (1 : Int32))] [(.int (1 : Int32))]))
    refine own_fwd (fun t k => XS.goto X9.here hx rfl (pc0 := 55) (pc' := 59) rfl (hb hby at_55) (by decide) (by decide) k) ?_
    show own_R p.tables e below P (T9.setTop (mkF m 59 #[.val (.int p0), .val (.int p1), .val (.int (1 : Int32)), .val (.int (0 : Int32)), .val (.int (if (100 : Int32) < p0 then (0 : Int32) else (1 : Int32))), .val (.int (if (100 : Int32) < p1 then (0 : Int32) else (1 : Int32))), .val (.int (1 : Int32))] [(.int (1 : Int32))]))
    obtain ⟨fs14, hr14, hrun14, hended14, hW14, hsame14⟩ := X9.leave (v := some (.int (1 : Int32))) (fun h => by rw [Bd.returns] at h; cases h)
    refine ⟨_, _, X9.ireturnOut hx (w := (1 : Int32)) Bd.returns rfl (by simp) (hb hby at_59) hr14, fin _ _ ⟨hrun14, hended14, _, _, rfl, ?_, ⟨_, rfl⟩, hW14, hsame14.mono (by decide) (by decide)⟩⟩
    show own_Qlaw Z p0 p1 h0 n0 _ T9.heap _
    rw [e9]
    exact ⟨rfl, N9⟩
  · refine own_fwd (fun t k => XS.icmpNo X9.here hx rfl (hb hby at_29) rfl (flt hc10).2.2.1 k) ?_
    show own_R p.tables e below P (T9.setTop (mkF m 32 #[.val (.int p0), .val (.int p1), .val (.int (1 : Int32)), .val (.int (0 : Int32)), .val (.int (if (100 : Int32) < p0 then (0 : Int32) else (1 : Int32))), .val (.int (if (100 : Int32) < p1 then (0 : Int32) else (1 : Int32))), .val (.int (1 : Int32))] []))
    refine own_fwd (fun t k => XS.iload X9.here hx rfl (hb hby at_32) rfl k) ?_
    show own_R p.tables e below P (T9.setTop (mkF m 34 #[.val (.int p0), .val (.int p1), .val (.int (1 : Int32)), .val (.int (0 : Int32)), .val (.int (if (100 : Int32) < p0 then (0 : Int32) else (1 : Int32))), .val (.int (if (100 : Int32) < p1 then (0 : Int32) else (1 : Int32))), .val (.int (1 : Int32))] [(.int (if (100 : Int32) < p0 then (0 : Int32) else (1 : Int32)))]))
    by_cases hc15 : (if (100 : Int32) < p0 then (0 : Int32) else (1 : Int32)) = (0 : Int32)
    · refine own_fwd (fun t k => XS.ifYes X9.here hx rfl (pc0 := 34) (pc' := 41) rfl (hb hby at_34) rfl ((if0 _ _).trans (teq hc15).1) (by decide) (by decide) k) ?_
      show own_R p.tables e below P (T9.setTop (mkF m 41 #[.val (.int p0), .val (.int p1), .val (.int (1 : Int32)), .val (.int (0 : Int32)), .val (.int (if (100 : Int32) < p0 then (0 : Int32) else (1 : Int32))), .val (.int (if (100 : Int32) < p1 then (0 : Int32) else (1 : Int32))), .val (.int (1 : Int32))] []))
      refine own_fwd (fun t k => XS.iloadN X9.here hx rfl (hb hby at_41) rfl k) ?_
      show own_R p.tables e below P (T9.setTop (mkF m 42 #[.val (.int p0), .val (.int p1), .val (.int (1 : Int32)), .val (.int (0 : Int32)), .val (.int (if (100 : Int32) < p0 then (0 : Int32) else (1 : Int32))), .val (.int (if (100 : Int32) < p1 then (0 : Int32) else (1 : Int32))), .val (.int (1 : Int32))] [(.int (1 : Int32))]))
      have hc16 : ¬ ((1 : Int32) = (0 : Int32)) := (by decide)
      refine own_fwd (fun t k => XS.ifNo X9.here hx rfl (hb hby at_42) rfl ((if0 _ _).trans (feq hc16).1) k) ?_
      show own_R p.tables e below P (T9.setTop (mkF m 45 #[.val (.int p0), .val (.int p1), .val (.int (1 : Int32)), .val (.int (0 : Int32)), .val (.int (if (100 : Int32) < p0 then (0 : Int32) else (1 : Int32))), .val (.int (if (100 : Int32) < p1 then (0 : Int32) else (1 : Int32))), .val (.int (1 : Int32))] []))
      refine own_fwd (fun t k => XS.iloadN X9.here hx rfl (hb hby at_45) rfl k) ?_
      show own_R p.tables e below P (T9.setTop (mkF m 46 #[.val (.int p0), .val (.int p1), .val (.int (1 : Int32)), .val (.int (0 : Int32)), .val (.int (if (100 : Int32) < p0 then (0 : Int32) else (1 : Int32))), .val (.int (if (100 : Int32) < p1 then (0 : Int32) else (1 : Int32))), .val (.int (1 : Int32))] [(.int (0 : Int32))]))
      have hc17 : (0 : Int32) = (0 : Int32) := (by decide)
      refine own_fwd (fun t k => XS.ifNo X9.here hx rfl (hb hby at_46) rfl ((if0 _ _).trans (teq hc17).2) k) ?_
      show own_R p.tables e below P (T9.setTop (mkF m 49 #[.val (.int p0), .val (.int p1), .val (.int (1 : Int32)), .val (.int (0 : Int32)), .val (.int (if (100 : Int32) < p0 then (0 : Int32) else (1 : Int32))), .val (.int (if (100 : Int32) < p1 then (0 : Int32) else (1 : Int32))), .val (.int (1 : Int32))] []))
      refine own_fwd (fun t k => XS.iload X9.here hx rfl (hb hby at_49) rfl k) ?_
      show own_R p.tables e below P (T9.setTop (mkF m 51 #[.val (.int p0), .val (.int p1), .val (.int (1 : Int32)), .val (.int (0 : Int32)), .val (.int (if (100 : Int32) < p0 then (0 : Int32) else (1 : Int32))), .val (.int (if (100 : Int32) < p1 then (0 : Int32) else (1 : Int32))), .val (.int (1 : Int32))] [(.int (1 : Int32))]))
      have hc18 : ¬ ((1 : Int32) = (0 : Int32)) := (by decide)
      refine own_fwd (fun t k => XS.ifNo X9.here hx rfl (hb hby at_51) rfl ((if0 _ _).trans (feq hc18).1) k) ?_
      show own_R p.tables e below P (T9.setTop (mkF m 54 #[.val (.int p0), .val (.int p1), .val (.int (1 : Int32)), .val (.int (0 : Int32)), .val (.int (if (100 : Int32) < p0 then (0 : Int32) else (1 : Int32))), .val (.int (if (100 : Int32) < p1 then (0 : Int32) else (1 : Int32))), .val (.int (1 : Int32))] []))
      refine own_fwd (fun t k => XS.iconst X9.here hx rfl (hb hby at_54) k) ?_
      show own_R p.tables e below P (T9.setTop (mkF m 55 #[.val (.int p0), .val (.int p1), .val (.int (1 : Int32)), .val (.int (0 : Int32)), .val (.int (if (100 : Int32) < p0 then (0 : Int32) else (1 : Int32))), .val (.int (if (100 : Int32) < p1 then (0 : Int32) else (1 : Int32))), .val (.int (1 : Int32))] [(.int (1 : Int32))]))
      refine own_fwd (fun t k => XS.goto X9.here hx rfl (pc0 := 55) (pc' := 59) rfl (hb hby at_55) (by decide) (by decide) k) ?_
      show own_R p.tables e below P (T9.setTop (mkF m 59 #[.val (.int p0), .val (.int p1), .val (.int (1 : Int32)), .val (.int (0 : Int32)), .val (.int (if (100 : Int32) < p0 then (0 : Int32) else (1 : Int32))), .val (.int (if (100 : Int32) < p1 then (0 : Int32) else (1 : Int32))), .val (.int (1 : Int32))] [(.int (1 : Int32))]))
      obtain ⟨fs19, hr19, hrun19, hended19, hW19, hsame19⟩ := X9.leave (v := some (.int (1 : Int32))) (fun h => by rw [Bd.returns] at h; cases h)
      refine ⟨_, _, X9.ireturnOut hx (w := (1 : Int32)) Bd.returns rfl (by simp) (hb hby at_59) hr19, fin _ _ ⟨hrun19, hended19, _, _, rfl, ?_, ⟨_, rfl⟩, hW19, hsame19.mono (by decide) (by decide)⟩⟩
      show own_Qlaw Z p0 p1 h0 n0 _ T9.heap _
      rw [e9]
      exact ⟨rfl, N9⟩
    · refine own_fwd (fun t k => XS.ifNo X9.here hx rfl (hb hby at_34) rfl ((if0 _ _).trans (feq hc15).1) k) ?_
      show own_R p.tables e below P (T9.setTop (mkF m 37 #[.val (.int p0), .val (.int p1), .val (.int (1 : Int32)), .val (.int (0 : Int32)), .val (.int (if (100 : Int32) < p0 then (0 : Int32) else (1 : Int32))), .val (.int (if (100 : Int32) < p1 then (0 : Int32) else (1 : Int32))), .val (.int (1 : Int32))] []))
      refine own_fwd (fun t k => XS.iload X9.here hx rfl (hb hby at_37) rfl k) ?_
      show own_R p.tables e below P (T9.setTop (mkF m 39 #[.val (.int p0), .val (.int p1), .val (.int (1 : Int32)), .val (.int (0 : Int32)), .val (.int (if (100 : Int32) < p0 then (0 : Int32) else (1 : Int32))), .val (.int (if (100 : Int32) < p1 then (0 : Int32) else (1 : Int32))), .val (.int (1 : Int32))] [(.int (if (100 : Int32) < p1 then (0 : Int32) else (1 : Int32)))]))
      refine own_fwd (fun t k => XS.istore X9.here hx rfl (hb hby at_39) rfl (l' := #[.val (.int p0), .val (.int p1), .val (.int (1 : Int32)), .val (.int (0 : Int32)), .val (.int (if (100 : Int32) < p0 then (0 : Int32) else (1 : Int32))), .val (.int (if (100 : Int32) < p1 then (0 : Int32) else (1 : Int32))), .val (.int (if (100 : Int32) < p1 then (0 : Int32) else (1 : Int32)))]) rfl k) ?_
      show own_R p.tables e below P (T9.setTop (mkF m 41 #[.val (.int p0), .val (.int p1), .val (.int (1 : Int32)), .val (.int (0 : Int32)), .val (.int (if (100 : Int32) < p0 then (0 : Int32) else (1 : Int32))), .val (.int (if (100 : Int32) < p1 then (0 : Int32) else (1 : Int32))), .val (.int (if (100 : Int32) < p1 then (0 : Int32) else (1 : Int32)))] []))
      refine own_fwd (fun t k => XS.iloadN X9.here hx rfl (hb hby at_41) rfl k) ?_
      show own_R p.tables e below P (T9.setTop (mkF m 42 #[.val (.int p0), .val (.int p1), .val (.int (1 : Int32)), .val (.int (0 : Int32)), .val (.int (if (100 : Int32) < p0 then (0 : Int32) else (1 : Int32))), .val (.int (if (100 : Int32) < p1 then (0 : Int32) else (1 : Int32))), .val (.int (if (100 : Int32) < p1 then (0 : Int32) else (1 : Int32)))] [(.int (1 : Int32))]))
      have hc20 : ¬ ((1 : Int32) = (0 : Int32)) := (by decide)
      refine own_fwd (fun t k => XS.ifNo X9.here hx rfl (hb hby at_42) rfl ((if0 _ _).trans (feq hc20).1) k) ?_
      show own_R p.tables e below P (T9.setTop (mkF m 45 #[.val (.int p0), .val (.int p1), .val (.int (1 : Int32)), .val (.int (0 : Int32)), .val (.int (if (100 : Int32) < p0 then (0 : Int32) else (1 : Int32))), .val (.int (if (100 : Int32) < p1 then (0 : Int32) else (1 : Int32))), .val (.int (if (100 : Int32) < p1 then (0 : Int32) else (1 : Int32)))] []))
      refine own_fwd (fun t k => XS.iloadN X9.here hx rfl (hb hby at_45) rfl k) ?_
      show own_R p.tables e below P (T9.setTop (mkF m 46 #[.val (.int p0), .val (.int p1), .val (.int (1 : Int32)), .val (.int (0 : Int32)), .val (.int (if (100 : Int32) < p0 then (0 : Int32) else (1 : Int32))), .val (.int (if (100 : Int32) < p1 then (0 : Int32) else (1 : Int32))), .val (.int (if (100 : Int32) < p1 then (0 : Int32) else (1 : Int32)))] [(.int (0 : Int32))]))
      have hc21 : (0 : Int32) = (0 : Int32) := (by decide)
      refine own_fwd (fun t k => XS.ifNo X9.here hx rfl (hb hby at_46) rfl ((if0 _ _).trans (teq hc21).2) k) ?_
      show own_R p.tables e below P (T9.setTop (mkF m 49 #[.val (.int p0), .val (.int p1), .val (.int (1 : Int32)), .val (.int (0 : Int32)), .val (.int (if (100 : Int32) < p0 then (0 : Int32) else (1 : Int32))), .val (.int (if (100 : Int32) < p1 then (0 : Int32) else (1 : Int32))), .val (.int (if (100 : Int32) < p1 then (0 : Int32) else (1 : Int32)))] []))
      refine own_fwd (fun t k => XS.iload X9.here hx rfl (hb hby at_49) rfl k) ?_
      show own_R p.tables e below P (T9.setTop (mkF m 51 #[.val (.int p0), .val (.int p1), .val (.int (1 : Int32)), .val (.int (0 : Int32)), .val (.int (if (100 : Int32) < p0 then (0 : Int32) else (1 : Int32))), .val (.int (if (100 : Int32) < p1 then (0 : Int32) else (1 : Int32))), .val (.int (if (100 : Int32) < p1 then (0 : Int32) else (1 : Int32)))] [(.int (if (100 : Int32) < p1 then (0 : Int32) else (1 : Int32)))]))
      have hc22 : ¬ ((if (100 : Int32) < p1 then (0 : Int32) else (1 : Int32)) = (0 : Int32)) := by
            have q1 : ¬ ((100 : Int32) < p0) := fun q => hc15 (if_pos q)
            have q2 : ¬ ((100 : Int32) < p1) := fun q => q1 (by have q3 := hc10; rw [Int32.lt_iff_toInt_lt] at q q3 ⊢; omega)
            rw [if_neg q2]; decide
      refine own_fwd (fun t k => XS.ifNo X9.here hx rfl (hb hby at_51) rfl ((if0 _ _).trans (feq hc22).1) k) ?_
      show own_R p.tables e below P (T9.setTop (mkF m 54 #[.val (.int p0), .val (.int p1), .val (.int (1 : Int32)), .val (.int (0 : Int32)), .val (.int (if (100 : Int32) < p0 then (0 : Int32) else (1 : Int32))), .val (.int (if (100 : Int32) < p1 then (0 : Int32) else (1 : Int32))), .val (.int (if (100 : Int32) < p1 then (0 : Int32) else (1 : Int32)))] []))
      refine own_fwd (fun t k => XS.iconst X9.here hx rfl (hb hby at_54) k) ?_
      show own_R p.tables e below P (T9.setTop (mkF m 55 #[.val (.int p0), .val (.int p1), .val (.int (1 : Int32)), .val (.int (0 : Int32)), .val (.int (if (100 : Int32) < p0 then (0 : Int32) else (1 : Int32))), .val (.int (if (100 : Int32) < p1 then (0 : Int32) else (1 : Int32))), .val (.int (if (100 : Int32) < p1 then (0 : Int32) else (1 : Int32)))] [(.int (1 : Int32))]))
      refine own_fwd (fun t k => XS.goto X9.here hx rfl (pc0 := 55) (pc' := 59) rfl (hb hby at_55) (by decide) (by decide) k) ?_
      show own_R p.tables e below P (T9.setTop (mkF m 59 #[.val (.int p0), .val (.int p1), .val (.int (1 : Int32)), .val (.int (0 : Int32)), .val (.int (if (100 : Int32) < p0 then (0 : Int32) else (1 : Int32))), .val (.int (if (100 : Int32) < p1 then (0 : Int32) else (1 : Int32))), .val (.int (if (100 : Int32) < p1 then (0 : Int32) else (1 : Int32)))] [(.int (1 : Int32))]))
      obtain ⟨fs23, hr23, hrun23, hended23, hW23, hsame23⟩ := X9.leave (v := some (.int (1 : Int32))) (fun h => by rw [Bd.returns] at h; cases h)
      refine ⟨_, _, X9.ireturnOut hx (w := (1 : Int32)) Bd.returns rfl (by simp) (hb hby at_59) hr23, fin _ _ ⟨hrun23, hended23, _, _, rfl, ?_, ⟨_, rfl⟩, hW23, hsame23.mono (by decide) (by decide)⟩⟩
      show own_Qlaw Z p0 p1 h0 n0 _ T9.heap _
      rw [e9]
      exact ⟨rfl, N9⟩
set_option maxRecDepth 65536 in
set_option maxHeartbeats 40000000 in
theorem own_comes {Post : Tables → Env → Array Value → State → Outcome → State → Prop} (hpost : ∀ tb e args s v u, (limb_1_1.after args s (.returned v) u = true ∧ limb_1_2.after args s (.returned v) u = true ∧ True) → FrameEnd s (.returned v) u (Jvm.fieldLocs frame_1_writes args s ++ Jvm.arrayLocs frame_1_arrays args s ++ Jvm.staticLocs frame_1_statics s) 0 0 → Post tb e args s (.returned v) u) :
    ArmFor flags0 classFile x code maxLocals ret World_1 tables_1 room_1 Calls_1 rest_1 Pre_1 Post := by
  intro l hfl _ _ p e ha hc hk s m args below hf hA hF happ hP
  obtain ⟨hcalls, hrest, hpre⟩ := hP
  obtain ⟨-, -, -, hnamed, -, -, -, hat⟩ := (Spec.applies_iff hf).mp happ
  obtain ⟨hg, hn⟩ := and_e (Cond.before_iff.mp (show (Jvm.Cond.and given_1 narrow_1).before args s = true from hpre))
  obtain ⟨g1, g2⟩ := and_e hg
  obtain ⟨g3, g4⟩ := and_e g2
  obtain ⟨w0, w1, rfl⟩ : ∃ w0 w1 : Value, args = #[w0, w1] := by
    have hs : args.size = 2 := by simpa [Cond.value, given_1] using g1
    obtain ⟨L⟩ := args
    match L, hs with
    | [w0, w1], _ => exact ⟨w0, w1, rfl⟩
  have hw := fun d (hd : d ∈ tables_1) => atoms_spec (ws := Jvm.Cond.code x code maxLocals ret :: tables_1) hat d (List.mem_cons_of_mem _ hd)
  obtain ⟨i0, ei0⟩ := is_v g3
  obtain rfl : w0 = (.int i0) := Option.some.inj ei0
  obtain ⟨i1, ei1⟩ := is_v g4
  obtain rfl : w1 = (.int i1) := Option.some.inj ei1
  obtain ⟨n, o, h1, h2, h3, _, L, rfl, ⟨rfl, N⟩, hq⟩ := own_rmlaw l s _ hw tables_1 i0 i1 s.heap s.heap.size (Nat.le_refl _) p e ha hc hk s m _ below hf ((Spec.applies_iff_loose hf).mp happ).1 ⟨rfl, State.Warmed39.refl s, rfl⟩ trivial
  refine ⟨n, _, h1, h2, h3, hpost _ _ _ _ _ _ ⟨Cond.after_iff.mpr rfl, Cond.after_iff.mpr (eq_i res_at (Term.int_eval (1)) rfl), trivial⟩ ⟨hq.1, hq.2.1, (hq.2.2.sift fun y hy => Or.inr (N y hy)).mono (by decide) (by decide)⟩⟩
theorem main_1_1 : Claimed_1_1 := own_comes fun _ _ _ _ _ _ h hF => ⟨h.1, hF⟩
theorem main_1_2 : Claimed_1_2 := own_comes fun _ _ _ _ _ _ h hF => ⟨h.2.1, hF⟩
end Jvm.Pilot.@@N@@
namespace Jvm.Pilot.@@N@@
open Jvm Jvm.ClassFile Sem Op Lib Jvm.Free Jvm.Stand Jvm.Pilot.@@N@@.Jvm.D
/-! MADE BY PROGRAM (witnessworld.py) out of the Statement's table words and the real class files: 9 classes; the members and pool entries that the words name. The judged class is class 1, her method 1. -/
namespace start1
open Jvm.ClassFile
def u (s : String) : CpInfo := .utf8 (stringToUtf16 s)
/-- a pool by its gaps: so many unusable entries, then the entry; so many at the end -/
def gap : Nat → List CpInfo → List CpInfo
  | 0, r => r
  | n + 1, r => .unusable :: gap n r
def poolList (es : List (Nat × CpInfo)) (last : Nat) : List CpInfo := es.foldr (fun e r => gap e.1 (e.2 :: r)) (gap last [])
def pool (es : List (Nat × CpInfo)) (last : Nat) : Array CpInfo := ⟨poolList es last⟩
def fileOf (pool : Array CpInfo) (this : Nat) (attrs : Array Attribute := #[]) (ms : Array MethodInfo := #[]) (fl : Nat := 33) (sup : Nat := 0) (ifs : Array Nat := #[]) (fds : Array FieldInfo := #[]) : ClassFile where
  minorVersion := 0
  majorVersion := 65
  constantPool := pool
  accessFlags := fl
  thisClass := this
  superClass := sup
  interfaces := ifs
  fields := fds
  methods := ms
  attributes := attrs
def plain (name : String) (sup : Option ClassId) : Class where
  name := name
  kind := .ordinary
  loader := none
  accessFlags := 33
  super := sup
  interfaces := #[]
  cf := none
  fields := #[]
  methods := #[]
  instanceTypes := #[]
  staticTypes := #[]
  resolved := #[]
  callSites := []
  init := .initialized
  statics := none
  mirror := none

def pool0 : Array CpInfo := pool [(5, u "<init>"), (0, u "()V"), (1, .class_ 10), (1, u "java/lang/Object")] 113

def k0m0 : Method := { name := "<init>", desc := "()V", sig := { parameters := [], returnType := none }, accessFlags := 1, code := none }
/-- java/lang/Object -/
def k0 : Class := { plain "java/lang/Object" none with
  accessFlags := 33
  interfaces := #[]
  cf := some (fileOf pool0 8 #[] #[{ accessFlags := 1, nameIndex := 5, descriptorIndex := 6, attributes := #[] }] 33 0 #[] #[])
  fields := #[]
  methods := #[k0m0]
  instanceTypes := #[]
  staticTypes := #[]
  resolved := Array.replicate 124 none
  statics := none }

def pool1 : Array CpInfo := pool [(2, .class_ 4), (1, u "java/lang/Object"), (0, u "<init>"), (0, u "()V"), (2, .methodref 10 11), (0, .class_ 12), (0, .nameAndType 13 14), (0, u "com/example/grantee/grantee/service/RequestedAcl"), (0, u "withinGrantLimit"), (0, u "(I)Z"), (0, .class_ 16), (0, u "com/example/grantee/grantee/service/RequestedAclWithinGrantLimitPinLaw"), (2, u "law"), (0, u "(II)Z")] 3

def k1m0 : Method := { name := "<init>", desc := "()V", sig := { parameters := [], returnType := none }, accessFlags := 2, code := none }
def k1c1 : Code := { maxStack := 2, maxLocals := 7, code := code, exceptionTable := #[], attributes := #[] }
def k1m1 : Method := { name := "law", desc := "(II)Z", sig := { parameters := [.int, .int], returnType := some .boolean }, accessFlags := 9, code := some k1c1 }
/-- com/example/grantee/grantee/service/RequestedAclWithinGrantLimitPinLaw -/
def k1 : Class := { plain "com/example/grantee/grantee/service/RequestedAclWithinGrantLimitPinLaw" (some 0) with
  accessFlags := 49
  interfaces := #[]
  cf := some (fileOf pool1 15 #[] #[{ accessFlags := 2, nameIndex := 5, descriptorIndex := 6, attributes := #[] }, { accessFlags := 9, nameIndex := 19, descriptorIndex := 20, attributes := #[] }] 49 2 #[] #[])
  fields := #[]
  methods := #[k1m0, k1m1]
  instanceTypes := #[]
  staticTypes := #[]
  resolved := Array.replicate 24 none
  statics := none }

def pool2 : Array CpInfo := pool [(2, .class_ 4), (1, u "java/lang/Object"), (9, .class_ 16), (1, u "com/example/grantee/grantee/service/RequestedAcl"), (0, u "withinGrantLimit"), (0, u "(I)Z"), (17, u "canned"), (0, u "Ljava/util/Optional;"), (2, u "grants"), (0, u "Ljava/util/List;"), (2, u "statedOwnerId")] 122

def k2c0 : Code := { maxStack := 2, maxLocals := 1, code := prog_53_method_5_code, exceptionTable := #[], attributes := #[] }
def k2m0 : Method := { name := "withinGrantLimit", desc := "(I)Z", sig := { parameters := [.int], returnType := some .boolean }, accessFlags := 9, code := some k2c0 }
/-- com/example/grantee/grantee/service/RequestedAcl -/
def k2 : Class := { plain "com/example/grantee/grantee/service/RequestedAcl" (some 0) with
  accessFlags := 33
  interfaces := #[]
  cf := some (fileOf pool2 14 #[] #[{ accessFlags := 9, nameIndex := 17, descriptorIndex := 18, attributes := #[] }] 33 2 #[] #[{ accessFlags := 18, nameIndex := 36, descriptorIndex := 37, attributes := #[] }, { accessFlags := 18, nameIndex := 40, descriptorIndex := 41, attributes := #[] }, { accessFlags := 18, nameIndex := 44, descriptorIndex := 37, attributes := #[] }])
  fields := #[{ name := "canned", type := (.object "java/util/Optional"), accessFlags := 18, slot := 0, constantValue := 0 }, { name := "grants", type := (.object "java/util/List"), accessFlags := 18, slot := 1, constantValue := 0 }, { name := "statedOwnerId", type := (.object "java/util/Optional"), accessFlags := 18, slot := 2, constantValue := 0 }]
  methods := #[k2m0]
  instanceTypes := #[(.object "java/util/Optional"), (.object "java/util/List"), (.object "java/util/Optional")]
  staticTypes := #[]
  resolved := Array.replicate 167 none
  statics := none }

def pool3 : Array CpInfo := pool [(1, u "java/lang/Cloneable"), (0, .class_ 1), (0, u "java/lang/Object"), (0, .class_ 3)] 3

/-- java/lang/Cloneable -/
def k3 : Class := { plain "java/lang/Cloneable" (some 0) with
  accessFlags := 1537
  interfaces := #[]
  cf := some (fileOf pool3 2 #[] #[] 1537 4 #[] #[])
  fields := #[]
  methods := #[]
  instanceTypes := #[]
  staticTypes := #[]
  resolved := Array.replicate 8 none
  statics := none }

def pool4 : Array CpInfo := pool [(1, u "java/io/Serializable"), (0, .class_ 1), (0, u "java/lang/Object"), (0, .class_ 3)] 3

/-- java/io/Serializable -/
def k4 : Class := { plain "java/io/Serializable" (some 0) with
  accessFlags := 1537
  interfaces := #[]
  cf := some (fileOf pool4 2 #[] #[] 1537 4 #[] #[])
  fields := #[]
  methods := #[]
  instanceTypes := #[]
  staticTypes := #[]
  resolved := Array.replicate 8 none
  statics := none }

/-- the primitive byte -/
def k5 : Class := { plain "byte" none with kind := .primitive 'B', accessFlags := 0x411 }
/-- [B -/
def k6 : Class := { plain "[B" (some 0) with kind := .array 5 .byte, interfaces := #[3, 4], accessFlags := 1041 }

/-- the primitive int -/
def k7 : Class := { plain "int" none with kind := .primitive 'I', accessFlags := 0x411 }
/-- [I -/
def k8 : Class := { plain "[I" (some 0) with kind := .array 7 .int, interfaces := #[3, 4], accessFlags := 1041 }

def heap : Heap := #[]
def classes : Array Class := #[k0, k1, k2, k3, k4, k5, k6, k7, k8]
def interned : List (Array UInt16 × Addr) := []
def slotsUsed : Nat := 0
def theMethod : MethodId := ⟨1, 1⟩
def args0 : Array Value := #[.int 5, .int 7]
def aboutOver (below : List Frame) : State where
  vm := { classes := classes, interned := interned.toArray }
  heap := heap
  slotsUsed := slotsUsed
  threads := #[{ frames := .invoking theMethod args0 :: below }]
def below0 : List Frame := [.native { method := ⟨0, 0⟩, args := #[] }]
def about1 : State := aboutOver below0
def p0 : Program := .bare "" "" ""
def e0 : Env := launch0.env 0 0 0
theorem w_frames : about1.frames = Frame.invoking theMethod args0 :: below0 := rfl
set_option maxRecDepth 65536 in
theorem w_args : argsFit about1.vm theMethod args0 = true := by decide +kernel
set_option maxRecDepth 65536 in
theorem w_heap : heapFits about1 = true := by decide +kernel
set_option maxRecDepth 65536 in
theorem w_runnable : about1.curStatus? = some .runnable := by decide +kernel
set_option maxRecDepth 65536 in
theorem w_alone : about1.alone = true := by decide +kernel
set_option maxRecDepth 65536 in
theorem w_named : about1.methodNamed? x = some theMethod := by decide +kernel
set_option maxRecDepth 65536 in
theorem w_hears : about1.hears theMethod below0 = true := by decide +kernel
set_option maxRecDepth 65536 in
theorem w_ripe : about1.ripe theMethod args0 below0 = true := by decide +kernel
theorem w_running : about1.status = .running := rfl
set_option maxRecDepth 65536 in
theorem w_room : about1.hasRoom e0.platform room_1 = true :=
  launch0.hasRoom_least _ room_1 (by decide +kernel) (by decide +kernel) (by decide +kernel) (by decide +kernel) (by decide +kernel) (by decide +kernel)
theorem allAtoms_all (ts : List Jvm.Cond) (a : Array Jvm.Value) (st : Jvm.State) : (allAtoms ts).before a st = ts.all (fun c => c.before a st) := by
  induction ts with
  | nil => rfl
  | cons c t ih =>
    show (Jvm.Cond.and c (allAtoms t)).before a st = _
    rw [Jvm.Cond.before_and, ih, List.all_cons]
def words1 : List Jvm.Cond := Jvm.Cond.code x code maxLocals ret :: tables_1
/-- a 'code' word, met by the world's own term for the bytes: nothing is compared byte by byte -/
theorem code_word {y : MethodName} {bytes : ByteArray} {mx : Nat} {rt : Option FieldType} {a : Array Value} {s : State} {m : MethodId} {meth : Method} {c : Code} (h1 : s.methodNamed? y = some m) (h2 : s.vm.method? m = some meth) (h3 : meth.code = some c) (h4 : c.code = bytes)
    (h5 : (c.maxLocals == mx && c.exceptionTable.isEmpty && decide (c.maxStack ≤ mostOperands) && decide (meth.sig.returnType = rt) && !meth.locks && decide (parseMethodDescriptor y.desc = some meth.sig)) = true) : (Jvm.Cond.code y bytes mx rt).before a s = true := by
  simp only [Bool.and_eq_true, beq_iff_eq, Bool.not_eq_true', decide_eq_true_eq] at h5
  obtain ⟨⟨⟨⟨⟨g1, g2⟩, g3⟩, g4⟩, g5⟩, g6⟩ := h5
  simp [Cond.before, Cond.holds, Cond.value, h1, h2, h3, h4, g1, g2, g3, g4, g5, g6]
def isCode : Jvm.Cond → Bool
  | .code _ _ _ _ => true
  | _ => false
theorem all_split {L : List Jvm.Cond} {P : Jvm.Cond → Bool} (h1 : L.all (fun c => isCode c || P c) = true) (h2 : ∀ c ∈ L.filter isCode, P c = true) : L.all P = true := by
  refine List.all_eq_true.mpr fun c hc => ?_
  have h := List.all_eq_true.mp h1 c hc
  rcases Bool.eq_false_or_eq_true (isCode c) with hi | hi
  · exact h2 c (List.mem_filter.mpr ⟨hc, hi⟩)
  · simpa [hi] using h
set_option maxRecDepth 65536 in
theorem w_c0 : (Jvm.Cond.code x code maxLocals ret).before args0 about1 = true := code_word (m := ⟨1, 1⟩) (meth := k1m1) (c := k1c1) (by decide +kernel) rfl rfl rfl (by decide +kernel)
set_option maxRecDepth 65536 in
theorem w_c1 : (Jvm.Cond.code ({ cls := "com/example/grantee/grantee/service/RequestedAcl", name := "withinGrantLimit", desc := "(I)Z" } : Jvm.MethodName) prog_53_method_5_code (1 : Nat) (Option.some Jvm.ClassFile.FieldType.boolean)).before args0 about1 = true := code_word (m := ⟨2, 0⟩) (meth := k2m0) (c := k2c0) (by decide +kernel) rfl rfl rfl (by decide +kernel)
def codes1 : List Jvm.Cond := [Jvm.Cond.code x code maxLocals ret, Jvm.Cond.code ({ cls := "com/example/grantee/grantee/service/RequestedAcl", name := "withinGrantLimit", desc := "(I)Z" } : Jvm.MethodName) prog_53_method_5_code (1 : Nat) (Option.some Jvm.ClassFile.FieldType.boolean)]
set_option maxRecDepth 65536 in
theorem codes_eq : words1.filter isCode = codes1 := rfl
theorem w_codes : ∀ c ∈ words1.filter isCode, c.before args0 about1 = true := by
  rw [codes_eq]
  intro c hc
  simp only [codes1, List.mem_cons, List.not_mem_nil, or_false] at hc
  rcases hc with rfl | rfl
  · exact w_c0
  · exact w_c1
set_option maxRecDepth 65536 in
theorem w_t1 : words1.all (fun c => isCode c || c.before args0 about1) = true := by decide +kernel
theorem w_tables : (allAtoms (Jvm.Cond.code x code maxLocals ret :: tables_1)).before args0 about1 = true := by
  rw [allAtoms_all]
  show words1.all (fun c => c.before args0 about1) = true
  refine all_split ?_ w_codes
  rw [w_t1]
set_option maxRecDepth 65536 in
theorem w_case : (Jvm.Cond.and given_1 narrow_1).before args0 about1 = true := by decide +kernel
theorem w_applies : (headSpec (Jvm.Cond.code x code maxLocals ret :: tables_1) room_1).applies x e0.platform about1 = true :=
  (Spec.applies_iff w_frames).mpr ⟨w_running, w_runnable, w_alone, w_named, w_hears, w_ripe, w_room, w_tables⟩
theorem atStart : AtStart classFile x code maxLocals ret World_1 tables_1 room_1 Calls_1 rest_1 Pre_1 launch0 p0 e0 about1 theMethod args0 below0 :=
  ⟨lists_1, trivial, launch0.admits_env _ _ _, launch0.least_env, fairChoices_fair.cas, fairChoices_fair.clock, w_frames, w_args, w_heap, w_applies, trivial, trivial, w_case⟩
end start1
theorem witness_1 : WitnessClaimed_1 := ⟨start1.p0, start1.e0, start1.about1, start1.theMethod, start1.args0, start1.below0, start1.atStart⟩
end Jvm.Pilot.@@N@@

import PyProof.Rows.All
import Wide.All
import OpenK.AllK
import Wide.FinOn
import KE.KTryDeep
import Lean
import PySem.Challenge.RW_pd0127_01
set_option Elab.async false

noncomputable section
open PySem PySem.W PyProof.Rows
namespace Mine
set_option maxRecDepth 100000 in
set_option maxHeartbeats 8000000 in
open_top hd for PySem.Challenge.rw_pd0127_01
end Mine
end

noncomputable section
open PySem PySem.W PyProof.Rows
namespace Mine

/-! bounds, checked by the kernel's numbers -/
theorem le_k {n k m : Nat} (h : n ≤ k) (e : Nat.ble k m = true) : n ≤ m := Nat.le_trans h (Nat.le_of_ble_eq_true e)
theorem sz_k {n k : Nat} (h : n ≤ k) (e : Nat.ble k 1000000 = true) : n ≤ sizeLine := by rw [sizeLine_eq]; exact Nat.le_trans (le_k h e) (Nat.le_of_ble_eq_true rfl)
theorem ll_k {α : Type} {l : List α} {k : Nat} (h : l.length ≤ k) (e : Nat.ble k 1000000 = true) : l.length ≤ sizeLine := sz_k h e
theorem ap_k {x y : Str} {a b : Nat} (h1 : x.length ≤ a) (h2 : y.length ≤ b) : (x ++ y).length ≤ a + b := by rw [Str.length_append]; exact Nat.add_le_add h1 h2
theorem lp_k {α : Type} {x y : List α} {a b : Nat} (h1 : x.length ≤ a) (h2 : y.length ≤ b) : (x ++ y).length ≤ a + b := by rw [List.length_append]; exact Nat.add_le_add h1 h2
theorem dr_k {α : Type} {l : List α} {n k : Nat} (h : l.length ≤ k) : (l.drop n).length ≤ k := by rw [List.length_drop]; exact Nat.le_trans (Nat.sub_le _ _) h
theorem mp_k {α β : Type} {f : α → β} {l : List α} {k : Nat} (h : l.length ≤ k) : (l.map f).length ≤ k := by rw [List.length_map]; exact h
theorem db_k {d n k : Nat} (h : d ≤ 2 * n) (hn : n ≤ k) : d ≤ 2 * k := Nat.le_trans h (Nat.mul_le_mul_left 2 hn)
theorem neg63 {n : Nat} {k : Int} (hz : n ≤ 1000000000000) (h : -(n : Int) ≤ k) : -2 ^ 63 ≤ k := Int.le_trans (by decide) (Int.le_trans (Int.neg_le_neg (Int.ofNat_le.mpr hz)) h)
theorem lt63 {n : Nat} {k : Int} (h : k.toNat ≤ n) (hz : n ≤ 1000000000000) : k < 2 ^ 63 := Int.lt_of_le_of_lt (Int.self_le_toNat k) (Int.lt_of_le_of_lt (Int.ofNat_le.mpr (Nat.le_trans h hz)) (by decide))
theorem lo_nat (n k : Nat) : -(n : Int) ≤ (k : Int) := Int.le_trans (Int.neg_nonpos_of_nonneg (Int.natCast_nonneg n)) (Int.natCast_nonneg k)
theorem neg_one_sub (k : Nat) : (-1 : Int) - (k : Int) = -((k + 1 : Nat) : Int) := by rw [Int.natCast_add, Int.neg_add, Int.add_comm]; rfl
theorem lo_neg {n k : Nat} (h : k < n) : -(n : Int) ≤ -1 - (k : Int) := by rw [neg_one_sub]; exact Int.neg_le_neg (Int.ofNat_le.mpr h)

/-! data read off a heap: no dicts -/
mutual
inductive Rd (h : Heap) : Value → PyData → Prop
  | none : Rd h .none .none
  | bool (b) : Rd h (.bool b) (.bool b)
  | int (i t) : Rd h (.int i t) (.int i)
  | str (x t) : Rd h (.str x t) (.str x)
  | list {a o vs n xs} : h.get? a = some o → o.cls = .type "list" → o.data = .seq vs n → RdL h vs.toList xs → Rd h (.ref a) (.list xs)
  | tuple {a o vs n xs} : h.get? a = some o → o.cls = .type "tuple" → o.data = .seq vs n → RdL h vs.toList xs → Rd h (.ref a) (.tuple xs)
inductive RdL (h : Heap) : List Value → List PyData → Prop
  | nil : RdL h [] []
  | cons {v vs d ds} : Rd h v d → RdL h vs ds → RdL h (v :: vs) (d :: ds)
end

/-- every sequence of h stands in h' -/
noncomputable def Seqs (h h' : Heap) : Prop := ∀ a o vs n, h.get? a = some o → o.data = .seq vs n → h'.get? a = some o
theorem seqs_of {h h' : Heap} (k : h.StaysIn h') : Seqs h h' := fun a o _ _ e _ => k a o e

/-- one induction for all that goes through the data -/
theorem rd_ind {h : Heap} {P : Value → PyData → Prop} {Q : List Value → List PyData → Prop} (p0 : P .none .none) (p1 : ∀ b, P (.bool b) (.bool b)) (p2 : ∀ i t, P (.int i t) (.int i)) (p3 : ∀ x t, P (.str x t) (.str x))
    (pl : ∀ {a o vs n xs}, h.get? a = some o → o.cls = .type "list" → o.data = .seq vs n → RdL h vs.toList xs → Q vs.toList xs → P (.ref a) (.list xs))
    (pt : ∀ {a o vs n xs}, h.get? a = some o → o.cls = .type "tuple" → o.data = .seq vs n → RdL h vs.toList xs → Q vs.toList xs → P (.ref a) (.tuple xs))
    (qn : Q [] []) (qc : ∀ {v vs d ds}, Rd h v d → RdL h vs ds → P v d → Q vs ds → Q (v :: vs) (d :: ds)) : (∀ {v d}, Rd h v d → P v d) ∧ ∀ {vs ds}, RdL h vs ds → Q vs ds :=
  ⟨fun r => Rd.rec (motive_1 := fun v d _ => P v d) (motive_2 := fun vs ds _ => Q vs ds) p0 p1 p2 p3 pl pt qn qc r, fun r => RdL.rec (motive_1 := fun v d _ => P v d) (motive_2 := fun vs ds _ => Q vs ds) p0 p1 p2 p3 pl pt qn qc r⟩
theorem rdl_ind {h : Heap} {Q : List Value → List PyData → Prop} (qn : Q [] []) (qc : ∀ {v vs d ds}, Rd h v d → RdL h vs ds → Q vs ds → Q (v :: vs) (d :: ds)) {vs : List Value} {ds : List PyData} (r : RdL h vs ds) : Q vs ds :=
  (rd_ind (P := fun _ _ => True) (Q := Q) trivial (fun _ => trivial) (fun _ _ => trivial) (fun _ _ => trivial) (fun _ _ _ _ _ => trivial) (fun _ _ _ _ _ => trivial) qn (fun a b _ q => qc a b q)).2 r
theorem rd_move {h h' : Heap} (k : Seqs h h') : (∀ {v : Value} {d : PyData}, Rd h v d → Rd h' v d) ∧ ∀ {vs : List Value} {ds : List PyData}, RdL h vs ds → RdL h' vs ds :=
  rd_ind .none .bool .int .str (fun e c q _ r => .list (k _ _ _ _ e q) c q r) (fun e c q _ r => .tuple (k _ _ _ _ e q) c q r) .nil (fun _ _ p q => .cons p q)
theorem Rd.move {h h' : Heap} (k : Seqs h h') {v : Value} {d : PyData} (r : Rd h v d) : Rd h' v d := (rd_move k).1 r
theorem RdL.move {h h' : Heap} (k : Seqs h h') {vs : List Value} {ds : List PyData} (r : RdL h vs ds) : RdL h' vs ds := (rd_move k).2 r
theorem Rd.keeps {h h' : Heap} (k : h.StaysIn h') {v : Value} {d : PyData} (r : Rd h v d) : Rd h' v d := r.move (seqs_of k)
theorem RdL.keeps {h h' : Heap} (k : h.StaysIn h') {v : List Value} {d : List PyData} (r : RdL h v d) : RdL h' v d := r.move (seqs_of k)

theorem rd_reads {h : Heap} : (∀ {v : Value} {d : PyData}, Rd h v d → ∃ as, Reads h v d as) ∧ ∀ {vs : List Value} {ds : List PyData}, RdL h vs ds → ∃ as, ReadsAll h vs ds as :=
  rd_ind ⟨_, .none⟩ (fun b => ⟨_, .bool b⟩) (fun i t => ⟨_, .int i t⟩) (fun x t => ⟨_, .str x t⟩) (fun e c q _ ⟨_, y⟩ => ⟨_, .list e c q y⟩) (fun e c q _ ⟨_, y⟩ => ⟨_, .tuple e c q y⟩) ⟨_, .nil⟩ (fun _ _ ⟨_, x⟩ ⟨_, y⟩ => ⟨_, .cons x y⟩)
theorem Rd.reads {h : Heap} {v : Value} {d : PyData} (r : Rd h v d) : ∃ as, Reads h v d as := rd_reads.1 r

theorem RdL.length {h : Heap} {vs : List Value} {ds : List PyData} (r : RdL h vs ds) : vs.length = ds.length := rdl_ind (Q := fun vs ds => vs.length = ds.length) rfl (fun _ _ q => congrArg (· + 1) q) r
theorem RdL.append {h : Heap} {vs' : List Value} {ds' : List PyData} (y : RdL h vs' ds') {vs : List Value} {ds : List PyData} (r : RdL h vs ds) : RdL h (vs ++ vs') (ds ++ ds') := rdl_ind (Q := fun vs ds => RdL h (vs ++ vs') (ds ++ ds')) y (fun a _ q => .cons a q) r
theorem RdL.get {h : Heap} {vs : List Value} {ds : List PyData} (r : RdL h vs ds) : ∀ {i : Nat} {d : PyData}, ds[i]? = some d → ∃ v, vs[i]? = some v ∧ Rd h v d :=
  rdl_ind (Q := fun vs ds => ∀ {i : Nat} {d : PyData}, ds[i]? = some d → ∃ v, vs[i]? = some v ∧ Rd h v d) (fun e => nomatch e) (fun {v vs d ds} a _ q i d' e => match i, e with
    | 0, e => ⟨v, rfl, Option.some.inj e ▸ a⟩
    | _ + 1, e => q e) r
theorem RdL.take {h : Heap} {vs : List Value} {ds : List PyData} (r : RdL h vs ds) : ∀ n, RdL h (vs.take n) (ds.take n) :=
  rdl_ind (Q := fun vs ds => ∀ n, RdL h (vs.take n) (ds.take n)) (fun n => by rw [List.take_nil, List.take_nil]; exact .nil) (fun a _ q n => match n with | 0 => .nil | n + 1 => .cons a (q n)) r
theorem RdL.drop {h : Heap} {vs : List Value} {ds : List PyData} (r : RdL h vs ds) : ∀ n, RdL h (vs.drop n) (ds.drop n) :=
  rdl_ind (Q := fun vs ds => ∀ n, RdL h (vs.drop n) (ds.drop n)) (fun n => by rw [List.drop_nil, List.drop_nil]; exact .nil) (fun a b q n => match n with | 0 => .cons a b | n + 1 => q n) r
theorem RdL.reverse {h : Heap} {vs : List Value} {ds : List PyData} (r : RdL h vs ds) : RdL h vs.reverse ds.reverse :=
  rdl_ind (Q := fun vs ds => RdL h vs.reverse ds.reverse) .nil (fun a _ q => by rw [List.reverse_cons, List.reverse_cons]; exact RdL.append (.cons a .nil) q) r
theorem RdL.nil_inv {h : Heap} {vs : List Value} (r : RdL h vs []) : vs = [] := List.length_eq_zero_iff.mp r.length
theorem RdL.cons_inv {h : Heap} {vs : List Value} {d : PyData} {ds : List PyData} (r : RdL h vs (d :: ds)) : ∃ v vs', vs = v :: vs' ∧ Rd h v d ∧ RdL h vs' ds := by
  cases r with
  | cons a b => exact ⟨_, _, rfl, a, b⟩
theorem RdL.one {h : Heap} {vs : List Value} {d : PyData} (r : RdL h vs [d]) : ∃ v, vs = [v] ∧ Rd h v d := by
  obtain ⟨v, vs', rfl, a, b⟩ := r.cons_inv
  rw [b.nil_inv]
  exact ⟨v, rfl, a⟩

/-! texts -/
noncomputable def txts (xs : List Str) : List PyData := xs.map .str
theorem RdL.txts_inv {h : Heap} : ∀ {vs : List Value} {xs : List Str}, RdL h vs (txts xs) → ∃ l : List (Str × Tok), vs = strValues l ∧ l.map (·.1) = xs
  | [], [], _ => ⟨[], rfl, rfl⟩
  | _, [], r => by cases r; exact ⟨[], rfl, rfl⟩
  | _, x :: xs, r => by
    obtain ⟨v, vs', rfl, a, b⟩ := RdL.cons_inv (d := .str x) (ds := txts xs) r
    cases a with
    | str _ t =>
      obtain ⟨l, rfl, rfl⟩ := RdL.txts_inv (xs := xs) b
      exact ⟨(x, t) :: l, rfl, rfl⟩
theorem RdL.of_strValues {h : Heap} : ∀ (l : List (Str × Tok)), RdL h (strValues l) (txts (l.map (·.1)))
  | [] => .nil
  | (x, t) :: l => .cons (.str x t) (RdL.of_strValues l)

end Mine
end

noncomputable section
open PySem PySem.W PyProof.Rows
namespace Mine

/-- what the whole proof is over -/
structure Cx where
  prog : Program
  w : World
  K : Frag
  p : Program
  loose : List Str
  mean : ExcName → Option Value
  mg : Str → Option Value
  mb : Str → Option Value
noncomputable abbrev Cx.M (X : Cx) : Model := model X.prog X.w
structure Cx.Ok (X : Cx) (h : Heap) : Prop where
  k : X.K.In h
  t : Top X.p X.loose X.mean X.mg X.mb h
theorem Cx.Ok.keeps {X : Cx} {h h' : Heap} (o : X.Ok h) (k : h.StaysIn h') : X.Ok h' := ⟨o.k.keeps k, o.t.keeps k⟩

/-- an activation: its surroundings, the heap below, the frames, its environment; how many frames it may still lay -/
structure Fx where
  A : Around
  base : Heap
  outer : List Env
  env : Env
  room : Nat

structure Fx.Fit (Γ : Fx) : Prop where
  handled : Γ.A.handled = none
  depth : Γ.A.depth + Γ.room < recursionLimit
  units : Γ.A.units + 8 * Γ.room + 200 < cLine
  fn : Γ.env.scope.kind = .function
  glob : Γ.env.globals = mainGlobals
  blt : Γ.env.builtins = builtinsNs

theorem Fx.Fit.u64 {Γ : Fx} (f : Γ.Fit) : Γ.A.units + 64 < cLine := Nat.lt_of_le_of_lt (Nat.add_le_add (Nat.le_add_right _ _) (Nat.le_of_ble_eq_true rfl)) f.units
theorem Fx.Fit.dn {Γ : Fx} (f : Γ.Fit) {n : Nat} (h : n ≤ Γ.room) : Γ.A.depth + n < recursionLimit := Nat.lt_of_le_of_lt (Nat.add_le_add_left h _) f.depth
theorem Fx.Fit.un {Γ : Fx} (f : Γ.Fit) {n : Nat} (h : n ≤ Γ.room) : Γ.A.units + 8 * n + 200 < cLine := Nat.lt_of_le_of_lt (Nat.add_le_add_right (Nat.add_le_add_left (Nat.mul_le_mul_left 8 h) _) _) f.units

noncomputable def At (env : Env) (h : Heap) (x : Str) (v : Value) : Prop :=
  (env.kindOf x = some .local ∧ ∃ m, h.Ns env.locals m ∧ m x = some v) ∨ (∃ c, env.kindOf x = some .cell ∧ env.cells.lookup x = some c ∧ h.IsCell c (some v))
theorem At.keeps {env : Env} {h h' : Heap} {x : Str} {v : Value} (k : h.StaysIn h') : At env h x v → At env h' x v
  | .inl ⟨a, m, n, e⟩ => .inl ⟨a, m, n.keeps k, e⟩
  | .inr ⟨c, a, b, d⟩ => .inr ⟨c, a, b, d.keeps k⟩

noncomputable abbrev Vars := List (Str × PyData)

structure Good (X : Cx) (Γ : Fx) (ρ : Vars) (h : Heap) : Prop where
  fit : Γ.Fit
  ok : X.Ok h
  below : Below Γ.A Γ.base Γ.outer h
  vars : ∀ x d, ρ.lookup x = some d → ∃ v, At Γ.env h x v ∧ Rd h v d

theorem below_keeps {A : Around} {base h h' : Heap} {outer : List Env} (b : Below A base outer h) (k : h.StaysIn h') : Below A base outer h' :=
  ⟨b.stack, fun a o e => k a o (b.stays a o e), b.frames.of_keeps fun a o e _ => ⟨o, k a o e, rfl⟩⟩

theorem Good.keeps {X : Cx} {Γ : Fx} {ρ : Vars} {h h' : Heap} (g : Good X Γ ρ h) (k : h.StaysIn h') : Good X Γ ρ h' :=
  ⟨g.fit, g.ok.keeps k, below_keeps g.below k, fun x d e => let ⟨v, a, r⟩ := g.vars x d e; ⟨v, a.keeps k, r.keeps k⟩⟩

theorem stays_refl (h : Heap) : h.StaysIn h := fun _ _ e => e
theorem stays_trans {a b c : Heap} (x : a.StaysIn b) (y : b.StaysIn c) : a.StaysIn c := fun p o e => y p o (x p o e)
theorem stays_push (h : Heap) (o : Obj) : h.StaysIn (h.push o) := fun _ _ e => Heap.get?_push_of_some _ e

/-- the answer of a quiet step: the heap grew, a datum came -/
noncomputable abbrev Back (s : Shared) (d : PyData) (Q : Value → Shared → Prop) : Prop :=
  ∀ v h' tk, s.heap.StaysIn h' → Rd h' v d → Q v { s with heap := h', toks := tk }

/-- an expression, as a datum -/
noncomputable def Sees (X : Cx) (Γ : Fx) (ρ : Vars) (e : Expr) (d : PyData) : Prop :=
  ∀ (s : Shared) (Q E : Value → Shared → Prop), Good X Γ ρ s.heap → Back s d Q → wpAny X.M Γ.A (eval e Γ.env) Q E s

noncomputable abbrev BackB (s : Shared) (b : Bool) (Q : Bool → Shared → Prop) : Prop :=
  ∀ h' tk, s.heap.StaysIn h' → Q b { s with heap := h', toks := tk }

/-- an expression as a test -/
noncomputable def Tests (X : Cx) (Γ : Fx) (ρ : Vars) (e : Expr) (b : Bool) : Prop :=
  ∀ (s : Shared) (Q : Bool → Shared → Prop) (E : Value → Shared → Prop), Good X Γ ρ s.heap → BackB s b Q → wpAny X.M Γ.A (isTrue e Γ.env (eval e Γ.env)) Q E s

/-- a def, on data -/
noncomputable def Fn (X : Cx) (n : Nat) (f : Value) (ds : List PyData) (d : PyData) : Prop :=
  ∀ (A : Around) (base : Heap) (outer : List Env) (s : Shared) (vs : List Value) (Q E : Value → Shared → Prop),
    A.handled = none → A.depth + n < recursionLimit → A.units + 8 * n + 200 < cLine →
    Below A base outer s.heap → X.Ok s.heap → RdL s.heap vs ds → Back s d Q → wpAny X.M A (call f vs) Q E s

section
variable {X : Cx} {Γ : Fx} {ρ : Vars}

theorem Back.next {s : Shared} {d : PyData} {Q : Value → Shared → Prop} (b : Back s d Q) {h : Heap} {tk : Nat} (k : s.heap.StaysIn h) : Back { s with heap := h, toks := tk } d Q :=
  fun v h' tk' k' r => b v h' tk' (stays_trans k k') r
theorem BackB.next {s : Shared} {d : Bool} {Q : Bool → Shared → Prop} (b : BackB s d Q) {h : Heap} {tk : Nat} (k : s.heap.StaysIn h) : BackB { s with heap := h, toks := tk } d Q :=
  fun h' tk' k' => b h' tk' (stays_trans k k')

theorem Rd.int_inv {h : Heap} {v : Value} {i : Int} (r : Rd h v (.int i)) : ∃ t, v = .int i t := by cases r; exact ⟨_, rfl⟩
theorem Rd.str_inv {h : Heap} {v : Value} {i : Str} (r : Rd h v (.str i)) : ∃ t, v = .str i t := by cases r; exact ⟨_, rfl⟩
theorem Rd.bool_inv {h : Heap} {v : Value} {i : Bool} (r : Rd h v (.bool i)) : v = .bool i := by cases r; rfl
theorem Rd.list_inv {h : Heap} {v : Value} {ds : List PyData} (r : Rd h v (.list ds)) : ∃ a items, v = .ref a ∧ h.IsList a items ∧ RdL h items.toList ds := by
  cases r with | list e c q y => exact ⟨_, _, rfl, ⟨_, e, c, _, q⟩, y⟩
theorem Rd.tuple_inv {h : Heap} {v : Value} {ds : List PyData} (r : Rd h v (.tuple ds)) : ∃ a items, v = .ref a ∧ IsTup h a items ∧ RdL h items.toList ds := by
  cases r with | tuple e c q y => exact ⟨_, _, rfl, ⟨_, e, c, _, q⟩, y⟩
theorem Rd.of_list {h : Heap} {a : Addr} {items : Array Value} {ds : List PyData} (l : h.IsList a items) (r : RdL h items.toList ds) : Rd h (.ref a) (.list ds) :=
  let ⟨_, e, c, _, q⟩ := l; .list e c q r
theorem Rd.new_list {h : Heap} {vs : List Value} {ds : List PyData} (r : RdL h vs ds) : Rd (h.push { cls := .type "list", data := .seq vs.toArray }) (.ref h.objs.size) (.list ds) :=
  .list (Heap.get?_push_size _ rfl) rfl rfl (by simpa using r.keeps (stays_push h _))
theorem Rd.new_tuple {h : Heap} {vs : List Value} {ds : List PyData} (r : RdL h vs ds) : Rd (h.push { cls := .type "tuple", data := .seq vs.toArray }) (.ref h.objs.size) (.tuple ds) :=
  .tuple (Heap.get?_push_size _ rfl) rfl rfl (by simpa using r.keeps (stays_push h _))

/-! literals -/
theorem sees_int {i : Int} {k : Nat} {pos : Pos} : Sees X Γ ρ (.Constant (.int i) k pos) (.int i) := fun s Q _ _ b =>
  wpAny_Constant_int (b _ s.heap _ (stays_refl _) (.int _ _))
theorem sees_str {i : Str} {k : Nat} {pos : Pos} : Sees X Γ ρ (.Constant (.str i) k pos) (.str i) := fun s Q _ _ b =>
  wpAny_Constant_str (b _ s.heap _ (stays_refl _) (.str _ _))
/-! names -/
theorem sees_name {x : Str} {pos : Pos} {d : PyData} (hx : ρ.lookup x = some d) (hd : (x == ("__debug__" : Str)) = false) : Sees X Γ ρ (.Name x pos) d := fun s Q E g b => by
  obtain ⟨v, a, r⟩ := g.vars x d hx
  refine wpAny_Name ?_ hd
  rcases a with ⟨hl, m, hn, hm⟩ | ⟨c, hl, hc, hv⟩
  · exact wpAny_loadName_local g.fit.fn hl hn hm (b v s.heap s.toks (stays_refl _) r)
  · exact wpAny_loadName_cell g.fit.fn hl hc hv (b v s.heap s.toks (stays_refl _) r)

/-- a name of the module -/
theorem eval_global {x : Str} {pos : Pos} {v : Value} {s : Shared} {Q E : Value → Shared → Prop} (g : Good X Γ ρ s.heap) (hk : Γ.env.kindOf x = some .globalImplicit) (hd : (x == ("__debug__" : Str)) = false)
    (e : nsIn X.K mainGlobals x = some (some v)) (h : Q v s) : wpAny X.M Γ.A (eval (.Name x pos) Γ.env) Q E s := by
  refine wpAny_Name (ks_loadName_global g.fit.fn hk ?_) hd
  unfold loadGlobal
  rw [g.fit.glob]
  refine wpAny_bind (wpAny_nsGet g.ok.t.g ?_)
  rw [mg_of g.ok.k g.ok.t.g e]
  exact wpAny_pure h
theorem eval_builtin {x : Str} {pos : Pos} {v : Value} {s : Shared} {Q E : Value → Shared → Prop} (g : Good X Γ ρ s.heap) (hk : Γ.env.kindOf x = some .globalImplicit) (hd : (x == ("__debug__" : Str)) = false)
    (e : nsIn X.K mainGlobals x = some none) (hv : bootBuiltins x = some v) (hn : x ≠ "__name__") (h : Q v s) : wpAny X.M Γ.A (eval (.Name x pos) Γ.env) Q E s := by
  refine wpAny_Name (ks_loadName_global g.fit.fn hk ?_) hd
  unfold loadGlobal
  rw [g.fit.glob, g.fit.blt]
  refine wpAny_bind (wpAny_nsGet g.ok.t.g ?_)
  rw [mg_none_of g.ok.k g.ok.t.g e]
  refine wpAny_bind (wpAny_nsGet g.ok.t.b ?_)
  rw [g.ok.t.builtins x hn, hv]
  exact wpAny_pure h

/-! lists of expressions -/
noncomputable def SeesAll (X : Cx) (Γ : Fx) (ρ : Vars) (es : List Expr) (ds : List PyData) : Prop :=
  ∀ (pos : Pos) (s : Shared) (Q : List Value → Shared → Prop) (E : Value → Shared → Prop), Good X Γ ρ s.heap →
    (∀ vs h' tk, s.heap.StaysIn h' → RdL h' vs ds → Q vs { s with heap := h', toks := tk }) → wpAny X.M Γ.A (spliced (backTo pos (starEach es Γ.env))) Q E s
theorem sees_nil : SeesAll X Γ ρ [] [] := fun pos s Q E g b => wpAny_items_nil (b [] s.heap s.toks (stays_refl _) .nil)
theorem sees_cons {e : Expr} {es : List Expr} {d : PyData} {ds : List PyData} (h : Sees X Γ ρ e d) (hs : SeesAll X Γ ρ es ds)
    (he : ∀ env, starEach (e :: es) env = (false, eval e env) :: starEach es env) : SeesAll X Γ ρ (e :: es) (d :: ds) := fun pos s Q E g b => by
  refine wpAny_items_cons (h s _ E g fun v h₁ tk₁ k₁ r₁ => ?_) (he _)
  refine hs pos _ _ E (g.keeps k₁) fun vs h₂ tk₂ k₂ r₂ => ?_
  exact b (v :: vs) h₂ tk₂ (stays_trans k₁ k₂) (.cons (r₁.keeps k₂) r₂)

theorem sees_list {es : List Expr} {ds : List PyData} {pos : Pos} (h : SeesAll X Γ ρ es ds) (hz : ds.length ≤ sizeLine := by first | decide | size_fits) : Sees X Γ ρ (.List es pos) (.list ds) := fun s Q E g b => by
  refine List_ (h pos s _ E g fun vs h' tk k r => ?_)
  exact wpAny_newList (b _ _ tk (stays_trans k (stays_push _ _)) (Rd.new_list r)) (by rw [r.length]; exact hz)
theorem sees_tuple {es : List Expr} {ds : List PyData} {n : Nat} {pos : Pos} (h : SeesAll X Γ ρ es ds) (hz : ds.length ≤ sizeLine := by first | decide | size_fits) : Sees X Γ ρ (.Tuple es n pos) (.tuple ds) := fun s Q E g b => by
  refine Tuple_ (h pos s _ E g fun vs h' tk k r => ?_)
  exact wpAny_newTuple (b _ _ tk (stays_trans k (stays_push _ _)) (Rd.new_tuple r)) (by rw [r.length]; exact hz)

/-! a call of a def of the text -/
theorem sees_call {x : Str} {p pos : Pos} {e : Expr} {es : List Expr} {ds : List PyData} {d : PyData} {f : Value} {n : Nat} (hk : Γ.env.kindOf x = some .globalImplicit) (hd : (x == ("__debug__" : Str)) = false)
    (hf : nsIn X.K mainGlobals x = some (some f)) (hkp : keepIn X.K f = true) (hn : n ≤ Γ.room) (F : Fn X n f ds d) (h : SeesAll X Γ ρ (e :: es) ds)
    (he : ∀ env, starEach (e :: es) env = (false, eval e env) :: starEach es env) (hs : ∀ env pos, (backTo pos (starEach es env)).any (·.1) = false) :
    Sees X Γ ρ (.Call (.Name x p) (e :: es) [] pos) d := fun s Q E g b => by
  refine Call_Name rfl (eval_global g hk hd hf ?_)
  refine callWith_K g.ok.k hkp (h pos s _ E g fun vs h' tk k r => ⟨(g.keeps k).ok.k, ?_⟩) (he _) (hs _ _)
  have g' := g.keeps k
  exact F Γ.A Γ.base Γ.outer _ vs Q E g.fit.handled (g.fit.dn hn) (g.fit.un hn) g'.below g'.ok r (b.next k)

/-- f(*xs) -/
theorem sees_call_star {x : Str} {p p' pos : Pos} {e : Expr} {ds : List PyData} {d : PyData} {f : Value} {n : Nat} (hk : Γ.env.kindOf x = some .globalImplicit) (hd : (x == ("__debug__" : Str)) = false)
    (hf : nsIn X.K mainGlobals x = some (some f)) (hkp : keepIn X.K f = true) (hn : n ≤ Γ.room) (F : Fn X n f ds d) (h : Sees X Γ ρ e (.list ds)) (hz : ds.length ≤ sizeLine) :
    Sees X Γ ρ (.Call (.Name x p) [.Starred e p'] [] pos) d := fun s Q E g b => by
  refine Call_Name rfl (eval_global g hk hd hf ?_)
  refine callWith_S g.ok.k hkp (h s _ E g fun v h' tk k r => ?_)
  obtain ⟨a, items, rfl, ⟨o, ho, hc, m, hd⟩, rl⟩ := r.list_inv
  have g' := g.keeps k
  unfold StarOf notIterableAtAll
  have hT' : Shared.TypeIs { s with heap := h', toks := tk } (.ref a) "list" := ⟨o, ho, hc⟩
  refine wpAny_bind (wpAny_specialOf hT' PySem.F.slot_list_iter.lookup (wpAny_pure ⟨rfl, ?_⟩))
  refine wpAny_collect_seq a (.inl rfl) ho hc hd (fun h₂ k₂ => ?_) (by have := rl.length; rw [Array.length_toList] at this; rw [this]; exact hz)
  have g₂ := g'.keeps k₂
  refine ⟨g₂.ok.k, ?_⟩
  exact F Γ.A Γ.base Γ.outer _ items.toList Q E g.fit.handled (g.fit.dn hn) (g.fit.un hn) g₂.below g₂.ok (rl.keeps k₂) (b.next (stays_trans k k₂))

end
end Mine
end

noncomputable section
open PySem PySem.W PyProof.Rows
set_option maxRecDepth 100000
namespace Mine

section
variable {X : Cx} {Γ : Fx} {ρ : Vars}

/-! operators -/
noncomputable def Bin (X : Cx) (op : Operator) (d1 d2 d : PyData) : Prop :=
  ∀ (A : Around) (s : Shared) (v1 v2 : Value) (Q E : Value → Shared → Prop), Rd s.heap v1 d1 → Rd s.heap v2 d2 → Back s d Q → wpAny X.M A (binaryOp op v1 v2) Q E s
theorem sees_bin {l r : Expr} {op : Operator} {pos : Pos} {d1 d2 d : PyData} (B : Bin X op d1 d2 d) (h1 : Sees X Γ ρ l d1) (h2 : Sees X Γ ρ r d2) : Sees X Γ ρ (.BinOp l op r pos) d := fun s Q E g b => by
  refine wpAny_BinOp (h1 s _ E g fun v1 h₁ tk₁ k₁ r₁ => h2 _ _ E (g.keeps k₁) fun v2 h₂ tk₂ k₂ r₂ => ?_)
  exact B Γ.A _ v1 v2 Q E (r₁.keeps k₂) r₂ (b.next (stays_trans k₁ k₂))

theorem bin_add_int {a b : Int} : Bin X .Add (.int a) (.int b) (.int (a + b)) := fun A s v1 v2 Q E r1 r2 bk => by
  obtain ⟨t, rfl⟩ := r1.int_inv; obtain ⟨u, rfl⟩ := r2.int_inv
  exact add_int (bk _ s.heap _ (stays_refl _) (.int _ _))
theorem bin_sub_int {a b : Int} : Bin X .Sub (.int a) (.int b) (.int (a - b)) := fun A s v1 v2 Q E r1 r2 bk => by
  obtain ⟨t, rfl⟩ := r1.int_inv; obtain ⟨u, rfl⟩ := r2.int_inv
  exact sub_int (bk _ s.heap _ (stays_refl _) (.int _ _))
theorem noPylong {a b : Int} (h : b.natAbs < 2 ^ 30) : Builtin.divisionGoesByPylong a b = false := PyProof.noPylong_small (by omega)
theorem bin_div_int {a b : Int} (h0 : b ≠ 0) (h1 : b.natAbs < 2 ^ 30) : Bin X .FloorDiv (.int a) (.int b) (.int (a.fdiv b)) := fun A s v1 v2 Q E r1 r2 bk => by
  obtain ⟨t, rfl⟩ := r1.int_inv; obtain ⟨u, rfl⟩ := r2.int_inv
  exact floordiv_int h0 (bk _ s.heap _ (stays_refl _) (.int _ _)) (.inl (noPylong h1))
theorem bin_mod_int {a b : Int} (h0 : b ≠ 0) : Bin X .Mod (.int a) (.int b) (.int (a.fmod b)) := fun A s v1 v2 Q E r1 r2 bk => by
  obtain ⟨t, rfl⟩ := r1.int_inv; obtain ⟨u, rfl⟩ := r2.int_inv
  exact mod_int' h0 (bk _ s.heap _ (stays_refl _) (.int _ _))
theorem bin_add_str {a b : Str} (hz : a.length + b.length ≤ sizeLine) : Bin X .Add (.str a) (.str b) (.str (a ++ b)) := fun A s v1 v2 Q E r1 r2 bk => by
  obtain ⟨t, rfl⟩ := r1.str_inv; obtain ⟨u, rfl⟩ := r2.str_inv
  exact add_str (fun t' k => bk _ s.heap _ (stays_refl _) (.str _ _)) hz
theorem mulOk_of {x : Str} {n : Int} (h1 : n < 2 ^ 20) (h0 : 0 ≤ n) (hz : x.length ≤ 16) : MulOk x n := by
  have hN : n.toNat ≤ 2 ^ 20 := Int.toNat_le.mpr (Int.le_of_lt h1)
  refine ⟨by simp; omega, fun _ _ => ?_, fun _ _ => ?_⟩
  · rename_i h _
    have hn : 0 < n := by omega
    have : (16 : Int) ≤ (2 ^ 63 - 1) / n := by
      apply Int.le_ediv_of_mul_le hn
      have := Int.mul_le_mul_of_nonneg_left (Int.le_of_lt h1) (show (0 : Int) ≤ 16 by decide)
      refine Int.le_trans this (by decide)
    exact Int.not_lt.mpr (Int.le_trans (Int.ofNat_le.mpr hz) this)
  · have h2 : x.length * n.toNat ≤ 16 * 2 ^ 20 := Nat.mul_le_mul hz hN
    unfold Builtin.Str.tooLong
    rw [sizeLine_eq]
    exact decide_eq_false (Nat.not_lt.mpr (le_k h2 rfl))
theorem bin_mul_str {a : Str} {n : Int} (h1 : n < 2 ^ 20) (h0 : 0 ≤ n) (hz : a.length ≤ 16) : Bin X .Mult (.str a) (.int n) (.str (Txt.mul a n)) := fun A s v1 v2 Q E r1 r2 bk => by
  obtain ⟨t, rfl⟩ := r1.str_inv; obtain ⟨u, rfl⟩ := r2.int_inv
  exact SB.mul (mulOk_of h1 h0 hz) fun t' k => bk _ s.heap _ (stays_refl _) (.str _ _)
theorem list_obj {h : Heap} {a : Addr} {its : Array Value} (hl : h.IsList a its) : ∃ dd n sl, h.get? a = some { cls := .type "list", dict := dd, data := .seq its n, slots := sl } := by
  obtain ⟨⟨cls, dd, data, sl⟩, ho, hc, n, hd⟩ := hl
  cases hc; cases hd; exact ⟨dd, n, sl, ho⟩
theorem bin_add_list {a b : List PyData} (hz : a.length + b.length ≤ sizeLine) : Bin X .Add (.list a) (.list b) (.list (a ++ b)) := fun A s v1 v2 Q E r1 r2 bk => by
  obtain ⟨l, its, rfl, hl, q1⟩ := r1.list_inv; obtain ⟨m, its2, rfl, hm, q2⟩ := r2.list_inv
  obtain ⟨dd, n, sl, ho⟩ := list_obj hl
  obtain ⟨dd2, n2, sl2, ho2⟩ := list_obj hm
  have z1 := q1.length
  have z2 := q2.length
  rw [Array.length_toList] at z1 z2
  refine concat_meets ⟨_, ho, rfl⟩ ⟨_, ho2, rfl⟩ noFill_list_add seq_list_add PySem.F.slot_list_add PySem.F.entry_list_add (PySem.F.args_list_add_2 _ _) (list_addW l m its its2 n n2 dd dd2 sl sl2 (by rw [z1, z2]; exact hz)) ⟨ho, ho2, ?_⟩
  have e : its ++ its2 = (its.toList ++ its2.toList).toArray := by simp
  rw [e]
  exact bk _ _ s.toks (stays_push _ _) (Rd.new_list (RdL.append q2 q1))

/-- a list display of one, times a number -/
theorem sees_times' {e r : Expr} {p pos : Pos} {d : PyData} {x : Int} {n : Nat} (h1 : Sees X Γ ρ e d) (h2 : Sees X Γ ρ r (.int x)) (hx : x.toNat = n) (hx0 : 0 ≤ x) (hz : n ≤ 2 ^ 20) (he : ∀ env, starEach [e] env = [(false, eval e env)]) :
    Sees X Γ ρ (.BinOp (.List [e] p) .Mult r pos) (.list (List.replicate n d)) := fun s Q E g b => by
  refine wpAny_BinOp (List_ (wpAny_items_cons (h1 s _ E g fun v h₁ tk₁ k₁ r₁ => wpAny_items_nil ?_) (he _)))
  refine wpAny_newList ?_ (by rw [sizeLine_eq]; exact Nat.le_of_ble_eq_true rfl)
  refine h2 _ _ E (g.keeps (stays_trans k₁ (stays_push _ _))) fun v2 h₂ tk₂ k₂ r₂ => ?_
  obtain ⟨u, rfl⟩ := r₂.int_inv
  have hl : h₂.get? h₁.objs.size = some { cls := .type "list", data := .seq [v].toArray 0 } := k₂ _ _ (Heap.get?_push_size _ rfl)
  have z2 : [v].toArray.size * x.toNat ≤ 2 ^ 24 := by
    rw [hx]
    show 1 * n ≤ _
    rw [Nat.one_mul]
    exact le_k hz rfl
  refine wpAny_binaryOp_repeat_ref (T := "list") (U := "int") (by decide) ⟨_, hl, rfl⟩ (fun s' => typeIs_int s' x u) noFill_list_mul F.fills_int_mul F.slot_int_rmul repeat_list F.slot_int_index.lookup
    (call_meets F.slot_int_rmul (typeIs_int _ x u) F.entry_int_rmul (F.args_int_rmul_2 _ _) (int___rmul___int_list x u _ [v].toArray 0)
      ⟨hl, rfl, ⟨_, hl, rfl⟩, call_meets F.slot_list_mul ⟨_, hl, rfl⟩ F.entry_list_mul (F.args_list_mul_2 _ _)
        (AutoListH.list___mul___list_int_3 _ [v].toArray 0 x u (by rw [show Builtin.List.listFitsIndex x = true from Bool.and_eq_true_iff.mpr ⟨decide_eq_true (Int.le_trans (by decide) hx0), decide_eq_true (lt63 (n := n) (Nat.le_of_eq hx) (le_k hz rfl))⟩]; decide) (Nat.not_lt.mpr (le_k z2 rfl)) (fun h => absurd (of_decide_eq_true h) (Nat.not_lt.mpr (by rw [sizeLine_eq]; exact le_k z2 rfl))))
        ⟨hl, ?_⟩⟩)
  have e : ∀ k : Nat, List.foldl (fun x1 x2 => x1 ++ x2) (#[] : Array Value) (List.replicate k #[v]) = (List.replicate k v).toArray := by
    have aux : ∀ (k : Nat) (acc : Array Value), List.foldl (fun x1 x2 => x1 ++ x2) acc (List.replicate k #[v]) = acc ++ (List.replicate k v).toArray := by
      intro k
      induction k with
      | zero => intro acc; simp
      | succ k ih => intro acc; rw [List.replicate_succ, List.foldl_cons, ih, List.replicate_succ]; apply Array.toList_inj.mp; simp
    intro k; rw [aux]; simp
  have e2 : (if [v].toArray.isEmpty = true then 0 else x.toNat) = n := by rw [hx]; simp
  rw [e2, e]
  have rv : Rd h₂ v d := r₁.keeps (stays_trans (stays_push _ _) k₂)
  have rl : ∀ k : Nat, RdL h₂ (List.replicate k v) (List.replicate k d) := by
    intro k
    induction k with
    | zero => exact .nil
    | succ k ih => rw [List.replicate_succ, List.replicate_succ]; exact .cons rv ih
  exact b _ _ tk₂ (stays_trans (stays_trans k₁ (stays_push _ _)) (stays_trans k₂ (stays_push _ _))) (Rd.new_list (rl n))

theorem sees_times {e r : Expr} {p pos : Pos} {d : PyData} {n : Nat} (h1 : Sees X Γ ρ e d) (h2 : Sees X Γ ρ r (.int n)) (hz : n ≤ 2 ^ 20) (he : ∀ env, starEach [e] env = [(false, eval e env)]) :
    Sees X Γ ρ (.BinOp (.List [e] p) .Mult r pos) (.list (List.replicate n d)) := sees_times' h1 h2 rfl (Int.natCast_nonneg n) hz he

/-! comparisons -/
noncomputable def Cmp (X : Cx) (op : CmpOp) (d1 d2 : PyData) (r : Bool) : Prop :=
  ∀ (A : Around) (s : Shared) (v1 v2 : Value) (Q E : Value → Shared → Prop), A.units + 64 < cLine → Rd s.heap v1 d1 → Rd s.heap v2 d2 → Q (.bool r) s → wpAny X.M A (compareOp op v1 v2) Q E s
theorem cmp_ne {d1 d2 : PyData} (h1 : SeqAt.shaped d1 = true) (h2 : SeqAt.shaped d2 = true) : Cmp X .NotEq d1 d2 (!PyData.eqv d1 d2) := fun A s v1 v2 Q E hu r1 r2 bk =>
  let ⟨_, q1⟩ := r1.reads; let ⟨_, q2⟩ := r2.reads; SeqAt.compareNe_shaped q1 q2 h1 h2 hu bk
theorem cmp_eq_str {x y : Str} : Cmp X .Eq (.str x) (.str y) (x == y) := fun A s v1 v2 Q E hu r1 r2 bk => by
  obtain ⟨t, rfl⟩ := r1.str_inv; obtain ⟨u, rfl⟩ := r2.str_inv
  exact eq_str bk
theorem cmp_ne_str {x y : Str} : Cmp X .NotEq (.str x) (.str y) (x != y) := fun A s v1 v2 Q E hu r1 r2 bk => by
  obtain ⟨t, rfl⟩ := r1.str_inv; obtain ⟨u, rfl⟩ := r2.str_inv
  exact ne_str bk
theorem cmp_lt {x y : Int} : Cmp X .Lt (.int x) (.int y) (decide (x < y)) := fun A s v1 v2 Q E hu r1 r2 bk => by
  obtain ⟨t, rfl⟩ := r1.int_inv; obtain ⟨u, rfl⟩ := r2.int_inv
  exact lt_int bk
theorem cmp_gt {x y : Int} : Cmp X .Gt (.int x) (.int y) (decide (y < x)) := fun A s v1 v2 Q E hu r1 r2 bk => by
  obtain ⟨t, rfl⟩ := r1.int_inv; obtain ⟨u, rfl⟩ := r2.int_inv
  exact gt_int bk
theorem cmp_ge {x y : Int} : Cmp X .GtE (.int x) (.int y) (decide (y ≤ x)) := fun A s v1 v2 Q E hu r1 r2 bk => by
  obtain ⟨t, rfl⟩ := r1.int_inv; obtain ⟨u, rfl⟩ := r2.int_inv
  exact ge_int bk

theorem sees_cmp {l r : Expr} {op : CmpOp} {pos : Pos} {d1 d2 : PyData} {b : Bool} (C : Cmp X op d1 d2 b) (h1 : Sees X Γ ρ l d1) (h2 : Sees X Γ ρ r d2) (hm : behindInMarks op r = false) :
    Sees X Γ ρ (.Compare l [op] [r] pos) (.bool b) := fun s Q E g bk => by
  refine wpAny_Compare1 (h1 s _ E g fun v1 h₁ tk₁ k₁ r₁ => h2 _ _ E (g.keeps k₁) fun v2 h₂ tk₂ k₂ r₂ => ?_) hm
  exact C Γ.A _ v1 v2 Q E g.fit.u64 (r₁.keeps k₂) r₂ (bk _ h₂ tk₂ (stays_trans k₁ k₂) (.bool _))
theorem tests_cmp {l r : Expr} {op : CmpOp} {pos : Pos} {d1 d2 : PyData} {b : Bool} (C : Cmp X op d1 d2 b) (h1 : Sees X Γ ρ l d1) (h2 : Sees X Γ ρ r d2) (hm : behindInMarks op r = false) :
    Tests X Γ ρ (.Compare l [op] [r] pos) b := fun s Q E g bk => by
  refine wpAny_isTrue_Compare1 (h1 s _ E g fun v1 h₁ tk₁ k₁ r₁ => h2 _ _ E (g.keeps k₁) fun v2 h₂ tk₂ k₂ r₂ => ?_) hm
  exact C Γ.A _ v1 v2 _ E g.fit.u64 (r₁.keeps k₂) r₂ (wpAny_truthy_bool (bk h₂ tk₂ (stays_trans k₁ k₂)))

/-! truth -/
noncomputable def truth : PyData → Bool
  | .none => false
  | .bool b => b
  | .int i => i != 0
  | .str x => x.length != 0
  | .list xs => !xs.isEmpty
  | .tuple xs => !xs.isEmpty
  | .dict xs => !xs.isEmpty
noncomputable def small : PyData → Bool
  | .str x => decide (x.length ≤ 2 ^ 40)
  | .list xs => decide (xs.length ≤ 2 ^ 40)
  | .tuple _ => false
  | .dict _ => false
  | _ => true
theorem truthy_rd {A : Around} {s : Shared} {v : Value} {d : PyData} {Q : Bool → Shared → Prop} {E : Value → Shared → Prop} (hs : small d = true) (r : Rd s.heap v d) (bk : BackB s (truth d) Q) : wpAny X.M A (truthy v) Q E s := by
  cases r with
  | none => exact wpAny_of_eq (a := false) rfl (bk s.heap s.toks (stays_refl _))
  | bool b => exact wpAny_truthy_bool (bk s.heap s.toks (stays_refl _))
  | int i t => exact P.truthy_int (bk s.heap _ (stays_refl _))
  | str x t =>
    have hz : x.length ≤ 2 ^ 40 := of_decide_eq_true hs
    refine P.truthy_str (Int.not_le.mpr (Int.lt_of_le_of_lt (Int.ofNat_le.mpr hz) (by decide))) ?_
    have e : ((x.length : Int) != 0) = truth (.str x) := by
      show ((x.length : Int) != 0) = (x.length != 0)
      rw [Bool.eq_iff_iff]; simp
    rw [e]; exact bk s.heap _ (stays_refl _)
  | @list a o vs n xs e c q y =>
    have hz : xs.length ≤ 2 ^ 40 := of_decide_eq_true hs
    have hl := y.length
    rw [Array.length_toList] at hl
    refine wpAny_truthy_list ⟨_, e, c, _, q⟩ (by rw [hl]; exact Int.lt_of_le_of_lt (Int.ofNat_le.mpr hz) (by decide)) ?_
    have e2 : (!vs.isEmpty) = truth (.list xs) := by
      show (!vs.isEmpty) = !xs.isEmpty
      congr 1
      rw [Bool.eq_iff_iff, Array.isEmpty_iff_size_eq_zero, List.isEmpty_iff_length_eq_zero, hl]
    rw [e2]; exact bk s.heap _ (stays_refl _)
  | tuple => cases hs

theorem tests_of {e : Expr} {d : PyData} (h : Sees X Γ ρ e d) (hs : small d = true) (he : ∀ env whole, isTrue e env whole = (do let v ← whole; standAt e.pos; holding [v] (truthy v))) : Tests X Γ ρ e (truth d) := fun s Q E g bk => by
  refine wpAny_isTrue_value (h s _ E g fun v h' tk k r => ?_) (he _ _)
  exact truthy_rd hs r (bk.next k)
theorem tests_not {e : Expr} {pos : Pos} {b : Bool} (h : Tests X Γ ρ e b) : Tests X Γ ρ (.UnaryOp .Not e pos) (!b) := fun s Q E g bk => by
  show wpAny X.M Γ.A (isTrue e Γ.env (eval e Γ.env) >>= fun r => pure (!r)) Q E s
  exact wpAny_bind (h s _ E g fun h' tk k => wpAny_pure (bk h' tk k))
theorem sees_or {x y : Expr} {pos : Pos} {d1 d : PyData} (h1 : Sees X Γ ρ x d1) (hs : small d1 = true) (h2 : if truth d1 = true then d = d1 else Sees X Γ ρ y d) : Sees X Γ ρ (.BoolOp .Or [x, y] pos) d := fun s Q E g bk => by
  refine wpAny_Or2 (h1 s _ E g fun v h₁ tk₁ k₁ r₁ => ?_)
  refine truthy_rd hs r₁ fun h₂ tk₂ k₂ => ?_
  by_cases ht : truth d1 = true
  · rw [if_pos ht] at h2 ⊢
    subst h2
    exact bk v h₂ tk₂ (stays_trans k₁ k₂) (r₁.keeps k₂)
  · rw [if_neg ht] at h2 ⊢
    exact h2 _ _ E (g.keeps (stays_trans k₁ k₂)) (bk.next (stays_trans k₁ k₂))

theorem sees_ite {t x y : Expr} {pos : Pos} {b : Bool} {d : PyData} (h : Tests X Γ ρ t b) (h1 : b = true → Sees X Γ ρ x d) (h2 : b = false → Sees X Γ ρ y d) : Sees X Γ ρ (.IfExp t x y pos) d := fun s Q E g bk => by
  refine wpAny_IfExp (h s _ E g fun h₁ tk₁ k₁ => ?_)
  cases b with
  | true => simpa using h1 rfl _ Q E (g.keeps k₁) (bk.next k₁)
  | false => simpa using h2 rfl _ Q E (g.keeps k₁) (bk.next k₁)

theorem sees_neg {e : Expr} {pos : Pos} {i : Int} (h : Sees X Γ ρ e (.int i)) : Sees X Γ ρ (.UnaryOp .USub e pos) (.int (-i)) := fun s Q E g bk => by
  rw [show eval (.UnaryOp .USub e pos) Γ.env = (do let v ← eval e Γ.env; standAt pos; holding [v] (unaryOp .USub v)) from rfl]
  refine wpAny_bind (h s _ E g fun v h' tk k r => wpAny_bind (wpAny_standAt (wpAny_holding ?_)))
  obtain ⟨t, rfl⟩ := r.int_inv
  exact neg_int (bk _ h' _ k (.int _ _))
end
end Mine
end

noncomputable section
open PySem PySem.W PyProof.Rows
set_option maxRecDepth 100000
namespace Mine

/-- a slice by ones, as Python clamps it -/
noncomputable def pk {α : Type} (xs : List α) (lo hi : Option Int) : List α := (xs.drop (kms_lo lo xs.length)).take (kms_hi hi xs.length - kms_lo lo xs.length)

section
variable {X : Cx} {Γ : Fx} {ρ : Vars}

/-! subscripts -/
noncomputable def SeesPart (X : Cx) (Γ : Fx) (ρ : Vars) (e : Option Expr) (p : Option Int) : Prop :=
  ∀ (s : Shared) (Q E : Value → Shared → Prop), Good X Γ ρ s.heap → (∀ v h' tk, s.heap.StaysIn h' → IsPart v p → Q v { s with heap := h', toks := tk }) → wpAny X.M Γ.A (evalPart e Γ.env) Q E s
theorem part_none : SeesPart X Γ ρ none none := fun s Q E g b => evalPart_none_step (b _ s.heap s.toks (stays_refl _) .none)
theorem part_some {e : Expr} {i : Int} (h : Sees X Γ ρ e (.int i)) : SeesPart X Γ ρ (some e) (some i) := fun s Q E g b =>
  evalPart_some_step (h s Q E g fun v h' tk k r => by obtain ⟨t, rfl⟩ := r.int_inv; exact b _ h' tk k (.int _ _))

theorem isPart_value {v : Value} {p : Option Int} (h : IsPart v p) : ∃ q : Option (Int × Tok), v = partValue q ∧ q.map (·.1) = p := by
  cases h with
  | none => exact ⟨none, rfl, rfl⟩
  | int i t => exact ⟨some (i, t), rfl, rfl⟩

theorem sees_slice_str {v : Expr} {lo hi : Option Expr} {p pos : Pos} {x : Str} {i j : Option Int} (h : Sees X Γ ρ v (.str x)) (h1 : SeesPart X Γ ρ lo i) (h2 : SeesPart X Γ ρ hi j) (hz : x.length ≤ sizeLine) :
    Sees X Γ ρ (.Subscript v (.Slice lo hi none p) pos) (.str (Txt.slice x i j)) := fun s Q E g b => by
  refine Subscript_ (h s _ E g fun o h₁ tk₁ k₁ r₁ => wpAny_Slice (h1 _ _ E (g.keeps k₁) fun vl h₂ tk₂ k₂ q1 => h2 _ _ E (g.keeps (stays_trans k₁ k₂)) fun vu h₃ tk₃ k₃ q2 => evalPart_none_step ?_))
  obtain ⟨t, rfl⟩ := r₁.str_inv
  obtain ⟨l, rfl, rfl⟩ := isPart_value q1
  obtain ⟨u, rfl, rfl⟩ := isPart_value q2
  refine tail_any (ops := [.ref h₃.objs.size, .str x t]) (typeIs_str _ x t) F.slot_str_getitem.lookup ?_ rfl
  refine wpAny_getItem_str_slice (l := l) (u := u) (st := none) ⟨_, Heap.get?_push_size _ rfl, rfl, rfl⟩ rfl ?_
  refine post_val_or_str ⟨Nat.le_trans (Txt.slice_le x _ _) hz, fun t' k => ?_⟩
  exact b _ _ _ (stays_trans (stays_trans (stays_trans k₁ k₂) k₃) (stays_push _ _)) (.str _ _)

theorem sees_slice_list {v : Expr} {lo hi : Option Expr} {p pos : Pos} {ds : List PyData} {i j : Option Int} (h : Sees X Γ ρ v (.list ds)) (h1 : SeesPart X Γ ρ lo i) (h2 : SeesPart X Γ ρ hi j) (hz : ds.length ≤ sizeLine) :
    Sees X Γ ρ (.Subscript v (.Slice lo hi none p) pos) (.list (pk ds i j)) := fun s Q E g b => by
  refine Subscript_ (h s _ E g fun o h₁ tk₁ k₁ r₁ => wpAny_Slice (h1 _ _ E (g.keeps k₁) fun vl h₂ tk₂ k₂ q1 => h2 _ _ E (g.keeps (stays_trans k₁ k₂)) fun vu h₃ tk₃ k₃ q2 => evalPart_none_step ?_))
  obtain ⟨a, items, rfl, hl, rl⟩ := (r₁.keeps (stays_trans k₂ k₃)).list_inv
  have hsz := rl.length
  rw [Array.length_toList] at hsz
  have hl' : (h₃.push { cls := .type "slice", data := .fields #[vl, vu, .none] }).IsList a items := hl.push _
  refine tail_any (ops := [.ref h₃.objs.size, .ref a]) hl'.typeIs slot_list_getitem.lookup ?_ rfl
  refine wpAny_getItem_list_slice hl' (Heap.IsSliceOf.new ..) q1 q2 .none (by simp) ?_ (by omega)
  rw [kms_pick_eq]
  refine b _ _ tk₃ (stays_trans (stays_trans (stays_trans k₁ k₂) (stays_trans k₃ (stays_push _ _))) (stays_push _ _)) (Rd.new_list ?_)
  have e : kms_pick items.toList i j = pk items.toList i j := rfl
  rw [e]
  unfold pk
  rw [rl.length]
  exact ((rl.keeps (stays_push _ _)).drop _).take _

theorem sees_rev_list {v st : Expr} {p pos : Pos} {ds : List PyData} (h : Sees X Γ ρ v (.list ds)) (h3 : Sees X Γ ρ st (.int (-1))) (hz : ds.length ≤ sizeLine) :
    Sees X Γ ρ (.Subscript v (.Slice none none (some st) p) pos) (.list ds.reverse) := fun s Q E g b => by
  refine Subscript_ (h s _ E g fun o h₁ tk₁ k₁ r₁ => wpAny_Slice (evalPart_none_step (evalPart_none_step (evalPart_some_step (h3 _ _ E (g.keeps k₁) fun vs h₃ tk₃ k₃ q3 => ?_)))))
  obtain ⟨t, rfl⟩ := q3.int_inv
  obtain ⟨a, items, rfl, hl, rl⟩ := (r₁.keeps k₃).list_inv
  have hsz := rl.length
  rw [Array.length_toList] at hsz
  have hl' : (h₃.push { cls := .type "slice", data := .fields #[.none, .none, .int (-1) t] }).IsList a items := hl.push _
  refine tail_any (ops := [.ref a, .ref h₃.objs.size]) hl'.typeIs slot_list_getitem.lookup ?_ rfl
  refine wpAny_getItem_list_slice hl' (Heap.IsSliceOf.new ..) .none .none (.int _ _) (by simp) ?_ (by omega)
  rw [krv_pick]
  exact b _ _ tk₃ (stays_trans (stays_trans k₁ (stays_trans k₃ (stays_push _ _))) (stays_push _ _)) (Rd.new_list (rl.keeps (stays_push _ _)).reverse)

theorem sees_slice_tuple {v lo : Expr} {p pos : Pos} {ds : List PyData} {i : Nat} (h : Sees X Γ ρ v (.tuple ds)) (h1 : Sees X Γ ρ lo (.int i)) (h1' : 1 ≤ i) (h2 : i ≤ ds.length) (hz : ds.length ≤ sizeLine) :
    Sees X Γ ρ (.Subscript v (.Slice (some lo) none none p) pos) (.tuple (ds.drop i)) := fun s Q E g b => by
  refine Subscript_ (h s _ E g fun o h₁ tk₁ k₁ r₁ => wpAny_Slice (evalPart_some_step (h1 _ _ E (g.keeps k₁) fun vl h₃ tk₃ k₃ q3 => evalPart_none_step (evalPart_none_step ?_))))
  obtain ⟨t, rfl⟩ := q3.int_inv
  obtain ⟨a, items, rfl, hl, rl⟩ := (r₁.keeps k₃).tuple_inv
  have hsz := rl.length
  rw [Array.length_toList] at hsz
  have hl' : IsTup (h₃.push { cls := .type "slice", data := .fields #[.int i t, .none, .none] }) a items := hl.push _
  refine tail_any (ops := [.ref h₃.objs.size, .ref a]) hl'.typeIs PyProof.Rows.slot_tuple_getitem.lookup ?_ rfl
  refine getItem_tuple_from hl' (Heap.IsSliceOf.new ..) h1' (by omega) ?_ (by omega)
  exact b _ _ tk₃ (stays_trans (stays_trans k₁ (stays_trans k₃ (stays_push _ _))) (stays_push _ _)) (Rd.new_tuple ((rl.keeps (stays_push _ _)).drop _))

/-- an item of a list, a tuple: the index may be negative -/
noncomputable def at? (n : Nat) (k : Int) : Nat := if k < 0 then (k + n).toNat else k.toNat
theorem sees_item_list {v ix : Expr} {pos : Pos} {ds : List PyData} {d : PyData} {k : Int} (h : Sees X Γ ρ v (.list ds)) (h1 : Sees X Γ ρ ix (.int k)) (hd : ds[at? ds.length k]? = some d) (hlo : -(ds.length : Int) ≤ k) (hz : ds.length ≤ sizeLine)
    (hs : ∀ a b t, subscripted ix false (.ref a) (.int b t) = operate [.ref a, .int b t] (getItem (.ref a) (.int b t))) :
    Sees X Γ ρ (.Subscript v ix pos) d := fun s Q E g b => by
  refine Subscript_ (h s _ E g fun o h₁ tk₁ k₁ r₁ => h1 _ _ E (g.keeps k₁) fun vl h₃ tk₃ k₃ q3 => ?_)
  obtain ⟨t, rfl⟩ := q3.int_inv
  obtain ⟨a, items, rfl, hl, rl⟩ := (r₁.keeps k₃).list_inv
  have hsz := rl.length
  rw [Array.length_toList] at hsz
  rw [sizeLine_eq] at hz
  obtain ⟨x, hx, rx⟩ := rl.get hd
  rw [Array.getElem?_toList] at hx
  have hlt : at? ds.length k < ds.length := by
    have := List.getElem?_eq_some_iff.mp hd
    exact this.1
  refine tail_any (ops := [.ref a, .int k t]) hl.typeIs slot_list_getitem.lookup ?_ (hs a k t)
  unfold at? at hx hlt
  by_cases hk : k < 0
  · rw [if_pos hk] at hx hlt
    refine wpAny_getItem_list_neg hl hk (by rw [hsz]; exact hlo) (neg63 (le_k hz rfl) hlo) (by rw [hsz]; exact hx) (b _ h₃ tk₃ (stays_trans k₁ k₃) rx)
  · rw [if_neg hk] at hx hlt
    refine wpAny_getItem_list hl (Int.not_lt.mp hk) (lt63 (Nat.le_of_lt hlt) (le_k hz rfl)) hx (b _ h₃ tk₃ (stays_trans k₁ k₃) rx)
theorem sees_item_tuple {v ix : Expr} {pos : Pos} {ds : List PyData} {d : PyData} {k : Nat} (h : Sees X Γ ρ v (.tuple ds)) (h1 : Sees X Γ ρ ix (.int k)) (hd : ds[k]? = some d) (hz : ds.length ≤ sizeLine)
    (hs : ∀ a b t, subscripted ix false (.ref a) (.int b t) = operate [.ref a, .int b t] (getItem (.ref a) (.int b t))) :
    Sees X Γ ρ (.Subscript v ix pos) d := fun s Q E g b => by
  refine Subscript_ (h s _ E g fun o h₁ tk₁ k₁ r₁ => h1 _ _ E (g.keeps k₁) fun vl h₃ tk₃ k₃ q3 => ?_)
  obtain ⟨t, rfl⟩ := q3.int_inv
  obtain ⟨a, items, rfl, hl, rl⟩ := (r₁.keeps k₃).tuple_inv
  have hsz := rl.length
  rw [Array.length_toList] at hsz
  rw [sizeLine_eq] at hz
  obtain ⟨x, hx, rx⟩ := rl.get hd
  rw [Array.getElem?_toList] at hx
  have hlt : k < ds.length := (List.getElem?_eq_some_iff.mp hd).1
  refine tail_any (ops := [.ref a, .int k t]) hl.typeIs PyProof.Rows.slot_tuple_getitem.lookup ?_ (hs a k t)
  refine getItem_tuple hl (Int.le_trans (by decide) (Int.natCast_nonneg k)) (lt63 (n := ds.length) (Nat.le_of_lt hlt) (le_k hz rfl)) (j := k) ?_ hx (b _ h₃ tk₃ (stays_trans k₁ k₃) rx)
  unfold seqIndex?
  have e1 : ¬ ((k : Int) < 0) := Int.not_lt.mpr (Int.natCast_nonneg k)
  simp only [e1, if_false]
  rw [if_pos (by simp; omega)]
  simp
theorem sees_item_str {v ix : Expr} {pos : Pos} {x : Str} {c : Nat} {k : Nat} (h : Sees X Γ ρ v (.str x)) (h1 : Sees X Γ ρ ix (.int k)) (hd : x.cps.toList[k]? = some c) (hz : x.length ≤ sizeLine)
    (hs : ∀ a a' b t, subscripted ix false (.str a a') (.int b t) = operate [.str a a', .int b t] (getItem (.str a a') (.int b t))) :
    Sees X Γ ρ (.Subscript v ix pos) (.str ⟨#[c]⟩) := fun s Q E g b => by
  refine Subscript_ (h s _ E g fun o h₁ tk₁ k₁ r₁ => h1 _ _ E (g.keeps k₁) fun vl h₃ tk₃ k₃ q3 => ?_)
  obtain ⟨t, rfl⟩ := q3.int_inv
  obtain ⟨u, rfl⟩ := r₁.str_inv
  rw [sizeLine_eq] at hz
  rw [Array.getElem?_toList] at hd
  have hlt : k < x.cps.size := by
    have := Array.getElem?_eq_some_iff.mp hd
    exact this.1
  have hlt' : k < x.length := hlt
  refine tail_any (ops := [.str x u, .int k t]) (typeIs_str _ x u) F.slot_str_getitem.lookup ?_ (hs x u k t)
  refine P.getItem_str (c := c) (by simp; omega) ?_ (b _ h₃ _ (stays_trans k₁ k₃) (.str _ _))
  unfold seqIndex?
  have e1 : ¬ ((k : Int) < 0) := Int.not_lt.mpr (Int.natCast_nonneg k)
  simp only [e1, if_false]
  rw [if_pos (by simp; omega)]
  simpa using hd

/-! builtins of one argument -/
noncomputable def Blt (X : Cx) (f : Value) (ds : List PyData) (d : PyData) : Prop :=
  ∀ (A : Around) (s : Shared) (vs : List Value) (Q E : Value → Shared → Prop), A.handled = none → RdL s.heap vs ds → Back s d Q → wpAny X.M A (call f vs) Q E s
theorem sees_blt {x : Str} {p pos : Pos} {e : Expr} {es : List Expr} {ds : List PyData} {d : PyData} {id : String} (hk : Γ.env.kindOf x = some .globalImplicit) (hd : (x == ("__debug__" : Str)) = false)
    (hf : nsIn X.K mainGlobals x = some none) (hv : bootBuiltins x = some (.builtin id)) (hn : x ≠ "__name__") (F : Blt X (.builtin id) ds d) (h : SeesAll X Γ ρ (e :: es) ds)
    (he : ∀ env, starEach (e :: es) env = (false, eval e env) :: starEach es env) (hs : ∀ env pos, (backTo pos (starEach es env)).any (·.1) = false) :
    Sees X Γ ρ (.Call (.Name x p) (e :: es) [] pos) d := fun s Q E g b => by
  refine Call_Name rfl (eval_builtin g hk hd hf hv hn ?_)
  refine PyProof.Rows.callWith_builtin1 (h pos s _ E g fun vs h' tk k r => ?_) (he _) (hs _ _)
  exact F Γ.A _ vs Q E g.fit.handled r (b.next k)

theorem blt_len_list {ds : List PyData} (hz : ds.length ≤ sizeLine) : Blt X (.builtin "len") [.list ds] (.int ds.length) := fun A s vs Q E hh r b => by
  rw [sizeLine_eq] at hz
  obtain ⟨_, rfl, r1⟩ := r.one
  · obtain ⟨a, items, rfl, hl, rl⟩ := r1.list_inv
    have hsz := rl.length
    rw [Array.length_toList] at hsz
    refine PyProof.Rows.len_list hl (lt63 (n := ds.length) (Nat.le_of_eq hsz) (le_k hz rfl)) ?_
    rw [hsz]
    exact b _ s.heap _ (stays_refl _) (.int _ _)
theorem blt_len_str {x : Str} (hz : x.length ≤ sizeLine) : Blt X (.builtin "len") [.str x] (.int x.length) := fun A s vs Q E hh r b => by
  rw [sizeLine_eq] at hz
  obtain ⟨_, rfl, r1⟩ := r.one
  · obtain ⟨t, rfl⟩ := r1.str_inv
    exact P.len_str (Int.not_le.mpr (lt63 (n := x.length) (Nat.le_refl _) (le_k hz rfl))) (b _ s.heap _ (stays_refl _) (.int _ _))
theorem blt_chr {i : Int} (h0 : 0 ≤ i) (h1 : i ≤ 1114111) : Blt X (.builtin "chr") [.int i] (.str ⟨#[i.toNat]⟩) := fun A s vs Q E hh r b => by
  obtain ⟨_, rfl, r1⟩ := r.one
  · obtain ⟨t, rfl⟩ := r1.int_inv
    exact chr_of_range h0 h1 (b _ s.heap _ (stays_refl _) (.str _ _))

noncomputable def nums (xs : List Int) : List PyData := xs.map .int
theorem RdL.nums_inv {h : Heap} : ∀ {vs : List Value} {xs : List Int}, RdL h vs (nums xs) → ∀ {i : Nat} {v : Value}, vs[i]? = some v → ∃ t, v = .int (xs.getD i 0) t
  | _, [], r, i, v, e => by cases r; simp at e
  | _, x :: xs, r, i, v, e => by
    cases r with
    | cons a b =>
      cases i with
      | zero => obtain ⟨t, rfl⟩ := a.int_inv; simp at e; exact ⟨t, by simpa using e.symm⟩
      | succ i =>
        have := RdL.nums_inv (xs := xs) b (i := i) (v := v) (by simpa using e)
        simpa using this

theorem preSum_take (val : Nat → Int) (xs : List Int) (h : ∀ i, i < xs.length → val i = xs.getD i 0) : ∀ n, n ≤ xs.length → preSum val n = (xs.take n).sum := by
  intro n
  induction n with
  | zero => intro _; simp [preSum]
  | succ n ih =>
    intro hn
    have e : xs[n]? = some xs[n] := List.getElem?_eq_getElem hn
    rw [preSum, ih (Nat.le_of_succ_le hn), h n hn, List.take_add_one, List.sum_append, e]
    simp [List.getD, e]

theorem blt_sum {xs : List Int} : Blt X (.builtin "sum") [.list (nums xs)] (.int xs.sum) := fun A s vs Q E hh r b => by
  obtain ⟨_, rfl, r1⟩ := r.one
  · obtain ⟨a, items, rfl, hl, rl⟩ := r1.list_inv
    have hsz := rl.length
    rw [Array.length_toList] at hsz
    have hal : a < s.heap.objs.size := let ⟨o, ho, _⟩ := hl; Heap.lt_size ho
    refine call_sum_walkG (wpAny_pyIter_list hl ?_)
    refine ⟨s.heap.objs.size, _, _, _, _, _, fun i => xs.getD i 0, rfl, Walks.list (A := A.in1) hh s.heap.objs.size a (Nat.ne_of_lt hal) items, ⟨⟨_, Heap.get?_push_size _ rfl, rfl, rfl⟩, hl.push _⟩, ?_, ?_, ?_⟩
    · intro b hb
      simp only [Heap.size_push]
      simp at hb
      rcases hb with rfl | rfl
      · exact Nat.lt_succ_self _
      · exact Nat.lt_succ_of_lt hal
    · intro i v e
      exact rl.nums_inv (by rw [Array.getElem?_toList]; exact e)
    · intro h' tk t' k
      have e : preSum (fun i => xs.getD i 0) items.size = xs.sum := by
        rw [preSum_take _ xs (fun i _ => rfl) _ (by rw [hsz]; simp [nums]), hsz]
        congr 1
        exact List.take_of_length_le (by simp [nums])
      rw [e]
      refine b _ h' tk (fun c o hc => k c o ?_ (Heap.get?_push_of_some _ hc)) (.int _ _)
      intro hm
      simp at hm
      exact Nat.lt_irrefl _ (hm ▸ Heap.lt_size hc)

/-- the greatest of a list that is not empty -/
noncomputable def maxI : List Int → Int
  | [] => 0
  | x :: r => r.foldl (fun a b => if b > a then b else a) x
theorem argBest_max (xs : List Int) : ∀ n, n < xs.length → xs.getD (argBest (fun i j => decide (xs.getD j 0 < xs.getD i 0)) n) 0 = maxI (xs.take (n + 1)) := by
  intro n
  induction n with
  | zero =>
    intro hn
    cases xs with
    | nil => simp at hn
    | cons x r => simp [argBest, maxI]
  | succ n ih =>
    intro hn
    have ih' := ih (Nat.lt_of_succ_lt hn)
    rw [argBest]
    cases xs with
    | nil => simp at hn
    | cons x r =>
      have hr : n < r.length := by simpa using hn
      have e : maxI ((x :: r).take (n + 2)) = (if r.getD n 0 > maxI ((x :: r).take (n + 1)) then r.getD n 0 else maxI ((x :: r).take (n + 1))) := by
        simp only [List.take_succ_cons, maxI]
        rw [List.take_add_one, List.foldl_append]
        have : r[n]? = some r[n] := List.getElem?_eq_getElem hr
        simp [List.getD, this]
      rw [e, ← ih']
      have e2 : (x :: r).getD (n + 1) 0 = r.getD n 0 := by simp
      by_cases hc : r.getD n 0 > (x :: r).getD (argBest (fun i j => decide ((x :: r).getD j 0 < (x :: r).getD i 0)) n) 0
      · rw [if_pos hc, if_pos (by rw [e2]; exact decide_eq_true hc), e2]
      · rw [if_neg hc, if_neg (by rw [e2]; simpa using hc)]

theorem blt_max {xs : List Int} (hne : xs ≠ []) : Blt X (.builtin "max") [.list (nums xs)] (.int (maxI xs)) := fun A s vs Q E hh r b => by
  obtain ⟨_, rfl, r1⟩ := r.one
  · obtain ⟨a, items, rfl, hl, rl⟩ := r1.list_inv
    have hsz := rl.length
    rw [Array.length_toList] at hsz
    have hlen : items.size = xs.length := by rw [hsz]; simp [nums]
    have hpos : 0 < xs.length := List.length_pos_iff.mpr hne
    have hal : a < s.heap.objs.size := let ⟨o, ho, _⟩ := hl; Heap.lt_size ho
    refine call_max_walk (wpAny_pyIter_list hl ?_)
    refine ⟨s.heap.objs.size, _, _, _, _, _, fun i j => decide (xs.getD j 0 < xs.getD i 0), rfl, Walks.list (A := A.in1) hh s.heap.objs.size a (Nat.ne_of_lt hal) items, ⟨⟨_, Heap.get?_push_size _ rfl, rfl, rfl⟩, hl.push _⟩, ?_, hlen ▸ hpos, ?_, ?_⟩
    · intro b hb
      simp only [Heap.size_push]
      simp at hb
      rcases hb with rfl | rfl
      · exact Nat.lt_succ_self _
      · exact Nat.lt_succ_of_lt hal
    · intro i j vi vj s' Q' E' hi hj hq
      obtain ⟨t, rfl⟩ := rl.nums_inv (i := i) (v := vi) (by rw [Array.getElem?_toList]; exact hi)
      obtain ⟨u, rfl⟩ := rl.nums_inv (i := j) (v := vj) (by rw [Array.getElem?_toList]; exact hj)
      exact gt_int hq
    · intro v h' tk hP k
      obtain ⟨t, rfl⟩ := rl.nums_inv (v := v) (by rw [Array.getElem?_toList]; exact hP)
      have e := argBest_max xs (items.size - 1) (hlen ▸ Nat.sub_lt (hlen ▸ hpos) Nat.one_pos)
      rw [e]
      have e2 : xs.take (items.size - 1 + 1) = xs := List.take_of_length_le (by rw [Nat.sub_add_cancel (hlen ▸ hpos), hlen]; exact Nat.le_refl _)
      rw [e2]
      refine b _ h' tk (fun c o hc => k c o ?_ (Heap.get?_push_of_some _ hc)) (.int _ _)
      intro hm
      simp at hm
      exact Nat.lt_irrefl _ (hm ▸ Heap.lt_size hc)
end
end Mine
end

noncomputable section
open PySem PySem.W PyProof.Rows Builtin.Str
set_option maxRecDepth 100000
namespace Mine
section
variable {X : Cx} {Γ : Fx} {ρ : Vars}

theorem eval_meth1 {env : Env} {A : Around} {s : Shared} {Q E : Value → Shared → Prop} {o e : Expr} {name : Str} {apos pos : Pos} {id : String} (slot : Slot "str" name id) (ty : typeOf (.builtin id) = pure (.type "method_descriptor"))
    (h : wpAny X.M A (eval o env) (fun ov s₁ => ∃ x t, ov = .str x t ∧ wpAny X.M A (eval e env) (fun v s₂ => wpAny X.M A (call (.builtin id) [.str x t, v]) Q E s₂) E s₁) E s)
    (hbase : attributeBase o name env (eval o env) = eval o env) (hs : starEach [e] env = [(false, eval e env)]) (hline : (apos.endLine == pos.line) = true) :
    wpAny X.M A (eval (.Call (.Attribute o name apos) [e] [] pos) env) Q E s := by
  refine Call_method1 hbase hs hline (wpAny_mono h (fun ov s₁ h₁ => ?_) fun _ _ x => x)
  obtain ⟨x, t, rfl, h₁⟩ := h₁
  refine ⟨"str", id, F.plainAttrs_str, slot, ty, typeIs_str _ _ _, (fun _ e => nomatch e), ?_⟩
  exact Calls.callWith_builtin rfl (Calls.evalArgs_plain (Calls.spliced_cons (wpAny_mono h₁ (fun v s₂ h₂ => Calls.spliced_nil h₂) fun _ _ x => x)))

theorem sees_meth1 {o e : Expr} {name : Str} {apos pos : Pos} {x : Str} {d1 d : PyData} {id : String} (slot : Slot "str" name id) (ty : typeOf (.builtin id) = pure (.type "method_descriptor"))
    (C : ∀ (A : Around) (s : Shared) (t : Tok) (v : Value) (Q E : Value → Shared → Prop), A.handled = none → Rd s.heap v d1 → Back s d Q → wpAny X.M A (call (.builtin id) [.str x t, v]) Q E s)
    (h : Sees X Γ ρ o (.str x)) (h1 : Sees X Γ ρ e d1)
    (hbase : ∀ env, attributeBase o name env (eval o env) = eval o env) (hs : ∀ env, starEach [e] env = [(false, eval e env)]) (hline : (apos.endLine == pos.line) = true) :
    Sees X Γ ρ (.Call (.Attribute o name apos) [e] [] pos) d := fun s Q E g b => by
  refine eval_meth1 slot ty (h s _ E g fun ov h₁ tk₁ k₁ r₁ => ?_) (hbase _) (hs _) hline
  obtain ⟨t, rfl⟩ := r₁.str_inv
  refine ⟨x, t, rfl, h1 _ _ E (g.keeps k₁) fun v h₂ tk₂ k₂ r₂ => ?_⟩
  exact C Γ.A _ t v Q E g.fit.handled r₂ (b.next (stays_trans k₁ k₂))

theorem sees_rfind {o e : Expr} {apos pos : Pos} {x y : Str} (h : Sees X Γ ρ o (.str x)) (h1 : Sees X Γ ρ e (.str y))
    (hbase : ∀ env, attributeBase o "rfind" env (eval o env) = eval o env) (hs : ∀ env, starEach [e] env = [(false, eval e env)]) (hline : (apos.endLine == pos.line) = true) :
    Sees X Γ ρ (.Call (.Attribute o "rfind" apos) [e] [] pos) (.int (Txt.rfind x y)) :=
  sees_meth1 F.slot_str_rfind F.type_str_rfind (fun A s t v Q E hh r b => by
    obtain ⟨u, rfl⟩ := r.str_inv
    exact SC.rfind (b _ s.heap _ (stays_refl _) (.int _ _))) h h1 hbase hs hline
theorem sees_rstrip {o e : Expr} {apos pos : Pos} {x y : Str} (hz : x.length ≤ sizeLine) (h : Sees X Γ ρ o (.str x)) (h1 : Sees X Γ ρ e (.str y))
    (hbase : ∀ env, attributeBase o "rstrip" env (eval o env) = eval o env) (hs : ∀ env, starEach [e] env = [(false, eval e env)]) (hline : (apos.endLine == pos.line) = true) :
    Sees X Γ ρ (.Call (.Attribute o "rstrip" apos) [e] [] pos) (.str (Txt.rstripChars x y)) :=
  sees_meth1 F.slot_str_rstrip F.type_str_rstrip (fun A s t v Q E hh r b => by
    obtain ⟨u, rfl⟩ := r.str_inv
    exact SC.rstripChars (fun t' k => b _ s.heap _ (stays_refl _) (.str _ _)) hz) h h1 hbase hs hline
theorem sees_lstrip {o e : Expr} {apos pos : Pos} {x y : Str} (hz : x.length ≤ sizeLine) (h : Sees X Γ ρ o (.str x)) (h1 : Sees X Γ ρ e (.str y))
    (hbase : ∀ env, attributeBase o "lstrip" env (eval o env) = eval o env) (hs : ∀ env, starEach [e] env = [(false, eval e env)]) (hline : (apos.endLine == pos.line) = true) :
    Sees X Γ ρ (.Call (.Attribute o "lstrip" apos) [e] [] pos) (.str (Txt.lstripChars x y)) :=
  sees_meth1 F.slot_str_lstrip F.type_str_lstrip (fun A s t v Q E hh r b => by
    obtain ⟨u, rfl⟩ := r.str_inv
    exact SC.lstripChars (fun t' k => b _ s.heap _ (stays_refl _) (.str _ _)) hz) h h1 hbase hs hline
theorem sees_startswith {o e : Expr} {apos pos : Pos} {x y : Str} (h : Sees X Γ ρ o (.str x)) (h1 : Sees X Γ ρ e (.str y))
    (hbase : ∀ env, attributeBase o "startswith" env (eval o env) = eval o env) (hs : ∀ env, starEach [e] env = [(false, eval e env)]) (hline : (apos.endLine == pos.line) = true) :
    Sees X Γ ρ (.Call (.Attribute o "startswith" apos) [e] [] pos) (.bool (Txt.startswith x y)) :=
  sees_meth1 F.slot_str_startswith F.type_str_startswith (fun A s t v Q E hh r b => by
    obtain ⟨u, rfl⟩ := r.str_inv
    exact SC.startswith (b _ s.heap s.toks (stays_refl _) (.bool _))) h h1 hbase hs hline
theorem sees_endswith {o e : Expr} {apos pos : Pos} {x y : Str} (h : Sees X Γ ρ o (.str x)) (h1 : Sees X Γ ρ e (.str y))
    (hbase : ∀ env, attributeBase o "endswith" env (eval o env) = eval o env) (hs : ∀ env, starEach [e] env = [(false, eval e env)]) (hline : (apos.endLine == pos.line) = true) :
    Sees X Γ ρ (.Call (.Attribute o "endswith" apos) [e] [] pos) (.bool (Txt.endswith x y)) :=
  sees_meth1 F.slot_str_endswith F.type_str_endswith (fun A s t v Q E hh r b => by
    obtain ⟨u, rfl⟩ := r.str_inv
    exact SC.endswith (b _ s.heap s.toks (stays_refl _) (.bool _))) h h1 hbase hs hline
theorem sees_split {o e : Expr} {apos pos : Pos} {x y : Str} (hy : (y.length == 0) = false) (hz : x.length ≤ sizeLine) (hz2 : (partsBetween x (occurrences x y 0 x.length (x.length + 1)) y.length).length ≤ sizeLine) (h : Sees X Γ ρ o (.str x)) (h1 : Sees X Γ ρ e (.str y))
    (hbase : ∀ env, attributeBase o "split" env (eval o env) = eval o env) (hs : ∀ env, starEach [e] env = [(false, eval e env)]) (hline : (apos.endLine == pos.line) = true) :
    Sees X Γ ρ (.Call (.Attribute o "split" apos) [e] [] pos) (.list (txts (Txt.split x y))) :=
  sees_meth1 F.slot_str_split F.type_str_split (fun A s t v Q E hh r b => by
    obtain ⟨u, rfl⟩ := r.str_inv
    refine SCG.split1 (Fm := fun s' => ∃ h' tk, s' = { s with heap := h', toks := tk } ∧ s.heap.StaysIn h') ?_ ⟨s.heap, s.toks, rfl, stays_refl _⟩ hy ?_ hz hz2
    · rintro s' ob k ⟨h', tk, rfl, kk⟩
      exact ⟨_, _, rfl, stays_trans kk (stays_push _ _)⟩
    · rintro D l s' hl ⟨h', tk, rfl, kk⟩ hD
      refine b _ h' tk kk (Rd.of_list hD ?_)
      rw [← hl]
      simpa using RdL.of_strValues l) h h1 hbase hs hline
theorem sees_join {o e : Expr} {apos pos : Pos} {x : Str} {ys : List Str} (hok : JoinOk x ys = true) (h : Sees X Γ ρ o (.str x)) (h1 : Sees X Γ ρ e (.list (txts ys)))
    (hbase : ∀ env, attributeBase o "join" env (eval o env) = eval o env) (hs : ∀ env, starEach [e] env = [(false, eval e env)]) (hline : (apos.endLine == pos.line) = true) :
    Sees X Γ ρ (.Call (.Attribute o "join" apos) [e] [] pos) (.str (Txt.join x ys)) :=
  sees_meth1 F.slot_str_join F.type_str_join (fun A s t v Q E hh r b => by
    obtain ⟨a, items, rfl, hl, rl⟩ := r.list_inv
    obtain ⟨l, e, hl'⟩ := rl.txts_inv
    have e2 : items = (strValues l).toArray := by rw [← e]
    rw [e2] at hl
    exact SC.join hl hl' hok (fun t' k => b _ s.heap _ (stays_refl _) (.str _ _))) h h1 hbase hs hline

end
end Mine
end

noncomputable section
open PySem PySem.W PyProof.Rows Builtin.Str
set_option maxRecDepth 100000
namespace Mine

theorem seqs_sameBut {h h' : Heap} {C : Addr} {m : Str → Option Value} (hn : h.Ns C m) (hs : Heap.SameBut C h h') : Seqs h h' := fun a o vs n e q => by
  refine (hs.2 a ?_).trans e
  rintro rfl
  obtain ⟨o', es, ep, ho, hd, _⟩ := hn
  rw [e] at ho
  cases ho
  rw [q] at hd
  cases hd
theorem seqs_cell {h h' : Heap} {C : Addr} {v : Option Value} (hn : h.IsCell C v) (hs : Heap.SameBut C h h') : Seqs h h' := fun a o vs n e q => by
  refine (hs.2 a ?_).trans e
  rintro rfl
  obtain ⟨o', ho, hd⟩ := hn
  rw [e] at ho
  cases ho
  rw [q] at hd
  cases hd

/-- readings that go by no address of a list -/
theorem hide_seqs {h h' : Heap} {l : List Addr} (k : ∀ a o vs n, a ∉ l → h.get? a = some o → o.data = .seq vs n → h'.get? a = some o) : Seqs (hideAll h l) (hideAll h' l) := fun a o vs n e q => by
  by_cases hm : a ∈ l
  · rw [hideAll_none l hm] at e; cases e
  · exact hideAll_get l (k a o vs n hm (of_hideAll l e) q) hm
theorem rd_unhide {h : Heap} {l : List Addr} {v : Value} {d : PyData} (r : Rd (hideAll h l) v d) : Rd h v d := r.move fun a o vs n e q => of_hideAll l e

mutual
noncomputable def noList : PyData → Bool
  | .list _ => false
  | .tuple ds => noLists ds
  | .dict _ => false
  | _ => true
noncomputable def noLists : List PyData → Bool
  | [] => true
  | d :: ds => noList d && noLists ds
end
theorem noLists_mem {ds : List PyData} (h : noLists ds = true) : ∀ {d}, d ∈ ds → noList d = true := by
  intro d hd
  induction ds with
  | nil => cases hd
  | cons c ds ih =>
    simp only [noLists, Bool.and_eq_true] at h
    rcases List.mem_cons.mp hd with rfl | hd
    · exact h.1
    · exact ih h.2 hd
/-- all of l are no sequences, but lists -/
noncomputable def Shy (h : Heap) (l : List Addr) : Prop := ∀ a ∈ l, ∃ o, h.get? a = some o ∧ ∀ vs n, o.data = .seq vs n → o.cls = .type "list"
theorem Shy.keeps {h h' : Heap} {l : List Addr} (sh : Shy h l) (k : h.StaysIn h') : Shy h' l := fun a ha => let ⟨o, ho, q⟩ := sh a ha; ⟨o, k a o ho, q⟩
/-- all of l are there, and no sequences -/
noncomputable def NoSeq (h : Heap) (l : List Addr) : Prop := ∀ a ∈ l, ∃ o, h.get? a = some o ∧ ∀ vs n, o.data ≠ .seq vs n
theorem NoSeq.shy {h : Heap} {l : List Addr} (sh : NoSeq h l) : Shy h l := fun a ha => let ⟨o, ho, q⟩ := sh a ha; ⟨o, ho, fun vs n e => absurd e (q vs n)⟩
theorem NoSeq.seqs {h h' : Heap} {l : List Addr} (sh : NoSeq h l) (k : ∀ b o, b ∉ l → h.get? b = some o → h'.get? b = some o) : Seqs h h' := fun a o vs n e q => k a o (fun hm => by
  obtain ⟨o', ho', hq⟩ := sh a hm
  rw [e] at ho'
  cases ho'
  exact hq vs n q) e
theorem rd_hide {h : Heap} {l : List Addr} (sh : Shy h l) : (∀ {v : Value} {d : PyData}, Rd h v d → noList d = true → Rd (hideAll h l) v d) ∧ ∀ {vs : List Value} {ds : List PyData}, RdL h vs ds → noLists ds = true → RdL (hideAll h l) vs ds :=
  rd_ind (P := fun v d => noList d = true → Rd (hideAll h l) v d) (Q := fun vs ds => noLists ds = true → RdL (hideAll h l) vs ds) (fun _ => .none) (fun b _ => .bool b) (fun i t _ => .int i t) (fun x t _ => .str x t) (fun _ _ _ _ _ hn => nomatch hn)
    (fun e c q _ r hn => .tuple (hideAll_get l e fun hm => by
      obtain ⟨o', ho', hq⟩ := sh _ hm
      rw [e] at ho'
      have := hq _ _ ((Option.some.inj ho') ▸ q)
      rw [← Option.some.inj ho', c] at this
      exact absurd (Value.type.inj this) (by decide)) c q (r hn)) (fun _ => .nil) (fun _ _ p q hn => .cons (p (Bool.and_eq_true_iff.mp hn).1) (q (Bool.and_eq_true_iff.mp hn).2))
theorem Rd.hide {h : Heap} {l : List Addr} (sh : Shy h l) {v : Value} {d : PyData} (r : Rd h v d) (hn : noList d = true) : Rd (hideAll h l) v d := (rd_hide sh).1 r hn
theorem RdL.hide {h : Heap} {l : List Addr} (sh : Shy h l) {vs : List Value} {ds : List PyData} (r : RdL h vs ds) (hn : noLists ds = true) : RdL (hideAll h l) vs ds := (rd_hide sh).2 r hn

/-! iterators -/
structure ItOk (X : Cx) (A : Around) (base : Heap) (I : Addr) (tgt : Expr) (fp wr : List Addr) (ds : List PyData) (St : Nat → Heap → Prop) : Prop where
  sub : ∀ b ∈ wr, b ∈ fp
  fresh' : ∀ b ∈ fp, base.get? b = none
  frame : ∀ i h h', St i h → (∀ b ∈ fp, ∀ o, h.get? b = some o → h'.get? b = some o) → St i h'
  item : ∀ i (s : Shared) (Q : Option Value → Shared → Prop) (E : Value → Shared → Prop) d, ds[i]? = some d → St i s.heap → Seqs base s.heap →
    (∀ v s₁, (∀ (Q : Unit → Shared → Prop) (E' : Value → Shared → Prop),
      (∀ h' tk, Rd h' v d → St (i + 1) h' → (∀ b o, b ∉ wr → s.heap.get? b = some o → h'.get? b = some o) → Q () { s with heap := h', toks := tk }) → wpAny X.M A (letOwnedTupleGo tgt (.ref I) v) Q E' s₁) → Q (some v) s₁) →
    wpAny X.M A (pyNext (.ref I)) Q E s
  done : ∀ (s : Shared) (Q : Option Value → Shared → Prop) (E : Value → Shared → Prop), St ds.length s.heap → Seqs base s.heap →
    (∀ h' tk, (∀ b o, b ∉ wr → s.heap.get? b = some o → h'.get? b = some o) → Q none { s with heap := h', toks := tk }) → wpAny X.M A (pyNext (.ref I)) Q E s
  self : ∀ i (s : Shared) (Q : Value → Shared → Prop) (E : Value → Shared → Prop), St i s.heap → Q (.ref I) s → wpAny X.M A (pyIter (.ref I)) Q E s

theorem ItOk.fresh {X : Cx} {A : Around} {base : Heap} {I : Addr} {tgt : Expr} {fp wr : List Addr} {ds : List PyData} {St : Nat → Heap → Prop} (W : ItOk X A base I tgt fp wr ds St) : ∀ b ∈ wr, base.get? b = none := fun b hb => W.fresh' b (W.sub b hb)

/-- the iterable of a comprehension or a for, as its data; q: the iterator's own objects are no tuples -/
noncomputable def SeesIter (X : Cx) (Γ : Fx) (ρ : Vars) (e tgt : Expr) (ds : List PyData) (q : Bool) : Prop :=
  ∀ (s : Shared) (Q E : Value → Shared → Prop), Good X Γ ρ s.heap →
    (∀ base I fp wr St h' tk, s.heap.StaysIn base → base.StaysIn h' → ItOk X Γ.A base I tgt fp wr ds St → St 0 h' → (∀ b ∈ fp, b < h'.objs.size) → (q = true → ∀ i h, St i h → NoSeq h wr) → Q (.ref I) { s with heap := h', toks := tk }) →
    wpAny X.M Γ.A (eval e Γ.env) (fun x s₁ => wpAny X.M Γ.A (pyIter x) Q E s₁) E s

section
variable {X : Cx} {Γ : Fx} {ρ : Vars}

/-- which targets the plain iterators serve -/
noncomputable def TgtOk (tgt : Expr) (ds : List PyData) : Prop := (∀ it v, letOwnedTupleGo tgt it v = pure ()) ∨ ((∃ es k p, tgt = .Tuple es k p) ∧ ∀ d ∈ ds, ∃ xs, d = .tuple xs)
theorem letOwned_list {A : Around} {E : Value → Shared → Prop} {s : Shared} {tgt : Expr} {I l : Addr} {i : Nat} {v : Value} {d : PyData} {ds : List PyData} {Q : Unit → Shared → Prop} (ht : TgtOk tgt ds) (hd : d ∈ ds) (r : Rd s.heap v d)
    (hI : s.heap.IsListIter I l i) (h : Q () s) : wpAny X.M A (letOwnedTupleGo tgt (.ref I) v) Q E s := by
  rcases ht with ht | ⟨⟨es, k, p, rfl⟩, ht⟩
  · exact wpAny_of_eq (ht _ _) h
  · obtain ⟨xs, rfl⟩ := ht d hd
    obtain ⟨a, items, rfl, _, _⟩ := r.tuple_inv
    exact wpAny_letOwnedTupleGo_listiter hI h

theorem list_seqs {base h : Heap} {a : Addr} {items : Array Value} (hb : Seqs base h) (hl : base.IsList a items) : h.IsList a items := let ⟨o, ho, hc, n, hd⟩ := hl; ⟨o, hb a o _ _ ho hd, hc, n, hd⟩
theorem tuple_seqs {base h : Heap} {a : Addr} {items : Array Value} (hb : Seqs base h) (hl : base.IsTuple a items) : h.IsTuple a items := let ⟨o, ho, hc, n, hd⟩ := hl; ⟨o, hb a o _ _ ho hd, hc, n, hd⟩
theorem mem_of_get? {α : Type} {l : List α} {i : Nat} {x : α} (h : l[i]? = some x) : x ∈ l := List.mem_of_getElem? h

theorem itOk_list {A : Around} (hh : A.handled = none) (base : Heap) (I ax : Addr) (items : Array Value) (ds : List PyData) (tgt : Expr) (ht : TgtOk tgt ds) (hI : base.get? I = none) (hl : base.IsList ax items) (rl : RdL base items.toList ds) :
    ItOk X A base I tgt [I] [I] ds (fun i h => h.IsListIter I ax i) where
  sub := fun b hb => hb
  fresh' := fun b hb => by simp at hb; rw [hb]; exact hI
  frame := fun _ _ _ st hk => st.at fun o e => hk I (by simp) o e
  item := fun i s Q₀ E d hd st hb hQ₀ => by
    obtain ⟨x, hx, rx⟩ := rl.get hd
    rw [Array.getElem?_toList] at hx
    refine wpAny_pyNext_list_item st (list_seqs hb hl) hx fun h' hit' hs' => ?_
    have k : ∀ b o, b ∉ [I] → s.heap.get? b = some o → h'.get? b = some o := fun b o hb e => hs'.extBut b o (fun h => hb (by simp [h])) e
    have rx' : Rd h' x d := (rx.move hb).move fun a o vs n e q => k a o (fun hm => by
      simp at hm
      subst hm
      obtain ⟨o', ho', _, hd'⟩ := st
      rw [e] at ho'
      cases ho'
      rw [q] at hd'
      cases hd') e
    exact hQ₀ x _ fun Q E' hQ => letOwned_list (s := { s with heap := h' }) ht (mem_of_get? hd) rx' hit' (hQ h' s.toks rx' hit' k)
  done := fun s Q E st hb hQ => by
    have hsz := rl.length
    rw [Array.length_toList] at hsz
    exact wpAny_pyNext_list_end hh st (list_seqs hb hl) (by simp [hsz]) fun h' he' => hQ h' s.toks fun b o hb e => he' b o (fun h => hb (by simp [h])) e
  self := fun _ _ _ _ st hQ => wpAny_pyIter_listiter st hQ

theorem iter_list {e tgt : Expr} {ds : List PyData} (h : Sees X Γ ρ e (.list ds)) (ht : TgtOk tgt ds) : SeesIter X Γ ρ e tgt ds true := fun s Q E g b => by
  refine h s _ E g fun v h' tk k r => ?_
  obtain ⟨a, items, rfl, hl, rl⟩ := r.list_inv
  refine wpAny_pyIter_list hl ?_
  have hn : h'.get? h'.objs.size = none := by
    cases e : h'.get? h'.objs.size with
    | none => rfl
    | some o => exact absurd (Heap.lt_size e) (Nat.lt_irrefl _)
  refine b h' h'.objs.size _ _ _ _ tk k (stays_push _ _) (itOk_list g.fit.handled h' h'.objs.size a items ds tgt ht hn hl rl) ⟨_, Heap.get?_push_size _ rfl, rfl, rfl⟩ ?_ ?_
  · intro c hc
    simp at hc
    rw [hc, Heap.size_push]
    exact Nat.lt_succ_self _
  · rintro _ i hh ⟨o, ho, hc, hd⟩ c hc'
    simp at hc'
    subst hc'
    exact ⟨o, ho, fun vs n q => by rw [hd] at q; cases q⟩

theorem itOk_tuple {A : Around} (hh : A.handled = none) (base : Heap) (I ax : Addr) (items : Array Value) (ds : List PyData) (tgt : Expr) (ht : ∀ it v, letOwnedTupleGo tgt it v = pure ()) (hI : base.get? I = none) (hl : base.IsTuple ax items) (rl : RdL base items.toList ds) :
    ItOk X A base I tgt [I] [I] ds (fun i h => h.IsTupleIter I ax i) where
  sub := fun b hb => hb
  fresh' := fun b hb => by simp at hb; rw [hb]; exact hI
  frame := fun _ h h' st hk => let ⟨o, ho, r⟩ := st; ⟨o, hk I (by simp) o ho, r⟩
  item := fun i s Q₀ E d hd st hb hQ₀ => by
    obtain ⟨x, hx, rx⟩ := rl.get hd
    rw [Array.getElem?_toList] at hx
    refine wpAny_pyNext_tuple_item st (tuple_seqs hb hl) hx fun h' hit' hs' => ?_
    have k : ∀ b o, b ∉ [I] → s.heap.get? b = some o → h'.get? b = some o := fun b o hb e => hs'.extBut b o (fun h => hb (by simp [h])) e
    have rx' : Rd h' x d := (rx.move hb).move fun a o vs n e q => k a o (fun hm => by
      simp at hm
      subst hm
      obtain ⟨o', ho', _, hd'⟩ := st
      rw [e] at ho'
      cases ho'
      rw [q] at hd'
      cases hd') e
    exact hQ₀ x _ fun Q E' hQ => wpAny_of_eq (ht _ _) (hQ h' s.toks rx' hit' k)
  done := fun s Q E st hb hQ => by
    have hsz := rl.length
    rw [Array.length_toList] at hsz
    exact wpAny_pyNext_tuple_end hh st (tuple_seqs hb hl) (by simp [hsz]) fun h' he' => hQ h' s.toks fun b o hb e => he' b o (fun h => hb (by simp [h])) e
  self := fun _ _ _ _ st hQ => wpAny_pyIter_tupleiter st hQ

theorem iter_tuple {e tgt : Expr} {ds : List PyData} (h : Sees X Γ ρ e (.tuple ds)) (ht : ∀ it v, letOwnedTupleGo tgt it v = pure ()) : SeesIter X Γ ρ e tgt ds true := fun s Q E g b => by
  refine h s _ E g fun v h' tk k r => ?_
  obtain ⟨a, items, rfl, hl, rl⟩ := r.tuple_inv
  refine wpAny_pyIter_tuple hl ?_
  have hn : h'.get? h'.objs.size = none := by
    cases e : h'.get? h'.objs.size with
    | none => rfl
    | some o => exact absurd (Heap.lt_size e) (Nat.lt_irrefl _)
  refine b h' h'.objs.size _ _ _ _ tk k (stays_push _ _) (itOk_tuple g.fit.handled h' h'.objs.size a items ds tgt ht hn hl rl) ⟨_, Heap.get?_push_size _ rfl, rfl, rfl⟩ ?_ ?_
  · intro c hc
    simp at hc
    rw [hc, Heap.size_push]
    exact Nat.lt_succ_self _
  · rintro _ i hh ⟨o, ho, hc, hd⟩ c hc'
    simp at hc'
    subst hc'
    exact ⟨o, ho, fun vs n q => by rw [hd] at q; cases q⟩

/-! ranges -/
theorem itOk_walks {A : Around} {base : Heap} {I : Addr} {fp wr : List Addr} {n : Nat} {P : Nat → Value → Prop} {St : Nat → Heap → Prop} {ds : List PyData} {tgt : Expr} (W : Walks X.prog X.w A I fp wr n P St) (hn : ds.length = n) (ht : ∀ it v, letOwnedTupleGo tgt it v = pure ())
    (hf : ∀ b ∈ fp, base.get? b = none) (hP : ∀ i v d, P i v → ds[i]? = some d → ∀ h, Rd h v d) : ItOk X A base I tgt fp wr ds St where
  sub := W.sub
  fresh' := hf
  frame := W.frame
  item := fun i s Q₀ E d hd st hb hQ₀ => by
    refine W.item i s _ E (by rw [← hn]; exact (List.getElem?_eq_some_iff.mp hd).1) st fun v h' tk hPv st' k => ?_
    exact hQ₀ v _ fun Q E' hQ => wpAny_of_eq (ht _ _) (hQ h' tk (hP i v d hPv hd h') st' k)
  done := fun s Q E st hb hQ => W.done s Q E (hn ▸ st) hQ
  self := fun i s Q E st hQ => W.self i s Q E st hQ

noncomputable def rangeD (a c : Int) (n : Nat) : List PyData := (List.range n).map fun k : Nat => .int (a + (k : Int) * c)
theorem rangeD_get {a c : Int} {n i : Nat} {d : PyData} (h : (rangeD a c n)[i]? = some d) : d = .int (a + (i : Int) * c) := by
  unfold rangeD at h
  rw [List.getElem?_map] at h
  by_cases hi : i < n
  · rw [List.getElem?_range hi] at h; simpa using h.symm
  · rw [List.getElem?_eq_none (by simpa using hi)] at h; cases h

theorem after_range {A : Around} (hh : A.handled = none) {s : Shared} {Q E : Value → Shared → Prop} {tgt : Expr} (ht : ∀ it v, letOwnedTupleGo tgt it v = pure ()) {a b c : Int} {t u v : Tok} {n : Nat} {r : Addr} (hr : IsRange s.heap r a b c t u v)
    (hn : Builtin.Range.rangeSize a b c = (n : Int)) (hsm : Builtin.Range.small a b c = true)
    (hQ : ∀ I fp wr St h' tk, s.heap.StaysIn h' → ItOk X A s.heap I tgt fp wr (rangeD a c n) St → St 0 h' → (∀ b ∈ fp, b < h'.objs.size) → (∀ i h, St i h → NoSeq h wr) → Q (.ref I) { s with heap := h', toks := tk }) :
    wpAny X.M A (pyIter (.ref r)) Q E s := by
  refine wpAny_pyIter_range hr hsm ?_
  have hN : s.heap.get? s.heap.objs.size = none := by
    cases e : s.heap.get? s.heap.objs.size with
    | none => rfl
    | some o => exact absurd (Heap.lt_size e) (Nat.lt_irrefl _)
  refine hQ s.heap.objs.size _ _ _ _ s.toks (stays_push _ _) (itOk_walks (Walks.range (A := A) hh s.heap.objs.size a c n) (by simp [rangeD]) ht ?_ ?_) ?_ ?_ ?_
  · intro b hb
    simp at hb
    rw [hb]; exact hN
  · rintro i v d ⟨t, rfl⟩ hd h
    rw [rangeD_get hd]
    exact .int _ _
  · show IsRangeIter _ _ _ _ _
    rw [hn]; simpa using Heap.get?_push_size _ rfl
  · intro b hb
    simp at hb
    rw [hb, Heap.size_push]; exact Nat.lt_succ_self _
  · rintro i h st c hc
    simp at hc
    subst hc
    have st' : IsRangeIter h s.heap.objs.size _ _ _ := st
    exact ⟨_, st', fun vs n q => by cases q⟩

theorem size_up (n : Nat) : Builtin.Range.rangeSize 0 n 1 = (n : Int) := by
  unfold Builtin.Range.rangeSize
  rw [if_pos (by decide), Int.ediv_one]
  split <;> omega
theorem size_down (n : Nat) : Builtin.Range.rangeSize ((n : Int) - 1) (-1) (-1) = (n : Int) := by
  unfold Builtin.Range.rangeSize
  rw [if_neg (by decide), show (- -1 : Int) = 1 by decide, Int.ediv_one]
  split <;> omega
theorem fitsLong {i : Int} (h1 : -1000000000 ≤ i) (h2 : i ≤ 1000000000) : Builtin.Range.rangeFitsLong i = true := by
  unfold Builtin.Range.rangeFitsLong
  simp
  omega
theorem fits_nat {n : Nat} (h : n ≤ 100000000) : Builtin.Range.rangeFitsLong (n : Int) = true := fitsLong (Int.le_trans (by decide) (Int.natCast_nonneg n)) (Int.le_trans (Int.ofNat_le.mpr h) (by decide))
theorem small_up (n : Nat) (h : n ≤ 100000000) : Builtin.Range.small 0 n 1 = true := by
  unfold Builtin.Range.small
  rw [size_up, fits_nat h, show Builtin.Range.rangeFitsLong 0 = true by decide, show Builtin.Range.rangeFitsLong 1 = true by decide]
  simp only [Bool.and_self, Bool.true_and, if_pos (show (1 : Int) > 0 by decide)]
  rw [fitsLong (by omega) (by omega), Bool.or_true]
theorem small_down (n : Nat) (h : n ≤ 100000000) : Builtin.Range.small ((n : Int) - 1) (-1) (-1) = true := by
  unfold Builtin.Range.small
  rw [size_down, fits_nat h, show Builtin.Range.rangeFitsLong (-1) = true by decide, fitsLong (i := (n : Int) - 1) (by omega) (by omega)]
  simp only [Bool.and_self, Bool.true_and, if_neg (show ¬ (-1 : Int) > 0 by decide)]
  rw [fitsLong (by omega) (by omega), Bool.or_true]

theorem iter_range {x tgt : Expr} {p pos : Pos} {n : Nat} (hk : Γ.env.kindOf "range" = some .globalImplicit) (hf : nsIn X.K mainGlobals "range" = some none) (h : Sees X Γ ρ x (.int n)) (hz : n ≤ sizeLine)
    (ht : ∀ it v, letOwnedTupleGo tgt it v = pure ()) (he : ∀ env, starEach [x] env = [(false, eval x env)]) :
    SeesIter X Γ ρ (.Call (.Name "range" p) [x] [] pos) tgt (rangeD 0 1 n) true := fun s Q E g b => by
  rw [sizeLine_eq] at hz
  refine Call_Name rfl (eval_builtin g hk (by decide) hf (v := .type "range") boot_range (by decide) ?_)
  refine PyProof.Rows.callWith_type1 (wpAny_items_cons (h s _ E g fun v h' tk k r => wpAny_items_nil ?_) (he _)) (he _)
  · obtain ⟨t, rfl⟩ := r.int_inv
    refine call_range_1 ?_
    refine after_range g.fit.handled ht (a := 0) (b := n) (c := 1) (n := n) (Heap.get?_push_size _ rfl) ?_ ?_ fun I fp wr St h₂ tk₂ k₂ ok st hfp sh => ?_
    · exact size_up n
    · exact small_up n (le_k hz rfl)
    · exact b _ I fp wr St h₂ tk₂ (stays_trans k (stays_push _ _)) k₂ ok st hfp (fun _ => sh)

/-- range(n - 1, -1, -1) -/
theorem iter_down {x y z tgt : Expr} {p pos : Pos} {n : Nat} (hk : Γ.env.kindOf "range" = some .globalImplicit) (hf : nsIn X.K mainGlobals "range" = some none) (h : Sees X Γ ρ x (.int ((n : Int) - 1))) (hy : Sees X Γ ρ y (.int (-1))) (hw : Sees X Γ ρ z (.int (-1))) (hz : n ≤ sizeLine)
    (ht : ∀ it v, letOwnedTupleGo tgt it v = pure ()) (he : ∀ env, starEach [x, y, z] env = [(false, eval x env), (false, eval y env), (false, eval z env)]) (he2 : ∀ env, starEach [y, z] env = [(false, eval y env), (false, eval z env)]) (he3 : ∀ env, starEach [z] env = [(false, eval z env)]) :
    SeesIter X Γ ρ (.Call (.Name "range" p) [x, y, z] [] pos) tgt (rangeD ((n : Int) - 1) (-1) n) true := fun s Q E g b => by
  rw [sizeLine_eq] at hz
  refine Call_Name rfl (eval_builtin g hk (by decide) hf (v := .type "range") boot_range (by decide) ?_)
  refine PyProof.Rows.callWith_type1 (sees_cons h (sees_cons hy (sees_cons hw sees_nil (fun env => he3 env)) (fun env => by rw [he2, he3])) (fun env => by rw [he, he2]) pos s _ E g fun vs h' tk k r => ?_) (by rw [he, he2]) (by rw [he2]; rfl)
  obtain ⟨_, _, rfl, r1, r'⟩ := r.cons_inv
  obtain ⟨_, _, rfl, r2, r''⟩ := r'.cons_inv
  obtain ⟨_, rfl, r3⟩ := r''.one
  obtain ⟨t, rfl⟩ := r1.int_inv
  obtain ⟨u, rfl⟩ := r2.int_inv
  obtain ⟨v, rfl⟩ := r3.int_inv
  refine call_range_3 (by decide) ?_ (.inl (noPylong (by decide)))
  refine after_range g.fit.handled ht (a := (n : Int) - 1) (b := -1) (c := -1) (n := n) (Heap.get?_push_size _ rfl) (size_down n) (small_down n (le_k hz rfl)) fun I fp wr St h₂ tk₂ k₂ ok st hfp sh => ?_
  exact b _ I fp wr St h₂ tk₂ (stays_trans k (stays_push _ _)) k₂ ok st hfp (fun _ => sh)
end
end Mine
end

noncomputable section
open PySem PySem.W PyProof.Rows Builtin.Str
set_option maxRecDepth 100000
namespace Mine

section
variable {prog : Program} {w : World} {A : Around} {E : Value → Shared → Prop} {R : Result → Shared → Prop} {s : Shared}
/-- one turn of a comprehension -/
noncomputable def CTurn (prog : Program) (w : World) (A : Around) (elt target : Expr) (ifs : List Expr) (it acc : Value) (env : Env) (R : Result → Shared → Prop) (I : Nat → Shared → Prop) (n : Nat) (s : Shared) : Prop :=
  wpAny (model prog w) A (pyNext it) (fun r s₁ => match r with
      | none => R (.ok .next) s₁
      | some v => wpAny (model prog w) A (letOwnedTupleGo target it v) (fun _ s₁' => wpAny (model prog w) A (assign target env v) (fun _ s₂ =>
          wpAny (model prog w) A (forIn ifs true fun c r => if r = true then do let ok ← isTrue c env (eval c env); pure (ForInStep.yield ok) else pure (ForInStep.yield r)) (fun ok s₃ =>
            if ok = true then wpAny (model prog w) A (eval elt env) (fun x s₄ =>
              wpAny (model prog w) A (call (.builtin "list.append") [acc, x]) (fun _ s₅ => ∃ m, m < n ∧ I m s₅) (notedBy (model prog w) A env fun e s' => R (.error e) s') s₄) (notedBy (model prog w) A env fun e s' => R (.error e) s') s₃
            else ∃ m, m < n ∧ I m s₃) (notedBy (model prog w) A env fun e s' => R (.error e) s') s₂) (notedBy (model prog w) A env fun e s' => R (.error e) s') s₁') (notedBy (model prog w) A env fun e s' => R (.error e) s') s₁) (notedBy (model prog w) A env fun e s' => R (.error e) s') s
theorem compLoop_tests {elt target iter : Expr} {ifs : List Expr} {scope : Scope} {pos : Pos} {it acc : Value} {env : Env} (I : Nat → Shared → Prop)
    (turn : ∀ n s, I n s → CTurn prog w A elt target ifs it acc env R I n s)
    (n : Nat) (h : I n s) :
    codeAny (model prog w) A (.compLoop (.ListComp elt [⟨target, iter, ifs, 0⟩] scope pos) 0 it acc env) R s := by
  refine codeAny_loop rfl I (fun n s hI => ?_) n h
  show wpAny _ A ((compTurn (.ListComp elt [⟨target, iter, ifs, 0⟩] scope pos) 0 it acc env).onRaise (fun x => do noteFrame x env; theTreesLotGoes x)) _ _ s
  refine wpAny_noted ?_
  rw [compTurn_list]
  refine wpAny_bind (wpAny_standAt (wpAny_bind (wpAny_mono (turn n s hI) (fun r s₁ h₁ => ?_) fun _ _ h' => h')))
  cases r with
  | none => exact wpAny_pure h₁
  | some v =>
    refine wpAny_bind (wpAny_mono h₁ (fun _ s₁' h₁' => ?_) fun _ _ h' => h')
    refine wpAny_bind (wpAny_mono h₁' (fun _ s₂ h₂ => wpAny_bind (wpAny_mono h₂ (fun ok s₃ h₃ => ?_) fun _ _ h' => h')) fun _ _ h' => h')
    cases ok with
    | false => exact wpAny_pure ⟨rfl, h₃⟩
    | true =>
      exact wpAny_bind (wpAny_bind (wpAny_mono h₃ (fun x s₄ h₄ => wpAny_bind (wpAny_mono h₄ (fun _ s₅ h₅ => wpAny_pure (wpAny_pure ⟨rfl, h₅⟩)) fun _ _ h' => h')) fun _ _ h' => h'))
end

noncomputable abbrev fsOf (outer : List Env) : List Addr := outer.filterMap (·.frame)
/-- all stays, but the slots of the frames may turn -/
noncomputable def Slid (fs : List Addr) (h h' : Heap) : Prop := ∀ a o, h.get? a = some o → (a ∉ fs → h'.get? a = some o) ∧ (a ∈ fs → ∃ sl, h'.get? a = some { o with slots := sl })
theorem slid_of {fs : List Addr} {h h' : Heap} (k : h.StaysIn h') : Slid fs h h' := fun a o e => ⟨fun _ => k a o e, fun _ => ⟨o.slots, k a o e⟩⟩
theorem slid_refl {fs : List Addr} (h : Heap) : Slid fs h h := slid_of (stays_refl h)
theorem slid_trans {fs : List Addr} {a b c : Heap} (x : Slid fs a b) (y : Slid fs b c) : Slid fs a c := fun p o e => ⟨fun hn => (y p o ((x p o e).1 hn)).1 hn, fun hm => by
  obtain ⟨sl, q⟩ := (x p o e).2 hm
  obtain ⟨sl', q'⟩ := (y p _ q).2 hm
  exact ⟨sl', q'⟩⟩
theorem slid_turn {fs : List Addr} {h h' : Heap} (T : KtsTurn fs h h') : Slid fs h h' := fun a o e => ⟨fun hn => T.other a o e hn, fun hm => T.frame a o e hm⟩
theorem slid_seqs {fs : List Addr} {h h' : Heap} (D : KtsDicts fs h) (k : Slid fs h h') : Seqs h h' := fun a o vs n e q => (k a o e).1 fun hm => by
  obtain ⟨o', es, n', ho', hd⟩ := D a hm
  rw [e] at ho'; cases ho'; rw [q] at hd; cases hd
theorem slid_dicts {fs : List Addr} {h h' : Heap} (D : KtsDicts fs h) (k : Slid fs h h') : KtsDicts fs h' := fun b m => by
  obtain ⟨o, es, n, ho, hd⟩ := D b m
  obtain ⟨sl, hs⟩ := (k b o ho).2 m
  exact ⟨_, es, n, hs, hd⟩
theorem dicts_keeps {fs : List Addr} {h h' : Heap} (D : KtsDicts fs h) (k : h.StaysIn h') : KtsDicts fs h' := slid_dicts D (slid_of k)

noncomputable def SlidBut (fs ex : List Addr) (h h' : Heap) : Prop := ∀ a o, a ∉ ex → h.get? a = some o → (a ∉ fs → h'.get? a = some o) ∧ (a ∈ fs → ∃ sl, h'.get? a = some { o with slots := sl })
theorem sb_keep {fs ex : List Addr} {h h' : Heap} (k : ∀ a o, a ∉ ex → h.get? a = some o → h'.get? a = some o) : SlidBut fs ex h h' := fun a o hx e => ⟨fun _ => k a o hx e, fun _ => ⟨o.slots, k a o hx e⟩⟩
theorem sb_slid {fs ex : List Addr} {h h' : Heap} (k : Slid fs h h') : SlidBut fs ex h h' := fun a o _ e => k a o e
theorem sb_trans {fs ex : List Addr} {a b c : Heap} (x : SlidBut fs ex a b) (y : SlidBut fs ex b c) : SlidBut fs ex a c := fun p o hx e => ⟨fun hn => (y p o hx ((x p o hx e).1 hn)).1 hn, fun hm => by
  obtain ⟨sl, q⟩ := (x p o hx e).2 hm
  obtain ⟨sl', q'⟩ := (y p _ hx q).2 hm
  exact ⟨sl', q'⟩⟩
theorem sb_more {fs ex ex' : List Addr} {h h' : Heap} (k : SlidBut fs ex h h') (s : ∀ a, a ∈ ex → a ∈ ex') : SlidBut fs ex' h h' := fun a o hx e => k a o (fun hm => hx (s a hm)) e
theorem sb_to {fs ex : List Addr} {g h h' : Heap} (k : SlidBut fs ex h h') (gk : g.StaysIn h) (hx : ∀ a, a ∈ ex → g.get? a = none) : Slid fs g h' := fun a o e => k a o (fun hm => by rw [hx a hm] at e; cases e) (gk a o e)
theorem not_fs {fs : List Addr} {g : Heap} (D : KtsDicts fs g) {a : Addr} (e : g.get? a = none) : a ∉ fs := fun hm => by
  obtain ⟨o, es, n, ho, _⟩ := D a hm
  rw [e] at ho; cases ho
theorem seq_not_fs {fs : List Addr} {h : Heap} (D : KtsDicts fs h) {a : Addr} {o : Obj} {vs : Array Value} {n : Nat} (e : h.get? a = some o) (q : o.data = .seq vs n) : a ∉ fs := fun hm => by
  obtain ⟨o', es, n', ho', hd⟩ := D a hm
  rw [e] at ho'; cases ho'; rw [q] at hd; cases hd
theorem cell_not_fs {fs : List Addr} {h : Heap} (D : KtsDicts fs h) {a : Addr} {v : Option Value} (e : h.IsCell a v) : a ∉ fs := fun hm => by
  obtain ⟨o, ho, hd⟩ := e
  obtain ⟨o', es, n', ho', hd'⟩ := D a hm
  rw [ho] at ho'; cases ho'; rw [hd] at hd'; cases hd'
theorem ns_slid {fs : List Addr} {h h' : Heap} {L : Addr} {m : Str → Option Value} (n : h.Ns L m) (k : Slid fs h h') : h'.Ns L m := by
  obtain ⟨o, es, ep, ho, hd, hk, hf⟩ := n
  by_cases hm : L ∈ fs
  · obtain ⟨sl, hs⟩ := (k L o ho).2 hm
    exact ⟨_, es, ep, hs, hd, hk, hf⟩
  · exact ⟨o, es, ep, (k L o ho).1 hm, hd, hk, hf⟩
theorem cell_slid {fs : List Addr} {h h' : Heap} (D : KtsDicts fs h) {c : Addr} {v : Option Value} (n : h.IsCell c v) (k : Slid fs h h') : h'.IsCell c v :=
  let ⟨o, ho, hd⟩ := n; ⟨o, (k c o ho).1 (cell_not_fs D n), hd⟩

/-- what a target binds -/
noncomputable def Bd (X : Cx) (A : Around) (cenv : Env) (tgt : Expr) (d : PyData) (bs : Vars) : Prop :=
  ∀ (s : Shared) (v : Value) (m : Str → Option Value) (Q : Unit → Shared → Prop) (E : Value → Shared → Prop), A.handled = none → s.heap.Ns cenv.locals m → Rd s.heap v d →
    (∀ h' tk m', h'.Ns cenv.locals m' → (∀ b o, b ≠ cenv.locals → s.heap.get? b = some o → h'.get? b = some o) → (∀ x d', bs.lookup x = some d' → cenv.kindOf x = some .local ∧ ∃ v', m' x = some v' ∧ Rd h' v' d') →
      Q () { s with heap := h', toks := tk }) → wpAny X.M A (assign tgt cenv v) Q E s

theorem look_cons {x : Str} {d : PyData} {l : Vars} {P : Str → PyData → Prop} (h0 : P x d) (h1 : ∀ z d', z ≠ x → l.lookup z = some d' → P z d') : ∀ z d', List.lookup z ((x, d) :: l) = some d' → P z d' := fun z d' e => by
  rw [List.lookup_cons] at e
  cases hz : z == x with
  | true => rw [hz] at e; exact (beq_iff_eq.mp hz).symm ▸ Option.some.inj e ▸ h0
  | false => rw [hz] at e; exact h1 z d' (beq_eq_false_iff_ne.mp hz) e

theorem bd_name {X : Cx} {A : Around} {cenv : Env} {x : Str} {p : Pos} {d : PyData} (hx : cenv.kindOf x = some .local) (hp : cenv.scope.kind = .function) : Bd X A cenv (.Name x p) d [(x, d)] := fun s v m Q E hh hn r b =>
  wpAny_assign_Name (wpAny_storeName_local hx hn (fun h' hn' hs' => b h' _ _ hn' (fun b o hb e => (hs'.2 b hb).trans e) (look_cons ⟨hx, v, if_pos rfl, r.move (seqs_sameBut hn hs')⟩ fun _ _ _ e => nomatch e)) (by rw [hp]; rfl))

theorem bd_pair {X : Cx} {A : Around} {cenv : Env} {x y : Str} {p p' pos : Pos} {k : Nat} {d1 d2 : PyData} (hx : cenv.kindOf x = some .local) (hy : cenv.kindOf y = some .local) (hxy : (y == x) = false) (hp : cenv.scope.kind = .function) :
    Bd X A cenv (.Tuple [.Name x p, .Name y p'] k pos) (.tuple [d1, d2]) [(x, d1), (y, d2)] := fun s v m Q E hh hn r b => by
  obtain ⟨t, items, rfl, hl, rl⟩ := r.tuple_inv
  obtain ⟨v1, l', hi, r1, r'⟩ := rl.cons_inv
  obtain ⟨v2, rfl, r2⟩ := r'.one
  have hsz : 2 = items.size := (congrArg List.length hi).symm
  refine wpAny_assign_Tuple hh hl hsz rfl fun h₀ hx₀ => ?_
  have hne : ∀ b o, s.heap.get? b = some o → h₀.get? b = some o := fun b o e => hx₀ b o (Nat.ne_of_lt (Heap.lt_size e)) e
  have hn₀ := hn.keeps hne
  rw [hi]
  refine wpAny_assignInOrder_more (wpAny_assign_Name (wpAny_storeName_local hx hn₀ (fun h₁ hn₁ hs₁ => ?_) (by rw [hp]; rfl)))
  refine wpAny_assignInOrder_more (wpAny_assign_Name (wpAny_storeName_local hy hn₁ (fun h₂ hn₂ hs₂ => ?_) (by rw [hp]; rfl)))
  have mv : Seqs s.heap h₂ := fun a o vs n e q => seqs_sameBut hn₁ hs₂ a o vs n (seqs_sameBut hn₀ hs₁ a o vs n (hne a o e) q) q
  refine wpAny_assignInOrder_none (b h₂ _ _ hn₂ (fun b o hb e => (hs₂.2 b hb).trans ((hs₁.2 b hb).trans (hne b o e))) (look_cons ?_ fun z d' _ e => ?_))
  · exact ⟨hx, v1, (if_neg (beq_eq_false_iff_ne.mp hxy).symm).trans (if_pos rfl), r1.move mv⟩
  · refine look_cons (l := []) (P := fun z d' => cenv.kindOf z = some .local ∧ ∃ v', (if z = y then some v2 else if z = x then some v1 else m z) = some v' ∧ Rd h₂ v' d') ?_ (fun _ _ _ e => nomatch e) z d' e
    exact ⟨hy, v2, if_pos rfl, r2.move mv⟩

noncomputable def Fx.at (Γ : Fx) (env : Env) : Fx := { Γ with env := env }

/-- the names that a comprehension sees of its frame -/
noncomputable def Capt (env : Env) (scope : Scope) (cl : List (Str × Addr)) (ρ σ : Vars) : Prop :=
  ∀ x d, σ.lookup x = some d → ρ.lookup x = some d ∧ env.kindOf x = some .cell ∧ (relabel scope env).names.lookup x = some .cell ∧ cl.lookup x = env.cells.lookup x
theorem capt_nil {env : Env} {scope : Scope} {cl : List (Str × Addr)} {ρ : Vars} : Capt env scope cl ρ [] := fun x d e => by cases e
theorem capt_cons {env : Env} {scope : Scope} {cl : List (Str × Addr)} {ρ σ : Vars} {x : Str} {d : PyData} (h1 : ρ.lookup x = some d) (h2 : env.kindOf x = some .cell) (h3 : (relabel scope env).names.lookup x = some .cell) (h4 : cl.lookup x = env.cells.lookup x)
    (h : Capt env scope cl ρ σ) : Capt env scope cl ρ ((x, d) :: σ) := look_cons ⟨h1, h2, h3, h4⟩ fun z d' _ e => h z d' e

noncomputable def TestsAll (X : Cx) (Γ : Fx) (ρ : Vars) (ifs : List Expr) (b : Bool) : Prop :=
  ∀ (s : Shared) (Q : Bool → Shared → Prop) (E : Value → Shared → Prop), Good X Γ ρ s.heap → BackB s b Q →
    wpAny X.M Γ.A (forIn ifs true fun c r => if r = true then do let ok ← isTrue c Γ.env (eval c Γ.env); pure (ForInStep.yield ok) else pure (ForInStep.yield r)) Q E s
theorem tests_nil {X : Cx} {Γ : Fx} {ρ : Vars} : TestsAll X Γ ρ [] true := fun s Q E g b => wpAny_tests_nil (b s.heap s.toks (stays_refl _))
theorem tests_one {X : Cx} {Γ : Fx} {ρ : Vars} {e : Expr} {b : Bool} (h : Tests X Γ ρ e b) : TestsAll X Γ ρ [e] b := fun s Q E g bk => wpAny_tests_one (h s Q E g bk)

theorem lookup_append_or {x : Str} : ∀ {l l' : Vars}, (l ++ l').lookup x = match l.lookup x with | some d => some d | none => l'.lookup x
  | [], l' => rfl
  | (y, d) :: l, l' => by
    rw [List.cons_append, List.lookup_cons, List.lookup_cons]
    cases x == y with
    | true => rfl
    | false => exact lookup_append_or

section
variable {X : Cx} {Γ : Fx} {ρ : Vars}

theorem filter_take_succ {α β : Type} (p : α → Bool) (f : α → β) (l : List α) (i : Nat) (d : α) (h : l[i]? = some d) :
    ((l.take (i + 1)).filter p).map f = ((l.take i).filter p).map f ++ (if p d = true then [f d] else []) := by
  rw [List.take_add_one, List.filter_append, List.map_append, h]
  simp only [Option.toList]
  by_cases hp : p d = true
  · simp [hp]
  · simp [hp]

theorem ite_prop {c : Bool} {P Q : Prop} (hp : c = true → P) (hq : c = false → Q) : if c = true then P else Q := by
  cases c with
  | true => exact hp rfl
  | false => exact hq rfl

/-- between two turns -/
noncomputable abbrev CInv (fs wr : List Addr) (ds : List PyData) (p : PyData → Bool) (f : PyData → PyData) (St : Nat → Heap → Prop) (s₂ : Shared) (h₁ : Heap) (D C : Addr) (k : Nat) (s' : Shared) : Prop :=
  ∃ i H tk m' ys, s' = { s₂ with heap := H, toks := tk } ∧ St i H ∧ H.IsList D ys ∧ H.Ns C m' ∧ RdL (hideAll H (D :: wr)) ys.toList (((ds.take i).filter p).map f) ∧ i ≤ ds.length ∧ k = ds.length + 1 - i ∧ SlidBut fs (C :: D :: wr) h₁ H

theorem good_comp {scope : Scope} {cl : List (Str × Addr)} {C : Addr} {fs : List Addr} {base h₂ : Heap} {m₂ : Str → Option Value} {σ bs : Vars} (hkind : scope.kind = .function) (DF : KtsDicts fs base) (g : Good X Γ ρ base) (hσ : Capt Γ.env scope cl ρ σ) (hb2 : Slid fs base h₂)
    (b₂ : Below Γ.A Γ.base Γ.outer h₂ ∧ X.Ok h₂) (hn₂ : h₂.Ns (compEnvC scope cl C Γ.env).locals m₂) (hbsv : ∀ x d', bs.lookup x = some d' → (compEnvC scope cl C Γ.env).kindOf x = some .local ∧ ∃ v', m₂ x = some v' ∧ Rd h₂ v' d') :
    Good X (Γ.at (compEnvC scope cl C Γ.env)) (bs ++ σ) h₂ := by
  refine ⟨⟨g.fit.handled, g.fit.depth, g.fit.units, hkind, g.fit.glob, g.fit.blt⟩, b₂.2, b₂.1, fun x d' e => ?_⟩
  rw [lookup_append_or] at e
  cases hx : bs.lookup x with
  | some dx =>
    rw [hx] at e
    obtain ⟨hl, v', hm, rv'⟩ := hbsv x d' (hx.trans e)
    exact ⟨v', .inl ⟨hl, m₂, hn₂, hm⟩, rv'⟩
  | none =>
    rw [hx] at e
    obtain ⟨e1, e2, e3, e4⟩ := hσ x d' e
    obtain ⟨v', ha, rv'⟩ := g.vars x d' e1
    rcases ha with ⟨hl, _⟩ | ⟨c, hl, hc, hv⟩
    · rw [e2] at hl; cases hl
    · exact ⟨v', .inr ⟨c, e3, e4.trans hc, cell_slid DF hv hb2⟩, rv'.move (slid_seqs DF hb2)⟩

theorem ns_not_seq {H : Heap} {C : Addr} {m' : Str → Option Value} (hn' : H.Ns C m') : ∀ a o vs n, H.get? a = some o → o.data = .seq vs n → a ≠ C := fun a o vs n e q h => by
  obtain ⟨o', es, ep, ho, hd', _⟩ := hn'
  rw [← h, e] at ho
  rw [← Option.some.inj ho, q] at hd'
  cases hd'

/-- the loop: D the list, C the frame -/
theorem comp_loopS {elt iter tgt : Expr} {ifs : List Expr} {scope : Scope} {cl : List (Str × Addr)} {pos : Pos} {ds : List PyData} {p : PyData → Bool} {f : PyData → PyData} {bs : PyData → Vars} {σ : Vars} {s₂ : Shared} {base h₁ : Heap} {I D C : Addr} {fp wr fs : List Addr}
    {t₀ : Nat} {m₀ : Str → Option Value} {St : Nat → Heap → Prop} {R : Result → Shared → Prop}
    (W : ItOk X Γ.A base I tgt fp wr ds St) (hz : ds.length ≤ sizeLine) (hkind : scope.kind = .function)
    (DF : KtsDicts fs base) (hbel : ∀ h, Slid fs base h → Below Γ.A Γ.base Γ.outer h ∧ X.Ok h) (g : Good X Γ ρ base)
    (hDC : D ≠ C) (hCf : C ∉ fp) (hDf : D ∉ fp) (nC : base.get? C = none) (nD : base.get? D = none) (base₁ : base.StaysIn h₁) (hfp : ∀ b ∈ fp, b < D)
    (hst₁ : St 0 h₁) (hacc : h₁.IsList D #[]) (hns₁ : h₁.Ns C m₀)
    (hσ : Capt Γ.env scope cl ρ σ) (hb : ∀ d, d ∈ ds → Bd X Γ.A (compEnvC scope cl C Γ.env) tgt d (bs d))
    (ht : ∀ d, d ∈ ds → TestsAll X (Γ.at (compEnvC scope cl C Γ.env)) (bs d ++ σ) ifs (p d))
    (he : ∀ i d (s₃ : Shared) (Q E : Value → Shared → Prop), ds[i]? = some d → p d = true → Good X (Γ.at (compEnvC scope cl C Γ.env)) (bs d ++ σ) s₃.heap → KtsDicts fs s₃.heap → St (i + 1) s₃.heap → (∃ ys, s₃.heap.IsList D ys) → (∀ b ∈ wr, b < s₃.heap.objs.size) →
      (∀ v h' tk, Slid fs s₃.heap h' → Rd (hideAll h' (D :: wr)) v (f d) → Q v { s₃ with heap := h', toks := tk }) → wpAny X.M Γ.A (eval elt (compEnvC scope cl C Γ.env)) Q E s₃)
    (hR : ∀ h' tk m', h'.Ns C m' → Rd h' (.ref D) (.list ((ds.filter p).map f)) → SlidBut fs (C :: D :: wr) h₁ h' → R (.ok .next) { s₂ with heap := h', toks := tk }) :
    codeAny X.M Γ.A (.compLoop (.ListComp elt [⟨tgt, iter, ifs, 0⟩] scope pos) 0 (.ref I) (.ref D) (compEnvC scope cl C Γ.env)) R { s₂ with heap := h₁, toks := t₀ } := by
  have hCw : C ∉ wr := fun h => hCf (W.sub _ h)
  have hDw : D ∉ wr := fun h => hDf (W.sub _ h)
  have hDF : D ∉ fs := not_fs DF nD
  have hfF : ∀ b ∈ fp, b ∉ fs := fun b hb => not_fs DF (W.fresh' b hb)
  have inBase : ∀ a ∈ C :: D :: wr, base.get? a = none := List.forall_mem_cons.mpr ⟨nC, List.forall_mem_cons.mpr ⟨nD, W.fresh⟩⟩
  refine compLoop_tests (CInv fs wr ds p f St s₂ h₁ D C) ?_ (ds.length + 1) ⟨0, h₁, _, _, #[], rfl, hst₁, hacc, hns₁, by simpa using RdL.nil, Nat.zero_le _, rfl, sb_slid (slid_refl _)⟩
  rintro k s' ⟨i, H, tk, m', ys, rfl, hsti, hys, hn', hF, hi, rfl, hk⟩
  have hbH : Slid fs base H := sb_to hk base₁ inBase
  by_cases hlt : i < ds.length
  · obtain ⟨d, hd⟩ : ∃ d, ds[i]? = some d := ⟨_, List.getElem?_eq_getElem hlt⟩
    have hdm := mem_of_get? hd
    refine W.item i _ _ _ d hd hsti (slid_seqs DF hbH) fun v s₁ hr => ?_
    refine hr _ _ fun h' tk' rv st' kk => ?_
    refine hb d hdm _ v m' _ _ g.fit.handled (hn'.at' fun o e => kk _ o hCw e) rv fun h₂ tk₂ m₂ hn₂ kk₂ hbsv => ?_
    have k2 : ∀ b o, b ≠ C → b ∉ wr → H.get? b = some o → h₂.get? b = some o := fun b o hbC hbw e => kk₂ b o hbC (kk b o hbw e)
    have k2' : SlidBut fs (C :: D :: wr) H h₂ := sb_keep fun b o hx e => k2 b o (List.ne_of_not_mem_cons hx) (List.not_mem_of_not_mem_cons (List.not_mem_of_not_mem_cons hx)) e
    have hst₂ : St (i + 1) h₂ := W.frame _ _ _ st' fun b hb o e => kk₂ b o (fun q => hCf ((show b = C from q) ▸ hb)) e
    have hb2 : Slid fs base h₂ := sb_to (sb_trans hk k2') base₁ inBase
    have D₂ := slid_dicts DF hb2
    have g₂ := good_comp hkind DF g hσ hb2 (hbel h₂ hb2) hn₂ hbsv
    refine ht d hdm _ _ _ g₂ fun h₃ tk₃ k₃ => ?_
    have hys₃ : h₃.IsList D ys := hys.at fun o e => k₃ _ _ (k2 D o hDC hDw e)
    have hn₃ := hn₂.keeps k₃
    have hst₃ : St (i + 1) h₃ := W.frame _ _ _ hst₂ fun b _ o e => k₃ b o e
    have D₃ := dicts_keeps D₂ k₃
    have kH₃ : SlidBut fs (C :: D :: wr) h₁ h₃ := sb_trans hk (sb_trans k2' (sb_slid (slid_of k₃)))
    have hF₃ : RdL (hideAll h₃ (D :: wr)) ys.toList (((ds.take i).filter p).map f) := hF.move (hide_seqs fun a o vs n ha e q => k₃ _ _ (k2 a o (ns_not_seq hn' a o vs n e q) (List.not_mem_of_not_mem_cons ha) e))
    have hm : ds.length + 1 - (i + 1) < ds.length + 1 - i := Nat.sub_lt_sub_left (Nat.lt_succ_of_lt hlt) (Nat.lt_succ_self i)
    have hft := filter_take_succ p f ds i d hd
    refine ite_prop (fun hpd => ?_) (fun hpd => ?_)
    · have hwlt : ∀ b ∈ wr, b < h₃.objs.size := fun b hb => Nat.lt_trans (hfp b (W.sub b hb)) (let ⟨o, ho, _⟩ := hys₃; Heap.lt_size ho)
      rw [if_pos hpd] at hft
      refine he i d _ _ _ hd hpd (g₂.keeps k₃) D₃ hst₃ ⟨ys, hys₃⟩ hwlt fun y h₄ tk₄ k₄ ry => ?_
      have hysz : ys.size ≤ sizeLine := by
        have e1 := hF.length
        rw [List.length_map, Array.length_toList] at e1
        rw [e1]
        exact Nat.le_trans (List.length_filter_le _ _) (Nat.le_trans (List.length_take_le' _ _) hz)
      refine wpAny_list_append (hys₃.at fun o e => (k₄ _ o e).1 hDF) (fun h₅ hl₅ hs₅ => ?_) hysz
      refine ⟨_, hm, i + 1, h₅, tk₄, m₂, ys.push y, rfl, ?_, hl₅, (ns_slid hn₃ k₄).sameBut hs₅ (Ne.symm hDC), ?_, hlt, rfl, sb_trans kH₃ (sb_trans (sb_slid k₄) (sb_keep fun b o hx e => hs₅.extBut b o (List.ne_of_not_mem_cons (List.not_mem_of_not_mem_cons hx)) e))⟩
      · exact W.frame _ _ _ hst₃ fun b hb o e => hs₅.extBut b o (fun h => hDf (h ▸ hb)) ((k₄ b o e).1 (hfF b hb))
      · rw [hft, Array.toList_push]
        refine RdL.append (.cons (ry.move (hide_seqs fun a o vs n ha e q => hs₅.extBut a o (List.ne_of_not_mem_cons ha) e)) .nil) ?_
        exact hF₃.move (hide_seqs fun a o vs n ha e q => hs₅.extBut a o (List.ne_of_not_mem_cons ha) ((k₄ a o e).1 (seq_not_fs D₃ e q)))
    · rw [if_neg (by rw [hpd]; exact Bool.false_ne_true), List.append_nil] at hft
      exact ⟨_, hm, i + 1, h₃, tk₃, m₂, ys, rfl, hst₃, hys₃, hn₃, hft ▸ hF₃, hlt, rfl, kH₃⟩
  · have hin : i = ds.length := Nat.le_antisymm hi (Nat.not_lt.mp hlt)
    subst hin
    rw [List.take_length] at hF
    refine W.done _ _ _ hsti (slid_seqs DF hbH) fun h' tk' kk => ?_
    refine hR h' tk' m' (hn'.at' fun o e => kk _ o hCw e) (Rd.of_list (hys.at fun o e => kk _ o hDw e) ?_) (sb_trans hk (sb_keep fun b o hx e => kk b o (List.not_mem_of_not_mem_cons (List.not_mem_of_not_mem_cons hx)) e))
    exact (hF.move (hide_seqs fun a o vs n ha e q => kk a o (List.not_mem_of_not_mem_cons ha) e)).move fun a o vs n e q => of_hideAll _ e

theorem comp_blockS {elt iter tgt : Expr} {ifs : List Expr} {scope : Scope} {cl : List (Str × Addr)} {pos : Pos} {ds : List PyData} {p : PyData → Bool} {f : PyData → PyData} {bs : PyData → Vars} {σ : Vars} {s₂ : Shared} {base : Heap} {I : Addr} {fp wr fs : List Addr}
    {St : Nat → Heap → Prop} {RR : Value → Addr → Result → Shared → Prop} {E : Value → Shared → Prop}
    (W : ItOk X Γ.A base I tgt fp wr ds St) (hz : ds.length ≤ sizeLine) (hcell : ∀ y ∈ scope.names, y.2 ≠ .cell) (hkind : scope.kind = .function)
    (DF : KtsDicts fs base) (hbel : ∀ h, Slid fs base h → Below Γ.A Γ.base Γ.outer h ∧ X.Ok h)
    (g : Good X Γ ρ base) (hbs : base.StaysIn s₂.heap) (hst : St 0 s₂.heap) (hfp : ∀ b ∈ fp, b < s₂.heap.objs.size)
    (hσ : Capt Γ.env scope cl ρ σ) (hb : ∀ C d, d ∈ ds → Bd X Γ.A (compEnvC scope cl C Γ.env) tgt d (bs d))
    (ht : ∀ C d, d ∈ ds → TestsAll X (Γ.at (compEnvC scope cl C Γ.env)) (bs d ++ σ) ifs (p d))
    (he : ∀ C D i d (s₃ : Shared) (Q E : Value → Shared → Prop), ds[i]? = some d → p d = true → Good X (Γ.at (compEnvC scope cl C Γ.env)) (bs d ++ σ) s₃.heap → KtsDicts fs s₃.heap → St (i + 1) s₃.heap → (∃ ys, s₃.heap.IsList D ys) → (∀ b ∈ wr, b < s₃.heap.objs.size) →
      (∀ v h' tk, Slid fs s₃.heap h' → Rd (hideAll h' (D :: wr)) v (f d) → Q v { s₃ with heap := h', toks := tk }) → wpAny X.M Γ.A (eval elt (compEnvC scope cl C Γ.env)) Q E s₃)
    (hRR : ∀ D C h' tk m', s₂.heap.get? D = none → s₂.heap.get? C = none → D ≠ C → h'.Ns C m' → Rd h' (.ref D) (.list ((ds.filter p).map f)) →
      SlidBut fs wr s₂.heap h' → RR (.ref D) C (.ok .next) { s₂ with heap := h', toks := tk }) :
    wpAny X.M Γ.A (newList []) (fun acc s₃ => wpAny X.M Γ.A (newFunctionEnv scope Γ.env.globals cl [] Γ.env.qual none .none (some Γ.env)) (fun cenv s₄ =>
      codeAny X.M Γ.A (.compStart (.ListComp elt [⟨tgt, iter, ifs, 0⟩] scope pos) 0 (.ref I) acc { cenv with scope := relabel scope Γ.env }) (RR acc cenv.locals) s₄) E s₃) E s₂ := by
  refine wpAny_newObj_type (wpAny_newFunctionEnv hcell (fun y hy => absurd hy List.not_mem_nil) (fun h₁ hns₁ hsb₁ => ?_) hkind)
  have e0 : ∀ b o, s₂.heap.get? b = some o → (s₂.heap.push { cls := .type "list", dict := none, data := .seq ([] : List Value).toArray }).get? b = some o := fun b o e => Heap.get?_push_of_some _ e
  have hC : (s₂.heap.push { cls := .type "list", dict := none, data := .seq ([] : List Value).toArray }).objs.size = s₂.heap.objs.size + 1 := Heap.size_push ..
  have hD : (s₂.heap.push { cls := .type "list", dict := none, data := .seq ([] : List Value).toArray }).get? s₂.heap.objs.size = some _ := Heap.get?_push_size _ rfl
  dsimp only at hns₁ hsb₁ ⊢
  generalize s₂.heap.push { cls := .type "list", dict := none, data := .seq ([] : List Value).toArray } = H2 at *
  have hDC : s₂.heap.objs.size ≠ H2.objs.size := by rw [hC]; exact Nat.ne_of_lt (Nat.lt_succ_self _)
  have below : ∀ b, b < s₂.heap.objs.size → b ≠ H2.objs.size := fun b hb => by rw [hC]; exact Nat.ne_of_lt (Nat.lt_succ_of_lt hb)
  have old : ∀ b o, s₂.heap.get? b = some o → h₁.get? b = some o := fun b o e => hsb₁.extBut b o (below b (Heap.lt_size e)) (Heap.get?_push_of_some _ (e0 b o e))
  have fresh : ∀ a, s₂.heap.objs.size ≤ a → s₂.heap.get? a = none := fun a ha => by
    cases e : s₂.heap.get? a with
    | none => rfl
    | some o' => exact absurd (Heap.lt_size e) (Nat.not_lt.mpr ha)
  have fD := fresh _ (Nat.le_refl _)
  have fC := fresh H2.objs.size (by rw [hC]; exact Nat.le_succ _)
  have freshB : ∀ a, s₂.heap.get? a = none → base.get? a = none := fun a ha => by
    cases e : base.get? a with
    | none => rfl
    | some o' => rw [hbs _ _ e] at ha; cases ha
  have hst₁ : St 0 h₁ := W.frame _ _ _ hst fun b _ o e => old b o e
  have loop := fun t₀ => comp_loopS (elt := elt) (iter := iter) (ifs := ifs) (pos := pos) (s₂ := s₂) (t₀ := t₀) (R := RR (.ref s₂.heap.objs.size) H2.objs.size) W hz hkind DF hbel g hDC (fun h => absurd rfl (below _ (hfp _ h))) (fun h => Nat.lt_irrefl _ (hfp _ h)) (freshB _ fC) (freshB _ fD) (fun b o e => old b o (hbs b o e)) hfp hst₁
    ⟨_, hsb₁.extBut _ _ hDC (Heap.get?_push_of_some _ hD), rfl, _, rfl⟩ hns₁ hσ (fun d hd => hb _ d hd) (fun d hd => ht _ d hd) (fun i d => he _ _ i d)
    fun h' tk m' hn r k => hRR _ _ h' tk m' fD fC hDC hn r fun b o hbw e => k b o (List.not_mem_cons_of_ne_of_not_mem (below b (Heap.lt_size e)) (List.not_mem_cons_of_ne_of_not_mem (Nat.ne_of_lt (Heap.lt_size e)) hbw)) (old b o e)
  exact codeAny_compStart_list (loop _) (W.self 0 _ _ _ hst₁ (loop _))
theorem comp_block {elt iter tgt : Expr} {ifs : List Expr} {scope : Scope} {cl : List (Str × Addr)} {pos : Pos} {ds : List PyData} {p : PyData → Bool} {f : PyData → PyData} {bs : PyData → Vars} {σ : Vars} {s₂ : Shared} {base : Heap} {I : Addr} {fp wr : List Addr}
    {St : Nat → Heap → Prop} {RR : Value → Addr → Result → Shared → Prop} {E : Value → Shared → Prop}
    (W : ItOk X Γ.A base I tgt fp wr ds St) (hz : ds.length ≤ sizeLine) (hcell : ∀ y ∈ scope.names, y.2 ≠ .cell) (hkind : scope.kind = .function)
    (g : Good X Γ ρ base) (hbs : base.StaysIn s₂.heap) (hst : St 0 s₂.heap) (hfp : ∀ b ∈ fp, b < s₂.heap.objs.size)
    (hσ : Capt Γ.env scope cl ρ σ) (hb : ∀ C d, d ∈ ds → Bd X Γ.A (compEnvC scope cl C Γ.env) tgt d (bs d))
    (ht : ∀ C d, d ∈ ds → TestsAll X (Γ.at (compEnvC scope cl C Γ.env)) (bs d ++ σ) ifs (p d))
    (he : ∀ C D i d (s₃ : Shared) (Q E : Value → Shared → Prop), ds[i]? = some d → p d = true → Good X (Γ.at (compEnvC scope cl C Γ.env)) (bs d ++ σ) s₃.heap → St (i + 1) s₃.heap → (∃ ys, s₃.heap.IsList D ys) → (∀ b ∈ wr, b < s₃.heap.objs.size) →
      (∀ v h' tk, s₃.heap.StaysIn h' → Rd (hideAll h' (D :: wr)) v (f d) → Q v { s₃ with heap := h', toks := tk }) → wpAny X.M Γ.A (eval elt (compEnvC scope cl C Γ.env)) Q E s₃)
    (hRR : ∀ D C h' tk m', s₂.heap.get? D = none → s₂.heap.get? C = none → D ≠ C → h'.Ns C m' → Rd h' (.ref D) (.list ((ds.filter p).map f)) →
      (∀ b o, b ∉ wr → s₂.heap.get? b = some o → h'.get? b = some o) → RR (.ref D) C (.ok .next) { s₂ with heap := h', toks := tk }) :
    wpAny X.M Γ.A (newList []) (fun acc s₃ => wpAny X.M Γ.A (newFunctionEnv scope Γ.env.globals cl [] Γ.env.qual none .none (some Γ.env)) (fun cenv s₄ =>
      codeAny X.M Γ.A (.compStart (.ListComp elt [⟨tgt, iter, ifs, 0⟩] scope pos) 0 (.ref I) acc { cenv with scope := relabel scope Γ.env }) (RR acc cenv.locals) s₄) E s₃) E s₂ :=
  comp_blockS (fs := []) W hz hcell hkind (fun _ h => nomatch h) (fun h k => ⟨below_keeps g.below fun a o e => (k a o e).1 List.not_mem_nil, g.ok.keeps fun a o e => (k a o e).1 List.not_mem_nil⟩) g hbs hst hfp hσ hb ht
    (fun C D i d s₃ Q E hd hp g₃ _ st hD hw b => he C D i d s₃ Q E hd hp g₃ st hD hw fun v h' tk k r => b v h' tk (slid_of k) r)
    fun D C h' tk m' h1 h2 h3 h4 h5 k => hRR D C h' tk m' h1 h2 h3 h4 h5 fun b o hb q => (k b o hb q).1 List.not_mem_nil
end
end Mine
end

noncomputable section
open PySem PySem.W PyProof.Rows Builtin.Str
set_option maxRecDepth 100000
namespace Mine
section
variable {X : Cx} {Γ : Fx} {ρ : Vars}

/-- what is asked of a comprehension's table -/
structure ScOk (scope : Scope) : Prop where
  cell : ∀ y ∈ scope.names, y.2 ≠ .cell
  kind : scope.kind = .function
  names : ∀ y ∈ scope.names, y.2 = .local → scope.names.lookup y.1 = some .local

noncomputable def scOkB (s : Scope) : Bool := s.names.all (fun y => decide (y.2 ≠ .cell)) && decide (s.kind = .function) && s.names.all fun y => decide (y.2 ≠ .local) || decide (s.names.lookup y.1 = some .local)
theorem scOk_of {s : Scope} (h : scOkB s = true) : ScOk s := by
  unfold scOkB at h
  rw [Bool.and_eq_true, Bool.and_eq_true, List.all_eq_true, List.all_eq_true] at h
  exact ⟨fun y hy => of_decide_eq_true (h.1.1 y hy), of_decide_eq_true h.1.2, fun y hy e => (Bool.or_eq_true_iff.mp (h.2 y hy)).elim (fun q => absurd e (of_decide_eq_true q)) of_decide_eq_true⟩

/-- an element, seen with the comprehension's own things hidden -/
noncomputable def EltOk (X : Cx) (Γ : Fx) (scope : Scope) (cl : List (Str × Addr)) (elt : Expr) (ds : List PyData) (p : PyData → Bool) (f : PyData → PyData) (bs : PyData → Vars) (σ : Vars) (q : Bool) : Prop :=
  ∀ (wr : List Addr) (C D : Addr) (d : PyData) (s₃ : Shared) (Q E : Value → Shared → Prop), d ∈ ds → p d = true → Good X (Γ.at (compEnvC scope cl C Γ.env)) (bs d ++ σ) s₃.heap → (q = true → Shy s₃.heap wr) → (∃ ys, s₃.heap.IsList D ys) → (∀ b ∈ wr, b < s₃.heap.objs.size) →
    (∀ v h' tk, s₃.heap.StaysIn h' → Rd (hideAll h' (D :: wr)) v (f d) → Q v { s₃ with heap := h', toks := tk }) → wpAny X.M Γ.A (eval elt (compEnvC scope cl C Γ.env)) Q E s₃

theorem elt_of {scope : Scope} {cl : List (Str × Addr)} {elt : Expr} {ds : List PyData} {p : PyData → Bool} {f : PyData → PyData} {bs : PyData → Vars} {σ : Vars}
    (h : ∀ C d, d ∈ ds → p d = true → Sees X (Γ.at (compEnvC scope cl C Γ.env)) (bs d ++ σ) elt (f d)) (hn : ∀ d ∈ ds, p d = true → noList (f d) = true) : EltOk X Γ scope cl elt ds p f bs σ true := by
  intro wr C D d s₃ Q E hd hp g hw ⟨ys, hD⟩ hwl b
  refine h C d hd hp s₃ Q E g fun v h' tk k r => b v h' tk k (r.hide ?_ (hn d hd hp))
  intro a ha
  rcases List.mem_cons.mp ha with rfl | ha
  · obtain ⟨o2, ho2, hc, _⟩ := hD
    exact ⟨o2, k _ _ ho2, fun _ _ _ => hc⟩
  · exact (hw rfl).keeps k a ha

theorem sees_comp {elt iter tgt : Expr} {ifs : List Expr} {scope : Scope} {cl : List (Str × Addr)} {pos : Pos} {ds : List PyData} {p : PyData → Bool} {f : PyData → PyData} {bs : PyData → Vars} {σ : Vars} {q : Bool}
    (hcl : closureFor scope Γ.env = pure cl) (so : ScOk scope) (hs : ∀ x, foldedSetIterable iter Γ.env x = pure x) (hit : SeesIter X Γ ρ iter tgt ds q) (hz : ds.length ≤ sizeLine)
    (hσ : Capt Γ.env scope cl ρ σ) (hb : ∀ C d, d ∈ ds → Bd X Γ.A (compEnvC scope cl C Γ.env) tgt d (bs d))
    (ht : ∀ C d, d ∈ ds → TestsAll X (Γ.at (compEnvC scope cl C Γ.env)) (bs d ++ σ) ifs (p d)) (he : EltOk X Γ scope cl elt ds p f bs σ q) :
    Sees X Γ ρ (.ListComp elt [⟨tgt, iter, ifs, 0⟩] scope pos) (.list ((ds.filter p).map f)) := fun s Q E g b => by
  rw [eval_ListComp]
  refine wpAny_comprehension_free (use := none) rfl hs hcl so.kind so.names ?_
  show wpAny X.M Γ.A (eval iter Γ.env) _ E s
  refine hit s _ E g fun base I fp wr St h' tk kb kb' W st hfp sh => ?_
  refine comp_block (f := f) (RR := fun acc C => compPost X.M Γ.A E none Q acc C) W hz so.cell so.kind (g.keeps kb) kb' st hfp hσ hb ht ?_ ?_
  · intro C D i d s₃ Q' E' hd hp g₃ st₃ hD hwl b'
    exact he wr C D d s₃ Q' E' (mem_of_get? hd) hp g₃ (fun hq => (sh hq _ _ st₃).shy) hD hwl b'
  · intro D C h₂ tk₂ m' hD hC hDC hn r kk
    refine ⟨m', hn, fun h₃ hs₃ => ?_⟩
    refine b _ h₃ tk₂ (fun a o e => ?_) (r.move (seqs_sameBut hn hs₃))
    have e2 : h'.get? a = some o := kb' a o (kb a o e)
    refine (hs₃.2 a (fun hq => ?_)).trans (kk a o (fun hm => ?_) e2)
    · rw [hq, hC] at e2; cases e2
    · have := W.fresh a hm
      rw [kb a o e] at this
      cases this
end
end Mine
end

noncomputable section
open PySem PySem.W PyProof.Rows Builtin.Str
set_option maxRecDepth 100000
namespace Mine

section
variable {prog : Program} {w : World} {A : Around} {R : Result → Shared → Prop} {s : Shared}
/-- one turn of a for -/
noncomputable def ForTurn (prog : Program) (w : World) (A : Around) (target : Expr) (it : Value) (body orelse : List Stmt) (env : Env) (R : Result → Shared → Prop) (I : Nat → Shared → Prop) (n : Nat) (s : Shared) : Prop :=
  wpAny (model prog w) A (pyNext it) (fun r s₁ => match r with
      | none => wpAny (model prog w) A (execs orelse env) (fun f s₃ => R (.ok f) s₃) (notedBy (model prog w) A env fun e s' => R (.error e) s') s₁
      | some v => wpAny (model prog w) A (letOwnedTupleGo target it v) (fun _ s₁' => wpAny (model prog w) A (assign target env v) (fun _ s₂ => wpAny (model prog w) A (execs body env) (fun f s₃ => match f with
          | .next | .cont => ∃ m, m < n ∧ I m s₃
          | .brk => R (.ok .next) s₃
          | .ret v => R (.ok (.ret v)) s₃) (notedBy (model prog w) A env fun e s' => R (.error e) s') s₂) (notedBy (model prog w) A env fun e s' => R (.error e) s') s₁') (notedBy (model prog w) A env fun e s' => R (.error e) s') s₁) (notedBy (model prog w) A env fun e s' => R (.error e) s') s
theorem forLoop_own {target : Expr} {it : Value} {body orelse : List Stmt} {env : Env} (I : Nat → Shared → Prop)
    (turn : ∀ n s, I n s → ForTurn prog w A target it body orelse env R I n s)
    (n : Nat) (h : I n s) : codeAny (model prog w) A (.forLoop target it body orelse env) R s := by
  refine codeAny_loop' rfl I (fun n s hI => ?_) n h
  show wpAny _ _ ((forTurn target it body orelse env).onRaise (fun x => do noteFrame x env; theTreesLotGoes x)) _ _ s
  refine wpAny_noted ?_
  simp only [forTurn]
  refine wpAny_bind (wpAny_standAt (wpAny_bind (wpAny_onRaise (wpAny_mono (turn n s hI) (fun r s₁ h₁ => ?_) fun _ _ h' => wpAny_standAt h'))))
  cases r with
  | none => exact wpAny_pure (.inr ⟨rfl, codeAny_block h₁⟩)
  | some v =>
    refine wpAny_bind (wpAny_mono h₁ (fun _ s₁' h₁' => ?_) fun _ _ h' => h')
    refine wpAny_bind (wpAny_mono h₁' (fun _ s₂ h₂ => wpAny_bind (wpAny_mono h₂ (fun f s₃ h₃ => ?_) fun _ _ h' => h')) fun _ _ h' => h')
    cases f with
    | next => exact wpAny_pure (.inl ⟨rfl, h₃⟩)
    | cont => exact wpAny_pure (.inl ⟨rfl, h₃⟩)
    | brk => exact wpAny_pure h₃
    | ret v => exact wpAny_pure h₃
end

/-- an activation's own, that no step changes -/
structure Own (X : Cx) (Γ : Fx) (h₀ : Heap) : Prop where
  fit : Γ.Fit
  ok : X.Ok h₀
  stack : Γ.A.frames = some Γ.outer
  frames : ∃ outer₀, Γ.outer = Γ.env :: outer₀ ∧ h₀.FunFrames Γ.base outer₀
  stays : Γ.base.StaysIn h₀
  frame : Γ.env.frame = some Γ.env.locals
  fresh : h₀.objs.size ≤ Γ.env.locals
  apart : Γ.env.cells.Pairwise fun x y => x.2 ≠ y.2
  above : ∀ n c, (n, c) ∈ Γ.env.cells → Γ.env.locals < c
structure Act (X : Cx) (Γ : Fx) (h₀ : Heap) (ρ : Vars) (h : Heap) : Prop where
  keep : h₀.StaysIn h
  ns : ∃ m, h.Ns Γ.env.locals m
  cell : ∀ n c, (n, c) ∈ Γ.env.cells → ∃ v, h.IsCell c v
  vars : ∀ x d, ρ.lookup x = some d → ∃ v, At Γ.env h x v ∧ Rd h v d

/-- what statements leave: all but the frame and its cells -/
noncomputable def Kept (Γ : Fx) (h h' : Heap) : Prop := ∀ a o, a ≠ Γ.env.locals → (∀ n, (n, a) ∉ Γ.env.cells) → h.get? a = some o → h'.get? a = some o
theorem kept_of {Γ : Fx} {h h' : Heap} (k : h.StaysIn h') : Kept Γ h h' := fun a o _ _ e => k a o e
theorem kept_trans {Γ : Fx} {a b c : Heap} (x : Kept Γ a b) (y : Kept Γ b c) : Kept Γ a c := fun p o h1 h2 e => y p o h1 h2 (x p o h1 h2 e)

section
variable {X : Cx} {Γ : Fx} {h₀ : Heap} {ρ : Vars}

theorem Own.low (O : Own X Γ h₀) {a : Addr} {o : Obj} (e : h₀.get? a = some o) : a ≠ Γ.env.locals ∧ ∀ n, (n, a) ∉ Γ.env.cells := by
  have h1 := Heap.lt_size e
  have h2 := O.fresh
  refine ⟨Nat.ne_of_lt (Nat.lt_of_lt_of_le h1 h2), fun n hm => ?_⟩
  have h3 := O.above n a hm
  exact absurd (Nat.lt_of_lt_of_le h1 (Nat.le_trans h2 (Nat.le_of_lt h3))) (Nat.lt_irrefl _)
theorem Own.stay (O : Own X Γ h₀) {h h' : Heap} (k : h₀.StaysIn h) (kk : Kept Γ h h') : h₀.StaysIn h' := fun a o e => let ⟨l1, l2⟩ := O.low e; kk a o l1 l2 (k a o e)

theorem Act.good (a : Act X Γ h₀ ρ h₀) : True := trivial
theorem good_of {h : Heap} (O : Own X Γ h₀) (a : Act X Γ h₀ ρ h) : Good X Γ ρ h := by
  refine ⟨O.fit, O.ok.keeps a.keep, ⟨O.stack, fun b o e => a.keep b o (O.stays b o e), ?_⟩, a.vars⟩
  obtain ⟨outer₀, he, hf⟩ := O.frames
  rw [he]
  obtain ⟨m, o, es, ep, ho, hd, _⟩ := a.ns
  refine ⟨by rw [O.fit.fn]; decide, ⟨Γ.env.locals, o, O.frame, ?_, ho, fun vs q => by rw [hd] at q; cases q⟩, hf.of_keeps fun b o e _ => ⟨o, a.keep b o e, rfl⟩⟩
  cases hq : Γ.base.get? Γ.env.locals with
  | none => rfl
  | some o' => exact absurd (Nat.lt_of_lt_of_le (Heap.lt_size (O.stays _ _ hq)) O.fresh) (Nat.lt_irrefl _)
theorem Act.keeps {h h' : Heap} (a : Act X Γ h₀ ρ h) (k : h.StaysIn h') : Act X Γ h₀ ρ h' :=
  ⟨stays_trans a.keep k, let ⟨m, n⟩ := a.ns; ⟨m, n.keeps k⟩, fun n c e => let ⟨v, q⟩ := a.cell n c e; ⟨v, q.keeps k⟩, fun x d e => let ⟨v, p, r⟩ := a.vars x d e; ⟨v, p.keeps k, r.keeps k⟩⟩

theorem ns_agree {h : Heap} {L : Addr} {m m2 : Str → Option Value} (hn : h.Ns L m) (hn2 : h.Ns L m2) (x : Str) : m x = m2 x := by
  obtain ⟨o, es, ep, ho, hd, hk, hf⟩ := hn
  obtain ⟨o2, es2, ep2, ho2, hd2, hk2, hf2⟩ := hn2
  rw [ho] at ho2
  cases ho2
  rw [hd] at hd2
  cases hd2
  rw [← hf, hf2]

/-- a name is stored -/
theorem store {A : Around} {x : Str} {v : Value} {d : PyData} {s : Shared} {Q : Unit → Shared → Prop} {E : Value → Shared → Prop} (O : Own X Γ h₀) (a : Act X Γ h₀ ρ s.heap) (r : Rd s.heap v d)
    (hx : Γ.env.kindOf x = some .local ∨ (Γ.env.kindOf x = some .cell ∧ (Γ.env.cells.lookup x).isSome = true))
    (h : ∀ h' tk, Kept Γ s.heap h' → Act X Γ h₀ ((x, d) :: ρ) h' → (∀ v d, Rd s.heap v d → Rd h' v d) → Q () { s with heap := h', toks := tk }) : wpAny X.M A (storeName Γ.env x v) Q E s := by
  rcases hx with hx | ⟨hx, hc⟩
  · obtain ⟨m, hn⟩ := a.ns
    refine wpAny_storeName_local hx hn (fun h' hn' hs' => ?_) (by rw [O.fit.fn]; rfl)
    have kk : Kept Γ s.heap h' := fun b o h1 _ e => (hs'.2 b h1).trans e
    have mv := seqs_sameBut hn hs'
    refine h h' _ kk ⟨O.stay a.keep kk, ⟨_, hn'⟩, fun n c e => ?_, ?_⟩ (fun _ _ r => r.move mv)
    · obtain ⟨v', q⟩ := a.cell n c e
      exact ⟨v', q.sameBut hs' (Nat.ne_of_gt (O.above n c e))⟩
    · refine look_cons ?_ fun y d' hne e => ?_
      · exact ⟨v, .inl ⟨hx, _, hn', if_pos rfl⟩, r.move mv⟩
      obtain ⟨v', p, r'⟩ := a.vars y d' e
      refine ⟨v', ?_, r'.move mv⟩
      rcases p with ⟨hl, m2, hn2, hm2⟩ | ⟨c, hl, hc, hv⟩
      · exact .inl ⟨hl, _, hn', (if_neg hne).trans ((ns_agree hn hn2 y).trans hm2)⟩
      · exact .inr ⟨c, hl, hc, hv.sameBut hs' (Nat.ne_of_gt (O.above y c (mem_of_lookup hc)))⟩
  · obtain ⟨c, hc⟩ := Option.isSome_iff_exists.mp hc
    obtain ⟨v₀, hv₀⟩ := a.cell x c (mem_of_lookup hc)
    refine wpAny_storeName_cell O.fit.fn hx hc hv₀ fun h' hc' hs' => ?_
    have kk : Kept Γ s.heap h' := fun b o _ h2 e => (hs'.2 b fun q => h2 x (q ▸ mem_of_lookup hc)).trans e
    have mv := seqs_cell hv₀ hs'
    have hLc := O.above x c (mem_of_lookup hc)
    refine h h' s.toks kk ⟨O.stay a.keep kk, let ⟨m, n⟩ := a.ns; ⟨m, n.sameBut hs' (Nat.ne_of_lt hLc)⟩, fun n c' e => ?_, ?_⟩ (fun _ _ r => r.move mv)
    · by_cases hq : c' = c
      · subst hq; exact ⟨_, hc'⟩
      · obtain ⟨v', q⟩ := a.cell n c' e
        exact ⟨v', q.sameBut hs' hq⟩
    · refine look_cons ?_ fun y d' hne e => ?_
      · exact ⟨v, .inr ⟨c, hx, hc, hc'⟩, r.move mv⟩
      obtain ⟨v', p, r'⟩ := a.vars y d' e
      refine ⟨v', ?_, r'.move mv⟩
      rcases p with ⟨hl, m2, hn2, hm2⟩ | ⟨c2, hl, hc2, hv⟩
      · exact .inl ⟨hl, m2, hn2.sameBut hs' (Nat.ne_of_lt hLc), hm2⟩
      · exact .inr ⟨c2, hl, hc2, hv.sameBut hs' fun q => hne (name_of_addr O.apart (mem_of_lookup hc2) (q ▸ mem_of_lookup hc))⟩

theorem str_slot {m : Str → Option Value} {h : Heap} {y x : Str} (a : Act X Γ h₀ ρ h) (hn : h.Ns Γ.env.locals m) (hl : Γ.env.kindOf y = some .local) (e : ρ.lookup y = some (.str x)) : ∃ t, m y = some (.str x t) := by
  obtain ⟨v, p, r⟩ := a.vars y _ e
  obtain ⟨t, rfl⟩ := r.str_inv
  rcases p with ⟨_, m2, hn2, hm2⟩ | ⟨c, hl', _⟩
  · exact ⟨t, (ns_agree hn hn2 y).trans hm2⟩
  · rw [hl] at hl'; cases hl'

/-- statements that end in a flow -/
noncomputable def Goes (X : Cx) (Γ : Fx) (h₀ : Heap) (ρ : Vars) (ss : List Stmt) (fl : Flow) (ρ' : Vars) : Prop :=
  Own X Γ h₀ → ∀ (s : Shared) (Q : Flow → Shared → Prop) (E : Value → Shared → Prop), Act X Γ h₀ ρ s.heap →
    (∀ h' tk, Kept Γ s.heap h' → Act X Γ h₀ ρ' h' → Q fl { s with heap := h', toks := tk }) → wpAny X.M Γ.A (execs ss Γ.env) Q E s
/-- statements that return a datum -/
noncomputable def Body (X : Cx) (Γ : Fx) (h₀ : Heap) (ρ : Vars) (ss : List Stmt) (d : PyData) : Prop :=
  Own X Γ h₀ → ∀ (s : Shared) (Q : Flow → Shared → Prop) (E : Value → Shared → Prop), Act X Γ h₀ ρ s.heap →
    (∀ v h' tk, Kept Γ s.heap h' → Rd h' v d → Q (.ret v) { s with heap := h', toks := tk }) → wpAny X.M Γ.A (execs ss Γ.env) Q E s

theorem goes_nil : Goes X Γ h₀ ρ [] .next ρ := fun O s Q E a b => wpAny_execs_nil (b s.heap s.toks (kept_of (stays_refl _)) a)
theorem exec_one {M : Model} {A : Around} {env : Env} {st : Stmt} {s : Shared} {Q : Flow → Shared → Prop} {E : Value → Shared → Prop} (h : wpAny M A (execs [st] env) Q E s) : wpAny M A (exec st env) Q E s := by
  intro Γ p hΓ
  have h' := h Γ p hΓ
  rw [execs_cons, Sem.wp_bind'] at h'
  refine Sem.wp_mono M Γ _ (fun f p' s' q => ?_) (fun _ _ _ q => q) _ _ h'
  cases f <;> exact q
theorem goes_cons {st : Stmt} {rest : List Stmt} {fl : Flow} {ρ₁ ρ₂ : Vars} (h1 : Goes X Γ h₀ ρ [st] .next ρ₁) (h2 : Goes X Γ h₀ ρ₁ rest fl ρ₂) : Goes X Γ h₀ ρ (st :: rest) fl ρ₂ := fun O s Q E a b => by
  refine wpAny_execs_cons (exec_one (h1 O s _ E a fun h' tk k a' => ?_))
  exact h2 O _ Q E a' fun h'' tk'' k' a'' => b h'' tk'' (kept_trans k k') a''
theorem goes_stop {st : Stmt} {rest : List Stmt} {ρ₁ : Vars} (h1 : Goes X Γ h₀ ρ [st] .brk ρ₁) : Goes X Γ h₀ ρ (st :: rest) .brk ρ₁ := fun O s Q E a b => by
  exact wpAny_execs_cons (exec_one (h1 O s _ E a fun h' tk k a' => b h' tk k a'))
theorem body_cons {st : Stmt} {rest : List Stmt} {d : PyData} {ρ₁ : Vars} (h1 : Goes X Γ h₀ ρ [st] .next ρ₁) (h2 : Body X Γ h₀ ρ₁ rest d) : Body X Γ h₀ ρ (st :: rest) d := fun O s Q E a b => by
  refine wpAny_execs_cons (exec_one (h1 O s _ E a fun h' tk k a' => ?_))
  exact h2 O _ Q E a' fun v h'' tk'' k' r => b v h'' tk'' (kept_trans k k') r
theorem body_ret {e : Expr} {pos : Pos} {rest : List Stmt} {d : PyData} (h : Sees X Γ ρ e d) : Body X Γ h₀ ρ (.Return (some e) pos :: rest) d := fun O s Q E a b =>
  wpAny_execs_cons (wpAny_Return_some (h s _ E (good_of O a) fun v h' tk k r => b v h' tk (kept_of k) r))

theorem goes_if {t : Expr} {bd el : List Stmt} {pos : Pos} {b : Bool} {fl : Flow} {ρ' : Vars} (ht : Tests X Γ ρ t b) (h1 : b = true → Goes X Γ h₀ ρ bd fl ρ') (h2 : b = false → Goes X Γ h₀ ρ el fl ρ') : Goes X Γ h₀ ρ [.If t bd el pos] fl ρ' := fun O s Q E a bk => by
  have tail : ∀ {f : Flow} {s' : Shared}, Q f s' → (match f with | .next => wpAny X.M Γ.A (execs [] Γ.env) Q E s' | f => Q f s') := fun {f s'} q => by cases f <;> first | exact wpAny_execs_nil q | exact q
  refine wpAny_execs_cons (wpAny_If (ht s _ E (good_of O a) fun h' tk k => ?_))
  exact ite_prop (fun hb => h1 hb O _ _ E (a.keeps k) fun h'' tk'' k' a'' => tail (bk h'' tk'' (kept_trans (kept_of k) k') a'')) fun hb => h2 hb O _ _ E (a.keeps k) fun h'' tk'' k' a'' => tail (bk h'' tk'' (kept_trans (kept_of k) k') a'')
/-- a test that turns into a return -/
theorem body_if {t : Expr} {bd : List Stmt} {pos : Pos} {rest : List Stmt} {d : PyData} (ht : Tests X Γ ρ t true) (h1 : Body X Γ h₀ ρ bd d) {el : List Stmt} : Body X Γ h₀ ρ (.If t bd el pos :: rest) d := fun O s Q E a bk => by
  refine wpAny_execs_cons (wpAny_If (ht s _ E (good_of O a) fun h' tk k => ?_))
  exact ite_prop (fun _ => h1 O _ _ E (a.keeps k) fun v h'' tk'' k' r => bk v h'' tk'' (kept_trans (kept_of k) k') r) fun hb => nomatch hb
theorem body_skip {t : Expr} {bd : List Stmt} {pos : Pos} {rest : List Stmt} {d : PyData} (ht : Tests X Γ ρ t false) (h1 : Body X Γ h₀ ρ rest d) : Body X Γ h₀ ρ (.If t bd [] pos :: rest) d :=
  body_cons (goes_if ht (fun h => by cases h) fun _ => goes_nil) h1

theorem goes_assign {x : Str} {e : Expr} {p pos : Pos} {d : PyData} (h : Sees X Γ ρ e d) (hx : Γ.env.kindOf x = some .local ∨ (Γ.env.kindOf x = some .cell ∧ (Γ.env.cells.lookup x).isSome = true))
    (hs : swapsWith e (some (.Name x p)) pos.line Γ.env = pure false) : Goes X Γ h₀ ρ [.Assign [.Name x p] e pos] .next ((x, d) :: ρ) := fun O s Q E a b => by
  refine wpAny_execs_cons (wpAny_Assign_Name (h s _ E (good_of O a) fun v h' tk k r => ?_) hs)
  exact store (ρ := ρ) (s := { s with heap := h', toks := tk }) O (a.keeps k) r hx fun h'' tk'' k' a' _ => wpAny_execs_nil (b h'' tk'' (kept_trans (kept_of k) k') a')

theorem goes_break {pos : Pos} : Goes X Γ h₀ ρ [.Break pos] .brk ρ := fun O s Q E a b => by
  refine wpAny_execs_cons (wpAny_Break (b s.heap s.toks (kept_of (stays_refl _)) a))

/-- s += t of texts -/
theorem goes_aug {x : Str} {e : Expr} {p pos : Pos} {y z : Str} (hx : ρ.lookup x = some (.str y)) (h : Sees X Γ ρ e (.str z)) (hk : Γ.env.kindOf x = some .local) (hz : y.length + z.length ≤ sizeLine) :
    Goes X Γ h₀ ρ [.AugAssign (.Name x p) .Add e pos] .next ((x, .str (y ++ z)) :: ρ) := fun O s Q E a b => by
  obtain ⟨v, ha, r⟩ := a.vars x _ hx
  obtain ⟨t, rfl⟩ := r.str_inv
  refine wpAny_execs_cons (wpAny_AugAssign_Name ?_)
  rcases ha with ⟨hl, m, hn, hm⟩ | ⟨c, hl, _⟩
  · refine wpAny_loadName_local O.fit.fn hl hn hm (h s _ E (good_of O a) fun v2 h' tk k r2 => ?_)
    obtain ⟨u, rfl⟩ := r2.str_inv
    refine P.iadd_str (SB.post_add hz fun t' k' => ?_)
    exact store (s := { s with heap := h', toks := k' }) O (a.keeps k) (.str _ _) (.inl hk) fun h'' tk'' k'' a' _ => wpAny_execs_nil (b h'' tk'' (kept_trans (kept_of k) k'') a')
  · rw [hk] at hl; cases hl

theorem actW {h h' : Heap} {wr : List Addr} (a : Act X Γ h₀ ρ h) (sh : NoSeq h wr) (kk : ∀ b o, b ∉ wr → h.get? b = some o → h'.get? b = some o) (nw : ∀ b ∈ wr, b ≠ Γ.env.locals ∧ ∀ n, (n, b) ∉ Γ.env.cells)
    (hf : ∀ b o, h₀.get? b = some o → b ∉ wr) : Act X Γ h₀ ρ h' := by
  have hL : Γ.env.locals ∉ wr := fun hm => (nw _ hm).1 rfl
  have hc : ∀ n c, (n, c) ∈ Γ.env.cells → c ∉ wr := fun n c hm hw => (nw _ hw).2 n hm
  have mv := sh.seqs kk
  refine ⟨fun b o e => kk b o (hf b o e) (a.keep b o e), let ⟨m, n⟩ := a.ns; ⟨m, n.at' fun o e => kk _ o hL e⟩, fun n c e => ?_, fun x d e => ?_⟩
  · obtain ⟨v, o, ho, hd⟩ := a.cell n c e
    exact ⟨v, o, kk _ _ (hc n c e) ho, hd⟩
  · obtain ⟨v, p, r⟩ := a.vars x d e
    refine ⟨v, ?_, r.move mv⟩
    rcases p with ⟨hl, m, hn, hm⟩ | ⟨c, hl, hcc, o, ho, hd⟩
    · exact .inl ⟨hl, m, hn.at' fun o e => kk _ o hL e, hm⟩
    · exact .inr ⟨c, hl, hcc, o, kk _ _ (hc x c (mem_of_lookup hcc)) ho, hd⟩

/-- between two turns -/
noncomputable abbrev ForInv (X : Cx) (Γ : Fx) (h₀ : Heap) (s : Shared) (base : Heap) (St : Nat → Heap → Prop) (I : Nat → Vars) (n k : Nat) (s' : Shared) : Prop :=
  ∃ i H tk, s' = { s with heap := H, toks := tk } ∧ St i H ∧ Act X Γ h₀ (I i) H ∧ Kept Γ base H ∧ i ≤ n ∧ k = n + 1 - i
/-- a for over data: what holds of the names, turn by turn -/
theorem goes_for {x : Str} {iter : Expr} {p pos : Pos} {body : List Stmt} {ds : List PyData} {I : Nat → Vars} (hit : SeesIter X Γ (I 0) iter (.Name x p) ds true) (hk : Γ.env.kindOf x = some .local) (hs : ∀ v, foldedSetIterable iter Γ.env v = pure v)
    (hturn : ∀ (i : Nat) d, ds[i]? = some d → ∃ ρ₁, Goes X Γ h₀ ((x, d) :: I i) body .next ρ₁ ∧ ∀ y d', (I (i + 1)).lookup y = some d' → ρ₁.lookup y = some d') :
    Goes X Γ h₀ (I 0) [.For (.Name x p) iter body [] pos] .next (I ds.length) := fun O s Q E a b => by
  refine wpAny_execs_cons (wpAny_For (hit s _ E (good_of O a) fun base it fp wr St h' tk kb kb' W st hfp sh => ?_) hs)
  have aB : Act X Γ h₀ (I 0) base := a.keeps kb
  have hLf : Γ.env.locals ∉ fp := fun hm => by obtain ⟨m, o, es, ep, ho, _⟩ := aB.ns; rw [W.fresh' _ hm] at ho; cases ho
  have hcf : ∀ b ∈ fp, ∀ n, (n, b) ∉ Γ.env.cells := fun b hm n hc => by
    obtain ⟨v, o, ho, _⟩ := aB.cell n b hc
    rw [W.fresh' _ hm] at ho; cases ho
  have hkf : ∀ {i : Nat} {h h' : Heap}, Kept Γ h h' → St i h → St i h' := fun kk st => W.frame _ _ _ st fun b hb o e => kk b o (fun hq => hLf (hq ▸ hb)) (hcf b hb) e
  have hsq : ∀ {H : Heap}, Kept Γ base H → Seqs base H := fun kk a o vs n e q => kk a o (fun hq => by
      subst hq
      obtain ⟨m, o', es, ep, ho', hd', _⟩ := aB.ns
      rw [e] at ho'; cases ho'; rw [q] at hd'; cases hd') (fun n hc => by
      obtain ⟨v, o', ho', hd'⟩ := aB.cell n a hc
      rw [e] at ho'; cases ho'; rw [q] at hd'; cases hd') e
  refine forLoop_own (ForInv X Γ h₀ s base St I ds.length) ?_ (ds.length + 1) ⟨0, h', tk, rfl, st, aB.keeps kb', kept_of kb', Nat.zero_le _, rfl⟩
  rintro k s' ⟨i, H, tk', rfl, hst, act, hkept, hi, rfl⟩
  by_cases hlt : i < ds.length
  · obtain ⟨d, hd⟩ : ∃ d, ds[i]? = some d := ⟨_, List.getElem?_eq_getElem hlt⟩
    refine W.item i _ _ _ d hd hst (hsq hkept) fun v s₁ hr => ?_
    refine hr _ _ fun h₁ tk₁ rv st₁ kk => ?_
    have nw : ∀ b ∈ wr, b ≠ Γ.env.locals ∧ ∀ n, (n, b) ∉ Γ.env.cells := fun b hb => ⟨fun hq => hLf (hq ▸ W.sub b hb), hcf b (W.sub b hb)⟩
    have act₁ : Act X Γ h₀ (I i) h₁ := actW act (sh rfl _ _ hst) kk nw (fun b o e hm => by have := aB.keep b o e; rw [W.fresh b hm] at this; cases this)
    have kept₁ : Kept Γ base h₁ := fun b o h1 h2 e => kk b o (fun hm => by rw [W.fresh b hm] at e; cases e) (hkept b o h1 h2 e)
    obtain ⟨ρ₁, hg, hρ⟩ := hturn i d hd
    refine wpAny_assign_Name (store (s := { s with heap := h₁, toks := tk₁ }) O act₁ rv (.inl hk) fun h₂ tk₂ k₂ a₂ _ => ?_)
    refine hg O _ _ _ a₂ fun h₃ tk₃ k₃ a₃ => ?_
    refine ⟨ds.length + 1 - (i + 1), Nat.sub_lt_sub_left (Nat.lt_succ_of_lt hlt) (Nat.lt_succ_self i), i + 1, h₃, tk₃, rfl, hkf k₃ (hkf k₂ st₁), ⟨a₃.keep, a₃.ns, a₃.cell, fun y d' e => a₃.vars y d' (hρ y d' e)⟩, kept_trans kept₁ (kept_trans k₂ k₃), hlt, rfl⟩
  · have hin : i = ds.length := Nat.le_antisymm hi (Nat.not_lt.mp hlt)
    subst hin
    refine W.done _ _ _ hst (hsq hkept) fun h₁ tk₁ kk => ?_
    have nw : ∀ b ∈ wr, b ≠ Γ.env.locals ∧ ∀ n, (n, b) ∉ Γ.env.cells := fun b hb => ⟨fun hq => hLf (hq ▸ W.sub b hb), hcf b (W.sub b hb)⟩
    have act₁ : Act X Γ h₀ (I ds.length) h₁ := actW act (sh rfl _ _ hst) kk nw (fun b o e hm => by have := aB.keep b o e; rw [W.fresh b hm] at this; cases this)
    have kept₁ : Kept Γ base h₁ := fun b o h1 h2 e => kk b o (fun hm => by rw [W.fresh b hm] at e; cases e) (hkept b o h1 h2 e)
    refine wpAny_execs_nil (wpAny_execs_nil ?_)
    exact b h₁ tk₁ (kept_trans (kept_of kb) kept₁) act₁
end
end Mine
end

noncomputable section
open PySem PySem.W PyProof.Rows Builtin.Str
set_option maxRecDepth 100000
namespace Mine

theorem bindL_other {kindOf : Str → Option NameKind} {x : Str} : ∀ {binds : List (Str × Value)} {m : Str → Option Value}, (∀ y ∈ binds, y.1 ≠ x) → bindL kindOf binds m x = m x
  | [], m, _ => rfl
  | (n, v) :: r, m, h => by
    rw [bindL, bindL_other fun y hy => h y (List.mem_cons_of_mem _ hy)]
    have hn : n ≠ x := h (n, v) List.mem_cons_self
    split
    · simp [Ne.symm hn]
    · rfl
theorem bindC_other {kindOf : Str → Option NameKind} {x : Str} : ∀ {binds : List (Str × Value)} {m : Str → Option Value}, (∀ y ∈ binds, y.1 ≠ x) → bindC kindOf binds m x = m x
  | [], m, _ => rfl
  | (n, v) :: r, m, h => by
    rw [bindC, bindC_other fun y hy => h y (List.mem_cons_of_mem _ hy)]
    have hn : n ≠ x := h (n, v) List.mem_cons_self
    split
    · rfl
    · simp [Ne.symm hn]
theorem bindL_mem {kindOf : Str → Option NameKind} {x : Str} {v : Value} (hx : kindOf x = some .local) : ∀ {binds : List (Str × Value)} {m : Str → Option Value}, (binds.map (·.1)).Nodup → (x, v) ∈ binds → bindL kindOf binds m x = some v
  | (n, u) :: r, m, hn, hm => by
    rw [List.map_cons, List.nodup_cons] at hn
    rcases List.mem_cons.mp hm with e | hm
    · cases e
      rw [bindL, bindL_other fun y hy e => hn.1 (by have := List.mem_map_of_mem (f := Prod.fst) hy; rw [e] at this; exact this), if_pos hx]
      simp
    · rw [bindL]; exact bindL_mem hx hn.2 hm
theorem bindC_mem {kindOf : Str → Option NameKind} {x : Str} {v : Value} (hx : kindOf x = some .cell) : ∀ {binds : List (Str × Value)} {m : Str → Option Value}, (binds.map (·.1)).Nodup → (x, v) ∈ binds → bindC kindOf binds m x = some v
  | (n, u) :: r, m, hn, hm => by
    rw [List.map_cons, List.nodup_cons] at hn
    rcases List.mem_cons.mp hm with e | hm
    · cases e
      rw [bindC, bindC_other fun y hy e => hn.1 (by have := List.mem_map_of_mem (f := Prod.fst) hy; rw [e] at this; exact this), if_neg (by rw [hx]; decide)]
      simp
    · rw [bindC]; exact bindC_mem hx hn.2 hm

/-- parameters bound to data -/
structure Bound (h : Heap) (binds : List (Str × Value)) (ρ : Vars) : Prop where
  names : binds.map (·.1) = ρ.map (·.1)
  data : RdL h (binds.map (·.2)) (ρ.map (·.2))
theorem Bound.find {h : Heap} : ∀ {binds : List (Str × Value)} {ρ : Vars}, Bound h binds ρ → ∀ {x : Str} {d : PyData}, ρ.lookup x = some d → ∃ v, (x, v) ∈ binds ∧ Rd h v d
  | [], [], _, x, d, e => by cases e
  | (n, v) :: r, [], B, x, d, e => by have := B.names; simp at this
  | [], (n, d') :: ρ, B, x, d, e => by have := B.names; simp at this
  | (n, v) :: r, (n', d') :: ρ, B, x, d, e => by
    have hn := B.names
    have hd := B.data
    simp only [List.map_cons, List.cons.injEq] at hn hd
    cases hd with
    | cons r1 r2 =>
      rw [List.lookup_cons] at e
      cases hx : x == n' with
      | true =>
        rw [hx] at e
        cases e
        have : x = n' := beq_iff_eq.mp hx
        subst this
        exact ⟨v, by rw [hn.1]; exact List.mem_cons_self, r1⟩
      | false =>
        rw [hx] at e
        obtain ⟨v', hm, rv⟩ := Bound.find ⟨hn.2, r2⟩ e
        exact ⟨v', List.mem_cons_of_mem _ hm, rv⟩

noncomputable def Binds (fd : FuncData) (ds : List PyData) (ρ : Vars) : Prop :=
  ∀ (M : Model) (A : Around) (s : Shared) (vs : List Value) (Q : List (Str × Value) → Shared → Prop) (E : Value → Shared → Prop), RdL s.heap vs ds →
    (∀ binds h' tk, s.heap.StaysIn h' → Bound h' binds ρ → Q binds { s with heap := h', toks := tk }) → wpAny M A (bindArgs fd ⟨vs, []⟩) Q E s

noncomputable abbrev actOf (fd : FuncData) (A : Around) (base : Heap) (outer : List Env) (n : Nat) (L f : Addr) : Fx :=
  { A := A.deeper (callEnvC fd L f), base := base, outer := callEnvC fd L f :: outer, env := callEnvC fd L f, room := n }

section
variable {X : Cx}
/-- how a def is entered: what is known when its body starts -/
theorem enter {f : Addr} {n : Nat} {ds : List PyData} {ρ : Vars} {oc : Value} {od : Option Addr} {osl : Array (Option Value)} {fd : FuncData} {body : List Stmt}
    (ho : X.K.lookup f = some ⟨oc, od, .func fd, osl⟩) (hcd : codeIn X.K fd.code fd.qualname = true) (hbody : fd.body = .stmts body) (hclo : fd.closure = []) (hg : fd.globals = mainGlobals) (hbl : fd.builtins = builtinsNs)
    (hco : fd.scope.isCoroutine = false) (hgen : fd.scope.isGenerator = false) (hk : fd.scope.kind = .function)
    (hb : Binds fd ds ρ) (hnd : (ρ.map (·.1)).Nodup)
    (hkind : ∀ n, ∀ x ∈ ρ.map (·.1), fd.scope.names.lookup x = some .local ∨ (fd.scope.names.lookup x = some .cell ∧ ((cellsFrom n fd.scope.names []).lookup x).isSome = true))
    (hcn : ∀ L, (cellsFrom L fd.scope.names []).map (·.1) |>.Nodup)
    {A : Around} {base : Heap} {outer : List Env} {s : Shared} {vs : List Value} {R : Result → Shared → Prop}
    (hh : A.handled = none) (hdp : A.depth + (n + 1) < recursionLimit) (hun : A.units + 8 * (n + 1) + 200 < cLine) (B : Below A base outer s.heap) (hok : X.Ok s.heap) (hr : RdL s.heap vs ds)
    (h : ∀ (h₀ : Heap) (L : Addr) (h' : Heap) (tk : Nat), s.heap.StaysIn h₀ → Own X (actOf fd A base outer n L f) h₀ → Act X (actOf fd A base outer n L f) h₀ ρ h' →
      wpAny X.M (A.deeper (callEnvC fd L f)) (execs body (callEnvC fd L f)) (fun fl s' => R (.ok (.ret (match fl with | .ret v => v | _ => .none))) s')
        (fun e s' => wpAny X.M (A.deeper (callEnvC fd L f)) (leaving (callEnvC fd L f) e) (fun _ s'' => R (.error e) s'') (fun e' s'' => R (.error e') s'') s') { s with heap := h', toks := tk }) :
    codeAny X.M A (.call (.ref f) ⟨vs, []⟩) R s := by
  refine codeAny_call_function (by omega) (hok.k _ _ ho) rfl hco hgen hbody (codeRec_of hok.k hcd) ?_
  refine hb _ _ s vs _ _ hr fun binds h' tk k bd => ?_
  rw [hclo]
  have hB := below_keeps B k
  have hO := hok.keeps k
  refine wpAny_newFunctionEnv_cells hk (fun x hx => hkind _ _ (by rw [← bd.names]; exact List.mem_map_of_mem hx)) fun env he s' x => ?_
  have he' : env = callEnvC fd h'.objs.size f := he
  subst he'
  obtain ⟨h₁, tk₁, rfl, k₁⟩ := x.done
  refine ⟨(hO.t.nolimit).keeps k₁, codeAny_func ?_⟩
  have nd : (binds.map (·.1)).Nodup := by rw [bd.names]; exact hnd
  refine h h' h'.objs.size h₁ tk₁ k ?_ ?_
  · refine ⟨⟨hh, ?_, ?_, hk, hg, hbl⟩, hO, Around.frames_deeper hB.stack, ⟨outer, rfl, hB.frames⟩, hB.stays, rfl, Nat.le_refl _, x.apart, x.above⟩
    · show A.depth + 1 + n < recursionLimit; rw [Nat.add_assoc, Nat.add_comm 1 n]; exact hdp
    · exact Nat.lt_of_le_of_lt (Nat.add_le_add_right (show A.units + 3 + 8 * n ≤ A.units + 8 * (n + 1) by rw [Nat.mul_succ, Nat.add_assoc, Nat.add_comm 3]; exact Nat.add_le_add_left (Nat.add_le_add_left (Nat.le_of_ble_eq_true rfl) _) _) _) hun
  · refine ⟨k₁, ⟨_, x.toInCall.ns⟩, fun m c hm => ?_, fun y d e => ?_⟩
    · exact ⟨_, x.cell m c (lookup_of_mem_nodup (hcn _) hm)⟩
    · obtain ⟨v, hm, rv⟩ := bd.find e
      have hy : y ∈ ρ.map (·.1) := by rw [← bd.names]; exact List.mem_map_of_mem (f := Prod.fst) hm
      refine ⟨v, ?_, rv.keeps k₁⟩
      rcases hkind (h'.objs.size + 1) y hy with hl | ⟨hl, hc⟩
      · exact .inl ⟨hl, _, x.toInCall.ns, bindL_mem hl nd hm⟩
      · obtain ⟨c, hc⟩ := Option.isSome_iff_exists.mp hc
        refine .inr ⟨c, hl, hc, ?_⟩
        have q := x.cell y c hc
        rw [bindC_mem (kindOf := (callEnvC fd h'.objs.size f).kindOf) hl nd hm] at q
        exact q

theorem fn_of {f : Addr} {n : Nat} {ds : List PyData} {d : PyData} {ρ : Vars} {oc : Value} {od : Option Addr} {osl : Array (Option Value)} {fd : FuncData} {body : List Stmt}
    (ho : X.K.lookup f = some ⟨oc, od, .func fd, osl⟩) (hcd : codeIn X.K fd.code fd.qualname = true) (hbody : fd.body = .stmts body) (hclo : fd.closure = []) (hg : fd.globals = mainGlobals) (hbl : fd.builtins = builtinsNs)
    (hco : fd.scope.isCoroutine = false) (hgen : fd.scope.isGenerator = false) (hk : fd.scope.kind = .function)
    (hb : Binds fd ds ρ) (hnd : (ρ.map (·.1)).Nodup)
    (hkind : ∀ n, ∀ x ∈ ρ.map (·.1), fd.scope.names.lookup x = some .local ∨ (fd.scope.names.lookup x = some .cell ∧ ((cellsFrom n fd.scope.names []).lookup x).isSome = true))
    (hcn : ∀ L, (cellsFrom L fd.scope.names []).map (·.1) |>.Nodup)
    (hB : ∀ A base outer L h₀, Body X (actOf fd A base outer n L f) h₀ ρ body d) : Fn X (n + 1) (.ref f) ds d := by
  intro A base outer s vs Q E hh hdp hun B hok hr b
  refine wpAny_call (enter ho hcd hbody hclo hg hbl hco hgen hk hb hnd hkind hcn hh hdp hun B hok hr fun h₀ L h' tk k O a => ?_)
  exact hB A base outer L h₀ O _ _ _ a fun v h₂ tk₂ kk r => b v h₂ tk₂ (stays_trans k (O.stay a.keep kk)) r
end
end Mine
end

noncomputable section
open PySem PySem.W PyProof.Rows Builtin.Str
set_option maxRecDepth 100000
namespace Mine

section
variable {prog : Program} {w : World} {A : Around} {E : Value → Shared → Prop}
theorem issubclass_step {s : Shared} {k : Value} {dep : Int} {tk : Tok} {Q : Fin → Shared → Prop} (hk : k = .int dep tk) (hq : Q (.done (.ret (.bool true))) s) :
    wpAny (model prog w) A (Builtin.«issubclass.nested» ⟨[.type "str", .type "str", k], []⟩) Q E s := by
  subst hk
  have hm : ((Value.type "type") == (Value.type "type")) = true := rfl
  have hself : isSubtype (.type "str") (.type "str") = pure true := by rw [isSubtype_type]; kernel_rfl
  repeat (any_goals (first | assumption | (rw [if_pos hm]) | (rw [hself]) | wp_step))
theorem args_issubclass_nested_3 (a b c : Value) : argsOk "issubclass.nested" ⟨[a, b, c], []⟩ := by unfold argsOk; kernel_rfl
theorem kind_issubclass_nested : builtinKind "issubclass.nested" = none := by decide +kernel
theorem plain_issubclass_nested : plainId "issubclass.nested" = true := by decide +kernel
theorem meets_issubclass_step (dep : Int) (tk : Tok) : Meets (Builtin.«issubclass.nested» ⟨[.type "str", .type "str", .int dep tk], []⟩) (fun _ R s => R (.ok (.ret (.bool true))) s) :=
  fun _ _ _ _ _ hs => issubclass_step rfl hs

theorem issubclass_nested_pair {tp : Addr} {cs items : List Value} (hi : items = .type "str" :: cs) {tk : Tok} {s : Shared} {Q : Fin → Shared → Prop}
    (htp : s.heap.get? tp = some { cls := .type "tuple", data := .seq items.toArray })
    (hq : ∀ tk', Q (.done (.ret (.bool true))) { s with toks := tk' }) : wpAny (model prog w) A (Builtin.«issubclass.nested» ⟨[.type "str", .ref tp, .int 0 tk], []⟩) Q E s := by
  obtain ⟨h, g, d, t, os⟩ := s
  have hT2 : (⟨h, g, d, t, os⟩ : Shared).TypeIs (.ref tp) "tuple" := ⟨_, htp, rfl⟩
  have f1 := F.isi_sub_tuple
  repeat (any_goals (first | assumption | wp_step))
  refine wpAny_arrayLoop ?_
  simp only [Option.getD_some, List.toList_toArray]
  rw [hi, List.forIn_cons]
  refine wpAny_bind (wpAny_bind (call_function_meets kind_issubclass_nested plain_issubclass_nested F.entry_issubclass_nested (args_issubclass_nested_3 _ _ _) (meets_issubclass_step _ _) ?_))
  show wpAny _ _ (truthy (.bool true) >>= _) _ _ _
  refine wpAny_bind (m := truthy (.bool true)) (wpAny_pure ?_)
  refine wpAny_bind (wpAny_pure (wpAny_pure (wpAny_pure ?_)))
  repeat (any_goals (first | assumption | wp_step))
  exact hq t

theorem call_issubclass_str {s : Shared} {t : Addr} {cs : List Value} {Q : Value → Shared → Prop} (htp : s.heap.get? t = some { cls := .type "tuple", data := .seq (.type "str" :: cs).toArray }) (hq : ∀ k, Q (.bool true) { s with toks := k }) :
    wpAny (model prog w) A (call (.builtin "issubclass") [.type "str", .ref t]) Q E s := by
  refine call_function_tree F.kind_issubclass F.plain_issubclass F.entry_issubclass (F.args_issubclass_2 _ _) ?_
  exact issubclass_outer (R := fun r s' => match r with | .ok (.ret v) => Q v s' | .ok _ => False | .error e => E e s') (issubclass_nested_pair rfl htp fun tk' => hq tk')
end

end Mine
end

noncomputable section
open PySem PySem.W PyProof.Rows Builtin.Str
set_option maxRecDepth 100000
namespace Mine

section
variable {X : Cx} {Γ : Fx} {h₀ : Heap} {ρ : Vars}
/-- a name is stored that holds no datum -/
theorem store_any {A : Around} {x : Str} {v : Value} {s : Shared} {Q : Unit → Shared → Prop} {E : Value → Shared → Prop} (O : Own X Γ h₀) (a : Act X Γ h₀ ρ s.heap)
    (hx : Γ.env.kindOf x = some .local) (hρ : ρ.lookup x = none)
    (h : ∀ h' tk, Kept Γ s.heap h' → Act X Γ h₀ ρ h' → At Γ.env h' x v → Q () { s with heap := h', toks := tk }) : wpAny X.M A (storeName Γ.env x v) Q E s := by
  obtain ⟨m, hn⟩ := a.ns
  refine wpAny_storeName_local hx hn (fun h' hn' hs' => ?_) (by rw [O.fit.fn]; rfl)
  have kk : Kept Γ s.heap h' := fun b o h1 _ e => (hs'.2 b h1).trans e
  have mv := seqs_sameBut hn hs'
  refine h h' _ kk ⟨O.stay a.keep kk, ⟨_, hn'⟩, fun n c e => ?_, fun y d' e => ?_⟩ (.inl ⟨hx, _, hn', by simp⟩)
  · obtain ⟨v', q⟩ := a.cell n c e
    exact ⟨v', q.sameBut hs' (Nat.ne_of_gt (O.above n c e))⟩
  · have hne : y ≠ x := fun q => by subst q; rw [hρ] at e; cases e
    obtain ⟨v', p, r'⟩ := a.vars y d' e
    refine ⟨v', ?_, r'.move mv⟩
    rcases p with ⟨hl, m2, hn2, hm2⟩ | ⟨c, hl, hc, hv⟩
    · obtain ⟨o, es, ep, ho, hd, hk, hf⟩ := hn
      obtain ⟨o2, es2, ep2, ho2, hd2, hk2, hf2⟩ := hn2
      rw [ho] at ho2
      cases ho2
      rw [hd] at hd2
      cases hd2
      refine .inl ⟨hl, _, hn', ?_⟩
      simp only [if_neg hne]
      rw [← hf, hf2]
      exact hm2
    · exact .inr ⟨c, hl, hc, hv.sameBut hs' (Nat.ne_of_gt (O.above y c (mem_of_lookup hc)))⟩

/-- fspath of a text -/
theorem body_fspath {x : Str} {p1 p2 p3 p4 p5 p6 p7 p8 p9 pa pb pc pd pe : Pos} {k : Nat} {rest : List Stmt} (hf1 : nsIn X.K mainGlobals "type" = some none) (hf2 : nsIn X.K mainGlobals "issubclass" = some none) (hf3 : nsIn X.K mainGlobals "str" = some none) (hf4 : nsIn X.K mainGlobals "bytes" = some none)
    (h1 : Γ.env.kindOf "type" = some .globalImplicit) (h2 : Γ.env.kindOf "issubclass" = some .globalImplicit) (h3 : Γ.env.kindOf "str" = some .globalImplicit) (h4 : Γ.env.kindOf "bytes" = some .globalImplicit) (h5 : Γ.env.kindOf "kind" = some .local)
    (hsw : swapsWith (.Call (.Name "type" p3) [.Name "path" p4] [] p2) (some (.Name "kind" p1)) p5.line Γ.env = pure false) :
    Body X Γ h₀ [("path", .str x)] (.Assign [.Name "kind" p1] (.Call (.Name "type" p3) [.Name "path" p4] [] p2) p5 ::
      .If (.Call (.Name "issubclass" p6) [.Name "kind" p7, .Tuple [.Name "str" p8, .Name "bytes" p9] k pa] [] pb) [.Return (some (.Name "path" pc)) pd] [] pe :: rest) (.str x) := fun O s Q E a b => by
  have g := good_of O a
  have hp : Sees X Γ [("path", .str x)] (.Name "path" p4) (.str x) := sees_name rfl (by decide)
  refine wpAny_execs_cons (wpAny_Assign_Name (Call_Name rfl (eval_builtin g h1 (by decide) hf1 (v := .type "type") (by decide +kernel) (by decide) ?_)) hsw)
  refine PyProof.Rows.callWith_type1 (sees_cons hp sees_nil (fun _ => rfl) p2 s _ E g fun vs h' tk kk r => ?_) rfl
  obtain ⟨_, rfl, r1⟩ := r.one
  obtain ⟨t, rfl⟩ := r1.str_inv
  refine call_type_of (typeIs_str _ x t) (by decide) ?_
  refine store_any (s := { s with heap := h', toks := tk }) O (a.keeps kk) h5 rfl fun h₂ tk₂ k₂ a₂ hat => ?_
  have g₂ := good_of O a₂
  refine wpAny_execs_cons (wpAny_If (isTrue_plain (Call_Name rfl (eval_builtin (s := { s with heap := h₂, toks := tk₂ }) g₂ h2 (by decide) hf2 (v := .builtin "issubclass") (by decide +kernel) (by decide) ?_)) rfl))
  refine PyProof.Rows.callWith_builtin1 (wpAny_items_cons (wpAny_Name ?_ (by decide)) rfl) rfl rfl
  rcases hat with ⟨hl, m, hn, hm⟩ | ⟨c, hl, _⟩
  rotate_left
  · rw [h5] at hl; cases hl
  refine wpAny_loadName_local g₂.fit.fn hl hn hm ?_
  refine wpAny_items_cons (Tuple_ (wpAny_items_cons (eval_builtin (s := { s with heap := h₂, toks := tk₂ }) g₂ h3 (by decide) hf3 (v := .type "str") (by decide +kernel) (by decide) ?_) rfl)) rfl
  refine wpAny_items_cons (eval_builtin (s := { s with heap := h₂, toks := tk₂ }) g₂ h4 (by decide) hf4 (v := .type "bytes") (by decide +kernel) (by decide) ?_) rfl
  refine wpAny_items_nil (wpAny_newTuple ?_ (by rw [sizeLine_eq]; exact Nat.le_of_ble_eq_true rfl))
  refine wpAny_items_nil ?_
  refine call_issubclass_str (cs := [.type "bytes"]) (Heap.get?_push_size _ rfl) fun k => ?_
  refine wpAny_truthy_bool ?_
  simp only [if_true]
  have hp2 : Sees X Γ [("path", .str x)] (.Name "path" pc) (.str x) := sees_name rfl (by decide)
  refine wpAny_execs_cons (wpAny_Return_some (hp2 _ _ E (g₂.keeps (stays_push _ _)) fun v h₃ tk₃ k₃ r => ?_))
  exact b v h₃ tk₃ (kept_trans (kept_of kk) (kept_trans k₂ (kept_of (stays_trans (stays_push _ _) k₃)))) r

theorem tests_isbytes {e : Expr} {x : Str} {p1 p2 pos : Pos} (hf1 : nsIn X.K mainGlobals "isinstance" = some none) (hf4 : nsIn X.K mainGlobals "bytes" = some none)
    (h1 : Γ.env.kindOf "isinstance" = some .globalImplicit) (h4 : Γ.env.kindOf "bytes" = some .globalImplicit) (h : Sees X Γ ρ e (.str x)) (he : ∀ env, starEach [e, .Name "bytes" p2] env = (false, eval e env) :: starEach [.Name "bytes" p2] env) :
    Tests X Γ ρ (.Call (.Name "isinstance" p1) [e, .Name "bytes" p2] [] pos) false := fun s Q E g b => by
  refine isTrue_plain (Call_Name rfl (eval_builtin g h1 (by decide) hf1 (v := .builtin "isinstance") (by decide +kernel) (by decide) ?_)) rfl
  refine PyProof.Rows.callWith_builtin1 (wpAny_items_cons (h s _ E g fun v h' tk k r => ?_) (he _)) (he _) rfl
  refine wpAny_items_cons (eval_builtin (s := { s with heap := h', toks := tk }) (g.keeps k) h4 (by decide) hf4 (v := .type "bytes") (by decide +kernel) (by decide) ?_) rfl
  refine wpAny_items_nil ?_
  obtain ⟨t, rfl⟩ := r.str_inv
  refine IsiPair.str_bytes ?_
  exact wpAny_truthy_bool (b h' _ k)
theorem body_if_else {t : Expr} {bd el : List Stmt} {pos : Pos} {rest : List Stmt} {d : PyData} (ht : Tests X Γ ρ t false) (h1 : Body X Γ h₀ ρ el d) : Body X Γ h₀ ρ (.If t bd el pos :: rest) d := fun O s Q E a bk => by
  refine wpAny_execs_cons (wpAny_If (ht s _ E (good_of O a) fun h' tk k => ?_))
  simp only [Bool.false_eq_true, if_false]
  exact h1 O _ _ E (a.keeps k) fun v h'' tk'' k' r => bk v h'' tk'' (kept_trans (kept_of k) k') r

theorem goes_pair {x y : Str} {e : Expr} {p p' tp pos : Pos} {k : Nat} {d1 d2 : PyData} (h : Sees X Γ ρ e (.tuple [d1, d2])) (hx : Γ.env.kindOf x = some .local) (hy : Γ.env.kindOf y = some .local)
    (hs : swapsWithSole [.Tuple [.Name x p, .Name y p'] k tp] e pos.line Γ.env = pure false) (hw : swappedStores [.Tuple [.Name x p, .Name y p'] k tp] e Γ.env = pure (some [x, y])) :
    Goes X Γ h₀ ρ [.Assign [.Tuple [.Name x p, .Name y p'] k tp] e pos] .next ((x, d1) :: (y, d2) :: ρ) := fun O s Q E a b => by
  refine wpAny_execs_cons (Assign_Tuple_swapped (h s _ E (good_of O a) fun v h' tk kk r => ?_) hs hw)
  obtain ⟨t, items, rfl, hl, rl⟩ := r.tuple_inv
  obtain ⟨v1, l', hi, r1, r'⟩ := rl.cons_inv
  obtain ⟨v2, rfl, r2⟩ := r'.one
  rw [show [x, y].length = items.size from (congrArg List.length hi).symm]
  refine wpAny_unpackItems_tuple (s := { s with heap := h', toks := tk }) O.fit.handled hl fun h₁ hx₁ => ?_
  rw [hi]
  have k₁ : h'.StaysIn h₁ := fun b o e => hx₁ b o (Nat.ne_of_lt (Heap.lt_size e)) e
  show wpAny X.M Γ.A (assignInOrder [bindName Γ.env y, bindName Γ.env x] [v2, v1]) _ E _
  refine wpAny_assignInOrder_more (wpAny_bindName (store (s := { s with heap := h₁, toks := tk }) O ((a.keeps kk).keeps k₁) (r2.keeps k₁) (.inl hy) fun h₂ tk₂ k₂ a₂ mv₂ => ?_))
  refine wpAny_assignInOrder_more (wpAny_bindName (store (s := { s with heap := h₂, toks := tk₂ }) O a₂ (mv₂ _ _ (r1.keeps k₁)) (.inl hx) fun h₃ tk₃ k₃ a₃ mv₃ => ?_))
  refine wpAny_assignInOrder_none (wpAny_execs_nil ?_)
  exact b h₃ tk₃ (kept_trans (kept_of (stays_trans kk k₁)) (kept_trans k₂ k₃)) a₃

theorem tests_and2 {x y : Expr} {pos : Pos} {b1 b2 : Bool} (h1 : Tests X Γ ρ x b1) (h2 : b1 = true → Tests X Γ ρ y b2) : Tests X Γ ρ (.BoolOp .And [x, y] pos) (b1 && b2) := fun s Q E g bk => by
  refine wpAny_isTrue_BoolOp (wpAny_allTrue_And_cons (h1 s _ E g fun h' tk k => ?_))
  cases b1 with
  | false => simpa using bk h' tk k
  | true =>
    simp only [if_true]
    refine wpAny_allTrue_And_cons (h2 rfl _ _ E (g.keeps k) fun h'' tk'' k'' => ?_)
    have q := bk h'' tk'' (stays_trans k k'')
    cases b2 with
    | false => simpa using q
    | true => simp only [if_true]; exact wpAny_allTrue_And_nil q
theorem tests_and3 {x y z : Expr} {pos : Pos} {b1 b2 b3 : Bool} (h1 : Tests X Γ ρ x b1) (h2 : Tests X Γ ρ y b2) (h3 : Tests X Γ ρ z b3) : Tests X Γ ρ (.BoolOp .And [x, y, z] pos) (b1 && b2 && b3) := fun s Q E g bk => by
  refine wpAny_isTrue_BoolOp (wpAny_allTrue_And_cons (h1 s _ E g fun h' tk k => ?_))
  cases b1 with
  | false => simpa using bk h' tk k
  | true =>
    simp only [if_true]
    refine wpAny_allTrue_And_cons (h2 _ _ E (g.keeps k) fun h'' tk'' k'' => ?_)
    cases b2 with
    | false => simpa using bk h'' tk'' (stays_trans k k'')
    | true =>
      simp only [if_true]
      refine wpAny_allTrue_And_cons (h3 _ _ E (g.keeps (stays_trans k k'')) fun h3' tk3 k3 => ?_)
      have q := bk h3' tk3 (stays_trans (stays_trans k k'') k3)
      cases b3 with
      | false => simpa using q
      | true => simp only [if_true]; exact wpAny_allTrue_And_nil q
theorem tests_or2 {x y : Expr} {pos : Pos} {b1 b2 : Bool} (h1 : Tests X Γ ρ x b1) (h2 : b1 = false → Tests X Γ ρ y b2) : Tests X Γ ρ (.BoolOp .Or [x, y] pos) (b1 || b2) := fun s Q E g bk => by
  refine wpAny_isTrue_BoolOp (wpAny_allTrue_Or_cons (h1 s _ E g fun h' tk k => ?_))
  cases b1 with
  | true => simpa using bk h' tk k
  | false =>
    simp only [Bool.false_eq_true, if_false]
    refine wpAny_allTrue_Or_cons (h2 rfl _ _ E (g.keeps k) fun h'' tk'' k'' => ?_)
    have q := bk h'' tk'' (stays_trans k k'')
    cases b2 with
    | true => simpa using q
    | false => simp only [Bool.false_eq_true, if_false]; exact wpAny_allTrue_Or_nil q

noncomputable def Sub (ρ' ρ : Vars) : Prop := ∀ y d, ρ'.lookup y = some d → ρ.lookup y = some d
theorem sub_nil : Sub [] ρ := fun y d e => by cases e
theorem sub_cons {x : Str} {d : PyData} {ρ' : Vars} (h : ρ.lookup x = some d) (hr : Sub ρ' ρ) : Sub ((x, d) :: ρ') ρ := fun y d' e => by
  rw [List.lookup_cons] at e
  cases hy : y == x with
  | true => rw [hy] at e; cases e; have : y = x := beq_iff_eq.mp hy; subst this; exact h
  | false => rw [hy] at e; exact hr y d' e
theorem goes_weaken {ss : List Stmt} {fl : Flow} {ρ' ρ'' : Vars} (h : Goes X Γ h₀ ρ ss fl ρ') (hs : Sub ρ'' ρ') : Goes X Γ h₀ ρ ss fl ρ'' := fun O s Q E a b =>
  h O s Q E a fun h' tk k a' => b h' tk k ⟨a'.keep, a'.ns, a'.cell, fun y d e => a'.vars y d (hs y d e)⟩
theorem body_weaken {ss : List Stmt} {d : PyData} {ρ' : Vars} (h : Body X Γ h₀ ρ' ss d) (hs : Sub ρ' ρ) : Body X Γ h₀ ρ ss d := fun O s Q E a b =>
  h O s Q E ⟨a.keep, a.ns, a.cell, fun y d e => a.vars y d (hs y d e)⟩ b

/-! the rules with what they ask last -/
theorem sees_add_str {l r : Expr} {pos : Pos} {a b : Str} (h1 : Sees X Γ ρ l (.str a)) (h2 : Sees X Γ ρ r (.str b)) (hz : a.length + b.length ≤ sizeLine) : Sees X Γ ρ (.BinOp l .Add r pos) (.str (a ++ b)) := sees_bin (bin_add_str hz) h1 h2
theorem sees_add_list {l r : Expr} {pos : Pos} {a b : List PyData} (h1 : Sees X Γ ρ l (.list a)) (h2 : Sees X Γ ρ r (.list b)) (hz : a.length + b.length ≤ sizeLine) : Sees X Γ ρ (.BinOp l .Add r pos) (.list (a ++ b)) := sees_bin (bin_add_list hz) h1 h2
theorem sees_add_int {l r : Expr} {pos : Pos} {a b : Int} (h1 : Sees X Γ ρ l (.int a)) (h2 : Sees X Γ ρ r (.int b)) : Sees X Γ ρ (.BinOp l .Add r pos) (.int (a + b)) := sees_bin bin_add_int h1 h2
theorem sees_sub_int {l r : Expr} {pos : Pos} {a b : Int} (h1 : Sees X Γ ρ l (.int a)) (h2 : Sees X Γ ρ r (.int b)) : Sees X Γ ρ (.BinOp l .Sub r pos) (.int (a - b)) := sees_bin bin_sub_int h1 h2
theorem sees_div_int {l r : Expr} {pos : Pos} {a b : Int} (h1 : Sees X Γ ρ l (.int a)) (h2 : Sees X Γ ρ r (.int b)) (h0 : b ≠ 0) (hb : b.natAbs < 2 ^ 30) : Sees X Γ ρ (.BinOp l .FloorDiv r pos) (.int (a.fdiv b)) := sees_bin (bin_div_int h0 hb) h1 h2
theorem sees_mod_int {l r : Expr} {pos : Pos} {a b : Int} (h1 : Sees X Γ ρ l (.int a)) (h2 : Sees X Γ ρ r (.int b)) (h0 : b ≠ 0) : Sees X Γ ρ (.BinOp l .Mod r pos) (.int (a.fmod b)) := sees_bin (bin_mod_int h0) h1 h2
theorem tests_is {e : Expr} {b c : Bool} (h : Tests X Γ ρ e b) (hc : b = c) : Tests X Γ ρ e c := hc ▸ h
theorem sees_is {e : Expr} {b c : PyData} (h : Sees X Γ ρ e b) (hc : b = c) : Sees X Γ ρ e c := hc ▸ h
theorem sees_len_list {p pos : Pos} {e : Expr} {ds : List PyData} (h : Sees X Γ ρ e (.list ds)) (hz : ds.length ≤ sizeLine) (hk : Γ.env.kindOf "len" = some .globalImplicit) (hf : nsIn X.K mainGlobals "len" = some none) (he : ∀ env, starEach [e] env = [(false, eval e env)]) :
    Sees X Γ ρ (.Call (.Name "len" p) [e] [] pos) (.int ds.length) := sees_blt hk (by decide) hf (by decide +kernel) (by decide) (blt_len_list hz) (sees_cons h sees_nil fun env => he env) (fun env => he env) (fun _ _ => rfl)
theorem sees_len_str {p pos : Pos} {e : Expr} {x : Str} (h : Sees X Γ ρ e (.str x)) (hz : x.length ≤ sizeLine) (hk : Γ.env.kindOf "len" = some .globalImplicit) (hf : nsIn X.K mainGlobals "len" = some none) (he : ∀ env, starEach [e] env = [(false, eval e env)]) :
    Sees X Γ ρ (.Call (.Name "len" p) [e] [] pos) (.int x.length) := sees_blt hk (by decide) hf (by decide +kernel) (by decide) (blt_len_str hz) (sees_cons h sees_nil fun env => he env) (fun env => he env) (fun _ _ => rfl)
/-- a def of one argument, of two, of three -/
theorem sees_call1 {x : Str} {p pos : Pos} {e : Expr} {d1 d : PyData} {f : Value} {n : Nat} (h : Sees X Γ ρ e d1) (F : Fn X n f [d1] d) (hn : n ≤ Γ.room) (hk : Γ.env.kindOf x = some .globalImplicit) (hd : (x == ("__debug__" : Str)) = false)
    (hf : nsIn X.K mainGlobals x = some (some f)) (hkp : keepIn X.K f = true) (he : ∀ env, starEach [e] env = [(false, eval e env)]) : Sees X Γ ρ (.Call (.Name x p) [e] [] pos) d :=
  sees_call hk hd hf hkp hn F (sees_cons h sees_nil fun env => he env) (fun env => he env) (fun _ _ => rfl)

/-- one turn of a while -/
noncomputable def WTurn (M : Model) (A : Around) (test : Expr) (body orelse : List Stmt) (env : Env) (R : Result → Shared → Prop) (I : Nat → Shared → Prop) (n : Nat) (s : Shared) : Prop :=
  wpAny M A (PySem.isTrue test env (eval test env)) (fun b s₂ => if b = true then wpAny M A (execs body env) (fun f s₃ => match f with
        | .next | .cont => ∃ m, m < n ∧ I m s₃
        | .brk => R (.ok .next) s₃
        | .ret v => R (.ok (.ret v)) s₃) (notedBy M A env fun e s' => R (.error e) s') s₂
      else wpAny M A (execs orelse env) (fun f s₃ => R (.ok f) s₃) (notedBy M A env fun e s' => R (.error e) s') s₂) (notedBy M A env fun e s' => R (.error e) s') s
theorem while_own {test : Expr} {body orelse : List Stmt} {env : Env} {A : Around} {R : Result → Shared → Prop} {s : Shared} (I : Nat → Shared → Prop) (turn : ∀ n s, I n s → WTurn X.M A test body orelse env R I n s) (n : Nat) (h : I n s) :
    codeAny X.M A (.whileLoop test body orelse env) R s := by
  refine codeAny_whileLoop I (fun n s hI => ?_) n h
  refine wpAny_mono (turn n s hI) (fun b s₂ hb => ?_) fun _ _ x => x
  refine ite_prop (fun e => ?_) (fun e => ?_)
  · rw [if_pos e] at hb
    exact wpAny_mono hb (fun f _ hf => by cases f <;> exact hf) fun _ _ x => x
  · rw [e] at hb; exact hb
theorem Act.sub {ρ' : Vars} {h : Heap} (x : Act X Γ h₀ ρ h) (hs : Sub ρ' ρ) : Act X Γ h₀ ρ' h := ⟨x.keep, x.ns, x.cell, fun y d e => x.vars y d (hs y d e)⟩
noncomputable abbrev WInv {σ : Type} (X : Cx) (Γ : Fx) (h₀ : Heap) (s : Shared) (V : σ → Vars) (meas : σ → Nat) (P : σ → Prop) (n : Nat) (s' : Shared) : Prop := ∃ st H tk, s' = { s with heap := H, toks := tk } ∧ P st ∧ n = meas st ∧ Act X Γ h₀ (V st) H ∧ Kept Γ s.heap H
theorem goes_while {σ : Type} {t : Expr} {body : List Stmt} {pos : Pos} (V : σ → Vars) (meas : σ → Nat) (ρE : Vars) (P : σ → Prop) {a₀ : σ} (hP : P a₀)
    (hturn : ∀ a, P a → ∃ b, Tests X Γ (V a) t b ∧ (b = false → Sub ρE (V a)) ∧ (b = true → (∃ a' ρ', P a' ∧ meas a' < meas a ∧ Goes X Γ h₀ (V a) body .next ρ' ∧ Sub (V a') ρ') ∨ (∃ ρ', Goes X Γ h₀ (V a) body .brk ρ' ∧ Sub ρE ρ'))) :
    Goes X Γ h₀ (V a₀) [.While t body [] pos] .next ρE := fun O s Q E a bk => by
  refine wpAny_execs_cons (wpAny_While ?_)
  refine while_own (WInv X Γ h₀ s V meas P) ?_ (meas a₀) ⟨a₀, s.heap, s.toks, rfl, hP, rfl, a, kept_of (stays_refl _)⟩
  rintro n s' ⟨st, H, tk, rfl, hp, rfl, act, kept⟩
  obtain ⟨b, ht, hf, htr⟩ := hturn st hp
  refine ht _ _ _ (good_of O act) fun h₁ tk₁ k₁ => ?_
  have act₁ := act.keeps k₁
  have kept₁ := kept_trans kept (kept_of k₁)
  refine ite_prop (fun hb => (htr hb).elim (fun ⟨a', ρ', hp', hm, hg, hs⟩ => ?_) fun ⟨ρ', hg, hs⟩ => ?_) fun hb => wpAny_execs_nil (wpAny_execs_nil (bk h₁ tk₁ kept₁ (act₁.sub (hf hb))))
  · exact hg O _ _ _ act₁ fun h₂ tk₂ k₂ a₂ => ⟨meas a', hm, a', h₂, tk₂, rfl, hp', rfl, a₂.sub hs, kept_trans kept₁ k₂⟩
  · exact hg O _ _ _ act₁ fun h₂ tk₂ k₂ a₂ => wpAny_execs_nil (bk h₂ tk₂ (kept_trans kept₁ k₂) (a₂.sub hs))

/-- a try whose body does not raise -/
theorem goes_try {body : List Stmt} {hd : ExceptHandler} {hs : List ExceptHandler} {pos : Pos} {ρ' : Vars} (h : Goes X Γ h₀ ρ body .next ρ') : Goes X Γ h₀ ρ [.Try body (hd :: hs) [] [] pos] .next ρ' := fun O s Q E a b => by
  refine wpAny_execs_cons (wpAny_Try_except (h O s _ _ a fun h' tk k a' => ?_))
  exact wpAny_execs_nil (wpAny_execs_nil (b h' tk k a'))
end
end Mine
end

noncomputable section
open PySem PySem.W PyProof.Rows Builtin.Str
set_option maxRecDepth 100000
namespace Mine

/-! a list that an activation has made and changes -/
noncomputable def KeptA (Γ : Fx) (a : Addr) (h h' : Heap) : Prop := ∀ b o, b ≠ Γ.env.locals → (∀ n, (n, b) ∉ Γ.env.cells) → b ≠ a → h.get? b = some o → h'.get? b = some o
theorem keptA_of {Γ : Fx} {a : Addr} {h h' : Heap} (k : h.StaysIn h') : KeptA Γ a h h' := fun b o _ _ _ e => k b o e
theorem keptA_trans {Γ : Fx} {a : Addr} {x y z : Heap} (p : KeptA Γ a x y) (q : KeptA Γ a y z) : KeptA Γ a x z := fun b o h1 h2 h3 e => q b o h1 h2 h3 (p b o h1 h2 h3 e)

structure ActA (X : Cx) (Γ : Fx) (h₀ : Heap) (x : Str) (a : Addr) (ρ : Vars) (ds : List PyData) (h : Heap) : Prop where
  keep : h₀.StaysIn h
  fresh : h₀.get? a = none
  ns : ∃ m, h.Ns Γ.env.locals m
  cell : ∀ n c, (n, c) ∈ Γ.env.cells → ∃ v, h.IsCell c v
  own : At Γ.env h x (.ref a)
  items : ∃ its, h.PlainList a its ∧ RdL h its.toList ds
  flat : noLists ds = true
  vars : ∀ y d, ρ.lookup y = some d → y ≠ x ∧ ∃ v, At Γ.env h y v ∧ Rd (hideAll h [a]) v d

section
variable {X : Cx} {Γ : Fx} {h₀ : Heap} {ρ : Vars} {x : Str} {a : Addr} {ds : List PyData}

theorem ActA.act {h : Heap} (A : ActA X Γ h₀ x a ρ ds h) : Act X Γ h₀ ((x, .list ds) :: ρ) h := by
  refine ⟨A.keep, A.ns, A.cell, fun y d e => ?_⟩
  rw [List.lookup_cons] at e
  cases hy : y == x with
  | true =>
    rw [hy] at e; cases e
    have : y = x := beq_iff_eq.mp hy
    subst this
    obtain ⟨its, hp, r⟩ := A.items
    exact ⟨_, A.own, Rd.of_list hp.isList r⟩
  | false =>
    rw [hy] at e
    obtain ⟨_, v, p, q⟩ := A.vars y d e
    exact ⟨v, p, rd_unhide q⟩
theorem ActA.keeps {h h' : Heap} (A : ActA X Γ h₀ x a ρ ds h) (k : h.StaysIn h') : ActA X Γ h₀ x a ρ ds h' :=
  ⟨stays_trans A.keep k, A.fresh, let ⟨m, n⟩ := A.ns; ⟨m, n.keeps k⟩, fun n c e => let ⟨v, q⟩ := A.cell n c e; ⟨v, q.keeps k⟩, A.own.keeps k, let ⟨its, p, r⟩ := A.items; ⟨its, p.at fun o e => k _ o e, r.keeps k⟩, A.flat,
    fun y d e => let ⟨ne, v, p, q⟩ := A.vars y d e; ⟨ne, v, p.keeps k, q.move (hide_seqs fun b o _ _ _ e _ => k b o e)⟩⟩

/-- the list changes -/
theorem ActA.change {h h' : Heap} {its its' : Array Value} {ds' : List PyData} (A : ActA X Γ h₀ x a ρ ds h) (hs : Heap.SameBut a h h') (hp : h.PlainList a its) (hp' : h'.PlainList a its') (r : RdL h its'.toList ds') (hf : noLists ds' = true) : ActA X Γ h₀ x a ρ ds' h' := by
  obtain ⟨n0, e0⟩ := hp
  have hL : Γ.env.locals ≠ a := fun q => by obtain ⟨m, o, es, ep, ho, hd, _⟩ := A.ns; rw [q, e0] at ho; cases ho; cases hd
  have hc : ∀ n c, (n, c) ∈ Γ.env.cells → c ≠ a := fun n c hm q => by obtain ⟨v, o, ho, hd⟩ := A.cell n c hm; rw [q, e0] at ho; cases ho; cases hd
  have sh : Shy h [a] := fun b hb => (List.mem_singleton.mp hb).symm ▸ ⟨_, e0, fun _ _ _ => rfl⟩
  have mvL : RdL h' its'.toList ds' := (r.hide sh hf).move fun b o vs n e q => by
    have hb : b ≠ a := fun hq => by subst hq; rw [hideAll_none [b] (List.mem_singleton_self b)] at e; cases e
    exact (hs.2 b hb).trans (of_hideAll _ e)
  have at' : ∀ {y v}, At Γ.env h y v → At Γ.env h' y v := fun p => by
    rcases p with ⟨hl, m, hn, hm⟩ | ⟨c, hl, hcc, hv⟩
    · exact .inl ⟨hl, m, hn.sameBut hs hL, hm⟩
    · exact .inr ⟨c, hl, hcc, hv.sameBut hs (hc _ c (mem_of_lookup hcc))⟩
  refine ⟨fun b o e => (hs.2 b fun q => by rw [q, A.fresh] at e; cases e).trans (A.keep b o e), A.fresh, let ⟨m, n⟩ := A.ns; ⟨m, n.sameBut hs hL⟩, fun n c e => let ⟨v, q⟩ := A.cell n c e; ⟨v, q.sameBut hs (hc n c e)⟩, at' A.own, ⟨its', hp', mvL⟩, hf, fun y d e => ?_⟩
  obtain ⟨ne, v, p, q⟩ := A.vars y d e
  exact ⟨ne, v, at' p, q.move (hide_seqs fun b o vs n hb e _ => (hs.2 b fun hq => hb (by rw [hq]; exact List.mem_singleton_self a)).trans e)⟩

noncomputable def GoesA (X : Cx) (Γ : Fx) (h₀ : Heap) (x : Str) (a : Addr) (ρ : Vars) (ds : List PyData) (ss : List Stmt) (ρ' : Vars) (ds' : List PyData) : Prop :=
  Own X Γ h₀ → ∀ (s : Shared) (Q : Flow → Shared → Prop) (E : Value → Shared → Prop), ActA X Γ h₀ x a ρ ds s.heap →
    (∀ h' tk, KeptA Γ a s.heap h' → ActA X Γ h₀ x a ρ' ds' h' → Q .next { s with heap := h', toks := tk }) → wpAny X.M Γ.A (execs ss Γ.env) Q E s
theorem goesA_nil : GoesA X Γ h₀ x a ρ ds [] ρ ds := fun O s Q E A b => wpAny_execs_nil (b s.heap s.toks (keptA_of (stays_refl _)) A)
theorem goesA_cons {st : Stmt} {rest : List Stmt} {ρ₁ ρ₂ : Vars} {ds₁ ds₂ : List PyData} (h1 : GoesA X Γ h₀ x a ρ ds [st] ρ₁ ds₁) (h2 : GoesA X Γ h₀ x a ρ₁ ds₁ rest ρ₂ ds₂) : GoesA X Γ h₀ x a ρ ds (st :: rest) ρ₂ ds₂ := fun O s Q E A b => by
  refine wpAny_execs_cons (exec_one (h1 O s _ E A fun h' tk k A' => ?_))
  exact h2 O _ Q E A' fun h'' tk'' k' A'' => b h'' tk'' (keptA_trans k k') A''
theorem goesA_if {t : Expr} {bd el : List Stmt} {pos : Pos} {b : Bool} {ρ' : Vars} {ds' : List PyData} (ht : Tests X Γ ((x, .list ds) :: ρ) t b) (h1 : b = true → GoesA X Γ h₀ x a ρ ds bd ρ' ds') (h2 : b = false → GoesA X Γ h₀ x a ρ ds el ρ' ds') : GoesA X Γ h₀ x a ρ ds [.If t bd el pos] ρ' ds' := fun O s Q E A bk => by
  refine wpAny_execs_cons (wpAny_If (ht s _ E (good_of O A.act) fun h' tk k => ?_))
  exact ite_prop (fun hb => h1 hb O _ _ E (A.keeps k) fun h'' tk'' k' A'' => wpAny_execs_nil (bk h'' tk'' (keptA_trans (keptA_of k) k') A'')) fun hb => h2 hb O _ _ E (A.keeps k) fun h'' tk'' k' A'' => wpAny_execs_nil (bk h'' tk'' (keptA_trans (keptA_of k) k') A'')

theorem loadA {A' : Around} {p : Pos} {s : Shared} {Q E : Value → Shared → Prop} (O : Own X Γ h₀) (A : ActA X Γ h₀ x a ρ ds s.heap) (hd : (x == ("__debug__" : Str)) = false) (h : Q (.ref a) s) : wpAny X.M A' (eval (.Name x p) Γ.env) Q E s := by
  refine wpAny_Name ?_ hd
  rcases A.own with ⟨hl, m, hn, hm⟩ | ⟨c, hl, hc, hv⟩
  · exact wpAny_loadName_local O.fit.fn hl hn hm h
  · exact wpAny_loadName_cell O.fit.fn hl hc hv h

theorem keptA_same {h h' : Heap} (hs : Heap.SameBut a h h') : KeptA Γ a h h' := fun b o _ _ h3 e => (hs.2 b h3).trans e

/-- x.append(e) -/
theorem goesA_append {e : Expr} {p ap pos sp : Pos} {d : PyData} (h : Sees X Γ ((x, .list ds) :: ρ) e d) (hn : noList d = true) (hz : ds.length ≤ 100000) (hd : (x == ("__debug__" : Str)) = false)
    (hbase : ∀ env, attributeBase (.Name x p) "append" env (eval (.Name x p) env) = eval (.Name x p) env) (hs : ∀ env, starEach [e] env = [(false, eval e env)]) (hline : (ap.endLine == pos.line) = true)
    (hi : interactive Γ.env = false) (hsw : swapsWith (.Call (.Attribute (.Name x p) "append" ap) [e] [] pos) none sp.line Γ.env = pure false) :
    GoesA X Γ h₀ x a ρ ds [.Expr (.Call (.Attribute (.Name x p) "append" ap) [e] [] pos) sp] ρ (ds ++ [d]) := fun O s Q E A b => by
  refine wpAny_execs_cons (wpAny_Expr (wpAny_Call_append (hbase _) ?_ hline ?_ (loadA O A hd ?_)) hi hsw)
  · rw [hs]; rfl
  · rw [hs]; rfl
  obtain ⟨its, ⟨n, e0⟩, r⟩ := A.items
  refine ⟨a, its, rfl, ⟨_, n, e0, rfl, rfl, rfl⟩, h s _ E (good_of O A.act) fun v h' tk k rv => ?_⟩
  have A' := A.keeps k
  have e1 := k _ _ e0
  have hsz : its.size ≤ sizeLine := by have := r.length; rw [Array.length_toList] at this; rw [this]; exact sz_k hz rfl
  refine wpAny_list_append_plain (s := { s with heap := h', toks := tk }) ⟨n, e1⟩ (fun h₂ hp₂ hs₂ => ?_) hsz
  refine wpAny_execs_nil (b h₂ tk (keptA_trans (keptA_of k) (keptA_same hs₂)) (A'.change hs₂ ⟨n, e1⟩ hp₂ ?_ ?_))
  · rw [Array.toList_push]
    exact RdL.append (.cons rv .nil) (r.keeps k)
  · have hf := A.flat
    have aux : ∀ l : List PyData, noLists l = true → noLists (l ++ [d]) = true := by
      intro l
      induction l with
      | nil => intro _; simp [noLists, hn]
      | cons c l ih => intro hl; simp only [noLists, Bool.and_eq_true, List.cons_append] at hl ⊢; exact ⟨hl.1, ih hl.2⟩
    exact aux ds hf

/-- an expression that makes a list -/
noncomputable def SeesNew (X : Cx) (Γ : Fx) (ρ : Vars) (e : Expr) (ds : List PyData) : Prop :=
  ∀ (s : Shared) (Q E : Value → Shared → Prop), Good X Γ ρ s.heap →
    (∀ b its h' tk, s.heap.StaysIn h' → s.heap.get? b = none → h'.PlainList b its → RdL h' its.toList ds → Q (.ref b) { s with heap := h', toks := tk }) → wpAny X.M Γ.A (eval e Γ.env) Q E s
theorem none_size {h h' : Heap} (k : h.StaysIn h') : h.get? h'.objs.size = none := by
  cases e : h.get? h'.objs.size with
  | none => rfl
  | some o => exact absurd (Heap.lt_size (k _ _ e)) (Nat.lt_irrefl _)
theorem new_nil {pos : Pos} : SeesNew X Γ ρ (.List [] pos) [] := fun s Q E g b => by
  refine List_ (wpAny_items_nil (wpAny_newList ?_ (Nat.zero_le _)))
  exact b _ #[] _ s.toks (stays_push _ _) (none_size (stays_refl _)) ⟨_, Heap.get?_push_size _ rfl⟩ .nil
theorem new_split {o e : Expr} {apos pos : Pos} {y z : Str} (hy : (z.length == 0) = false) (hz : y.length ≤ sizeLine) (hz2 : (partsBetween y (occurrences y z 0 y.length (y.length + 1)) z.length).length ≤ sizeLine) (h : Sees X Γ ρ o (.str y)) (h1 : Sees X Γ ρ e (.str z))
    (hbase : ∀ env, attributeBase o "split" env (eval o env) = eval o env) (hs : ∀ env, starEach [e] env = [(false, eval e env)]) (hline : (apos.endLine == pos.line) = true) :
    SeesNew X Γ ρ (.Call (.Attribute o "split" apos) [e] [] pos) (txts (Txt.split y z)) := fun s Q E g b => by
  refine eval_meth1 F.slot_str_split F.type_str_split (h s _ E g fun ov h₁ tk₁ k₁ r₁ => ?_) (hbase _) (hs _) hline
  obtain ⟨t, rfl⟩ := r₁.str_inv
  refine ⟨y, t, rfl, h1 _ _ E (g.keeps k₁) fun v h₂ tk₂ k₂ r₂ => ?_⟩
  obtain ⟨u, rfl⟩ := r₂.str_inv
  have kk := stays_trans k₁ k₂
  have fin : ∀ (l : List (Str × Tok)) tk, l.map (·.1) = Txt.split y z → Q (.ref h₂.objs.size) { s with heap := h₂.push { cls := .type "list", data := .seq (strValues l).toArray }, toks := tk } := fun l tk hl => by
    refine b _ _ _ tk (stays_trans kk (stays_push _ _)) (none_size kk) ⟨_, Heap.get?_push_size _ rfl⟩ ?_
    rw [← hl]
    simpa using RdL.of_strValues l
  cases c1 : (decide (y.length < z.length) || decide (strKind y < strKind z))
  · cases hf : (occurrences y z 0 y.length (y.length + 1)).isEmpty
    · refine call_meets F.slot_str_split (typeIs_str _ _ _) F.entry_str_split (F.args_str_split_2 _ _) (meets_str_split_sep y z t u c1 hy hf hz hz2) ?_
      show wants Q E _ { s with toks := _, heap := h₂.push { cls := .type "list", data := .seq (strsFrom tk₂ (partsBetween y (occurrences y z 0 y.length (y.length + 1)) z.length)).toArray } }
      rw [strsFrom_eq]
      exact fin (numbered tk₂ _) _ ((numbered_texts _ _).trans ((if_neg (ne_true_of_eq_false c1)).trans (if_neg (ne_true_of_eq_false hf))).symm)
    · exact call_meets F.slot_str_split (typeIs_str _ _ _) F.entry_str_split (F.args_str_split_2 _ _) (meets_str_split_not_found y z t u c1 hy hf)
        (fin [(y, t)] tk₂ ((if_neg (ne_true_of_eq_false c1)).trans (if_pos hf)).symm)
  · exact call_meets F.slot_str_split (typeIs_str _ _ _) F.entry_str_split (F.args_str_split_2 _ _) (meets_str_split_cannot_occur y z t u c1)
      (fin [(y, t)] tk₂ (if_pos c1).symm)

theorem noLists_txts : ∀ xs : List Str, noLists (txts xs) = true
  | [] => rfl
  | x :: xs => by have := noLists_txts xs; simp only [txts, List.map_cons, noLists, noList, Bool.true_and]; exact this
theorem noLists_append : ∀ {l l' : List PyData}, noLists l = true → noLists l' = true → noLists (l ++ l') = true
  | [], _, _, h => h
  | d :: l, l', h, h' => by simp only [noLists, Bool.and_eq_true, List.cons_append] at h ⊢; exact ⟨h.1, noLists_append h.2 h'⟩
theorem noLists_take : ∀ {l : List PyData} (n : Nat), noLists l = true → noLists (l.take n) = true
  | [], n, _ => by simp [noLists]
  | d :: l, 0, _ => rfl
  | d :: l, n + 1, h => by simp only [noLists, Bool.and_eq_true, List.take_succ_cons] at h ⊢; exact ⟨h.1, noLists_take n h.2⟩

/-- x.extend(e), e a list made -/
theorem goesA_extend {e : Expr} {p ap pos sp : Pos} {es : List PyData} (h : SeesNew X Γ ((x, .list ds) :: ρ) e es) (hn : noLists es = true) (hz : ds.length ≤ 100000) (hz2 : es.length ≤ 100000) (hd : (x == ("__debug__" : Str)) = false)
    (hbase : ∀ env, attributeBase (.Name x p) "extend" env (eval (.Name x p) env) = eval (.Name x p) env) (hs : ∀ env, starEach [e] env = [(false, eval e env)]) (hline : (ap.endLine == pos.line) = true)
    (hi : interactive Γ.env = false) (hsw : swapsWith (.Call (.Attribute (.Name x p) "extend" ap) [e] [] pos) none sp.line Γ.env = pure false) :
    GoesA X Γ h₀ x a ρ ds [.Expr (.Call (.Attribute (.Name x p) "extend" ap) [e] [] pos) sp] ρ (ds ++ es) := fun O s Q E A b => by
  refine wpAny_execs_cons (wpAny_Expr (Call_method1 (hbase _) (hs _) hline (loadA O A hd ?_)) hi hsw)
  obtain ⟨its, ⟨n, e0⟩, r⟩ := A.items
  refine ⟨"list", _, F.plainAttrs_list, F.slot_list_extend, F.type_list_extend, ⟨_, e0, rfl⟩, (fun c hc => by cases hc; exact ⟨_, e0, rfl⟩), ?_⟩
  refine Calls.callWith_builtin rfl (Calls.evalArgs_plain (Calls.spliced_cons (h s _ E (good_of O A.act) fun c its2 h' tk k hc ⟨n2, e2⟩ r2 => Calls.spliced_nil ?_)))
  have A' := A.keeps k
  have e1 := k _ _ e0
  have hsz : its.size + its2.size ≤ sizeLine := by
    have h1 := r.length
    have h2 := r2.length
    rw [Array.length_toList] at h1 h2
    rw [h1, h2]; exact sz_k (Nat.add_le_add hz hz2) rfl
  refine call_meets F.slot_list_extend ⟨_, e1, rfl⟩ F.entry_list_extend (F.args_list_extend_2 _ _) (AutoSeq1.list_extend_list_list_0 a its n c its2 n2 (extend_door hsz) (Nat.le_trans (Nat.le_add_right _ _) hsz) (Nat.le_succ_of_le hsz)) ⟨e1, e2, ?_⟩
  refine wpAny_execs_nil (b _ tk (keptA_trans (keptA_of k) (keptA_same (Heap.SameBut.update ..))) (A'.change (its' := its ++ its2) (Heap.SameBut.update ..) ⟨n, e1⟩ ⟨if (its ++ its2).size == its.size then n else n + 1, ?_⟩ ?_ (noLists_append A.flat hn)))
  · exact (Heap.get?_update_self _ e1 (by rw [mapSeq_app]; rfl)).trans (by rw [mapSeq_app])
  · rw [Array.toList_append]
    exact RdL.append r2 (r.keeps k)

/-- x.pop() -/
theorem goesA_pop {p ap pos sp : Pos} {z : Str} (hl : ds.getLast? = some (.str z)) (hz : ds.length ≤ 100000) (hd : (x == ("__debug__" : Str)) = false)
    (hbase : ∀ env, attributeBase (.Name x p) "pop" env (eval (.Name x p) env) = eval (.Name x p) env) (hline : (ap.endLine == pos.line) = true)
    (hi : interactive Γ.env = false) (hsw : swapsWith (.Call (.Attribute (.Name x p) "pop" ap) [] [] pos) none sp.line Γ.env = pure false) :
    GoesA X Γ h₀ x a ρ ds [.Expr (.Call (.Attribute (.Name x p) "pop" ap) [] [] pos) sp] ρ ds.dropLast := fun O s Q E A b => by
  refine wpAny_execs_cons (wpAny_Expr (Call_method0 (hbase _) hline (loadA O A hd ?_)) hi hsw)
  obtain ⟨its, ⟨n, e0⟩, r⟩ := A.items
  have h1 := r.length
  rw [Array.length_toList] at h1
  have hlast : ds[ds.length - 1]? = some (.str z) := by rw [← hl, List.getLast?_eq_getElem?]
  obtain ⟨v, hv, rv⟩ := r.get hlast
  obtain ⟨t, rfl⟩ := rv.str_inv
  rw [Array.getElem?_toList, ← h1] at hv
  refine ⟨"list", _, F.plainAttrs_list, F.slot_list_pop, F.type_list_pop, ⟨_, e0, rfl⟩, (fun c hc => by cases hc; exact ⟨_, e0, rfl⟩), ?_⟩
  refine Calls.callWith_builtin rfl (evalArgs_nil3 ?_)
  refine call_meets F.slot_list_pop ⟨_, e0, rfl⟩ F.entry_list_pop (F.args_list_pop_1 _) (MeetsSeq.list_pop_last a its n _ hv (by rw [h1]; exact sz_k hz rfl)) ⟨e0, ?_⟩
  have hpos : 0 < its.size := by
    cases hq : its.size with
    | zero => rw [hq] at h1; rw [← h1] at hlast; have : ds = [] := List.length_eq_zero_iff.mp h1.symm; subst this; simp at hlast
    | succ m => exact Nat.succ_pos _
  refine wpAny_execs_nil (b _ s.toks (keptA_same (Heap.SameBut.update ..)) (A.change (its' := its.eraseIdxIfInBounds (its.size - 1)) (Heap.SameBut.update ..) ⟨n, e0⟩ ⟨_, Heap.get?_update_self _ e0 rfl⟩ ?_ ?_))
  · have e : (its.eraseIdxIfInBounds (its.size - 1)).toList = its.toList.take (its.size - 1) := by
      obtain ⟨l, rfl⟩ : ∃ l : List Value, its = l.toArray := ⟨its.toList, by simp⟩
      rcases List.eq_nil_or_concat l with rfl | ⟨p', y', rfl⟩
      · simp at hpos
      · have e1 : (p' ++ [y']).toArray.size - 1 = p'.length := by simp
        rw [List.concat_eq_append, e1, kl_erase p' [] y']
        simp
    rw [e, List.dropLast_eq_take, ← h1]
    exact r.take _
  · rw [List.dropLast_eq_take]; exact noLists_take _ A.flat
end
end Mine
end

noncomputable section
open PySem PySem.W PyProof.Rows Builtin.Str
set_option maxRecDepth 100000
namespace Mine
section
variable {X : Cx} {Γ : Fx} {h₀ : Heap} {ρ : Vars} {x : Str} {a : Addr} {ds : List PyData}

/-- an iterable beside an owned list -/
noncomputable def SeesIterA (X : Cx) (Γ : Fx) (a : Addr) (ρ : Vars) (e tgt : Expr) (es : List PyData) : Prop :=
  ∀ (s : Shared) (Q E : Value → Shared → Prop), Good X Γ ρ s.heap → (∃ its, s.heap.PlainList a its) →
    (∀ base I fp wr St h' tk, s.heap.StaysIn base → base.StaysIn h' → ItOk X Γ.A (hideAll base [a]) I tgt fp wr es St → (∀ b ∈ fp, base.get? b = none) → St 0 h' → (∀ i h, St i h → NoSeq h wr) → Q (.ref I) { s with heap := h', toks := tk }) →
    wpAny X.M Γ.A (eval e Γ.env) (fun x s₁ => wpAny X.M Γ.A (pyIter x) Q E s₁) E s

theorem iterA_new {e tgt : Expr} {es : List PyData} (h : SeesNew X Γ ρ e es) (hn : noLists es = true) (ht : ∀ it v, letOwnedTupleGo tgt it v = pure ()) : SeesIterA X Γ a ρ e tgt es := fun s Q E g ⟨ia, na, ha⟩ b => by
  refine h s _ E g fun c its h' tk k hc hp r => ?_
  have hca : c ≠ a := fun q => by rw [q, ha] at hc; cases hc
  refine wpAny_pyIter_list hp.isList ?_
  have hN := none_size (stays_refl h')
  have hsub : (hideAll h' [a]).get? h'.objs.size = none := by
    cases q : (hideAll h' [a]).get? h'.objs.size with
    | none => rfl
    | some o => rw [of_hideAll _ q] at hN; cases hN
  obtain ⟨n, e0⟩ := id hp
  have hl' : (hideAll h' [a]).IsList c its := ⟨_, hideAll_get [a] e0 (by simpa using hca), rfl, n, rfl⟩
  have sh : Shy h' [a] := fun d hd => by simp at hd; subst hd; exact ⟨_, k _ _ ha, fun _ _ _ => rfl⟩
  refine b h' h'.objs.size _ _ _ _ tk k (stays_push _ _) (itOk_list g.fit.handled (hideAll h' [a]) h'.objs.size c its es tgt (.inl ht) hsub hl' (r.hide sh hn)) ?_ ⟨_, Heap.get?_push_size _ rfl, rfl, rfl⟩ ?_
  · intro d hd
    simp at hd
    rw [hd]; exact hN
  · rintro i hh ⟨o, ho, hc, hd⟩ c hc'
    simp at hc'
    subst hc'
    exact ⟨o, ho, fun vs n q => by rw [hd] at q; cases q⟩

theorem iterA_range {y tgt : Expr} {p pos : Pos} {n : Nat} (hk : Γ.env.kindOf "range" = some .globalImplicit) (hf : nsIn X.K mainGlobals "range" = some none) (h : Sees X Γ ρ y (.int n)) (hz : n ≤ sizeLine)
    (ht : ∀ it v, letOwnedTupleGo tgt it v = pure ()) (he : ∀ env, starEach [y] env = [(false, eval y env)]) :
    SeesIterA X Γ a ρ (.Call (.Name "range" p) [y] [] pos) tgt (rangeD 0 1 n) := fun s Q E g ⟨ia, na, ha⟩ b => by
  rw [sizeLine_eq] at hz
  refine Call_Name rfl (eval_builtin g hk (by decide) hf (v := .type "range") boot_range (by decide) ?_)
  refine PyProof.Rows.callWith_type1 (wpAny_items_cons (h s _ E g fun v h' tk k r => wpAny_items_nil ?_) (he _)) (he _)
  obtain ⟨t, rfl⟩ := r.int_inv
  refine call_range_1 ?_
  refine wpAny_pyIter_range (a := 0) (b := n) (c := 1) (Heap.get?_push_size _ rfl) (small_up n (le_k hz rfl)) ?_
  generalize hb : h'.push { cls := .type "range", data := .fields #[.int 0 tk, .int n t, .int 1 (tk + 1)] } = base
  have kb : s.heap.StaysIn base := hb ▸ stays_trans k (stays_push _ _)
  have hN := none_size (stays_refl base)
  refine b base base.objs.size _ _ _ _ _ kb (stays_push _ _) (itOk_walks (Walks.range (A := Γ.A) g.fit.handled base.objs.size 0 1 n) (by simp [rangeD]) ht ?_ ?_) ?_ ?_ ?_
  · intro c hc
    simp at hc
    subst hc
    cases q : (hideAll base [a]).get? base.objs.size with
    | none => rfl
    | some o => rw [of_hideAll _ q] at hN; cases hN
  · rintro i v d ⟨t, rfl⟩ hd h
    rw [rangeD_get hd]
    exact .int _ _
  · intro c hc
    simp at hc
    rw [hc]; exact hN
  · show IsRangeIter _ _ _ _ _
    rw [size_up]; simpa using Heap.get?_push_size _ rfl
  · rintro i h st c hc
    simp at hc
    subst hc
    have st' : IsRangeIter h base.objs.size _ _ _ := st
    exact ⟨_, st', fun vs n q => by cases q⟩

theorem shyA {h : Heap} (A : ActA X Γ h₀ x a ρ ds h) : Shy h [a] := fun d hd => by
  obtain ⟨its, ⟨n, e0⟩, _⟩ := A.items
  simp at hd; subst hd; exact ⟨_, e0, fun _ _ _ => rfl⟩
/-- a name is stored beside an owned list -/
theorem storeA {A' : Around} {y : Str} {v : Value} {d : PyData} {s : Shared} {Q : Unit → Shared → Prop} {E : Value → Shared → Prop} (O : Own X Γ h₀) (A : ActA X Γ h₀ x a ρ ds s.heap) (r : Rd s.heap v d) (hn : noList d = true)
    (hy : Γ.env.kindOf y = some .local) (hne : y ≠ x)
    (h : ∀ h' tk, KeptA Γ a s.heap h' → ActA X Γ h₀ x a ((y, d) :: ρ) ds h' → Q () { s with heap := h', toks := tk }) : wpAny X.M A' (storeName Γ.env y v) Q E s := by
  obtain ⟨m, hns⟩ := A.ns
  refine wpAny_storeName_local hy hns (fun h' hn' hs' => ?_) (by rw [O.fit.fn]; rfl)
  have kk : Kept Γ s.heap h' := fun b o h1 _ e => (hs'.2 b h1).trans e
  have mv := seqs_sameBut hns hs'
  have ats : ∀ {z u}, z ≠ y → At Γ.env s.heap z u → At Γ.env h' z u := fun hz p => by
    rcases p with ⟨hl, m2, hn2, hm2⟩ | ⟨c, hl, hc, hv⟩
    · exact .inl ⟨hl, _, hn', (if_neg hz).trans ((ns_agree hns hn2 _).trans hm2)⟩
    · exact .inr ⟨c, hl, hc, hv.sameBut hs' (Nat.ne_of_gt (O.above _ c (mem_of_lookup hc)))⟩
  obtain ⟨its, ⟨n0, e0⟩, ri⟩ := A.items
  have e0' : h'.get? a = some { cls := .type "list", data := .seq its n0 } := mv _ _ _ _ e0 rfl
  refine h h' _ (fun b o h1 h2 _ e => kk b o h1 h2 e) ⟨O.stay A.keep kk, A.fresh, ⟨_, hn'⟩, fun n c e => ?_, ats (fun q => hne q.symm) A.own, ⟨its, ⟨n0, e0'⟩, ri.move mv⟩, A.flat, fun z d' e => ?_⟩
  · obtain ⟨v', q⟩ := A.cell n c e
    exact ⟨v', q.sameBut hs' (Nat.ne_of_gt (O.above n c e))⟩
  · rw [List.lookup_cons] at e
    cases hz : z == y with
    | true =>
      rw [hz] at e
      cases e
      have : z = y := beq_iff_eq.mp hz
      subst this
      exact ⟨hne, v, .inl ⟨hy, _, hn', by simp⟩, (r.hide (shyA A) hn).move (hide_seqs fun b o vs n _ e q => mv b o vs n e q)⟩
    | false =>
      rw [hz] at e
      have hzy : z ≠ y := beq_eq_false_iff_ne.mp hz
      obtain ⟨ne, v', p, q⟩ := A.vars z d' e
      exact ⟨ne, v', ats hzy p, q.move (hide_seqs fun b o vs n _ e q => mv b o vs n e q)⟩

theorem actAW {h h' : Heap} {wr : List Addr} (A : ActA X Γ h₀ x a ρ ds h) (sh : NoSeq h wr) (kk : ∀ b o, b ∉ wr → h.get? b = some o → h'.get? b = some o) (nw : ∀ b ∈ wr, b ≠ Γ.env.locals ∧ ∀ n, (n, b) ∉ Γ.env.cells)
    (hf : ∀ b o, h₀.get? b = some o → b ∉ wr) : ActA X Γ h₀ x a ρ ds h' := by
  have hL : Γ.env.locals ∉ wr := fun hm => (nw _ hm).1 rfl
  have hc : ∀ n c, (n, c) ∈ Γ.env.cells → c ∉ wr := fun n c hm hw => (nw _ hw).2 n hm
  have mv := sh.seqs kk
  have ats : ∀ {z u}, At Γ.env h z u → At Γ.env h' z u := fun p => by
    rcases p with ⟨hl, m, hn, hm⟩ | ⟨c, hl, hcc, o, ho, hd⟩
    · exact .inl ⟨hl, m, hn.at' fun o e => kk _ o hL e, hm⟩
    · exact .inr ⟨c, hl, hcc, o, kk _ _ (hc _ c (mem_of_lookup hcc)) ho, hd⟩
  obtain ⟨its, ⟨n0, e0⟩, ri⟩ := A.items
  refine ⟨fun b o e => kk b o (hf b o e) (A.keep b o e), A.fresh, let ⟨m, n⟩ := A.ns; ⟨m, n.at' fun o e => kk _ o hL e⟩, fun n c e => ?_, ats A.own, ⟨its, ⟨n0, mv _ _ _ _ e0 rfl⟩, ri.move mv⟩, A.flat, fun z d e => ?_⟩
  · obtain ⟨v, o, ho, hd⟩ := A.cell n c e
    exact ⟨v, o, kk _ _ (hc n c e) ho, hd⟩
  · obtain ⟨ne, v, p, q⟩ := A.vars z d e
    exact ⟨ne, v, ats p, q.move (hide_seqs fun b o vs n _ e q => mv b o vs n e q)⟩

/-- between two turns -/
noncomputable abbrev ForInvA (X : Cx) (Γ : Fx) (h₀ : Heap) (x : Str) (a : Addr) (s : Shared) (base : Heap) (St : Nat → Heap → Prop) (I : Nat → Vars) (D : Nat → List PyData) (n k : Nat) (s' : Shared) : Prop :=
  ∃ i H tk, s' = { s with heap := H, toks := tk } ∧ St i H ∧ ActA X Γ h₀ x a (I i) (D i) H ∧ KeptA Γ a base H ∧ i ≤ n ∧ k = n + 1 - i
theorem goesA_for {y : Str} {iter : Expr} {p pos : Pos} {body : List Stmt} {es : List PyData} {D : Nat → List PyData} {I : Nat → Vars} (hit : SeesIterA X Γ a ((x, .list (D 0)) :: I 0) iter (.Name y p) es) (hk : Γ.env.kindOf y = some .local) (hne : y ≠ x) (hnl : noLists es = true)
    (hs : ∀ v, foldedSetIterable iter Γ.env v = pure v)
    (hturn : ∀ (i : Nat) d, es[i]? = some d → ∃ ρ₁, GoesA X Γ h₀ x a ((y, d) :: I i) (D i) body ρ₁ (D (i + 1)) ∧ Sub (I (i + 1)) ρ₁) :
    GoesA X Γ h₀ x a (I 0) (D 0) [.For (.Name y p) iter body [] pos] (I es.length) (D es.length) := fun O s Q E A b => by
  have hnl' : ∀ {i : Nat} {d : PyData}, es[i]? = some d → noList d = true := fun h => noLists_mem hnl (mem_of_get? h)
  refine wpAny_execs_cons (wpAny_For (hit s _ E (good_of O A.act) (let ⟨its, hp, _⟩ := A.items; ⟨its, hp⟩) fun base it fp wr St h' tk kb kb' W hfr st sh => ?_) hs)
  have aB : ActA X Γ h₀ x a (I 0) (D 0) base := A.keeps kb
  have hLf : Γ.env.locals ∉ fp := fun hm => by obtain ⟨m, o, es, ep, ho, _⟩ := aB.ns; rw [hfr _ hm] at ho; cases ho
  have haf : a ∉ fp := fun hm => by obtain ⟨its, ⟨n, e0⟩, _⟩ := aB.items; rw [hfr _ hm] at e0; cases e0
  have hcf : ∀ c ∈ fp, ∀ n, (n, c) ∉ Γ.env.cells := fun c hm n hc => by
    obtain ⟨v, o, ho, _⟩ := aB.cell n c hc
    rw [hfr _ hm] at ho; cases ho
  have hkf : ∀ {i : Nat} {h h' : Heap}, KeptA Γ a h h' → St i h → St i h' := fun kk st => W.frame _ _ _ st fun c hb o e => kk c o (fun hq => hLf (hq ▸ hb)) (hcf c hb) (fun hq => haf (hq ▸ hb)) e
  have hsq : ∀ {H : Heap}, KeptA Γ a base H → Seqs (hideAll base [a]) H := fun kk c o vs n e q => by
    have e' := of_hideAll [a] e
    refine kk c o (fun hq => ?_) (fun n hc => ?_) (fun hq => ?_) e'
    · subst hq
      obtain ⟨m, o', es, ep, ho', hd', _⟩ := aB.ns
      rw [e'] at ho'; cases ho'; rw [q] at hd'; cases hd'
    · obtain ⟨v, o', ho', hd'⟩ := aB.cell n c hc
      rw [e'] at ho'; cases ho'; rw [q] at hd'; cases hd'
    · rw [hq, hideAll_none [a] (List.mem_singleton_self a)] at e; cases e
  refine forLoop_own (ForInvA X Γ h₀ x a s base St I D es.length) ?_ (es.length + 1) ⟨0, h', tk, rfl, st, aB.keeps kb', keptA_of kb', Nat.zero_le _, rfl⟩
  rintro k s' ⟨i, H, tk', rfl, hst, act, hkept, hi, rfl⟩
  have nw : ∀ c ∈ wr, c ≠ Γ.env.locals ∧ ∀ n, (n, c) ∉ Γ.env.cells := fun c hb => ⟨fun hq => hLf (hq ▸ W.sub c hb), hcf c (W.sub c hb)⟩
  have hf0 : ∀ c o, h₀.get? c = some o → c ∉ wr := fun c o e hm => by have := aB.keep c o e; rw [hfr c (W.sub c hm)] at this; cases this
  by_cases hlt : i < es.length
  · obtain ⟨d, hd⟩ : ∃ d, es[i]? = some d := ⟨_, List.getElem?_eq_getElem hlt⟩
    refine W.item i _ _ _ d hd hst (hsq hkept) fun v s₁ hr => ?_
    refine hr _ _ fun h₁ tk₁ rv st₁ kk => ?_
    have act₁ := actAW act (sh _ _ hst) kk nw hf0
    have kept₁ : KeptA Γ a base h₁ := fun c o h1 h2 h3 e => kk c o (fun hm => by rw [hfr c (W.sub c hm)] at e; cases e) (hkept c o h1 h2 h3 e)
    obtain ⟨ρ₁, hg, hρ⟩ := hturn i d hd
    refine wpAny_assign_Name (storeA (s := { s with heap := h₁, toks := tk₁ }) O act₁ rv (hnl' hd) hk hne fun h₂ tk₂ k₂ a₂ => ?_)
    refine hg O _ _ _ a₂ fun h₃ tk₃ k₃ a₃ => ?_
    refine ⟨es.length + 1 - (i + 1), Nat.sub_lt_sub_left (Nat.lt_succ_of_lt hlt) (Nat.lt_succ_self i), i + 1, h₃, tk₃, rfl, hkf k₃ (hkf k₂ st₁), ⟨a₃.keep, a₃.fresh, a₃.ns, a₃.cell, a₃.own, a₃.items, a₃.flat, fun z d' e => a₃.vars z d' (hρ z d' e)⟩, keptA_trans kept₁ (keptA_trans k₂ k₃), hlt, rfl⟩
  · have hin : i = es.length := Nat.le_antisymm hi (Nat.not_lt.mp hlt)
    subst hin
    refine W.done _ _ _ hst (hsq hkept) fun h₁ tk₁ kk => ?_
    have act₁ := actAW act (sh _ _ hst) kk nw hf0
    have kept₁ : KeptA Γ a base h₁ := fun c o h1 h2 h3 e => kk c o (fun hm => by rw [hfr c (W.sub c hm)] at e; cases e) (hkept c o h1 h2 h3 e)
    refine wpAny_execs_nil (wpAny_execs_nil ?_)
    exact b h₁ tk₁ (keptA_trans (keptA_of kb) kept₁) act₁

/-- the rest of a body that owns a list -/
noncomputable def BodyA (X : Cx) (Γ : Fx) (h₀ : Heap) (x : Str) (a : Addr) (ρ : Vars) (ds : List PyData) (ss : List Stmt) (d : PyData) : Prop :=
  Own X Γ h₀ → ∀ (s : Shared) (Q : Flow → Shared → Prop) (E : Value → Shared → Prop), ActA X Γ h₀ x a ρ ds s.heap →
    (∀ v h' tk, KeptA Γ a s.heap h' → Rd h' v d → Q (.ret v) { s with heap := h', toks := tk }) → wpAny X.M Γ.A (execs ss Γ.env) Q E s
theorem bodyA_cons {st : Stmt} {rest : List Stmt} {d : PyData} {ρ₁ : Vars} {ds₁ : List PyData} (h1 : GoesA X Γ h₀ x a ρ ds [st] ρ₁ ds₁) (h2 : BodyA X Γ h₀ x a ρ₁ ds₁ rest d) : BodyA X Γ h₀ x a ρ ds (st :: rest) d := fun O s Q E A b => by
  refine wpAny_execs_cons (exec_one (h1 O s _ E A fun h' tk k A' => ?_))
  exact h2 O _ Q E A' fun v h'' tk'' k' r => b v h'' tk'' (keptA_trans k k') r
theorem bodyA_ret {e : Expr} {pos : Pos} {rest : List Stmt} {d : PyData} (h : Sees X Γ ((x, .list ds) :: ρ) e d) : BodyA X Γ h₀ x a ρ ds (.Return (some e) pos :: rest) d := fun O s Q E A b =>
  wpAny_execs_cons (wpAny_Return_some (h s _ E (good_of O A.act) fun v h' tk k r => b v h' tk (keptA_of k) r))

/-- the list is made and named: σ are the names that are kept: scalars, or read in the caller's heap -/
theorem body_own {e : Expr} {p pos : Pos} {rest : List Stmt} {d : PyData} {σ : Vars} (h : SeesNew X Γ ρ e ds) (hx : Γ.env.kindOf x = some .local) (hs : swapsWith e (some (.Name x p)) pos.line Γ.env = pure false) (hn : noLists ds = true)
    (hσ : ∀ y d, σ.lookup y = some d → ρ.lookup y = some d ∧ y ≠ x)
    (hB : ∀ a, BodyA X Γ h₀ x a σ ds rest d) : Body X Γ h₀ ρ (.Assign [.Name x p] e pos :: rest) d := fun O s Q E A b => by
  refine wpAny_execs_cons (wpAny_Assign_Name (h s _ E (good_of O A) fun a its h' tk k ha hp r => ?_) hs)
  have A' := A.keeps k
  obtain ⟨n0, e0⟩ := hp
  obtain ⟨m, hns⟩ := A'.ns
  refine wpAny_storeName_local hx hns (fun h₂ hn₂ hs₂ => ?_) (by rw [O.fit.fn]; rfl)
  have mv := seqs_sameBut hns hs₂
  have kk : Kept Γ h' h₂ := fun c o h1 _ e => (hs₂.2 c h1).trans e
  have hf : h₀.get? a = none := by
    cases q : h₀.get? a with
    | none => rfl
    | some o => rw [A.keep _ _ q] at ha; cases ha
  refine hB a O _ Q E ⟨O.stay A'.keep kk, hf, ⟨_, hn₂⟩, fun n c e => ?_, .inl ⟨hx, _, hn₂, by simp⟩, ⟨its, ⟨n0, mv _ _ _ _ e0 rfl⟩, r.move mv⟩, hn, fun y d' e => ?_⟩ fun v h₃ tk₃ k₃ rv => ?_
  · obtain ⟨v', q⟩ := A'.cell n c e
    exact ⟨v', q.sameBut hs₂ (Nat.ne_of_gt (O.above n c e))⟩
  · obtain ⟨e1, hne⟩ := hσ y d' e
    obtain ⟨v', q, r'⟩ := A.vars y d' e1
    have q := q.keeps k
    refine ⟨hne, v', ?_, r'.move fun b o vs n e q => hideAll_get [a] (mv b o vs n (k b o e) q) fun hm => by simp at hm; rw [hm, ha] at e; cases e⟩
    rcases q with ⟨hl, m2, hn2, hm2⟩ | ⟨c, hl, hc, hv⟩
    · obtain ⟨o, es, ep, ho, hd, hk, hf⟩ := hns
      obtain ⟨o2, es2, ep2, ho2, hd2, hk2, hf2⟩ := hn2
      rw [ho] at ho2
      cases ho2
      rw [hd] at hd2
      cases hd2
      refine .inl ⟨hl, _, hn₂, ?_⟩
      simp only [if_neg hne]
      rw [← hf, hf2]
      exact hm2
    · exact .inr ⟨c, hl, hc, hv.sameBut hs₂ (Nat.ne_of_gt (O.above y c (mem_of_lookup hc)))⟩
  · exact b v h₃ tk₃ (fun c o h1 h2 e => k₃ c o h1 h2 (fun hq => by rw [hq, ha] at e; cases e) (kk c o h1 h2 (k c o e))) rv
end
end Mine
end

noncomputable section
open PySem PySem.W PyProof.Rows Builtin.Str
namespace Mine
theorem at?_back {n k : Nat} (h : k < n) : at? n (-1 - (k : Int)) = n - 1 - k := by
  rw [neg_one_sub]
  show (if -((k + 1 : Nat) : Int) < 0 then (-((k + 1 : Nat) : Int) + n).toNat else _) = _
  rw [if_pos (Int.neg_neg_of_pos (Int.ofNat_lt.mpr (Nat.succ_pos k))), Int.add_comm, ← Int.sub_eq_add_neg, Nat.sub_sub, Nat.add_comm 1 k]
  exact Int.toNat_sub n (k + 1)
theorem back_lt {n k : Nat} (h : k < n) : n - 1 - k < n := Nat.lt_of_le_of_lt (Nat.sub_le _ _) (Nat.sub_lt (Nat.lt_of_le_of_lt (Nat.zero_le _) h) Nat.one_pos)
end Mine
end

noncomputable section
open PySem PySem.W PyProof.Rows Builtin.Str
namespace Mine
theorem run_pick {α : Type} (l : List α) (a n : Nat) : ((List.range n).map (a + ·)).filterMap (l[·]?) = (l.drop a).take n := by
  induction n with
  | zero => simp
  | succ n ih =>
    rw [List.range_succ, List.map_append, List.filterMap_append, ih, List.take_add_one]
    congr 1
    simp only [List.map_cons, List.map_nil, List.filterMap_cons, List.filterMap_nil, List.getElem?_drop]
    cases l[a + n]? <;> rfl
theorem indices_eq (lo hi : Option Int) (n : Nat) : strSliceIndices lo hi 1 n = (List.range (kms_hi hi n - kms_lo lo n)).map (kms_lo lo n + ·) := by
  have e := kms_bounds lo hi n
  have e2 : strSliceIndices lo hi 1 n = sliceRange (sliceBounds lo hi none n).1 (sliceBounds lo hi none n).2.1 1 := by
    cases lo <;> cases hi <;> rfl
  rw [e2, e]
  exact sliceRange_one _ _
theorem kms_hi_le (v : Option Int) (n : Nat) : kms_hi v n ≤ n := by
  cases v with
  | none => exact Nat.le_refl _
  | some y =>
    show (if y < 0 then n - (-y).toNat else min y.toNat n) ≤ n
    by_cases h : y < 0
    · rw [if_pos h]; exact Nat.sub_le _ _
    · rw [if_neg h]; exact Nat.min_le_right _ _
theorem pk_full {α : Type} {l : List α} {lo hi : Option Int} (h : l.length ≤ kms_hi hi l.length - kms_lo lo l.length) : pk l lo hi = l := by
  unfold pk
  have h1 : kms_hi hi l.length - kms_lo lo l.length ≤ l.length := Nat.le_trans (Nat.sub_le _ _) (kms_hi_le hi l.length)
  have e := Nat.le_antisymm h1 h
  rw [e]
  cases hl : kms_lo lo l.length with
  | zero => rw [List.drop_zero, List.take_length]
  | succ k =>
    cases l with
    | nil => rw [List.drop_nil, List.take_nil]
    | cons a l =>
      rw [hl, List.length_cons] at h
      have h2 := kms_hi_le hi (l.length + 1)
      exact absurd h (by omega)
theorem slice_toList (x : Str) (lo hi : Option Int) : (Txt.slice x lo hi).cps.toList = pk x.cps.toList lo hi := by
  have hl : x.cps.toList.length = x.length := Array.length_toList
  have e : ((strSliceIndices lo hi 1 x.length).filterMap (x.cps[·]?)) = pk x.cps.toList lo hi := by
    rw [indices_eq, ← hl]
    have : (fun i : Nat => x.cps[i]?) = fun i => x.cps.toList[i]? := by funext i; rw [Array.getElem?_toList]
    rw [this, run_pick]
    rfl
  unfold Txt.slice
  split
  · rename_i hc
    have hc' : (strSliceIndices lo hi 1 x.length).length = x.length := beq_iff_eq.mp hc
    rw [indices_eq, List.length_map, List.length_range] at hc'
    refine (pk_full ?_).symm
    rw [hl, hc']
    exact Nat.le_refl _
  · exact e
/-- slices by numbers that are not negative -/
theorem kms_lo_nat (a n : Nat) : kms_lo (some (a : Int)) n = min a n := by
  show (if (a : Int) < 0 then n - (-(a : Int)).toNat else min (a : Int).toNat n) = min a n
  rw [if_neg (Int.not_lt.mpr (Int.natCast_nonneg a))]; rfl
theorem kms_hi_nat (a n : Nat) : kms_hi (some (a : Int)) n = min a n := kms_lo_nat a n
theorem pk_run {α : Type} (l : List α) (a b : Nat) : pk l (some (a : Int)) (some (b : Int)) = (l.take b).drop a := by
  unfold pk
  rw [kms_lo_nat, kms_hi_nat, List.drop_take]
  rcases Nat.le_total a l.length with h | h
  · rw [Nat.min_eq_left h]
    rcases Nat.le_total b l.length with hb | hb
    · rw [Nat.min_eq_left hb]
    · have hd : (l.drop a).length = l.length - a := List.length_drop
      rw [Nat.min_eq_right hb, List.take_of_length_le (Nat.le_of_eq hd), List.take_of_length_le (Nat.le_trans (Nat.le_of_eq hd) (Nat.sub_le_sub_right hb a))]
  · rw [Nat.min_eq_right h, List.drop_of_length_le (Nat.le_refl _), List.drop_of_length_le h, List.take_nil, List.take_nil]
theorem pk_upto {α : Type} (l : List α) (b : Nat) : pk l none (some (b : Int)) = l.take b := (show pk l none (some (b : Int)) = pk l (some ((0 : Nat) : Int)) (some (b : Int)) by unfold pk; rw [kms_lo_nat, Nat.zero_min]; rfl).trans ((pk_run l 0 b).trans rfl)
theorem pk_from {α : Type} (l : List α) (a : Nat) : pk l (some (a : Int)) none = l.drop a := by
  have e : pk l (some (a : Int)) none = pk l (some (a : Int)) (some (l.length : Int)) := by unfold pk; rw [kms_hi_nat, Nat.min_self]; rfl
  rw [e, pk_run, List.take_length]
end Mine
end

noncomputable section
open PySem PySem.W PyProof.Rows Builtin.Str
set_option maxRecDepth 100000
namespace Mine
section
variable {X : Cx} {Γ : Fx} {h₀ : Heap} {ρ : Vars}

/-- a slice of a list is a new list -/
theorem new_slice_list {v : Expr} {lo hi : Option Expr} {p pos : Pos} {ds : List PyData} {i j : Option Int} (h : Sees X Γ ρ v (.list ds)) (h1 : SeesPart X Γ ρ lo i) (h2 : SeesPart X Γ ρ hi j) (hz : ds.length ≤ sizeLine) :
    SeesNew X Γ ρ (.Subscript v (.Slice lo hi none p) pos) (pk ds i j) := fun s Q E g b => by
  refine Subscript_ (h s _ E g fun o h₁ tk₁ k₁ r₁ => wpAny_Slice (h1 _ _ E (g.keeps k₁) fun vl h₂ tk₂ k₂ q1 => h2 _ _ E (g.keeps (stays_trans k₁ k₂)) fun vu h₃ tk₃ k₃ q2 => evalPart_none_step ?_))
  obtain ⟨a, items, rfl, hl, rl⟩ := (r₁.keeps (stays_trans k₂ k₃)).list_inv
  have hsz := rl.length
  rw [Array.length_toList] at hsz
  have hl' : (h₃.push { cls := .type "slice", data := .fields #[vl, vu, .none] }).IsList a items := hl.push _
  refine tail_any (ops := [.ref h₃.objs.size, .ref a]) hl'.typeIs slot_list_getitem.lookup ?_ rfl
  refine wpAny_getItem_list_slice hl' (Heap.IsSliceOf.new ..) q1 q2 .none (by simp) ?_ (by omega)
  rw [kms_pick_eq]
  have kk := stays_trans (stays_trans k₁ k₂) (stays_trans k₃ (stays_push h₃ { cls := .type "slice", data := .fields #[vl, vu, .none] }))
  refine b _ _ _ tk₃ (stays_trans kk (stays_push _ _)) (none_size kk) ⟨_, Heap.get?_push_size _ rfl⟩ ?_
  have e : kms_pick items.toList i j = pk items.toList i j := rfl
  rw [e]
  unfold pk
  rw [rl.length]
  simpa using ((((rl.keeps (stays_push _ _)).keeps (stays_push _ _)).drop _).take _)

theorem cons_str {es : List Expr} {ds : List PyData} {i : Str} {k : Nat} {p : Pos} (h : SeesAll X Γ ρ es ds) : SeesAll X Γ ρ (.Constant (.str i) k p :: es) (.str i :: ds) := sees_cons sees_str h fun _ => rfl
theorem cons_int {es : List Expr} {ds : List PyData} {i : Int} {k : Nat} {p : Pos} (h : SeesAll X Γ ρ es ds) : SeesAll X Γ ρ (.Constant (.int i) k p :: es) (.int i :: ds) := sees_cons sees_int h fun _ => rfl
theorem cons_name {es : List Expr} {ds : List PyData} {x : Str} {p : Pos} {d : PyData} (h : Sees X Γ ρ (.Name x p) d) (hs : SeesAll X Γ ρ es ds) : SeesAll X Γ ρ (.Name x p :: es) (d :: ds) := sees_cons h hs fun _ => rfl
theorem iterA_is {a : Addr} {e tgt : Expr} {es es' : List PyData} (h : SeesIterA X Γ a ρ e tgt es) (he : es = es') : SeesIterA X Γ a ρ e tgt es' := he ▸ h
/-! comprehensions over a range -/
theorem rangeD_mem {n : Nat} {d : PyData} (h : d ∈ rangeD 0 1 n) : ∃ k : Nat, k < n ∧ d = .int k := by
  unfold rangeD at h
  obtain ⟨k, hk, rfl⟩ := List.mem_map.mp h
  exact ⟨k, List.mem_range.mp hk, by congr 1; omega⟩
noncomputable def kOf : PyData → Nat
  | .int k => k.toNat
  | _ => 0
theorem rangeD_comp {n : Nat} (p : Nat → Bool) (f : Nat → PyData) : ((rangeD 0 1 n).filter fun d => p (kOf d)).map (fun d => f (kOf d)) = ((List.range n).filter p).map f := by
  unfold rangeD
  generalize List.range n = l
  induction l with
  | nil => rfl
  | cons a l ih =>
    have e : kOf (.int (0 + (a : Int) * 1)) = a := by simp [kOf]
    simp only [List.map_cons, List.filter_cons, e]
    split
    · rw [List.map_cons, List.map_cons, ih, e]
    · exact ih
theorem pk_from' {α : Type} (l : List α) (a : Nat) : pk l (some ((a : Int) + 1)) none = l.drop (a + 1) := pk_from l (a + 1)
theorem at?_neg (n : Nat) : at? n (-1) = n - 1 := by
  show ((-1 : Int) + (n : Int)).toNat = n - 1
  rw [Int.add_comm, ← Int.sub_eq_add_neg]
  exact Int.toNat_sub n 1
theorem at?_nat (n k : Nat) : at? n (k : Int) = k := if_neg (Int.not_lt.mpr (Int.natCast_nonneg k))
theorem sees_max {p pos : Pos} {e : Expr} {xs : List Int} (h : Sees X Γ ρ e (.list (nums xs))) (hne : xs ≠ []) (hk : Γ.env.kindOf "max" = some .globalImplicit) (hf : nsIn X.K mainGlobals "max" = some none) (he : ∀ env, starEach [e] env = [(false, eval e env)]) :
    Sees X Γ ρ (.Call (.Name "max" p) [e] [] pos) (.int (maxI xs)) := sees_blt hk (by decide) hf (by decide +kernel) (by decide) (blt_max hne) (sees_cons h sees_nil fun env => he env) (fun env => he env) (fun _ _ => rfl)
end
end Mine
end

noncomputable section
open PySem PySem.W PyProof.Rows Builtin.Str Builtin.BaseException
set_option maxRecDepth 100000
namespace Mine

/-! str of an object of an exception class of the text -/
/-- a class of the text that does not bind n -/
noncomputable def OwnNo (K : Frag) (C : Addr) (n : Str) : Prop := ∃ c d cd sl, K.lookup C = some ⟨c, d, .cls cd, sl⟩ ∧ nsOkIn K cd.ns = true ∧ nsIn K cd.ns n = some none
theorem lookupAlong_own {M : Model} {A : Around} {E : Value → Shared → Prop} {s : Shared} {K : Frag} {C : Addr} {bmB : List Value} {n : Str} {Q : Option Value → Shared → Prop} (X : K.In s.heap) (hl : OwnNo K C n) (hq : wpAny M A (lookupAlong bmB n) Q E s) :
    wpAny M A (lookupAlong (.ref C :: bmB) n) Q E s := by
  obtain ⟨c, d, cd, sl, ho, h1, h2⟩ := hl
  obtain ⟨h, g, d, t, os⟩ := s
  rw [lookupAlong_cons]
  refine wpAny_bind (wpAny_classOwn_cls (X _ _ ho) (.of_isNs (isNs_of_in X h1)) ?_)
  rw [nsMap_none_of_in X h1 h2]
  exact hq

noncomputable def MroIn (K : Frag) (C : Addr) (l : List Value) : Prop := ∃ c d cd sl, K.lookup C = some ⟨c, d, .cls cd, sl⟩ ∧ cd.mro = l

section
variable {prog : Program} {w : World} {A : Around} {E : Value → Shared → Prop} {s : Shared} {K : Frag} {C : Addr} {e t0 : Addr}

theorem mroOf_in {M : Model} (X : K.In s.heap) {l : List Value} (hm : MroIn K C l) {Q : List Value → Shared → Prop} (hq : Q l s) : wpAny M A (mroOf (.ref C)) Q E s := by
  obtain ⟨c, d, cd, sl, ho, rfl⟩ := hm
  have hC := X _ _ ho
  unfold mroOf
  obtain ⟨h, g, d', t, os⟩ := s
  repeat (any_goals (first | assumption | wp_step))
theorem isSubtype_in {M : Model} (X : K.In s.heap) {l : List Value} (hm : MroIn K C l) (hne : l.isEmpty = false) {b : Value} {Q : Bool → Shared → Prop} (hq : Q (l.contains b) s) : wpAny M A (isSubtype (.ref C) b) Q E s := by
  obtain ⟨c, d, cd, sl, ho, rfl⟩ := hm
  have hC := X _ _ ho
  unfold isSubtype
  obtain ⟨h, g, d', t, os⟩ := s
  repeat (any_goals (first | assumption | wp_step))

theorem bexcArgs_any {M : Model} {items : List Value} {o : Obj} {vs : Array Value} {Q : Value × List Value → Shared → Prop} (ho : s.heap.get? e = some o) (hd : o.data = .fields vs) (h0 : vs[0]? = some (.ref t0)) (ht : s.heap.TupAt t0 items) (hq : Q (.ref t0, items) s) :
    wpAny M A (bexcArgs (.ref e)) Q E s := by
  obtain ⟨ot, k, hto, _, htd⟩ := ht
  unfold bexcArgs
  refine wpAny_bind (wpAny_field ho hd h0 (wpAny_bind (wpAny_seqItems hto htd ?_)))
  have : items.toArray.toList = items := by simp
  show wpAny M A (pure (Value.ref t0, items.toArray.toList)) Q E s
  rw [this]; exact wpAny_pure hq

theorem bexcStr_own {m : Str} {tk : Tok} {o : Obj} {vs : Array Value} {Q : Fin → Shared → Prop} (ho : s.heap.get? e = some o) (hd : o.data = .fields vs) (h0 : vs[0]? = some (.ref t0)) (ht : s.heap.TupAt t0 [.str m tk]) (hq : Q (.done (.ret (.str m tk))) s) :
    wpAny (model prog w) A (Builtin.«BaseException.__str__» ⟨[.ref e], []⟩) Q E s := by
  unfold Builtin.«BaseException.__str__»
  repeat (first | with_reducible refine bexcArgs_any ho hd h0 ht ?_ | wp_step)
  exact hq

theorem check_bexc_str {M : Model} (X : K.In s.heap) {l : List Value} (hm : MroIn K C l) (hb : l.contains (.type "BaseException") = true) {o : Obj} (ho : s.heap.get? e = some o) (hc : o.cls = .ref C) {Q : Unit → Shared → Prop} (hq : Q () s) :
    wpAny M A (checkBuiltinCall "BaseException.__str__" ⟨[.ref e], []⟩) Q E s := by
  have hne : l.isEmpty = false := by cases l with | nil => cases hb | cons => rfl
  have hk : builtinKind "BaseException.__str__" = some .slot := by decide +kernel
  have hsplit : splitId "BaseException.__str__" = some ("BaseException", "__str__") := by decide +kernel
  have ha := F.args_bexc_str (.ref e)
  simp only [checkBuiltinCall, hk, hsplit]
  refine wpAny_bind ?_
  unfold isInstance
  obtain ⟨h, g, d, t, os⟩ := s
  repeat (first | (with_reducible refine wpAny_loadPart_at ho ?_; rw [hc]) | (with_reducible refine isSubtype_in X hm hne ?_; rw [hb]) | wp_step)
  exact hq

theorem special_own {M : Model} (X : K.In s.heap) {B : Addr} {bmB : List Value} {n : Str} {y : Option Value} (hm : MroIn K C (.ref C :: .ref B :: bmB)) (hl : OwnNo K C n) (hl2 : OwnNo K B n) (hr : lookupAlong bmB n = pure y) {o : Obj} (ho : s.heap.get? e = some o) (hc : o.cls = .ref C) {Q : Option Value → Shared → Prop} (hq : Q y s) :
    wpAny M A (specialOf (.ref e) n) Q E s := by
  unfold specialOf
  refine wpAny_bind ?_
  simp only [typeOf]
  refine wpAny_bind (wpAny_load ho (wpAny_pure ?_))
  rw [hc, typeLookup_eq]
  exact wpAny_bind (mroOf_in X hm (lookupAlong_own X hl (lookupAlong_own X hl2 (wpAny_of_eq hr hq))))

theorem strOf_own (X : K.In s.heap) {B : Addr} (hm : MroIn K C [.ref C, .ref B, .type "Exception", .type "BaseException", .type "object"]) (hl : OwnNo K C "__str__") (hl2 : OwnNo K B "__str__")
    {o : Obj} {vs : Array Value} (ho : s.heap.get? e = some o) (hc : o.cls = .ref C) (hd : o.data = .fields vs) (h0 : vs[0]? = some (.ref t0)) {m : Str} {tk : Tok} (ht : s.heap.TupAt t0 [.str m tk]) (hu : A.units < cLine) {Q : Value → Shared → Prop} (hq : Q (.str m tk) s) :
    wpAny (model prog w) A (Builtin.Str.strOf (.ref e)) Q E s := by
  have FX := F.excStr_Exception
  have hr : lookupAlong [.type "Exception", .type "BaseException", .type "object"] "__str__" = pure (some (.builtin "BaseException.__str__")) := by
    have := FX.str.lookup
    rw [typeLookup_eq, F.excBase_Exception.mroIs] at this
    exact this
  have hcall : wpAny (model prog w) A (call (.builtin "BaseException.__str__") [.ref e]) (fun v s' => v = .str m tk ∧ s' = s) E s := by
    refine wpAny_call (codeAny_call_builtin FX.str.plain F.entry_bexc_str (check_bexc_str X hm rfl ho hc ?_))
    exact bexcStr_own ho hd h0 ht ⟨rfl, rfl⟩
  have hsp : ∀ {Q' : Option Value → Shared → Prop}, Q' (some (.str m tk)) s → wpAny (model prog w) A (callSpecial? (.ref e) "__str__") Q' E s := fun {Q'} hq' => by
    unfold callSpecial?
    refine wpAny_bind (special_own X hm hl hl2 hr ho hc ?_)
    simp only []
    refine wpAny_holding ?_
    rw [FX.str.bind]
    refine wpAny_bind (wpAny_pure (wpAny_bind (wpAny_mono hcall (fun v s' hv => ?_) fun _ _ h => h)))
    obtain ⟨rfl, rfl⟩ := hv
    exact wpAny_pure hq'
  unfold Builtin.Str.strOf
  repeat (first
    | with_reducible refine wpAny_cRoomFor hu ?_
    | with_reducible refine hsp ?_
    | wp_step)
  exact hq

theorem str_own (X : K.In s.heap) {B : Addr} (hm : MroIn K C [.ref C, .ref B, .type "Exception", .type "BaseException", .type "object"]) (hl : OwnNo K C "__str__") (hl2 : OwnNo K B "__str__")
    {o : Obj} {vs : Array Value} (ho : s.heap.get? e = some o) (hc : o.cls = .ref C) (hd : o.data = .fields vs) (h0 : vs[0]? = some (.ref t0)) {m : Str} {tk : Tok} (ht : s.heap.TupAt t0 [.str m tk]) (hu : A.units + 2 < cLine) {Q : Value → Shared → Prop} (hq : Q (.str m tk) s) :
    wpAny (model prog w) A (call (.type "str") [.ref e]) Q E s :=
  callType_new F.called_str (by decide) (F.typeCall_str_1 _) (F.newCall_str_1 _) (fun obj => F.args_object_init_2 obj _) F.entry_str_new
    (meets_str_new (S := fun A' R s' => A'.units + 1 < cLine ∧ K.In s'.heap ∧ s'.heap.get? e = some o ∧ s'.heap.TupAt t0 [.str m tk] ∧ R (.ok (.ret (.str m tk))) s')
      fun _ _ A' _ _ hq => strOf_own (A := A'.in1) hq.2.1 hm hl hl2 hq.2.2.1 hc hd h0 hq.2.2.2.1 hq.1 hq.2.2.2.2)
    ⟨(show A.units + 1 + 1 < cLine from hu), X, ho, ht, typeIs_str _ _ _, hq⟩
end
end Mine
end

noncomputable section
open PySem PySem.W PyProof.Rows Builtin.Str
set_option maxRecDepth 100000
namespace Mine

/-- the answer of a step that may turn the frames' slots -/
noncomputable abbrev BackS (fs : List Addr) (s : Shared) (d : PyData) (Q : Value → Shared → Prop) : Prop :=
  ∀ v h' tk, Slid fs s.heap h' → Rd h' v d → Q v { s with heap := h', toks := tk }

/-- a def, on data, that may raise and catch inside -/
noncomputable def FnS (X : Cx) (n : Nat) (f : Value) (ds : List PyData) (d : PyData) : Prop :=
  ∀ (A : Around) (base : Heap) (outer : List Env) (s : Shared) (vs : List Value) (Q E : Value → Shared → Prop),
    A.handled = none → A.depth + n < recursionLimit → A.units + 8 * n + 200 < cLine →
    Below A base outer s.heap → X.Ok base → KtsDicts (fsOf outer) s.heap → RdL s.heap vs ds → BackS (fsOf outer) s d Q → wpAny X.M A (call f vs) Q E s
theorem fnS_of {X : Cx} {n : Nat} {f : Value} {ds : List PyData} {d : PyData} (F : Fn X n f ds d) : FnS X n f ds d := fun A base outer s vs Q E hh hd hu B ok D r b =>
  F A base outer s vs Q E hh hd hu B (ok.keeps B.stays) r fun v h' tk k rv => b v h' tk (slid_of k) rv

/-- a def that raises an own exception with one text -/
noncomputable def Raises (X : Cx) (n : Nat) (f : Value) (ds : List PyData) (C : Addr) (x : Str) : Prop :=
  ∀ (A : Around) (base : Heap) (outer : List Env) (s : Shared) (vs : List Value) (Q E : Value → Shared → Prop),
    A.handled = none → A.depth + n < recursionLimit → A.units + 8 * n + 200 < cLine →
    Below A base outer s.heap → X.Ok s.heap → RdL s.heap vs ds →
    (∀ e t tk h' tk', RaisedS base s.heap outer e (.ref C) t [.str x tk] [] h' → s.heap.UpToSlots h' → E (.ref e) { s with heap := h', toks := tk' }) → wpAny X.M A (call f vs) Q E s

theorem raisedS_below {base G G' : Heap} {l : List Env} {e t : Addr} {cls : Value} {vs : List Value} {h : Heap} (k : G'.StaysIn G) (R : RaisedS base G l e cls t vs [] h) : RaisedS base G' l e cls t vs [] h := by
  obtain ⟨⟨B, hB, hG, hl, hfl, hnew⟩, ht⟩ := R
  exact ⟨⟨B, hB, fun b o q hm => hG b o (k b o q) hm, (fun q hq => by cases hq), hfl, hnew⟩, ht⟩

section
variable {X : Cx}
theorem fr_of {Γ : Fx} {h₀ h : Heap} {ρ : Vars} (O : Own X Γ h₀) (a : Act X Γ h₀ ρ h) : ∃ m, Fr h₀ Γ.env.locals h m := by
  obtain ⟨m, hn⟩ := a.ns
  exact ⟨m, hn, fun b o e => a.keep b o e, O.fresh⟩
/-- statements that raise an own exception with one text -/
noncomputable def BodyR (X : Cx) (Γ : Fx) (h₀ : Heap) (ρ : Vars) (ss : List Stmt) (C : Addr) (x : Str) : Prop :=
  Own X Γ h₀ → ∀ (s : Shared) (Q : Flow → Shared → Prop) (E : Value → Shared → Prop), Act X Γ h₀ ρ s.heap →
    (∀ h h' e tk tk', Act X Γ h₀ ρ h → Heap.MadeExcOf h h' e (.ref C) [.str x tk] → E (.ref e) { s with heap := h', toks := tk' }) → wpAny X.M Γ.A (execs ss Γ.env) Q E s
theorem bodyR_if {Γ : Fx} {h₀ : Heap} {ρ : Vars} {C : Addr} {x : Str} {t : Expr} {bd el rest : List Stmt} {pos : Pos} (ht : Tests X Γ ρ t true) (h1 : BodyR X Γ h₀ ρ bd C x) : BodyR X Γ h₀ ρ (.If t bd el pos :: rest) C x := fun O s Q E a b => by
  refine wpAny_execs_cons (wpAny_If (ht s _ E (good_of O a) fun h' tk k => ?_))
  simp only [if_true]
  exact h1 O _ _ E (a.keeps k) fun h h' e tk tk' a' hx => b h h' e tk tk' a' hx
theorem bodyR_raise {Γ : Fx} {h₀ : Heap} {ρ : Vars} {C : Addr} {x y : Str} {e : Expr} {np cpos pos : Pos} {rest : List Stmt} (h : Sees X Γ ρ e (.str x)) (henv : ∃ nm sc L a cd, Γ.env = envOf nm sc L a cd)
    (ex : nsIn X.K mainGlobals y = some (some (.ref C))) (q : excIn X.K C [.type "Exception", .type "BaseException", .type "object"] "Exception.__new__" = true)
    (hy : Γ.env.kindOf y = some .globalImplicit) (hd : (y == ("__debug__" : Str)) = false) (he : ∀ env, starEach [e] env = [(false, eval e env)]) :
    BodyR X Γ h₀ ρ (.Raise (some (.Call (.Name y np) [e] [] cpos)) none pos :: rest) C x := fun O s Q E a b => by
  obtain ⟨m, Fm⟩ := fr_of O a
  have kf := O.fit.fn
  obtain ⟨nm, sc, L, f, cd, heq⟩ := henv
  refine wpAny_execs_cons ?_
  have hin : wpAny X.M Γ.A (spliced (backTo cpos (starEach [e] Γ.env))) (fun vs s₂ => vs.length ≤ sizeLine ∧ (∀ b o, h₀.get? b = some o → s₂.heap.get? b = some o) ∧
      ∀ h' e, Heap.MadeExcOf s₂.heap h' e (.ref C) vs → E (.ref e) { s₂ with heap := h' }) E s := by
    refine sees_cons h sees_nil (fun _ => he _) cpos _ _ E (good_of O a) fun vs h₂ tk₂ k₂ r₂ => ?_
    have a₂ := a.keeps k₂
    cases r₂ with
    | cons r1 r2 =>
    cases r2
    obtain ⟨t, rfl⟩ := r1.str_inv
    exact ⟨by rw [sizeLine_eq]; exact Nat.le_of_ble_eq_true rfl, fun b o e => a₂.keep b o e, fun h' e hx => b _ _ _ _ _ a₂ hx⟩
  rw [heq] at hin kf hy Fm ⊢
  exact Raise_own (name := nm) (scope := sc) (L := L) (a := f) (cd := cd) Fm O.ok.t.g (own_of_in O.ok.k (topRead_of O.ok.t) ex q) PySem.F.excBase_Exception O.fit.handled hin (he _) rfl kf hy hd

/-- a def whose body raises an own exception; its frame has no cells -/
theorem raises_of {f C : Addr} {n : Nat} {ds : List PyData} {x : Str} {ρ : Vars} {oc : Value} {od : Option Addr} {osl : Array (Option Value)} {fd : FuncData} {body : List Stmt}
    (ho : X.K.lookup f = some ⟨oc, od, .func fd, osl⟩) (hcd : codeIn X.K fd.code fd.qualname = true) (hbody : fd.body = .stmts body) (hclo : fd.closure = []) (hg : fd.globals = mainGlobals) (hbl : fd.builtins = builtinsNs)
    (hco : fd.scope.isCoroutine = false) (hgen : fd.scope.isGenerator = false) (hk : fd.scope.kind = .function)
    (hb : Binds fd ds ρ) (hnd : (ρ.map (·.1)).Nodup)
    (hkind : ∀ n, ∀ x ∈ ρ.map (·.1), fd.scope.names.lookup x = some .local ∨ (fd.scope.names.lookup x = some .cell ∧ ((cellsFrom n fd.scope.names []).lookup x).isSome = true))
    (hcn : ∀ L, (cellsFrom L fd.scope.names []).map (·.1) |>.Nodup)
    (hE : ∀ L, ∃ nm sc, callEnvC fd L f = envOf nm sc L f fd.code ∧ sc.kind = .function)
    (hB : ∀ A base outer L h₀, BodyR X (actOf fd A base outer n L f) h₀ ρ body C x) :
    Raises X (n + 1) (.ref f) ds C x := by
  intro A base outer s vs Q E hh hdp hun B hok hr b
  refine wpAny_call (enter ho hcd hbody hclo hg hbl hco hgen hk hb hnd hkind hcn hh hdp hun B hok hr fun h₀ L h' tk k O a => ?_)
  refine hB A base outer L h₀ O _ _ _ a fun h h' e tk tk' a' hx => ?_
  obtain ⟨m, F⟩ := fr_of O a'
  obtain ⟨nm, sc, heq, hkf⟩ := hE L
  rw [heq]
  refine leave_raiseS (g := h₀) (h := h) (m := m) (news := []) (below_keeps B k) hx F News.nil (fun h'' t R _ U => ?_) hkf
  exact b e t tk h'' tk' (raisedS_below k R) ((Heap.UpToSlots.of_keeps k).trans U)
/-- a try whose body returns -/
theorem body_try {Γ : Fx} {h₀ : Heap} {ρ : Vars} {d : PyData} {body rest : List Stmt} {hd : ExceptHandler} {hs : List ExceptHandler} {pos : Pos} (h : Body X Γ h₀ ρ body d) : Body X Γ h₀ ρ (.Try body (hd :: hs) [] [] pos :: rest) d := fun O s Q E a b =>
  wpAny_execs_cons (wpAny_Try_except (h O s _ _ a fun v h' tk k r => b v h' tk k r))
end
end Mine
end

noncomputable section
open PySem PySem.W PyProof.Rows Builtin.Str
set_option maxRecDepth 100000
namespace Mine

theorem at_slid {fs : List Addr} {env : Env} {h h' : Heap} (D : KtsDicts fs h) (k : Slid fs h h') {x : Str} {v : Value} : At env h x v → At env h' x v
  | .inl ⟨a, m, n, e⟩ => .inl ⟨a, m, ns_slid n k, e⟩
  | .inr ⟨c, a, b, d⟩ => .inr ⟨c, a, b, cell_slid D d k⟩
theorem below_slid {A : Around} {base h h' : Heap} {outer : List Env} (b : Below A base outer h) (k : Slid (fsOf outer) h h') : Below A base outer h' :=
  ⟨b.stack, fun a o e => (k a o (b.stays a o e)).1 (fun hm => by rw [(b.frames.mem hm).1] at e; cases e), b.frames.of_keeps fun a o e _ => by
    by_cases hm : a ∈ fsOf outer
    · obtain ⟨sl, hs⟩ := (k a o e).2 hm
      exact ⟨_, hs, rfl⟩
    · exact ⟨o, (k a o e).1 hm, rfl⟩⟩

section
variable {X : Cx} {Γ : Fx} {ρ : Vars}
noncomputable abbrev Fx.fs (Γ : Fx) : List Addr := fsOf Γ.outer
theorem good_slid {h h' : Heap} (ok : X.Ok Γ.base) (g : Good X Γ ρ h) (D : KtsDicts Γ.fs h) (k : Slid Γ.fs h h') : Good X Γ ρ h' := by
  have b := below_slid g.below k
  exact ⟨g.fit, ok.keeps b.stays, b, fun x d e => let ⟨v, a, r⟩ := g.vars x d e; ⟨v, at_slid D k a, r.move (slid_seqs D k)⟩⟩

/-- an expression, as a datum; the frames' slots may turn -/
noncomputable def SeesS (X : Cx) (Γ : Fx) (ρ : Vars) (e : Expr) (d : PyData) : Prop :=
  X.Ok Γ.base → ∀ (s : Shared) (Q E : Value → Shared → Prop), Good X Γ ρ s.heap → KtsDicts Γ.fs s.heap → BackS Γ.fs s d Q → wpAny X.M Γ.A (eval e Γ.env) Q E s
theorem BackS.next {fs : List Addr} {s : Shared} {d : PyData} {Q : Value → Shared → Prop} (b : BackS fs s d Q) {h : Heap} {tk : Nat} (k : Slid fs s.heap h) : BackS fs { s with heap := h, toks := tk } d Q :=
  fun v h' tk' k' r => b v h' tk' (slid_trans k k') r
theorem seesS_of {e : Expr} {d : PyData} (h : Sees X Γ ρ e d) : SeesS X Γ ρ e d := fun ok s Q E g D b => h s Q E g fun v h' tk k r => b v h' tk (slid_of k) r
theorem seesS_is {e : Expr} {b c : PyData} (h : SeesS X Γ ρ e b) (hc : b = c) : SeesS X Γ ρ e c := hc ▸ h

theorem seesS_call1 {x : Str} {p pos : Pos} {e : Expr} {d1 d : PyData} {f : Value} {n : Nat} (h : Sees X Γ ρ e d1) (F : FnS X n f [d1] d) (hn : n ≤ Γ.room) (hk : Γ.env.kindOf x = some .globalImplicit) (hd : (x == ("__debug__" : Str)) = false)
    (hf : nsIn X.K mainGlobals x = some (some f)) (hkp : keepIn X.K f = true) (he : ∀ env, starEach [e] env = [(false, eval e env)]) : SeesS X Γ ρ (.Call (.Name x p) [e] [] pos) d := fun ok s Q E g D b => by
  refine Call_Name rfl (eval_global g hk hd hf ?_)
  refine callWith_K g.ok.k hkp (sees_cons h sees_nil (fun env => he env) pos s _ E g fun vs h' tk k r => ⟨(g.keeps k).ok.k, ?_⟩) (he _) rfl
  have g' := g.keeps k
  exact F Γ.A Γ.base Γ.outer _ vs Q E g.fit.handled (g.fit.dn hn) (g.fit.un hn) g'.below ok (dicts_keeps D k) r (b.next (slid_of k))

theorem seesS_slice_tuple {v lo : Expr} {p pos : Pos} {ds : List PyData} {i : Nat} (h : SeesS X Γ ρ v (.tuple ds)) (h1 : Sees X Γ ρ lo (.int i)) (h1' : 1 ≤ i) (h2 : i ≤ ds.length) (hz : ds.length ≤ sizeLine) :
    SeesS X Γ ρ (.Subscript v (.Slice (some lo) none none p) pos) (.tuple (ds.drop i)) := fun ok s Q E g D b => by
  refine Subscript_ (h ok s _ E g D fun o h₁ tk₁ k₁ r₁ => wpAny_Slice (evalPart_some_step (h1 _ _ E (good_slid ok g D k₁) fun vl h₃ tk₃ k₃ q3 => evalPart_none_step (evalPart_none_step ?_))))
  obtain ⟨t, rfl⟩ := q3.int_inv
  obtain ⟨a, items, rfl, hl, rl⟩ := (r₁.keeps k₃).tuple_inv
  have hsz := rl.length
  rw [Array.length_toList] at hsz
  have hl' : IsTup (h₃.push { cls := .type "slice", data := .fields #[.int i t, .none, .none] }) a items := hl.push _
  refine tail_any (ops := [.ref h₃.objs.size, .ref a]) hl'.typeIs PyProof.Rows.slot_tuple_getitem.lookup ?_ rfl
  refine getItem_tuple_from hl' (Heap.IsSliceOf.new ..) h1' (hsz ▸ h2) ?_ (hsz ▸ hz)
  exact b _ _ tk₃ (slid_trans k₁ (slid_of (stays_trans k₃ (stays_trans (stays_push _ _) (stays_push _ _))))) (Rd.new_tuple ((rl.keeps (stays_push _ _)).drop _))

theorem seesS_list1 {e : Expr} {d : PyData} {pos : Pos} (h : SeesS X Γ ρ e d) (he : ∀ env, starEach [e] env = [(false, eval e env)]) : SeesS X Γ ρ (.List [e] pos) (.list [d]) := fun ok s Q E g D b => by
  refine List_ (wpAny_items_cons (h ok s _ E g D fun v h' tk k r => wpAny_items_nil ?_) (he _))
  refine wpAny_newList (b _ _ tk (slid_trans k (slid_of (stays_push _ _))) (Rd.new_list (.cons r .nil))) (by rw [sizeLine_eq]; exact Nat.le_of_ble_eq_true rfl)

theorem seesS_bin {l r : Expr} {op : Operator} {pos : Pos} {d1 d2 d : PyData} (B : Bin X op d1 d2 d) (h1 : SeesS X Γ ρ l d1) (h2 : SeesS X Γ ρ r d2) : SeesS X Γ ρ (.BinOp l op r pos) d := fun ok s Q E g D b => by
  refine wpAny_BinOp (h1 ok s _ E g D fun v1 h₁ tk₁ k₁ r₁ => h2 ok _ _ E (good_slid ok g D k₁) (slid_dicts D k₁) fun v2 h₂ tk₂ k₂ r₂ => ?_)
  exact B Γ.A _ v1 v2 Q E (r₁.move (slid_seqs (slid_dicts D k₁) k₂)) r₂ fun v h' tk k rv => b v h' tk (slid_trans k₁ (slid_trans k₂ (slid_of k))) rv

noncomputable def TestsS (X : Cx) (Γ : Fx) (ρ : Vars) (e : Expr) (b : Bool) : Prop :=
  X.Ok Γ.base → ∀ (s : Shared) (Q : Bool → Shared → Prop) (E : Value → Shared → Prop), Good X Γ ρ s.heap → KtsDicts Γ.fs s.heap → (∀ h' tk, Slid Γ.fs s.heap h' → Q b { s with heap := h', toks := tk }) → wpAny X.M Γ.A (isTrue e Γ.env (eval e Γ.env)) Q E s
theorem testsS_cmp {l r : Expr} {op : CmpOp} {pos : Pos} {d1 d2 : PyData} {b : Bool} (C : Cmp X op d1 d2 b) (h1 : SeesS X Γ ρ l d1) (h2 : SeesS X Γ ρ r d2) (hm : behindInMarks op r = false) :
    TestsS X Γ ρ (.Compare l [op] [r] pos) b := fun ok s Q E g D bk => by
  refine wpAny_isTrue_Compare1 (h1 ok s _ E g D fun v1 h₁ tk₁ k₁ r₁ => h2 ok _ _ E (good_slid ok g D k₁) (slid_dicts D k₁) fun v2 h₂ tk₂ k₂ r₂ => ?_) hm
  exact C Γ.A _ v1 v2 _ E g.fit.u64 (r₁.move (slid_seqs (slid_dicts D k₁) k₂)) r₂ (wpAny_truthy_bool (bk h₂ tk₂ (slid_trans k₁ k₂)))

theorem testsS_is {e : Expr} {b c : Bool} (h : TestsS X Γ ρ e b) (hc : b = c) : TestsS X Γ ρ e c := hc ▸ h

/-! statements of the outermost frame -/
structure Outer (X : Cx) (Γ : Fx) : Prop where
  one : Γ.outer = [Γ.env]
  ok : X.Ok Γ.base
theorem Outer.fs {h₀ : Heap} (U : Outer X Γ) (O : Own X Γ h₀) : Γ.fs = [Γ.env.locals] := by
  show Γ.outer.filterMap (·.frame) = _
  rw [U.one]
  simp [O.frame]
theorem Outer.dicts {h₀ h : Heap} (U : Outer X Γ) (O : Own X Γ h₀) (a : Act X Γ h₀ ρ h) : KtsDicts Γ.fs h := fun b hb => by
  rw [U.fs O] at hb
  simp at hb
  subst hb
  obtain ⟨m, o, es, ep, ho, hd, _⟩ := a.ns
  exact ⟨o, es, ep, ho, hd⟩
theorem kept_slid {h₀ h h' : Heap} (U : Outer X Γ) (O : Own X Γ h₀) (k : Slid Γ.fs h h') : Kept Γ h h' := fun a o h1 _ e => (k a o e).1 (by rw [U.fs O]; simpa using h1)
theorem act_slid {h₀ h h' : Heap} (U : Outer X Γ) (O : Own X Γ h₀) (a : Act X Γ h₀ ρ h) (k : Slid Γ.fs h h') : Act X Γ h₀ ρ h' := by
  have D := U.dicts O a
  refine ⟨O.stay a.keep (kept_slid U O k), let ⟨m, n⟩ := a.ns; ⟨m, ns_slid n k⟩, fun n c e => let ⟨v, q⟩ := a.cell n c e; ⟨v, cell_slid D q k⟩, fun x d e => ?_⟩
  obtain ⟨v, p, r⟩ := a.vars x d e
  exact ⟨v, at_slid D k p, r.move (slid_seqs D k)⟩

variable {h₀ : Heap}
theorem body_skipS {t : Expr} {bd rest : List Stmt} {pos : Pos} {d : PyData} (U : Outer X Γ) (ht : TestsS X Γ ρ t false) (h1 : Body X Γ h₀ ρ rest d) : Body X Γ h₀ ρ (.If t bd [] pos :: rest) d := fun O s Q E a bk => by
  refine wpAny_execs_cons (wpAny_If (ht U.ok s _ E (good_of O a) (U.dicts O a) fun h' tk k => ?_))
  simp only [Bool.false_eq_true, if_false]
  exact wpAny_execs_nil (h1 O _ _ E (act_slid U O a k) fun v h'' tk'' k' r => bk v h'' tk'' (kept_trans (kept_slid U O k) k') r)
theorem goes_assignS {x : Str} {e : Expr} {p pos : Pos} {d : PyData} (U : Outer X Γ) (h : SeesS X Γ ρ e d) (hx : Γ.env.kindOf x = some .local ∨ (Γ.env.kindOf x = some .cell ∧ (Γ.env.cells.lookup x).isSome = true))
    (hs : swapsWith e (some (.Name x p)) pos.line Γ.env = pure false) : Goes X Γ h₀ ρ [.Assign [.Name x p] e pos] .next ((x, d) :: ρ) := fun O s Q E a b => by
  refine wpAny_execs_cons (wpAny_Assign_Name (h U.ok s _ E (good_of O a) (U.dicts O a) fun v h' tk k r => ?_) hs)
  exact store (ρ := ρ) (s := { s with heap := h', toks := tk }) O (act_slid U O a k) r hx fun h'' tk'' k' a' _ => wpAny_execs_nil (b h'' tk'' (kept_trans (kept_slid U O k) k') a')
end
end Mine
end

noncomputable section
open PySem PySem.W PyProof.Rows Builtin.Str
set_option maxRecDepth 100000
namespace Mine
section
variable {X : Cx} {Γ : Fx} {ρ : Vars}

theorem seesS_comp {elt iter tgt : Expr} {ifs : List Expr} {scope : Scope} {cl : List (Str × Addr)} {pos : Pos} {ds : List PyData} {p : PyData → Bool} {f : PyData → PyData} {bs : PyData → Vars} {σ : Vars}
    (hcl : closureFor scope Γ.env = pure cl) (so : ScOk scope) (hs : ∀ x, foldedSetIterable iter Γ.env x = pure x) (hit : SeesIter X Γ ρ iter tgt ds true) (hz : ds.length ≤ sizeLine)
    (hσ : Capt Γ.env scope cl ρ σ) (hb : ∀ C d, d ∈ ds → Bd X Γ.A (compEnvC scope cl C Γ.env) tgt d (bs d))
    (ht : ∀ C d, d ∈ ds → TestsAll X (Γ.at (compEnvC scope cl C Γ.env)) (bs d ++ σ) ifs (p d))
    (he : ∀ C d, d ∈ ds → p d = true → SeesS X (Γ.at (compEnvC scope cl C Γ.env)) (bs d ++ σ) elt (f d)) (hn : ∀ d ∈ ds, p d = true → noList (f d) = true) :
    SeesS X Γ ρ (.ListComp elt [⟨tgt, iter, ifs, 0⟩] scope pos) (.list ((ds.filter p).map f)) := fun ok s Q E g DF b => by
  rw [eval_ListComp]
  refine wpAny_comprehension_free (use := none) rfl hs hcl so.kind so.names ?_
  show wpAny X.M Γ.A (eval iter Γ.env) _ E s
  refine hit s _ E g fun base I fp wr St h' tk kb kb' W st hfp sh => ?_
  have DB := dicts_keeps DF kb
  refine comp_blockS (f := f) (RR := fun acc C => compPost X.M Γ.A E none Q acc C) W hz so.cell so.kind DB (fun h k => let b := below_slid (g.keeps kb).below k; ⟨b, ok.keeps b.stays⟩) (g.keeps kb) kb' st hfp hσ hb ht ?_ ?_
  · intro C D i d s₃ Q' E' hd hp g₃ D₃ st₃ hD hwl b'
    refine he C d (mem_of_get? hd) hp ok s₃ Q' E' g₃ D₃ fun v h₄ tk₄ k₄ r₄ => b' v h₄ tk₄ k₄ (r₄.hide ?_ (hn d (mem_of_get? hd) hp))
    intro a ha
    have hw := (sh rfl _ _ st₃).shy
    rcases List.mem_cons.mp ha with rfl | ha
    · obtain ⟨ys, o2, ho2, hc, n2, hd2⟩ := hD
      exact ⟨o2, (k₄ _ _ ho2).1 (seq_not_fs D₃ ho2 hd2), fun _ _ _ => hc⟩
    · obtain ⟨o, ho, q⟩ := hw a ha
      refine ⟨o, (k₄ a o ho).1 (not_fs DB (W.fresh a ha)), q⟩
  · intro D C h₂ tk₂ m' hD hC hDC hn r kk
    refine ⟨m', hn, fun h₃ hs₃ => ?_⟩
    refine b _ h₃ tk₂ (fun a o e => ?_) (r.move (seqs_sameBut hn hs₃))
    have e1 : base.get? a = some o := kb a o e
    have e2 : h'.get? a = some o := kb' a o e1
    have hne : a ≠ C := fun hq => by rw [hq, hC] at e2; cases e2
    have := kk a o (fun hm => by rw [W.fresh a hm] at e1; cases e1) e2
    exact ⟨fun hn' => (hs₃.2 a hne).trans (this.1 hn'), fun hm => let ⟨sl, q⟩ := this.2 hm; ⟨sl, (hs₃.2 a hne).trans q⟩⟩
end
end Mine
end

noncomputable section
open PySem PySem.W PyProof.Rows Builtin.Str
set_option maxRecDepth 100000
namespace Mine

noncomputable def zipD (l1 l2 : List PyData) : List PyData := (l1.zip l2).map fun p => .tuple [p.1, p.2]
/-- data that lies in no object -/
noncomputable def plainD : PyData → Bool
  | .none => true
  | .bool _ => true
  | .int _ => true
  | .str _ => true
  | _ => false
theorem Rd.plain {h h' : Heap} {v : Value} {d : PyData} (r : Rd h v d) (hp : plainD d = true) : Rd h' v d := by
  cases r with
  | none => exact .none
  | bool b => exact .bool b
  | int i t => exact .int i t
  | str x t => exact .str x t
  | list => cases hp
  | tuple => cases hp
theorem RdL.plain {h h' : Heap} {vs : List Value} {ds : List PyData} (r : RdL h vs ds) : (∀ d ∈ ds, plainD d = true) → RdL h' vs ds :=
  rdl_ind (Q := fun vs ds => (∀ d ∈ ds, plainD d = true) → RdL h' vs ds) (fun _ => .nil) (fun a _ q hp => .cons (a.plain (hp _ List.mem_cons_self)) (q fun d hd => hp d (List.mem_cons_of_mem _ hd))) r

section
variable {X : Cx} {Γ : Fx} {ρ : Vars}

/-- a zip of two lists, between two turns -/
noncomputable def ZSt (z TI TO i1 i2 l1 l2 : Addr) (i : Nat) (h : Heap) : Prop := IsZip h z TI TO .none ∧ IsPair h TI (.ref i1) (.ref i2) ∧ (∃ a b, IsPair h TO a b) ∧ h.IsListIter i1 l1 i ∧ h.IsListIter i2 l2 i
theorem zipD_get {d1 d2 : List PyData} {i : Nat} {d : PyData} (hd : (zipD d1 d2)[i]? = some d) : ∃ c1 c2, d1[i]? = some c1 ∧ d2[i]? = some c2 ∧ d = .tuple [c1, c2] := by
  unfold zipD at hd
  rw [List.getElem?_map] at hd
  cases hq : (d1.zip d2)[i]? with
  | none => rw [hq] at hd; cases hd
  | some p =>
    rw [hq] at hd
    obtain ⟨h1, h2⟩ := List.getElem?_zip_eq_some.mp hq
    exact ⟨p.1, p.2, h1, h2, (Option.some.inj hd).symm⟩
theorem zip_sub {z TI TO i1 i2 b : Addr} (h : b ∈ [z, TO, i1, i2]) : b ∈ [z, TI, TO, i1, i2] := (List.mem_cons.mp h).elim (fun h => List.mem_cons.mpr (.inl h)) (fun h => List.mem_cons_of_mem _ (List.mem_cons_of_mem _ h))
theorem zip_end {d1 d2 : List PyData} {xs ys : Array Value} (e1 : xs.toList.length = d1.length) (e2 : ys.toList.length = d2.length) : xs[(zipD d1 d2).length]? = none ∨ ys[(zipD d1 d2).length]? = none := by
  rw [Array.length_toList] at e1 e2
  have e3 : (zipD d1 d2).length = min xs.size ys.size := by unfold zipD; rw [List.length_map, List.length_zip, e1, e2]
  rw [e3]
  rcases Nat.le_total xs.size ys.size with h | h
  · exact .inl (by rw [Nat.min_eq_left h]; exact Array.getElem?_eq_none (Nat.le_refl _))
  · exact .inr (by rw [Nat.min_eq_right h]; exact Array.getElem?_eq_none (Nat.le_refl _))

section
variable {A : Around} {base : Heap} {z TI TO i1 i2 l1 l2 : Addr} {xs ys : Array Value} {d1 d2 : List PyData} {es : List Expr} {ek : Nat} {ep : Pos}
theorem zip_item (Dz : ZipApart z TI TO i1 i2 l1 l2) (hf : ∀ b ∈ [z, TI, TO, i1, i2], base.get? b = none) (h1 : base.IsList l1 xs) (h2 : base.IsList l2 ys) {i : Nat} {s : Shared} {Q₀ : Option Value → Shared → Prop} {E : Value → Shared → Prop} {x y : Value} {c1 c2 : PyData}
    (hx : xs[i]? = some x) (rx : Rd base x c1) (hy : ys[i]? = some y) (ry : Rd base y c2) (st : ZSt z TI TO i1 i2 l1 l2 i s.heap) (hb : Seqs base s.heap)
    (hQ₀ : ∀ v s₁, (∀ (Q : Unit → Shared → Prop) (E' : Value → Shared → Prop),
      (∀ h' tk, Rd h' v (.tuple [c1, c2]) → ZSt z TI TO i1 i2 l1 l2 (i + 1) h' → (∀ b o, b ∉ [z, TO, i1, i2] → s.heap.get? b = some o → h'.get? b = some o) → Q () { s with heap := h', toks := tk }) → wpAny X.M A (letOwnedTupleGo (.Tuple es ek ep) (.ref z) v) Q E' s₁) → Q₀ (some v) s₁) :
    wpAny X.M A (pyNext (.ref z)) Q₀ E s :=
  let ⟨hz, hTI, ⟨_, _, hTO⟩, q1, q2⟩ := st
  wpAny_pyNext_zip_item Dz hz hTI hTO q1 q2 (list_seqs hb h1) (list_seqs hb h2) hx hy fun h' a1 a2 a3 a4 a5 a6 hk => hQ₀ (.ref s.heap.objs.size) _ fun Q E' hQ => wpAny_letOwnedTupleGo_zip a1 fun h'' hz' hs' =>
    have k : ∀ c o, c ∉ [z, TO, i1, i2] → s.heap.get? c = some o → h''.get? c = some o := fun c o n1 e =>
      have n2 := List.not_mem_of_not_mem_cons n1
      have n3 := List.not_mem_of_not_mem_cons n2
      hs'.extBut _ _ (List.ne_of_not_mem_cons n1) (hk c o (List.ne_of_not_mem_cons n1) (List.ne_of_not_mem_cons n2) (List.ne_of_not_mem_cons n3) (List.ne_of_not_mem_cons (List.not_mem_of_not_mem_cons n3)) e)
    have sb : Seqs base h'' := fun c o vs n e q => k c o (fun hm => nomatch (hf c (zip_sub hm)).symm.trans e) (hb c o vs n e q)
    hQ h'' s.toks (.tuple (hs'.extBut _ _ (Nat.ne_of_gt (Heap.lt_size hz)) a5) rfl rfl (.cons (rx.move sb) (.cons (ry.move sb) .nil)))
      ⟨hz', hs'.extBut _ _ Dz.TIz (hk _ _ Dz.TIz Dz.TITO Dz.TIi1 Dz.TIi2 hTI), ⟨_, _, hs'.extBut _ _ Dz.TOz a2⟩, a3.extBut hs'.extBut Dz.i1z, a4.extBut hs'.extBut Dz.i2z⟩ k
end

theorem itOk_zip {A : Around} (hh : A.handled = none) (base : Heap) (z TI TO i1 i2 l1 l2 : Addr) (Dz : ZipApart z TI TO i1 i2 l1 l2) (xs ys : Array Value) (d1 d2 : List PyData) (es : List Expr) (ek : Nat) (ep : Pos)
    (hf : ∀ b ∈ [z, TI, TO, i1, i2], base.get? b = none) (h1 : base.IsList l1 xs) (h2 : base.IsList l2 ys) (r1 : RdL base xs.toList d1) (r2 : RdL base ys.toList d2) :
    ItOk X A base z (.Tuple es ek ep) [z, TI, TO, i1, i2] [z, TO, i1, i2] (zipD d1 d2) (ZSt z TI TO i1 i2 l1 l2) where
  sub := fun b hb => zip_sub hb
  fresh' := hf
  frame := fun i h h' ⟨hz, hTI, ⟨a, b, hTO⟩, q1, q2⟩ hk =>
    ⟨hk z (.head _) _ hz, hk TI (.tail _ (.head _)) _ hTI, ⟨a, b, hk TO (.tail _ (.tail _ (.head _))) _ hTO⟩, q1.at fun o e => hk i1 (.tail _ (.tail _ (.tail _ (.head _)))) o e, q2.at fun o e => hk i2 (.tail _ (.tail _ (.tail _ (.tail _ (.head _))))) o e⟩
  item := fun i s Q₀ E d hd st hb => by
    obtain ⟨c1, c2, g1, g2, rfl⟩ := zipD_get hd
    obtain ⟨x, hx, rx⟩ := r1.get g1
    obtain ⟨y, hy, ry⟩ := r2.get g2
    rw [Array.getElem?_toList] at hx hy
    exact zip_item Dz hf h1 h2 hx rx hy ry st hb
  done := fun s Q E ⟨hz, hTI, ⟨a, b, hTO⟩, q1, q2⟩ hb hQ =>
    wpAny_pyNext_zip_end hh Dz hz hTI hTO q1 q2 (list_seqs hb h1) (list_seqs hb h2) (zip_end r1.length r2.length) fun h' hk => hQ h' s.toks fun c o n1 e =>
      have n2 := List.not_mem_of_not_mem_cons n1
      have n3 := List.not_mem_of_not_mem_cons n2
      hk c o (List.ne_of_not_mem_cons n1) (List.ne_of_not_mem_cons n2) (List.ne_of_not_mem_cons n3) (List.ne_of_not_mem_cons (List.not_mem_of_not_mem_cons n3)) e
  self := fun i s Q E st hQ => wpAny_pyIter_zip st.1 hQ

/-- an iterable whose own objects are there -/
noncomputable def SeesIterZ (X : Cx) (Γ : Fx) (ρ : Vars) (e tgt : Expr) (ds : List PyData) : Prop :=
  ∀ (s : Shared) (Q E : Value → Shared → Prop), Good X Γ ρ s.heap →
    (∀ base I fp wr St h' tk, s.heap.StaysIn base → base.StaysIn h' → ItOk X Γ.A base I tgt fp wr ds St → St 0 h' → (∀ b ∈ fp, b < h'.objs.size) → (∀ i h, St i h → ∀ b ∈ wr, ∃ o, h.get? b = some o) → Q (.ref I) { s with heap := h', toks := tk }) →
    wpAny X.M Γ.A (eval e Γ.env) (fun x s₁ => wpAny X.M Γ.A (pyIter x) Q E s₁) E s

theorem two_lists {h : Heap} {vs : List Value} {d1 d2 : List PyData} (r : RdL h vs [.list d1, .list d2]) : ∃ l1 l2 xs ys, vs = [.ref l1, .ref l2] ∧ h.IsList l1 xs ∧ h.IsList l2 ys ∧ RdL h xs.toList d1 ∧ RdL h ys.toList d2 := by
  obtain ⟨v1, vs1, rfl, r1, r'⟩ := r.cons_inv
  obtain ⟨v2, rfl, r2⟩ := r'.one
  obtain ⟨l1, xs, rfl, hl1, q1⟩ := r1.list_inv
  obtain ⟨l2, ys, rfl, hl2, q2⟩ := r2.list_inv
  exact ⟨l1, l2, xs, ys, rfl, hl1, hl2, q1, q2⟩
theorem iter_zip {x y : Expr} {es : List Expr} {ek : Nat} {ep p pos : Pos} {d1 d2 : List PyData} (h : Sees X Γ ρ x (.list d1)) (hy : Sees X Γ ρ y (.list d2)) (hk : Γ.env.kindOf "zip" = some .globalImplicit) (hf : nsIn X.K mainGlobals "zip" = some none)
    (he : ∀ env, starEach [x, y] env = [(false, eval x env), (false, eval y env)]) (he2 : ∀ env, starEach [y] env = [(false, eval y env)]) :
    SeesIterZ X Γ ρ (.Call (.Name "zip" p) [x, y] [] pos) (.Tuple es ek ep) (zipD d1 d2) := fun s Q E g b => by
  refine Call_Name rfl (eval_builtin g hk (by decide) hf (v := .type "zip") (by decide +kernel) (by decide) ?_)
  refine PyProof.Rows.callWith_type1 (sees_cons h (sees_cons hy sees_nil (fun env => he2 env)) (fun env => by rw [he, he2]) pos s _ E g fun vs h' tk k r => ?_) (by rw [he, he2]) (by rw [he2]; rfl)
  obtain ⟨l1, l2, xs, ys, rfl, hl1, hl2, q1, q2⟩ := two_lists r
  have hlt1 : l1 < h'.objs.size := let ⟨o, ho, _⟩ := hl1; Heap.lt_size ho
  have hlt2 : l2 < h'.objs.size := let ⟨o, ho, _⟩ := hl2; Heap.lt_size ho
  refine call_zip_2 hl1 hl2 fun h₂ hz hTI hTO hi1 hi2 hsz hkk => ?_
  refine wpAny_pyIter_zip hz ?_
  have none_ : ∀ b, h'.objs.size ≤ b → h'.get? b = none := fun b hb => by
    cases e : h'.get? b with
    | none => rfl
    | some o => exact absurd (Heap.lt_size e) (Nat.not_lt.mpr hb)
  refine b h' _ _ _ _ h₂ tk k hkk (itOk_zip g.fit.handled h' (h'.objs.size + 4) (h'.objs.size + 2) (h'.objs.size + 3) h'.objs.size (h'.objs.size + 1) l1 l2 (zipApart_new hlt1 hlt2) xs ys d1 d2 es ek ep ?_ hl1 hl2 q1 q2) ⟨hz, hTI, ⟨_, _, hTO⟩, hi1, hi2⟩ ?_ ?_
  · exact List.forall_mem_cons.mpr ⟨none_ _ (Nat.le_add_right _ _), List.forall_mem_cons.mpr ⟨none_ _ (Nat.le_add_right _ _), List.forall_mem_cons.mpr ⟨none_ _ (Nat.le_add_right _ _), List.forall_mem_cons.mpr ⟨none_ _ (Nat.le_refl _), List.forall_mem_cons.mpr ⟨none_ _ (Nat.le_add_right _ _), fun _ h => nomatch h⟩⟩⟩⟩⟩
  · rw [hsz]
    have lt : ∀ k, k < 5 → h'.objs.size + k < h'.objs.size + 5 := fun k hk => Nat.add_lt_add_left hk _
    exact List.forall_mem_cons.mpr ⟨lt 4 (by decide), List.forall_mem_cons.mpr ⟨lt 2 (by decide), List.forall_mem_cons.mpr ⟨lt 3 (by decide), List.forall_mem_cons.mpr ⟨lt 0 (by decide), List.forall_mem_cons.mpr ⟨lt 1 (by decide), fun _ h => nomatch h⟩⟩⟩⟩⟩
  · exact fun i h ⟨hz, hTI, ⟨a, b, hTO⟩, ⟨o1, e1, _⟩, ⟨o2, e2, _⟩⟩ => List.forall_mem_cons.mpr ⟨⟨_, hz⟩, List.forall_mem_cons.mpr ⟨⟨_, hTO⟩, List.forall_mem_cons.mpr ⟨⟨_, e1⟩, List.forall_mem_cons.mpr ⟨⟨_, e2⟩, fun _ h => nomatch h⟩⟩⟩⟩

/-- a comprehension of fresh tuples of plain data -/
theorem sees_compZ {iter tgt : Expr} {es : List Expr} {ek : Nat} {epos : Pos} {scope : Scope} {cl : List (Str × Addr)} {pos : Pos} {ds : List PyData} {gs : PyData → List PyData} {bs : PyData → Vars} {σ : Vars}
    (hcl : closureFor scope Γ.env = pure cl) (so : ScOk scope) (hs : ∀ x, foldedSetIterable iter Γ.env x = pure x) (hit : SeesIterZ X Γ ρ iter tgt ds) (hz : ds.length ≤ sizeLine)
    (hσ : Capt Γ.env scope cl ρ σ) (hb : ∀ C d, d ∈ ds → Bd X Γ.A (compEnvC scope cl C Γ.env) tgt d (bs d))
    (he : ∀ C d, d ∈ ds → SeesAll X (Γ.at (compEnvC scope cl C Γ.env)) (bs d ++ σ) es (gs d)) (hp : ∀ d ∈ ds, (gs d).length ≤ 100 ∧ ∀ c ∈ gs d, plainD c = true) :
    Sees X Γ ρ (.ListComp (.Tuple es ek epos) [⟨tgt, iter, [], 0⟩] scope pos) (.list (ds.map fun d => .tuple (gs d))) := fun s Q E g b => by
  rw [eval_ListComp]
  refine wpAny_comprehension_free (use := none) rfl hs hcl so.kind so.names ?_
  show wpAny X.M Γ.A (eval iter Γ.env) _ E s
  refine hit s _ E g fun base I fp wr St h' tk kb kb' W st hfp sh => ?_
  refine comp_block (p := fun _ => true) (f := fun d => .tuple (gs d)) (RR := fun acc C => compPost X.M Γ.A E none Q acc C) W hz so.cell so.kind (g.keeps kb) kb' st hfp hσ hb (fun C d hd => tests_nil) ?_ ?_
  · intro C D i d s₃ Q' E' hd hp' g₃ st₃ ⟨ys, hD⟩ hwl b'
    have hdm := mem_of_get? hd
    obtain ⟨p1, p2⟩ := hp d hdm
    refine Tuple_ (he C d hdm _ s₃ _ E' g₃ fun vs h₄ tk₄ k₄ r₄ => ?_)
    refine wpAny_newTuple (b' _ _ tk₄ (stays_trans k₄ (stays_push _ _)) (.tuple (hideAll_get _ (Heap.get?_push_size _ rfl) ?_) rfl rfl ?_)) (by rw [r₄.length]; exact sz_k p1 rfl)
    · intro hm
      have hn := none_size k₄
      rcases List.mem_cons.mp hm with q | hm
      · obtain ⟨o, ho, _⟩ := hD
        rw [q, ho] at hn; cases hn
      · obtain ⟨o, ho⟩ := sh _ _ st₃ _ hm
        rw [ho] at hn; cases hn
    · simpa using r₄.plain p2
  · intro D C h₂ tk₂ m' hD hC hDC hn r kk
    refine ⟨m', hn, fun h₃ hs₃ => ?_⟩
    have e : (ds.filter fun _ => true).map (fun d => PyData.tuple (gs d)) = ds.map fun d => .tuple (gs d) := by rw [List.filter_eq_self.mpr fun _ _ => rfl]
    rw [e] at r
    refine b _ h₃ tk₂ (fun a o e => ?_) (r.move (seqs_sameBut hn hs₃))
    have e2 : h'.get? a = some o := kb' a o (kb a o e)
    refine (hs₃.2 a (fun hq => ?_)).trans (kk a o (fun hm => ?_) e2)
    · rw [hq, hC] at e2; cases e2
    · have := W.fresh a hm
      rw [kb a o e] at this
      cases this
end
end Mine
end

noncomputable section
open PySem PySem.W PyProof.Rows Builtin.Str
set_option maxRecDepth 100000
namespace Mine
/-! the judgements on statements, boxed: Lean looks into no box (it would run the statement) -/
structure BT (X : Cx) (Γ : Fx) (h₀ : Heap) (ρ : Vars) (ss : List Stmt) (d : PyData) : Prop where
  run : Body X Γ h₀ ρ ss d
structure GT (X : Cx) (Γ : Fx) (h₀ : Heap) (ρ : Vars) (ss : List Stmt) (ρ' : Vars) : Prop where
  run : Goes X Γ h₀ ρ ss .next ρ'
section
variable {X : Cx} {Γ : Fx} {h₀ : Heap} {ρ : Vars} {d : PyData} {rest : List Stmt}
theorem bt_assign {x : Str} {e : Expr} {p pos : Pos} {d1 : PyData} (h : Sees X Γ ρ e d1) (hx : Γ.env.kindOf x = some .local ∨ (Γ.env.kindOf x = some .cell ∧ (Γ.env.cells.lookup x).isSome = true))
    (hs : swapsWith e (some (.Name x p)) pos.line Γ.env = pure false) (hr : BT X Γ h₀ ((x, d1) :: ρ) rest d) : BT X Γ h₀ ρ (.Assign [.Name x p] e pos :: rest) d := ⟨body_cons (goes_assign h hx hs) hr.run⟩
theorem bt_assignS {x : Str} {e : Expr} {p pos : Pos} {d1 : PyData} (U : Outer X Γ) (h : SeesS X Γ ρ e d1) (hx : Γ.env.kindOf x = some .local ∨ (Γ.env.kindOf x = some .cell ∧ (Γ.env.cells.lookup x).isSome = true))
    (hs : swapsWith e (some (.Name x p)) pos.line Γ.env = pure false) (hr : BT X Γ h₀ ((x, d1) :: ρ) rest d) : BT X Γ h₀ ρ (.Assign [.Name x p] e pos :: rest) d := ⟨body_cons (goes_assignS U h hx hs) hr.run⟩
theorem bt_cons {st : Stmt} {ρ₁ : Vars} (h1 : GT X Γ h₀ ρ [st] ρ₁) (h2 : BT X Γ h₀ ρ₁ rest d) : BT X Γ h₀ ρ (st :: rest) d := ⟨body_cons h1.run h2.run⟩
theorem bt_skip {t : Expr} {bd : List Stmt} {pos : Pos} (ht : Tests X Γ ρ t false) (h1 : BT X Γ h₀ ρ rest d) : BT X Γ h₀ ρ (.If t bd [] pos :: rest) d := ⟨body_skip ht h1.run⟩
theorem bt_skipS {t : Expr} {bd : List Stmt} {pos : Pos} (U : Outer X Γ) (ht : TestsS X Γ ρ t false) (h1 : BT X Γ h₀ ρ rest d) : BT X Γ h₀ ρ (.If t bd [] pos :: rest) d := ⟨body_skipS U ht h1.run⟩
theorem bt_ret {e : Expr} {pos : Pos} (h : Sees X Γ ρ e d) : BT X Γ h₀ ρ (.Return (some e) pos :: rest) d := ⟨body_ret h⟩
theorem bt_weaken {ss : List Stmt} {ρ' : Vars} (h : BT X Γ h₀ ρ' ss d) (hs : Sub ρ' ρ) : BT X Γ h₀ ρ ss d := ⟨body_weaken h.run hs⟩
theorem gt_assign {x : Str} {e : Expr} {p pos : Pos} {d1 : PyData} (h : Sees X Γ ρ e d1) (hx : Γ.env.kindOf x = some .local ∨ (Γ.env.kindOf x = some .cell ∧ (Γ.env.cells.lookup x).isSome = true))
    (hs : swapsWith e (some (.Name x p)) pos.line Γ.env = pure false) : GT X Γ h₀ ρ [.Assign [.Name x p] e pos] ((x, d1) :: ρ) := ⟨goes_assign h hx hs⟩
theorem gt_nil : GT X Γ h₀ ρ [] ρ := ⟨goes_nil⟩
theorem gt_weaken {ss : List Stmt} {ρ' ρ'' : Vars} (h : GT X Γ h₀ ρ ss ρ') (hs : Sub ρ'' ρ') : GT X Γ h₀ ρ ss ρ'' := ⟨goes_weaken h.run hs⟩
theorem gt_if {t : Expr} {bd el : List Stmt} {pos : Pos} {b : Bool} {ρ' : Vars} (ht : Tests X Γ ρ t b) (h1 : b = true → GT X Γ h₀ ρ bd ρ') (h2 : b = false → GT X Γ h₀ ρ el ρ') : GT X Γ h₀ ρ [.If t bd el pos] ρ' := ⟨goes_if ht (fun h => (h1 h).run) fun h => (h2 h).run⟩
end
end Mine
end

noncomputable section
open PySem PySem.W PyProof.Rows Builtin.Str
set_option maxRecDepth 100000
namespace Mine
section
variable {X : Cx} {Γ : Fx} {h₀ : Heap} {ρ : Vars}

/-- a comprehension stored into a local name: its own names are let go behind the store -/
theorem goes_comp {elt iter tgt : Expr} {ifs : List Expr} {scope : Scope} {cl : List (Str × Addr)} {pos spos py : Pos} {y : Str} {ds : List PyData} {p : PyData → Bool} {f : PyData → PyData} {bs : PyData → Vars} {σ : Vars} {q : Bool}
    (hsw : swapsWith (.ListComp elt [⟨tgt, iter, ifs, 0⟩] scope pos) (some (.Name y py)) spos.line Γ.env = pure true) (hy : Γ.env.kindOf y = some .local)
    (hcl : closureFor scope Γ.env = pure cl) (so : ScOk scope) (hs : ∀ x, foldedSetIterable iter Γ.env x = pure x) (hit : SeesIter X Γ ρ iter tgt ds q) (hz : ds.length ≤ sizeLine)
    (hσ : Capt Γ.env scope cl ρ σ) (hb : ∀ C d, d ∈ ds → Bd X Γ.A (compEnvC scope cl C Γ.env) tgt d (bs d))
    (ht : ∀ C d, d ∈ ds → TestsAll X (Γ.at (compEnvC scope cl C Γ.env)) (bs d ++ σ) ifs (p d)) (he : EltOk X Γ scope cl elt ds p f bs σ q) :
    Goes X Γ h₀ ρ [.Assign [.Name y py] (.ListComp elt [⟨tgt, iter, ifs, 0⟩] scope pos) spos] .next ((y, .list ((ds.filter p).map f)) :: ρ) := fun O s Q E a b => by
  refine wpAny_execs_cons ?_
  rw [exec_Assign_Name_used _ _ _ _ hsw]
  refine wpAny_bind (wpAny_standAt (wpAny_bind ?_))
  show wpAny _ Γ.A (do let _ ← comprehension (.ListComp elt [⟨tgt, iter, ifs, 0⟩] scope pos) scope Γ.env _ (newList []) false (eval iter Γ.env) (some (assign (.Name y py) Γ.env))) _ _ s
  refine wpAny_bind (wpAny_mono (wpAny_comprehension_free (use := some (assign (.Name y py) Γ.env)) (Q := fun _ s' => wpAny X.M Γ.A (execs [] Γ.env) Q E s') rfl hs hcl so.kind so.names ?_) (fun _ s' hq => wpAny_pure (wpAny_pure hq)) fun _ _ e => e)
  show wpAny X.M Γ.A (eval iter Γ.env) _ E s
  have g := good_of O a
  refine hit s _ E g fun base I fp wr St h' tk kb kb' W st hfp sh => ?_
  refine comp_block (f := f) (RR := fun acc C => compPost X.M Γ.A E (some (assign (.Name y py) Γ.env)) (fun _ s' => wpAny X.M Γ.A (execs [] Γ.env) Q E s') acc C) W hz so.cell so.kind (g.keeps kb) kb' st hfp hσ hb ht ?_ ?_
  · intro C D i d s₃ Q' E' hd hp g₃ st₃ hD hwl b'
    exact he wr C D d s₃ Q' E' (mem_of_get? hd) hp g₃ (fun hq => (sh hq _ _ st₃).shy) hD hwl b'
  · intro D C h₂ tk₂ m' hD hC hDC hn r kk
    have kB : base.StaysIn h₂ := fun c o e => kk c o (fun hm => by rw [W.fresh c hm] at e; cases e) (kb' c o e)
    have a₁ := a.keeps kb
    have a₂ := a₁.keeps kB
    have hCb : ∀ c o, base.get? c = some o → c ≠ C := fun c o e q => by rw [q] at e; rw [kb' _ _ e] at hC; cases hC
    have hLC : C ≠ Γ.env.locals := fun q => by obtain ⟨m, o, es, ep, ho, _⟩ := a₁.ns; exact hCb _ _ ho q.symm
    have hcC : ∀ n, (n, C) ∉ Γ.env.cells := fun n hm => by obtain ⟨v, o, ho, _⟩ := a₁.cell n C hm; exact hCb _ _ ho rfl
    show wpAny X.M Γ.A (assign (.Name y py) Γ.env (.ref D)) _ E _
    refine wpAny_assign_Name (store (s := { s with heap := h₂, toks := tk₂ }) O a₂ r (.inl hy) fun h₃ tk₃ k₃ a₃ _ => ?_)
    have hn₃ : h₃.Ns C m' := hn.at' fun o e => k₃ C o hLC hcC e
    refine ⟨m', hn₃, fun h₄ hs₄ => wpAny_execs_nil ?_⟩
    have kC : ∀ c o, c ∉ [C] → h₃.get? c = some o → h₄.get? c = some o := fun c o hc e => (hs₄.2 c fun q => hc (by rw [q]; exact List.mem_singleton_self C)).trans e
    have a₄ : Act X Γ h₀ ((y, .list ((ds.filter p).map f)) :: ρ) h₄ := by
      refine actW a₃ (wr := [C]) ?_ kC ?_ ?_
      · intro c hc
        simp at hc
        subst hc
        obtain ⟨o, es, ep, ho, hd, _⟩ := hn₃
        exact ⟨o, ho, fun vs n q => by rw [hd] at q; cases q⟩
      · intro c hc
        simp at hc
        subst hc
        exact ⟨hLC, hcC⟩
      · intro c o e hc
        simp at hc
        exact hCb c o (a₁.keep c o e) hc
    refine b h₄ tk₃ ?_ a₄
    intro c o h1 h2 e
    have e1 := kb c o e
    exact kC c o (fun hm => hCb c o e1 (by simpa using hm)) (k₃ c o h1 h2 (kB c o e1))
theorem bt_comp {elt iter tgt : Expr} {ifs : List Expr} {scope : Scope} {cl : List (Str × Addr)} {pos spos py : Pos} {y : Str} {ds : List PyData} {p : PyData → Bool} {f : PyData → PyData} {bs : PyData → Vars} {σ : Vars} {q : Bool} {rest : List Stmt} {d dl : PyData}
    (hsw : swapsWith (.ListComp elt [⟨tgt, iter, ifs, 0⟩] scope pos) (some (.Name y py)) spos.line Γ.env = pure true) (hy : Γ.env.kindOf y = some .local)
    (hcl : closureFor scope Γ.env = pure cl) (so : ScOk scope) (hs : ∀ x, foldedSetIterable iter Γ.env x = pure x) (hit : SeesIter X Γ ρ iter tgt ds q) (hz : ds.length ≤ sizeLine)
    (hσ : Capt Γ.env scope cl ρ σ) (hb : ∀ C d, d ∈ ds → Bd X Γ.A (compEnvC scope cl C Γ.env) tgt d (bs d))
    (ht : ∀ C d, d ∈ ds → TestsAll X (Γ.at (compEnvC scope cl C Γ.env)) (bs d ++ σ) ifs (p d)) (he : EltOk X Γ scope cl elt ds p f bs σ q)
    (hd : PyData.list ((ds.filter p).map f) = dl) (hr : BT X Γ h₀ ((y, dl) :: ρ) rest d) : BT X Γ h₀ ρ (.Assign [.Name y py] (.ListComp elt [⟨tgt, iter, ifs, 0⟩] scope pos) spos :: rest) d :=
  ⟨body_cons (goes_comp hsw hy hcl so hs hit hz hσ hb ht he) (hd ▸ hr.run)⟩
end
end Mine
end

noncomputable section
open PySem PySem.W PyProof.Rows Builtin.Str
set_option maxRecDepth 100000
namespace Mine

noncomputable abbrev XX (w : World) (mean : ExcName → Option Value) (mg mb : Str → Option Value) : Cx :=
  { prog := PySem.Challenge.rw_pd0127_01.row.prog, w := w, K := hd.heap_39 w.params, p := hd.view_39, loose := looseW hd.view_39 [], mean := mean, mg := mg, mb := mb }

theorem binds1 {fd : FuncData} {x : Str} {d : PyData} (h : ∀ v, bindArgs fd ⟨[v], []⟩ = pure [(x, v)]) : Binds fd [d] [(x, d)] := fun M A s vs Q E r b => by
  obtain ⟨_, rfl, r1⟩ := r.one
  rw [h]
  exact wpAny_pure (b _ s.heap s.toks (stays_refl _) ⟨rfl, .cons r1 .nil⟩)

section
variable {w : World} {mean : ExcName → Option Value} {mg mb : Str → Option Value}

set_option maxHeartbeats 1000000 in
theorem fn_fspath {n : Nat} {x : Str} : Fn (XX w mean mg mb) (n + 1) (.ref 94) [.str x] (.str x) := by
  refine' fn_of ?k1 ?k2 ?k3 ?k4 ?k5 ?k6 ?k7 ?k8 ?k9 ?kb ?kn ?kk ?kc ?_
  (case k1 => exact rfl); (case k2 => exact rfl); (case k3 => exact rfl); (case k4 => exact rfl); (case k5 => exact rfl); (case k6 => exact rfl); (case k7 => exact rfl); (case k8 => exact rfl); (case k9 => exact rfl)
  case kb => exact binds1 (x := Str.ofString "path") fun v => rfl
  case kn => simp
  case kk => intro n y hy; simp at hy; subst hy; exact .inl rfl
  case kc => intro L; exact List.nodup_nil
  intro A base outer L h₀
  exact body_fspath rfl rfl rfl rfl rfl rfl rfl rfl rfl rfl

set_option maxHeartbeats 1000000 in
theorem fn_get_sep {n : Nat} {x : Str} : Fn (XX w mean mg mb) (n + 1) (.ref 108) [.str x] (.str (Str.ofString "/")) := by
  refine' fn_of ?k1 ?k2 ?k3 ?k4 ?k5 ?k6 ?k7 ?k8 ?k9 ?kb ?kn ?kk ?kc ?_
  (case k1 => exact rfl); (case k2 => exact rfl); (case k3 => exact rfl); (case k4 => exact rfl); (case k5 => exact rfl); (case k6 => exact rfl); (case k7 => exact rfl); (case k8 => exact rfl); (case k9 => exact rfl)
  case kb => exact binds1 (x := Str.ofString "path") fun v => rfl
  case kn => simp
  case kk => intro n y hy; simp at hy; subst hy; exact .inl rfl
  case kc => intro L; exact List.nodup_nil
  intro A base outer L h₀
  refine body_if_else (tests_isbytes rfl rfl rfl rfl (sees_name rfl (by decide)) fun _ => rfl) (body_ret sees_str)
end
end Mine
end

noncomputable section
open PySem PySem.W PyProof.Rows Builtin.Str
set_option maxRecDepth 100000
namespace Mine
section
variable {w : World} {mean : ExcName → Option Value} {mg mb : Str → Option Value}

/-- what split gives -/
noncomputable def splitHead (x : Str) : Str :=
  let h := Txt.slice x none (some (Txt.rfind x (Str.ofString "/") + 1))
  if (h.length != 0 && (h != Txt.mul (Str.ofString "/") h.length)) = true then Txt.rstripChars h (Str.ofString "/") else h
noncomputable def splitTail (x : Str) : Str := Txt.slice x (some (Txt.rfind x (Str.ofString "/") + 1)) none

set_option maxHeartbeats 1000000 in
theorem fn_split {n : Nat} {x : Str} (hz : x.length ≤ 100000) : Fn (XX w mean mg mb) (n + 2) (.ref 122) [.str x] (.tuple [.str (splitHead x), .str (splitTail x)]) := by
  have hz' : x.length ≤ sizeLine := sz_k hz rfl
  have hzh : (Txt.slice x none (some (Txt.rfind x (Str.ofString "/") + 1))).length ≤ 100000 := Nat.le_trans (Txt.slice_le _ _ _) hz
  refine' fn_of ?k1 ?k2 ?k3 ?k4 ?k5 ?k6 ?k7 ?k8 ?k9 ?kb ?kn ?kk ?kc ?_
  (case k1 => exact rfl); (case k2 => exact rfl); (case k3 => exact rfl); (case k4 => exact rfl); (case k5 => exact rfl); (case k6 => exact rfl); (case k7 => exact rfl); (case k8 => exact rfl); (case k9 => exact rfl)
  case kb => exact binds1 (x := Str.ofString "p") fun v => rfl
  case kn => simp
  case kk => intro n y hy; simp at hy; subst hy; exact .inl rfl
  case kc => intro L; exact List.nodup_nil
  intro A base outer L h₀
  refine body_cons (goes_assign (sees_call rfl (by decide) rfl rfl (Nat.le_add_left 1 n) fn_fspath (sees_cons (by exact sees_name rfl (by decide)) sees_nil fun _ => rfl) (fun _ => rfl) (fun _ _ => rfl)) (.inl rfl) rfl) ?_
  refine body_cons (goes_assign (sees_call rfl (by decide) rfl rfl (Nat.le_add_left 1 n) fn_get_sep (sees_cons (by exact sees_name rfl (by decide)) sees_nil fun _ => rfl) (fun _ => rfl) (fun _ _ => rfl)) (.inl rfl) rfl) ?_
  refine body_cons (goes_assign (sees_bin bin_add_int (sees_rfind (by exact sees_name rfl (by decide)) (by exact sees_name rfl (by decide)) (fun _ => rfl) (fun _ => rfl) rfl) sees_int) (.inl rfl) rfl) ?_
  refine body_cons (goes_pair (sees_tuple (sees_cons (sees_slice_str (by exact sees_name rfl (by decide)) part_none (part_some (by exact sees_name rfl (by decide))) hz') (sees_cons (sees_slice_str (by exact sees_name rfl (by decide)) (part_some (by exact sees_name rfl (by decide))) part_none hz') sees_nil fun _ => rfl) fun _ => rfl)) rfl rfl rfl rfl) ?_
  refine' body_cons (goes_if (ρ' := [(Str.ofString "head", .str (splitHead x)), (Str.ofString "tail", .str (splitTail x))]) ?t ?a ?b) ?c
  case t =>
    refine' tests_and2 (tests_of ?n1 ?s1 fun _ _ => rfl) fun _ => tests_cmp cmp_ne_str ?n2 (sees_bin (bin_mul_str ?z1 ?z2 ?z3) ?n3 (sees_blt rfl (by decide) rfl (by decide +kernel) (by decide) (blt_len_str ?z4) (sees_cons ?n4 sees_nil fun _ => rfl) (fun _ => rfl) (fun _ _ => rfl))) rfl
    case n1 => exact sees_name rfl (by decide)
    case n2 => exact sees_name rfl (by decide)
    case n3 => exact sees_name rfl (by decide)
    case n4 => exact sees_name rfl (by decide)
    case s1 => exact decide_eq_true (Nat.le_trans hzh (by decide))
    case z1 => exact Int.ofNat_lt.mpr (Nat.lt_of_le_of_lt hzh (by decide))
    case z2 => exact Int.natCast_nonneg _
    case z3 => decide
    case z4 => exact sz_k hzh rfl
  case a =>
    intro hb
    simp only [truth] at hb
    refine goes_weaken (goes_assign (sees_rstrip (sz_k hzh rfl) (by exact sees_name rfl (by decide)) (by exact sees_name rfl (by decide)) (fun _ => rfl) (fun _ => rfl) rfl) (.inl rfl) rfl) ?_
    refine sub_cons ?_ (sub_cons rfl sub_nil)
    unfold splitHead
    simp only []
    rw [if_pos hb]
    rfl
  case b =>
    intro hb
    simp only [truth] at hb
    refine goes_weaken goes_nil ?_
    refine sub_cons ?_ (sub_cons rfl sub_nil)
    unfold splitHead
    simp only []
    rw [if_neg (by rw [hb]; decide)]
    rfl
  case c => exact body_ret (sees_tuple (sees_cons (by exact sees_name rfl (by decide)) (sees_cons (by exact sees_name rfl (by decide)) sees_nil fun _ => rfl) fun _ => rfl))
end
end Mine
end

noncomputable section
open PySem PySem.W PyProof.Rows Builtin.Str
set_option maxRecDepth 100000
namespace Mine
section
variable {w : World} {mean : ExcName → Option Value} {mg mb : Str → Option Value}

noncomputable def dbl (x : Str) : Str := Txt.replace x (Str.ofString "\"") (Str.ofString "\"\"")

set_option maxHeartbeats 1000000 in
theorem fn_doubled {n : Nat} {x : Str} (hz : x.length ≤ 100000) : Fn (XX w mean mg mb) (n + 1) (.ref 166) [.str x] (.str (dbl x)) := by
  intro A base outer s vs Q E hh hdp hun B hok hr b
  obtain ⟨_, rfl, r1⟩ := hr.one
  obtain ⟨t, rfl⟩ := r1.str_inv
  refine' wpAny_call (codeAny_call_def (binds := [(Str.ofString "name", .str x t)]) ?k1 (hok.k _ _ ?k2) ?k3 hok.t.nolimit (codeRec_of hok.k ?k4) ?k5 ?k6 ?k7 ?k8 ?_ ?c1 ?c2 ?c3)
  case k1 => omega
  case k2 => exact rfl
  case k3 => exact rfl
  case k4 => exact rfl
  case k5 => exact rfl
  case k6 => exact BindsTo.of_eq rfl
  case k7 => decide
  case k8 => exact locs rfl
  case c1 => exact rfl
  case c2 => exact rfl
  case c3 => exact rfl
  intro h₀ hns hk
  refine wpAny_execs_cons (wpAny_Return_some (Call_method2 rfl rfl rfl (wpAny_Name (wpAny_loadName_local rfl rfl hns rfl ?_) (by decide))))
  refine ⟨"str", _, F.plainAttrs_str, F.slot_str_replace, F.type_str_replace, typeIs_str _ _ _, (fun _ e => nomatch e), ?_⟩
  refine Calls.callWith_builtin rfl (Calls.evalArgs_plain (Calls.spliced_cons (wpAny_Constant_str (Calls.spliced_cons (wpAny_Constant_str (Calls.spliced_nil ?_))))))
  refine SC.replace ?_ ?_ ?_ (by decide) ?_ fun t' k => ?_
  · exact Nat.succ_ne_zero _
  · exact Nat.succ_ne_zero _
  · exact Nat.ne_of_lt (Nat.lt_succ_self _)
  · have : (Str.ofString "\"\"").length = 2 := by decide
    rw [this]; omega
  · exact b _ h₀ k hk (.str _ _)
end
end Mine
end

noncomputable section
open PySem PySem.W PyProof.Rows Builtin.Str
set_option maxRecDepth 100000
namespace Mine
theorem binds2 {fd : FuncData} {x y : Str} {d e : PyData} (h : ∀ v u, bindArgs fd ⟨[v, u], []⟩ = pure [(x, v), (y, u)]) : Binds fd [d, e] [(x, d), (y, e)] := fun M A s vs Q E r b => by
  obtain ⟨_, _, rfl, r1, r'⟩ := r.cons_inv
  obtain ⟨_, rfl, r2⟩ := r'.one
  rw [h]
  exact wpAny_pure (b _ s.heap s.toks (stays_refl _) ⟨rfl, .cons r1 (.cons r2 .nil)⟩)
theorem binds3 {fd : FuncData} {x y z : Str} {d e f : PyData} (h : ∀ v u t, bindArgs fd ⟨[v, u, t], []⟩ = pure [(x, v), (y, u), (z, t)]) : Binds fd [d, e, f] [(x, d), (y, e), (z, f)] := fun M A s vs Q E r b => by
  obtain ⟨_, _, rfl, r1, r'⟩ := r.cons_inv
  obtain ⟨_, _, rfl, r2, r''⟩ := r'.cons_inv
  obtain ⟨_, rfl, r3⟩ := r''.one
  rw [h]
  exact wpAny_pure (b _ s.heap s.toks (stays_refl _) ⟨rfl, .cons r1 (.cons r2 (.cons r3 .nil))⟩)

/-- what _law_due gives -/
noncomputable def dueRest (st nm reply : Str) : List PyData :=
  if (Txt.slice st none (some 3) != Str.ofString "257") = true then [.str (Str.ofString "refused"), .str reply]
  else [.str (Str.ofString "told"), .str (if (Txt.slice st (some 3) none == Str.ofString " \"") = true then nm else Str.ofString "")]
noncomputable def due (st nm en : Str) : List PyData := .str (st ++ dbl nm ++ en) :: dueRest st nm (st ++ dbl nm ++ en)

section
variable {w : World} {mean : ExcName → Option Value} {mg mb : Str → Option Value}

set_option maxHeartbeats 1000000 in
theorem fn_due {n : Nat} {st nm en : Str} (h1 : st.length ≤ 100) (h2 : nm.length ≤ 100000) (h2' : (dbl nm).length ≤ 200000) (h3 : en.length ≤ 100) :
    Fn (XX w mean mg mb) (n + 2) (.ref 185) [.str st, .str nm, .str en] (.tuple (due st nm en)) := by
  refine' fn_of ?k1 ?k2 ?k3 ?k4 ?k5 ?k6 ?k7 ?k8 ?k9 ?kb ?kn ?kk ?kc ?_
  (case k1 => exact rfl); (case k2 => exact rfl); (case k3 => exact rfl); (case k4 => exact rfl); (case k5 => exact rfl); (case k6 => exact rfl); (case k7 => exact rfl); (case k8 => exact rfl); (case k9 => exact rfl)
  case kb => exact binds3 (x := Str.ofString "start") (y := Str.ofString "name") (z := Str.ofString "end") fun v u t => rfl
  case kn => show ([Str.ofString "start", Str.ofString "name", Str.ofString "end"] : List Str).Nodup; decide
  case kk => intro n y hy; simp at hy; rcases hy with rfl | rfl | rfl <;> exact .inl rfl
  case kc => intro L; exact List.nodup_nil
  intro A base outer L h₀
  refine body_cons (goes_assign (sees_add_str (sees_add_str (by exact sees_name rfl (by decide)) (sees_call1 (by exact sees_name rfl (by decide)) (fn_doubled h2) (Nat.le_add_left 1 n) rfl (by decide) rfl rfl fun _ => rfl) (sz_k (Nat.add_le_add h1 h2') rfl)) (by exact sees_name rfl (by decide)) (sz_k (Nat.add_le_add (ap_k h1 h2') h3) rfl)) (.inl rfl) rfl) ?_
  have ht : ∀ {Γ : Fx} {ρ : Vars} {p1 p2 p3 p4 p5 p6 : Pos} {k1 k2 : Nat}, ρ.lookup (Str.ofString "start") = some (.str st) → Tests (XX w mean mg mb) Γ ρ (.Compare (.Subscript (.Name (Str.ofString "start") p1) (.Slice none (some (.Constant (.int 3) k1 p2)) none p3) p4) [.NotEq] [.Constant (.str (Str.ofString "257")) k2 p5] p6) (Txt.slice st none (some 3) != Str.ofString "257") :=
    fun hl => tests_cmp cmp_ne_str (sees_slice_str (sees_name hl (by decide)) part_none (part_some sees_int) (sz_k h1 rfl)) sees_str rfl
  by_cases hc : (Txt.slice st none (some 3) != Str.ofString "257") = true
  · refine body_if (tests_is (ht rfl) hc) ?_
    unfold due dueRest
    rw [if_pos hc]
    exact body_ret (sees_tuple (sees_cons (by exact sees_name rfl (by decide)) (sees_cons sees_str (sees_cons (by exact sees_name rfl (by decide)) sees_nil fun _ => rfl) fun _ => rfl) fun _ => rfl))
  · refine body_skip (tests_is (ht rfl) (by simpa using hc)) ?_
    unfold due dueRest
    rw [if_neg hc]
    refine body_ret (sees_tuple (sees_cons (by exact sees_name rfl (by decide)) (sees_cons sees_str (sees_cons (sees_ite (tests_cmp cmp_eq_str (sees_slice_str (by exact sees_name rfl (by decide)) (part_some sees_int) part_none (sz_k h1 rfl)) sees_str rfl) ?_ ?_) sees_nil fun _ => rfl) fun _ => rfl) fun _ => rfl))
    · intro hb; rw [if_pos hb]; exact sees_name rfl (by decide)
    · intro hb; rw [if_neg (by rw [hb]; decide)]; exact sees_str
end
end Mine
end

noncomputable section
open PySem PySem.W PyProof.Rows Builtin.Str
set_option maxRecDepth 100000
namespace Mine

/-- a text up to a quote that stands alone, its doubled quotes single -/
noncomputable def unq : List Nat → List Nat
  | [] => []
  | [c] => if c = 34 then [] else [c]
  | c :: d :: r => if c = 34 then (if d = 34 then 34 :: unq r else []) else c :: unq (d :: r)

theorem str_ext {x y : Str} (h : x.cps.toList = y.cps.toList) : x = y := by
  obtain ⟨a⟩ := x; obtain ⟨b⟩ := y
  simp only at h
  rw [Array.toList_inj.mp h]
theorem app_toList (x y : Str) : (x ++ y).cps.toList = x.cps.toList ++ y.cps.toList := by
  show (x.cps ++ y.cps).toList = _
  simp

theorem one_ne {c : Nat} (h : c ≠ 34) : ((⟨#[c]⟩ : Str) != Str.ofString "\"") = true := by
  rw [bne_iff_ne]
  intro e
  have : (#[c] : Array Nat) = #[34] := congrArg Str.cps (e.trans (show Str.ofString "\"" = ⟨#[34]⟩ by decide))
  simp at this
  exact h this
theorem one_ne' {c : Nat} (h : c ≠ 34) : ((⟨#[c]⟩ : Str) == Str.ofString "\"") = false := by
  have := one_ne h
  simpa [bne] using this
theorem unq_other {c : Nat} (h : c ≠ 34) : ∀ r, unq (c :: r) = c :: unq r
  | [] => by simp [unq, h]
  | d :: r => by simp [unq, h]

noncomputable def pV (x : Str) (a : Nat × Str) : Vars := [(Str.ofString "i", .int a.1), (Str.ofString "dirname", .str a.2), (Str.ofString "n", .int x.length), (Str.ofString "resp", .str x)]
noncomputable def pP (x : Str) (a : Nat × Str) : Prop := a.1 ≤ x.length ∧ a.2.cps.toList ++ unq (x.cps.toList.drop a.1) = unq (x.cps.toList.drop 5) ∧ a.2.length ≤ a.1

section
variable {w : World} {mean : ExcName → Option Value} {mg mb : Str → Option Value}

/-- what parse257 gives, where it does not refuse -/
noncomputable def parsed (x : Str) : Str := if (Txt.slice x (some 3) (some 5) != Str.ofString " \"") = true then Str.ofString "" else ⟨(unq (x.cps.toList.drop 5)).toArray⟩

theorem dropAt {l : List Nat} {k : Nat} {c : Nat} (h : l[k]? = some c) : l.drop k = c :: l.drop (k + 1) := by
  obtain ⟨hk, e⟩ := List.getElem?_eq_some_iff.mp h
  rw [List.drop_eq_getElem_cons hk, e]

set_option maxHeartbeats 4000000 in
theorem fn_parse {n : Nat} {x : Str} (hz : x.length ≤ 100000) (hc : Txt.slice x none (some 3) = Str.ofString "257") : Fn (XX w mean mg mb) (n + 1) (.ref 154) [.str x] (.str (parsed x)) := by
  have hz' : x.length ≤ sizeLine := sz_k hz rfl
  have hlen : x.cps.toList.length = x.length := by simp [Str.length]
  refine' fn_of ?k1 ?k2 ?k3 ?k4 ?k5 ?k6 ?k7 ?k8 ?k9 ?kb ?kn ?kk ?kc ?_
  (case k1 => exact rfl); (case k2 => exact rfl); (case k3 => exact rfl); (case k4 => exact rfl); (case k5 => exact rfl); (case k6 => exact rfl); (case k7 => exact rfl); (case k8 => exact rfl); (case k9 => exact rfl)
  case kb => exact binds1 (x := Str.ofString "resp") fun v => rfl
  case kn => simp
  case kk => intro n y hy; simp at hy; subst hy; exact .inl rfl
  case kc => intro L; exact List.nodup_nil
  intro A base outer L h₀
  refine body_skip (tests_is (tests_cmp cmp_ne_str (sees_slice_str (by exact sees_name rfl (by decide)) part_none (part_some sees_int) hz') sees_str rfl) (by rw [hc]; decide)) ?_
  by_cases h2 : (Txt.slice x (some 3) (some 5) != Str.ofString " \"") = true
  · refine body_if (tests_is (tests_cmp cmp_ne_str (sees_slice_str (by exact sees_name rfl (by decide)) (part_some sees_int) (part_some sees_int) hz') sees_str rfl) h2) ?_
    unfold parsed
    rw [if_pos h2]
    exact body_ret sees_str
  refine body_skip (tests_is (tests_cmp cmp_ne_str (sees_slice_str (by exact sees_name rfl (by decide)) (part_some sees_int) (part_some sees_int) hz') sees_str rfl) (by simpa using h2)) ?_
  refine body_cons (goes_assign sees_str (.inl rfl) rfl) ?_
  refine body_cons (goes_assign sees_int (.inl rfl) rfl) ?_
  refine body_cons (goes_assign (sees_len_str (by exact sees_name rfl (by decide)) hz' rfl rfl fun _ => rfl) (.inl rfl) rfl) ?_
  have h5 : 5 ≤ x.length := by
    have e : Txt.slice x (some 3) (some 5) = Str.ofString " \"" := by simpa using h2
    have e2 := congrArg (fun y : Str => y.cps.toList.length) e
    simp only [slice_toList] at e2
    rw [show pk x.cps.toList (some 3) (some 5) = (x.cps.toList.take 5).drop 3 from pk_run _ 3 5] at e2
    rw [List.length_drop, List.length_take, hlen, show (Str.ofString " \"").cps.toList.length = 2 by decide] at e2
    omega
  refine body_weaken (ρ' := pV x (5, Str.ofString "")) ?_ (sub_cons rfl (sub_cons rfl (sub_cons rfl (sub_cons rfl sub_nil))))
  refine body_cons (goes_while (pV x) (fun a => x.length - a.1) [(Str.ofString "dirname", .str (parsed x))] (pP x) (a₀ := (5, Str.ofString "")) ⟨h5, rfl, by decide⟩ ?_) (body_ret (by exact sees_name rfl (by decide)))
  rintro ⟨k, acc⟩ ⟨hk, hacc, hal⟩
  simp only at hk hacc hal
  have fin : unq (x.cps.toList.drop k) = [] → acc = parsed x := fun e => by
    unfold parsed
    rw [if_neg h2]
    apply str_ext
    rw [e, List.append_nil] at hacc
    simp [hacc]
  refine ⟨decide ((k : Int) < x.length), tests_cmp cmp_lt (by exact sees_name rfl (by decide)) (by exact sees_name rfl (by decide)) rfl, fun hb => ?_, fun hb => ?_⟩
  · have hge : x.cps.toList.length ≤ k := Int.ofNat_le.mp (Int.not_lt.mp (of_decide_eq_false hb))
    have e : acc = parsed x := fin (by rw [List.drop_eq_nil_of_le hge]; rfl)
    exact sub_cons (by rw [← e]; rfl) sub_nil
  have hlt : k < x.cps.toList.length := Int.ofNat_lt.mp (of_decide_eq_true hb)
  obtain ⟨c, hcc⟩ : ∃ c, x.cps.toList[k]? = some c := ⟨_, List.getElem?_eq_getElem hlt⟩
  have hdrop := dropAt hcc
  have s1 : ∀ {ρ : Vars} {Γ : Fx} {p1 p2 p3 : Pos}, ρ.lookup (Str.ofString "resp") = some (.str x) → ρ.lookup (Str.ofString "i") = some (.int k) → Sees (XX w mean mg mb) Γ ρ (.Subscript (.Name (Str.ofString "resp") p1) (.Name (Str.ofString "i") p2) p3) (.str ⟨#[c]⟩) :=
    fun h1 h2 => sees_item_str (sees_name h1 (by decide)) (sees_name h2 (by decide)) hcc hz' fun _ _ _ _ => rfl
  by_cases hq : c = 34
  · subst hq
    have tq : ((⟨#[34]⟩ : Str) == Str.ofString "\"") = true := by decide
    by_cases hend : x.length ≤ k + 1
    · refine .inr ?_
      have e : acc = parsed x := fin (by rw [hdrop, List.drop_eq_nil_of_le (show x.cps.toList.length ≤ k + 1 from hend)]; rfl)
      refine' ⟨_, goes_cons (goes_assign (s1 rfl rfl) (.inl rfl) rfl) (goes_cons (goes_assign (sees_add_int (by exact sees_name rfl (by decide)) sees_int) (.inl rfl) rfl) (goes_stop (goes_if (tests_is (tests_cmp cmp_eq_str (by exact sees_name rfl (by decide)) sees_str rfl) tq) (fun _ => goes_stop (goes_if (tests_is (c := true) (tests_or2 (tests_cmp cmp_ge (by exact sees_name rfl (by decide)) (by exact sees_name rfl (by decide)) rfl) (b2 := false) ?g1) ?g2) (fun _ => goes_break) ?g3)) ?g4))), ?g5⟩
      case g1 => intro h; exact absurd (Int.ofNat_le.mpr hend) (of_decide_eq_false h)
      case g2 => exact Bool.or_eq_true_iff.mpr (.inl (decide_eq_true (Int.ofNat_le.mpr hend)))
      case g3 => intro h; cases h
      case g4 => intro h; cases h
      case g5 => exact sub_cons (by rw [← e]; rfl) sub_nil
    have hlt2 : k + 1 < x.cps.toList.length := Nat.not_le.mp hend
    obtain ⟨c2, hc2⟩ : ∃ c, x.cps.toList[k + 1]? = some c := ⟨_, List.getElem?_eq_getElem hlt2⟩
    have hdrop2 := dropAt hc2
    have s2 : ∀ {ρ : Vars} {Γ : Fx} {p1 p2 p3 : Pos}, ρ.lookup (Str.ofString "resp") = some (.str x) → ρ.lookup (Str.ofString "i") = some (.int ((k : Int) + 1)) → Sees (XX w mean mg mb) Γ ρ (.Subscript (.Name (Str.ofString "resp") p1) (.Name (Str.ofString "i") p2) p3) (.str ⟨#[c2]⟩) :=
      fun h1 h2 => sees_item_str (k := k + 1) (sees_name h1 (by decide)) (sees_name h2 (by decide)) hc2 hz' fun _ _ _ _ => rfl
    by_cases hq2 : c2 = 34
    · subst hq2
      refine .inl ?_
      refine' ⟨(k + 2, acc ++ ⟨#[34]⟩), _, ⟨?p1, ?p2, ?p3⟩, ?pm, goes_cons (goes_assign (s1 rfl rfl) (.inl rfl) rfl) (goes_cons (goes_assign (sees_add_int (by exact sees_name rfl (by decide)) sees_int) (.inl rfl) rfl) (goes_cons (goes_if (tests_is (tests_cmp cmp_eq_str (by exact sees_name rfl (by decide)) sees_str rfl) tq) (fun _ => goes_cons (goes_if (tests_is (c := false) (tests_or2 (tests_cmp cmp_ge (by exact sees_name rfl (by decide)) (by exact sees_name rfl (by decide)) rfl) (b2 := false) ?g1) ?g2) ?g3 (fun _ => goes_nil)) (goes_assign (sees_add_int (by exact sees_name rfl (by decide)) sees_int) (.inl rfl) rfl)) ?g4) (goes_assign (sees_add_str (by exact sees_name rfl (by decide)) (by exact sees_name rfl (by decide)) ?z) (.inl rfl) rfl))), ?gs⟩
      case p1 => exact hlt2
      case p2 =>
        show (acc ++ ⟨#[34]⟩ : Str).cps.toList ++ unq (x.cps.toList.drop (k + 2)) = _
        rw [← hacc, hdrop, hdrop2, app_toList]
        simp [unq]
      case p3 => exact Nat.le_succ_of_le (ap_k (b := 1) hal (Nat.le_refl 1))
      case pm => exact Nat.sub_lt_sub_left hlt (Nat.lt_succ_of_lt (Nat.lt_succ_self k))
      case g1 => intro _; exact tests_is (tests_cmp cmp_ne_str (s2 rfl rfl) sees_str rfl) (by decide)
      case g2 => exact congrArg (· || false) (decide_eq_false (Int.not_le.mpr (Int.ofNat_lt.mpr hlt2)))
      case g3 => intro h; cases h
      case g4 => intro h; cases h
      case z => exact sz_k (Nat.add_le_add (Nat.le_trans hal (Nat.le_trans hk hz)) (Nat.le_refl 1)) rfl
      case gs => exact sub_cons (by show some (PyData.int ((k : Int) + 1 + 1)) = some (.int ((k + 2 : Nat) : Int)); congr 2) (sub_cons rfl (sub_cons rfl (sub_cons rfl sub_nil)))
    · refine .inr ?_
      have e : acc = parsed x := fin (by rw [hdrop, hdrop2]; simp [unq, hq2])
      refine' ⟨_, goes_cons (goes_assign (s1 rfl rfl) (.inl rfl) rfl) (goes_cons (goes_assign (sees_add_int (by exact sees_name rfl (by decide)) sees_int) (.inl rfl) rfl) (goes_stop (goes_if (tests_is (tests_cmp cmp_eq_str (by exact sees_name rfl (by decide)) sees_str rfl) tq) (fun _ => goes_stop (goes_if (tests_is (c := true) (tests_or2 (tests_cmp cmp_ge (by exact sees_name rfl (by decide)) (by exact sees_name rfl (by decide)) rfl) (b2 := true) ?g1) ?g2) (fun _ => goes_break) ?g3)) ?g4))), ?g5⟩
      case g1 => intro _; exact tests_is (tests_cmp cmp_ne_str (s2 rfl rfl) sees_str rfl) (one_ne hq2)
      case g2 => simp
      case g3 => intro h; cases h
      case g4 => intro h; cases h
      case g5 => exact sub_cons (by rw [← e]; rfl) sub_nil
  · refine .inl ?_
    refine' ⟨(k + 1, acc ++ ⟨#[c]⟩), _, ⟨?p1, ?p2, ?p3⟩, ?pm, goes_cons (goes_assign (s1 rfl rfl) (.inl rfl) rfl) (goes_cons (goes_assign (sees_add_int (by exact sees_name rfl (by decide)) sees_int) (.inl rfl) rfl) (goes_cons (goes_if (tests_is (tests_cmp cmp_eq_str (by exact sees_name rfl (by decide)) sees_str rfl) (one_ne' hq)) ?g3 (fun _ => goes_nil)) (goes_assign (sees_add_str (by exact sees_name rfl (by decide)) (by exact sees_name rfl (by decide)) ?z) (.inl rfl) rfl))), ?gs⟩
    case p1 => exact hlt
    case p2 =>
      show (acc ++ ⟨#[c]⟩ : Str).cps.toList ++ unq (x.cps.toList.drop (k + 1)) = _
      rw [← hacc, hdrop, app_toList]
      rw [unq_other hq]
      simp
    case p3 => exact ap_k (b := 1) hal (Nat.le_refl 1)
    case pm => exact Nat.sub_lt_sub_left hlt (Nat.lt_succ_self k)
    case g3 => intro h; cases h
    case z => exact sz_k (Nat.add_le_add (Nat.le_trans hal (Nat.le_trans hk hz)) (Nat.le_refl 1)) rfl
    case gs => exact sub_cons rfl (sub_cons rfl (sub_cons rfl (sub_cons rfl sub_nil)))
end
end Mine
end

noncomputable section
open PySem PySem.W PyProof.Rows Builtin.Str
set_option maxRecDepth 100000
namespace Mine
noncomputable def slash : Str := Str.ofString "/"
noncomputable def joinStep (path b : Str) : Str :=
  if (Txt.startswith b slash || !(path.length != 0)) = true then b else if Txt.endswith path slash = true then path ++ b else path ++ (slash ++ b)
noncomputable def joinAll (a : Str) (bs : List Str) : Str := bs.foldl joinStep a
noncomputable def tot (bs : List Str) : Nat := (bs.map fun b => b.length + 1).sum
theorem slash_len : slash.length = 1 := by decide
theorem joinStep_len (a b : Str) : (joinStep a b).length ≤ a.length + (b.length + 1) := by
  unfold joinStep
  split
  · exact Nat.le_trans (Nat.le_succ _) (Nat.le_add_left _ _)
  · split
    · rw [Str.length_append]; exact Nat.add_le_add_left (Nat.le_succ _) _
    · rw [Str.length_append, Str.length_append, slash_len, Nat.add_comm 1]; exact Nat.le_refl _
theorem joinAll_len : ∀ (bs : List Str) (a : Str), (joinAll a bs).length ≤ a.length + tot bs
  | [], a => by simp [joinAll, tot]
  | b :: bs, a => by
    show (joinAll (joinStep a b) bs).length ≤ a.length + ((b.length + 1) + tot bs)
    rw [← Nat.add_assoc]
    exact Nat.le_trans (joinAll_len bs (joinStep a b)) (Nat.add_le_add_right (joinStep_len a b) _)
theorem tot_take (bs : List Str) (i : Nat) : tot (bs.take i) ≤ tot bs := by
  induction bs generalizing i with
  | nil => simp
  | cons b bs ih =>
    cases i with
    | zero => simp [tot]
    | succ i => exact Nat.add_le_add_left (ih i) (b.length + 1)
theorem tot_mem {bs : List Str} {b : Str} (h : b ∈ bs) : b.length + 1 ≤ tot bs := by
  induction bs with
  | nil => cases h
  | cons c bs ih =>
    show b.length + 1 ≤ (c.length + 1) + tot bs
    rcases List.mem_cons.mp h with rfl | h
    · exact Nat.le_add_right _ _
    · exact Nat.le_trans (ih h) (Nat.le_add_left _ _)

theorem len_tot : ∀ bs : List Str, bs.length ≤ tot bs
  | [] => Nat.zero_le _
  | b :: bs => by
    show bs.length + 1 ≤ (b.length + 1) + tot bs
    rw [Nat.add_comm (b.length + 1)]
    exact Nat.add_le_add (len_tot bs) (Nat.le_add_left 1 _)

theorem tot_le {b : Nat} : ∀ {l : List Str}, (∀ x ∈ l, x.length ≤ b) → tot l ≤ l.length * (b + 1)
  | [], _ => by simp [tot]
  | x :: l, h => by
    have h1 := tot_le fun y hy => h y (List.mem_cons_of_mem _ hy)
    have h2 := h x List.mem_cons_self
    show (x.length + 1) + tot l ≤ (l.length + 1) * (b + 1)
    rw [Nat.succ_mul, Nat.add_comm]
    exact Nat.add_le_add h1 (Nat.succ_le_succ h2)

section
variable {w : World} {mean : ExcName → Option Value} {mg mb : Str → Option Value}

theorem binds_star {fd : FuncData} {x y : Str} {d : PyData} {ds : List PyData} (h : ∀ v vs, bindArgs fd ⟨v :: vs, []⟩ = newTuple vs >>= fun t => pure [(x, v), (y, t)]) (hz : ds.length ≤ sizeLine) : Binds fd (d :: ds) [(x, d), (y, .tuple ds)] := fun M A s vs Q E r b => by
  obtain ⟨v, vs, rfl, r1, r2⟩ := r.cons_inv
  rw [h]
  exact wpAny_bind (wpAny_newTuple (wpAny_pure (b _ _ s.toks (stays_push _ _) ⟨rfl, .cons (r1.keeps (stays_push _ _)) (.cons (Rd.new_tuple r2) .nil)⟩)) (r2.length ▸ hz))

noncomputable def jV (a : Str) (bs : List Str) (i : Nat) : Vars := [(Str.ofString "path", .str (joinAll a (bs.take i))), (Str.ofString "sep", .str slash), (Str.ofString "p", .tuple (txts bs))]

set_option maxHeartbeats 4000000 in
theorem fn_join {n : Nat} {a : Str} {bs : List Str} (hz : a.length + tot bs ≤ 100000) : Fn (XX w mean mg mb) (n + 2) (.ref 115) (txts (a :: bs)) (.str (joinAll a bs)) := by
  refine' fn_of ?k1 ?k2 ?k3 ?k4 ?k5 ?k6 ?k7 ?k8 ?k9 ?kb ?kn ?kk ?kc ?_
  (case k1 => exact rfl); (case k2 => exact rfl); (case k3 => exact rfl); (case k4 => exact rfl); (case k5 => exact rfl); (case k6 => exact rfl); (case k7 => exact rfl); (case k8 => exact rfl); (case k9 => exact rfl)
  case kb =>
    exact binds_star (x := Str.ofString "a") (y := Str.ofString "p") (fun v vs => by cases vs <;> rfl) (ll_k (mp_k (Nat.le_trans (len_tot bs) (Nat.le_trans (Nat.le_add_left _ _) hz))) rfl)
  case kn => show ([Str.ofString "a", Str.ofString "p"] : List Str).Nodup; decide
  case kk => intro n y hy; simp at hy; rcases hy with rfl | rfl <;> exact .inl rfl
  case kc => intro L; exact List.nodup_nil
  intro A base outer L h₀
  refine body_cons (goes_assign (sees_call1 (by exact sees_name rfl (by decide)) fn_fspath (Nat.le_add_left 1 n) rfl (by decide) rfl rfl fun _ => rfl) (.inl rfl) rfl) ?_
  refine body_cons (goes_assign (sees_call1 (by exact sees_name rfl (by decide)) fn_get_sep (Nat.le_add_left 1 n) rfl (by decide) rfl rfl fun _ => rfl) (.inl rfl) rfl) ?_
  refine body_cons (goes_assign (by exact sees_name rfl (by decide)) (.inl rfl) rfl) ?_
  refine body_weaken (ρ' := jV a bs 0) ?_ (sub_cons rfl (sub_cons rfl (sub_cons rfl sub_nil)))
  refine body_cons (goes_try (goes_for (I := jV a bs) (ds := txts bs) (iter_tuple (by exact sees_name rfl (by decide)) fun _ _ => rfl) rfl (fun _ => rfl) ?_)) ?_
  · intro i d hd
    have hi : i < bs.length := by have := (List.getElem?_eq_some_iff.mp hd).1; simpa [txts] using this
    obtain ⟨b, rfl, hb⟩ : ∃ b, d = .str b ∧ bs[i]? = some b := by
      rw [txts, List.getElem?_map] at hd
      cases hq : bs[i]? with
      | none => rw [hq] at hd; cases hd
      | some b => rw [hq] at hd; exact ⟨b, by simpa using hd.symm, rfl⟩
    have hnext : joinAll a (bs.take (i + 1)) = joinStep (joinAll a (bs.take i)) b := by
      unfold joinAll
      rw [List.take_add_one, hb, List.foldl_append]
      rfl
    have z1 : (joinAll a (bs.take i)).length ≤ 100000 := by
      have h1 := joinAll_len (bs.take i) a
      have h2 := tot_take bs i
      exact Nat.le_trans h1 (Nat.le_trans (Nat.add_le_add_left h2 _) hz)
    have z2 : b.length ≤ 100000 := Nat.le_trans (Nat.le_succ _) (Nat.le_trans (tot_mem (List.mem_of_getElem? hb)) (Nat.le_trans (Nat.le_add_left _ _) hz))
    have st : joinStep (joinAll a (bs.take i)) b = if (Txt.startswith b slash || !((joinAll a (bs.take i)).length != 0)) = true then b else if Txt.endswith (joinAll a (bs.take i)) slash = true then (joinAll a (bs.take i)) ++ b else (joinAll a (bs.take i)) ++ (slash ++ b) := rfl
    refine' ⟨_, goes_cons (goes_assign (sees_call1 (by exact sees_name rfl (by decide)) fn_fspath (Nat.le_add_left 1 n) rfl (by decide) rfl rfl fun _ => rfl) (.inl rfl) rfl) (goes_if (ρ' := jV a bs (i + 1)) (tests_or2 (tests_of (sees_startswith (by exact sees_name rfl (by decide)) (by exact sees_name rfl (by decide)) (fun _ => rfl) (fun _ => rfl) rfl) rfl fun _ _ => rfl) fun _ => tests_not (tests_of (by exact sees_name rfl (by decide)) ?s fun _ _ => rfl)) ?c1 ?c2), fun y d' e => e⟩
    case s => exact decide_eq_true (Nat.le_trans z1 (by decide))
    case c1 =>
      intro hc
      simp only [truth] at hc
      refine goes_weaken (goes_assign (by exact sees_name rfl (by decide)) (.inl rfl) rfl) (sub_cons ?_ (sub_cons rfl (sub_cons rfl sub_nil)))
      rw [hnext, st, if_pos hc]
      rfl
    case c2 =>
      intro hc
      refine goes_if (tests_of (sees_endswith (by exact sees_name rfl (by decide)) (by exact sees_name rfl (by decide)) (fun _ => rfl) (fun _ => rfl) rfl) rfl fun _ _ => rfl) ?_ ?_
      · intro hc2
        simp only [truth] at hc2
        refine goes_weaken (goes_aug rfl (by exact sees_name rfl (by decide)) rfl (sz_k (Nat.add_le_add z1 z2) rfl)) (sub_cons ?_ (sub_cons rfl (sub_cons rfl sub_nil)))
        rw [hnext, st, if_neg (by rw [show (Txt.startswith b slash || !((joinAll a (bs.take i)).length != 0)) = false from hc]; decide), if_pos hc2]
        rfl
      · intro hc2
        simp only [truth] at hc2
        refine goes_weaken (goes_aug rfl (sees_add_str (by exact sees_name rfl (by decide)) (by exact sees_name rfl (by decide)) (sz_k (Nat.add_le_add (Nat.le_of_eq slash_len) z2) rfl)) rfl (sz_k (Nat.add_le_add z1 (ap_k (Nat.le_of_eq slash_len) z2)) rfl)) (sub_cons ?_ (sub_cons rfl (sub_cons rfl sub_nil)))
        rw [hnext, st, if_neg (by rw [show (Txt.startswith b slash || !((joinAll a (bs.take i)).length != 0)) = false from hc]; decide), if_neg (by rw [show Txt.endswith (joinAll a (bs.take i)) slash = false from hc2]; decide)]
        rfl
  · refine body_ret (sees_name ?_ (by decide))
    show some (PyData.str (joinAll a (bs.take (txts bs).length))) = _
    rw [List.take_of_length_le (by simp [txts])]
end
end Mine
end

noncomputable section
open PySem PySem.W PyProof.Rows Builtin.Str
set_option maxRecDepth 100000
namespace Mine

/-- what _law_climb gives -/
noncomputable def pairD (p : Str × Str) : PyData := .tuple [.str p.1, .str p.2]
noncomputable def climbNext (x : Str) (ps : List (Str × Str)) : Str := match ps.getLast? with | some p => p.1 | none => x
noncomputable def climbL (x : Str) : Nat → List (Str × Str)
  | 0 => []
  | n + 1 => climbL x n ++ [(splitHead (climbNext x (climbL x n)), splitTail (climbNext x (climbL x n)))]
theorem splitHead_len (x : Str) : (splitHead x).length ≤ x.length := by
  unfold splitHead
  simp only []
  split
  · exact Nat.le_trans (len_rstripChars _ _) (Txt.slice_le _ _ _)
  · exact Txt.slice_le _ _ _
theorem splitTail_len (x : Str) : (splitTail x).length ≤ x.length := Txt.slice_le _ _ _
theorem climbL_length (x : Str) : ∀ n, (climbL x n).length = n
  | 0 => rfl
  | n + 1 => by simp [climbL, climbL_length x n]
theorem climbNext_len {x : Str} {ps : List (Str × Str)} (h : ∀ p ∈ ps, p.1.length ≤ x.length) : (climbNext x ps).length ≤ x.length := by
  unfold climbNext
  split
  · rename_i p hp; exact h p (List.mem_of_getLast? hp)
  · exact Nat.le_refl _
theorem climbL_len (x : Str) : ∀ n, ∀ p ∈ climbL x n, p.1.length ≤ x.length ∧ p.2.length ≤ x.length
  | 0, p, h => by cases h
  | n + 1, p, h => by
    have ih := climbNext_len fun p hp => (climbL_len x n p hp).1
    simp only [climbL, List.mem_append, List.mem_singleton] at h
    rcases h with h | rfl
    · exact climbL_len x n p h
    · exact ⟨Nat.le_trans (splitHead_len _) ih, Nat.le_trans (splitTail_len _) ih⟩

section
variable {w : World} {mean : ExcName → Option Value} {mg mb : Str → Option Value}

set_option maxHeartbeats 4000000 in
theorem fn_climb {n m : Nat} {x : Str} (hz : x.length ≤ 100000) (hm : m ≤ 1000) : Fn (XX w mean mg mb) (n + 3) (.ref 192) [.str x, .int m] (.list ((climbL x m).map pairD)) := by
  refine' fn_of ?k1 ?k2 ?k3 ?k4 ?k5 ?k6 ?k7 ?k8 ?k9 ?kb ?kn ?kk ?kc ?_
  (case k1 => exact rfl); (case k2 => exact rfl); (case k3 => exact rfl); (case k4 => exact rfl); (case k5 => exact rfl); (case k6 => exact rfl); (case k7 => exact rfl); (case k8 => exact rfl); (case k9 => exact rfl)
  case kb => exact binds2 (x := Str.ofString "path") (y := Str.ofString "count") fun v u => rfl
  case kn => show ([Str.ofString "path", Str.ofString "count"] : List Str).Nodup; decide
  case kk => intro n y hy; simp at hy; rcases hy with rfl | rfl <;> exact .inl rfl
  case kc => intro L; exact List.nodup_nil
  intro A base outer L h₀
  refine' body_own (σ := [(Str.ofString "path", .str x), (Str.ofString "count", .int m)]) new_nil rfl rfl rfl ?h1 fun a => bodyA_cons (goesA_for (I := fun _ => [(Str.ofString "path", .str x), (Str.ofString "count", .int m)]) (D := fun i => (climbL x i).map pairD) (es := rangeD 0 1 m)
    (iterA_range rfl rfl (by exact sees_name rfl (by decide)) (sz_k hm rfl) (fun _ _ => rfl) fun _ => rfl) rfl ?h2 ?h3 (fun _ => rfl) ?turn) ?ret
  case h1 =>
    intro y d e
    refine ⟨e, ?_⟩
    rintro rfl
    cases e
  case h2 => decide
  case h3 =>
    have : ∀ l : List Nat, noLists (l.map fun k : Nat => PyData.int (0 + (k : Int) * 1)) = true := by
      intro l; induction l with
      | nil => rfl
      | cons a l ih => simp only [List.map_cons, noLists, noList, Bool.true_and]; exact ih
    exact this _
  case turn =>
    intro i d hd
    have hi : i < m := by have := (List.getElem?_eq_some_iff.mp hd).1; simpa [rangeD] using this
    have hlen := climbL_length x i
    have hnx := climbNext_len fun p hp => (climbL_len x i p hp).1
    have e : (climbL x (i + 1)).map pairD = (climbL x i).map pairD ++ [.tuple [.str (splitHead (climbNext x (climbL x i))), .str (splitTail (climbNext x (climbL x i)))]] := by
      simp only [climbL, List.map_append]; rfl
    refine' ⟨_, ?g, ?s⟩
    case g =>
      rw [e]
      refine' goesA_append (sees_call1 (sees_ite (tests_of (by exact sees_name rfl (by decide)) ?sm fun _ _ => rfl) ?y ?n) (fn_split (n := n) ?z) (Nat.le_refl _) rfl (by decide) rfl rfl fun _ => rfl) rfl ?z2 (by decide) (fun _ => rfl) (fun _ => rfl) rfl rfl rfl
      case sm => exact decide_eq_true (mp_k (Nat.le_trans (Nat.le_of_eq hlen) (le_k (Nat.le_trans (Nat.le_of_lt hi) hm) rfl)))
      case y =>
        intro ht
        have hne : climbL x i ≠ [] := by
          intro q
          rw [q] at ht
          simp [truth] at ht
        obtain ⟨p, hp⟩ : ∃ p, (climbL x i).getLast? = some p := ⟨_, List.getLast?_eq_some_getLast hne⟩
        have e2 : climbNext x (climbL x i) = p.1 := by unfold climbNext; rw [hp]
        rw [e2]
        refine' sees_item_tuple (k := 0) (sees_item_list (d := pairD p) (by exact sees_name rfl (by decide)) (sees_neg sees_int) ?i1 ?i2 ?i3 fun _ _ _ => rfl) sees_int rfl (by rw [sizeLine_eq]; exact Nat.le_of_ble_eq_true rfl) fun _ _ _ => rfl
        case i1 =>
          rw [List.getElem?_map, List.length_map]
          rw [at?_neg, ← List.getLast?_eq_getElem?, hp]
          rfl
        case i2 =>
          rw [List.length_map]; exact lo_neg (k := 0) (List.length_pos_iff.mpr hne)
        case i3 => exact ll_k (mp_k (Nat.le_trans (Nat.le_of_eq hlen) (Nat.le_trans (Nat.le_of_lt hi) hm))) rfl
      case n =>
        intro ht
        have hne : climbL x i = [] := by simpa [truth] using ht
        have e2 : climbNext x (climbL x i) = x := by rw [hne]; rfl
        rw [e2]
        exact sees_name rfl (by decide)
      case z => exact Nat.le_trans hnx hz
      case z2 => exact mp_k (Nat.le_trans (Nat.le_of_eq hlen) (le_k (Nat.le_trans (Nat.le_of_lt hi) hm) rfl))
    case s => exact sub_cons rfl (sub_cons rfl sub_nil)
  case ret =>
    refine bodyA_ret (sees_name ?_ (by decide))
    show some (PyData.list ((climbL x (rangeD 0 1 m).length).map pairD)) = _
    simp [rangeD]
end
end Mine
end

noncomputable section
open PySem PySem.W PyProof.Rows Builtin.Str
set_option maxRecDepth 100000
namespace Mine

noncomputable def slashAt (ps : List Str) (i : Nat) : Bool := Txt.slice (ps.getD i Str.empty) none (some 1) == slash
noncomputable def places (ps : List Str) : List Int := ((List.range ps.length).filter (slashAt ps)).map Int.ofNat
noncomputable def place (ps : List Str) : Nat := (maxI (0 :: places ps)).toNat
noncomputable def stepP (pcs : List Str) (part : Str) : List Str := (if (pcs.getLastD Str.empty == Str.empty) = true then pcs.dropLast else pcs) ++ Txt.split part slash
noncomputable def piecesL (ps : List Str) (i : Nat) : List Str := ((ps.drop (place ps + 1)).take i).foldl stepP (Txt.split (ps.getD (place ps) Str.empty) slash)
noncomputable def joined (ps : List Str) : Str := Txt.join slash (piecesL ps ps.length)

theorem maxI_mem : ∀ (xs : List Int), xs ≠ [] → maxI xs ∈ xs := by
  intro xs hne
  cases xs with
  | nil => exact absurd rfl hne
  | cons x r =>
    have : ∀ (r : List Int) (x : Int), r.foldl (fun a b => if b > a then b else a) x ∈ x :: r := by
      intro r
      induction r with
      | nil => intro x; exact List.mem_cons_self
      | cons y r ih =>
        intro x
        rw [List.foldl_cons]
        split
        · exact List.mem_cons_of_mem _ (ih y)
        · rcases List.mem_cons.mp (ih x) with h | h
          · rw [h]; exact List.mem_cons_self
          · exact List.mem_cons_of_mem _ (List.mem_cons_of_mem _ h)
    exact this r x
theorem place_eq {ps : List Str} (hne : ps ≠ []) : maxI (0 :: places ps) = (place ps : Int) ∧ place ps < ps.length := by
  have hpos := List.length_pos_iff.mpr hne
  rcases List.mem_cons.mp (maxI_mem (0 :: places ps) (by simp)) with h | h
  · unfold place; rw [h]; exact ⟨rfl, hpos⟩
  · unfold places at h
    obtain ⟨k, hk, e⟩ := List.mem_map.mp h
    have hk := List.mem_range.mp (List.mem_filter.mp hk).1
    unfold place places
    rw [← e]
    exact ⟨rfl, hk⟩

theorem splitParts_len (x : Str) : (partsBetween x (occurrences x slash 0 x.length (x.length + 1)) slash.length).length ≤ x.length + 2 := by
  rw [len_partsBetween]
  have := StrLaws.occ_length_le x slash 0 x.length (x.length + 1)
  omega
theorem split_len (x : Str) : (Txt.split x slash).length ≤ x.length + 2 := by
  unfold Txt.split
  split
  · simp
  · split
    · simp
    · exact splitParts_len x
/-- pieces that are few and short -/
noncomputable def Few (b : Nat) (pcs : List Str) (n : Nat) : Prop := pcs ≠ [] ∧ pcs.length ≤ n ∧ ∀ x ∈ pcs, x.length ≤ b
theorem split_few {b : Nat} {x : Str} (h : x.length ≤ b) : Few b (Txt.split x slash) (b + 2) := by
  refine ⟨fun q => ?_, Nat.le_trans (split_len x) (Nat.add_le_add_right h 2), fun y hy => Nat.le_trans (part_short hy) h⟩
  have := split_pos x slash
  rw [q] at this
  simp at this
theorem stepP_few {b n : Nat} {pcs : List Str} {x : Str} (hp : Few b pcs n) (h : x.length ≤ b) : Few b (stepP pcs x) (n + (b + 2)) := by
  obtain ⟨q1, q2, q3⟩ := split_few h
  obtain ⟨p1, p2, p3⟩ := hp
  unfold stepP
  refine ⟨fun q => q1 (List.append_eq_nil_iff.mp q).2, ?_, fun y hy => ?_⟩
  · rw [List.length_append]
    split
    · rw [List.length_dropLast]; exact Nat.add_le_add (Nat.le_trans (Nat.sub_le _ _) p2) q2
    · exact Nat.add_le_add p2 q2
  · rcases List.mem_append.mp hy with hy | hy
    · refine p3 y ?_
      split at hy
      · exact List.dropLast_subset _ hy
      · exact hy
    · exact q3 y hy
theorem getD_mem {ps : List Str} {b i : Nat} (h : ∀ x ∈ ps, x.length ≤ b) : (ps.getD i Str.empty).length ≤ b := by
  rw [List.getD_eq_getElem?_getD]
  cases e : ps[i]? with
  | none => exact Nat.zero_le _
  | some x => exact h x (List.mem_of_getElem? e)
theorem piecesL_succ {ps : List Str} {i : Nat} {x : Str} (h : (ps.drop (place ps + 1))[i]? = some x) : piecesL ps (i + 1) = stepP (piecesL ps i) x := by
  unfold piecesL
  rw [List.take_add_one, h, List.foldl_append]
  rfl
theorem piecesL_few {b : Nat} {ps : List Str} (h : ∀ x ∈ ps, x.length ≤ b) : ∀ i, Few b (piecesL ps i) ((min i ps.length + 1) * (b + 2)) := by
  intro i
  induction i with
  | zero =>
    have := split_few (getD_mem (i := place ps) h)
    simpa [piecesL] using this
  | succ i ih =>
    cases e : (ps.drop (place ps + 1))[i]? with
    | none =>
      have : piecesL ps (i + 1) = piecesL ps i := by
        unfold piecesL
        rw [List.take_add_one, e]
        simp
      rw [this]
      obtain ⟨h1, h2, h3⟩ := ih
      exact ⟨h1, Nat.le_trans h2 (Nat.mul_le_mul_right _ (Nat.succ_le_succ (Nat.le_min.mpr ⟨Nat.le_succ_of_le (Nat.min_le_left _ _), Nat.min_le_right _ _⟩))), h3⟩
    | some x =>
      rw [piecesL_succ e]
      have hi : i < ps.length := by have := (List.getElem?_eq_some_iff.mp e).1; rw [List.length_drop] at this; exact Nat.lt_of_lt_of_le this (Nat.sub_le _ _)
      have hm : x ∈ ps := List.mem_of_mem_drop (List.mem_of_getElem? e)
      obtain ⟨h1, h2, h3⟩ := stepP_few ih (h x hm)
      refine ⟨h1, Nat.le_trans h2 ?_, h3⟩
      rw [← Nat.succ_mul, Nat.min_eq_left (Nat.le_of_lt hi), Nat.min_eq_left hi]
      exact Nat.le_refl _
theorem sum_le {b : Nat} {pcs : List Str} (h : ∀ x ∈ pcs, x.length ≤ b) : (pcs.map (·.length)).sum ≤ pcs.length * b := by
  induction pcs with
  | nil => exact Nat.zero_le _
  | cons x l ih =>
    rw [List.map_cons, List.sum_cons, List.length_cons, Nat.succ_mul, Nat.add_comm]
    exact Nat.add_le_add (ih fun y hy => h y (List.mem_cons_of_mem _ hy)) (h x List.mem_cons_self)
theorem joinOk_few {b n : Nat} {pcs : List Str} (h : Few b pcs n) (hb : n * (b + 1) ≤ 10000000) : JoinOk slash pcs = true := by
  obtain ⟨_, h2, h3⟩ := h
  have e := sum_le h3
  unfold JoinOk
  rw [StrLaws.joinTotal, show slash.length = 1 by decide]
  have h4 : pcs.length * b + pcs.length * 1 ≤ 10000000 := by
    rw [← Nat.mul_add]
    exact Nat.le_trans (Nat.mul_le_mul_right _ h2) hb
  unfold tooLong
  rw [sizeLine_eq]
  simp
  omega

section
variable {w : World} {mean : ExcName → Option Value} {mg mb : Str → Option Value}

theorem txts_get {ps : List Str} {i : Nat} (h : i < ps.length) : (txts ps)[i]? = some (.str (ps.getD i Str.empty)) := by
  rw [txts, List.getElem?_map, List.getD_eq_getElem?_getD, List.getElem?_eq_getElem h]
  rfl

set_option maxHeartbeats 4000000 in
theorem fn_joined {n : Nat} {ps : List Str} (hne : ps ≠ []) (hl : ps.length ≤ 100) (hs : ∀ x ∈ ps, x.length ≤ 100) : Fn (XX w mean mg mb) (n + 1) (.ref 171) [.list (txts ps)] (.str (joined ps)) := by
  obtain ⟨hpe, hplt⟩ := place_eq hne
  have hzl : (txts ps).length ≤ sizeLine := ll_k (mp_k hl) rfl
  have few := fun i => piecesL_few hs i
  have cnt : ∀ i, (piecesL ps i).length ≤ 100000 := fun i => by
    obtain ⟨_, h2, _⟩ := few i
    refine Nat.le_trans h2 (Nat.le_trans (Nat.mul_le_mul_right _ (Nat.succ_le_succ (Nat.le_trans (Nat.min_le_right _ _) hl))) (by decide))
  refine' fn_of ?k1 ?k2 ?k3 ?k4 ?k5 ?k6 ?k7 ?k8 ?k9 ?kb ?kn ?kk ?kc ?_
  (case k1 => exact rfl); (case k2 => exact rfl); (case k3 => exact rfl); (case k4 => exact rfl); (case k5 => exact rfl); (case k6 => exact rfl); (case k7 => exact rfl); (case k8 => exact rfl); (case k9 => exact rfl)
  case kb => exact binds1 (x := Str.ofString "parts") fun v => rfl
  case kn => simp
  case kk => intro n y hy; simp at hy; subst hy; exact .inr ⟨rfl, rfl⟩
  case kc => intro L; show [Str.ofString "parts"].Nodup; simp
  intro A base outer L h₀
  refine' body_cons (ρ₁ := [(Str.ofString "place", .int (place ps)), (Str.ofString "parts", .list (txts ps))]) (goes_assign (sees_is (sees_max (xs := 0 :: places ps) (sees_is (sees_add_list (sees_list (sees_cons sees_int sees_nil fun _ => rfl))
    (sees_comp (ds := rangeD 0 1 ps.length) (p := fun d => slashAt ps (kOf d)) (f := fun d => .int (kOf d)) (bs := fun d => [(Str.ofString "k", d)]) (σ := [(Str.ofString "parts", .list (txts ps))]) rfl (scOk_of rfl) (fun _ => rfl)
      (iter_range rfl rfl (sees_is (sees_len_list (by exact sees_name rfl (by decide)) hzl rfl rfl fun _ => rfl) ?c3) ?c4 (fun _ _ => rfl) fun _ => rfl) ?c5 (capt_cons rfl rfl rfl rfl capt_nil) ?c6 ?c7 (elt_of ?c8 ?c9)) ?c10) ?c11) (by simp) rfl rfl fun _ => rfl) ?c12) (.inl rfl) rfl) ?_
  case c3 => simp [txts]
  case c4 => exact sz_k hl rfl
  case c5 => exact ll_k (mp_k (Nat.le_trans (Nat.le_of_eq List.length_range) hl)) rfl
  case c6 => exact fun C d hd => bd_name rfl rfl
  case c7 =>
    intro C d hd
    obtain ⟨k, hk, rfl⟩ := rangeD_mem hd
    refine' tests_one (tests_is (tests_cmp cmp_eq_str (sees_slice_str (sees_item_list (k := k) (d := .str (ps.getD k Str.empty)) (by exact sees_name rfl (by decide)) (by exact sees_name rfl (by decide)) ?e1 ?e2 hzl fun _ _ _ => rfl) part_none (part_some sees_int) ?e3) sees_str rfl) ?e4)
    case e1 => rw [at?_nat]; exact txts_get hk
    case e2 => exact lo_nat _ k
    case e3 => rw [sizeLine_eq]; exact Nat.le_trans (getD_mem hs) (by decide)
    case e4 => rfl
  case c8 =>
    intro C d hd _
    obtain ⟨k, hk, rfl⟩ := rangeD_mem hd
    exact sees_name (by simp [kOf]) (by decide)
  case c9 => intro d hd _; rfl
  case c10 =>
    exact sz_k (Nat.add_le_add (Nat.le_refl 1) (mp_k (Nat.le_trans (List.length_filter_le _ _) (mp_k (Nat.le_trans (Nat.le_of_eq List.length_range) hl))))) rfl
  case c11 =>
    rw [rangeD_comp (slashAt ps) fun k => .int k]
    simp only [nums, places, List.map_cons, List.map_map]
    rfl
  case c12 => rw [hpe]
  have hpl : (ps.getD (place ps) Str.empty).length ≤ 100 := getD_mem hs
  have sl1 : ∀ x : Str, x.length ≤ 100 → (partsBetween x (occurrences x slash 0 x.length (x.length + 1)) slash.length).length ≤ sizeLine := fun x hx =>
    ll_k (Nat.le_trans (splitParts_len x) (Nat.add_le_add hx (Nat.le_refl 2))) rfl
  have sl2 : ∀ x : Str, x.length ≤ 100 → x.length ≤ sizeLine := fun x hx => sz_k hx rfl
  refine' body_own (σ := [(Str.ofString "place", .int (place ps)), (Str.ofString "parts", .list (txts ps))]) (new_split (z := slash) (by decide) (sl2 _ hpl) (sl1 _ hpl) (sees_item_list (k := place ps) (d := .str (ps.getD (place ps) Str.empty)) (by exact sees_name rfl (by decide)) (by exact sees_name rfl (by decide)) ?d1 ?d2 hzl fun _ _ _ => rfl) sees_str (fun _ => rfl) (fun _ => rfl) rfl) rfl rfl (noLists_txts _) ?d3
    fun a => bodyA_cons (goesA_for (I := fun _ => [(Str.ofString "place", .int (place ps)), (Str.ofString "parts", .list (txts ps))]) (D := fun i => txts (piecesL ps i)) (es := txts (ps.drop (place ps + 1)))
      ?it rfl ?d4 (noLists_txts _) (fun _ => rfl) ?turn) ?ret
  case d1 => rw [at?_nat]; exact txts_get hplt
  case d2 => exact lo_nat _ _
  case d3 =>
    intro y d e
    refine ⟨e, ?_⟩
    rintro rfl
    cases e
  case d4 => decide
  case it =>
    refine' iterA_is (iterA_new (new_slice_list (by exact sees_name rfl (by decide)) (part_some (sees_add_int (by exact sees_name rfl (by decide)) sees_int)) part_none hzl) ?n1 (fun _ _ => rfl)) ?n2
    case n1 => rw [pk_from', txts, ← List.map_drop]; exact noLists_txts _
    case n2 => rw [pk_from', txts, ← List.map_drop]; rfl
  case turn =>
    intro i d hd
    obtain ⟨x, rfl, hx⟩ : ∃ x, d = .str x ∧ (ps.drop (place ps + 1))[i]? = some x := by
      rw [txts, List.getElem?_map] at hd
      cases hq : (ps.drop (place ps + 1))[i]? with
      | none => rw [hq] at hd; cases hd
      | some b => rw [hq] at hd; exact ⟨b, by simpa using hd.symm, rfl⟩
    have hxl : x.length ≤ 100 := hs x (List.mem_of_mem_drop (List.mem_of_getElem? hx))
    obtain ⟨f1, f2, f3⟩ := few i
    have hlast : (piecesL ps i).getLast? = some ((piecesL ps i).getLastD Str.empty) := by
      rw [List.getLastD_eq_getLast?, List.getLast?_eq_some_getLast f1]; rfl
    have hpos := List.length_pos_iff.mpr f1
    refine' ⟨_, goesA_cons (ds₁ := txts (if ((piecesL ps i).getLastD Str.empty == Str.empty) = true then (piecesL ps i).dropLast else piecesL ps i)) (goesA_if (b := (piecesL ps i).getLastD Str.empty == Str.empty) ?tst ?t1 ?t2) ?ext, ?sub⟩
    case tst =>
      refine' tests_cmp cmp_eq_str (sees_item_list (k := -1) (d := .str ((piecesL ps i).getLastD Str.empty)) (by exact sees_name rfl (by decide)) (sees_neg sees_int) ?i1 ?i2 ?i3 fun _ _ _ => rfl) sees_str rfl
      case i1 =>
        rw [at?_neg, txts, ← List.getLast?_eq_getElem?, List.getLast?_map, hlast]; rfl
      case i2 => rw [txts, List.length_map]; exact lo_neg (k := 0) hpos
      case i3 => exact ll_k (mp_k (cnt i)) rfl
    case t1 =>
      intro hc
      rw [if_pos hc, show ∀ l : List Str, txts l.dropLast = (txts l).dropLast from fun l => by simp [txts]]
      exact goesA_pop (z := (piecesL ps i).getLastD Str.empty) (by rw [txts, List.getLast?_map, hlast]; rfl) (by rw [txts, List.length_map]; exact cnt i) (by decide) (fun _ => rfl) rfl rfl rfl
    case t2 =>
      intro hc
      rw [if_neg (by rw [hc]; decide)]
      exact goesA_nil
    case ext =>
      rw [piecesL_succ hx]
      unfold stepP
      rw [show ∀ a b : List Str, txts (a ++ b) = txts a ++ txts b from fun a b => List.map_append]
      refine' goesA_extend (new_split (z := slash) (by decide) (sl2 _ hxl) (sl1 _ hxl) (by exact sees_name rfl (by decide)) sees_str (fun _ => rfl) (fun _ => rfl) rfl) (noLists_txts _) ?z1 ?z2 (by decide) (fun _ => rfl) (fun _ => rfl) rfl rfl rfl
      case z1 =>
        rw [txts, List.length_map]
        split
        · rw [List.length_dropLast]; exact Nat.le_trans (Nat.sub_le _ _) (cnt i)
        · exact cnt i
      case z2 => exact mp_k (le_k (Nat.le_trans (split_len x) (Nat.add_le_add hxl (Nat.le_refl 2))) rfl)
    case sub => exact sub_cons rfl (sub_cons rfl sub_nil)
  case ret =>
    have e : piecesL ps (txts (ps.drop (place ps + 1))).length = piecesL ps ps.length := by
      unfold piecesL
      rw [List.take_of_length_le (by simp [txts]), List.take_of_length_le (by simp)]
    refine bodyA_ret (sees_join (x := slash) (ys := piecesL ps ps.length) (joinOk_few (few ps.length) ?_) sees_str (sees_name (by rw [e]; rfl) (by decide)) (fun _ => rfl) (fun _ => rfl) rfl)
    exact Nat.le_trans (Nat.mul_le_mul_right _ (Nat.mul_le_mul_right _ (Nat.succ_le_succ (Nat.le_trans (Nat.min_le_right _ _) hl)))) (by decide)
end
end Mine
end

noncomputable section
open PySem PySem.W PyProof.Rows Builtin.Str
set_option maxRecDepth 100000
namespace Mine
section
variable {w : World} {mean : ExcName → Option Value} {mg mb : Str → Option Value}

set_option maxHeartbeats 1000000 in
theorem raises_parse {n : Nat} {x : Str} (hz : x.length ≤ 100000) (hc : (Txt.slice x none (some 3) != Str.ofString "257") = true) : Raises (XX w mean mg mb) (n + 1) (.ref 154) [.str x] 145 x := by
  have hz' : x.length ≤ sizeLine := sz_k hz rfl
  refine' raises_of ?k1 ?k2 ?k3 ?k4 ?k5 ?k6 ?k7 ?k8 ?k9 ?kb ?kn ?kk ?kc ?ke ?_
  (case k1 => exact rfl); (case k2 => exact rfl); (case k3 => exact rfl); (case k4 => exact rfl); (case k5 => exact rfl); (case k6 => exact rfl); (case k7 => exact rfl); (case k8 => exact rfl); (case k9 => exact rfl)
  case kb => exact binds1 (x := Str.ofString "resp") fun v => rfl
  case kn => simp
  case kk => intro n y hy; simp at hy; subst hy; exact .inl rfl
  case kc => intro L; exact List.nodup_nil
  case ke => intro L; exact ⟨_, _, rfl, rfl⟩
  intro A base outer L h₀
  exact bodyR_if (tests_is (tests_cmp cmp_ne_str (sees_slice_str (by exact sees_name rfl (by decide)) part_none (part_some sees_int) hz') sees_str rfl) hc) (bodyR_raise (by exact sees_name rfl (by decide)) ⟨_, _, _, _, _, rfl⟩ rfl (by kernel_rfl) rfl (by decide) fun _ => rfl)

set_option maxHeartbeats 4000000 in
theorem read_refused {n : Nat} {x : Str} (hz : x.length ≤ 100000) (hc : (Txt.slice x none (some 3) != Str.ofString "257") = true) :
    FnS (XX w mean mg mb) (n + 2) (.ref 178) [.str x] (.tuple [.str x, .str (Str.ofString "refused"), .str x]) := by
  intro A base outer s vs Q E hh hdp hun B okb D hr b
  have hok := okb.keeps B.stays
  refine' wpAny_call (enter (X := XX w mean mg mb) (f := 178) (n := n + 1) (ds := [.str x]) (ρ := [(Str.ofString "reply", .str x)]) ?k1 ?k2 ?k3 ?k4 ?k5 ?k6 ?k7 ?k8 ?k9 ?kb ?kn ?kk ?kc hh hdp hun B hok hr fun h₀ L h' tk k O a => ?_)
  (case k1 => exact rfl); (case k2 => exact rfl); (case k3 => exact rfl); (case k4 => exact rfl); (case k5 => exact rfl); (case k6 => exact rfl); (case k7 => exact rfl); (case k8 => exact rfl); (case k9 => exact rfl)
  case kb => exact binds1 (x := Str.ofString "reply") fun v => rfl
  case kn => simp
  case kk => intro n y hy; simp at hy; subst hy; exact .inl rfl
  case kc => intro L; exact List.nodup_nil
  have K := below_keeps B k
  have D₀ := dicts_keeps D k
  refine (fun key : ∀ (Q' : Flow → Shared → Prop) (E' : Value → Shared → Prop), (∀ v h' tk, Slid (fsOf outer) h₀ h' → Rd h' v (.tuple [.str x, .str (Str.ofString "refused"), .str x]) → Q' (.ret v) { s with heap := h', toks := tk }) → wpAny _ _ _ Q' E' _ =>
    key _ _ fun v h₇ tk₇ sl r => b v h₇ tk₇ (slid_trans (slid_of k) sl) r) fun Q' E' b' => ?_
  refine wpAny_execs_cons (wpAny_Try_except (wpAny_execs_cons (wpAny_Return_some (Tuple_ ?_))))
  refine wpAny_items_cons (sees_name (ρ := [(Str.ofString "reply", .str x)]) rfl (by decide) _ _ _ (good_of O a) fun v₁ h₁ tk₁ k₁ r₁ => ?_) rfl
  have a₁ := a.keeps k₁
  refine wpAny_items_cons (wpAny_Constant_str ?_) rfl
  refine wpAny_items_cons (Call_Name rfl (eval_global (good_of O a₁) rfl (by decide) (v := .ref 154) rfl ?_)) rfl
  refine callWith_K O.ok.k (by exact rfl) (sees_cons (sees_name (ρ := [(Str.ofString "reply", .str x)]) rfl (by decide)) sees_nil (fun _ => rfl) _ _ _ _ (good_of O a₁) fun us h₂ tk₂ k₂ r₂ => ⟨(O.ok.k.keeps a₁.keep).keeps k₂, ?_⟩) rfl rfl
  have a₂ := a₁.keeps k₂
  obtain ⟨m, Fm⟩ := fr_of O a₂
  obtain ⟨tr, hmr⟩ := str_slot a₂ Fm.ns (y := Str.ofString "reply") rfl rfl
  have g₂ := good_of O a₂
  show wpAny _ _ _ _ _ { s with heap := h₂, toks := tk₂ }
  refine raises_parse (n := n) hz hc _ base _ _ us _ _ O.fit.handled (O.fit.dn (Nat.le_refl _)) (O.fit.un (Nat.le_refl _)) g₂.below g₂.ok r₂ fun e t te h₃ tk₃ R U => ?_
  refine caught_SOB (mean := mean) (mg := mg) (mb := mb) (p := hd.view_39) (loose := looseW hd.view_39 []) (KF := hd.heap_39 w.params) R Fm K U okb.k okb.t D₀ KtsTurn.refl (by exact rfl) (by kernel_rfl) ?_ (by exact rfl) (by exact rfl) (by exact rfl) (by decide)
  intro h₄ g' news₂ tk₄ T F' N' G' _ K' X' T' D'
  show wpAny _ _ _ _ _ { s with heap := h₄, toks := tk₄ }
  generalize hG : wpAny _ _ _ _ _ _ = G
  obtain ⟨oe, ot, ws, nt, he, ht, hoec, hoed, hoe0, hotc, hotd⟩ := G'
  refine Eq.mp hG ?_
  have hX : (hd.heap_39 w.params).In h₄ := X'.keeps F'.keep
  have hT := T'.keeps F'.keep
  refine wpAny_execs_cons (wpAny_Return_some (Tuple_ ?_))
  refine wpAny_items_cons (wpAny_Name (wpAny_loadName_local (by exact rfl) (by exact rfl) F'.ns (v := .str x tr) ((if_neg (by decide)).trans hmr) ?_) (by decide)) rfl
  refine wpAny_items_cons (wpAny_Constant_str ?_) rfl
  refine wpAny_items_cons (Call_Name rfl (wpAny_Name (ks_loadName_global (by exact rfl) (by exact rfl) ?_) (by decide))) rfl
  unfold loadGlobal
  refine wpAny_bind (wpAny_nsGet hT.g ?_)
  rw [mg_none_of hX hT.g (n := Str.ofString "str") (by exact rfl)]
  refine wpAny_bind (wpAny_nsGet hT.b ?_)
  rw [hT.builtins _ (by decide), show bootBuiltins (Str.ofString "str") = some (.type "str") by decide +kernel]
  refine wpAny_pure (PyProof.Rows.callWith_type1 (wpAny_items_cons (wpAny_Name (wpAny_loadName_local (by exact rfl) (by exact rfl) F'.ns (v := .ref e) (if_pos rfl) ?_) (by decide)) rfl) rfl)
  refine wpAny_items_nil ?_
  have hoe := (N' _ he).1
  have hot := (N' _ ht).1
  refine str_own (K := hd.heap_39 w.params) (C := 145) (B := 132) hX ⟨_, _, _, _, by exact rfl, rfl⟩ ⟨_, _, _, _, by exact rfl, by kernel_rfl, by kernel_rfl⟩ ⟨_, _, _, _, by exact rfl, by kernel_rfl, by kernel_rfl⟩ hoe hoec hoed hoe0 ⟨_, _, hot, hotc, hotd⟩ (show A.units + 5 < cLine from Nat.lt_of_le_of_lt (Nat.add_le_add (Nat.le_add_right _ _) (Nat.le_of_ble_eq_true rfl)) hun) ?_
  refine wpAny_items_nil (wpAny_newTuple ?_ (by rw [sizeLine_eq]; exact Nat.le_of_ble_eq_true rfl))
  dsimp only
  generalize hH5 : h₄.push { cls := .type "tuple", data := .seq [Value.str x tr, Value.str (Str.ofString "refused") tk₄, Value.str x te].toArray } = h₅
  have k₅ : h₄.StaysIn h₅ := hH5 ▸ stays_push _ _
  have r₅ : Rd h₅ (.ref h₄.objs.size) (.tuple [.str x, .str (Str.ofString "refused"), .str x]) := hH5 ▸ Rd.new_tuple (.cons (.str _ _) (.cons (.str _ _) (.cons (.str _ _) .nil)))
  have n₅ := F'.ns.keeps k₅
  refine wpAny_bind (wpAny_bindName (wpAny_storeName_local (by exact rfl) n₅ (fun h₆ n₆ s₆ => ?_) (by exact rfl)))
  refine wpAny_onRaise (wpAny_unbindName_local (v := .none) (by exact rfl) n₆ (if_pos rfl) (by exact rfl) fun h₇ u n₇ s₇ => ?_)
  refine b' _ h₇ _ ?_ ((r₅.move (seqs_sameBut n₅ s₆)).move (seqs_sameBut n₆ s₇))
  refine slid_trans (slid_turn T) (slid_of fun c o hc => ?_)
  have hcL : c ≠ L := Nat.ne_of_lt (Nat.lt_of_lt_of_le (Heap.lt_size hc) F'.above)
  exact (s₇.2 c hcL).trans ((s₆.2 c hcL).trans (k₅ _ _ (F'.keep _ _ hc)))

set_option maxHeartbeats 1000000 in
theorem read_told {n : Nat} {x : Str} (hz : x.length ≤ 100000) (hc : Txt.slice x none (some 3) = Str.ofString "257") :
    Fn (XX w mean mg mb) (n + 2) (.ref 178) [.str x] (.tuple [.str x, .str (Str.ofString "told"), .str (parsed x)]) := by
  refine' fn_of ?k1 ?k2 ?k3 ?k4 ?k5 ?k6 ?k7 ?k8 ?k9 ?kb ?kn ?kk ?kc ?_
  (case k1 => exact rfl); (case k2 => exact rfl); (case k3 => exact rfl); (case k4 => exact rfl); (case k5 => exact rfl); (case k6 => exact rfl); (case k7 => exact rfl); (case k8 => exact rfl); (case k9 => exact rfl)
  case kb => exact binds1 (x := Str.ofString "reply") fun v => rfl
  case kn => simp
  case kk => intro n y hy; simp at hy; subst hy; exact .inl rfl
  case kc => intro L; exact List.nodup_nil
  intro A base outer L h₀
  exact body_try (body_ret (sees_tuple (sees_cons (by exact sees_name rfl (by decide)) (sees_cons sees_str (sees_cons (sees_call1 (by exact sees_name rfl (by decide)) (fn_parse (n := n) hz hc) (Nat.le_refl _) rfl (by decide) rfl rfl fun _ => rfl) sees_nil fun _ => rfl) fun _ => rfl) fun _ => rfl)))

/-- what _law_read gives -/
noncomputable def readL (x : Str) : List PyData := if (Txt.slice x none (some 3) != Str.ofString "257") = true then [.str x, .str (Str.ofString "refused"), .str x] else [.str x, .str (Str.ofString "told"), .str (parsed x)]
theorem fn_read {n : Nat} {x : Str} (hz : x.length ≤ 100000) : FnS (XX w mean mg mb) (n + 2) (.ref 178) [.str x] (.tuple (readL x)) := by
  unfold readL
  split
  · rename_i h; exact read_refused hz h
  · rename_i h; exact fnS_of (read_told hz (by simpa using h))
end
end Mine
end

noncomputable section
open PySem PySem.W PyProof.Rows Builtin.Str
set_option maxRecDepth 100000
namespace Mine

noncomputable def codeOf (x : Int) : Int := (x.fdiv 216).fmod 1112064
noncomputable def chrOf (x : Int) : Int := if codeOf x < 55296 then codeOf x else codeOf x + 2048
noncomputable def signOf (x : Int) : Str := ⟨#[(chrOf x).toNat]⟩
noncomputable def signsOf (x : Int) : List Str := [Str.ofString "", slash, Str.ofString "a", Str.ofString "\"", Str.ofString "b", if (signOf x == slash) = true then Str.ofString "a" else signOf x]
noncomputable def digit (x k : Int) : Nat := ((x.fdiv k).fmod 6).toNat
noncomputable def partOf (x : Int) : Str := Txt.join (Str.ofString "") ([1, 6, 36].map fun k => (signsOf x).getD (digit x k) Str.empty)
theorem chrOf_range (x : Int) : 0 ≤ chrOf x ∧ chrOf x ≤ 1114111 := by
  have h1 : 0 ≤ codeOf x := Int.fmod_nonneg_of_pos _ (by decide)
  have h2 : codeOf x < 1112064 := Int.fmod_lt_of_pos _ (by decide)
  unfold chrOf
  split <;> omega
theorem digit_lt (x k : Int) : digit x k < 6 := by
  have h1 : 0 ≤ (x.fdiv k).fmod 6 := Int.fmod_nonneg_of_pos _ (by decide)
  exact (Int.toNat_lt h1).mpr (Int.fmod_lt_of_pos _ (by decide))
theorem digit_eq (x k : Int) : (x.fdiv k).fmod 6 = (digit x k : Int) := by
  have h1 : 0 ≤ (x.fdiv k).fmod 6 := Int.fmod_nonneg_of_pos _ (by decide)
  exact (Int.toNat_of_nonneg h1).symm
theorem signs_len (x : Int) (i : Nat) : ((signsOf x).getD i Str.empty).length ≤ 1 := by
  have hs : (signOf x).length = 1 := rfl
  have aux : ∀ y ∈ signsOf x, y.length ≤ 1 := by
    intro y hy
    simp only [signsOf, List.mem_cons, List.not_mem_nil, or_false] at hy
    rcases hy with rfl | rfl | rfl | rfl | rfl | rfl
    · decide
    · decide
    · decide
    · decide
    · decide
    · split
      · decide
      · rw [hs]; exact Nat.le_refl _
  rw [List.getD_eq_getElem?_getD]
  cases e : (signsOf x)[i]? with
  | none => exact Nat.zero_le _
  | some y => exact aux y (List.mem_of_getElem? e)

section
variable {w : World} {mean : ExcName → Option Value} {mg mb : Str → Option Value}

noncomputable def intOf : PyData → Int
  | .int k => k
  | _ => 0
set_option maxHeartbeats 1000000 in
theorem fn_part {n : Nat} {x : Int} : Fn (XX w mean mg mb) (n + 1) (.ref 159) [.int x] (.str (partOf x)) := by
  obtain ⟨hc0, hc1⟩ := chrOf_range x
  refine' fn_of ?k1 ?k2 ?k3 ?k4 ?k5 ?k6 ?k7 ?k8 ?k9 ?kb ?kn ?kk ?kc ?_
  (case k1 => exact rfl); (case k2 => exact rfl); (case k3 => exact rfl); (case k4 => exact rfl); (case k5 => exact rfl); (case k6 => exact rfl); (case k7 => exact rfl); (case k8 => exact rfl); (case k9 => exact rfl)
  case kb => exact binds1 (x := Str.ofString "x") fun v => rfl
  case kn => simp
  case kk => intro n y hy; simp at hy; subst hy; exact .inr ⟨rfl, rfl⟩
  case kc => intro L; show [Str.ofString "signs", Str.ofString "x"].Nodup; decide
  intro A base outer L h₀
  refine BT.run ?_
  refine bt_assign (d1 := .int (codeOf x)) (sees_mod_int (sees_div_int (by exact sees_name rfl (by decide)) sees_int (by decide) (by decide)) sees_int (by decide)) (.inl rfl) rfl ?_
  refine' bt_assign (d1 := .str (signOf x)) (sees_blt rfl (by decide) rfl (by decide +kernel) (by decide) (blt_chr hc0 hc1) (sees_cons (sees_ite (tests_cmp cmp_lt (by exact sees_name rfl (by decide)) sees_int rfl) ?i1 ?i2) sees_nil fun _ => rfl) (fun _ => rfl) (fun _ _ => rfl)) (.inl rfl) rfl ?_
  case i1 => intro h; unfold chrOf; rw [if_pos (by simpa using h)]; exact sees_name rfl (by decide)
  case i2 => intro h; unfold chrOf; rw [if_neg (by simpa using h)]; exact sees_add_int (by exact sees_name rfl (by decide)) sees_int
  refine' bt_assign (d1 := .list (txts (signsOf x))) (sees_list (cons_str (cons_str (cons_str (cons_str (cons_str (sees_cons (sees_ite (tests_cmp cmp_eq_str (by exact sees_name rfl (by decide)) sees_str rfl) ?j1 ?j2) sees_nil fun _ => rfl))))))
    (by rw [sizeLine_eq]; exact Nat.le_of_ble_eq_true rfl)) (.inr ⟨rfl, rfl⟩) rfl ?_
  case j1 => intro h; rw [show (signOf x == slash) = true from h]; exact sees_str
  case j2 => intro h; rw [show (signOf x == slash) = false from h]; exact sees_name rfl (by decide)
  refine' bt_ret (sees_join (x := Str.ofString "") (ys := [1, 6, 36].map fun k => (signsOf x).getD (digit x k) Str.empty) ?ok sees_str (sees_is (sees_comp (ds := nums [1, 6, 36]) (p := fun _ => true) (f := fun d => .str ((signsOf x).getD (digit x (intOf d)) Str.empty)) (bs := fun d => [(Str.ofString "k", d)])
    (σ := [(Str.ofString "signs", .list (txts (signsOf x))), (Str.ofString "x", .int x)]) rfl (scOk_of rfl) (fun _ => rfl) (iter_list (sees_list (cons_int (cons_int (cons_int sees_nil)))) (.inl fun _ _ => rfl))
    ?c5 (capt_cons rfl rfl rfl rfl (capt_cons rfl rfl rfl rfl capt_nil)) ?c6 ?c7 (elt_of ?c8 ?c9)) ?c10) (fun _ => rfl) (fun _ => rfl) rfl)
  case ok =>
    have h1 := signs_len x (digit x 1)
    have h2 := signs_len x (digit x 6)
    have h3 := signs_len x (digit x 36)
    unfold JoinOk
    rw [StrLaws.joinTotal]
    unfold tooLong
    rw [sizeLine_eq]
    simp only [List.map_cons, List.map_nil, List.sum_cons, List.sum_nil, List.length_cons, List.length_nil, show (Str.ofString "").length = 0 by decide]
    rw [Bool.not_eq_true', decide_eq_false_iff_not]
    omega
  case c5 => rw [sizeLine_eq]; exact Nat.le_of_ble_eq_true rfl
  case c6 => exact fun C d hd => bd_name rfl rfl
  case c7 => exact fun C d hd => tests_nil
  case c8 =>
    intro C d hd _
    obtain ⟨k, hk, rfl⟩ : ∃ k, k ∈ [(1 : Int), 6, 36] ∧ d = .int k := by
      obtain ⟨k, hk, rfl⟩ := List.mem_map.mp hd
      exact ⟨k, hk, rfl⟩
    have hk0 : k ≠ 0 ∧ k.natAbs < 2 ^ 30 := by
      simp only [List.mem_cons, List.not_mem_nil, or_false] at hk
      rcases hk with rfl | rfl | rfl <;> decide
    refine' sees_item_list (k := (digit x k : Int)) (d := .str ((signsOf x).getD (digit x k) Str.empty)) (by exact sees_name rfl (by decide)) (sees_is (sees_mod_int (sees_div_int (by exact sees_name rfl (by decide)) (by exact sees_name rfl (by decide)) hk0.1 hk0.2) sees_int (by decide)) ?e0) ?e1 ?e2 ?e3 fun _ _ _ => rfl
    case e0 => rw [digit_eq]
    case e1 => rw [at?_nat]; exact txts_get (by show digit x k < 6; exact digit_lt x k)
    case e2 => exact lo_nat _ _
    case e3 => rw [sizeLine_eq]; exact Nat.le_of_ble_eq_true rfl
  case c9 => intro d hd _; rfl
  case c10 => rfl
end
end Mine
end

noncomputable section
open PySem PySem.W PyProof.Rows Builtin.Str
set_option maxRecDepth 100000
namespace Mine

/-! the law's own frame -/
noncomputable def lawParts : List Stmt × Scope := match PySem.Challenge.pw_pd0127_01.main.body.getLast? with
  | some (.FunctionDef _ _ body _ _ _ scope _ _ _) => (body, scope)
  | _ => ([], default)
noncomputable abbrev lawEnv (L f : Addr) (cd : Value) : Env := envOfC (Str.ofString "law") lawParts.2 L f cd
noncomputable abbrev lawFx (base : Heap) (L f : Addr) (cd : Value) : Fx := { A := callerA.deeper (lawEnv L f cd), base := base, outer := [lawEnv L f cd], env := lawEnv L f cd, room := 10 }

noncomputable def drOf (xs : List Int) : List Int := if (xs.take 5).isEmpty then [79, 20, 46, 0, 15] else xs.take 5
theorem drOf_len (xs : List Int) : (drOf xs).length ≤ 5 := by
  unfold drOf
  split
  · decide
  · rw [List.length_take]; exact Nat.min_le_left _ _
theorem drOf_ne (xs : List Int) : drOf xs ≠ [] := by
  unfold drOf
  split
  · simp
  · rename_i h; simpa using h
noncomputable def partsOf (xs : List Int) : List Str := (drOf xs).map partOf
theorem nums_take (xs : List Int) (n : Nat) : (nums xs).take n = nums (xs.take n) := by simp [nums, List.map_take]

section
variable {w : World} {mean : ExcName → Option Value} {mg mb : Str → Option Value} {base h₀ : Heap} {L f : Addr} {cd : Value}

set_option maxHeartbeats 1000000 in
theorem law1 {xs : List Int} (hl : xs.length ≤ 63)
    (h : BT (XX w mean mg mb) (lawFx base L f cd) h₀ [(Str.ofString "parts", .list (txts (partsOf xs))), (Str.ofString "drawn", .list (nums (drOf xs)))] (lawParts.1.drop 2) (.bool true)) :
    BT (XX w mean mg mb) (lawFx base L f cd) h₀ [(Str.ofString "script", .list (nums xs))] lawParts.1 (.bool true) := by
  have hz : (nums xs).length ≤ sizeLine := ll_k (mp_k hl) rfl
  refine' bt_assign (d1 := .list (nums (drOf xs))) (sees_or (d1 := .list (nums (xs.take 5))) (sees_is (sees_slice_list (by exact sees_name rfl (by decide)) part_none (part_some sees_int) hz) ?a1) ?a2 ?a3) (.inl rfl) rfl ?_
  case a1 => rw [show (some (5 : Int)) = some ((5 : Nat) : Int) from rfl, pk_upto, nums_take]
  case a2 => exact decide_eq_true (mp_k (le_k (show (xs.take 5).length ≤ 5 by rw [List.length_take]; exact Nat.min_le_left _ _) rfl))
  case a3 =>
    have e : truth (.list (nums (xs.take 5))) = !(xs.take 5).isEmpty := by cases xs.take 5 <;> rfl
    rw [e]
    unfold drOf
    cases (xs.take 5).isEmpty with
    | true => exact sees_list (cons_int (cons_int (cons_int (cons_int (cons_int sees_nil))))) (by rw [sizeLine_eq]; exact Nat.le_of_ble_eq_true rfl)
    | false => rfl
  have hdl := drOf_len xs
  refine' bt_assign (d1 := .list (txts (partsOf xs))) (sees_is (sees_comp (ds := nums (drOf xs)) (p := fun _ => true) (f := fun d => .str (partOf (intOf d))) (bs := fun d => [(Str.ofString "x", d)]) (σ := [])
    rfl (scOk_of rfl) (fun _ => rfl) (iter_list (by exact sees_name rfl (by decide)) (.inl fun _ _ => rfl)) ?c5 capt_nil ?c6 ?c7 (elt_of ?c8 ?c9)) ?c10) (.inr ⟨rfl, rfl⟩) rfl (bt_weaken h (sub_cons rfl (sub_cons rfl sub_nil)))
  case c5 => exact ll_k (mp_k hdl) rfl
  case c6 => exact fun C d hd => bd_name rfl rfl
  case c7 => exact fun C d hd => tests_nil
  case c8 =>
    intro C d hd _
    obtain ⟨k, hk, rfl⟩ := List.mem_map.mp hd
    exact sees_call1 (by exact sees_name rfl (by decide)) (fn_part (n := 0)) (by show 0 + 1 ≤ 10; decide) rfl (by decide) rfl rfl fun _ => rfl
  case c9 => intro d hd _; rfl
  case c10 => rw [List.filter_eq_self.mpr fun _ _ => rfl]; simp only [nums, txts, partsOf, List.map_map]; rfl
end
end Mine
end

noncomputable section
open PySem PySem.W PyProof.Rows Builtin.Str
set_option maxRecDepth 100000
namespace Mine

noncomputable def codesL : List Str := [Str.ofString "257 \"", Str.ofString "257 \"", Str.ofString "257 is ", Str.ofString "250 \"", Str.ofString "257 \"", Str.ofString "267 \"", Str.ofString "257 \"", Str.ofString "157 \""]
noncomputable def tailsL : List Str := [Str.ofString "", Str.ofString " is there", Str.ofString " \"b\"", Str.ofString ".."]
noncomputable def startOf (dr : List Int) : Str := codesL.getD ((dr.sum.fdiv 4).fmod 8).toNat Str.empty
noncomputable def endOf (dr : List Int) : Str := Str.ofString "\"" ++ tailsL.getD (dr.sum.fmod 4).toNat Str.empty
theorem fmod_nat (x : Int) {k : Int} (hk : 0 < k) : x.fmod k = ((x.fmod k).toNat : Int) ∧ (x.fmod k).toNat < k.toNat :=
  have h1 := Int.fmod_nonneg_of_pos x hk
  ⟨(Int.toNat_of_nonneg h1).symm, (Int.toNat_lt_toNat hk).mpr (Int.fmod_lt_of_pos x hk)⟩

theorem strict_of_eqv {d : PyData} (h : SeqAt.shaped d = true) : (!PyData.eqv d d) = false := by rw [SeqAt.eqv_refl d (SeqAt.canLay_of_shaped h)]; rfl

section
variable {X : Cx} {Γ : Fx} {ρ : Vars}
theorem sees_sum {p pos : Pos} {e : Expr} {xs : List Int} (h : Sees X Γ ρ e (.list (nums xs))) (hk : Γ.env.kindOf "sum" = some .globalImplicit) (hf : nsIn X.K mainGlobals "sum" = some none) (he : ∀ env, starEach [e] env = [(false, eval e env)]) :
    Sees X Γ ρ (.Call (.Name "sum" p) [e] [] pos) (.int xs.sum) := sees_blt hk (by decide) hf (by decide +kernel) (by decide) blt_sum (sees_cons h sees_nil fun env => he env) (fun env => he env) (fun _ _ => rfl)
end

section
variable {w : World} {mean : ExcName → Option Value} {mg mb : Str → Option Value} {base h₀ : Heap} {L f : Addr} {cd : Value}

set_option maxHeartbeats 1000000 in
theorem law2 {dr : List Int} {a : Str} {bs : List Str} (hdr : dr.length ≤ 5) (hl : (a :: bs).length ≤ 100) (hs : ∀ x ∈ a :: bs, x.length ≤ 100) (M1 : joinAll a bs = joined (a :: bs))
    (h : BT (XX w mean mg mb) (lawFx base L f cd) h₀ [(Str.ofString "end", .str (endOf dr)), (Str.ofString "start", .str (startOf dr)), (Str.ofString "path", .str (joined (a :: bs))), (Str.ofString "parts", .list (txts (a :: bs)))] (lawParts.1.drop 7) (.bool true)) :
    BT (XX w mean mg mb) (lawFx base L f cd) h₀ [(Str.ofString "parts", .list (txts (a :: bs))), (Str.ofString "drawn", .list (nums dr))] (lawParts.1.drop 2) (.bool true) := by
  have hz : (nums dr).length ≤ sizeLine := ll_k (mp_k hdr) rfl
  have hzp : (txts (a :: bs)).length ≤ sizeLine := ll_k (mp_k hl) rfl
  refine bt_assign (sees_call1 (by exact sees_name rfl (by decide)) (fn_joined (n := 0) (by simp) hl hs) (by show 0 + 1 ≤ 10; decide) rfl (by decide) rfl rfl fun _ => rfl) (.inr ⟨rfl, rfl⟩) rfl ?_
  have htot : a.length + tot bs ≤ 100000 := by
    have h1 := tot_le (b := 100) (l := bs) fun y hy => hs y (List.mem_cons_of_mem _ hy)
    have h2 := hs a List.mem_cons_self
    exact le_k (Nat.add_le_add h2 (Nat.le_trans h1 (Nat.mul_le_mul_right _ (Nat.le_of_succ_le_succ hl : bs.length ≤ 99)))) rfl
  refine bt_skip (tests_is (tests_cmp cmp_ne_str (sees_call_star rfl (by decide) rfl rfl (by show 0 + 2 ≤ 10; decide) (fn_join (n := 0) htot) (by exact sees_name rfl (by decide)) hzp) (by exact sees_name rfl (by decide)) rfl) (by rw [M1]; simp)) ?_
  refine bt_assign (d1 := .list (txts codesL)) (sees_list (cons_str (cons_str (cons_str (cons_str (cons_str (cons_str (cons_str (cons_str sees_nil))))))))
    (by rw [sizeLine_eq]; exact Nat.le_of_ble_eq_true rfl)) (.inl rfl) rfl ?_
  obtain ⟨e1, l1⟩ := fmod_nat (dr.sum.fdiv 4) (k := 8) (by decide)
  obtain ⟨e2, l2⟩ := fmod_nat dr.sum (k := 4) (by decide)
  refine' bt_assign (d1 := .str (startOf dr)) (sees_item_list (k := (((dr.sum.fdiv 4).fmod 8).toNat : Int)) (ds := txts codesL) (by exact sees_name rfl (by decide)) (sees_is (sees_mod_int (sees_div_int (sees_sum (by exact sees_name rfl (by decide)) rfl rfl fun _ => rfl) sees_int (by decide) (by decide)) sees_int (by decide)) ?a1) ?a2 ?a3 ?a4 fun _ _ _ => rfl) (.inr ⟨rfl, rfl⟩) rfl ?_
  case a1 => rw [← e1]
  case a2 => rw [at?_nat]; exact txts_get l1
  case a3 => exact lo_nat _ _
  case a4 => rw [sizeLine_eq]; exact Nat.le_of_ble_eq_true rfl
  refine' bt_assign (d1 := .str (endOf dr)) (sees_add_str sees_str (sees_item_list (k := ((dr.sum.fmod 4).toNat : Int)) (ds := txts tailsL) (d := .str (tailsL.getD (dr.sum.fmod 4).toNat Str.empty)) (sees_list (cons_str (cons_str (cons_str (cons_str sees_nil)))) (by rw [sizeLine_eq]; exact Nat.le_of_ble_eq_true rfl))
    (sees_is (sees_mod_int (sees_sum (by exact sees_name rfl (by decide)) rfl rfl fun _ => rfl) sees_int (by decide)) ?b1) ?b2 ?b3 ?b4 fun _ _ _ => rfl) ?b5) (.inr ⟨rfl, rfl⟩) rfl (bt_weaken h (sub_cons rfl (sub_cons rfl (sub_cons rfl (sub_cons rfl sub_nil)))))
  case b1 => rw [← e2]
  case b2 => rw [at?_nat]; exact txts_get l2
  case b3 => exact lo_nat _ _
  case b4 => rw [sizeLine_eq]; exact Nat.le_of_ble_eq_true rfl
  case b5 =>
    have h1 : (tailsL.getD (dr.sum.fmod 4).toNat Str.empty).length ≤ 100 := getD_mem (b := 100) (by decide)
    have h2 : (Str.ofString "\"").length = 1 := by decide
    rw [h2]; exact sz_k (Nat.add_le_add (Nat.le_refl 1) h1) rfl
end
end Mine
end

noncomputable section
open PySem PySem.W PyProof.Rows Builtin.Str
namespace Mine

/-! texts as lists of their signs -/
noncomputable abbrev ls (x : Str) : List Nat := x.cps.toList
theorem len_ls (x : Str) : x.length = (ls x).length := by simp [Str.length]
theorem ls_app (x y : Str) : ls (x ++ y) = ls x ++ ls y := app_toList x y
theorem ls_inj {x y : Str} (h : ls x = ls y) : x = y := str_ext h
theorem ls_slash : ls slash = [47] := by decide
theorem slash_mk : slash = ⟨#[47]⟩ := by decide
theorem ls_empty : ls (Str.ofString "") = [] := by decide
theorem str_beq (x y : Str) : (x == y) = (ls x == ls y) := by
  rw [Bool.eq_iff_iff, beq_iff_eq, beq_iff_eq]
  exact ⟨fun h => by rw [h], ls_inj⟩

/-- pieces joined, a list cut at a sign -/
noncomputable def jn (sep : List Nat) : List (List Nat) → List Nat
  | [] => []
  | [x] => x
  | x :: y :: r => x ++ sep ++ jn sep (y :: r)
theorem jn_cons (sep x : List Nat) {r : List (List Nat)} (h : r ≠ []) : jn sep (x :: r) = x ++ sep ++ jn sep r := by
  cases r with
  | nil => exact absurd rfl h
  | cons y r => rfl
noncomputable def sp (c : Nat) : List Nat → List (List Nat)
  | [] => [[]]
  | a :: l => if a = c then [] :: sp c l else match sp c l with
    | [] => [[a]]
    | p :: r => (a :: p) :: r
theorem sp_ne (c : Nat) : ∀ l, sp c l ≠ []
  | [] => by simp [sp]
  | a :: l => by
    unfold sp
    split
    · simp
    · split <;> simp
theorem sp_cons_ne {c a : Nat} (h : a ≠ c) (l : List Nat) : ∃ p r, sp c l = p :: r ∧ sp c (a :: l) = (a :: p) :: r := by
  cases e : sp c l with
  | nil => exact absurd e (sp_ne c l)
  | cons p r => exact ⟨p, r, rfl, by rw [sp, if_neg h, e]⟩
theorem sp_free {c : Nat} : ∀ {l : List Nat}, c ∉ l → sp c l = [l]
  | [], _ => rfl
  | a :: l, h => by
    have h1 : a ≠ c := fun q => h (by rw [q]; exact List.mem_cons_self)
    obtain ⟨p, r, e1, e2⟩ := sp_cons_ne h1 l
    rw [sp_free fun q => h (List.mem_cons_of_mem _ q)] at e1
    cases e1
    exact e2
theorem sp_app {c : Nat} (l' : List Nat) : ∀ {l : List Nat}, c ∉ l → sp c (l ++ c :: l') = l :: sp c l'
  | [], _ => by simp [sp]
  | a :: l, h => by
    have h1 : a ≠ c := fun q => h (by rw [q]; exact List.mem_cons_self)
    obtain ⟨p, r, e1, e2⟩ := sp_cons_ne h1 (l ++ c :: l')
    rw [sp_app l' fun q => h (List.mem_cons_of_mem _ q)] at e1
    cases e1
    exact e2
theorem sp_jn {c : Nat} : ∀ {ps : List (List Nat)}, ps ≠ [] → (∀ p ∈ ps, c ∉ p) → sp c (jn [c] ps) = ps
  | [], h, _ => absurd rfl h
  | [x], _, h => sp_free (h x List.mem_cons_self)
  | x :: y :: r, _, h => by
    show sp c (x ++ [c] ++ jn [c] (y :: r)) = _
    rw [List.append_assoc, List.singleton_append, sp_app _ (h x List.mem_cons_self), sp_jn (by simp) fun p hp => h p (List.mem_cons_of_mem _ hp)]
theorem jn_sp (c : Nat) : ∀ l, jn [c] (sp c l) = l
  | [] => rfl
  | a :: l => by
    have ih := jn_sp c l
    by_cases h : a = c
    · rw [sp, if_pos h, jn_cons _ _ (sp_ne c l), ih, h]; rfl
    · obtain ⟨p, r, e1, e2⟩ := sp_cons_ne h l
      rw [e2]
      rw [e1] at ih
      cases r with
      | nil => simp only [jn] at ih ⊢; rw [ih]
      | cons q r => simp only [jn] at ih ⊢; rw [← ih]; rfl
theorem sp_mem_free {c : Nat} : ∀ {l : List Nat}, ∀ p ∈ sp c l, c ∉ p
  | [], p, hp => by simp [sp] at hp; subst hp; simp
  | a :: l, p, hp => by
    by_cases h : a = c
    · rw [sp, if_pos h] at hp
      rcases List.mem_cons.mp hp with rfl | hp
      · simp
      · exact sp_mem_free p hp
    · obtain ⟨p', r, e1, e2⟩ := sp_cons_ne h l
      rw [e2] at hp
      rcases List.mem_cons.mp hp with rfl | hp
      · have := sp_mem_free (c := c) (l := l) p' (by rw [e1]; exact List.mem_cons_self)
        intro q
        rcases List.mem_cons.mp q with q | q
        · exact h q.symm
        · exact this q
      · exact sp_mem_free p (by rw [e1]; exact List.mem_cons_of_mem _ hp)
theorem sp_app_jn {c : Nat} (l l' : List Nat) : sp c (l ++ c :: l') = sp c l ++ sp c l' := by
  have h := jn_sp c l
  have h' := jn_sp c l'
  have aux : ∀ (a b : List (List Nat)), a ≠ [] → b ≠ [] → jn [c] (a ++ b) = jn [c] a ++ c :: jn [c] b := by
    intro a b ha hb
    induction a with
    | nil => exact absurd rfl ha
    | cons x a ih =>
      cases a with
      | nil => rw [List.singleton_append, jn_cons _ _ hb]; simp [jn]
      | cons y a =>
        have e1 : jn [c] (x :: (y :: a ++ b)) = x ++ [c] ++ jn [c] (y :: a ++ b) := jn_cons _ _ (by simp)
        have e2 : jn [c] (x :: y :: a) = x ++ [c] ++ jn [c] (y :: a) := jn_cons _ _ (by simp)
        rw [List.cons_append, e1, ih (by simp), e2]
        simp only [List.append_assoc, List.cons_append]
  rw [← h, ← h', ← aux _ _ (sp_ne c l) (sp_ne c l'), sp_jn (by simp [sp_ne c l]), h, h']
  intro p hp
  rcases List.mem_append.mp hp with hp | hp
  · exact sp_mem_free p hp
  · exact sp_mem_free p hp

/-! joins, cuts, doublings of texts -/
theorem ls_join (sep : Str) : ∀ xs : List Str, ls (Txt.join sep xs) = jn (ls sep) (xs.map ls) := by
  intro xs
  show ls (glued sep xs) = _
  rw [StrLaws.glued_eq_join]
  induction xs with
  | nil => rfl
  | cons x r ih =>
    cases r with
    | nil => rfl
    | cons y r =>
      show ls (x ++ sep ++ Str.join sep (y :: r)) = _
      rw [ls_app, ls_app, ih]
      rfl
theorem ls_split (x : Str) (c : Nat) : (Txt.split x ⟨#[c]⟩).map ls = sp c (ls x) := by
  have h1 := StrLaws.join_split x ⟨#[c]⟩
  have h2 := StrLaws.split_free x c
  have h3 := split_pos x ⟨#[c]⟩
  have h4 := ls_join ⟨#[c]⟩ (Txt.split x ⟨#[c]⟩)
  have e : Txt.join ⟨#[c]⟩ (Txt.split x ⟨#[c]⟩) = x := by
    show glued _ _ = _
    rw [StrLaws.glued_eq_join, h1]
  rw [e] at h4
  rw [h4]
  refine (sp_jn (fun q => ?_) fun p hp => ?_).symm
  · have := congrArg List.length q
    rw [List.length_map] at this
    simp at this
    rw [this] at h3
    simp at h3
  · obtain ⟨y, hy, rfl⟩ := List.mem_map.mp hp
    exact h2 y hy
noncomputable def dq (l : List Nat) : List Nat := l.flatMap fun a => if a = 34 then [34, 34] else [a]
theorem dq_app (a b : List Nat) : dq (a ++ b) = dq a ++ dq b := by simp [dq]
theorem jn_dq : ∀ l : List Nat, jn [34, 34] (sp 34 l) = dq l
  | [] => rfl
  | a :: l => by
    have ih := jn_dq l
    by_cases h : a = 34
    · rw [sp, if_pos h, jn_cons _ _ (sp_ne 34 l), ih, h]; rfl
    · obtain ⟨p, r, e1, e2⟩ := sp_cons_ne h l
      have e3 : dq (a :: l) = a :: dq l := by simp [dq, h]
      rw [e2, e3, ← ih, e1]
      cases r with
      | nil => rfl
      | cons q r => rfl
theorem ls_dbl (x : Str) : ls (dbl x) = dq (ls x) := by
  unfold dbl
  rw [show Str.ofString "\"" = ⟨#[34]⟩ by decide, StrLaws.replace_one]
  have h := ls_join (Str.ofString "\"\"") (Txt.split x ⟨#[34]⟩)
  have e : Txt.join (Str.ofString "\"\"") (Txt.split x ⟨#[34]⟩) = Str.join (Str.ofString "\"\"") (Txt.split x ⟨#[34]⟩) := by
    show glued _ _ = _
    rw [StrLaws.glued_eq_join]
  rw [e, ls_split, show ls (Str.ofString "\"\"") = [34, 34] by decide, jn_dq] at h
  exact h
theorem dq_len (l : List Nat) : (dq l).length ≤ 2 * l.length := by
  induction l with
  | nil => simp [dq]
  | cons a l ih =>
    have e : dq (a :: l) = (if a = 34 then [34, 34] else [a]) ++ dq l := by simp [dq]
    rw [e, List.length_append, Nat.add_comm]
    show _ ≤ 2 * l.length + 2
    refine Nat.add_le_add ih ?_
    split
    · exact Nat.le_refl 2
    · exact Nat.le_succ 1
theorem dbl_len (x : Str) : (dbl x).length ≤ 2 * x.length := by rw [len_ls, ls_dbl, len_ls]; exact dq_len _

theorem ls_startswith (x : Str) : Txt.startswith x slash = (ls x).head?.any (· == 47) := by
  unfold Txt.startswith
  rw [StrLaws.subAt_eq, slash_mk]
  show (decide (0 + 1 ≤ x.length) && ((ls x).drop 0).take 1 == [47]) = _
  rw [len_ls]
  cases ls x with
  | nil => rfl
  | cons a l => simp
theorem ls_endswith (x : Str) : Txt.endswith x slash = (ls x).getLast?.any (· == 47) := by
  unfold Txt.endswith
  rw [StrLaws.subAt_eq, slash_mk]
  show (decide (0 + 1 ≤ x.length) && ((ls x).drop (x.length - 1)).take 1 == [47]) = _
  rw [len_ls]
  rcases List.eq_nil_or_concat (ls x) with h | ⟨l, a, h⟩
  · rw [h]; rfl
  · rw [h]
    simp

/-- the last slash: what stands up to it and behind -/
theorem rfind_cut (x : Str) : ∃ i : Nat, Txt.rfind x slash + 1 = (i : Int) ∧ i ≤ (ls x).length ∧ 47 ∉ (ls x).drop i ∧ (i = 0 ∨ ((ls x).take i).getLast? = some 47) := by
  have aux : ∀ i, PySem.StrLaws.At x slash x.length i ↔ (ls x)[i]? = some 47 := fun i => by rw [slash_mk]; exact StrLaws.subAt_one x 47 i
  unfold Txt.rfind
  rcases StrLaws.last_spec x slash with ⟨e, h⟩ | ⟨i, e, h, hk⟩
  · rw [e]
    refine ⟨0, rfl, Nat.zero_le _, fun hm => ?_, .inl rfl⟩
    obtain ⟨j, hj⟩ := List.mem_iff_getElem?.mp hm
    exact h j ((aux j).mpr (by simpa using hj))
  · rw [e]
    have hi := (aux i).mp h
    have hlt := (List.getElem?_eq_some_iff.mp hi).1
    refine ⟨i + 1, rfl, hlt, fun hm => ?_, .inr ?_⟩
    · obtain ⟨j, hj⟩ := List.mem_iff_getElem?.mp hm
      rw [List.getElem?_drop] at hj
      exact hk (i + 1 + j) (Nat.lt_of_lt_of_le (Nat.lt_succ_self i) (Nat.le_add_right _ _)) ((aux _).mpr hj)
    · rw [List.take_add_one, hi]
      simp

theorem drop_takeWhile (p : Nat → Bool) : ∀ l : List Nat, l.drop (l.takeWhile p).length = l.dropWhile p
  | [] => rfl
  | a :: l => by
    by_cases h : p a = true
    · rw [List.takeWhile_cons_of_pos h, List.dropWhile_cons_of_pos h, List.length_cons, List.drop_succ_cons]
      exact drop_takeWhile p l
    · rw [List.takeWhile_cons_of_neg h, List.dropWhile_cons_of_neg h]; rfl
theorem ls_lstrip (x : Str) : ls (Txt.lstripChars x slash) = (ls x).dropWhile (· == 47) := by
  have hg : slash.cps.contains = (· == 47) := by
    funext c
    rw [slash_mk, Bool.eq_iff_iff]
    simp
  unfold Txt.lstripChars Txt.stripBy
  rw [hg]
  have e : stripLo (fun c => c == 47) true x = ((ls x).takeWhile (· == 47)).length := rfl
  have key := drop_takeWhile (· == 47) (ls x)
  split
  · rename_i h
    unfold stripSame at h
    simp only [Bool.and_eq_true, beq_iff_eq] at h
    rw [e] at h
    rw [← key, h.1, List.drop_zero]
  · unfold PySem.stripped
    show (strSub x _ _).cps.toList = _
    rw [StrLaws.strSub_toList, e, ← key]
    have : stripHi (fun c => c == 47) false x ((ls x).takeWhile (· == 47)).length = x.length := rfl
    rw [this, List.take_of_length_le]
    rw [List.length_drop, len_ls]; exact Nat.le_refl _
theorem contains_slash : slash.cps.contains = (· == 47) := by
  funext c
  rw [slash_mk, Bool.eq_iff_iff]
  simp
theorem ls_rstrip (x : Str) : ls (Txt.rstripChars x slash) = ((ls x).reverse.dropWhile (· == 47)).reverse := by
  unfold Txt.rstripChars Txt.stripBy
  rw [contains_slash]
  have key := drop_takeWhile (· == 47) (ls x).reverse
  have e : stripHi (fun c => c == 47) true x 0 = x.length - ((ls x).reverse.takeWhile (· == 47)).length := rfl
  have e2 : ((ls x).reverse.dropWhile (· == 47)).reverse = (ls x).take (x.length - ((ls x).reverse.takeWhile (· == 47)).length) := by
    rw [← key, List.reverse_drop, len_ls]; simp
  rw [e2]
  split
  · rename_i h
    unfold stripSame at h
    simp only [Bool.and_eq_true, beq_iff_eq] at h
    have h2 : stripHi (fun c => c == 47) true x 0 = x.length := h.2
    rw [e] at h2
    rw [h2, List.take_of_length_le (by rw [len_ls]; exact Nat.le_refl _)]
  · unfold PySem.stripped
    show (strSub x 0 (stripHi (fun c => c == 47) true x 0)).cps.toList = _
    rw [StrLaws.strSub_toList, e]
    simp
end Mine
end

noncomputable section
open PySem PySem.W PyProof.Rows Builtin.Str
namespace Mine

noncomputable abbrev rp (m : Nat) : List Nat := List.replicate m 47
/-- a path, cut at its runs of slashes: its stops, its names -/
inductive Dec : List Nat → List (List Nat) → List (List Nat) → Prop
  | base {x : List Nat} : 47 ∉ x → Dec x [x] [x]
  | step {u t : List Nat} {S N : List (List Nat)} {m : Nat} : Dec u S N → u.getLast? ≠ some 47 → 47 ∉ t → Dec (u ++ (rp (m + 1) ++ t)) ((u ++ (rp (m + 1) ++ t)) :: S) (N ++ [t])

theorem cut_last (l : List Nat) (h : 47 ∈ l) : ∃ A t, l = A ++ t ∧ 47 ∉ t ∧ A.getLast? = some 47 := by
  induction l with
  | nil => cases h
  | cons a l ih =>
    by_cases hl : 47 ∈ l
    · obtain ⟨A, t, rfl, h1, h2⟩ := ih hl
      refine ⟨a :: A, t, rfl, h1, ?_⟩
      cases A with
      | nil => simp at h2
      | cons b A => rw [List.getLast?_cons_cons]; exact h2
    · have : a = 47 := by rcases List.mem_cons.mp h with h | h; exact h.symm; exact absurd h hl
      exact ⟨[a], l, rfl, hl, by simp [this]⟩
theorem cut_run' : ∀ (n : Nat) (A : List Nat), A.length = n → ∃ u m, A = u ++ rp m ∧ u.getLast? ≠ some 47
  | 0, A, h => ⟨[], 0, by rw [List.length_eq_zero_iff.mp h]; rfl, by simp⟩
  | n + 1, A, h => by
    rcases List.eq_nil_or_concat A with rfl | ⟨B, a, rfl⟩
    · simp at h
    · rw [List.concat_eq_append] at h ⊢
      by_cases ha : a = 47
      · obtain ⟨u, m, rfl, hu⟩ := cut_run' n B (by simpa using h)
        exact ⟨u, m + 1, by rw [ha, List.append_assoc]; show _ = u ++ List.replicate (m + 1) 47; rw [List.replicate_succ'], hu⟩
      · exact ⟨B ++ [a], 0, by simp, by simpa using ha⟩
theorem cut_run (A : List Nat) : ∃ u m, A = u ++ rp m ∧ u.getLast? ≠ some 47 := cut_run' _ A rfl
theorem rp_succ (m : Nat) (t : List Nat) : rp (m + 1) ++ t = 47 :: (rp m ++ t) := rfl
theorem dec_all : ∀ (n : Nat) (x : List Nat), x.length ≤ n → ∃ S N, Dec x S N
  | 0, x, h => by
    have : x = [] := List.length_eq_zero_iff.mp (Nat.le_zero.mp h)
    subst this
    exact ⟨_, _, .base (by simp)⟩
  | n + 1, x, h => by
    by_cases hx : 47 ∈ x
    · obtain ⟨A, t, rfl, ht, hA⟩ := cut_last x hx
      obtain ⟨u, m, rfl, hu⟩ := cut_run A
      cases m with
      | zero =>
        simp at hA
        exact absurd hA hu
      | succ m =>
        have hl : u.length ≤ n := by simp at h; omega
        obtain ⟨S, N, D⟩ := dec_all n u hl
        exact ⟨_, _, by rw [List.append_assoc]; exact .step D hu ht⟩
    · exact ⟨_, _, .base hx⟩
theorem dec (x : List Nat) : ∃ S N, Dec x S N := dec_all x.length x (Nat.le_refl _)

theorem Dec.head {x : List Nat} {S N : List (List Nat)} (D : Dec x S N) : ∃ T, S = x :: T := by cases D <;> exact ⟨_, rfl⟩
theorem Dec.names_ne {x : List Nat} {S N : List (List Nat)} (D : Dec x S N) : N ≠ [] := by cases D <;> simp
theorem Dec.len {x : List Nat} {S N : List (List Nat)} (D : Dec x S N) : S.length = N.length := by
  induction D with
  | base => rfl
  | step _ _ _ ih => simp [ih]
theorem Dec.nil {S N : List (List Nat)} (D : Dec [] S N) : S = [[]] ∧ N = [[]] := by
  generalize hx : ([] : List Nat) = x at D
  cases D with
  | base => exact ⟨rfl, rfl⟩
  | step => simp at hx
theorem Dec.names_sub {x : List Nat} {S N : List (List Nat)} (D : Dec x S N) : ∀ n ∈ N, ∀ c ∈ n, c ∈ x := by
  induction D with
  | base h => intro n hn c hc; simp at hn; subst hn; exact hc
  | step _ _ ht ih =>
    intro n hn c hc
    rcases List.mem_append.mp hn with hn | hn
    · exact List.mem_append_left _ (ih n hn c hc)
    · simp at hn; subst hn; exact List.mem_append_right _ (List.mem_append_right _ hc)
theorem Dec.stops_sub {x : List Nat} {S N : List (List Nat)} (D : Dec x S N) : ∀ s ∈ S, ∃ r, x = s ++ r := by
  induction D with
  | base h => intro n hn; simp at hn; subst hn; exact ⟨[], by simp⟩
  | @step u t S N m _ _ ht ih =>
    intro s hs
    rcases List.mem_cons.mp hs with rfl | hs
    · exact ⟨[], by simp⟩
    · obtain ⟨r, hr⟩ := ih s hs
      exact ⟨r ++ (rp (m + 1) ++ t), by rw [← List.append_assoc s r, ← hr]⟩

/-! names -/
noncomputable def namesOf (ps : List (List Nat)) : List (List Nat) := ps.take 1 ++ ((ps.drop 1).dropLast.filter fun p => !p.isEmpty) ++ (ps.drop 1).getLast?.toList
theorem sp_last {l : List Nat} : (sp 47 l).getLast? = some [] ↔ (l = [] ∨ l.getLast? = some 47) := by
  induction l with
  | nil => simp [sp]
  | cons a l ih =>
    by_cases h : a = 47
    · subst h
      rw [sp, if_pos rfl]
      have hn := sp_ne 47 l
      cases e : sp 47 l with
      | nil => exact absurd e hn
      | cons p r =>
        rw [List.getLast?_cons_cons, ← e, ih]
        cases l with
        | nil => simp
        | cons b l => simp
    · obtain ⟨p, r, e1, e2⟩ := sp_cons_ne h l
      rw [e2]
      rw [e1] at ih
      cases r with
      | nil =>
        simp only [List.getLast?_singleton, Option.some.injEq] at ih ⊢
        constructor
        · intro q; cases q
        · rintro (q | q)
          · cases q
          · cases l with
            | nil => simp at q; exact absurd q h
            | cons b l =>
              rw [List.getLast?_cons_cons] at q
              have := ih.mpr (.inr q)
              subst this
              have hx := jn_sp 47 (b :: l)
              rw [e1] at hx
              simp [jn] at hx
      | cons q r =>
        rw [List.getLast?_cons_cons] at ih ⊢
        rw [ih]
        cases l with
        | nil => simp [sp] at e1
        | cons b l => rw [List.getLast?_cons_cons]; simp
theorem sp_rep (t : List Nat) (ht : 47 ∉ t) : ∀ m, sp 47 (rp m ++ t) = List.replicate m [] ++ [t]
  | 0 => by simpa using sp_free ht
  | m + 1 => by
    have e : ∀ l, sp 47 (47 :: l) = [] :: sp 47 l := fun l => by rw [sp, if_pos rfl]
    rw [rp_succ, e, sp_rep t ht m, List.replicate_succ]; rfl
theorem filter_reps : ∀ m : Nat, (List.replicate m ([] : List Nat)).filter (fun p => !p.isEmpty) = []
  | 0 => rfl
  | m + 1 => by rw [List.replicate_succ, List.filter_cons_of_neg (by simp)]; exact filter_reps m
theorem Dec.names {x : List Nat} {S N : List (List Nat)} (D : Dec x S N) : namesOf (sp 47 x) = N := by
  induction D with
  | base h => rw [sp_free h]; rfl
  | @step u t S N m D hu ht ih =>
    have e : sp 47 (u ++ (rp (m + 1) ++ t)) = sp 47 u ++ (List.replicate m [] ++ [t]) := by
      rw [rp_succ, sp_app_jn, sp_rep t ht m]
    rw [e]
    have hl : (sp 47 u).getLast? = some [] → u = [] := fun h => by
      rcases sp_last.mp h with h | h
      · exact h
      · exact absurd h hu
    cases hp : sp 47 u with
    | nil => exact absurd hp (sp_ne 47 u)
    | cons p r =>
      rw [hp] at ih hl
      rw [← ih]
      rcases List.eq_nil_or_concat r with rfl | ⟨r', q, rfl⟩
      · have e1 : (List.replicate m ([] : List Nat) ++ [t]).dropLast = List.replicate m [] := by simp
        simp only [namesOf, List.cons_append, List.nil_append, List.take_succ_cons, List.take_zero, List.drop_succ_cons, List.drop_zero, e1, filter_reps]
        simp
      · have hq : q ≠ [] := fun z => by
          subst z
          have := hl (by rw [List.concat_eq_append, ← List.cons_append, List.getLast?_concat])
          subst this
          simp [sp] at hp
        have e1 : (r'.concat q ++ (List.replicate m ([] : List Nat) ++ [t])).dropLast = r' ++ [q] ++ List.replicate m [] := by
          rw [List.concat_eq_append, ← List.append_assoc, List.dropLast_concat]
        have e2 : (r'.concat q ++ (List.replicate m ([] : List Nat) ++ [t])).getLast? = some t := by
          rw [← List.append_assoc, List.getLast?_concat]
        simp only [namesOf, List.cons_append, List.take_succ_cons, List.take_zero, List.drop_succ_cons, List.drop_zero, e1, e2, List.filter_append, filter_reps]
        rw [List.concat_eq_append]
        simp [hq]

/-! stops -/
noncomputable def isStop (x : List Nat) (k : Nat) : Bool := x[k]? == some 47 && (x.take k).getLast? != some 47
noncomputable def stopsOf (x : List Nat) : List (List Nat) := x :: ((List.range x.length).reverse.filter (isStop x)).map fun k => x.take k
theorem filter_none {α : Type} {p : α → Bool} : ∀ {l : List α}, (∀ a ∈ l, p a = false) → l.filter p = []
  | [], _ => rfl
  | a :: l, h => by
    rw [List.filter_cons_of_neg (by rw [h a List.mem_cons_self]; decide)]
    exact filter_none fun b hb => h b (List.mem_cons_of_mem _ hb)
theorem Dec.stops {x : List Nat} {S N : List (List Nat)} (D : Dec x S N) : stopsOf x = S := by
  induction D with
  | @base x h =>
    unfold stopsOf
    rw [filter_none]
    · rfl
    · intro k _
      unfold isStop
      have : (x[k]? == some 47) = false := by
        rw [beq_eq_false_iff_ne]
        exact fun q => h (List.mem_of_getElem? q)
      rw [this]; rfl
  | @step u t S N m D hu ht ih =>
    have hlen : (u ++ (rp (m + 1) ++ t)).length = u.length + (1 + (m + t.length)) := by rw [List.length_append, List.length_append, List.length_replicate, Nat.add_comm m 1, Nat.add_assoc]
    have h0 : (u ++ (rp (m + 1) ++ t)).take u.length = u := by simp
    unfold stopsOf
    rw [hlen, List.range_add, List.range_add, List.map_append, List.reverse_append, List.reverse_append, List.filter_append, List.filter_append, List.map_append, List.map_append]
    have p1 : (((List.range (m + t.length)).map (1 + ·)).map (u.length + ·)).reverse.filter (isStop (u ++ (rp (m + 1) ++ t))) = [] := by
      refine filter_none fun k hk => ?_
      simp only [List.mem_reverse, List.mem_map, List.mem_range] at hk
      obtain ⟨_, ⟨j, hj, rfl⟩, rfl⟩ := hk
      unfold isStop
      by_cases hjm : j < m
      · have e : ((u ++ (rp (m + 1) ++ t)).take (u.length + (1 + j))).getLast? = some 47 := by
          have e0 : (u ++ (rp (m + 1) ++ t)).take (u.length + (1 + j)) = u ++ List.replicate (j + 1) 47 := by
            rw [List.take_append, List.take_of_length_le (Nat.le_add_right _ _), show u.length + (1 + j) - u.length = j + 1 from (Nat.add_sub_cancel_left ..).trans (Nat.add_comm 1 j), List.take_append_of_le_length (by rw [List.length_replicate]; exact Nat.succ_le_succ (Nat.le_of_lt hjm)), List.take_replicate, Nat.min_eq_left (by omega)]
          rw [e0, List.replicate_succ', ← List.append_assoc, List.getLast?_concat]
        rw [e]; simp
      · have e : (u ++ (rp (m + 1) ++ t))[u.length + (1 + j)]? ≠ some 47 := by
          rw [List.getElem?_append_right (Nat.le_add_right _ _), List.getElem?_append_right (by rw [List.length_replicate, Nat.add_sub_cancel_left, Nat.add_comm 1 j]; exact Nat.succ_le_succ (Nat.not_lt.mp hjm))]
          exact fun q => ht (List.mem_of_getElem? q)
        have e' : ((u ++ (rp (m + 1) ++ t))[u.length + (1 + j)]? == some 47) = false := beq_eq_false_iff_ne.mpr e
        rw [e']; rfl
    have p2 : (((List.range 1)).map (u.length + ·)).reverse.filter (isStop (u ++ (rp (m + 1) ++ t))) = [u.length] := by
      have : isStop (u ++ (rp (m + 1) ++ t)) u.length = true := by
        unfold isStop
        rw [h0, List.getElem?_append_right (Nat.le_refl _)]
        simp [List.replicate_succ, hu]
      simp [List.range_succ, this]
    have p3 : (List.range u.length).reverse.filter (isStop (u ++ (rp (m + 1) ++ t))) = (List.range u.length).reverse.filter (isStop u) := by
      refine List.filter_congr fun k hk => ?_
      simp only [List.mem_reverse, List.mem_range] at hk
      unfold isStop
      rw [List.getElem?_append_left hk, List.take_append_of_le_length (Nat.le_of_lt hk)]
    have p3' : ((List.range u.length).reverse.filter (isStop u)).map (fun k => (u ++ (rp (m + 1) ++ t)).take k) = ((List.range u.length).reverse.filter (isStop u)).map fun k => u.take k := by
      refine List.map_congr_left fun k hk => ?_
      have := (List.mem_filter.mp hk).1
      simp only [List.mem_reverse, List.mem_range] at this
      rw [List.take_append_of_le_length (Nat.le_of_lt this)]
    rw [p1, p2, p3, p3', ← ih]
    simp only [List.map_nil, List.nil_append, List.map_cons, List.cons_append, h0]
    rfl
end Mine
end

noncomputable section
open PySem PySem.W PyProof.Rows Builtin.Str
namespace Mine

/-! split, on lists -/
theorem app_uniq {A B t r : List Nat} (h : A ++ t = B ++ r) (ht : 47 ∉ t) (hr : 47 ∉ r) (hA : A = [] ∨ A.getLast? = some 47) (hB : B = [] ∨ B.getLast? = some 47) : A = B ∧ t = r := by
  have aux : ∀ {A B t r : List Nat}, A ++ t = B ++ r → 47 ∉ t → (B = [] ∨ B.getLast? = some 47) → A.length ≥ B.length := by
    intro A B t r h ht hB
    rcases Nat.lt_or_ge A.length B.length with hl | hl
    · exfalso
      rcases hB with rfl | hB
      · simp at hl
      · have e : (A ++ t)[B.length - 1]? = (B ++ r)[B.length - 1]? := by rw [h]
        rw [List.getElem?_append_right (Nat.le_sub_one_of_lt hl), List.getElem?_append_left (Nat.sub_lt (Nat.lt_of_le_of_lt (Nat.zero_le _) hl) Nat.one_pos), ← List.getLast?_eq_getElem?, hB] at e
        exact ht (List.mem_of_getElem? e)
    · exact hl
  have h1 := aux h ht hB
  have h2 := aux h.symm hr hA
  exact List.append_inj h (Nat.le_antisymm h2 h1)

theorem mul_ls (n : Nat) : ls (Txt.mul slash n) = rp n := by
  have aux : ∀ (k : Nat) (acc : Array Nat), List.foldl (· ++ ·) acc (List.replicate k #[47]) = acc ++ (List.replicate k 47).toArray := by
    intro k
    induction k with
    | zero => intro acc; simp
    | succ k ih => intro acc; rw [List.replicate_succ, List.foldl_cons, ih, List.replicate_succ]; apply Array.toList_inj.mp; simp
  unfold Txt.mul
  split
  · have : n = 0 := by omega
    subst this
    rfl
  · split
    · rename_i h
      have h2 : ((n : Int) == 1) = true := by
        rw [show (slash.length == 0) = false by decide, Bool.or_false] at h
        exact h
      have : n = 1 := Int.ofNat.inj (beq_iff_eq.mp h2)
      subst this
      exact ls_slash
    · show (List.foldl (· ++ ·) #[] (List.replicate (n : Int).toNat slash.cps)).toList = _
      rw [slash_mk, aux]
      simp

theorem split_ls {x : Str} {A t : List Nat} (h : ls x = A ++ t) (ht : 47 ∉ t) (hA : A = [] ∨ A.getLast? = some 47) :
    ls (splitTail x) = t ∧ ls (splitHead x) = if (A != [] && A != rp A.length) = true then (A.reverse.dropWhile (· == 47)).reverse else A := by
  obtain ⟨i, hi, hle, hfree, hend⟩ := rfind_cut x
  have hcut : ls x = (ls x).take i ++ (ls x).drop i := (List.take_append_drop i _).symm
  have hA' : (ls x).take i = [] ∨ ((ls x).take i).getLast? = some 47 := by
    rcases hend with rfl | h
    · exact .inl (by simp)
    · exact .inr h
  obtain ⟨e1, e2⟩ := app_uniq (h.symm.trans hcut) ht hfree hA hA'
  have s1 : ls (Txt.slice x none (some (Txt.rfind x (Str.ofString "/") + 1))) = A := by
    rw [show Txt.rfind x (Str.ofString "/") + 1 = (i : Int) from hi]
    show (Txt.slice x none (some (i : Int))).cps.toList = A
    rw [slice_toList, pk_upto]; exact e1.symm
  have s2 : ls (splitTail x) = t := by
    unfold splitTail
    rw [show Txt.rfind x (Str.ofString "/") + 1 = (i : Int) from hi]
    show (Txt.slice x (some (i : Int)) none).cps.toList = t
    rw [slice_toList, pk_from]; exact e2.symm
  refine ⟨s2, ?_⟩
  unfold splitHead
  simp only []
  generalize Txt.slice x none (some (Txt.rfind x (Str.ofString "/") + 1)) = hh at s1
  have c1 : (hh.length != 0) = (A != []) := by
    rw [len_ls, s1]
    cases A <;> simp
  have c2 : (hh != Txt.mul (Str.ofString "/") hh.length) = (A != rp A.length) := by
    have e := str_beq hh (Txt.mul slash hh.length)
    rw [mul_ls, s1, len_ls, s1] at e
    show (!(hh == Txt.mul slash hh.length)) = (!(A == rp A.length))
    rw [len_ls, s1, e]
  rw [c1, c2]
  split
  · show ls (Txt.rstripChars hh slash) = _
    rw [ls_rstrip, s1]
  · exact s1
theorem split_none {x : Str} (h : 47 ∉ ls x) : ls (splitTail x) = ls x ∧ ls (splitHead x) = [] := by
  obtain ⟨a, b⟩ := split_ls (x := x) (A := []) (t := ls x) rfl h (.inl rfl)
  exact ⟨a, by simpa using b⟩
theorem last_rp (u : List Nat) (m : Nat) : (u ++ rp (m + 1)).getLast? = some 47 := by
  show (u ++ List.replicate (m + 1) 47).getLast? = _
  rw [List.replicate_succ', ← List.append_assoc, List.getLast?_concat]
theorem split_run {x : Str} {u t : List Nat} {m : Nat} (h : ls x = u ++ (rp (m + 1) ++ t)) (hu : u.getLast? ≠ some 47) (ht : 47 ∉ t) :
    ls (splitTail x) = t ∧ ls (splitHead x) = if u = [] then rp (m + 1) else u := by
  obtain ⟨a, b⟩ := split_ls (x := x) (A := u ++ rp (m + 1)) (t := t) (by rw [List.append_assoc]; exact h) ht (.inr (last_rp u m))
  refine ⟨a, b.trans ?_⟩
  rcases List.eq_nil_or_concat u with rfl | ⟨v, c, rfl⟩
  · rw [if_neg (by simp), if_pos rfl]; rfl
  · rw [List.concat_eq_append] at hu ⊢
    have hc : c ≠ 47 := by simpa using hu
    have hne : (v ++ [c] ++ rp (m + 1)) ≠ rp (v ++ [c] ++ rp (m + 1)).length := fun q => by
      have : c ∈ rp (v ++ [c] ++ rp (m + 1)).length := by rw [← q]; simp
      exact hc (List.eq_of_mem_replicate this)
    have hne0 : v ++ [c] ++ rp (m + 1) ≠ [] := by simp
    rw [if_pos (by rw [Bool.and_eq_true, bne_iff_ne, bne_iff_ne]; exact ⟨hne0, hne⟩), if_neg (by simp)]
    have e : (v ++ [c] ++ rp (m + 1)).reverse = rp (m + 1) ++ (c :: v.reverse) := by simp
    rw [e]
    have e2 : ∀ n, (rp n ++ (c :: v.reverse)).dropWhile (· == 47) = c :: v.reverse := by
      intro n
      induction n with
      | zero => show List.dropWhile _ (c :: v.reverse) = _; rw [List.dropWhile_cons_of_neg (by simpa using hc)]
      | succ n ih => rw [rp_succ, List.dropWhile_cons_of_pos rfl, ih]
    rw [e2]; simp
end Mine
end

noncomputable section
open PySem PySem.W PyProof.Rows Builtin.Str
namespace Mine

noncomputable def climbR (x : Str) : Nat → List (Str × Str)
  | 0 => []
  | n + 1 => (splitHead x, splitTail x) :: climbR (splitHead x) n
theorem climbR_succ : ∀ (n : Nat) (x : Str), climbR x (n + 1) = climbR x n ++ [(splitHead (climbNext x (climbR x n)), splitTail (climbNext x (climbR x n)))]
  | 0, x => rfl
  | n + 1, x => by
    have ih := climbR_succ n (splitHead x)
    have e : climbNext x (climbR x (n + 1)) = climbNext (splitHead x) (climbR (splitHead x) n) := by
      show climbNext x ((splitHead x, splitTail x) :: climbR (splitHead x) n) = _
      cases climbR (splitHead x) n with
      | nil => rfl
      | cons p r =>
        unfold climbNext
        rw [List.getLast?_cons_cons, List.getLast?_eq_some_getLast (by simp : p :: r ≠ [])]
    rw [e]
    show (splitHead x, splitTail x) :: climbR (splitHead x) (n + 1) = _
    rw [ih]
    rfl
theorem climb_eq (x : Str) : ∀ n, climbL x n = climbR x n
  | 0 => rfl
  | n + 1 => by rw [climbL, climbR_succ, climb_eq x n]

noncomputable abbrev lsP (p : Str × Str) : List Nat × List Nat := (ls p.1, ls p.2)
noncomputable abbrev lead (l : List Nat) : List Nat := l.takeWhile (· == 47)
theorem lead_free {l : List Nat} (h : 47 ∉ l) : lead l = [] := by
  cases l with
  | nil => rfl
  | cons a l => exact List.takeWhile_cons_of_neg (by simp; exact fun q => h (by rw [q]; exact List.mem_cons_self))
theorem lead_rp {t : List Nat} (h : 47 ∉ t) : ∀ m, lead (rp m ++ t) = rp m
  | 0 => lead_free h
  | m + 1 => by
    have ih := lead_rp h m
    show List.takeWhile _ (47 :: (rp m ++ t)) = 47 :: rp m
    rw [List.takeWhile_cons_of_pos rfl]
    exact congrArg _ ih
theorem lead_app {u : List Nat} (hu : u.getLast? ≠ some 47) (hne : u ≠ []) (r : List Nat) : lead (u ++ r) = lead u := by
  induction u with
  | nil => exact absurd rfl hne
  | cons a u ih =>
    by_cases ha : a = 47
    · subst ha
      cases u with
      | nil => simp at hu
      | cons b u =>
        rw [List.getLast?_cons_cons] at hu
        have := ih hu (by simp)
        show List.takeWhile _ (47 :: (b :: u ++ r)) = List.takeWhile _ (47 :: b :: u)
        rw [List.takeWhile_cons_of_pos rfl, List.takeWhile_cons_of_pos rfl]
        exact congrArg _ this
    · show List.takeWhile _ (a :: (u ++ r)) = List.takeWhile _ (a :: u)
      rw [List.takeWhile_cons_of_neg (by simpa using ha), List.takeWhile_cons_of_neg (by simpa using ha)]

theorem climb_path {X : List Nat} {S N : List (List Nat)} (D : Dec X S N) : ∀ {x : Str}, ls x = X →
    (climbR x S.length).map lsP = ((S.tail ++ [[]]).zip N.reverse).map (fun q : List Nat × List Nat => (if q.1 = [] then lead X else q.1, q.2)) := by
  induction D with
  | @base X h =>
    intro x hx
    subst hx
    obtain ⟨a, b⟩ := split_none h
    show [lsP (splitHead x, splitTail x)] = [(if ([] : List Nat) = [] then lead (ls x) else [], ls x)]
    rw [if_pos rfl, lead_free h]
    show [(ls (splitHead x), ls (splitTail x))] = _
    rw [a, b]
  | @step u t S N m D hu ht ih =>
    intro x hx
    obtain ⟨a, b⟩ := split_run hx hu ht
    obtain ⟨T, hT⟩ := D.head
    have e1 : (climbR x (S.length + 1)).map lsP = (ls (splitHead x), t) :: (climbR (splitHead x) S.length).map lsP := by
      show (lsP (splitHead x, splitTail x)) :: _ = _
      show (ls (splitHead x), ls (splitTail x)) :: _ = _
      rw [a]
    have e2 : (((u ++ (rp (m + 1) ++ t)) :: S).tail ++ [[]]).zip (N ++ [t]).reverse = (u, t) :: ((S.tail ++ [[]]).zip N.reverse) := by
      rw [List.reverse_append, List.reverse_singleton, List.singleton_append, List.tail_cons, hT]; rfl
    rw [List.length_cons, e1, e2, List.map_cons]
    by_cases hu0 : u = []
    · subst hu0
      obtain ⟨rfl, rfl⟩ := D.nil
      rw [if_pos rfl] at b
      have hF : ls (splitHead x) = [] ++ (rp (m + 1) ++ []) := by rw [b]; simp
      obtain ⟨a2, b2⟩ := split_run hF (by simp) (by simp)
      rw [if_pos rfl] at b2
      have hlead : lead ([] ++ (rp (m + 1) ++ t)) = rp (m + 1) := lead_rp ht (m + 1)
      have eL : (climbR (splitHead x) ([[]] : List (List Nat)).length).map lsP = [(rp (m + 1), [])] := by
        have e0 : (climbR (splitHead x) ([[]] : List (List Nat)).length).map lsP = [(ls (splitHead (splitHead x)), ls (splitTail (splitHead x)))] := rfl
        rw [e0, a2, b2]
      rw [hlead, b, eL]
      simp
    · rw [if_neg hu0] at b
      rw [ih b, lead_app hu hu0, b, if_neg hu0]

/-! the reply of a path -/
theorem dq_cons (a : Nat) (l : List Nat) : dq (a :: l) = (if a = 34 then [34, 34] else [a]) ++ dq l := by simp [dq]
theorem dq_free {l : List Nat} (h : 47 ∉ l) : 47 ∉ dq l := by
  induction l with
  | nil => simp [dq]
  | cons a l ih =>
    rw [dq_cons]
    intro hm
    rcases List.mem_append.mp hm with hm | hm
    · split at hm
      · simp at hm
      · simp at hm; exact h (by rw [hm]; exact List.mem_cons_self)
    · exact ih (fun q => h (List.mem_cons_of_mem _ q)) hm
theorem dq_last (l : List Nat) : (dq l).getLast? = l.getLast? := by
  rcases List.eq_nil_or_concat l with rfl | ⟨v, c, rfl⟩
  · rfl
  · rw [List.concat_eq_append, dq_app, List.getLast?_concat, dq_cons]
    show (dq v ++ ((if c = 34 then [34, 34] else [c]) ++ [])).getLast? = _
    split
    · rename_i h; subst h; simp
    · simp
theorem dq_nil {l : List Nat} : dq l = [] ↔ l = [] := by
  cases l with
  | nil => simp [dq]
  | cons a l => rw [dq_cons]; split <;> simp
theorem dq_rp : ∀ m, dq (rp m) = rp m
  | 0 => rfl
  | m + 1 => by show dq (47 :: rp m) = _; rw [dq_cons, dq_rp m]; rfl
noncomputable def tl (st : List Nat) : List (List Nat) → List Nat → List (List Nat)
  | [], _ => []
  | [n], en => [st ++ dq n ++ en]
  | t :: r :: rs, en => (dq t ++ en) :: tl st (r :: rs) []
theorem tl_cons (st t en : List Nat) {r : List (List Nat)} (h : r ≠ []) : tl st (t :: r) en = (dq t ++ en) :: tl st r [] := by
  cases r with
  | nil => exact absurd rfl h
  | cons => rfl
theorem reply_last {st u : List Nat} (hst : 47 ∉ st) (hu : u.getLast? ≠ some 47) : (st ++ dq u).getLast? ≠ some 47 := by
  rw [List.getLast?_append, dq_last]
  cases h : u.getLast? with
  | none => simp; exact fun q => hst (List.mem_of_getLast? q)
  | some c => rw [h] at hu; simpa using hu

theorem climb_reply {st : List Nat} (hst : 47 ∉ st) (hst0 : st ≠ []) {X : List Nat} {S N : List (List Nat)} (D : Dec X S N) : ∀ {en : List Nat} {y : Str}, 47 ∉ en → ls y = st ++ dq X ++ en →
    (climbR y S.length).map lsP = ((S.tail.map (st ++ dq ·)) ++ [[]]).zip (tl st N.reverse en) := by
  induction D with
  | @base X h =>
    intro en y hen hy
    have hf : 47 ∉ ls y := by
      rw [hy]
      intro hm
      rcases List.mem_append.mp hm with hm | hm
      · rcases List.mem_append.mp hm with hm | hm
        · exact hst hm
        · exact dq_free h hm
      · exact hen hm
    obtain ⟨a, b⟩ := split_none hf
    show [(ls (splitHead y), ls (splitTail y))] = [([], st ++ dq X ++ en)]
    rw [a, b, hy]
  | @step u t S N m D hu ht ih =>
    intro en y hen hy
    obtain ⟨T, hT⟩ := D.head
    have hy' : ls y = (st ++ dq u) ++ (rp (m + 1) ++ (dq t ++ en)) := by rw [hy, dq_app, dq_app, dq_rp]; simp
    have hf : 47 ∉ dq t ++ en := fun hm => by
      rcases List.mem_append.mp hm with hm | hm
      · exact dq_free ht hm
      · exact hen hm
    obtain ⟨a, b⟩ := split_run hy' (reply_last hst hu) hf
    rw [if_neg (by simp [hst0])] at b
    have e1 : (climbR y (S.length + 1)).map lsP = (st ++ dq u, dq t ++ en) :: (climbR (splitHead y) S.length).map lsP := by
      show (ls (splitHead y), ls (splitTail y)) :: _ = _
      rw [a, b]
    have e2 : ((((u ++ (rp (m + 1) ++ t)) :: S).tail.map (st ++ dq ·)) ++ [[]]).zip (tl st (N ++ [t]).reverse en) = (st ++ dq u, dq t ++ en) :: (((S.tail.map (st ++ dq ·)) ++ [[]]).zip (tl st N.reverse [])) := by
      rw [List.reverse_append, List.reverse_singleton, List.singleton_append, tl_cons _ _ _ (by simpa using D.names_ne), List.tail_cons, hT]; rfl
    rw [List.length_cons, e1, e2]
    congr 1
    exact ih (by simp) (by rw [b]; simp)
theorem tl_len (st : List Nat) : ∀ (r : List (List Nat)) (en : List Nat), (tl st r en).length = r.length
  | [], _ => rfl
  | [n], _ => rfl
  | t :: r :: rs, en => by
    show (tl st (r :: rs) []).length + 1 = _
    rw [tl_len st (r :: rs)]; rfl

/-! join -/
noncomputable def jstep (p b : List Nat) : List Nat := if b.head? = some 47 ∨ p = [] then b else if p.getLast? = some 47 then p ++ b else p ++ 47 :: b
theorem any_some {o : Option Nat} : o.any (· == 47) = decide (o = some 47) := by
  cases o with
  | none => simp
  | some c => rw [Bool.eq_iff_iff]; simp
theorem ls_joinStep (p b : Str) : ls (joinStep p b) = jstep (ls p) (ls b) := by
  unfold joinStep jstep
  rw [ls_startswith, ls_endswith, any_some, any_some]
  have e : (p.length != 0) = decide (ls p ≠ []) := by rw [len_ls]; cases ls p <;> simp
  rw [e]
  by_cases h1 : (ls b).head? = some 47
  · simp [h1]
  · by_cases h2 : ls p = []
    · simp [h2]
    · simp only [h1, h2, decide_false, Bool.false_or, ne_eq, not_false_eq_true, decide_true, Bool.not_true, Bool.false_eq_true, or_self, if_false]
      by_cases h3 : (ls p).getLast? = some 47
      · rw [if_pos (by simpa using h3), if_pos h3, ls_app]
      · rw [if_neg (by simpa using h3), if_neg h3, ls_app, ls_app, ls_slash]; rfl
noncomputable def jall (a : List Nat) (bs : List (List Nat)) : List Nat := bs.foldl jstep a
theorem ls_joinAll : ∀ (bs : List Str) (a : Str), ls (joinAll a bs) = jall (ls a) (bs.map ls)
  | [], a => rfl
  | b :: bs, a => by
    show ls (joinAll (joinStep a b) bs) = jall (jstep (ls a) (ls b)) (bs.map ls)
    rw [ls_joinAll bs, ls_joinStep]
/-- a list joined -/
noncomputable def jl : List (List Nat) → List Nat
  | [] => []
  | a :: bs => jall a bs
theorem jl_concat {l : List (List Nat)} (h : l ≠ []) (b : List Nat) : jl (l ++ [b]) = jstep (jl l) b := by
  cases l with
  | nil => exact absurd rfl h
  | cons a r =>
    show jall a (r ++ [b]) = jstep (jall a r) b
    unfold jall
    rw [List.foldl_append]; rfl

theorem free_head {b : List Nat} (h : 47 ∉ b) : b.head? ≠ some 47 := fun q => h (List.mem_of_head? q)
theorem jn_concat (sep t : List Nat) : ∀ {N : List (List Nat)}, N ≠ [] → jn sep (N ++ [t]) = jn sep N ++ sep ++ t
  | [], h => absurd rfl h
  | [x], _ => rfl
  | x :: y :: r, _ => by
    have e1 : jn sep (x :: (y :: r ++ [t])) = x ++ sep ++ jn sep (y :: r ++ [t]) := jn_cons _ _ (by simp)
    have e2 : jn sep (x :: y :: r) = x ++ sep ++ jn sep (y :: r) := jn_cons _ _ (by simp)
    rw [List.cons_append, e1, jn_concat sep t (N := y :: r) (by simp), e2]
    simp only [List.append_assoc]
/-- what was parted off, joined again -/
theorem join_names {st : List Nat} (hst : 47 ∉ st) (hst0 : st ≠ []) {X : List Nat} {S N : List (List Nat)} (D : Dec X S N) :
    (∀ en, 47 ∉ en → jl (tl st N.reverse en).reverse = st ++ dq (jn [47] N) ++ en) ∧ (X.getLast? ≠ some 47 → (st ++ dq (jn [47] N)).getLast? ≠ some 47) := by
  induction D with
  | @base X h =>
    refine ⟨fun en hen => rfl, fun hX => ?_⟩
    exact reply_last hst hX
  | @step u t S N m D hu ht ih =>
    obtain ⟨ih1, ih2⟩ := ih
    have hne : N.reverse ≠ [] := by simpa using D.names_ne
    refine ⟨fun en hen => ?_, fun hX => ?_⟩
    · rw [List.reverse_append, List.reverse_singleton, List.singleton_append, tl_cons _ _ _ hne, List.reverse_cons, jl_concat ?_, ih1 [] (by simp), List.append_nil]
      · unfold jstep
        have hf : 47 ∉ dq t ++ en := fun hm => by
          rcases List.mem_append.mp hm with hm | hm
          · exact dq_free ht hm
          · exact hen hm
        rw [if_neg, if_neg (ih2 hu), jn_concat _ _ D.names_ne, dq_app, dq_app]
        · simp [dq]
        · rintro (q | q)
          · exact free_head hf q
          · simp [hst0] at q
      · intro q
        have := congrArg List.length q
        rw [List.length_reverse, tl_len] at this
        simp at this
        exact D.names_ne this
    · rw [jn_concat _ _ D.names_ne]
      refine reply_last hst fun q => ?_
      have ht0 : t ≠ [] := fun z => by
        subst z
        refine hX ?_
        rw [List.append_nil]
        exact last_rp u m
      rw [List.getLast?_append] at q
      cases hq : t.getLast? with
      | none => exact ht0 (List.getLast?_eq_none_iff.mp hq)
      | some c =>
        rw [hq] at q
        simp at q
        subst q
        exact ht (List.mem_of_getLast? hq)
end Mine
end

noncomputable section
open PySem PySem.W PyProof.Rows Builtin.Str
namespace Mine

/-! joins of parts -/
noncomputable def stepL (pcs : List (List Nat)) (b : List Nat) : List (List Nat) := (if pcs.getLast? = some [] then pcs.dropLast else pcs) ++ sp 47 b
theorem jstep_b {p b : List Nat} (h : b.head? = some 47 ∨ p = []) : jstep p b = b := if_pos h
theorem jstep_a {p b : List Nat} (h : b.head? ≠ some 47) (hp : p ≠ []) (h2 : p.getLast? = some 47) : jstep p b = p ++ b := (if_neg (by rintro (q | q); exact h q; exact hp q)).trans (if_pos h2)
theorem jstep_s {p b : List Nat} (h : b.head? ≠ some 47) (hp : p ≠ []) (h2 : p.getLast? ≠ some 47) : jstep p b = p ++ 47 :: b := (if_neg (by rintro (q | q); exact h q; exact hp q)).trans (if_neg h2)
theorem stepL_pop {pcs : List (List Nat)} {b : List Nat} (h : pcs.getLast? = some []) : stepL pcs b = pcs.dropLast ++ sp 47 b := by unfold stepL; rw [if_pos h]
theorem stepL_keep {pcs : List (List Nat)} {b : List Nat} (h : pcs.getLast? ≠ some []) : stepL pcs b = pcs ++ sp 47 b := by unfold stepL; rw [if_neg h]
theorem stepL_sp {p b : List Nat} (hb : b.head? ≠ some 47) : stepL (sp 47 p) b = sp 47 (jstep p b) := by
  by_cases h1 : p = []
  · subst h1
    rw [jstep_b (.inr rfl)]
    rfl
  · by_cases h2 : p.getLast? = some 47
    · rw [stepL_pop (sp_last.mpr (.inr h2)), jstep_a hb h1 h2]
      rcases List.eq_nil_or_concat p with rfl | ⟨v, c, rfl⟩
      · exact absurd rfl h1
      · rw [List.concat_eq_append] at h2 ⊢
        have hc : c = 47 := by simpa using h2
        subst hc
        rw [sp_app_jn, List.append_assoc, List.singleton_append, sp_app_jn]
        show (sp 47 v ++ [[]]).dropLast ++ _ = _
        rw [List.dropLast_concat]
    · rw [stepL_keep (fun q => (sp_last.mp q).elim h1 h2), jstep_s hb h1 h2, sp_app_jn]
theorem steps_sp : ∀ (r : List (List Nat)) (p : List Nat), (∀ b ∈ r, b.head? ≠ some 47) → r.foldl stepL (sp 47 p) = sp 47 (jall p r)
  | [], p, _ => rfl
  | b :: r, p, h => by
    show r.foldl stepL (stepL (sp 47 p) b) = sp 47 (jall (jstep p b) r)
    rw [stepL_sp (h b List.mem_cons_self), steps_sp r _ fun c hc => h c (List.mem_cons_of_mem _ hc)]
theorem jall_reset (x : List Nat) {r1 r2 : List (List Nat)} {b : List Nat} (hb : b.head? = some 47) : jall x (r1 ++ b :: r2) = jall b r2 := by
  unfold jall
  rw [List.foldl_append, List.foldl_cons]
  congr 1
  exact jstep_b (.inl hb)

theorem maxI_le : ∀ (xs : List Int) (x : Int), x ∈ xs → x ≤ maxI xs := by
  intro xs
  cases xs with
  | nil => intro x h; cases h
  | cons a r =>
    have aux : ∀ (r : List Int) (a : Int), a ≤ r.foldl (fun a b => if b > a then b else a) a ∧ ∀ x ∈ r, x ≤ r.foldl (fun a b => if b > a then b else a) a := by
      intro r
      induction r with
      | nil => intro a; exact ⟨Int.le_refl _, fun x h => by cases h⟩
      | cons b r ih =>
        intro a
        rw [List.foldl_cons]
        obtain ⟨h1, h2⟩ := ih (if b > a then b else a)
        have h3 : a ≤ (if b > a then b else a) ∧ b ≤ (if b > a then b else a) := by split; exact ⟨Int.le_of_lt ‹_›, Int.le_refl _⟩; exact ⟨Int.le_refl _, Int.not_lt.mp ‹_›⟩
        refine ⟨Int.le_trans h3.1 h1, fun x hx => ?_⟩
        rcases List.mem_cons.mp hx with rfl | hx
        · exact Int.le_trans h3.2 h1
        · exact h2 x hx
    intro x hx
    obtain ⟨h1, h2⟩ := aux r a
    rcases List.mem_cons.mp hx with rfl | hx
    · exact h1
    · exact h2 x hx
theorem slice1_slash (x : Str) : (Txt.slice x none (some 1) == slash) = decide ((ls x).head? = some 47) := by
  rw [str_beq, ls_slash]
  have e : ls (Txt.slice x none (some 1)) = (ls x).take 1 := by
    show (Txt.slice x none (some ((1 : Nat) : Int))).cps.toList = _
    rw [slice_toList, pk_upto]
  rw [e]
  cases ls x with
  | nil => simp
  | cons a l => rw [Bool.eq_iff_iff]; simp
theorem slashAt_iff (ps : List Str) (k : Nat) : slashAt ps k = true ↔ (ls (ps.getD k Str.empty)).head? = some 47 := by
  unfold slashAt
  rw [slice1_slash]; simp
theorem place_spec {ps : List Str} (hne : ps ≠ []) : (place ps = 0 ∨ slashAt ps (place ps) = true) ∧ ∀ k, place ps < k → k < ps.length → slashAt ps k = false := by
  obtain ⟨he, hlt⟩ := place_eq hne
  refine ⟨?_, fun k h1 h2 => ?_⟩
  · rcases List.mem_cons.mp (maxI_mem (0 :: places ps) (by simp)) with h | h
    · left; rw [he] at h; exact Int.ofNat.inj h
    · right
      rw [he] at h
      unfold places at h
      obtain ⟨k, hk, e⟩ := List.mem_map.mp h
      have := (List.mem_filter.mp hk).2
      have e' : k = place ps := Int.ofNat.inj e
      rw [← e']; exact this
  · cases hq : slashAt ps k with
    | false => rfl
    | true =>
      have := maxI_le (0 :: places ps) k (List.mem_cons_of_mem _ (List.mem_map.mpr ⟨k, List.mem_filter.mpr ⟨List.mem_range.mpr h2, hq⟩, rfl⟩))
      rw [he] at this
      exact absurd (Int.ofNat_le.mp this) (Nat.not_le.mpr h1)
theorem ls_stepP (pcs : List Str) (b : Str) : (stepP pcs b).map ls = stepL (pcs.map ls) (ls b) := by
  unfold stepP stepL
  rw [List.map_append, slash_mk, ls_split]
  congr 1
  have e : (pcs.getLastD Str.empty == Str.empty) = decide (pcs = [] ∨ (pcs.map ls).getLast? = some []) := by
    rw [str_beq]
    rcases List.eq_nil_or_concat pcs with rfl | ⟨v, c, rfl⟩
    · rfl
    · rw [List.concat_eq_append, Bool.eq_iff_iff]
      simp [ls, Str.empty]
  rw [e]
  by_cases h0 : pcs = []
  · subst h0; simp
  · by_cases h : (pcs.map ls).getLast? = some []
    · rw [if_pos (by simp [h]), if_pos h, List.map_dropLast]
    · rw [if_neg (by rw [decide_eq_true_iff]; rintro (q | q); exact h0 q; exact h q), if_neg h]
theorem ls_steps : ∀ (r pcs : List Str), (r.foldl stepP pcs).map ls = (r.map ls).foldl stepL (pcs.map ls)
  | [], _ => rfl
  | b :: r, pcs => by
    show (r.foldl stepP (stepP pcs b)).map ls = (r.map ls).foldl stepL (stepL (pcs.map ls) (ls b))
    rw [ls_steps r, ls_stepP]
theorem drop_cons_getD {ps : List Str} {k : Nat} (h : k < ps.length) : ps.drop k = ps.getD k Str.empty :: ps.drop (k + 1) := by
  rw [List.drop_eq_getElem_cons h, List.getD_eq_getElem?_getD, List.getElem?_eq_getElem h]; rfl
/-- the join of the parts is the law's own -/
theorem M1 {a : Str} {bs : List Str} : joinAll a bs = joined (a :: bs) := by
  have hne : a :: bs ≠ [] := by simp
  generalize hps : a :: bs = ps at hne
  obtain ⟨_, hlt⟩ := place_eq hne
  obtain ⟨h1, h2⟩ := place_spec hne
  apply ls_inj
  have hfree : ∀ b ∈ (ps.drop (place ps + 1)).map ls, b.head? ≠ some 47 := by
    intro b hb
    obtain ⟨x, hx, rfl⟩ := List.mem_map.mp hb
    obtain ⟨j, hj⟩ := List.mem_iff_getElem?.mp hx
    rw [List.getElem?_drop] at hj
    have hlt2 := (List.getElem?_eq_some_iff.mp hj).1
    have h3 := h2 (place ps + 1 + j) (Nat.lt_of_lt_of_le (Nat.lt_succ_self _) (Nat.le_add_right _ _)) hlt2
    intro q
    have h4 := (slashAt_iff ps (place ps + 1 + j)).mpr (by rw [List.getD_eq_getElem?_getD, hj]; exact q)
    rw [h3] at h4; cases h4
  have e1 : ls (joined ps) = jall (ls (ps.getD (place ps) Str.empty)) ((ps.drop (place ps + 1)).map ls) := by
    unfold joined piecesL
    rw [ls_join, ls_steps, ls_slash, List.take_of_length_le (by simp), slash_mk, ls_split, steps_sp _ _ hfree, jn_sp]
  rw [e1, ls_joinAll]
  rcases h1 with h1 | h1
  · rw [h1, ← hps]; rfl
  · have hh := (slashAt_iff ps (place ps)).mp h1
    cases hk : place ps with
    | zero => rw [← hps]; rfl
    | succ k =>
      rw [hk] at hlt hh
      rw [← hps] at hlt hh ⊢
      have hlt' : k < bs.length := by simpa using hlt
      have hb : bs = bs.take k ++ (bs.getD k Str.empty :: bs.drop (k + 1)) := by rw [← drop_cons_getD hlt', List.take_append_drop]
      have e2 : (a :: bs).getD (k + 1) Str.empty = bs.getD k Str.empty := by simp
      rw [e2] at hh ⊢
      conv => lhs; rw [hb]
      rw [List.map_append, List.map_cons, jall_reset _ hh]
      rfl

/-! doubled quotes -/
theorem dq_head (b : List Nat) : (dq b).head? = some 47 ↔ b.head? = some 47 := by
  cases b with
  | nil => simp [dq]
  | cons a l =>
    rw [dq_cons]
    split
    · rename_i h; subst h; simp
    · simp
theorem jstep_dq (p b : List Nat) : jstep (dq p) (dq b) = dq (jstep p b) := by
  by_cases h1 : b.head? = some 47 ∨ p = []
  · rw [jstep_b (h1.imp (dq_head b).mpr dq_nil.mpr), jstep_b h1]
  · have hb : b.head? ≠ some 47 := fun q => h1 (.inl q)
    have hp : p ≠ [] := fun q => h1 (.inr q)
    have hb' : (dq b).head? ≠ some 47 := fun q => hb ((dq_head b).mp q)
    have hp' : dq p ≠ [] := fun q => hp (dq_nil.mp q)
    by_cases h2 : p.getLast? = some 47
    · rw [jstep_a hb' hp' (by rw [dq_last]; exact h2), jstep_a hb hp h2, dq_app]
    · rw [jstep_s hb' hp' (by rw [dq_last]; exact h2), jstep_s hb hp h2, dq_app, dq_cons]; rfl
theorem jall_dq : ∀ (r : List (List Nat)) (p : List Nat), jall (dq p) (r.map dq) = dq (jall p r)
  | [], p => rfl
  | b :: r, p => by
    show jall (jstep (dq p) (dq b)) (r.map dq) = dq (jall (jstep p b) r)
    rw [jstep_dq, jall_dq r]
theorem jall_lost (x p : List Nat) {r : List (List Nat)} (h : ∃ b ∈ r, b.head? = some 47) : jall x (r.map dq) = dq (jall p r) := by
  obtain ⟨b, hb, hh⟩ := h
  obtain ⟨r1, r2, rfl⟩ := List.append_of_mem hb
  rw [List.map_append, List.map_cons, jall_reset x ((dq_head b).mpr hh), jall_reset p hh, jall_dq]
theorem jstep_ne {p b : List Nat} (h : p ≠ []) (hb : b.head? ≠ some 47) : jstep p b ≠ [] := by
  by_cases h2 : p.getLast? = some 47
  · rw [jstep_a hb h h2]; simp [h]
  · rw [jstep_s hb h h2]; simp
theorem jall_st {st : List Nat} : ∀ (r : List (List Nat)) (p : List Nat), p ≠ [] → (∀ b ∈ r, b.head? ≠ some 47) → jall (st ++ dq p) (r.map dq) = st ++ dq (jall p r)
  | [], p, _, _ => rfl
  | b :: r, p, hp, h => by
    have hb := h b List.mem_cons_self
    have e : jstep (st ++ dq p) (dq b) = st ++ dq (jstep p b) := by
      have hl : (st ++ dq p).getLast? = p.getLast? := by
        rw [List.getLast?_append, dq_last]
        cases hq : p.getLast? with
        | none => exact absurd (List.getLast?_eq_none_iff.mp hq) hp
        | some c => rfl
      have hb' : (dq b).head? ≠ some 47 := fun q => hb ((dq_head b).mp q)
      have hp' : st ++ dq p ≠ [] := by simp [dq_nil, hp]
      by_cases h2 : p.getLast? = some 47
      · rw [jstep_a hb' hp' (hl.trans h2), jstep_a hb hp h2, dq_app, List.append_assoc]
      · rw [jstep_s hb' hp' (by rw [hl]; exact h2), jstep_s hb hp h2, dq_app, dq_cons, List.append_assoc]; rfl
    show jall (jstep (st ++ dq p) (dq b)) (r.map dq) = st ++ dq (jall (jstep p b) r)
    rw [e, jall_st r _ (jstep_ne hp hb) fun c hc => h c (List.mem_cons_of_mem _ hc)]
theorem jall_slash : ∀ (r : List (List Nat)) (p : List Nat), (∀ b ∈ r, b.head? ≠ some 47) → jall (47 :: p) r = 47 :: jall p r
  | [], p, _ => rfl
  | b :: r, p, h => by
    have hb := h b List.mem_cons_self
    have e : jstep (47 :: p) b = 47 :: jstep p b := by
      cases p with
      | nil => rw [jstep_a hb (by simp) (by simp), jstep_b (.inr rfl)]; rfl
      | cons c p =>
        by_cases h2 : (c :: p).getLast? = some 47
        · rw [jstep_a hb (by simp) (by rw [List.getLast?_cons_cons]; exact h2), jstep_a hb (by simp) h2]; rfl
        · rw [jstep_s hb (by simp) (by rw [List.getLast?_cons_cons]; exact h2), jstep_s hb (by simp) h2]; rfl
    show jall (jstep (47 :: p) b) r = 47 :: jall (jstep p b) r
    rw [e, jall_slash r _ fun c hc => h c (List.mem_cons_of_mem _ hc)]
theorem jall_free {st : List Nat} (hst : 47 ∉ st) (hst0 : st ≠ []) (p : List Nat) (r : List (List Nat)) (h : ∀ b ∈ r, b.head? ≠ some 47) :
    jall (st ++ dq p) (r.map dq) = st ++ dq (if p = [] ∧ r ≠ [] then 47 :: jall p r else jall p r) := by
  by_cases hp : p = []
  · subst hp
    cases r with
    | nil => rw [if_neg (by simp)]; rfl
    | cons b r =>
      rw [if_pos (by simp)]
      have hb := h b List.mem_cons_self
      have hr : ∀ c ∈ r, c.head? ≠ some 47 := fun c hc => h c (List.mem_cons_of_mem _ hc)
      have hl : (st ++ dq []).getLast? ≠ some 47 := reply_last hst (by simp)
      have e1 : jstep (st ++ dq []) (dq b) = st ++ dq (47 :: b) := by
        rw [jstep_s (fun q => hb ((dq_head b).mp q)) (by simp [hst0]) hl, dq_cons]
        simp [dq]
      have e2 : jall [] (b :: r) = jall b r := by
        show jall (jstep [] b) r = _
        rw [jstep_b (.inr rfl)]
      show jall (jstep (st ++ dq []) (dq b)) (r.map dq) = _
      rw [e1, jall_st r _ (by simp) hr, e2, jall_slash r b hr]
  · rw [if_neg (fun q => hp q.1), jall_st r p hp h]
/-- an end behind the last part -/
theorem jall_end {en : List Nat} (hen : en.head? ≠ some 47) (p : List Nat) (r : List (List Nat)) (b : List Nat) : jall p (r ++ [b ++ en]) = jall p (r ++ [b]) ++ en := by
  unfold jall
  rw [List.foldl_append, List.foldl_append]
  show jstep (r.foldl jstep p) (b ++ en) = jstep (r.foldl jstep p) b ++ en
  have hh : (b ++ en).head? = some 47 ↔ b.head? = some 47 := by
    cases b with
    | nil => simp [hen]
    | cons a b => simp
  by_cases h1 : b.head? = some 47 ∨ r.foldl jstep p = []
  · rw [jstep_b (h1.imp hh.mpr id), jstep_b h1]
  · have hb : b.head? ≠ some 47 := fun q => h1 (.inl q)
    have hp : r.foldl jstep p ≠ [] := fun q => h1 (.inr q)
    have hb' : (b ++ en).head? ≠ some 47 := fun q => hb (hh.mp q)
    by_cases h2 : (r.foldl jstep p).getLast? = some 47
    · rw [jstep_a hb' hp h2, jstep_a hb hp h2, List.append_assoc]
    · rw [jstep_s hb' hp h2, jstep_s hb hp h2]; simp
end Mine
end

noncomputable section
open PySem PySem.W PyProof.Rows Builtin.Str
namespace Mine

/-! what a reply tells -/
noncomputable def EndOk (en : List Nat) : Prop := en = [] ∨ ∃ r, en = 34 :: r ∧ r.head? ≠ some 34
theorem unq_end {en : List Nat} (h : EndOk en) : unq en = [] := by
  rcases h with rfl | ⟨r, rfl, hr⟩
  · rfl
  · cases r with
    | nil => rfl
    | cons d r =>
      have hd : d ≠ 34 := by simpa using hr
      show (if (34 : Nat) = 34 then (if d = 34 then 34 :: unq r else []) else 34 :: unq (d :: r)) = []
      rw [if_pos rfl, if_neg hd]
theorem unq_two (r : List Nat) : unq (34 :: 34 :: r) = 34 :: unq r := by
  show (if (34 : Nat) = 34 then (if (34 : Nat) = 34 then 34 :: unq r else []) else 34 :: unq (34 :: r)) = _
  rw [if_pos rfl, if_pos rfl]
theorem unq_dq {en : List Nat} (h : EndOk en) : ∀ l : List Nat, unq (dq l ++ en) = l
  | [] => unq_end h
  | a :: l => by
    by_cases ha : a = 34
    · subst ha
      rw [dq_cons, if_pos rfl]
      show unq (34 :: 34 :: (dq l ++ en)) = _
      rw [unq_two, unq_dq h l]
    · rw [dq_cons, if_neg ha]
      show unq (a :: (dq l ++ en)) = _
      rw [unq_other ha, unq_dq h l]
theorem ls_mk (l : List Nat) : ls (⟨l.toArray⟩ : Str) = l := by simp [ls]
theorem bne_ls (x y : Str) : (x != y) = (ls x != ls y) := by unfold bne; rw [str_beq]
theorem ls_upto (x : Str) (n : Nat) : ls (Txt.slice x none (some (n : Int))) = (ls x).take n := by
  show (Txt.slice x none (some (n : Int))).cps.toList = _
  rw [slice_toList, pk_upto]
theorem ls_from (x : Str) (n : Nat) : ls (Txt.slice x (some (n : Int)) none) = (ls x).drop n := by
  show (Txt.slice x (some (n : Int)) none).cps.toList = _
  rw [slice_toList, pk_from]
theorem sl3 (x : Str) : (Txt.slice x none (some 3) != Str.ofString "257") = ((ls x).take 3 != [50, 53, 55]) := by
  rw [bne_ls, show ls (Str.ofString "257") = [50, 53, 55] by decide]
  rw [show ls (Txt.slice x none (some 3)) = (ls x).take 3 from ls_upto x 3]
theorem sl35 (x : Str) : (Txt.slice x (some 3) (some 5) != Str.ofString " \"") = (((ls x).take 5).drop 3 != [32, 34]) := by
  rw [bne_ls, show ls (Str.ofString " \"") = [32, 34] by decide]
  have : ls (Txt.slice x (some 3) (some 5)) = ((ls x).take 5).drop 3 := by
    show (Txt.slice x (some ((3 : Nat) : Int)) (some ((5 : Nat) : Int))).cps.toList = _
    rw [slice_toList, pk_run]
  rw [this]
theorem sl3r (x : Str) : (Txt.slice x (some 3) none == Str.ofString " \"") = ((ls x).drop 3 == [32, 34]) := by
  rw [str_beq, show ls (Str.ofString " \"") = [32, 34] by decide]
  rw [show ls (Txt.slice x (some 3) none) = (ls x).drop 3 from ls_from x 3]

theorem readL_refuses {x : Str} (h : (ls x).take 3 ≠ [50, 53, 55]) : readL x = [.str x, .str (Str.ofString "refused"), .str x] := by
  unfold readL
  rw [sl3, if_pos (bne_iff_ne.mpr h)]
theorem due_refuses {st nm en : Str} (h : (ls st).take 3 ≠ [50, 53, 55]) : due st nm en = [.str (st ++ dbl nm ++ en), .str (Str.ofString "refused"), .str (st ++ dbl nm ++ en)] := by
  unfold due dueRest
  rw [sl3, if_pos (bne_iff_ne.mpr h)]
theorem readL_told {x : Str} {r : List Nat} (h : ls x = [50, 53, 55, 32, 34] ++ r) : readL x = [.str x, .str (Str.ofString "told"), .str ⟨(unq r).toArray⟩] := by
  unfold readL parsed
  rw [sl3, sl35, h, if_neg (by simp), if_neg (by simp), show x.cps.toList = _ from h]
  rfl
theorem due_told {st nm en : Str} (h : ls st = [50, 53, 55, 32, 34]) : due st nm en = [.str (st ++ dbl nm ++ en), .str (Str.ofString "told"), .str nm] := by
  unfold due dueRest
  rw [sl3, sl3r, h, if_neg (by simp), if_pos (by rfl)]
theorem readL_is {x : Str} {r : List Nat} (h : ls x = [50, 53, 55, 32, 105, 115, 32] ++ r) : readL x = [.str x, .str (Str.ofString "told"), .str (Str.ofString "")] := by
  unfold readL parsed
  rw [sl3, sl35, h, if_neg (by simp), if_pos (by simp)]
theorem due_is {st nm en : Str} (h : ls st = [50, 53, 55, 32, 105, 115, 32]) : due st nm en = [.str (st ++ dbl nm ++ en), .str (Str.ofString "told"), .str (Str.ofString "")] := by
  unfold due dueRest
  rw [sl3, sl3r, h, if_neg (by simp), if_neg (by decide)]
/-- the starts -/
theorem code_forms {st : Str} (h : st ∈ codesL) : ls st = [50, 53, 55, 32, 34] ∨ ls st = [50, 53, 55, 32, 105, 115, 32] ∨ ((ls st).take 3 ≠ [50, 53, 55] ∧ ls st = (ls st).take 3 ++ [32, 34]) := by
  simp only [codesL, List.mem_cons, List.not_mem_nil, or_false] at h
  rcases h with rfl | rfl | rfl | rfl | rfl | rfl | rfl | rfl <;> decide
theorem code_facts {st : Str} (h : st ∈ codesL) : 47 ∉ ls st ∧ ls st ≠ [] ∧ st.length ≤ 100 ∧ (∀ c ∈ ls st, c < 1114112) ∧ 3 ≤ (ls st).length := by
  simp only [codesL, List.mem_cons, List.not_mem_nil, or_false] at h
  rcases h with rfl | rfl | rfl | rfl | rfl | rfl | rfl | rfl <;> decide
theorem read_due {st nm en : Str} (hst : st ∈ codesL) (hen : EndOk (ls en)) : readL (st ++ dbl nm ++ en) = due st nm en := by
  have hx : ls (st ++ dbl nm ++ en) = ls st ++ (dq (ls nm) ++ ls en) := by rw [ls_app, ls_app, ls_dbl, List.append_assoc]
  rcases code_forms hst with h | h | ⟨h, _⟩
  · rw [due_told h, readL_told (by rw [hx, h]), unq_dq hen]
  · rw [due_is h, readL_is (by rw [hx, h])]
  · rw [due_refuses h, readL_refuses (x := st ++ dbl nm ++ en)]
    rw [hx, List.take_append_of_le_length (code_facts hst).2.2.2.2]
    exact h
theorem readL_empty : readL (Str.ofString "") = [.str (Str.ofString ""), .str (Str.ofString "refused"), .str (Str.ofString "")] := readL_refuses (by decide)

/-! the second join -/
noncomputable def startsL (st : Str) (n : Nat) : List Str := st :: List.replicate n (Str.ofString "")
noncomputable def endsL (en : Str) (n : Nat) : List Str := List.replicate (n - 1) (Str.ofString "") ++ [en]
noncomputable def toldAt (ps : List Str) (st en : Str) (k : Nat) : Str := (startsL st ps.length).getD k Str.empty ++ dbl (ps.getD k Str.empty) ++ (endsL en ps.length).getD k Str.empty
noncomputable def toldL (ps : List Str) (st en : Str) : List Str := (List.range ps.length).map (toldAt ps st en)
noncomputable def lostL (ps : List Str) : List Str := (ps.drop 1).filter fun p => Txt.slice p none (some 1) == slash
noncomputable def lostB (ps : List Str) : Bool := !(lostL ps).isEmpty
noncomputable def pathOf (ps : List Str) : Str := if (ps.getD 0 Str.empty == Str.ofString "" && decide (1 < ps.length) && !lostB ps) = true then slash ++ joined ps else joined ps
noncomputable def joinL : List Str → Str
  | [] => Str.empty
  | a :: bs => joinAll a bs
theorem ls_joinL : ∀ l : List Str, ls (joinL l) = jl (l.map ls)
  | [] => rfl
  | a :: bs => ls_joinAll bs a
theorem lost_iff (a : Str) (bs : List Str) : lostB (a :: bs) = true ↔ ∃ b ∈ bs.map ls, b.head? = some 47 := by
  unfold lostB lostL
  rw [Bool.not_eq_true', List.isEmpty_eq_false_iff]
  constructor
  · intro h
    obtain ⟨x, hx⟩ := List.exists_mem_of_ne_nil _ h
    obtain ⟨h1, h2⟩ := List.mem_filter.mp hx
    rw [slice1_slash] at h2
    exact ⟨ls x, List.mem_map_of_mem h1, by simpa using h2⟩
  · rintro ⟨b, hb, hh⟩
    obtain ⟨x, hx, rfl⟩ := List.mem_map.mp hb
    refine List.ne_nil_of_mem (List.mem_filter.mpr ⟨hx, ?_⟩)
    rw [slice1_slash]; simpa using hh
theorem map_range_getD {α : Type} (g : Str → α) : ∀ (l : List Str), (List.range l.length).map (fun k => g (l.getD k Str.empty)) = l.map g
  | [] => rfl
  | a :: l => by
    rw [List.length_cons, List.range_succ_eq_map, List.map_cons, List.map_map]
    have := map_range_getD g l
    rw [List.map_cons, ← this]
    rfl
theorem told_one (a st en : Str) : (toldL [a] st en).map ls = [ls st ++ dq (ls a) ++ ls en] := by
  show [ls (st ++ dbl a ++ en)] = _
  rw [ls_app, ls_app, ls_dbl]
theorem told_more (a z st en : Str) (bs : List Str) : (toldL (a :: (bs ++ [z])) st en).map ls = (ls st ++ dq (ls a)) :: ((bs.map ls).map dq ++ [dq (ls z) ++ ls en]) := by
  have hn : (a :: (bs ++ [z])).length = bs.length + 2 := by simp
  have e0 : ls Str.empty = [] := rfl
  have es : ∀ k, k < bs.length + 1 → ls ((startsL st (bs.length + 2)).getD (k + 1) Str.empty) = [] := fun k hk => by
    show ls ((List.replicate (bs.length + 2) (Str.ofString "")).getD k Str.empty) = []
    rw [List.getD_eq_getElem?_getD, List.getElem?_replicate, if_pos (Nat.lt_succ_of_lt hk)]
    exact ls_empty
  have ee : ∀ k, k < bs.length + 1 → ls ((endsL en (bs.length + 2)).getD k Str.empty) = [] := fun k hk => by
    unfold endsL
    rw [List.getD_eq_getElem?_getD, List.getElem?_append_left (by rw [List.length_replicate]; exact hk), List.getElem?_replicate, if_pos (show k < bs.length + 2 - 1 from hk)]
    exact ls_empty
  have el : (endsL en (bs.length + 2)).getD (bs.length + 1) Str.empty = en := by
    unfold endsL
    rw [List.getD_eq_getElem?_getD, List.getElem?_append_right (by simp)]
    simp
  unfold toldL
  rw [hn, List.range_succ_eq_map, List.map_cons, List.map_cons, List.range_succ, List.map_append, List.map_append, List.map_append]
  congr 1
  · unfold toldAt
    rw [hn, ls_app, ls_app, ls_dbl, ee 0 (Nat.succ_pos _), List.append_nil]
    rfl
  · congr 1
    · rw [List.map_map, List.map_map, List.map_map, ← map_range_getD (dq ∘ ls) bs]
      refine List.map_congr_left fun k hk => ?_
      have hk := List.mem_range.mp hk
      show ls (toldAt (a :: (bs ++ [z])) st en (k + 1)) = _
      unfold toldAt
      rw [hn, ls_app, ls_app, ls_dbl, es k (Nat.lt_succ_of_lt hk), ee (k + 1) (Nat.succ_lt_succ hk), List.append_nil, List.nil_append]
      show dq (ls ((bs ++ [z]).getD k Str.empty)) = dq (ls (bs.getD k Str.empty))
      rw [List.getD_eq_getElem?_getD, List.getElem?_append_left hk, List.getD_eq_getElem?_getD]
    · show [ls (toldAt (a :: (bs ++ [z])) st en (bs.length + 1))] = _
      unfold toldAt
      rw [hn, ls_app, ls_app, ls_dbl, es bs.length (Nat.lt_succ_self _), el, List.nil_append]
      have : (a :: (bs ++ [z])).getD (bs.length + 1) Str.empty = z := by simp
      rw [this]
theorem jall_head : ∀ (r : List (List Nat)) (p : List Nat), p.head? = some 47 → (∀ b ∈ r, b.head? ≠ some 47) → (jall p r).head? = some 47
  | [], p, h, _ => h
  | b :: r, p, h, hr => by
    have hb := hr b List.mem_cons_self
    have hp : p ≠ [] := fun q => by subst q; cases h
    have e : (jstep p b).head? = some 47 := by
      by_cases h2 : p.getLast? = some 47
      · rw [jstep_a hb hp h2]; cases p with | nil => exact absurd rfl hp | cons c p => exact h
      · rw [jstep_s hb hp h2]; cases p with | nil => exact absurd rfl hp | cons c p => exact h
    exact jall_head r _ e fun c hc => hr c (List.mem_cons_of_mem _ hc)
theorem jall_lost_head (r : List (List Nat)) (p : List Nat) (h : ∃ b ∈ r, b.head? = some 47) : (jall p r).head? = some 47 := by
  induction r generalizing p with
  | nil => obtain ⟨b, hb, _⟩ := h; cases hb
  | cons c r ih =>
    show (jall (jstep p c) r).head? = some 47
    by_cases hr : ∃ b ∈ r, b.head? = some 47
    · exact ih _ hr
    · obtain ⟨b, hb, hh⟩ := h
      rcases List.mem_cons.mp hb with rfl | hb
      · rw [jstep_b (.inl hh)]
        exact jall_head r _ hh fun c hc q => hr ⟨c, hc, q⟩
      · exact absurd ⟨b, hb, hh⟩ hr
theorem ls_pathOf (a : Str) (bs : List Str) : ls (pathOf (a :: bs)) = if ls a = [] ∧ bs ≠ [] ∧ lostB (a :: bs) = false then 47 :: jall (ls a) (bs.map ls) else jall (ls a) (bs.map ls) := by
  have e : ls (joined (a :: bs)) = jall (ls a) (bs.map ls) := by rw [← M1, ls_joinAll]
  unfold pathOf
  have ec : ((a :: bs).getD 0 Str.empty == Str.ofString "" && decide (1 < (a :: bs).length) && !lostB (a :: bs)) = decide (ls a = [] ∧ bs ≠ [] ∧ lostB (a :: bs) = false) := by
    rw [str_beq, ls_empty, Bool.eq_iff_iff]
    cases bs <;> cases lostB _ <;> simp
  rw [ec]
  by_cases h : ls a = [] ∧ bs ≠ [] ∧ lostB (a :: bs) = false
  · rw [if_pos (decide_eq_true h), if_pos h, ls_app, ls_slash, e]; rfl
  · rw [if_neg (by simpa using h), if_neg h, e]
/-- the law's second question -/
theorem M2 {a st en : Str} {bs : List Str} (hst : st ∈ codesL) (hen : EndOk (ls en)) (hen47 : 47 ∉ ls en) :
    readL (joinL (toldL (a :: bs) st en)) = due (if lostB (a :: bs) = true then Str.ofString "" else st) (pathOf (a :: bs)) en := by
  obtain ⟨c1, c2, _, _, _⟩ := code_facts hst
  have hp := ls_pathOf a bs
  by_cases hl : lostB (a :: bs) = true
  · rw [if_pos hl, due_refuses (by decide)]
    obtain hl' := (lost_iff a bs).mp hl
    rw [if_neg (by rw [hl]; simp)] at hp
    have hb : bs = [] ∨ ∃ b z, bs = b ++ [z] := (List.eq_nil_or_concat bs).imp id fun ⟨b, z, h⟩ => ⟨b, z, h.trans List.concat_eq_append⟩
    rcases hb with rfl | ⟨bs', z, rfl⟩
    · obtain ⟨b, hb, _⟩ := hl'; cases hb
    have e : joinL (toldL (a :: (bs' ++ [z])) st en) = Str.ofString "" ++ dbl (pathOf (a :: (bs' ++ [z]))) ++ en := by
      apply ls_inj
      rw [ls_joinL, told_more, ls_app, ls_app, ls_dbl, hp, ls_empty, List.nil_append]
      show jall _ _ = _
      rw [jall_end (free_head hen47), ← List.map_singleton, ← List.map_append, ← List.map_singleton (f := ls), ← List.map_append, jall_lost _ (ls a) hl']
    have hh := jall_lost_head _ (ls a) hl'
    rw [e, readL_refuses]
    rw [ls_app, ls_app, ls_dbl, hp, ls_empty]
    cases hj : jall (ls a) ((bs' ++ [z]).map ls) with
    | nil => rw [hj] at hh; cases hh
    | cons c r =>
      rw [hj] at hh
      have hc : c = 47 := by simpa using hh
      subst hc
      rw [dq_cons]
      simp
  · have hl0 : lostB (a :: bs) = false := by simpa using hl
    have hfree : ∀ b ∈ bs.map ls, b.head? ≠ some 47 := fun b hb q => hl ((lost_iff a bs).mpr ⟨b, hb, q⟩)
    rw [if_neg hl, ← read_due hst hen]
    congr 1
    apply ls_inj
    rw [ls_joinL, ls_app, ls_app, ls_dbl, hp]
    rcases List.eq_nil_or_concat bs with rfl | ⟨bs', z, rfl⟩
    · rw [told_one, if_neg (by simp)]; rfl
    · rw [List.concat_eq_append] at *
      rw [told_more]
      show jall _ _ = _
      rw [jall_end (free_head hen47), ← List.map_singleton, ← List.map_append, ← List.map_singleton (f := ls), ← List.map_append, jall_free c1 c2 _ _ hfree]
      congr 3
      by_cases ha : ls a = []
      · rw [if_pos ⟨ha, by simp⟩, if_pos ⟨ha, by simp, hl0⟩]
      · rw [if_neg (fun q => ha q.1), if_neg (fun q => ha q.1)]
end Mine
end

noncomputable section
open PySem PySem.W PyProof.Rows Builtin.Str
namespace Mine

theorem kms_hi_m1 (n : Nat) : kms_hi (some (-1)) n = n - 1 := rfl
theorem kms_lo_m1 (n : Nat) : kms_lo (some (-1)) n = n - 1 := rfl
theorem pk_init {α : Type} (l : List α) : pk l none (some (-1)) = l.dropLast := by
  unfold pk
  rw [kms_hi_m1]
  show (l.drop 0).take (l.length - 1 - 0) = _
  rw [List.drop_zero, List.dropLast_eq_take]; rfl
theorem pk_last {α : Type} (l : List α) : pk l (some (-1)) none = l.getLast?.toList := by
  unfold pk
  rw [kms_lo_m1]
  show (l.drop (l.length - 1)).take (l.length - (l.length - 1)) = _
  rcases List.eq_nil_or_concat l with rfl | ⟨v, c, rfl⟩
  · rfl
  · rw [List.concat_eq_append]; simp
theorem pk_mid {α : Type} (l : List α) : pk l (some 1) (some (-1)) = (l.drop 1).dropLast := by
  unfold pk
  rw [kms_hi_m1, show (some (1 : Int)) = some ((1 : Nat) : Int) from rfl, kms_lo_nat]
  cases l with
  | nil => rfl
  | cons a l =>
    rw [Nat.min_eq_left (by simp), List.dropLast_eq_take]
    simp

/-! what the law reckons of a path -/
noncomputable def namesS (x : Str) : List Str := pk (Txt.split x slash) none (some 1) ++ (pk (Txt.split x slash) (some 1) (some (-1))).filter (fun p => p != Str.ofString "") ++ pk (pk (Txt.split x slash) (some 1) none) (some (-1)) none
noncomputable def stopAt (x : Str) (k : Nat) : Bool := ((⟨#[(ls x).getD k 0]⟩ : Str) == slash) && (Txt.slice (Txt.slice x none (some (k : Int))) (some (-1)) none != slash)
noncomputable def stopsS (x : Str) : List Str := x :: ((List.range x.length).reverse.filter (stopAt x)).map fun k : Nat => Txt.slice x none (some (k : Int))
noncomputable def frontS (x : Str) : Str := Txt.slice x none (some ((x.length : Int) - (Txt.lstripChars x slash).length))
theorem map_pk {α β : Type} (f : α → β) (l : List α) (i j : Option Int) : (pk l i j).map f = pk (l.map f) i j := by
  unfold pk
  rw [List.map_take, List.map_drop, List.length_map]
theorem ls_names (x : Str) : (namesS x).map ls = namesOf (sp 47 (ls x)) := by
  have e := ls_split x 47
  unfold namesS namesOf
  rw [slash_mk, List.map_append, List.map_append, map_pk, map_pk, map_pk, e]
  rw [show (some (1 : Int)) = some ((1 : Nat) : Int) from rfl, pk_upto, pk_from, pk_last]
  congr 2
  rw [show (some ((1 : Nat) : Int)) = some (1 : Int) from rfl, ← pk_mid, ← e, ← map_pk]
  rw [List.filter_map]
  congr 1
  refine List.filter_congr fun p _ => ?_
  show (p != Str.ofString "") = !(ls p).isEmpty
  rw [bne_ls, ls_empty]
  cases ls p <;> rfl
theorem ls_slice_last (x : Str) : ls (Txt.slice x (some (-1)) none) = (ls x).getLast?.toList := by
  show (Txt.slice x (some (-1)) none).cps.toList = _
  rw [slice_toList, pk_last]
theorem ls_stops (x : Str) : (stopsS x).map ls = stopsOf (ls x) := by
  unfold stopsS stopsOf
  rw [List.map_cons, len_ls, List.map_map]
  congr 1
  have e1 : (List.range (ls x).length).reverse.filter (stopAt x) = (List.range (ls x).length).reverse.filter (isStop (ls x)) := by
    refine List.filter_congr fun k hk => ?_
    have hk : k < (ls x).length := by simpa using hk
    unfold stopAt isStop
    rw [str_beq, ls_slash, bne_ls, ls_slice_last, ls_upto, ls_slash]
    have h1 : ls (⟨#[(ls x).getD k 0]⟩ : Str) = [(ls x).getD k 0] := rfl
    rw [h1, List.getD_eq_getElem?_getD, List.getElem?_eq_getElem hk]
    congr 1
    · rw [Bool.eq_iff_iff]; simp
    · rw [Bool.eq_iff_iff]
      cases ((ls x).take k).getLast? <;> simp
  rw [e1]
  refine List.map_congr_left fun k _ => ?_
  exact ls_upto x k
theorem ls_front (x : Str) : ls (frontS x) = lead (ls x) := by
  have e := ls_lstrip x
  have h : (Txt.lstripChars x slash).length = ((ls x).dropWhile (· == 47)).length := by rw [len_ls, e]
  have hl : (lead (ls x)).length + ((ls x).dropWhile (· == 47)).length = (ls x).length := by
    rw [← List.length_append, List.takeWhile_append_dropWhile]
  have e2 : ((x.length : Int) - (Txt.lstripChars x slash).length) = (((lead (ls x)).length : Nat) : Int) := by rw [h, len_ls, ← hl, Int.natCast_add, Int.add_sub_cancel]
  unfold frontS
  rw [e2, ls_upto]
  have e3 : lead (ls x) ++ (ls x).dropWhile (· == 47) = ls x := List.takeWhile_append_dropWhile
  have h3 := congrArg (List.take (lead (ls x)).length) e3
  rw [List.take_left] at h3
  exact h3.symm

theorem map_ls_inj : ∀ {l r : List Str}, l.map ls = r.map ls → l = r
  | [], [], _ => rfl
  | [], b :: r, h => by simp at h
  | a :: l, [], h => by simp at h
  | a :: l, b :: r, h => by
    simp only [List.map_cons, List.cons.injEq] at h
    rw [ls_inj h.1, map_ls_inj h.2]
theorem map_lsP_inj : ∀ {l r : List (Str × Str)}, l.map lsP = r.map lsP → l = r
  | [], [], _ => rfl
  | [], b :: r, h => by simp at h
  | a :: l, [], h => by simp at h
  | (a, a') :: l, (b, b') :: r, h => by
    simp only [List.map_cons, List.cons.injEq, lsP, Prod.mk.injEq] at h
    rw [ls_inj h.1.1, ls_inj h.1.2, map_lsP_inj h.2]
theorem zip_lsP (l r : List Str) : (l.zip r).map lsP = (l.map ls).zip (r.map ls) := by
  rw [List.zip_map]; rfl
/-- one of two texts: the second for an empty first -/
noncomputable def orS (s f : Str) : Str := if (s.length != 0) = true then s else f
theorem ls_orS (s f : Str) : ls (orS s f) = if ls s = [] then ls f else ls s := by
  unfold orS
  rw [len_ls]
  cases h : ls s with
  | nil => simp
  | cons a l => simp [h]

theorem M3 (x : Str) : climbL x (stopsS x).length = (((stopsS x).drop 1 ++ [Str.ofString ""]).zip (namesS x).reverse).map fun p => (orS p.1 (frontS x), p.2) := by
  obtain ⟨S, N, D⟩ := dec (ls x)
  have hS := (ls_stops x).trans D.stops
  have hN := (ls_names x).trans D.names
  have hl : (stopsS x).length = S.length := by rw [← hS, List.length_map]
  rw [climb_eq]
  apply map_lsP_inj
  rw [hl, climb_path D rfl, List.map_map]
  have e : (S.tail ++ [[]]).zip N.reverse = (((stopsS x).drop 1 ++ [Str.ofString ""]).zip (namesS x).reverse).map lsP := by
    rw [zip_lsP, List.map_append, List.map_drop, hS, List.map_reverse, hN, List.drop_one]; rfl
  rw [e, List.map_map]
  refine List.map_congr_left fun p _ => ?_
  show (if ls p.1 = [] then lead (ls x) else ls p.1, ls p.2) = (ls (orS p.1 (frontS x)), ls p.2)
  rw [ls_orS, ls_front]

noncomputable def tlS (st : Str) : List Str → Str → List Str
  | [], _ => []
  | [n], en => [st ++ dbl n ++ en]
  | t :: r :: rs, en => (dbl t ++ en) :: tlS st (r :: rs) (Str.ofString "")
theorem ls_tlS (st : Str) : ∀ (r : List Str) (en : Str), (tlS st r en).map ls = tl (ls st) (r.map ls) (ls en)
  | [], _ => rfl
  | [n], en => by show [ls (st ++ dbl n ++ en)] = _; rw [ls_app, ls_app, ls_dbl]; rfl
  | t :: r :: rs, en => by
    show ls (dbl t ++ en) :: (tlS st (r :: rs) (Str.ofString "")).map ls = _
    rw [ls_tlS st (r :: rs), ls_app, ls_dbl, ls_empty]; rfl
section
variable {x st en : Str} (hst : st ∈ codesL) (hen : EndOk (ls en)) (hen47 : 47 ∉ ls en)
include hst hen hen47
theorem climb_both : climbL (st ++ dbl x ++ en) (stopsS x).length = (((stopsS x).drop 1).map (fun s => st ++ dbl s) ++ [Str.ofString ""]).zip (tlS st (namesS x).reverse en) := by
  obtain ⟨c1, c2, _, _, _⟩ := code_facts hst
  obtain ⟨S, N, D⟩ := dec (ls x)
  have hS := (ls_stops x).trans D.stops
  have hN := (ls_names x).trans D.names
  have hl : (stopsS x).length = S.length := by rw [← hS, List.length_map]
  rw [climb_eq]
  apply map_lsP_inj
  have hm : S.tail.map (ls st ++ dq ·) = ((stopsS x).drop 1).map (ls ∘ fun s => st ++ dbl s) := by
    rw [← hS, ← List.map_tail, List.map_map, List.drop_one]
    refine List.map_congr_left fun s _ => ?_
    show ls st ++ dq (ls s) = ls (st ++ dbl s)
    rw [ls_app, ls_dbl]
  have h0 : ([[]] : List (List Nat)) = [Str.ofString ""].map ls := by rw [List.map_singleton, ls_empty]
  rw [hl, climb_reply c1 c2 D hen47 (by rw [ls_app, ls_app, ls_dbl]), zip_lsP, List.map_append, List.map_map, ls_tlS, List.map_reverse, hN, hm, h0]
theorem names_stops_len : (namesS x).length = (stopsS x).length := by
  obtain ⟨S, N, D⟩ := dec (ls x)
  have hS := congrArg List.length ((ls_stops x).trans D.stops)
  have hN := congrArg List.length ((ls_names x).trans D.names)
  rw [List.length_map] at hS hN
  rw [hS, hN, D.len]
theorem tlS_len (r : List Str) (e : Str) : (tlS st r e).length = r.length := by
  have h := congrArg List.length (ls_tlS st r e)
  rw [List.length_map, tl_len, List.length_map] at h
  exact h
theorem stops_pos : 0 < (stopsS x).length := Nat.succ_pos _
theorem heads_eq : (climbL (st ++ dbl x ++ en) (stopsS x).length).map (·.1) = ((stopsS x).drop 1).map (fun s => st ++ dbl s) ++ [Str.ofString ""] := by
  rw [climb_both hst hen hen47]
  refine List.map_fst_zip ?_
  have h1 := names_stops_len (x := x) hst hen hen47
  have h2 := tlS_len hst hen hen47 (namesS x).reverse en
  have h3 := stops_pos (x := x) hst hen hen47
  rw [h2]
  simp
  omega
theorem tails_eq : (climbL (st ++ dbl x ++ en) (stopsS x).length).map (·.2) = tlS st (namesS x).reverse en := by
  rw [climb_both hst hen hen47]
  refine List.map_snd_zip ?_
  have h1 := names_stops_len (x := x) hst hen hen47
  have h2 := tlS_len hst hen hen47 (namesS x).reverse en
  have h3 := stops_pos (x := x) hst hen hen47
  rw [h2]
  simp
  omega
omit hen hen47 in
theorem app_empty (y : Str) : y ++ Str.ofString "" = y := by apply ls_inj; rw [ls_app, ls_empty, List.append_nil]
omit hst hen hen47 in
theorem cons_congr {α : Type} {a b : α} {c d : List α} (h : a = b) (h' : c = d) : a :: c = b :: d := by rw [h, h']
omit hst hen hen47 in
theorem app_congr {α : Type} {a b c d : List α} (h : a = b) (h' : c = d) : a ++ c = b ++ d := by rw [h, h']
/-- the heads, read -/
theorem M4 : (((climbL (st ++ dbl x ++ en) (stopsS x).length).map (·.1)).map fun h => PyData.tuple (readL h)) = (((stopsS x).drop 1).map fun s => PyData.tuple (due st s (Str.ofString ""))) ++ [.tuple [.str (Str.ofString ""), .str (Str.ofString "refused"), .str (Str.ofString "")]] := by
  rw [heads_eq hst hen hen47, List.map_append, List.map_map]
  refine app_congr ?_ ?_
  · refine List.map_congr_left fun s _ => ?_
    show PyData.tuple (readL (st ++ dbl s)) = _
    rw [← read_due hst (nm := s) (en := Str.ofString "") (.inl ls_empty), app_empty hst]
  · show [PyData.tuple (readL (Str.ofString ""))] = _
    rw [readL_empty]
noncomputable def dueTails (st : Str) : List Str → Str → List PyData
  | [], _ => []
  | r :: rs, en => .tuple ((due st r en).drop 1) :: dueTails st rs (Str.ofString "")
omit hen hen47 in
theorem tails_read : ∀ (r : List Str) (en : Str), r ≠ [] → EndOk (ls en) →
    (tlS st r en).dropLast.map (fun t => PyData.tuple ((readL (st ++ t)).drop 1)) ++ [.tuple ((readL ((tlS st r en).getLastD Str.empty)).drop 1)] = dueTails st r en
  | [], _, h, _ => absurd rfl h
  | [n], en, _, he => by
    show [PyData.tuple ((readL (st ++ dbl n ++ en)).drop 1)] = [.tuple ((due st n en).drop 1)]
    rw [read_due hst he]
  | t :: r :: rs, en, _, he => by
    have ih := tails_read (r :: rs) (Str.ofString "") (by simp) (.inl ls_empty)
    have hne : tlS st (r :: rs) (Str.ofString "") ≠ [] := fun q => by
      have := congrArg List.length (ls_tlS st (r :: rs) (Str.ofString ""))
      rw [q, tl_len] at this
      simp at this
    show ((dbl t ++ en) :: tlS st (r :: rs) (Str.ofString "")).dropLast.map _ ++ [PyData.tuple ((readL (((dbl t ++ en) :: tlS st (r :: rs) (Str.ofString "")).getLastD Str.empty)).drop 1)] = .tuple ((due st t en).drop 1) :: dueTails st (r :: rs) (Str.ofString "")
    rw [List.dropLast_cons_of_ne_nil hne, List.map_cons, ← ih, List.cons_append]
    refine cons_congr ?_ (app_congr rfl ?_)
    · rw [← read_due hst he]
      have : st ++ (dbl t ++ en) = st ++ dbl t ++ en := by apply ls_inj; simp only [ls_app, List.append_assoc]
      rw [this]
    · have : ((dbl t ++ en) :: tlS st (r :: rs) (Str.ofString "")).getLastD Str.empty = (tlS st (r :: rs) (Str.ofString "")).getLastD Str.empty := by
        rw [List.getLastD_eq_getLast?, List.getLastD_eq_getLast?]
        cases h : tlS st (r :: rs) (Str.ofString "") with
        | nil => exact absurd h hne
        | cons a l => rw [List.getLast?_cons_cons]
      rw [this]
omit hst hen hen47 in
theorem dueTails_eq (st : Str) : ∀ (r : List Str) (en : Str), (List.range r.length).map (fun k => PyData.tuple ((due st (r.getD k Str.empty) (if k = 0 then en else Str.ofString "")).drop 1)) = dueTails st r en
  | [], _ => rfl
  | a :: r, en => by
    rw [List.length_cons, List.range_succ_eq_map, List.map_cons, List.map_map]
    have ih := dueTails_eq st r (Str.ofString "")
    show _ :: _ = PyData.tuple ((due st a en).drop 1) :: dueTails st r (Str.ofString "")
    rw [← ih]
    refine cons_congr rfl ?_
    refine List.map_congr_left fun k _ => ?_
    show PyData.tuple ((due st ((a :: r).getD (k + 1) Str.empty) (if k + 1 = 0 then en else Str.ofString "")).drop 1) = _
    rw [if_neg (Nat.succ_ne_zero k)]
    have : (if k = 0 then Str.ofString "" else Str.ofString "") = Str.ofString "" := by split <;> rfl
    rw [this]
    rfl
omit hst hen hen47 in
theorem names_ne : namesS x ≠ [] := fun q => by
  obtain ⟨S, N, D⟩ := dec (ls x)
  have hN := (ls_names x).trans D.names
  rw [q] at hN
  exact D.names_ne hN.symm
/-- the tails, read -/
theorem M5 : (let tails := (climbL (st ++ dbl x ++ en) (stopsS x).length).map (·.2);
    tails.dropLast.map (fun t => PyData.tuple ((readL (st ++ t)).drop 1)) ++ [.tuple ((readL (tails.getLastD Str.empty)).drop 1)]) =
    (List.range (namesS x).length).map (fun k => PyData.tuple ((due st ((namesS x).reverse.getD k Str.empty) (if k = 0 then en else Str.ofString "")).drop 1)) := by
  simp only
  rw [tails_eq hst hen hen47, tails_read hst _ _ (by simpa using names_ne (x := x)) hen, ← dueTails_eq, List.length_reverse]
/-- the tails, joined again -/
theorem M6 : joinL ((climbL (st ++ dbl x ++ en) (stopsS x).length).map (·.2)).reverse = st ++ dbl (Txt.join slash (namesS x)) ++ en := by
  obtain ⟨c1, c2, _, _, _⟩ := code_facts hst
  obtain ⟨S, N, D⟩ := dec (ls x)
  have hN := (ls_names x).trans D.names
  apply ls_inj
  rw [tails_eq hst hen hen47, ls_joinL, List.map_reverse, ls_tlS, List.map_reverse, hN, (join_names c1 c2 D).1 _ hen47, ls_app, ls_app, ls_dbl, ls_join, ls_slash, hN]
end
end Mine
end

noncomputable section
open PySem PySem.W PyProof.Rows Builtin.Str
namespace Mine

/-! signs that are signs -/
noncomputable def okL (l : List Nat) : Prop := ∀ c ∈ l, c < 1114112
noncomputable def okS (x : Str) : Prop := okL (ls x)
theorem okL_app {a b : List Nat} (h : okL a) (h' : okL b) : okL (a ++ b) := fun c hc => (List.mem_append.mp hc).elim (h c) (h' c)
theorem okS_app {x y : Str} (h : okS x) (h' : okS y) : okS (x ++ y) := by unfold okS; rw [ls_app]; exact okL_app h h'
theorem dq_mem {c : Nat} {l : List Nat} (h : c ∈ dq l) : c ∈ l := by
  induction l with
  | nil => cases h
  | cons a l ih =>
    rw [dq_cons] at h
    rcases List.mem_append.mp h with h1 | h1
    · have h2 : c = a := by
        split at h1
        · rename_i q; subst q; simpa using h1
        · simpa using h1
      rw [h2]; exact List.mem_cons_self
    · exact List.mem_cons_of_mem _ (ih h1)
theorem okS_dbl {x : Str} (h : okS x) : okS (dbl x) := by unfold okS; rw [ls_dbl]; exact fun c hc => h c (dq_mem hc)
theorem okS_empty : okS (Str.ofString "") := by unfold okS; rw [ls_empty]; intro c h; cases h
theorem jstep_mem {c : Nat} {p b : List Nat} (h : c ∈ jstep p b) : c = 47 ∨ c ∈ p ∨ c ∈ b := by
  by_cases h1 : b.head? = some 47 ∨ p = []
  · rw [jstep_b h1] at h; exact .inr (.inr h)
  · have hb : b.head? ≠ some 47 := fun q => h1 (.inl q)
    have hp : p ≠ [] := fun q => h1 (.inr q)
    by_cases h2 : p.getLast? = some 47
    · rw [jstep_a hb hp h2] at h; exact .inr (List.mem_append.mp h)
    · rw [jstep_s hb hp h2] at h
      rcases List.mem_append.mp h with h | h
      · exact .inr (.inl h)
      · rcases List.mem_cons.mp h with h | h
        · exact .inl h
        · exact .inr (.inr h)
theorem jall_ok : ∀ (r : List (List Nat)) (p : List Nat), okL p → (∀ b ∈ r, okL b) → okL (jall p r)
  | [], p, h, _ => h
  | b :: r, p, h, hr => by
    refine jall_ok r (jstep p b) (fun c hc => ?_) fun d hd => hr d (List.mem_cons_of_mem _ hd)
    rcases jstep_mem hc with rfl | hc | hc
    · decide
    · exact h c hc
    · exact hr b List.mem_cons_self c hc
theorem okS_path {a : Str} {bs : List Str} (h : ∀ x ∈ a :: bs, okS x) : okS (pathOf (a :: bs)) := by
  have hj : okL (jall (ls a) (bs.map ls)) := jall_ok _ _ (h a List.mem_cons_self) fun b hb => by
    obtain ⟨x, hx, rfl⟩ := List.mem_map.mp hb
    exact h x (List.mem_cons_of_mem _ hx)
  unfold okS
  rw [ls_pathOf]
  split
  · intro c hc
    rcases List.mem_cons.mp hc with rfl | hc
    · decide
    · exact hj c hc
  · exact hj
theorem strOk_of {x : Str} (h : okS x) : PyData.strOk x = true := by
  unfold PyData.strOk
  rw [Array.all_eq_true']
  intro c hc
  exact decide_eq_true (h c (by simpa [ls] using hc))

/-! data that can be compared -/
noncomputable def okD (d : PyData) : Prop := ∃ x, d = .str x ∧ okS x
theorem canLayAll_strs : ∀ {ds : List PyData}, (∀ d ∈ ds, okD d) → PyData.canLayAll0 ds = true ∧ PyData.depthAll ds = 0
  | [], _ => ⟨by simp [PyData.canLayAll0], by simp [PyData.depthAll]⟩
  | d :: ds, h => by
    obtain ⟨x, rfl, hx⟩ := h d List.mem_cons_self
    obtain ⟨h1, h2⟩ := canLayAll_strs fun c hc => h c (List.mem_cons_of_mem _ hc)
    exact ⟨by simp [PyData.canLayAll0, PyData.canLay0, strOk_of hx, h1], by simp [PyData.depthAll, PyData.depth, h2]⟩
theorem shaped_tuple {ds : List PyData} (h : ∀ d ∈ ds, okD d) : SeqAt.shaped (.tuple ds) = true := by
  obtain ⟨h1, h2⟩ := canLayAll_strs h
  unfold SeqAt.shaped
  simp [PyData.canLay0, PyData.depth, h1, h2]
theorem shaped_list {ds : List PyData} (h : ∀ d ∈ ds, okD d) : SeqAt.shaped (.list ds) = true := by
  obtain ⟨h1, h2⟩ := canLayAll_strs h
  unfold SeqAt.shaped
  simp [PyData.canLay0, PyData.depth, h1, h2]
noncomputable def okT (d : PyData) : Prop := ∃ ds, d = .tuple ds ∧ ∀ c ∈ ds, okD c
theorem canLayAll_tuples : ∀ {ds : List PyData}, (∀ d ∈ ds, okT d) → PyData.canLayAll0 ds = true ∧ PyData.depthAll ds ≤ 1
  | [], _ => ⟨by simp [PyData.canLayAll0], by simp [PyData.depthAll]⟩
  | d :: ds, h => by
    obtain ⟨es, rfl, hx⟩ := h d List.mem_cons_self
    obtain ⟨h1, h2⟩ := canLayAll_tuples fun c hc => h c (List.mem_cons_of_mem _ hc)
    obtain ⟨h3, h4⟩ := canLayAll_strs hx
    refine ⟨by simp [PyData.canLayAll0, PyData.canLay0, h3, h1], ?_⟩
    simp only [PyData.depthAll, PyData.depth, h4]
    omega
theorem shaped_tuples {ds : List PyData} (h : ∀ d ∈ ds, okT d) : SeqAt.shaped (.list ds) = true := by
  obtain ⟨h1, h2⟩ := canLayAll_tuples h
  unfold SeqAt.shaped
  simp [PyData.canLay0, PyData.depth, h1]
  omega
theorem okD_txts {xs : List Str} (h : ∀ x ∈ xs, okS x) : ∀ d ∈ txts xs, okD d := fun d hd => by
  obtain ⟨x, hx, rfl⟩ := List.mem_map.mp hd
  exact ⟨x, rfl, h x hx⟩
theorem okD_due {st nm en : Str} (h1 : okS st) (h2 : okS nm) (h3 : okS en) : ∀ d ∈ due st nm en, okD d := by
  have hr : okS (st ++ dbl nm ++ en) := okS_app (okS_app h1 (okS_dbl h2)) h3
  intro d hd
  unfold due dueRest at hd
  rcases List.mem_cons.mp hd with rfl | hd
  · exact ⟨_, rfl, hr⟩
  · split at hd
    · simp at hd
      rcases hd with rfl | rfl
      · exact ⟨_, rfl, fun c hc => by revert c; decide⟩
      · exact ⟨_, rfl, hr⟩
    · simp at hd
      rcases hd with rfl | rfl
      · exact ⟨_, rfl, fun c hc => by revert c; decide⟩
      · refine ⟨_, rfl, ?_⟩
        split
        · exact h2
        · exact okS_empty
theorem okS_code {st : Str} (h : st ∈ codesL) : okS st := (code_facts h).2.2.2.1
theorem okS_stops {x s : Str} (h : okS x) (hs : s ∈ stopsS x) : okS s := by
  obtain ⟨S, N, D⟩ := dec (ls x)
  have hm : ls s ∈ S := by rw [← D.stops, ← ls_stops]; exact List.mem_map_of_mem hs
  obtain ⟨r, hr⟩ := D.stops_sub _ hm
  exact fun c hc => h c (by rw [hr]; exact List.mem_append_left _ hc)
theorem okS_names {x s : Str} (h : okS x) (hs : s ∈ namesS x) : okS s := by
  obtain ⟨S, N, D⟩ := dec (ls x)
  have hm : ls s ∈ N := by rw [← D.names, ← ls_names]; exact List.mem_map_of_mem hs
  exact fun c hc => h c (D.names_sub _ hm c hc)
theorem okS_front {x : Str} (h : okS x) : okS (frontS x) := by
  unfold okS
  rw [ls_front]
  exact fun c hc => h c ((List.takeWhile_prefix _).subset hc)

/-! lengths -/
theorem stops_len_le {x s : Str} (hs : s ∈ stopsS x) : s.length ≤ x.length := by
  obtain ⟨S, N, D⟩ := dec (ls x)
  have hm : ls s ∈ S := by rw [← D.stops, ← ls_stops]; exact List.mem_map_of_mem hs
  obtain ⟨r, hr⟩ := D.stops_sub _ hm
  rw [len_ls, len_ls, hr]; simp
theorem stops_count (x : Str) : (stopsS x).length ≤ x.length + 1 := by
  unfold stopsS
  have := List.length_filter_le (stopAt x) (List.range x.length).reverse
  rw [List.length_reverse, List.length_range] at this
  exact Nat.succ_le_succ (mp_k this)
theorem names_len_le {x s : Str} (hs : s ∈ namesS x) : s.length ≤ x.length := by
  unfold namesS at hs
  have aux : ∀ {y : Str} {i j : Option Int} {l : List Str}, y ∈ pk l i j → y ∈ l := fun h => List.mem_of_mem_drop (List.mem_of_mem_take h)
  have : s ∈ Txt.split x slash := by
    rcases List.mem_append.mp hs with hs | hs
    · rcases List.mem_append.mp hs with hs | hs
      · exact aux hs
      · exact aux (List.mem_filter.mp hs).1
    · exact aux (aux hs)
  exact part_short this
theorem names_count (x : Str) : (namesS x).length = (stopsS x).length := by
  obtain ⟨S, N, D⟩ := dec (ls x)
  have hS := congrArg List.length ((ls_stops x).trans D.stops)
  have hN := congrArg List.length ((ls_names x).trans D.names)
  rw [List.length_map] at hS hN
  rw [hS, hN, D.len]

/-! the drawn parts -/
theorem ls_partOf (x : Int) : ls (partOf x) = ls ((signsOf x).getD (digit x 1) Str.empty) ++ ls ((signsOf x).getD (digit x 6) Str.empty) ++ ls ((signsOf x).getD (digit x 36) Str.empty) := by
  unfold partOf
  rw [ls_join, ls_empty]
  simp [jn]
theorem part_len (x : Int) : (partOf x).length ≤ 3 := by
  have h1 := signs_len x (digit x 1)
  have h2 := signs_len x (digit x 6)
  have h3 := signs_len x (digit x 36)
  rw [len_ls] at h1 h2 h3 ⊢
  rw [ls_partOf]
  simp only [List.length_append]
  omega
theorem okS_sign (x : Int) (i : Nat) : okS ((signsOf x).getD i Str.empty) := by
  obtain ⟨h0, h1⟩ := chrOf_range x
  have hs : okS (signOf x) := fun c hc => by
    have : c = (chrOf x).toNat := by simpa [signOf, ls] using hc
    omega
  have aux : ∀ y ∈ signsOf x, okS y := by
    intro y hy
    simp only [signsOf, List.mem_cons, List.not_mem_nil, or_false] at hy
    rcases hy with rfl | rfl | rfl | rfl | rfl | rfl
    · exact okS_empty
    · intro c hc; rw [ls_slash] at hc; simp at hc; subst hc; decide
    · intro c hc; revert c; decide
    · intro c hc; revert c; decide
    · intro c hc; revert c; decide
    · split
      · intro c hc; revert c; decide
      · exact hs
  rw [List.getD_eq_getElem?_getD]
  cases e : (signsOf x)[i]? with
  | none => intro c hc; cases hc
  | some y => exact aux y (List.mem_of_getElem? e)
theorem okS_part (x : Int) : okS (partOf x) := by
  unfold okS
  rw [ls_partOf]
  exact okL_app (okL_app (okS_sign x _) (okS_sign x _)) (okS_sign x _)
theorem startOf_mem (dr : List Int) : startOf dr ∈ codesL := by
  obtain ⟨_, h⟩ := fmod_nat (dr.sum.fdiv 4) (k := 8) (by decide)
  unfold startOf
  rw [List.getD_eq_getElem?_getD, List.getElem?_eq_getElem (by exact h)]
  exact List.getElem_mem _
theorem endOf_facts (dr : List Int) : EndOk (ls (endOf dr)) ∧ 47 ∉ ls (endOf dr) ∧ (endOf dr).length ≤ 20 ∧ okS (endOf dr) := by
  obtain ⟨_, h⟩ := fmod_nat dr.sum (k := 4) (by decide)
  have h4 : (dr.sum.fmod 4).toNat < 4 := h
  have aux : ∀ i : Fin 4, EndOk (ls (Str.ofString "\"" ++ tailsL.getD i Str.empty)) ∧ 47 ∉ ls (Str.ofString "\"" ++ tailsL.getD i Str.empty) ∧ (Str.ofString "\"" ++ tailsL.getD i Str.empty).length ≤ 20 ∧ okS (Str.ofString "\"" ++ tailsL.getD i Str.empty) := by
    intro i
    have e : ls (Str.ofString "\"" ++ tailsL.getD i Str.empty) = 34 :: ls (tailsL.getD i Str.empty) := by rw [ls_app]; rfl
    refine ⟨?_, ?_, ?_, ?_⟩
    · rw [e]
      exact .inr ⟨_, rfl, by revert i; decide⟩
    · rw [e]; revert i; decide
    · rw [len_ls, e]; revert i; decide
    · unfold okS
      rw [e]
      show okL _
      unfold okL
      revert i; decide
  exact aux ⟨_, h4⟩
end Mine
end

noncomputable section
open PySem PySem.W PyProof.Rows Builtin.Str
set_option maxRecDepth 100000
namespace Mine

noncomputable def strOf (d : PyData) : Str := match d with
  | .str x => x
  | _ => Str.empty
theorem txts_comp (q : Str → Bool) (g : Str → PyData) : ∀ l : List Str, ((txts l).filter fun d => q (strOf d)).map (fun d => g (strOf d)) = (l.filter q).map g
  | [] => rfl
  | a :: l => by
    have ih := txts_comp q g l
    have e : txts (a :: l) = .str a :: txts l := rfl
    rw [e, List.filter_cons, List.filter_cons]
    have e2 : strOf (.str a) = a := rfl
    rw [e2]
    split
    · rw [List.map_cons, List.map_cons, ih, e2]
    · exact ih
theorem txts_mem {l : List Str} {d : PyData} (h : d ∈ txts l) : ∃ x, x ∈ l ∧ d = .str x := by
  obtain ⟨x, hx, rfl⟩ := List.mem_map.mp h
  exact ⟨x, hx, rfl⟩
theorem txts_length (l : List Str) : (txts l).length = l.length := List.length_map _
theorem txts_app (a b : List Str) : txts (a ++ b) = txts a ++ txts b := List.map_append
theorem txts_pk (l : List Str) (i j : Option Int) : pk (txts l) i j = txts (pk l i j) := by
  unfold pk txts
  rw [List.map_take, List.map_drop, List.length_map]
theorem txts_rev (l : List Str) : (txts l).reverse = txts l.reverse := List.map_reverse.symm
theorem eqv_nil (l : List Str) : PyData.eqv (.list (txts l)) (.list []) = l.isEmpty := by
  cases l <;> rfl
theorem pathOf_len {a : Str} {bs : List Str} (hl : (a :: bs).length ≤ 5) (hs : ∀ x ∈ a :: bs, x.length ≤ 3) : (joined (a :: bs)).length ≤ 100 ∧ (pathOf (a :: bs)).length ≤ 101 := by
  have hjl : (joined (a :: bs)).length ≤ 100 := by
    rw [← M1]
    have h3 := tot_le (b := 3) (l := bs) fun x hx => hs x (List.mem_cons_of_mem _ hx)
    exact le_k (Nat.le_trans (joinAll_len bs a) (Nat.add_le_add (hs a List.mem_cons_self) (Nat.le_trans h3 (Nat.mul_le_mul_right _ (Nat.le_of_succ_le_succ hl : bs.length ≤ 4))))) rfl
  refine ⟨hjl, ?_⟩
  unfold pathOf
  split
  · exact ap_k (a := 1) (Nat.le_of_eq (by decide)) hjl
  · exact le_k hjl rfl

section
variable {w : World} {mean : ExcName → Option Value} {mg mb : Str → Option Value} {base h₀ : Heap} {L f : Addr} {cd : Value}

theorem fn_joinL {n : Nat} {l : List Str} (hne : l ≠ []) (hz : tot l ≤ 100000) : Fn (XX w mean mg mb) (n + 2) (.ref 115) (txts l) (.str (joinL l)) := by
  cases l with
  | nil => exact absurd rfl hne
  | cons a bs => exact fn_join (Nat.le_trans (Nat.add_le_add (Nat.le_succ a.length) (Nat.le_refl _)) hz)

theorem sz_str {x : Str} (h : x.length ≤ 1000000) : x.length ≤ sizeLine := sz_k h rfl

set_option maxHeartbeats 4000000 in
theorem law3 {a st en : Str} {bs : List Str} (U : Outer (XX w mean mg mb) (lawFx base L f cd)) (hl : (a :: bs).length ≤ 5) (hs : ∀ x ∈ a :: bs, x.length ≤ 3) (hok : ∀ x ∈ a :: bs, okS x)
    (hst : st ∈ codesL) (hen : EndOk (ls en)) (hen47 : 47 ∉ ls en) (henl : en.length ≤ 20) (heno : okS en)
    (h : BT (XX w mean mg mb) (lawFx base L f cd) h₀ [(Str.ofString "path", .str (pathOf (a :: bs))), (Str.ofString "start", .str st), (Str.ofString "end", .str en)] (lawParts.1.drop 13) (.bool true)) :
    BT (XX w mean mg mb) (lawFx base L f cd) h₀ [(Str.ofString "end", .str en), (Str.ofString "start", .str st), (Str.ofString "path", .str (joined (a :: bs))), (Str.ofString "parts", .list (txts (a :: bs)))] (lawParts.1.drop 7) (.bool true) := by
  obtain ⟨c1, c2, c3, c4, c5⟩ := code_facts hst
  have hM2 := M2 (a := a) (bs := bs) hst hen hen47
  obtain ⟨hjl, hpo⟩ := pathOf_len hl hs
  generalize hps : a :: bs = ps at *
  have hpl : 0 < ps.length := by rw [← hps]; exact Nat.succ_pos _
  have hzp : (txts ps).length ≤ sizeLine := ll_k (mp_k hl) rfl
  have hol : okS (pathOf ps) := by rw [← hps]; exact okS_path (by rw [hps]; exact hok)
  have hn : ∀ k, (ps.getD k Str.empty).length ≤ 3 := fun k => getD_mem hs
  refine' bt_assign (d1 := .list (txts (startsL st ps.length))) (sees_is (sees_add_list (sees_list (cons_name (by exact sees_name rfl (by decide)) sees_nil)) (sees_times (n := ps.length) sees_str (sees_is (sees_len_list (by exact sees_name rfl (by decide)) hzp rfl rfl fun _ => rfl) ?a0) ?a1 fun _ => rfl) ?a2) ?a3) (.inr ⟨rfl, rfl⟩) rfl ?_
  case a0 => rw [txts_length]
  case a1 => exact le_k hl rfl
  case a2 => exact sz_k (Nat.add_le_add (Nat.le_refl 1) (Nat.le_trans (Nat.le_of_eq List.length_replicate) hl)) rfl
  case a3 => simp [startsL, txts]
  refine' bt_assign (d1 := .list (txts (endsL en ps.length))) (sees_is (sees_add_list (sees_times' (x := (ps.length : Int) - 1) (n := ps.length - 1) sees_str (sees_is (sees_sub_int (sees_len_list (by exact sees_name rfl (by decide)) hzp rfl rfl fun _ => rfl) sees_int) ?b0) ?b1 ?b2 ?b3 fun _ => rfl) (sees_list (cons_name (by exact sees_name rfl (by decide)) sees_nil)) ?b4) ?b5) (.inr ⟨rfl, rfl⟩) rfl ?_
  case b0 => rw [txts_length]
  case b1 => exact Int.toNat_sub ps.length 1
  case b2 => exact Int.sub_nonneg_of_le (Int.ofNat_le.mpr hpl)
  case b3 => exact le_k (Nat.le_trans (Nat.sub_le _ _) hl) rfl
  case b4 => exact sz_k (Nat.add_le_add (Nat.le_trans (Nat.le_of_eq List.length_replicate) (Nat.le_trans (Nat.sub_le _ _) hl)) (Nat.le_refl 1)) rfl
  case b5 => simp [endsL, txts]
  have hzd : (txts (ps.drop 1)).length ≤ sizeLine := ll_k (mp_k (dr_k hl)) rfl
  have hlost : ∀ x ∈ lostL ps, okS x := fun x hx => hok x (List.mem_of_mem_drop (List.mem_filter.mp hx).1)
  refine' bt_assign (d1 := .bool (lostB ps)) (sees_is (sees_cmp (cmp_ne (d1 := .list (txts (lostL ps))) (d2 := .list []) ?c1 rfl) (sees_is (sees_comp (ds := txts (ps.drop 1)) (p := fun d => Txt.slice (strOf d) none (some 1) == slash) (f := fun d => .str (strOf d)) (bs := fun d => [(Str.ofString "part", d)]) (σ := [])
    rfl (scOk_of rfl) (fun _ => rfl) (iter_list (sees_is (sees_slice_list (by exact sees_name rfl (by decide)) (part_some sees_int) part_none hzp) ?c4) (.inl fun _ _ => rfl)) hzd capt_nil ?c5 ?c6 (elt_of ?c7 ?c8)) ?c9) (sees_list sees_nil) rfl) ?c10) (.inl rfl) rfl ?_
  case c1 => exact shaped_list (okD_txts hlost)
  case c4 => rw [txts_pk, show (some (1 : Int)) = some ((1 : Nat) : Int) from rfl, pk_from]
  case c5 => exact fun C d hd => bd_name rfl rfl
  case c6 =>
    intro C d hd
    obtain ⟨x, hx, rfl⟩ := txts_mem hd
    have hxl := hs x (List.mem_of_mem_drop hx)
    exact tests_one (tests_cmp cmp_eq_str (sees_slice_str (by exact sees_name rfl (by decide)) part_none (part_some sees_int) (show (strOf (.str x)).length ≤ sizeLine from sz_k hxl rfl)) sees_str rfl)
  case c7 =>
    intro C d hd _
    obtain ⟨x, hx, rfl⟩ := txts_mem hd
    exact sees_name rfl (by decide)
  case c8 => intro d hd _; rfl
  case c9 => rw [txts_comp (fun x => Txt.slice x none (some 1) == slash) fun x => .str x]; rfl
  case c10 => rw [eqv_nil]; rfl
  refine' bt_cons (ρ₁ := [(Str.ofString "path", .str (pathOf ps)), (Str.ofString "lost", .bool (lostB ps)), (Str.ofString "ends", .list (txts (endsL en ps.length))), (Str.ofString "starts", .list (txts (startsL st ps.length))), (Str.ofString "end", .str en), (Str.ofString "start", .str st), (Str.ofString "parts", .list (txts ps))])
    (gt_if (tests_and3 (tests_cmp cmp_eq_str (sees_item_list (k := 0) (d := .str (ps.getD 0 Str.empty)) (by exact sees_name rfl (by decide)) sees_int ?d1 ?d2 hzp fun _ _ _ => rfl) sees_str rfl) (tests_is (tests_cmp cmp_gt (sees_len_list (by exact sees_name rfl (by decide)) hzp rfl rfl fun _ => rfl) sees_int rfl) (c := decide (1 < ps.length)) ?d3) (tests_not (tests_of (by exact sees_name rfl (by decide)) rfl fun _ _ => rfl))) ?d4 ?d5) ?_
  case d1 => exact txts_get hpl
  case d2 => exact lo_nat _ 0
  case d3 => rw [txts_length, Bool.eq_iff_iff]; simp; omega
  case d4 =>
    intro hb
    refine gt_weaken (gt_assign (sees_add_str sees_str (by exact sees_name rfl (by decide)) ?_) (.inr ⟨rfl, rfl⟩) rfl) (sub_cons ?_ (sub_cons rfl (sub_cons rfl (sub_cons rfl (sub_cons rfl (sub_cons rfl (sub_cons rfl sub_nil)))))))
    · exact sz_k (Nat.add_le_add (Nat.le_of_eq (show (Str.ofString "/").length = 1 by decide)) hjl) rfl
    · have hb' : (ps.getD 0 Str.empty == Str.ofString "" && decide (1 < ps.length) && !lostB ps) = true := hb
      unfold pathOf
      rw [if_pos hb']; rfl
  case d5 =>
    intro hb
    refine gt_weaken gt_nil (sub_cons ?_ (sub_cons rfl (sub_cons rfl (sub_cons rfl (sub_cons rfl (sub_cons rfl (sub_cons rfl sub_nil)))))))
    unfold pathOf
    rw [if_neg (by rw [show (ps.getD 0 Str.empty == Str.ofString "" && decide (1 < ps.length) && !lostB ps) = false from hb]; decide)]; rfl
  have hse : ∀ k, k < ps.length → ((startsL st ps.length).getD k Str.empty).length ≤ 100 ∧ ((endsL en ps.length).getD k Str.empty).length ≤ 20 := fun k hk => by
    refine ⟨getD_mem fun x hx => ?_, getD_mem fun x hx => ?_⟩
    · rcases List.mem_cons.mp hx with rfl | hx
      · exact c3
      · rw [List.eq_of_mem_replicate hx]; exact Nat.zero_le _
    · rcases List.mem_append.mp hx with hx | hx
      · rw [List.eq_of_mem_replicate hx]; exact Nat.zero_le _
      · simp at hx; rw [hx]; exact henl
  have hat : ∀ k, k < ps.length → (toldAt ps st en k).length ≤ 126 := fun k hk => by
    obtain ⟨h1, h2⟩ := hse k hk
    exact ap_k (ap_k h1 (db_k (dbl_len _) (hn k))) h2
  have htl : ∀ x ∈ toldL ps st en, x.length ≤ 126 := fun x hx => by
    obtain ⟨k, hk, rfl⟩ := List.mem_map.mp hx
    exact hat k (List.mem_range.mp hk)
  have htn : (toldL ps st en).length = ps.length := by simp [toldL]
  have htot : tot (toldL ps st en) ≤ 100000 := by
    have h1 := tot_le htl
    exact le_k (Nat.le_trans h1 (Nat.mul_le_mul_right _ (Nat.le_trans (Nat.le_of_eq htn) hl))) rfl
  have hjo : (joinL (toldL ps st en)).length ≤ 100000 := by
    cases hq : toldL ps st en with
    | nil => exact Nat.zero_le _
    | cons a' bs' =>
      have h1 := joinAll_len bs' a'
      rw [hq] at htot
      exact Nat.le_trans h1 (Nat.le_trans (Nat.add_le_add (Nat.le_succ a'.length) (Nat.le_refl _)) htot)
  refine' bt_assignS U (d1 := .tuple (readL (joinL (toldL ps st en)))) (seesS_call1 (sees_call_star (n := 2) rfl (by decide) rfl rfl (by show 2 ≤ 10; decide) (fn_joinL (n := 0) ?e1 htot) (sees_is (sees_comp (ds := rangeD 0 1 ps.length) (p := fun _ => true) (f := fun d => .str (toldAt ps st en (kOf d))) (bs := fun d => [(Str.ofString "k", d)])
    (σ := [(Str.ofString "starts", .list (txts (startsL st ps.length))), (Str.ofString "parts", .list (txts ps)), (Str.ofString "ends", .list (txts (endsL en ps.length)))]) rfl (scOk_of rfl) (fun _ => rfl)
      (iter_range rfl rfl (sees_is (sees_len_list (by exact sees_name rfl (by decide)) hzp rfl rfl fun _ => rfl) ?e4) ?e5 (fun _ _ => rfl) fun _ => rfl) ?e6 (capt_cons rfl rfl rfl rfl (capt_cons rfl rfl rfl rfl (capt_cons rfl rfl rfl rfl capt_nil))) ?e7 ?e8 (elt_of ?e9 ?e10)) ?e11) ?e12) (fn_read (n := 0) hjo) (by show 2 ≤ 10; decide) rfl (by decide) rfl rfl fun _ => rfl) (.inl rfl) rfl ?_
  case e1 => intro q; rw [q] at htn; exact absurd hpl (by rw [← htn]; exact Nat.lt_irrefl 0)
  case e4 => simp [txts]
  case e5 => exact sz_k hl rfl
  case e6 => exact ll_k (mp_k (Nat.le_trans (Nat.le_of_eq List.length_range) hl)) rfl
  case e7 => exact fun C d hd => bd_name rfl rfl
  case e8 => exact fun C d hd => tests_nil
  case e9 =>
    intro C d hd _
    obtain ⟨k, hk, rfl⟩ := rangeD_mem hd
    have hsl : (startsL st ps.length).length = ps.length + 1 := by simp [startsL]
    have hel : (endsL en ps.length).length = ps.length := by unfold endsL; rw [List.length_append, List.length_replicate]; exact Nat.sub_add_cancel hpl
    obtain ⟨s1, s2⟩ := hse k hk
    have s4 := hn k
    have s3 := db_k (dbl_len (ps.getD k Str.empty)) s4
    show Sees _ _ _ _ (.str ((startsL st ps.length).getD k Str.empty ++ dbl (ps.getD k Str.empty) ++ (endsL en ps.length).getD k Str.empty))
    refine' sees_add_str (sees_add_str (sees_item_list (k := k) (d := .str ((startsL st ps.length).getD k Str.empty)) (by exact sees_name rfl (by decide)) (by exact sees_name rfl (by decide)) ?x1 ?x2 ?x3 fun _ _ _ => rfl)
      (sees_call1 (sees_item_list (k := k) (d := .str (ps.getD k Str.empty)) (by exact sees_name rfl (by decide)) (by exact sees_name rfl (by decide)) ?y1 ?y2 hzp fun _ _ _ => rfl) (fn_doubled (n := 0) (le_k s4 rfl)) (by show 1 ≤ 10; decide) rfl (by decide) rfl rfl fun _ => rfl) ?z1)
      (sees_item_list (k := k) (d := .str ((endsL en ps.length).getD k Str.empty)) (by exact sees_name rfl (by decide)) (by exact sees_name rfl (by decide)) ?w1 ?w2 ?w3 fun _ _ _ => rfl) ?z2
    case x1 => rw [at?_nat]; exact txts_get (Nat.lt_of_lt_of_eq (Nat.lt_succ_of_lt hk) hsl.symm)
    case x2 => exact lo_nat _ k
    case x3 => exact ll_k (mp_k (Nat.le_trans (Nat.le_of_eq hsl) (Nat.succ_le_succ hl))) rfl
    case y1 => rw [at?_nat]; exact txts_get hk
    case y2 => exact lo_nat _ k
    case w1 => rw [at?_nat]; exact txts_get (Nat.lt_of_lt_of_eq hk hel.symm)
    case w2 => exact lo_nat _ k
    case w3 => exact ll_k (mp_k (Nat.le_trans (Nat.le_of_eq hel) hl)) rfl
    case z1 => exact sz_k (Nat.add_le_add s1 s3) rfl
    case z2 => exact sz_k (Nat.add_le_add (ap_k s1 s3) s2) rfl
  case e10 => intro d hd _; rfl
  case e11 => rw [rangeD_comp (fun _ => true) fun k => .str (toldAt ps st en k), List.filter_eq_self.mpr fun _ _ => rfl]; simp only [toldL, txts, List.map_map]; rfl
  case e12 => exact ll_k (mp_k (Nat.le_trans (Nat.le_of_eq htn) hl)) rfl
  have hdl := db_k (dbl_len (pathOf ps)) hpo
  have hsd : SeqAt.shaped (.tuple (due (if lostB ps = true then Str.ofString "" else st) (pathOf ps) en)) = true := shaped_tuple (okD_due (by split; exact okS_empty; exact okS_code hst) hol heno)
  refine' bt_skip (tests_is (tests_cmp (cmp_ne (d1 := .tuple (readL (joinL (toldL ps st en)))) (d2 := .tuple (due (if lostB ps = true then Str.ofString "" else st) (pathOf ps) en)) (by rw [hM2]; exact hsd) hsd) (by exact sees_name rfl (by decide)) (sees_call (n := 2) rfl (by decide) rfl rfl (by show 2 ≤ 10; decide) (fn_due (n := 0) ?f1 ?f2 ?f3 ?f4) (sees_cons (sees_ite (tests_of (by exact sees_name rfl (by decide)) rfl fun _ _ => rfl) ?g1 ?g2) (cons_name (by exact sees_name rfl (by decide)) (cons_name (by exact sees_name rfl (by decide)) sees_nil)) fun _ => rfl) (fun _ => rfl) (fun _ _ => rfl)) rfl) ?f5)
    (bt_weaken h (sub_cons rfl (sub_cons rfl (sub_cons rfl sub_nil))))
  case f1 => split; exact Nat.zero_le _; exact c3
  case f2 => exact le_k hpo rfl
  case f3 => exact le_k hdl rfl
  case f4 => exact le_k henl rfl
  case g1 => intro hb; rw [if_pos (show lostB ps = true from hb)]; exact sees_str
  case g2 => intro hb; rw [if_neg (by rw [show lostB ps = false from hb]; decide)]; exact sees_name rfl (by decide)
  case f5 => rw [hM2]; exact strict_of_eqv hsd
end
end Mine
end

noncomputable section
open PySem PySem.W PyProof.Rows Builtin.Str
set_option maxRecDepth 100000
namespace Mine

theorem rangeDown_eq (n : Nat) : rangeD ((n : Int) - 1) (-1) n = (List.range n).reverse.map fun k : Nat => .int k := by
  unfold rangeD
  apply List.ext_getElem?
  intro i
  rw [List.getElem?_map, List.getElem?_map]
  by_cases hi : i < n
  · rw [List.getElem?_range hi, List.getElem?_reverse (by simpa using hi), List.length_range, List.getElem?_range (back_lt hi)]
    simp only [Option.map_some, Option.some.injEq, PyData.int.injEq]
    omega
  · rw [List.getElem?_eq_none (by simpa using hi), List.getElem?_eq_none (by simpa using hi)]; rfl
theorem rangeDown_mem {n : Nat} {d : PyData} (h : d ∈ rangeD ((n : Int) - 1) (-1) n) : ∃ k : Nat, k < n ∧ d = .int k := by
  rw [rangeDown_eq] at h
  obtain ⟨k, hk, rfl⟩ := List.mem_map.mp h
  exact ⟨k, by simpa using hk, rfl⟩
theorem ints_comp (p : Nat → Bool) (f : Nat → PyData) : ∀ l : List Nat, ((l.map fun k : Nat => PyData.int k).filter fun d => p (kOf d)).map (fun d => f (kOf d)) = (l.filter p).map f
  | [] => rfl
  | a :: l => by
    have ih := ints_comp p f l
    have e : kOf (.int (a : Int)) = a := rfl
    simp only [List.map_cons, List.filter_cons, e]
    split
    · rw [List.map_cons, List.map_cons, ih, e]
    · exact ih
noncomputable def fstD (d : PyData) : Str := match d with
  | .tuple (.str x :: _) => x
  | _ => Str.empty
noncomputable def sndD (d : PyData) : Str := match d with
  | .tuple [_, .str x] => x
  | _ => Str.empty
theorem zipD_txts : ∀ (a b : List Str), zipD (txts a) (txts b) = (a.zip b).map fun p => .tuple [.str p.1, .str p.2]
  | [], b => rfl
  | x :: a, [] => rfl
  | x :: a, y :: b => by
    have := zipD_txts a b
    unfold zipD txts at this ⊢
    simp only [List.map_cons, List.zip_cons_cons, this]

section
variable {w : World} {mean : ExcName → Option Value} {mg mb : Str → Option Value} {base h₀ : Heap} {L f : Addr} {cd : Value}

theorem splitParts_ok {x : Str} (h : x.length ≤ 1000) : (partsBetween x (occurrences x slash 0 x.length (x.length + 1)) slash.length).length ≤ sizeLine := by
  exact ll_k (Nat.le_trans (splitParts_len x) (Nat.add_le_add h (Nat.le_refl 2))) rfl

set_option maxHeartbeats 4000000 in
theorem law4 {x st en : Str} (hx : x.length ≤ 101) (hok : okS x)
    (h : BT (XX w mean mg mb) (lawFx base L f cd) h₀ [(Str.ofString "stops", .list (txts (stopsS x))), (Str.ofString "names", .list (txts (namesS x))), (Str.ofString "path", .str x), (Str.ofString "start", .str st), (Str.ofString "end", .str en)] (lawParts.1.drop 18) (.bool true)) :
    BT (XX w mean mg mb) (lawFx base L f cd) h₀ [(Str.ofString "path", .str x), (Str.ofString "start", .str st), (Str.ofString "end", .str en)] (lawParts.1.drop 13) (.bool true) := by
  have hS : (stopsS x).length ≤ 102 := Nat.le_trans (stops_count x) (Nat.succ_le_succ hx)
  have hN : (namesS x).length ≤ 102 := Nat.le_trans (Nat.le_of_eq (names_count x)) hS
  have hpc : (Txt.split x slash).length ≤ 103 := Nat.le_trans (split_len x) (Nat.add_le_add hx (Nat.le_refl 2))
  have hzx : x.length ≤ sizeLine := sz_k hx rfl
  have hzp : (txts (Txt.split x slash)).length ≤ sizeLine := ll_k (mp_k hpc) rfl
  have hpk : ∀ (i j : Option Int) (l : List Str), l.length ≤ 103 → (pk l i j).length ≤ 103 := fun i j l h => by
    unfold pk
    rw [List.length_take]; exact Nat.le_trans (Nat.min_le_right _ _) (dr_k h)
  refine' bt_assign (d1 := .list (txts (Txt.split x slash))) (sees_split (y := slash) (by decide) hzx (splitParts_ok (le_k hx rfl)) (by exact sees_name rfl (by decide)) sees_str (fun _ => rfl) (fun _ => rfl) rfl) (.inl rfl) rfl ?_
  have hz1 := hpk none (some 1) _ hpc
  have hz2 := hpk (some 1) (some (-1)) _ hpc
  have hz3 := hpk (some 1) none _ hpc
  have hz4 := hpk (some (-1)) none _ hz3
  have hz5 := Nat.le_trans (List.length_filter_le (fun p => p != Str.ofString "") (pk (Txt.split x slash) (some 1) (some (-1)))) hz2
  refine' bt_assign (d1 := .list (txts (namesS x))) (sees_is (sees_add_list (sees_add_list (sees_is (sees_slice_list (by exact sees_name rfl (by decide)) part_none (part_some sees_int) hzp) ?a1)
    (sees_is (sees_comp (ds := txts (pk (Txt.split x slash) (some 1) (some (-1)))) (p := fun d => strOf d != Str.ofString "") (f := fun d => .str (strOf d)) (bs := fun d => [(Str.ofString "piece", d)]) (σ := [])
      rfl (scOk_of rfl) (fun _ => rfl) (iter_list (sees_is (sees_slice_list (by exact sees_name rfl (by decide)) (part_some sees_int) (part_some (sees_neg sees_int)) hzp) ?a4) (.inl fun _ _ => rfl)) ?a5 capt_nil ?a6 ?a7 (elt_of ?a8 ?a9)) ?a10) ?a11)
    (sees_is (sees_slice_list (sees_is (sees_slice_list (by exact sees_name rfl (by decide)) (part_some sees_int) part_none hzp) ?b1) (part_some (sees_neg sees_int)) part_none ?b2) ?b3) ?b4) ?b5) (.inr ⟨rfl, rfl⟩) rfl ?_
  case a1 => exact congrArg PyData.list (txts_pk _ none (some 1))
  case a4 => exact congrArg PyData.list (txts_pk _ (some 1) (some (-1)))
  case a5 => exact ll_k (mp_k hz2) rfl
  case a6 => exact fun C d hd => bd_name rfl rfl
  case a7 =>
    intro C d hd
    obtain ⟨y, hy, rfl⟩ := txts_mem hd
    exact tests_one (tests_cmp cmp_ne_str (by exact sees_name rfl (by decide)) sees_str rfl)
  case a8 =>
    intro C d hd _
    obtain ⟨y, hy, rfl⟩ := txts_mem hd
    exact sees_name rfl (by decide)
  case a9 => intro d hd _; rfl
  case a10 => exact congrArg PyData.list (txts_comp (fun y => y != Str.ofString "") (fun y => .str y) _)
  case a11 => exact sz_k (Nat.add_le_add (mp_k hz1) (mp_k hz5)) rfl
  case b1 => exact congrArg PyData.list (txts_pk _ (some 1) none)
  case b2 => exact ll_k (mp_k hz3) rfl
  case b3 => exact congrArg PyData.list (txts_pk _ (some (-1)) none)
  case b4 => exact sz_k (Nat.add_le_add (lp_k (mp_k hz1) (mp_k hz5)) (mp_k hz4)) rfl
  case b5 =>
    unfold namesS
    rw [txts_app, txts_app]; rfl
  have hkl : ∀ k : Nat, (Txt.slice x none (some (k : Int))).length ≤ 101 := fun k => Nat.le_trans (Txt.slice_le _ _ _) hx
  refine' bt_assign (d1 := .list (txts (stopsS x))) (sees_is (sees_add_list (sees_list (cons_name (by exact sees_name rfl (by decide)) sees_nil))
    (sees_is (c := .list (((List.range x.length).reverse.filter (stopAt x)).map fun k : Nat => .str (Txt.slice x none (some (k : Int))))) (sees_comp (ds := rangeD ((x.length : Int) - 1) (-1) x.length) (p := fun d => stopAt x (kOf d)) (f := fun d => .str (Txt.slice x none (some (kOf d : Int)))) (bs := fun d => [(Str.ofString "k", d)]) (σ := [(Str.ofString "path", .str x)])
      rfl (scOk_of rfl) (fun _ => rfl) (iter_down rfl rfl (sees_sub_int (sees_len_str (by exact sees_name rfl (by decide)) hzx rfl rfl fun _ => rfl) sees_int) (sees_neg sees_int) (sees_neg sees_int) hzx (fun _ _ => rfl) (fun _ => rfl) (fun _ => rfl) fun _ => rfl) ?c5 (capt_cons rfl rfl rfl rfl capt_nil) ?c6 ?c7 (elt_of ?c8 ?c9)) ?c10) ?c11) ?c12) (.inl rfl) rfl ?_
  case c5 => exact ll_k (mp_k (Nat.le_trans (Nat.le_of_eq List.length_range) hx)) rfl
  case c6 => exact fun C d hd => bd_name rfl rfl
  case c7 =>
    intro C d hd
    obtain ⟨k, hk, rfl⟩ := rangeDown_mem hd
    have hg : x.cps.toList[k]? = some ((ls x).getD k 0) := by
      rw [List.getD_eq_getElem?_getD, List.getElem?_eq_getElem (by rw [len_ls] at hk; exact hk)]; rfl
    exact tests_one (tests_and2 (tests_cmp cmp_eq_str (sees_item_str (k := k) (by exact sees_name rfl (by decide)) (by exact sees_name rfl (by decide)) hg hzx fun _ _ _ _ => rfl) sees_str rfl) fun _ =>
      tests_cmp cmp_ne_str (sees_slice_str (sees_slice_str (by exact sees_name rfl (by decide)) part_none (part_some (by exact sees_name rfl (by decide))) hzx) (part_some (sees_neg sees_int)) part_none (sz_str (by have := hkl k; exact Nat.le_trans this (by decide)))) sees_str rfl)
  case c8 =>
    intro C d hd _
    obtain ⟨k, hk, rfl⟩ := rangeDown_mem hd
    exact sees_slice_str (by exact sees_name rfl (by decide)) part_none (part_some (by exact sees_name rfl (by decide))) hzx
  case c9 => intro d hd _; rfl
  case c10 => rw [rangeDown_eq]; exact congrArg PyData.list (ints_comp (stopAt x) (fun k => .str (Txt.slice x none (some (k : Int)))) _)
  case c11 =>
    have h1 := List.length_filter_le (stopAt x) (List.range x.length).reverse
    rw [List.length_reverse, List.length_range] at h1
    exact sz_k (Nat.add_le_add (Nat.le_refl 1) (mp_k (Nat.le_trans h1 hx))) rfl
  case c12 =>
    unfold stopsS txts
    rw [List.map_cons, List.map_map]
    rfl
  have hlz : (Txt.lstripChars x slash).length ≤ 101 := Nat.le_trans (len_lstripChars _ _) hx
  refine' bt_assign (d1 := .str (frontS x)) (sees_slice_str (by exact sees_name rfl (by decide)) part_none (part_some (sees_sub_int (sees_len_str (by exact sees_name rfl (by decide)) hzx rfl rfl fun _ => rfl) (sees_len_str (sees_lstrip hzx (by exact sees_name rfl (by decide)) sees_str (fun _ => rfl) (fun _ => rfl) rfl) (sz_str (by exact Nat.le_trans hlz (by decide))) rfl rfl fun _ => rfl))) hzx) (.inr ⟨rfl, rfl⟩) rfl ?_
  have hst1 : (txts (stopsS x)).length ≤ sizeLine := ll_k (mp_k hS) rfl
  have hst2 : (txts (namesS x)).length ≤ sizeLine := ll_k (mp_k hN) rfl
  have hM3 := M3 x
  have hfront := okS_front hok
  have hso : ∀ p ∈ ((stopsS x).drop 1 ++ [Str.ofString ""]).zip (namesS x).reverse, okS p.1 ∧ okS p.2 := fun p hp => by
    have h1 := (List.of_mem_zip (a := p.1) (b := p.2) hp).1
    have h2 := (List.of_mem_zip (a := p.1) (b := p.2) hp).2
    refine ⟨?_, okS_names hok (List.mem_reverse.mp h2)⟩
    rcases List.mem_append.mp h1 with h1 | h1
    · exact okS_stops hok (List.mem_of_mem_drop h1)
    · simp at h1; rw [h1]; exact okS_empty
  have hshape : SeqAt.shaped (.list ((climbL x (stopsS x).length).map pairD)) = true := by
    refine shaped_tuples fun d hd => ?_
    obtain ⟨p, hp, rfl⟩ := List.mem_map.mp hd
    rw [hM3] at hp
    obtain ⟨q, hq, rfl⟩ := List.mem_map.mp hp
    obtain ⟨h1, h2⟩ := hso q hq
    refine ⟨_, rfl, fun c hc => ?_⟩
    simp at hc
    rcases hc with rfl | rfl
    · refine ⟨_, rfl, ?_⟩
      unfold orS
      split
      · exact h1
      · exact hfront
    · exact ⟨_, rfl, h2⟩
  refine' bt_skip (tests_is (tests_cmp (cmp_ne (d1 := .list ((climbL x (stopsS x).length).map pairD)) (d2 := .list ((climbL x (stopsS x).length).map pairD)) hshape hshape)
    (sees_call (n := 3) rfl (by decide) rfl rfl (by show 3 ≤ 10; decide) (fn_climb (n := 0) (m := (stopsS x).length) (le_k hx rfl) (le_k hS rfl)) (cons_name (by exact sees_name rfl (by decide)) (sees_cons (sees_is (sees_len_list (by exact sees_name rfl (by decide)) hst1 rfl rfl fun _ => rfl) ?d1) sees_nil fun _ => rfl)) (fun _ => rfl) (fun _ _ => rfl))
    (sees_is (sees_compZ (ds := zipD (txts ((stopsS x).drop 1 ++ [Str.ofString ""])) (txts (namesS x).reverse)) (gs := fun d => [.str (orS (fstD d) (frontS x)), .str (sndD d)]) (bs := fun d => [(Str.ofString "stop", .str (fstD d)), (Str.ofString "name", .str (sndD d))]) (σ := [(Str.ofString "front", .str (frontS x))])
      rfl (scOk_of rfl) (fun _ => rfl) (iter_zip (sees_is (sees_add_list (sees_slice_list (by exact sees_name rfl (by decide)) (part_some sees_int) part_none hst1) (sees_list (cons_str sees_nil)) ?e4) ?e5) (sees_is (sees_rev_list (by exact sees_name rfl (by decide)) (sees_neg sees_int) hst2) ?e6) rfl rfl (fun _ => rfl) fun _ => rfl) ?e7 (capt_cons rfl rfl rfl rfl capt_nil) ?e8 ?e9 ?e10) ?e11) rfl) (strict_of_eqv hshape))
    (bt_weaken h (sub_cons rfl (sub_cons rfl (sub_cons rfl (sub_cons rfl (sub_cons rfl sub_nil))))))
  case d1 => rw [txts_length]
  case e4 => rw [txts_pk]; exact sz_k (Nat.add_le_add (mp_k (hpk (some 1) none _ (Nat.le_succ_of_le hS))) (Nat.le_refl 1)) rfl
  case e5 => rw [txts_pk, show (some (1 : Int)) = some ((1 : Nat) : Int) from rfl, pk_from, txts_app]; rfl
  case e6 => exact congrArg PyData.list (txts_rev _)
  case e7 =>
    refine ll_k (mp_k (k := 102) ?_) rfl
    rw [List.length_zip, txts_length, txts_length, List.length_reverse]
    exact Nat.le_trans (Nat.min_le_right _ _) hN
  case e8 =>
    intro C d hd
    rw [zipD_txts] at hd
    obtain ⟨p, hp, rfl⟩ := List.mem_map.mp hd
    exact bd_pair rfl rfl (by decide) rfl
  case e9 =>
    intro C d hd
    rw [zipD_txts] at hd
    obtain ⟨p, hp, rfl⟩ := List.mem_map.mp hd
    obtain ⟨h1, h2⟩ := List.of_mem_zip (a := p.1) (b := p.2) hp
    have hl1 : p.1.length ≤ 101 := by
      rcases List.mem_append.mp h1 with h1 | h1
      · exact Nat.le_trans (stops_len_le (List.mem_of_mem_drop h1)) hx
      · simp at h1; rw [h1]; exact Nat.zero_le _
    show SeesAll _ _ _ _ [.str (orS p.1 (frontS x)), .str p.2]
    refine sees_cons (sees_or (d1 := .str p.1) (by exact sees_name rfl (by decide)) (decide_eq_true (Nat.le_trans hl1 (by decide))) ?_) (cons_name (by exact sees_name rfl (by decide)) sees_nil) fun _ => rfl
    have et : truth (.str p.1) = (p.1.length != 0) := rfl
    rw [et]
    unfold orS
    by_cases hc : (p.1.length != 0) = true
    · rw [if_pos hc, if_pos hc]
    · rw [if_neg hc, if_neg hc]; exact sees_name rfl (by decide)
  case e10 =>
    intro d hd
    refine ⟨by simp, fun c hc => ?_⟩
    simp at hc
    rcases hc with rfl | rfl <;> rfl
  case e11 =>
    rw [zipD_txts, hM3, List.map_map, List.map_map]
    rfl
end
end Mine
end

noncomputable section
open PySem PySem.W PyProof.Rows Builtin.Str
set_option maxRecDepth 100000
namespace Mine

theorem due_len (st nm en : Str) : (due st nm en).length = 3 := by
  unfold due dueRest
  split <;> rfl
theorem readL_len (x : Str) : (readL x).length = 3 := by
  unfold readL
  split <;> rfl
theorem noList_due (st nm en : Str) : noLists (due st nm en) = true := by
  unfold due dueRest
  split <;> rfl
theorem noList_read (x : Str) : noLists (readL x) = true := by
  unfold readL
  split <;> rfl
theorem noLists_drop : ∀ (n : Nat) {l : List PyData}, noLists l = true → noLists (l.drop n) = true
  | 0, l, h => h
  | n + 1, [], h => h
  | n + 1, d :: l, h => by
    simp only [noLists, Bool.and_eq_true] at h
    exact noLists_drop n h.2
theorem join_len {b n : Nat} {pcs : List Str} (h : Few b pcs n) : (Txt.join slash pcs).length ≤ n * (b + 1) := by
  obtain ⟨_, h2, h3⟩ := h
  have h4 := StrLaws.join_length_le slash pcs
  have e := sum_le h3
  have e2 : (Txt.join slash pcs).length = (Str.join slash pcs).length := by
    show (glued slash pcs).length = _
    rw [StrLaws.glued_eq_join]
  rw [e2]
  have h5 : slash.length = 1 := by decide
  rw [h5] at h4
  refine Nat.le_trans h4 (Nat.le_trans (Nat.add_le_add e (Nat.le_refl _)) ?_)
  rw [← Nat.mul_add]
  exact Nat.mul_le_mul_right _ h2
theorem pairs_mem {ps : List (Str × Str)} {d : PyData} (h : d ∈ ps.map pairD) : ∃ p, p ∈ ps ∧ d = .tuple [.str p.1, .str p.2] := by
  obtain ⟨p, hp, rfl⟩ := List.mem_map.mp h
  exact ⟨p, hp, rfl⟩

section
variable {w : World} {mean : ExcName → Option Value} {mg mb : Str → Option Value} {base h₀ : Heap} {L f : Addr} {cd : Value}

set_option maxHeartbeats 4000000 in
theorem law5 {x st en : Str} (U : Outer (XX w mean mg mb) (lawFx base L f cd)) (hx : x.length ≤ 101) (hok : okS x)
    (hst : st ∈ codesL) (hen : EndOk (ls en)) (hen47 : 47 ∉ ls en) (henl : en.length ≤ 20) (heno : okS en) :
    BT (XX w mean mg mb) (lawFx base L f cd) h₀ [(Str.ofString "stops", .list (txts (stopsS x))), (Str.ofString "names", .list (txts (namesS x))), (Str.ofString "path", .str x), (Str.ofString "start", .str st), (Str.ofString "end", .str en)] (lawParts.1.drop 18) (.bool true) := by
  obtain ⟨c1, c2, c3, c4, c5⟩ := code_facts hst
  have hS : (stopsS x).length ≤ 102 := Nat.le_trans (stops_count x) (Nat.succ_le_succ hx)
  have hN : (namesS x).length ≤ 102 := Nat.le_trans (Nat.le_of_eq (names_count x)) hS
  have hdl := db_k (dbl_len x) hx
  have hst1 : (txts (stopsS x)).length ≤ sizeLine := ll_k (mp_k hS) rfl
  have hst2 : (txts (namesS x)).length ≤ sizeLine := ll_k (mp_k hN) rfl
  have hM4 := M4 (x := x) hst hen hen47
  have hM5 := M5 (x := x) hst hen hen47
  have hM6 := M6 (x := x) hst hen hen47
  have hyl : (st ++ dbl x ++ en).length ≤ 322 := ap_k (ap_k c3 hdl) henl
  have hcl := climbL_len (st ++ dbl x ++ en) (stopsS x).length
  have hcn := climbL_length (st ++ dbl x ++ en) (stopsS x).length
  refine' bt_assign (d1 := .list ((climbL (st ++ dbl x ++ en) (stopsS x).length).map pairD)) (sees_call (n := 3) rfl (by decide) rfl rfl (by show 3 ≤ 10; decide) (fn_climb (n := 0) (x := st ++ dbl x ++ en) (m := (stopsS x).length) (le_k hyl rfl) (le_k hS rfl))
    (sees_cons (sees_add_str (sees_add_str (by exact sees_name rfl (by decide)) (sees_call1 (by exact sees_name rfl (by decide)) (fn_doubled (n := 0) (le_k hx rfl)) (by show 1 ≤ 10; decide) rfl (by decide) rfl rfl fun _ => rfl) ?a1) (by exact sees_name rfl (by decide)) ?a2) (sees_cons (sees_is (sees_len_list (by exact sees_name rfl (by decide)) hst1 rfl rfl fun _ => rfl) ?a3) sees_nil fun _ => rfl) fun _ => rfl) (fun _ => rfl) (fun _ _ => rfl)) (.inl rfl) rfl ?_
  case a1 => exact sz_k (Nat.add_le_add c3 hdl) rfl
  case a2 => exact sz_k (Nat.add_le_add (ap_k c3 hdl) henl) rfl
  case a3 => rw [txts_length]
  generalize hpr : climbL (st ++ dbl x ++ en) (stopsS x).length = prs at *
  have hpz : (prs.map pairD).length ≤ sizeLine := ll_k (mp_k (Nat.le_trans (Nat.le_of_eq hcn) hS)) rfl
  have hds : (txts ((stopsS x).drop 1)).length ≤ sizeLine := ll_k (mp_k (dr_k hS)) rfl
  have hso : ∀ s ∈ (stopsS x).drop 1, okS s ∧ s.length ≤ 101 := fun s hs => ⟨okS_stops hok (List.mem_of_mem_drop hs), Nat.le_trans (stops_len_le (List.mem_of_mem_drop hs)) hx⟩
  refine' bt_assign (d1 := .list (((stopsS x).drop 1).map (fun s => PyData.tuple (due st s (Str.ofString ""))) ++ [.tuple [.str (Str.ofString ""), .str (Str.ofString "refused"), .str (Str.ofString "")]]))
    (sees_add_list (sees_is (c := .list (((stopsS x).drop 1).map fun s => PyData.tuple (due st s (Str.ofString "")))) (sees_comp (ds := txts ((stopsS x).drop 1)) (p := fun _ => true) (f := fun d => .tuple (due st (strOf d) (Str.ofString ""))) (bs := fun d => [(Str.ofString "stop", d)]) (σ := [(Str.ofString "start", .str st)])
      rfl (scOk_of rfl) (fun _ => rfl) (iter_list (sees_is (sees_slice_list (by exact sees_name rfl (by decide)) (part_some sees_int) part_none hst1) ?b3) (.inl fun _ _ => rfl)) hds (capt_cons rfl rfl rfl rfl capt_nil) ?b4 ?b5 (elt_of ?b6 ?b7)) ?b8)
      (sees_list (sees_cons (sees_tuple (cons_str (cons_str (cons_str sees_nil)))) sees_nil fun _ => rfl)) ?b9) (.inl rfl) rfl ?_
  case b3 => rw [txts_pk, show (some (1 : Int)) = some ((1 : Nat) : Int) from rfl, pk_from]
  case b4 => exact fun C d hd => bd_name rfl rfl
  case b5 => exact fun C d hd => tests_nil
  case b6 =>
    intro C d hd _
    obtain ⟨s, hs, rfl⟩ := txts_mem hd
    obtain ⟨_, hsl⟩ := hso s hs
    show Sees _ _ _ _ (.tuple (due st s (Str.ofString "")))
    exact sees_call (n := 2) rfl (by decide) rfl rfl (by show 2 ≤ 10; decide) (fn_due (n := 0) c3 (le_k hsl rfl) (le_k (db_k (dbl_len s) hsl) rfl) (by decide)) (cons_name (by exact sees_name rfl (by decide)) (cons_name (by exact sees_name rfl (by decide)) (cons_str sees_nil))) (fun _ => rfl) (fun _ _ => rfl)
  case b7 => intro d hd _; exact noList_due _ _ _
  case b8 => rw [List.filter_eq_self.mpr fun _ _ => rfl, txts, List.map_map]; rfl
  case b9 => exact sz_k (Nat.add_le_add (mp_k (dr_k hS)) (Nat.le_refl 1)) rfl
  have hD4 : SeqAt.shaped (.list (((stopsS x).drop 1).map (fun s => PyData.tuple (due st s (Str.ofString ""))) ++ [.tuple [.str (Str.ofString ""), .str (Str.ofString "refused"), .str (Str.ofString "")]])) = true := by
    refine shaped_tuples fun d hd => ?_
    rcases List.mem_append.mp hd with hd | hd
    · obtain ⟨s, hs, rfl⟩ := List.mem_map.mp hd
      exact ⟨_, rfl, okD_due (okS_code hst) (hso s hs).1 okS_empty⟩
    · simp at hd
      subst hd
      refine ⟨_, rfl, fun c hc => ?_⟩
      simp at hc
      rcases hc with rfl | rfl | rfl
      · exact ⟨_, rfl, okS_empty⟩
      · exact ⟨_, rfl, fun c hc => by revert c; decide⟩
      · exact ⟨_, rfl, okS_empty⟩
  have htgt : ∀ d ∈ prs.map pairD, ∃ xs, d = .tuple xs := fun d hd => by obtain ⟨p, _, rfl⟩ := pairs_mem hd; exact ⟨_, rfl⟩
  refine' bt_skipS U (testsS_is (testsS_cmp (cmp_ne hD4 hD4) (seesS_is (seesS_comp (ds := prs.map pairD) (p := fun _ => true) (f := fun d => .tuple (readL (fstD d))) (bs := fun d => [(Str.ofString "head", .str (fstD d)), (Str.ofString "tail", .str (sndD d))]) (σ := [])
      rfl (scOk_of rfl) (fun _ => rfl) (iter_list (by exact sees_name rfl (by decide)) (.inr ⟨⟨_, _, _, rfl⟩, htgt⟩)) hpz capt_nil ?d3 ?d4 ?d5 ?d6) ?d7) (seesS_of (by exact sees_name rfl (by decide))) rfl) (strict_of_eqv hD4)) ?_
  case d3 =>
    intro C d hd
    obtain ⟨p, hp, rfl⟩ := pairs_mem hd
    exact bd_pair rfl rfl (by decide) rfl
  case d4 => exact fun C d hd => tests_nil
  case d5 =>
    intro C d hd _
    obtain ⟨p, hp, rfl⟩ := pairs_mem hd
    have h1 := (hcl p hp).1
    show SeesS _ _ _ _ (.tuple (readL p.1))
    exact seesS_call1 (by exact sees_name rfl (by decide)) (fn_read (n := 0) (le_k (Nat.le_trans h1 hyl) rfl)) (by show 2 ≤ 10; decide) rfl (by decide) rfl rfl fun _ => rfl
  case d6 => intro d hd _; exact noList_read _
  case d7 =>
    rw [List.filter_eq_self.mpr fun _ _ => rfl, List.map_map, ← hM4, List.map_map]
    rfl
  have hnr : ∀ k, k < (namesS x).length → (txts (namesS x))[at? (txts (namesS x)).length (-1 - (k : Int))]? = some (.str ((namesS x).reverse.getD k Str.empty)) := fun k hk => by
    rw [txts_length, at?_back hk, txts_get (back_lt hk), List.getD_eq_getElem?_getD, List.getD_eq_getElem?_getD, List.getElem?_reverse hk]
  have hnm : ∀ k, ((namesS x).reverse.getD k Str.empty).length ≤ 101 ∧ okS ((namesS x).reverse.getD k Str.empty) := fun k => by
    rw [List.getD_eq_getElem?_getD]
    cases e : (namesS x).reverse[k]? with
    | none => exact ⟨Nat.zero_le _, fun c hc => by cases hc⟩
    | some s =>
      have hm := List.mem_reverse.mp (List.mem_of_getElem? e)
      exact ⟨Nat.le_trans (names_len_le hm) hx, okS_names hok hm⟩
  refine' bt_comp (ds := rangeD 0 1 (namesS x).length) (p := fun _ => true) (f := fun d => .tuple ((due st ((namesS x).reverse.getD (kOf d) Str.empty) (if kOf d = 0 then en else Str.ofString "")).drop 1)) (bs := fun d => [(Str.ofString "k", d)])
    (σ := [(Str.ofString "start", .str st), (Str.ofString "names", .list (txts (namesS x))), (Str.ofString "end", .str en)]) rfl rfl rfl (scOk_of rfl) (fun _ => rfl)
    (iter_range rfl rfl (sees_is (sees_len_list (by exact sees_name rfl (by decide)) hst2 rfl rfl fun _ => rfl) ?e3) ?e4 (fun _ _ => rfl) fun _ => rfl) ?e5 (capt_cons rfl rfl rfl rfl (capt_cons rfl rfl rfl rfl (capt_cons rfl rfl rfl rfl capt_nil))) ?e6 ?e7 (elt_of ?e8 ?e9)
    (dl := .list ((List.range (namesS x).length).map (fun k => PyData.tuple ((due st ((namesS x).reverse.getD k Str.empty) (if k = 0 then en else Str.ofString "")).drop 1)))) ?e10 ?_
  case e3 => rw [txts_length]
  case e4 => exact sz_k hN rfl
  case e5 => exact ll_k (mp_k (Nat.le_trans (Nat.le_of_eq List.length_range) hN)) rfl
  case e6 => exact fun C d hd => bd_name rfl rfl
  case e7 => exact fun C d hd => tests_nil
  case e8 =>
    intro C d hd _
    obtain ⟨k, hk, rfl⟩ := rangeD_mem hd
    obtain ⟨n1, _⟩ := hnm k
    have h1 := db_k (dbl_len ((namesS x).reverse.getD k Str.empty)) n1
    have hif : (if k = 0 then en else Str.ofString "").length ≤ 100 := by split; exact le_k henl rfl; exact Nat.zero_le _
    show Sees _ _ _ _ (.tuple ((due st ((namesS x).reverse.getD k Str.empty) (if k = 0 then en else Str.ofString "")).drop 1))
    refine' sees_slice_tuple (i := 1) (sees_call (n := 2) rfl (by decide) rfl rfl (by show 2 ≤ 10; decide) (fn_due (n := 0) c3 ?x1 ?x2 hif) (cons_name (by exact sees_name rfl (by decide)) (sees_cons (sees_item_list (k := -1 - (k : Int)) (by exact sees_name rfl (by decide)) (sees_sub_int (sees_neg sees_int) (by exact sees_name rfl (by decide))) (hnr k hk) ?x3 hst2 fun _ _ _ => rfl)
      (sees_cons (sees_ite (tests_of (by exact sees_name rfl (by decide)) rfl fun _ _ => rfl) ?x4 ?x5) sees_nil fun _ => rfl) fun _ => rfl)) (fun _ => rfl) (fun _ _ => rfl)) sees_int (Nat.le_refl _) ?x6 ?x7
    case x1 => exact le_k n1 rfl
    case x2 => exact le_k h1 rfl
    case x3 => rw [txts_length]; exact lo_neg hk
    case x4 =>
      intro hb
      have hk0 : k ≠ 0 := by
        have : ((k : Int) != 0) = true := hb
        simpa using this
      rw [if_neg hk0]; exact sees_str
    case x5 =>
      intro hb
      have hk0 : k = 0 := by
        have : ((k : Int) != 0) = false := hb
        simpa using this
      rw [if_pos hk0]; exact sees_name rfl (by decide)
    case x6 => rw [due_len]; decide
    case x7 => rw [due_len, sizeLine_eq]; exact Nat.le_of_ble_eq_true rfl
  case e9 => intro d hd _; exact noLists_drop 1 (noList_due _ _ _)
  case e10 => exact congrArg PyData.list ((rangeD_comp (fun _ => true) fun k => PyData.tuple ((due st ((namesS x).reverse.getD k Str.empty) (if k = 0 then en else Str.ofString "")).drop 1)).trans (by rw [List.filter_eq_self.mpr fun _ _ => rfl]))
  refine' bt_comp (ds := prs.map pairD) (p := fun _ => true) (f := fun d => .str (sndD d)) (bs := fun d => [(Str.ofString "head", .str (fstD d)), (Str.ofString "tail", .str (sndD d))]) (σ := [])
    rfl rfl rfl (scOk_of rfl) (fun _ => rfl) (iter_list (by exact sees_name rfl (by decide)) (.inr ⟨⟨_, _, _, rfl⟩, htgt⟩)) hpz capt_nil ?f3 ?f4 (elt_of ?f5 ?f6) (dl := .list (txts (prs.map (·.2)))) ?f7 ?_
  case f3 =>
    intro C d hd
    obtain ⟨p, hp, rfl⟩ := pairs_mem hd
    exact bd_pair rfl rfl (by decide) rfl
  case f4 => exact fun C d hd => tests_nil
  case f5 =>
    intro C d hd _
    obtain ⟨p, hp, rfl⟩ := pairs_mem hd
    exact sees_name rfl (by decide)
  case f6 => intro d hd _; rfl
  case f7 => rw [List.filter_eq_self.mpr fun _ _ => rfl, List.map_map, txts, List.map_map]; rfl
  have htl : ∀ t ∈ prs.map (·.2), t.length ≤ 322 := fun t ht => by
    obtain ⟨p, hp, rfl⟩ := List.mem_map.mp ht
    exact Nat.le_trans (hcl p hp).2 hyl
  have htn : (prs.map (·.2)).length = (stopsS x).length := by rw [List.length_map, hcn]
  have hsp : 0 < (stopsS x).length := Nat.succ_pos _
  generalize htt : prs.map (·.2) = tails at *
  have hne : tails ≠ [] := fun q => by rw [q] at htn; exact absurd hsp (by rw [← htn]; exact Nat.lt_irrefl 0)
  have htT : tails.length ≤ 102 := Nat.le_trans (Nat.le_of_eq htn) hS
  have htz : (txts tails).length ≤ sizeLine := ll_k (mp_k htT) rfl
  have hlast : tails.getLast? = some (tails.getLastD Str.empty) := by rw [List.getLastD_eq_getLast?, List.getLast?_eq_some_getLast hne]; rfl
  have hll : (tails.getLastD Str.empty).length ≤ 322 := htl _ (List.mem_of_getLast? hlast)
  have hD5 : SeqAt.shaped (.list ((List.range (namesS x).length).map (fun k => PyData.tuple ((due st ((namesS x).reverse.getD k Str.empty) (if k = 0 then en else Str.ofString "")).drop 1)))) = true := by
    refine shaped_tuples fun d hd => ?_
    obtain ⟨k, _, rfl⟩ := List.mem_map.mp hd
    refine ⟨_, rfl, fun c hc => okD_due (okS_code hst) (hnm k).2 ?_ c (List.mem_of_mem_drop hc)⟩
    split
    · exact heno
    · exact okS_empty
  have htD : tails.dropLast.length ≤ 102 := by rw [List.length_dropLast]; exact Nat.le_trans (Nat.sub_le _ _) htT
  have hdz : (txts tails.dropLast).length ≤ sizeLine := ll_k (mp_k htD) rfl
  refine' bt_skipS U (testsS_is (testsS_cmp (cmp_ne hD5 hD5) (seesS_is (seesS_bin (bin_add_list ?g0) (seesS_is (c := .list (tails.dropLast.map fun t => PyData.tuple ((readL (st ++ t)).drop 1))) (seesS_comp (ds := txts tails.dropLast) (p := fun _ => true) (f := fun d => .tuple ((readL (st ++ strOf d)).drop 1)) (bs := fun d => [(Str.ofString "tail", d)]) (σ := [(Str.ofString "start", .str st)])
      rfl (scOk_of rfl) (fun _ => rfl) (iter_list (sees_is (sees_slice_list (by exact sees_name rfl (by decide)) part_none (part_some (sees_neg sees_int)) htz) ?g3) (.inl fun _ _ => rfl)) hdz (capt_cons rfl rfl rfl rfl capt_nil) ?g4 ?g5 ?g6 ?g7) ?g8)
      (seesS_list1 (d := .tuple ((readL (tails.getLastD Str.empty)).drop 1)) (seesS_slice_tuple (i := 1) (seesS_call1 (sees_item_list (k := -1) (d := .str (tails.getLastD Str.empty)) (by exact sees_name rfl (by decide)) (sees_neg sees_int) ?h1 ?h2 htz fun _ _ _ => rfl) (fn_read (n := 0) (le_k hll rfl)) (by show 2 ≤ 10; decide) rfl (by decide) rfl rfl fun _ => rfl) sees_int (Nat.le_refl _) ?h3 ?h4) fun _ => rfl)) ?h5) (seesS_of (by exact sees_name rfl (by decide))) rfl) (strict_of_eqv hD5)) ?_
  case g0 => exact sz_k (Nat.add_le_add (mp_k htD) (Nat.le_refl 1)) rfl
  case g3 => exact congrArg PyData.list ((txts_pk tails none (some (-1))).trans (by rw [pk_init]))
  case g4 => exact fun C d hd => bd_name rfl rfl
  case g5 => exact fun C d hd => tests_nil
  case g6 =>
    intro C d hd _
    obtain ⟨t, ht, rfl⟩ := txts_mem hd
    have h1 := htl t (List.dropLast_subset _ ht)
    show SeesS _ _ _ _ (.tuple ((readL (st ++ t)).drop 1))
    refine seesS_slice_tuple (i := 1) (seesS_call1 (sees_add_str (by exact sees_name rfl (by decide)) (by exact sees_name rfl (by decide)) (sz_k (Nat.add_le_add c3 h1) rfl)) (fn_read (n := 0) (le_k (ap_k c3 h1) rfl)) (by show 2 ≤ 10; decide) rfl (by decide) rfl rfl fun _ => rfl) sees_int (Nat.le_refl _) (by rw [readL_len]; decide) (by rw [readL_len, sizeLine_eq]; exact Nat.le_of_ble_eq_true rfl)
  case g7 => intro d hd _; exact noLists_drop 1 (noList_read _)
  case g8 => rw [List.filter_eq_self.mpr fun _ _ => rfl, txts, List.map_map]; rfl
  case h1 => rw [at?_neg, txts_length, txts, List.getElem?_map, ← List.getLast?_eq_getElem?, hlast]; rfl
  case h2 => rw [txts_length]; exact lo_neg (k := 0) (Nat.lt_of_lt_of_eq hsp htn.symm)
  case h3 => rw [readL_len]; decide
  case h4 => rw [readL_len, sizeLine_eq]; exact Nat.le_of_ble_eq_true rfl
  case h5 => exact congrArg PyData.list hM5
  have hfew : Few 101 (namesS x) 102 := ⟨names_ne, hN, fun s hs => Nat.le_trans (names_len_le hs) hx⟩
  have hjn := join_len hfew
  have hjd := db_k (dbl_len (Txt.join slash (namesS x))) hjn
  have htot : tot tails.reverse ≤ 100000 := by
    have h1 := tot_le (b := 322) (l := tails.reverse) fun t ht => htl t (List.mem_reverse.mp ht)
    exact le_k (Nat.le_trans h1 (Nat.mul_le_mul_right _ (by rw [List.length_reverse]; exact htT))) rfl
  refine' bt_ret (sees_is (sees_cmp (cmp_eq_str (x := joinL tails.reverse) (y := st ++ dbl (Txt.join slash (namesS x)) ++ en)) (sees_call_star (n := 2) rfl (by decide) rfl rfl (by show 2 ≤ 10; decide) (fn_joinL (n := 0) ?i1 htot) (sees_is (sees_rev_list (by exact sees_name rfl (by decide)) (sees_neg sees_int) htz) ?i2) ?i3)
    (sees_add_str (sees_add_str (by exact sees_name rfl (by decide)) (sees_call1 (sees_join (x := slash) (ys := namesS x) (joinOk_few hfew (by decide)) sees_str (by exact sees_name rfl (by decide)) (fun _ => rfl) (fun _ => rfl) rfl) (fn_doubled (n := 0) (le_k hjn rfl)) (by show 1 ≤ 10; decide) rfl (by decide) rfl rfl fun _ => rfl) ?i4) (by exact sees_name rfl (by decide)) ?i5) rfl) ?i6)
  case i1 => simpa using hne
  case i2 => exact congrArg PyData.list (txts_rev _)
  case i3 => exact ll_k (mp_k (by rw [List.length_reverse]; exact htT)) rfl
  case i4 => exact sz_k (Nat.add_le_add c3 hjd) rfl
  case i5 => exact sz_k (Nat.add_le_add (ap_k c3 hjd) henl) rfl
  case i6 => rw [hM6]; simp
end
end Mine
end

noncomputable section
open PySem PySem.W PyProof.Rows Builtin.Str
set_option maxRecDepth 100000
namespace Mine

theorem cells_facts : ∀ (names : List (Str × NameKind)) (n : Nat) (acc : List (Str × Addr)), (∀ y ∈ acc, y.2 < n) → (acc.Pairwise fun x y => x.2 ≠ y.2) →
    ((cellsFrom n names acc).Pairwise fun x y => x.2 ≠ y.2) ∧ ∀ y ∈ cellsFrom n names acc, y ∈ acc ∨ n ≤ y.2
  | [], n, acc, h1, h2 => ⟨h2, fun y hy => .inl hy⟩
  | (nm, kind) :: r, n, acc, h1, h2 => by
    unfold cellsFrom
    split
    · obtain ⟨a, b⟩ := cells_facts r (n + 1) ((nm, n) :: acc) (fun y hy => by
        rcases List.mem_cons.mp hy with rfl | hy
        · exact Nat.lt_succ_self _
        · exact Nat.lt_succ_of_lt (h1 y hy)) (List.pairwise_cons.mpr ⟨fun y hy e => Nat.ne_of_lt (h1 y hy) e.symm, h2⟩)
      refine ⟨a, fun y hy => ?_⟩
      rcases b y hy with h | h
      · rcases List.mem_cons.mp h with rfl | h
        · exact .inr (Nat.le_refl _)
        · exact .inl h
      · exact .inr (by omega)
    · exact cells_facts r n acc h1 h2

section
variable {w : World} {mean : ExcName → Option Value} {mg mb : Str → Option Value} {h₀ h₁ : Heap} {f : Addr} {cd : Value}

theorem law_own (KX : (hd.heap_39 w.params).In h₀) (T : Top hd.view_39 (looseW hd.view_39 []) mean mg mb h₀) : Own (XX w mean mg mb) (lawFx h₀ h₀.objs.size f cd) h₀ := by
  obtain ⟨c1, c2⟩ := cells_facts lawParts.2.names (h₀.objs.size + 1) [] (fun y hy => by cases hy) .nil
  refine ⟨⟨rfl, ?_, ?_, rfl, rfl, rfl⟩, ⟨KX, T⟩, rfl, ⟨[], rfl, trivial⟩, stays_refl _, rfl, Nat.le_refl _, c1, fun n c hm => ?_⟩
  · show 1 + claimMargin + 1 + 10 < recursionLimit
    decide
  · show 4 + 3 + 8 * 10 + 200 < cLine
    decide
  · rcases c2 _ hm with h | h
    · cases h
    · exact h
theorem law_outer (KX : (hd.heap_39 w.params).In h₀) (T : Top hd.view_39 (looseW hd.view_39 []) mean mg mb h₀) : Outer (XX w mean mg mb) (lawFx h₀ h₀.objs.size f cd) := ⟨rfl, KX, T⟩
theorem rd_ints {h : Heap} : ∀ {vs : List Value} {xs : List Int}, IntsAre vs xs → RdL h vs (nums xs)
  | _, _, .nil => .nil
  | _, _, .cons n t r => .cons (.int n t) (rd_ints r)
theorem cells_are {cm : Str → Option Value} {cs : List (Str × Addr)} {cells : List (Addr × Obj)} (X : CellsAre cm cs cells) (N : ∀ p ∈ cells, h₁.get? p.1 = some p.2) : ∀ n c, (n, c) ∈ cs → ∃ v, h₁.IsCell c v := by
  induction X with
  | nil => intro n c h; cases h
  | cons hd _ ih =>
    intro n c h
    rcases List.mem_cons.mp h with e | h
    · cases e; exact ⟨_, _, N _ List.mem_cons_self, hd⟩
    · exact ih (fun p hp => N p (List.mem_cons_of_mem _ hp)) n c h
theorem law_act {m cm : Str → Option Value} {cells : List (Addr × Obj)} {l : Addr} {vs : List Value} {xs : List Int} (F : Fr h₀ h₀.objs.size h₁ m) (X : CellsAre cm (cellsFrom (h₀.objs.size + 1) lawParts.2.names []) cells) (N : News h₀ h₀.objs.size h₁ cells)
    (hm : m (Str.ofString "script") = some (.ref l)) (hL : h₀.IsList l vs.toArray) (hI : IntsAre vs xs) : Act (XX w mean mg mb) (lawFx h₀ h₀.objs.size f cd) h₀ [(Str.ofString "script", .list (nums xs))] h₁ := by
  refine ⟨F.keep, ⟨_, F.ns⟩, cells_are X fun p hp => (N p hp).1, fun x d e => ?_⟩
  rw [List.lookup_cons] at e
  cases hx : x == Str.ofString "script" with
  | false => rw [hx] at e; cases e
  | true =>
    rw [hx] at e
    cases e
    have : x = Str.ofString "script" := beq_iff_eq.mp hx
    subst this
    refine ⟨.ref l, .inl ⟨rfl, m, F.ns, hm⟩, Rd.of_list (hL.at fun o e => F.keep _ o e) ?_⟩
    simpa using rd_ints hI
theorem law_body {xs : List Int} (U : Outer (XX w mean mg mb) (lawFx h₀ h₀.objs.size f cd)) (hl : xs.length ≤ 63) : BT (XX w mean mg mb) (lawFx h₀ h₀.objs.size f cd) h₀ [(Str.ofString "script", .list (nums xs))] lawParts.1 (.bool true) := by
  refine law1 hl ?_
  have hdl := drOf_len xs
  have hlen : (partsOf xs).length ≤ 5 := by unfold partsOf; rw [List.length_map]; exact hdl
  have hp3 : ∀ x ∈ partsOf xs, x.length ≤ 3 ∧ okS x := fun x hx => by
    obtain ⟨k, _, rfl⟩ := List.mem_map.mp hx
    exact ⟨part_len k, okS_part k⟩
  obtain ⟨a, bs, hab⟩ : ∃ a bs, partsOf xs = a :: bs := by
    cases h : partsOf xs with
    | nil => exact absurd (List.map_eq_nil_iff.mp h) (drOf_ne xs)
    | cons a bs => exact ⟨a, bs, rfl⟩
  rw [hab] at hlen hp3 ⊢
  obtain ⟨e1, e2, e3, e4⟩ := endOf_facts (drOf xs)
  have hs := startOf_mem (drOf xs)
  have hok : ∀ x ∈ a :: bs, okS x := fun x hx => (hp3 x hx).2
  refine law2 hdl (le_k hlen rfl) (fun x hx => Nat.le_trans (hp3 x hx).1 (by decide)) M1 ?_
  refine law3 U hlen (fun x hx => (hp3 x hx).1) hok hs e1 e2 e3 e4 ?_
  have hpl := (pathOf_len hlen fun x hx => (hp3 x hx).1).2
  exact law4 hpl (okS_path hok) (law5 U hpl (okS_path hok) hs e1 e2 e3 e4)
/-- the call, from its frame on -/
theorem law_run {m cm : Str → Option Value} {cells : List (Addr × Obj)} {l : Addr} {vs : List Value} {xs : List Int} (KX : (hd.heap_39 w.params).In h₀) (T : Top hd.view_39 (looseW hd.view_39 []) mean mg mb h₀)
    (F : Fr h₀ h₀.objs.size h₁ m) (X : CellsAre cm (cellsFrom (h₀.objs.size + 1) lawParts.2.names []) cells) (N : News h₀ h₀.objs.size h₁ cells)
    (hm : m (Str.ofString "script") = some (.ref l)) (hL : h₀.IsList l vs.toArray) (hI : IntsAre vs xs) (hlen : xs.length ≤ 63) {g : Array GenState} {dr : Drawn} {tk : Nat} {os : OsState} {Q : Flow → Shared → Prop} {E : Value → Shared → Prop}
    (hQ : ∀ h' tk', h₀.StaysIn h' → Q (.ret (.bool true)) { heap := h', gens := g, drawn := dr, toks := tk', os := os }) :
    wpAny (model PySem.Challenge.rw_pd0127_01.row.prog w) (callerA.deeper (lawEnv h₀.objs.size f cd)) (execs lawParts.1 (lawEnv h₀.objs.size f cd)) Q E { heap := h₁, gens := g, drawn := dr, toks := tk, os := os } := by
  have O : Own (XX w mean mg mb) (lawFx h₀ h₀.objs.size f cd) h₀ := law_own KX T
  have A : Act (XX w mean mg mb) (lawFx h₀ h₀.objs.size f cd) h₀ [(Str.ofString "script", .list (nums xs))] h₁ := law_act F X N hm hL hI
  refine (law_body (law_outer KX T) hlen).run O _ Q E A fun v h' tk' k r => ?_
  have := r.bool_inv
  subst this
  exact hQ h' tk' (O.stay A.keep k)
end
end Mine
end

open PySem PySem.W PyProof.Rows
set_option maxRecDepth 100000 in
set_option maxHeartbeats 8000000 in
theorem PySem.Challenge.cw_pd0127_01_holds : PySem.Challenge.rw_pd0127_01.Holds := by
  refine Mine.hd ?_
  k_go0
  (all_goals try k_fold)
  (rename Heap.IsList _ _ _ => hLl)
  (rename IntsAre _ _ => hIi)
  (rename Fr _ _ _ _ => hFf)
  (rename CellsAre _ _ _ => hXx)
  (rename News _ _ _ _ => hNn)
  (rename Frag.In _ _ => hKk)
  (rename Top _ _ _ _ _ _ => hTt)
  (rename (¬ ((63 : Nat) : Int) < _) => hcc)
  refine Mine.law_run hKk hTt hFf hXx hNn rfl hLl hIi (by omega) fun h' tk' k => ?_
  exact ⟨.inl ⟨_, .bool true, [], rfl, fun cls => rfl, .bool true, postW_of rfl (w_eq_bool (w_res rfl) w_lit) rfl, unshared_nil⟩, k, rfl, by assumption⟩

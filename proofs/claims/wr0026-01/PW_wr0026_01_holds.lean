import PyProof.Rows.All
import Wide.All
import OpenK.AllK
import Wide.FinOn
import PySem.Challenge.RW_wr0026_01
set_option Elab.async false
set_option linter.all false
set_option maxRecDepth 100000

section
open PySem PySem.W PyProof.Rows PySem.Spec
namespace Mine

/-! small arithmetic, proved once -/
theorem ar_step {n i : Nat} (h : i < n) : n + 1 - (i + 1) < n + 1 - i := Nat.sub_lt_sub_left (Nat.lt_succ_of_lt h) (Nat.lt_succ_self i)
theorem ar_max0 (c s : Nat) : max (0 : Int) ((c : Int) - (s : Int)) = ((c - s : Nat) : Int) := by
  rcases Nat.le_total s c with h | h
  · rw [Int.natCast_sub h]; exact Int.max_eq_right (Int.sub_nonneg_of_le (Int.ofNat_le.mpr h))
  · rw [Nat.sub_eq_zero_of_le h]; exact Int.max_eq_left (Int.sub_nonpos_of_le (Int.ofNat_le.mpr h))
theorem cast_min (a b : Nat) : min (a : Int) (b : Int) = ((min a b : Nat) : Int) := by
  rcases Nat.le_total a b with h | h
  · rw [Nat.min_eq_left h, Int.min_eq_left (Int.ofNat_le.mpr h)]
  · rw [Nat.min_eq_right h, Int.min_eq_right (Int.ofNat_le.mpr h)]
theorem cast_max (a b : Nat) : max (a : Int) (b : Int) = ((max a b : Nat) : Int) := by
  rcases Nat.le_total a b with h | h
  · rw [Nat.max_eq_right h, Int.max_eq_right (Int.ofNat_le.mpr h)]
  · rw [Nat.max_eq_left h, Int.max_eq_left (Int.ofNat_le.mpr h)]
theorem ar_min {c n s : Nat} (h : s ≤ n) : min (c : Int) ((n : Int) - (s : Int)) = ((min c (n - s) : Nat) : Int) := by
  rw [← Int.natCast_sub h]; exact cast_min c (n - s)
theorem ar_min' {c n s : Nat} (h : s ≤ n) : min ((n : Int) - (s : Int)) (c : Int) = ((min (n - s) c : Nat) : Int) := by
  rw [← Int.natCast_sub h]; exact cast_min (n - s) c
theorem ar_max1 {p : Nat} (h : 1 ≤ p) : max (1 : Int) ((p : Int) - 1) = ((max 1 (p - 1) : Nat) : Int) := by
  rw [show ((p : Int) - 1) = ((p - 1 : Nat) : Int) from (Int.natCast_sub h).symm]; exact cast_max 1 (p - 1)
theorem ar_maxm1 (p : Nat) : max (p : Int) 1 = ((max p 1 : Nat) : Int) := cast_max p 1
theorem ar_len2 {α : Type} {x : List α} {n : Nat} (h : x.length ≤ n) (a b : Nat) : (x.take a).length + (x.drop b).length ≤ n + n :=
  Nat.add_le_add (Nat.le_trans (List.length_take_le' a x) h) (Nat.le_trans (by rw [List.length_drop]; exact Nat.sub_le _ _) h)
theorem ar_take {α : Type} {x : List α} {n : Nat} (h : x.length ≤ n) (a : Nat) : (x.take a).length ≤ n := Nat.le_trans (List.length_take_le' a x) h
theorem ar_drop {α : Type} {x : List α} {n : Nat} (h : x.length ≤ n) (a : Nat) : (x.drop a).length ≤ n := Nat.le_trans (by rw [List.length_drop]; exact Nat.sub_le _ _) h
theorem ar_appS {α : Type} {x y : List α} {a b c : Nat} (h : x.length ≤ a) (h' : y.length ≤ b) (hc : a + b ≤ c) : (x ++ y).length ≤ c := by
  rw [List.length_append]; exact Nat.le_trans (Nat.add_le_add h h') hc
theorem ar_pred {n k : Nat} (h : k + 1 ≤ n) : n - k = n - (k + 1) + 1 := (Nat.sub_add_cancel (Nat.sub_pos_of_lt h)).symm
theorem ar_back {T j n : Nat} (hj : j ≤ T) (h : T - j = n + 1) : T - (n + 1) = j := by rw [← h, Nat.sub_sub_self hj]
theorem ar_next {T j n : Nat} (h : T - j = n + 1) : T - (j + 1) = n := by rw [Nat.sub_add_eq, h]; rfl
theorem ar_sized (s r : Nat) : max (0 : Int) (((s - r + 1 : Nat) : Int) - 1) = ((s - r : Nat) : Int) := ar_max0 (s - r + 1) 1
theorem ar_lo (n : Nat) : (-1000 : Int) ≤ (n : Int) := Int.le_trans (by decide) (Int.natCast_nonneg n)
theorem ar_hi {n : Nat} {m : Nat} (h : n ≤ m) : (n : Int) ≤ (m : Int) := Int.ofNat_le.mpr h
theorem ar_toNat (j : Nat) : (max (0 : Int) (j : Int)).toNat = j := by rw [Int.max_eq_right (Int.natCast_nonneg j), Int.toNat_natCast]
theorem ar_one (j : Nat) : (1 : Int) + (j : Int) = ((j + 1 : Nat) : Int) := Int.add_comm 1 (j : Int)
theorem ar_zero (j : Nat) : ((0 : Int) + (j : Int)) = (j : Int) := Int.zero_add _
theorem ar_hi5 {n : Nat} (h : n ≤ 100000) : (n : Int) ≤ 100000 := Int.ofNat_le.mpr h
theorem ar_bnds {m : Nat} (h : m ≤ 100000) : (-1000 : Int) ≤ 1 ∧ (1 : Int) ≤ 100000 ∧ (-1000 : Int) ≤ (m : Int) ∧ (m : Int) ≤ 100000 := ⟨by decide, by decide, ar_lo m, ar_hi5 h⟩
theorem ar_span (n : Nat) : max (0 : Int) ((n : Int) + 1 - 1) = (n : Int) := by rw [Int.add_sub_cancel]; exact Int.max_eq_right (Int.natCast_nonneg n)
theorem ar_nlt {a i n : Nat} (h : ¬ ((a : Int) + (1 + (i : Int)) < (n : Int))) : ¬ a + (i + 1) < n := fun k => h (by rw [Int.add_comm 1]; exact Int.ofNat_lt.mpr k)
theorem ar_lt63 {a n : Nat} (h : a < n) (hn : n ≤ 1000) : (a : Int) < 2 ^ 63 := Int.lt_trans (Int.ofNat_lt.mpr (Nat.lt_of_lt_of_le h hn)) (by decide)
theorem ar_three : ∀ n, n < 3 → n = 0 ∨ n = 1 ∨ n = 2 := by decide

/-! heaps that only grow -/
abbrev Ext (h h' : Heap) : Prop := ∀ b o, h.get? b = some o → h'.get? b = some o
theorem Ext.refl (h : Heap) : Ext h h := fun _ _ e => e
theorem Ext.trans {a b c : Heap} (x : Ext a b) (y : Ext b c) : Ext a c := fun _ _ e => y _ _ (x _ _ e)
theorem keeps_refl (s : Shared) : Keeps s s := ⟨_, _, rfl, fun _ _ e => e⟩
theorem keeps_ext {s s' : Shared} (k : Keeps s s') : Ext s.heap s'.heap := by
  obtain ⟨h, t, rfl, k⟩ := k; exact k
theorem keeps_trans {a b c : Shared} (x : Keeps a b) (y : Keeps b c) : Keeps a c := by
  obtain ⟨h, t, rfl, k⟩ := x; obtain ⟨h', t', rfl, k'⟩ := y
  exact ⟨h', t', rfl, fun _ _ e => k' _ _ (k _ _ e)⟩
theorem keeps_tok {a b : Shared} (x : Keeps a b) (t : Nat) : Keeps a { b with toks := t } := by
  obtain ⟨h, t', rfl, k⟩ := x; exact ⟨h, t, rfl, k⟩
theorem keeps_push {a b : Shared} (x : Keeps a b) (o : Obj) : Keeps a { b with heap := b.heap.push o } := by
  obtain ⟨h, t', rfl, k⟩ := x
  exact ⟨_, _, rfl, fun _ _ e => Heap.get?_push_of_some _ (k _ _ e)⟩
theorem keeps_grown {a b : Shared} (x : Keeps a b) (h' : Heap) (tk : Nat) (k : Ext b.heap h') : Keeps a { b with heap := h', toks := tk } := by
  obtain ⟨h, t', rfl, k₁⟩ := x
  exact ⟨_, _, rfl, fun _ _ e => k _ _ (k₁ _ _ e)⟩

/-! values -/
abbrev S (l : List Nat) : Str := ⟨l.toArray⟩
noncomputable def IsS (l : List Nat) (v : Value) (_ : Heap) : Prop := ∃ t, v = .str (S l) t
noncomputable def IsI (i : Int) (v : Value) (_ : Heap) : Prop := ∃ t, v = .int i t
noncomputable def IsB (b : Bool) (v : Value) (_ : Heap) : Prop := v = .bool b
noncomputable def IsV (x : Value) (v : Value) (_ : Heap) : Prop := v = x
noncomputable def IsL (R : List Value → Prop) (v : Value) (h : Heap) : Prop := ∃ D ys, v = .ref D ∧ h.PlainList D ys.toArray ∧ R ys

theorem S_len (l : List Nat) : (S l).length = l.length := by simp [S, Str.length]
theorem S_app (a b : List Nat) : S a ++ S b = S (a ++ b) := by
  show (⟨a.toArray ++ b.toArray⟩ : Str) = _
  simp [S]

section
variable {prog : Program} {w : World} {A : Around} {env : Env}

/-- e, evaluated at any state whose heap grew from h, comes to a value with P; the heap only grows -/
noncomputable def Ev (prog : Program) (w : World) (A : Around) (env : Env) (e : Expr) (h : Heap) (P : Value → Heap → Prop) : Prop :=
  ∀ s : Shared, Ext h s.heap → 0 < s.toks → wpAny (model prog w) A (eval e env) (fun v s' => Keeps s s' ∧ P v s'.heap) (fun _ _ => False) s

/-- the truth of e -/
noncomputable def Tr (prog : Program) (w : World) (A : Around) (env : Env) (e : Expr) (h : Heap) (b : Bool) : Prop :=
  ∀ s : Shared, Ext h s.heap → 0 < s.toks → wpAny (model prog w) A (PySem.isTrue e env (eval e env)) (fun v s' => Keeps s s' ∧ v = b) (fun _ _ => False) s

/-- a call -/
noncomputable def Cl (prog : Program) (w : World) (A : Around) (f : Value) (args : List Value) (h : Heap) (P : Value → Heap → Prop) : Prop :=
  ∀ s : Shared, Ext h s.heap → 0 < s.toks → wpAny (model prog w) A (call f args) (fun v s' => Keeps s s' ∧ P v s'.heap) (fun _ _ => False) s

variable {e l r : Expr} {h h' : Heap} {P P' : Value → Heap → Prop} {s : Shared} {Q : Value → Shared → Prop} {E : Value → Shared → Prop} {pos : Pos}

theorem Ev.use (H : Ev prog w A env e h P) (hx : Ext h s.heap) (ht : 0 < s.toks)
    (k : ∀ v s', Keeps s s' → Ext h s'.heap → 0 < s'.toks → P v s'.heap → Q v s') : wpAny (model prog w) A (eval e env) Q E s :=
  wpAny_mono (wpAny_toks (H s hx ht)) (fun v s' ⟨t, k1, p⟩ => k v s' k1 (hx.trans (keeps_ext k1)) (Nat.lt_of_lt_of_le ht t) p) (fun _ _ x => x.2.elim)
theorem Tr.use {b : Bool} {Q : Bool → Shared → Prop} (H : Tr prog w A env e h b) (hx : Ext h s.heap) (ht : 0 < s.toks)
    (k : ∀ s', Keeps s s' → Ext h s'.heap → 0 < s'.toks → Q b s') : wpAny (model prog w) A (PySem.isTrue e env (eval e env)) Q E s :=
  wpAny_mono (wpAny_toks (H s hx ht)) (fun v s' ⟨t, k1, p⟩ => p ▸ k s' k1 (hx.trans (keeps_ext k1)) (Nat.lt_of_lt_of_le ht t)) (fun _ _ x => x.2.elim)
theorem Cl.use {f : Value} {args : List Value} (H : Cl prog w A f args h P) (hx : Ext h s.heap) (ht : 0 < s.toks)
    (k : ∀ v s', Keeps s s' → Ext h s'.heap → 0 < s'.toks → P v s'.heap → Q v s') : wpAny (model prog w) A (call f args) Q E s :=
  wpAny_mono (wpAny_toks (H s hx ht)) (fun v s' ⟨t, k1, p⟩ => k v s' k1 (hx.trans (keeps_ext k1)) (Nat.lt_of_lt_of_le ht t) p) (fun _ _ x => x.2.elim)
theorem Ev.up (H : Ev prog w A env e h P) (hx : Ext h h') : Ev prog w A env e h' P := fun s k t => H s (hx.trans k) t
theorem Ev.mono (H : Ev prog w A env e h P) (k : ∀ v h', Ext h h' → P v h' → P' v h') : Ev prog w A env e h P' :=
  fun _ hx ht => H.use hx ht fun _ _ k1 x1 _ p => ⟨k1, k _ _ x1 p⟩

/-! leaves -/
theorem ev_int {i : Int} {k : Nat} : Ev prog w A env (.Constant (.int i) k pos) h (IsI i) :=
  fun s _ _ => wpAny_Constant_int ⟨keeps_tok (keeps_refl s) _, _, rfl⟩
theorem ev_str {x : Str} {l : List Nat} {k : Nat} (e : x = S l := by decide) : Ev prog w A env (.Constant (.str x) k pos) h (IsS l) :=
  fun s _ _ => wpAny_Constant_str ⟨keeps_tok (keeps_refl s) _, _, by rw [e]⟩
theorem ev_bool {b : Bool} {k : Nat} : Ev prog w A env (.Constant (.bool b) k pos) h (IsB b) :=
  fun s _ _ => wpAny_Constant_bool ⟨keeps_refl s, rfl⟩
theorem ev_none {k : Nat} : Ev prog w A env (.Constant .none k pos) h (IsV .none) :=
  fun s _ _ => wpAny_Constant_none ⟨keeps_refl s, rfl⟩

theorem ev_local {x : Str} {m : Str → Option Value} {v : Value} (hn : h.Ns env.locals m) (hv : m x = some v)
    (hk : env.scope.kind = .function := by rfl) (hl : env.kindOf x = some .local := by rfl) (hd : (x == ("__debug__" : Str)) = false := by decide) :
    Ev prog w A env (.Name x pos) h (IsV v) :=
  fun s hx _ => wpAny_Name (wpAny_loadName_local hk hl (hn.keeps hx) hv ⟨keeps_refl s, rfl⟩) hd
theorem ev_cell {x : Str} {c : Addr} {v : Value} (hv : h.IsCell c (some v)) (hc : env.cells.lookup x = some c)
    (hk : env.scope.kind = .function := by rfl) (hl : env.kindOf x = some .cell := by rfl) (hd : (x == ("__debug__" : Str)) = false := by decide) :
    Ev prog w A env (.Name x pos) h (IsV v) :=
  fun s hx _ => wpAny_Name (wpAny_loadName_cell hk hl hc (hv.keeps hx) ⟨keeps_refl s, rfl⟩) hd
theorem ev_free {x : Str} {c : Addr} {v : Value} (hv : h.IsCell c (some v)) (hc : env.cells.lookup x = some c)
    (hk : env.scope.kind = .function := by rfl) (hl : env.kindOf x = some .free := by rfl) (hd : (x == ("__debug__" : Str)) = false := by decide) (hn : (x == ("__classdict__" : Str)) = false := by decide) :
    Ev prog w A env (.Name x pos) h (IsV v) :=
  fun s hx _ => wpAny_Name (wpAny_loadName_free hk hl hc (hv.keeps hx) ⟨keeps_refl s, rfl⟩ hn) hd
theorem ev_global {x : Str} {mg : Str → Option Value} {v : Value} (hg : h.Ns env.globals mg) (hv : mg x = some v)
    (hk : env.scope.kind = .function := by rfl) (hl : env.kindOf x = some .globalImplicit := by rfl) (hd : (x == ("__debug__" : Str)) = false := by decide) :
    Ev prog w A env (.Name x pos) h (IsV v) :=
  fun s hx _ => Calls.Name_function_global hk hl (Calls.loadGlobal_global (hg.keeps hx) hv ⟨keeps_refl s, rfl⟩) hd
theorem ev_builtin {x : Str} {mg mb : Str → Option Value} {v : Value} (hg : h.Ns env.globals mg) (hm : mg x = none) (hb : h.Ns env.builtins mb) (hv : mb x = some v)
    (hk : env.scope.kind = .function := by rfl) (hl : env.kindOf x = some .globalImplicit := by rfl) (hd : (x == ("__debug__" : Str)) = false := by decide) :
    Ev prog w A env (.Name x pos) h (IsV v) :=
  fun s hx _ => Calls.Name_function_global hk hl (Calls.loadGlobal_builtin (hg.keeps hx) hm (hb.keeps hx) hv ⟨keeps_refl s, rfl⟩) hd
theorem Ev.isS {l : List Nat} {t : Tok} (H : Ev prog w A env e h (IsV (.str (S l) t))) : Ev prog w A env e h (IsS l) := H.mono fun _ _ _ p => ⟨t, p⟩
theorem Ev.isI {i : Int} {t : Tok} (H : Ev prog w A env e h (IsV (.int i t))) : Ev prog w A env e h (IsI i) := H.mono fun _ _ _ p => ⟨t, p⟩
theorem Ev.isB {b : Bool} (H : Ev prog w A env e h (IsV (.bool b))) : Ev prog w A env e h (IsB b) := H

/-! operators -/
theorem ev_bin {op : Operator} {P₁ P₂ : Value → Heap → Prop} (hl : Ev prog w A env l h P₁) (hr : Ev prog w A env r h P₂)
    (stay : ∀ v h₁ h₂, Ext h₁ h₂ → P₁ v h₁ → P₁ v h₂)
    (go : ∀ v₁ v₂ s, Ext h s.heap → P₁ v₁ s.heap → P₂ v₂ s.heap → wpAny (model prog w) A (binaryOp op v₁ v₂) (fun v s' => Keeps s s' ∧ P v s'.heap) (fun _ _ => False) s) :
    Ev prog w A env (.BinOp l op r pos) h P :=
  fun _ hx ht => wpAny_BinOp (hl.use hx ht fun _ _ k1 x1 t1 p1 => hr.use x1 t1 fun _ s2 k2 x2 _ p2 =>
    wpAny_mono (go _ _ s2 x2 (stay _ _ _ (keeps_ext k2) p1) p2) (fun _ _ ⟨k, p⟩ => ⟨keeps_trans (keeps_trans k1 k2) k, p⟩) fun _ _ x => x)
theorem ev_add_str {a b : List Nat} (hl : Ev prog w A env l h (IsS a)) (hr : Ev prog w A env r h (IsS b)) (hsz : a.length + b.length ≤ 16000000) :
    Ev prog w A env (.BinOp l .Add r pos) h (IsS (a ++ b)) :=
  ev_bin hl hr (fun _ _ _ _ p => p) fun v₁ v₂ s _ ⟨t, e⟩ ⟨u, e'⟩ => by
    subst e e'
    exact SB.add (fun t' k => ⟨keeps_tok (keeps_refl s) k, t', by rw [S_app]⟩) (by rw [S_len, S_len, sizeLine_eq]; omega)
theorem ev_int_op {op : Operator} {a b c : Int} (hl : Ev prog w A env l h (IsI a)) (hr : Ev prog w A env r h (IsI b))
    (go : ∀ (t u : Tok) (Q : Value → Shared → Prop) (s : Shared), Q (.int c s.toks) { s with toks := s.toks + 1 } → wpAny (model prog w) A (binaryOp op (.int a t) (.int b u)) Q (fun _ _ => False) s) :
    Ev prog w A env (.BinOp l op r pos) h (IsI c) :=
  ev_bin hl hr (fun _ _ _ _ p => p) fun v₁ v₂ s _ ⟨t, e⟩ ⟨u, e'⟩ => by
    subst e e'
    exact go t u _ s ⟨keeps_tok (keeps_refl s) _, _, rfl⟩
theorem ev_add {a b : Int} (hl : Ev prog w A env l h (IsI a)) (hr : Ev prog w A env r h (IsI b)) : Ev prog w A env (.BinOp l .Add r pos) h (IsI (a + b)) :=
  ev_int_op hl hr fun _ _ _ _ q => P.add_int q
theorem ev_sub {a b : Int} (hl : Ev prog w A env l h (IsI a)) (hr : Ev prog w A env r h (IsI b)) : Ev prog w A env (.BinOp l .Sub r pos) h (IsI (a - b)) :=
  ev_int_op hl hr fun _ _ _ _ q => P.sub_int q
theorem ev_mod {a b : Int} (hl : Ev prog w A env l h (IsI a)) (hr : Ev prog w A env r h (IsI b)) (hb : b ≠ 0 := by decide) : Ev prog w A env (.BinOp l .Mod r pos) h (IsI (a.fmod b)) :=
  ev_int_op hl hr fun _ _ _ _ q => mod_int' hb q
theorem ev_fdiv {a b : Int} (hl : Ev prog w A env l h (IsI a)) (hr : Ev prog w A env r h (IsI b)) (hb : b ≠ 0) (hp : Builtin.divisionGoesByPylong a b = false) : Ev prog w A env (.BinOp l .FloorDiv r pos) h (IsI (a.fdiv b)) :=
  ev_int_op hl hr fun _ _ _ _ q => floordiv_int hb q (.inl hp)
theorem ev_pow {a b : Int} (hl : Ev prog w A env l h (IsI a)) (hr : Ev prog w A env r h (IsI b)) (hb : 0 ≤ b) (hp : (Builtin.Int.intBits a : Int) * b ≤ 2 ^ 27) : Ev prog w A env (.BinOp l .Pow r pos) h (IsI (a ^ b.toNat)) :=
  ev_int_op hl hr fun _ _ _ _ q => pow_int hb hp q

end
end Mine

end

section
open PySem PySem.W PyProof.Rows PySem.Spec
namespace Mine
section
variable {prog : Program} {w : World} {A : Around} {env : Env}
variable {e l r : Expr} {h h' : Heap} {P P' : Value → Heap → Prop} {s : Shared} {Q : Value → Shared → Prop} {E : Value → Shared → Prop} {pos : Pos}

/-! lists of values -/
noncomputable def Pts {α : Type} (K : α → Value → Prop) (as : List α) (ys : List Value) : Prop := ys.length = as.length ∧ ∀ (i : Nat) (a : α), as[i]? = some a → ∃ y, ys[i]? = some y ∧ K a y
noncomputable def KS (l : List Nat) (v : Value) : Prop := ∃ t, v = .str (S l) t
noncomputable def KI (i : Int) (v : Value) : Prop := ∃ t, v = .int i t
noncomputable def KB (b : Bool) (v : Value) : Prop := v = .bool b
theorem Pts.nil {α : Type} {K : α → Value → Prop} : Pts K [] [] := ⟨rfl, fun i a e => by simp at e⟩
theorem Pts.cons {α : Type} {K : α → Value → Prop} {a : α} {as : List α} {y : Value} {ys : List Value} (hy : K a y) (h : Pts K as ys) : Pts K (a :: as) (y :: ys) :=
  ⟨by simp [h.1], fun i b e => by
    cases i with
    | zero => simp at e; subst e; exact ⟨y, rfl, hy⟩
    | succ i => simpa using h.2 i b (by simpa using e)⟩
theorem Pts.at {α : Type} {K : α → Value → Prop} {as : List α} {ys : List Value} (h : Pts K as ys) {i : Nat} {y : Value} (e : ys[i]? = some y) : ∃ a, as[i]? = some a ∧ K a y := by
  have hi : i < as.length := by rw [← h.1]; exact (List.getElem?_eq_some_iff.mp e).1
  obtain ⟨y', e', k⟩ := h.2 i as[i] (List.getElem?_eq_getElem hi)
  rw [e] at e'; cases e'
  exact ⟨_, List.getElem?_eq_getElem hi, k⟩
theorem Pts.snoc {α : Type} {K : α → Value → Prop} {a : α} {as : List α} {y : Value} {ys : List Value} (h : Pts K as ys) (hy : K a y) : Pts K (as ++ [a]) (ys ++ [y]) :=
  ⟨by simp [h.1], fun i b e => by
    by_cases hi : i < as.length
    · rw [List.getElem?_append_left hi] at e
      obtain ⟨y', e', k⟩ := h.2 i b e
      exact ⟨y', by rw [List.getElem?_append_left (by rw [h.1]; exact hi)]; exact e', k⟩
    · have hi' : as.length ≤ i := Nat.le_of_not_lt hi
      rw [List.getElem?_append_right hi'] at e
      have : i - as.length = 0 := by
        have := (List.getElem?_eq_some_iff.mp e).1; simp at this; omega
      rw [this] at e; simp at e; subst e
      exact ⟨y, by rw [List.getElem?_append_right (by rw [h.1]; exact hi'), h.1, this]; rfl, hy⟩⟩
theorem Pts.append {α : Type} {K : α → Value → Prop} {as bs : List α} {ys zs : List Value} (h : Pts K as ys) (g : Pts K bs zs) : Pts K (as ++ bs) (ys ++ zs) :=
  ⟨by simp [h.1, g.1], fun i b e => by
    by_cases hi : i < as.length
    · rw [List.getElem?_append_left hi] at e
      obtain ⟨y', e', k⟩ := h.2 i b e
      exact ⟨y', by rw [List.getElem?_append_left (by rw [h.1]; exact hi)]; exact e', k⟩
    · have hi' : as.length ≤ i := Nat.le_of_not_lt hi
      rw [List.getElem?_append_right hi'] at e
      obtain ⟨y', e', k⟩ := g.2 _ b e
      exact ⟨y', by rw [List.getElem?_append_right (by rw [h.1]; exact hi'), h.1]; exact e', k⟩⟩
theorem Pts.drop {α : Type} {K : α → Value → Prop} {as : List α} {ys : List Value} (h : Pts K as ys) (n : Nat) : Pts K (as.drop n) (ys.drop n) :=
  ⟨by simp [h.1], fun i b e => by rw [List.getElem?_drop] at e ⊢; exact h.2 _ _ e⟩
theorem Pts.take {α : Type} {K : α → Value → Prop} {as : List α} {ys : List Value} (h : Pts K as ys) (n : Nat) : Pts K (as.take n) (ys.take n) :=
  ⟨by simp [h.1], fun i b e => by
    rw [List.getElem?_take] at e ⊢
    split at e
    · rename_i hi; rw [if_pos hi]; exact h.2 _ _ e
    · cases e⟩
abbrev LS (ls : List (List Nat)) : Value → Heap → Prop := IsL (Pts KS ls)
abbrev LI (is : List Int) : Value → Heap → Prop := IsL (Pts KI is)
abbrev LB (bs : List Bool) : Value → Heap → Prop := IsL (Pts KB bs)
theorem IsL.stay {R : List Value → Prop} {v : Value} {h₁ h₂ : Heap} (x : Ext h₁ h₂) (p : IsL R v h₁) : IsL R v h₂ :=
  let ⟨D, ys, e, hl, r⟩ := p; ⟨D, ys, e, hl.at fun o e => x _ o e, r⟩

/-! comparisons -/
theorem ev_cmp {op : CmpOp} {P₁ P₂ : Value → Heap → Prop} (hl : Ev prog w A env l h P₁) (hr : Ev prog w A env r h P₂)
    (stay : ∀ v h₁ h₂, Ext h₁ h₂ → P₁ v h₁ → P₁ v h₂)
    (go : ∀ v₁ v₂ s, Ext h s.heap → P₁ v₁ s.heap → P₂ v₂ s.heap → wpAny (model prog w) A (compareOp op v₁ v₂) (fun v s' => Keeps s s' ∧ P v s'.heap) (fun _ _ => False) s)
    (hm : behindInMarks op r = false := by with_unfolding_all rfl) :
    Ev prog w A env (.Compare l [op] [r] pos) h P :=
  fun _ hx ht => wpAny_Compare1 (hl.use hx ht fun _ _ k1 x1 t1 p1 => hr.use x1 t1 fun _ s2 k2 x2 _ p2 =>
    wpAny_mono (go _ _ s2 x2 (stay _ _ _ (keeps_ext k2) p1) p2) (fun _ _ ⟨k, p⟩ => ⟨keeps_trans (keeps_trans k1 k2) k, p⟩) fun _ _ x => x) hm
theorem tr_cmp {op : CmpOp} {b : Bool} {P₁ P₂ : Value → Heap → Prop} (hl : Ev prog w A env l h P₁) (hr : Ev prog w A env r h P₂)
    (stay : ∀ v h₁ h₂, Ext h₁ h₂ → P₁ v h₁ → P₁ v h₂)
    (go : ∀ v₁ v₂ s, Ext h s.heap → P₁ v₁ s.heap → P₂ v₂ s.heap → wpAny (model prog w) A (compareOp op v₁ v₂) (fun v s' => Keeps s s' ∧ IsB b v s'.heap) (fun _ _ => False) s)
    (hm : behindInMarks op r = false := by with_unfolding_all rfl) :
    Tr prog w A env (.Compare l [op] [r] pos) h b :=
  fun _ hx ht => wpAny_isTrue_Compare1 (hl.use hx ht fun _ _ k1 x1 t1 p1 => hr.use x1 t1 fun _ s2 k2 x2 _ p2 =>
    wpAny_mono (go _ _ s2 x2 (stay _ _ _ (keeps_ext k2) p1) p2) (fun v _ ⟨k, p⟩ => by cases (show v = .bool b from p); exact wpAny_truthy_bool ⟨keeps_trans (keeps_trans k1 k2) k, rfl⟩) fun _ _ x => x) hm

/-- what an operation of compareOp gives -/
abbrev Cmp (prog : Program) (w : World) (A : Around) (op : CmpOp) (P₁ P₂ : Value → Heap → Prop) (h : Heap) (b : Bool) : Prop :=
  ∀ v₁ v₂ (s : Shared), Ext h s.heap → P₁ v₁ s.heap → P₂ v₂ s.heap → wpAny (model prog w) A (compareOp op v₁ v₂) (fun v s' => Keeps s s' ∧ IsB b v s'.heap) (fun _ _ => False) s

theorem S_toList (a : List Nat) : (S a).cps.toList = a := rfl
theorem cmp_eq_str {a b : List Nat} : Cmp prog w A .Eq (IsS a) (IsS b) h (a == b) := fun _ _ s _ ⟨t, e⟩ ⟨u, e'⟩ => by
  subst e e'; exact P.eq_str ⟨keeps_refl s, rfl⟩
theorem cmp_ne_str {a b : List Nat} : Cmp prog w A .NotEq (IsS a) (IsS b) h (a != b) := fun _ _ s _ ⟨t, e⟩ ⟨u, e'⟩ => by
  subst e e'; exact P.ne_str ⟨keeps_refl s, rfl⟩
theorem cmp_eq_int {a b : Int} : Cmp prog w A .Eq (IsI a) (IsI b) h (a == b) := fun _ _ s _ ⟨t, e⟩ ⟨u, e'⟩ => by
  subst e e'; exact P.eq_int ⟨keeps_refl s, rfl⟩
theorem cmp_ne_int {a b : Int} : Cmp prog w A .NotEq (IsI a) (IsI b) h (a != b) := fun _ _ s _ ⟨t, e⟩ ⟨u, e'⟩ => by
  subst e e'; exact ne_int ⟨keeps_refl s, rfl⟩
theorem cmp_lt_int {a b : Int} : Cmp prog w A .Lt (IsI a) (IsI b) h (decide (a < b)) := fun _ _ s _ ⟨t, e⟩ ⟨u, e'⟩ => by
  subst e e'; exact P.lt_int ⟨keeps_refl s, rfl⟩
theorem cmp_gt_int {a b : Int} : Cmp prog w A .Gt (IsI a) (IsI b) h (decide (b < a)) := fun _ _ s _ ⟨t, e⟩ ⟨u, e'⟩ => by
  subst e e'; exact gt_int ⟨keeps_refl s, rfl⟩
theorem cmp_ge_int {a b : Int} : Cmp prog w A .GtE (IsI a) (IsI b) h (decide (b ≤ a)) := fun _ _ s _ ⟨t, e⟩ ⟨u, e'⟩ => by
  subst e e'; exact P.ge_int ⟨keeps_refl s, rfl⟩
theorem cmp_is_bool {a b : Bool} : Cmp prog w A .Is (IsB a) (IsB b) h (a == b) := fun v₁ v₂ s _ e e' => by
  cases (show v₁ = .bool a from e); cases (show v₂ = .bool b from e')
  refine wpAny_is_plain rfl ⟨keeps_refl s, ?_⟩
  cases a <;> cases b <;> rfl
theorem cmp_isNot_bool {a b : Bool} : Cmp prog w A .IsNot (IsB a) (IsB b) h (a != b) := fun v₁ v₂ s _ e e' => by
  cases (show v₁ = .bool a from e); cases (show v₂ = .bool b from e')
  refine wpAny_isNot_plain rfl ⟨keeps_refl s, ?_⟩
  cases a <;> cases b <;> rfl
/-- x in text -/
theorem cmp_in_str {a b : List Nat} {c : Bool} (hc : Txt.contains (S b) (S a) = c) : Cmp prog w A .In (IsS a) (IsS b) h c := fun _ _ s _ ⟨t, e⟩ ⟨u, e'⟩ => by
  subst e e'; exact SB.contains ⟨keeps_refl s, by rw [hc]; rfl⟩
theorem cmp_notIn_str {a b : List Nat} {c : Bool} (hc : Txt.contains (S b) (S a) = c) : Cmp prog w A .NotIn (IsS a) (IsS b) h (!c) := fun _ _ s _ ⟨t, e⟩ ⟨u, e'⟩ => by
  subst e e'; exact SB.notContains ⟨keeps_refl s, by rw [hc]; rfl⟩

/-! == of lists -/
/-- K tells == by equality of data -/
noncomputable def EqK {α : Type} [BEq α] (K : α → Value → Prop) : Prop := ∀ a b x y, K a x → K b y → MeetsSeq.EqGives x y (a == b)
theorem eqK_S : EqK KS := fun a b x y ⟨t, e⟩ ⟨u, e'⟩ => by subst e e'; exact SeqRoads2.EqGives.str _ _ _ _
theorem eqK_I : EqK KI := fun a b x y ⟨t, e⟩ ⟨u, e'⟩ => by subst e e'; exact MeetsSeq.EqGives.int _ _ _ _
theorem eqK_B : EqK KB := fun a b x y e e' => by
  subst e e'
  intro prog w A E s Q q
  by_cases hab : a = b
  · subst hab
    unfold eqBool
    refine wpAny_holding ?_
    refine wpAny_ite_split (fun _ => ?_) (fun hab => absurd (beq_self_eq_true _) hab)
    exact wpAny_bind (wpAny_rule (wpAny_pure (by simpa using q)))
  · have : (a == b) = false := by simpa using hab
    rw [this] at q
    cases a <;> cases b <;> first | exact absurd rfl hab | (unfold eqBool; refine wpAny_holding ?_; refine wpAny_ite_split (fun h => absurd h (by decide)) (fun _ => ?_); exact wpAny_bind (SeqAt.RcAt.bool_bool _ _ prog w E _ (wpAny_truthy_bool q)))

theorem list_beq_all {α : Type} [BEq α] [LawfulBEq α] {as bs : List α} (hl : as.length = bs.length) (e : Nat → Bool)
    (he : ∀ i a b, as[i]? = some a → bs[i]? = some b → e i = (a == b)) : (List.range as.length).all e = (as == bs) := by
  rw [Bool.eq_iff_iff]
  constructor
  · intro h
    rw [beq_iff_eq]
    apply List.ext_getElem?
    intro i
    by_cases hi : i < as.length
    · have hb : i < bs.length := hl ▸ hi
      have := List.all_eq_true.mp h i (List.mem_range.mpr hi)
      rw [he i _ _ (List.getElem?_eq_getElem hi) (List.getElem?_eq_getElem hb)] at this
      rw [List.getElem?_eq_getElem hi, List.getElem?_eq_getElem hb, beq_iff_eq.mp this]
    · rw [List.getElem?_eq_none (by omega), List.getElem?_eq_none (by omega)]
  · intro h
    rw [beq_iff_eq] at h; subst h
    refine List.all_eq_true.mpr fun i hi => ?_
    have hi := List.mem_range.mp hi
    rw [he i _ _ (List.getElem?_eq_getElem hi) (List.getElem?_eq_getElem hi)]
    exact beq_self_eq_true _

theorem rc_lists {α : Type} [BEq α] [LawfulBEq α] {K : α → Value → Prop} (hK : EqK K) {as bs : List α} {v₁ v₂ : Value} {s : Shared} (hu : A.units < cLine)
    (p : IsL (Pts K as) v₁ s.heap) (q : IsL (Pts K bs) v₂ s.heap) :
    wpAny (model prog w) A (compareOp .Eq v₁ v₂) (fun v s' => s' = s ∧ v = .bool (as == bs)) (fun _ _ => False) s ∧
    wpAny (model prog w) A (compareOp .NotEq v₁ v₂) (fun v s' => s' = s ∧ v = .bool (as != bs)) (fun _ _ => False) s := by
  obtain ⟨D, ys, rfl, hl, r1⟩ := p
  obtain ⟨D', zs, rfl, hl', r2⟩ := q
  replace hl := hl.isList
  replace hl' := hl'.isList
  by_cases hsz : as.length = bs.length
  · have hsz' : ys.toArray.size = zs.toArray.size := by simp [r1.1, r2.1, hsz]
    let e : Nat → Bool := fun i => match as[i]?, bs[i]? with | some a, some b => a == b | _, _ => true
    have he : ∀ i a b, as[i]? = some a → bs[i]? = some b → e i = (a == b) := fun i a b h1 h2 => by simp only [e, h1, h2]
    have hall : (List.range ys.toArray.size).all e = (as == bs) := by
      rw [show ys.toArray.size = as.length by simp [r1.1]]
      exact list_beq_all hsz e he
    have hq : ∀ j (h1 : j < ys.toArray.size) (h2 : j < zs.toArray.size), SeqAt.EqAt A.in1 s ys.toArray[j] zs.toArray[j] (e j) := fun j h1 h2 => by
      have a1 : j < ys.length := by simpa using h1
      have a2 : j < zs.length := by simpa using h2
      obtain ⟨a, ea, ka⟩ := r1.at (List.getElem?_eq_getElem a1)
      obtain ⟨b, eb, kb⟩ := r2.at (List.getElem?_eq_getElem a2)
      rw [he j a b ea eb]
      exact (hK a b _ _ ka kb).at _ _
    refine ⟨SeqAt.eq_listAt hl hl' hsz' hu hq ⟨rfl, by rw [hall]⟩, ?_⟩
    exact SeqAt.RcNeAt.lists hl hl' hsz' hu hq prog w _ _ ⟨rfl, by rw [hall]; rfl⟩
  · have hne : (ys.toArray.size != zs.toArray.size) = true := by simpa [r1.1, r2.1] using hsz
    have hf : (as == bs) = false := by
      cases hc : as == bs with
      | false => rfl
      | true => exact absurd (congrArg List.length (beq_iff_eq.mp hc)) hsz
    refine ⟨SeqAt.eq_list_lengthsAt hl hl' hne hu ⟨rfl, by rw [hf]⟩, ?_⟩
    exact SeqAt.RcNeAt.lists_lengths hl hl' hne hu prog w _ _ ⟨rfl, by show Value.bool true = Value.bool (!(as == bs)); rw [hf]; rfl⟩
theorem cmp_eq_list {α : Type} [BEq α] [LawfulBEq α] {K : α → Value → Prop} (hK : EqK K) {as bs : List α} (hu : A.units < cLine) :
    Cmp prog w A .Eq (IsL (Pts K as)) (IsL (Pts K bs)) h (as == bs) := fun _ _ s _ p q =>
  wpAny_mono (rc_lists hK hu p q).1 (fun v s' ⟨e, e'⟩ => by subst e; exact ⟨keeps_refl _, e'⟩) fun _ _ x => x
theorem cmp_ne_list {α : Type} [BEq α] [LawfulBEq α] {K : α → Value → Prop} (hK : EqK K) {as bs : List α} (hu : A.units < cLine) :
    Cmp prog w A .NotEq (IsL (Pts K as)) (IsL (Pts K bs)) h (as != bs) := fun _ _ s _ p q =>
  wpAny_mono (rc_lists hK hu p q).2 (fun v s' ⟨e, e'⟩ => by subst e; exact ⟨keeps_refl _, e'⟩) fun _ _ x => x

/-! truth -/
theorem tr_val {b : Bool} (H : Ev prog w A env e h P) (go : ∀ v s, P v s.heap → wpAny (model prog w) A (truthy v) (fun c s' => Keeps s s' ∧ c = b) (fun _ _ => False) s)
    (hs : PySem.isTrue e env (eval e env) = (do let v ← eval e env; standAt e.pos; holding [v] (truthy v)) := by rfl) : Tr prog w A env e h b :=
  fun _ hx ht => wpAny_isTrue_value (H.use hx ht fun v s' k _ _ p => wpAny_mono (go v s' p) (fun _ _ ⟨k', e⟩ => ⟨keeps_trans k k', e⟩) fun _ _ x => x) hs
theorem tr_bool {b : Bool} (H : Ev prog w A env e h (IsB b))
    (hs : PySem.isTrue e env (eval e env) = (do let v ← eval e env; standAt e.pos; holding [v] (truthy v)) := by rfl) : Tr prog w A env e h b :=
  tr_val H (fun v s p => by cases (show v = .bool b from p); exact wpAny_truthy_bool ⟨keeps_refl s, rfl⟩) hs
theorem tr_or2 {x y : Expr} {a b : Bool} (hx : Tr prog w A env x h a) (hy : a = false → Tr prog w A env y h b) : Tr prog w A env (.BoolOp .Or [x, y] pos) h (a || b) :=
  fun _ he ht => wpAny_isTrue_BoolOp (wpAny_allTrue_Or_cons (hx.use he ht fun s1 k1 x1 t1 => by
    cases a with
    | true => exact ⟨k1, rfl⟩
    | false =>
      simp only [Bool.false_eq_true, if_false]
      exact wpAny_allTrue_Or_cons ((hy rfl).use x1 t1 fun s2 k2 x2 t2 => by
        cases b with
        | true => exact ⟨keeps_trans k1 k2, rfl⟩
        | false => simp only [Bool.false_eq_true, if_false]; exact wpAny_allTrue_Or_nil ⟨keeps_trans k1 k2, rfl⟩)))
end
end Mine

end

section
open PySem PySem.W PyProof.Rows PySem.Spec
namespace Mine
section
variable {prog : Program} {w : World} {A : Around} {env : Env}
variable {e l r : Expr} {h h' : Heap} {P P' : Value → Heap → Prop} {s : Shared} {Q : Value → Shared → Prop} {E : Value → Shared → Prop} {pos : Pos}

/-! subscripts -/
theorem sub_go {value slice : Expr} {T id : String} {P₁ P₂ : Value → Heap → Prop} (hlook : typeLookup (.type T) "__getitem__" = pure (some (.builtin id)))
    (hv : Ev prog w A env value h P₁) (hi : Ev prog w A env slice h P₂) (stay : ∀ v h₁ h₂, Ext h₁ h₂ → P₁ v h₁ → P₁ v h₂)
    (hT : ∀ v (s : Shared), P₁ v s.heap → s.TypeIs v T)
    (hs : ∀ o i, subscripted slice false o i = operate [o, i] (getItem o i) ∨ subscripted slice false o i = operate [i, o] (getItem o i))
    (go : ∀ o i (s : Shared), Ext h s.heap → P₁ o s.heap → P₂ i s.heap → wpAny (model prog w) A (getItem o i) (fun v s' => Keeps s s' ∧ P v s'.heap) (fun _ _ => False) s) :
    Ev prog w A env (.Subscript value slice pos) h P := fun s hx ht => by
  rw [eval_Subscript]
  refine wpAny_bind (hv.use hx ht fun o s1 k1 x1 t1 p1 => wpAny_bind (wpAny_holding (hi.use x1 t1 fun i s2 k2 x2 t2 p2 => wpAny_bind (wpAny_standAt ?_))))
  have p1' := stay _ _ _ (keeps_ext k2) p1
  have hty := hT _ _ p1'
  refine wpAny_bind ?_
  rw [getitemInPython_of_ne hty.not_modules]
  refine wpAny_bind (wpAny_specialOf hty hlook ?_)
  have fin : wpAny (model prog w) A (subscripted slice false o i) (fun r s₃ => wpAny (model prog w) A (letTemporaryGo value o r >>= fun _ => pure r) (fun v s' => Keeps s s' ∧ P v s'.heap) (fun _ _ => False) s₃) (fun _ _ => False) s2 := by
    have base := wpAny_mono (go o i s2 x2 p1' p2) (Q' := fun r s₃ => wpAny (model prog w) A (letTemporaryGo value o r >>= fun _ => pure r) (fun v s' => Keeps s s' ∧ P v s'.heap) (fun _ _ => False) s₃)
      (fun r s₃ ⟨k, p⟩ => wpAny_bind (wpAny_letTemporaryGo (wpAny_pure ⟨keeps_trans (keeps_trans k1 k2) k, p⟩))) fun _ _ x => x
    rcases hs o i with e | e <;> rw [e] <;> exact wpAny_operating base
  first
    | exact wpAny_pure (wpAny_bind fin)
    | exact wpAny_bind (wpAny_pure (wpAny_bind fin))
    | exact wpAny_bind fin

theorem list_TypeIs {R : List Value → Prop} (v : Value) (s : Shared) (p : IsL R v s.heap) : s.TypeIs v "list" := by
  obtain ⟨D, ys, rfl, hl, _⟩ := p; exact hl.isList.typeIs
theorem str_TypeIs {l : List Nat} (v : Value) (s : Shared) (p : IsS l v s.heap) : s.TypeIs v "str" := by
  obtain ⟨t, rfl⟩ := p; exact typeIs_str _ _ _

/-- xs[i], i written as no slice -/
theorem ev_item {α : Type} {K : α → Value → Prop} {value slice : Expr} {as : List α} {i : Int} {a : α} (hv : Ev prog w A env value h (IsL (Pts K as))) (hi : Ev prog w A env slice h (IsI i))
    (h0 : 0 ≤ i) (h1 : i < 2 ^ 63) (ha : as[i.toNat]? = some a) (hs : ∀ o i, subscripted slice false o i = operate [o, i] (getItem o i) := by intro _ _; rfl) :
    Ev prog w A env (.Subscript value slice pos) h (fun v _ => K a v) :=
  sub_go slot_list_getitem.lookup hv hi (fun _ _ _ x p => p.stay x) list_TypeIs (fun o i => .inl (hs o i)) fun o j s hx ⟨D, ys, e, hl, r⟩ ⟨t, e'⟩ => by
    subst e e'
    obtain ⟨y, hy, k⟩ := r.2 _ _ ha
    exact wpAny_getItem_list hl.isList h0 h1 (by simpa using hy) ⟨keeps_refl s, k⟩
theorem ev_item_str {value slice : Expr} {l : List Nat} {i : Int} {c : Nat} (hv : Ev prog w A env value h (IsS l)) (hi : Ev prog w A env slice h (IsI i))
    (h0 : 0 ≤ i) (h1 : i < 2 ^ 62) (ha : l[i.toNat]? = some c) (hs : ∀ o i, subscripted slice false o i = operate [o, i] (getItem o i) := by intro _ _; rfl) :
    Ev prog w A env (.Subscript value slice pos) h (IsS [c]) :=
  sub_go F.slot_str_getitem.lookup hv hi (fun _ _ _ x p => p) str_TypeIs (fun o i => .inl (hs o i)) fun o j s hx ⟨t, e⟩ ⟨u, e'⟩ => by
    subst e e'
    have hlt : i.toNat < l.length := (List.getElem?_eq_some_iff.mp ha).1
    have hc : (seqIndex? i (S l).length).bind ((S l).cps[·]?) = some c := by
      rw [S_len, seqIndex_of h0 (by omega)]
      simpa using ha
    exact P.getItem_str (by simp; omega) hc ⟨keeps_tok (keeps_refl s) _, _, rfl⟩

/-! slices of texts -/
theorem slice_to (l : List Nat) (n : Nat) : Txt.slice (S l) none (some (n : Int)) = S (l.take n) := by
  by_cases hn : n ≤ l.length
  · have := StrLaws.sliceText_to (x := S l) (j := (n : Int)) ⟨by omega, by simp; omega⟩
    show StrLaws.sliceText _ _ _ = _
    rw [this]; simp [S]
  · have e : Builtin.Str.strSliceIndices none (some (n : Int)) 1 (S l).length = Builtin.Str.strSliceIndices none (some ((l.length : Nat) : Int)) 1 (S l).length := by
      rw [S_len]
      have a1 : max (0 : Int) (min (n : Int) (l.length : Int)) = l.length := by omega
      have a2 : max (0 : Int) (min ((l.length : Nat) : Int) (l.length : Int)) = l.length := by omega
      have b1 : ¬ ((n : Int) < 0) := by omega
      have b2 : ¬ (((l.length : Nat) : Int) < 0) := by omega
      simp only [Builtin.Str.strSliceIndices]
      simp [b1, b2, a1, a2]
      try omega
    have e2 : Txt.slice (S l) none (some (n : Int)) = StrLaws.sliceText (S l) none (some ((l.length : Nat) : Int)) := by
      unfold Txt.slice StrLaws.sliceText; rw [e]
    rw [e2, StrLaws.sliceText_to (x := S l) ⟨by omega, by simp⟩]
    simp [S, List.take_of_length_le (Nat.le_of_not_le hn)]
theorem slice_from (l : List Nat) (n : Nat) : Txt.slice (S l) (some (n : Int)) none = S (l.drop n) := by
  by_cases hn : n ≤ l.length
  · have := StrLaws.sliceText_from (x := S l) (i := (n : Int)) ⟨by omega, by simp; omega⟩
    show StrLaws.sliceText _ _ _ = _
    rw [this]; simp [S]
    exact List.take_of_length_le (by simp)
  · have e : Builtin.Str.strSliceIndices (some (n : Int)) none 1 (S l).length = Builtin.Str.strSliceIndices (some ((l.length : Nat) : Int)) none 1 (S l).length := by
      rw [S_len]
      have a1 : max (0 : Int) (min (n : Int) (l.length : Int)) = l.length := by omega
      have b1 : ¬ ((n : Int) < 0) := by omega
      have b2 : ¬ (((l.length : Nat) : Int) < 0) := by omega
      simp only [Builtin.Str.strSliceIndices]
      simp [b1, b2, a1]
      try omega
    have e2 : Txt.slice (S l) (some (n : Int)) none = StrLaws.sliceText (S l) (some ((l.length : Nat) : Int)) none := by
      unfold Txt.slice StrLaws.sliceText; rw [e]
    rw [e2, StrLaws.sliceText_from (x := S l) ⟨by omega, by simp⟩]
    simp [S, List.drop_eq_nil_of_le (Nat.le_of_lt (Nat.lt_of_not_le hn))]
theorem slice_fromto (l : List Nat) (a b : Nat) (hab : a ≤ b) (hb : b ≤ l.length) : Txt.slice (S l) (some (a : Int)) (some (b : Int)) = S ((l.drop a).take (b - a)) := by
  have := StrLaws.sliceText_nat (S l) hab (by rw [S_len]; exact hb)
  show StrLaws.sliceText _ _ _ = _
  rw [this]

theorem partValue_int (i : Int) (t : Tok) : partValue (some (i, t)) = .int i t := rfl

theorem ev_slice_gen {value : Expr} {lo hi : Option Expr} {p : Pos} {l : List Nat} {x : Str} {lp up : Option Int}
    (hv : Ev prog w A env value h (IsS l))
    (hlo : match lo, lp with | none, none => True | some e, some i => Ev prog w A env e h (IsI i) | _, _ => False)
    (hhi : match hi, up with | none, none => True | some e, some i => Ev prog w A env e h (IsI i) | _, _ => False)
    (hx : Txt.slice (S l) lp up = x) (hsz : l.length ≤ 16000000) :
    Ev prog w A env (.Subscript value (.Slice lo hi none p) pos) h (fun v _ => ∃ t, v = .str x t) := by
  have hparts : Ev prog w A env (.Slice lo hi none p) h (fun v hp => ∃ a, v = .ref a ∧ ∃ l' u', lp = Option.map Prod.fst l' ∧ up = Option.map Prod.fst u' ∧ hp.IsSlice a l' u' none) := fun s hx ht => by
    have step : ∀ (o : Option Expr) (q : Option Int), (match o, q with | none, none => True | some e, some i => Ev prog w A env e h (IsI i) | _, _ => False) →
        ∀ (s : Shared) (Q : Value → Shared → Prop), Ext h s.heap → 0 < s.toks → (∀ q' s', q = Option.map Prod.fst q' → Keeps s s' → 0 < s'.toks → Q (partValue q') s') → wpAny (model prog w) A (evalPart o env) Q (fun _ _ => False) s := fun o q ho s Q hx ht k => by
      cases o with
      | none =>
        cases q with
        | none => rw [evalPart_none]; exact wpAny_pure (k none s rfl (keeps_refl s) ht)
        | some _ => exact ho.elim
      | some e =>
        cases q with
        | none => exact ho.elim
        | some i =>
          rw [evalPart_some]
          exact ho.use hx ht fun v s' k1 _ t1 ⟨t, ev⟩ => by subst ev; exact k (some (i, t)) s' rfl k1 t1
    refine wpAny_Slice (step lo lp hlo s _ hx ht fun l' s1 el k1 t1 => step hi up hhi s1 _ (hx.trans (keeps_ext k1)) t1 fun u' s2 eu k2 t2 => ?_)
    rw [show evalPart none env = pure .none from evalPart_none env]
    refine wpAny_pure ⟨keeps_push (keeps_trans k1 k2) _, _, rfl, l', u', el, eu, ⟨_, Heap.get?_push_size _ rfl, rfl, rfl⟩⟩
  refine sub_go F.slot_str_getitem.lookup hv hparts (fun _ _ _ _ p => p) str_TypeIs (fun o i => .inr rfl) ?_
  rintro o i s hxt ⟨t, rfl⟩ ⟨a, rfl, l', u', rfl, rfl, hsl⟩
  refine wpAny_getItem_str_slice hsl rfl ?_
  subst hx
  refine post_val_or_str ⟨?_, fun t' k => ⟨keeps_tok (keeps_refl s) k, t', rfl⟩⟩
  refine Nat.le_trans (Txt.slice_le (S l) _ _) ?_
  rw [S_len, sizeLine_eq]; omega
theorem ev_to {value e : Expr} {p : Pos} {l : List Nat} {n : Nat} (hv : Ev prog w A env value h (IsS l)) (hi : Ev prog w A env e h (IsI n)) (hsz : l.length ≤ 16000000) :
    Ev prog w A env (.Subscript value (.Slice none (some e) none p) pos) h (IsS (l.take n)) :=
  ev_slice_gen (lp := none) (up := some (n : Int)) hv trivial hi (slice_to l n) hsz
theorem ev_from {value e : Expr} {p : Pos} {l : List Nat} {n : Nat} (hv : Ev prog w A env value h (IsS l)) (hi : Ev prog w A env e h (IsI n)) (hsz : l.length ≤ 16000000) :
    Ev prog w A env (.Subscript value (.Slice (some e) none none p) pos) h (IsS (l.drop n)) :=
  ev_slice_gen (lp := some (n : Int)) (up := none) hv hi trivial (slice_from l n) hsz
theorem ev_fromto {value e e' : Expr} {p : Pos} {l : List Nat} {n m : Nat} (hv : Ev prog w A env value h (IsS l)) (hi : Ev prog w A env e h (IsI n)) (hi' : Ev prog w A env e' h (IsI m))
    (hnm : n ≤ m) (hm : m ≤ l.length) (hsz : l.length ≤ 16000000) :
    Ev prog w A env (.Subscript value (.Slice (some e) (some e') none p) pos) h (IsS ((l.drop n).take (m - n))) :=
  ev_slice_gen (lp := some (n : Int)) (up := some (m : Int)) hv hi hi' (slice_fromto l n m hnm hm) hsz

/-! calls -/
/-- the arguments, one behind the other -/
noncomputable def Args (prog : Program) (w : World) (A : Around) (env : Env) (es : List Expr) (h : Heap) (R : List Value → Heap → Prop) : Prop :=
  ∀ (pos : Pos) (s : Shared) (Q : List Value → Shared → Prop), Ext h s.heap → 0 < s.toks → (∀ vs s', Keeps s s' → Ext h s'.heap → 0 < s'.toks → R vs s'.heap → Q vs s') →
    wpAny (model prog w) A (spliced (backTo pos (starEach es env))) Q (fun _ _ => False) s
theorem args_none : Args prog w A env [] h (fun vs _ => vs = []) := fun pos s Q hx ht k => Calls.spliced_nil (k _ _ (keeps_refl s) hx ht rfl)
theorem args_more {e : Expr} {es : List Expr} {R : List Value → Heap → Prop} (he : Ev prog w A env e h P) (hes : Args prog w A env es h R) (stay : ∀ v h₁ h₂, Ext h₁ h₂ → P v h₁ → P v h₂)
    (hst : starEach (e :: es) env = (false, eval e env) :: starEach es env := by rfl) : Args prog w A env (e :: es) h (fun vs hp => ∃ v vs', vs = v :: vs' ∧ P v hp ∧ R vs' hp) := fun pos s Q hx ht k => by
  refine spliced_more (he.use hx ht fun v s1 k1 x1 t1 p => hes pos s1 _ x1 t1 fun vs s2 k2 x2 t2 r => k _ _ (keeps_trans k1 k2) x2 t2 ⟨v, vs, rfl, stay _ _ _ (keeps_ext k2) p, r⟩) hst

/-- the call of a def -/
theorem ev_call_def {x : Str} {np : Pos} {e : Expr} {es : List Expr} {f : Addr} {o : Obj} {fd : FuncData} {R : List Value → Heap → Prop} (hf : Ev prog w A env (.Name x np) h (IsV (.ref f)))
    (ho : h.get? f = some o) (hd : o.data = .func fd) (ha : Args prog w A env (e :: es) h R)
    (go : ∀ vs h', Ext h h' → R vs h' → Cl prog w A (.ref f) vs h' P) (hst : starEach (e :: es) env = (false, eval e env) :: starEach es env := by rfl) :
    Ev prog w A env (.Call (.Name x np) (e :: es) [] pos) h P := fun s hx ht =>
  wpAny_Call_NameR (hf.use hx ht fun v s1 k1 x1 t1 p => by
    cases (show v = .ref f from p)
    refine callWith_def (fd := fd) hd (ha pos s1 _ x1 t1 fun vs s2 k2 x2 t2 r => ⟨x2 _ _ ho, ?_⟩) hst
    exact (go vs s2.heap x2 r).use (Ext.refl _) t2 fun v s3 k3 x3 t3 p => ⟨keeps_trans (keeps_trans k1 k2) k3, p⟩)
theorem ev_call_builtin {x : Str} {np : Pos} {e : Expr} {es : List Expr} {id : String} {R : List Value → Heap → Prop} (hf : Ev prog w A env (.Name x np) h (IsV (.builtin id)))
    (ha : Args prog w A env (e :: es) h R)
    (go : ∀ vs h', Ext h h' → R vs h' → Cl prog w A (.builtin id) vs h' P) (hst : starEach (e :: es) env = (false, eval e env) :: starEach es env := by rfl)
    (hplain : ∀ pos, (backTo pos (starEach es env)).any (·.1) = false := by intro _; rfl) :
    Ev prog w A env (.Call (.Name x np) (e :: es) [] pos) h P := fun s hx ht =>
  wpAny_Call_NameR (hf.use hx ht fun v s1 k1 x1 t1 p => by
    cases (show v = .builtin id from p)
    refine PyProof.Rows.callWith_builtin1 (ha pos s1 _ x1 t1 fun vs s2 k2 x2 t2 r => ?_) hst (hplain pos)
    exact (go vs s2.heap x2 r).use (Ext.refl _) t2 fun v s3 k3 x3 t3 p => ⟨keeps_trans (keeps_trans k1 k2) k3, p⟩)

/-- a method of a text with its arguments -/
theorem ev_method {o : Expr} {name : Str} {apos : Pos} {es : List Expr} {id : String} {T : String} {P₁ : Value → Heap → Prop} {R : List Value → Heap → Prop}
    (ho : Ev prog w A env o h P₁) (stay : ∀ v h₁ h₂, Ext h₁ h₂ → P₁ v h₁ → P₁ v h₂) (ha : Args prog w A env es h R) (hne : es ≠ [])
    (pa : PlainAttrs T) (slot : Slot T name id) (hty : typeOf (.builtin id) = pure (.type "method_descriptor"))
    (hT : ∀ v (s : Shared), P₁ v s.heap → s.TypeIs v T ∧ ∀ a, v = .ref a → ∃ ob, s.heap.get? a = some ob ∧ ob.dict = none)
    (go : ∀ v vs h', Ext h h' → P₁ v h' → R vs h' → Cl prog w A (.builtin id) (v :: vs) h' P)
    (hbase : attributeBase o name env (eval o env) = eval o env) (hline : (apos.endLine == pos.line) = true)
    (hfew : ((backTo pos (starEach es env)).all (fun x => !x.1) && (backToKw pos (keywordEach [] env)).all (fun x => x.1.isSome)
      && decide (es.length + ([] : List Keyword).length + (if ([] : List Keyword).isEmpty then 0 else 1) < 30)) = true := by rfl)
    (hst : ∃ e es', es = e :: es' ∧ starEach (e :: es') env = (false, eval e env) :: starEach es' env := by exact ⟨_, _, rfl, rfl⟩) :
    Ev prog w A env (.Call (.Attribute o name apos) es [] pos) h P := fun s hx ht => by
  refine wpAny_Call_method_lateS hbase hfew hline (ho.use hx ht fun v s1 k1 x1 t1 p => ⟨T, id, pa, slot, hty, (hT v s1 p).1, (hT v s1 p).2, ?_⟩)
  obtain ⟨e, es', rfl, hs⟩ := hst
  have hplain : (backTo pos (starEach (e :: es') env)).any (·.1) = false := by
    simp only [Bool.and_eq_true] at hfew
    have := hfew.1.1
    rw [List.all_eq_true] at this
    rw [List.any_eq_false]
    intro x hx
    have := this x hx
    simpa using this
  refine Calls.callWith_builtin hplain ?_
  rw [hs]
  refine Calls.evalArgs_plain ?_
  have := ha pos s1 (fun vs s' => wpAny (model prog w) A (call (.builtin id) ([v] ++ vs) []) (fun v s' => Keeps s s' ∧ P v s'.heap) (fun _ _ => False) s') x1 t1 fun vs s2 k2 x2 t2 r =>
    (go v vs s2.heap x2 (stay _ _ _ (keeps_ext k2) p) r).use (Ext.refl _) t2 fun v s3 k3 x3 t3 p => ⟨keeps_trans (keeps_trans k1 k2) k3, p⟩
  rw [hs] at this
  exact this
end
end Mine

end

section
open PySem PySem.W PyProof.Rows PySem.Spec
open PySem.Builtin.Str PySem.StrLaws
namespace Mine

/-! texts as lists: places, splits -/
noncomputable def atB (x y : List Nat) (hi i : Nat) : Bool := decide (i + y.length ≤ hi) && ((x.drop i).take y.length == y)
noncomputable def fnd (x y : List Nat) (lo hi : Nat) : Option Nat := (List.range' lo (hi + 1 - lo)).find? (atB x y hi)

theorem at_iff (x y : List Nat) (hi i : Nat) : At (S x) (S y) hi i ↔ atB x y hi i = true := by
  unfold At atB
  rw [subAt_eq, S_len]
  simp

theorem occ1 (x y : List Nat) (lo hi : Nat) : occurrences (S x) (S y) lo hi 1 = (fnd x y lo hi).toList := by
  rw [occ_eq]
  unfold fnd
  rcases occ_first (S x) (S y) hi 1 (Nat.le_refl _) (List.range' lo (hi + 1 - lo)) lo (fun i hi => (List.mem_range'_1.mp hi).1) with ⟨h0, hn⟩ | ⟨pre, a, post, e, h0, ha, hn⟩
  · rw [h0]
    have : (List.range' lo (hi + 1 - lo)).find? (atB x y hi) = none := by
      rw [List.find?_eq_none]
      intro i hi' hc
      exact hn i hi' ((at_iff x y hi i).mpr hc)
    rw [this]; rfl
  · have hf : (List.range' lo (hi + 1 - lo)).find? (atB x y hi) = some a := by
      rw [List.find?_eq_some_iff_append]
      exact ⟨(at_iff x y hi a).mp ha, pre, post, e, fun i hi' => by
        have := hn i hi'
        rw [at_iff] at this
        simpa using this⟩
    rw [hf]
    have hle := occ_size_le (S x) (S y) hi 1 (List.range' lo (hi + 1 - lo)) (#[], lo) (by simp)
    generalize (forIn (List.range' lo (hi + 1 - lo)) (#[], lo) (occBody (S x) (S y) hi 1)).run.fst = arr at h0 hle
    obtain ⟨l⟩ := arr
    simp only [List.getElem?_toArray, List.size_toArray] at h0 hle
    match l, h0, hle with
    | [b], h0, _ => simp at h0; subst h0; rfl
    | b :: c :: r, _, hle => simp at hle

theorem contains_eq (x y : List Nat) : Txt.contains (S x) (S y) = (fnd x y 0 x.length).isSome := by
  unfold Txt.contains
  rw [S_len, occ1]
  cases fnd x y 0 x.length <;> rfl

theorem fnd_none {x y : List Nat} {lo hi : Nat} : fnd x y lo hi = none ↔ ∀ i, lo ≤ i → i ≤ hi → atB x y hi i = false := by
  unfold fnd
  rw [List.find?_eq_none]
  constructor
  · intro h i h1 h2
    have := h i (List.mem_range'_1.mpr ⟨h1, by omega⟩)
    simpa using this
  · intro h i hi'
    have := List.mem_range'_1.mp hi'
    simp [h i this.1 (by omega)]
theorem range'_cut {lo n a : Nat} (h1 : lo ≤ a) (h2 : a < lo + n) : List.range' lo n = List.range' lo (a - lo) ++ a :: List.range' (a + 1) (lo + n - (a + 1)) := by
  have e : n = (a - lo) + ((lo + n - (a + 1)) + 1) := by omega
  conv => lhs; rw [e]
  rw [← List.range'_append_1]
  congr 1
  rw [show lo + (a - lo) = a by omega]
  exact List.range'_succ
theorem fnd_some {x y : List Nat} {lo hi a : Nat} : fnd x y lo hi = some a ↔ lo ≤ a ∧ atB x y hi a = true ∧ ∀ i, lo ≤ i → i < a → atB x y hi i = false := by
  unfold fnd
  constructor
  · intro h
    rw [List.find?_eq_some_iff_append] at h
    obtain ⟨ha, pre, post, e, hp⟩ := h
    have hm : a ∈ List.range' lo (hi + 1 - lo) := by rw [e]; simp
    have hlo := List.mem_range'_1.mp hm
    refine ⟨hlo.1, ha, fun i h1 h2 => ?_⟩
    have hin : i ∈ List.range' lo (hi + 1 - lo) := List.mem_range'_1.mpr ⟨h1, by omega⟩
    have hs : (List.range' lo (hi + 1 - lo)).Pairwise (· < ·) := List.pairwise_lt_range'
    rw [e] at hin hs
    have hs2 := (List.pairwise_append.mp hs).2.1
    have hs3 := (List.pairwise_cons.mp hs2).1
    have : i ∈ pre := by
      rcases List.mem_append.mp hin with h | h
      · exact h
      · rcases List.mem_cons.mp h with h | h
        · omega
        · have := hs3 i h; omega
    have := hp i this
    simpa using this
  · rintro ⟨h1, h2, h3⟩
    rw [List.find?_eq_some_iff_append]
    have hb : a ≤ hi := by
      unfold atB at h2
      rw [Bool.and_eq_true, decide_eq_true_eq] at h2
      omega
    exact ⟨h2, _, _, range'_cut h1 (by omega), fun i hi' => by
      have := List.mem_range'_1.mp hi'
      simp [h3 i this.1 (by omega)]⟩

/-! greedy cuts are one -/
theorem chainG_unique {s sub : Str} {hi : Nat} : ∀ {a : Nat} {c c' : List Nat} {f f' : Nat}, ChainG s sub hi a c f → ChainG s sub hi a c' f' → (∀ k, f ≤ k → ¬ At s sub hi k) → (∀ k, f' ≤ k → ¬ At s sub hi k) → c = c'
  | a, [], [], _, _, _, _, _, _ => rfl
  | a, [], d :: r, f, f', h, h', n, _ => by
    have hf : f = a := h
    exact absurd h'.2.1 (n d (by rw [hf]; exact h'.1))
  | a, d :: r, [], f, f', h, h', _, n' => by
    have hf : f' = a := h'
    exact absurd h.2.1 (n' d (by rw [hf]; exact h.1))
  | a, d :: r, d' :: r', f, f', h, h', n, n' => by
    have e : d = d' := by
      rcases Nat.lt_trichotomy d d' with lt | e | lt
      · exact absurd h.2.1 (h'.2.2.1 d h.1 lt)
      · exact e
      · exact absurd h'.2.1 (h.2.2.1 d' h'.1 lt)
    subst e
    rw [chainG_unique h.2.2.2 h'.2.2.2 n n']
end Mine

end

section
open PySem PySem.W PyProof.Rows PySem.Spec
open PySem.Builtin.Str PySem.StrLaws
namespace Mine

theorem tsplit_eq (x y : List Nat) (hy : y ≠ []) : Txt.split (S x) (S y) = partsFrom (S x) y.length 0 (occurrences (S x) (S y) 0 (S x).length ((S x).length + 1)) := by
  have hy' : ((S y).length == 0) = false := by rw [S_len]; cases y <;> simp_all
  have h := W.m_split (S x) (S y) hy'
  have h2 : GW2.means .split (.str (S x)) (.str (S y)) = some (.list ((partsBetween (S x) (occurrences (S x) (S y) 0 (S x).length ((S x).length + 1)) (S y).length).map .str)) := by
    show (if ((S y).length == 0) = true then Option.none else some (WData.list ((partsBetween (S x) (occurrences (S x) (S y) 0 (S x).length ((S x).length + 1)) (S y).length).map .str))) = _
    rw [if_neg (by rw [hy']; nofun)]
  rw [h] at h2
  have h3 := WData.list.inj (Option.some.inj h2)
  have h4 : Txt.split (S x) (S y) = partsBetween (S x) (occurrences (S x) (S y) 0 (S x).length ((S x).length + 1)) (S y).length := by
    have inj : ∀ (a b : List Str), a.map WData.str = b.map WData.str → a = b := by
      intro a
      induction a with
      | nil => intro b h; cases b <;> simp_all
      | cons x r ih => intro b h; cases b with
        | nil => simp at h
        | cons y t =>
          rw [List.map_cons, List.map_cons] at h
          have h1 := List.cons.inj h
          rw [WData.str.inj h1.1, ih t h1.2]
    exact inj _ _ h3
  rw [h4, partsBetween_eq, S_len y]

theorem split_none (x y : List Nat) (hy : y ≠ []) (h : ∀ i, atB x y x.length i = false) : Txt.split (S x) (S y) = [S x] := by
  rw [tsplit_eq x y hy]
  obtain ⟨f, ch, _⟩ := occ_tight (S x) (S y) (by rw [S_len]; cases y <;> simp_all)
  cases ho : occurrences (S x) (S y) 0 (S x).length ((S x).length + 1) with
  | nil => show [strSub (S x) 0 (S x).length] = _; rw [sub_whole]
  | cons c r =>
    rw [ho] at ch
    have := ch.2.1
    rw [at_iff, S_len, h c] at this
    cases this

theorem atB_shift (k y q : List Nat) (i : Nat) : atB (k ++ q) y (k ++ q).length (k.length + i) = atB q y q.length i := by
  unfold atB
  have e : (k ++ q).drop (k.length + i) = q.drop i := by rw [← List.drop_drop]; simp
  rw [e, List.length_append]
  congr 1
  rw [decide_eq_decide]; omega
theorem strSub_shift (k q : List Nat) (a b : Nat) : strSub (S (k ++ q)) (k.length + a) (k.length + b) = strSub (S q) a b := by
  apply Str.ext'
  apply Array.toList_inj.mp
  rw [strSub_toList, strSub_toList]
  show ((k ++ q).drop (k.length + a)).take _ = (q.drop a).take _
  rw [← List.drop_drop, List.drop_left]
  congr 1
  exact Nat.add_sub_add_left _ _ _
theorem partsFrom_shift (k q : List Nat) (w : Nat) : ∀ (c : List Nat) (a : Nat), partsFrom (S (k ++ q)) w (k.length + a) (c.map (k.length + ·)) = partsFrom (S q) w a c
  | [], a => by
    show [strSub _ _ _] = [strSub _ _ _]
    rw [S_len, S_len, List.length_append, strSub_shift]
  | d :: r, a => by
    show strSub _ _ _ :: partsFrom _ _ (k.length + d + w) _ = strSub _ _ _ :: partsFrom _ _ (d + w) _
    rw [strSub_shift, Nat.add_assoc, partsFrom_shift k q w r (d + w)]
theorem chainG_shift (k y q : List Nat) : ∀ (c : List Nat) (a f : Nat), ChainG (S q) (S y) (S q).length a c f → ChainG (S (k ++ q)) (S y) (S (k ++ q)).length (k.length + a) (c.map (k.length + ·)) (k.length + f)
  | [], a, f, h => by
    have : f = a := h
    subst this; exact rfl
  | d :: r, a, f, h => by
    have ha := h.1
    refine ⟨by show k.length + a ≤ k.length + d; omega, ?_, fun j h1 h2 => ?_, ?_⟩
    · have := h.2.1
      rw [at_iff, S_len] at this ⊢
      rw [atB_shift]; exact this
    · have h2' : j < k.length + d := h2
      have := h.2.2.1 (j - k.length) (by omega) (by omega)
      rw [at_iff, S_len] at this ⊢
      rw [show j = k.length + (j - k.length) by omega, atB_shift]; exact this
    · have := chainG_shift k y q r _ _ h.2.2.2
      rw [S_len y] at this ⊢
      rw [Nat.add_assoc]; exact this

theorem split_first (p y q : List Nat) (hy : y ≠ []) (h : ∀ i, i < p.length → atB (p ++ y ++ q) y (p ++ y ++ q).length i = false) :
    Txt.split (S (p ++ y ++ q)) (S y) = S p :: Txt.split (S q) (S y) := by
  have hl : 1 ≤ (S y).length := by rw [S_len]; cases y <;> simp_all
  rw [tsplit_eq _ y hy, tsplit_eq q y hy]
  obtain ⟨f, ch, n⟩ := occ_tight (S (p ++ y ++ q)) (S y) hl
  obtain ⟨f', ch', n'⟩ := occ_tight (S q) (S y) hl
  generalize occurrences (S (p ++ y ++ q)) (S y) 0 (S (p ++ y ++ q)).length ((S (p ++ y ++ q)).length + 1) = c at ch
  generalize occurrences (S q) (S y) 0 (S q).length ((S q).length + 1) = c' at ch'
  have s := chainG_shift (p ++ y) y q c' 0 f' ch'
  have hat : atB (p ++ y ++ q) y (p ++ y ++ q).length p.length = true := by
    unfold atB
    simp only [List.append_assoc, List.drop_left, List.take_left, List.length_append, beq_self_eq_true, Bool.and_true, decide_eq_true_eq]
    omega
  have all : ChainG (S (p ++ y ++ q)) (S y) (S (p ++ y ++ q)).length 0 (p.length :: c'.map ((p ++ y).length + ·)) ((p ++ y).length + f') := by
    refine ⟨Nat.zero_le _, ?_, fun k _ hk => ?_, ?_⟩
    · rw [at_iff, S_len]; exact hat
    · rw [at_iff, S_len, h k hk]; nofun
    · rw [S_len y]
      have e : (p ++ y).length + 0 = p.length + y.length := by simp
      rw [e] at s; exact s
  have nn : ∀ k, (p ++ y).length + f' ≤ k → ¬ At (S (p ++ y ++ q)) (S y) (S (p ++ y ++ q)).length k := fun k hk => by
    have := n' (k - (p ++ y).length) (by omega)
    rw [at_iff, S_len] at this ⊢
    rw [show k = (p ++ y).length + (k - (p ++ y).length) by omega, atB_shift]; exact this
  have hc := chainG_unique ch all n nn
  subst hc
  show strSub _ 0 p.length :: partsFrom _ _ (p.length + y.length) _ = _
  have e1 : strSub (S (p ++ y ++ q)) 0 p.length = S p := by
    apply Str.ext'
    apply Array.toList_inj.mp
    rw [strSub_toList]
    show ((p ++ y ++ q).drop 0).take (p.length - 0) = p
    simp [List.append_assoc]
  have e2 : p.length + y.length = (p ++ y).length + 0 := by simp
  rw [e1, e2, partsFrom_shift]

/-- pieces joined -/
noncomputable def joinL (y : List Nat) : List (List Nat) → List Nat
  | [] => []
  | [p] => p
  | p :: q :: r => p ++ y ++ joinL y (q :: r)
theorem atB_free {x y : List Nat} {i c hi : Nat} (hy : y ≠ []) (hc : y.head? = some c) (hx : x[i]? ≠ some c) : atB x y hi i = false := by
  unfold atB
  rw [Bool.and_eq_false_iff]
  right
  cases hb : (x.drop i).take y.length == y with
  | false => rfl
  | true =>
    exfalso
    have := beq_iff_eq.mp hb
    cases y with
    | nil => exact hy rfl
    | cons d r =>
      simp at hc; subst hc
      apply hx
      have h2 := congrArg List.head? this
      simp only [List.length_cons, List.head?_cons] at h2
      rw [List.head?_take, if_neg (by simp), List.head?_drop] at h2
      exact h2
theorem split_join (y : List Nat) (c : Nat) (hy : y ≠ []) (hc : y.head? = some c) : ∀ (ps : List (List Nat)), ps ≠ [] → (∀ p ∈ ps, c ∉ p) → Txt.split (S (joinL y ps)) (S y) = ps.map S
  | [], h, _ => absurd rfl h
  | [p], _, hf => by
    show Txt.split (S p) (S y) = [S p]
    refine split_none p y hy fun i => atB_free hy hc fun e => hf p (by simp) (List.mem_of_getElem? e)
  | p :: q :: r, _, hf => by
    show Txt.split (S (p ++ y ++ joinL y (q :: r))) (S y) = S p :: (q :: r).map S
    rw [split_first p y _ hy, split_join y c hy hc (q :: r) (by simp) fun x hx => hf x (List.mem_cons_of_mem _ hx)]
    intro i hi
    refine atB_free hy hc fun e => hf p (by simp) ?_
    rw [List.append_assoc, List.getElem?_append_left hi] at e
    exact List.mem_of_getElem? e

theorem strJoin_eq (z : List Nat) : ∀ (ps : List (List Nat)), Str.join (S z) (ps.map S) = S (joinL z ps)
  | [] => rfl
  | [p] => rfl
  | p :: q :: r => by
    show S p ++ S z ++ Str.join (S z) ((q :: r).map S) = _
    rw [strJoin_eq z (q :: r), S_app, S_app]; rfl

/-- replace: of a text that is pieces joined by y, the pieces free of y's first sign -/
theorem replace_join (y z : List Nat) (c : Nat) (hy : y ≠ []) (hc : y.head? = some c) (ps : List (List Nat)) (hne : ps ≠ []) (hf : ∀ p ∈ ps, c ∉ p) :
    Txt.replace (S (joinL y ps)) (S y) (S z) = S (joinL z ps) := by
  have hs := split_join y c hy hc ps hne hf
  have hy0 : ((S y).length == 0) = false := by rw [S_len]; cases y <;> simp_all
  rw [tsplit_eq _ y hy] at hs
  unfold Txt.replace
  rw [hy0, Bool.false_and, Bool.or_false]
  cases he : (occurrences (S (joinL y ps)) (S y) 0 (S (joinL y ps)).length ((S (joinL y ps)).length + 1)).isEmpty
  · rw [if_neg Bool.false_ne_true, glued_eq_join, partsBetween_eq, S_len y, hs, strJoin_eq]
  · rw [if_pos rfl]
    rw [List.isEmpty_iff.mp he] at hs
    have hs' : [strSub (S (joinL y ps)) 0 (S (joinL y ps)).length] = ps.map S := hs
    rw [sub_whole] at hs'
    have h1 := congrArg List.length hs'
    rw [List.length_map] at h1
    obtain ⟨p, rfl⟩ := List.length_eq_one_iff.mp h1.symm
    rfl

/-- each sign c of x written as z -/
noncomputable def rep (c : Nat) (z : List Nat) (x : List Nat) : List Nat := x.flatMap fun k => if k = c then z else [k]
/-- a text cut at each sign c -/
noncomputable def cuts (c : Nat) : List Nat → List (List Nat)
  | [] => [[]]
  | k :: r => if k = c then [] :: cuts c r else match cuts c r with
    | [] => [[k]]
    | p :: ps => (k :: p) :: ps
theorem cuts_ne (c : Nat) : ∀ x, ∃ p ps, cuts c x = p :: ps
  | [] => ⟨_, _, rfl⟩
  | k :: r => by
    unfold cuts
    split
    · exact ⟨_, _, rfl⟩
    · cases cuts c r <;> exact ⟨_, _, rfl⟩
theorem cuts_free (c : Nat) : ∀ x, ∀ p ∈ cuts c x, c ∉ p
  | [], p, hp => by simp [cuts] at hp; subst hp; simp
  | k :: r, p, hp => by
    have ih := cuts_free c r
    unfold cuts at hp
    split at hp
    · rcases List.mem_cons.mp hp with rfl | hp
      · simp
      · exact ih p hp
    · rename_i hk
      obtain ⟨q, qs, e⟩ := cuts_ne c r
      rw [e] at hp ih
      rcases List.mem_cons.mp hp with rfl | hp
      · intro hm
        rcases List.mem_cons.mp hm with h | h
        · exact hk h.symm
        · exact ih q (by simp) h
      · exact ih p (List.mem_cons_of_mem _ hp)
theorem cuts_join (c : Nat) (z : List Nat) : ∀ x, joinL z (cuts c x) = rep c z x
  | [] => rfl
  | k :: r => by
    have ih := cuts_join c z r
    obtain ⟨q, qs, e⟩ := cuts_ne c r
    unfold cuts rep
    rw [List.flatMap_cons]
    show _ = _ ++ rep c z r
    rw [← ih, e]
    split
    · rename_i hk; rfl
    · cases qs <;> rfl
theorem rep_self (c : Nat) : ∀ x : List Nat, rep c [c] x = x
  | [] => rfl
  | k :: r => by
    have ih := rep_self c r
    unfold rep at ih ⊢
    rw [List.flatMap_cons, ih]
    split
    · rename_i hk; subst hk; rfl
    · rfl
theorem replace_one' (c : Nat) (z x : List Nat) : Txt.replace (S x) (S [c]) (S z) = S (rep c z x) := by
  have h := replace_join [c] z c (by simp) rfl (cuts c x) (by obtain ⟨p, ps, e⟩ := cuts_ne c x; rw [e]; simp) (cuts_free c x)
  rw [cuts_join, cuts_join] at h
  rw [rep_self] at h; exact h
/-- back again: a text in which c was written y (y begins with a sign that the text lacks) -/
theorem replace_back (c d : Nat) (y : List Nat) (hc : y.head? = some d) (x : List Nat) (hx : d ∉ x) : Txt.replace (S (rep c y x)) (S y) (S [c]) = S x := by
  have hy : y ≠ [] := by intro e; subst e; simp at hc
  have hcut : ∀ x, (d ∉ x) → ∀ p ∈ cuts c x, d ∉ p := by
    intro x
    induction x with
    | nil => intro _ p hp; simp [cuts] at hp; subst hp; simp
    | cons k r ih =>
      intro hx p hp
      have hr : d ∉ r := fun h => hx (List.mem_cons_of_mem _ h)
      unfold cuts at hp
      split at hp
      · rcases List.mem_cons.mp hp with rfl | hp
        · simp
        · exact ih hr p hp
      · obtain ⟨q, qs, e⟩ := cuts_ne c r
        have ih := ih hr
        rw [e] at hp ih
        rcases List.mem_cons.mp hp with rfl | hp
        · intro hm
          rcases List.mem_cons.mp hm with h | h
          · exact hx (by rw [h]; simp)
          · exact ih q (by simp) h
        · exact ih p (List.mem_cons_of_mem _ hp)
  have h := replace_join y [c] d hy hc (cuts c x) (by obtain ⟨p, ps, e⟩ := cuts_ne c x; rw [e]; simp) (hcut x hx)
  rw [cuts_join, cuts_join] at h
  rw [rep_self] at h; exact h
theorem startswith_eq (x y : List Nat) : Txt.startswith (S x) (S y) = y.isPrefixOf x := by
  unfold Txt.startswith
  rw [subAt_eq, S_len, S_len]
  show (decide (0 + y.length ≤ x.length) && ((x.drop 0).take y.length == y)) = _
  rw [List.drop_zero, Bool.eq_iff_iff, Bool.and_eq_true, decide_eq_true_eq, beq_iff_eq, List.isPrefixOf_iff_prefix]
  constructor
  · rintro ⟨_, h⟩
    refine ⟨x.drop y.length, ?_⟩
    have := List.take_append_drop y.length x
    rw [h] at this; exact this
  · rintro ⟨t, rfl⟩; simp
theorem endswith_eq (x y : List Nat) : Txt.endswith (S x) (S y) = y.isSuffixOf x := by
  unfold Txt.endswith
  rw [subAt_eq, S_len, S_len]
  show (decide (0 + y.length ≤ x.length) && ((x.drop (x.length - y.length)).take y.length == y)) = _
  rw [Bool.eq_iff_iff, Bool.and_eq_true, decide_eq_true_eq, beq_iff_eq, List.isSuffixOf_iff_suffix]
  constructor
  · rintro ⟨hl, h⟩
    refine ⟨x.take (x.length - y.length), ?_⟩
    have : (x.drop (x.length - y.length)).take y.length = x.drop (x.length - y.length) := List.take_of_length_le (by simp; omega)
    rw [this] at h
    have h2 := List.take_append_drop (x.length - y.length) x
    rw [h] at h2; exact h2
  · rintro ⟨t, rfl⟩; simp
end Mine

end

section
open PySem PySem.W PyProof.Rows PySem.Spec
namespace Mine
section
variable {prog : Program} {w : World} {A : Around} {env : Env}
variable {e l r : Expr} {h h' : Heap} {P P' : Value → Heap → Prop} {s : Shared} {Q : Value → Shared → Prop} {E : Value → Shared → Prop} {pos : Pos}

/-! built-in calls -/
theorem cl_of {f : Value} {args : List Value} (H : ∀ s : Shared, Ext h s.heap → 0 < s.toks → wpAny (model prog w) A (call f args) (fun v s' => Keeps s s' ∧ P v s'.heap) (fun _ _ => False) s) : Cl prog w A f args h P := H
theorem cl_startswith {a b : List Nat} {t u : Tok} : Cl prog w A (.builtin "str.startswith") [.str (S a) t, .str (S b) u] h (IsB (b.isPrefixOf a)) :=
  fun s _ _ => SC.startswith ⟨keeps_refl s, by rw [startswith_eq]; rfl⟩
theorem cl_endswith {a b : List Nat} {t u : Tok} : Cl prog w A (.builtin "str.endswith") [.str (S a) t, .str (S b) u] h (IsB (b.isSuffixOf a)) :=
  fun s _ _ => SC.endswith ⟨keeps_refl s, by rw [endswith_eq]; rfl⟩

theorem gives_find4 (x y : Str) (i j : Nat) (t u v z : Tok) (hj : j ≤ x.length) : Gives (Builtin.«str.find» ⟨[.str x t, .str y u, .int (i : Int) v, .int (j : Int) z], []⟩) (.int (match Builtin.Str.occurrences x y i j 1 with | k :: _ => (k : Int) | [] => -1)) := by
  have e1 : (max (0 : Int) (if (i : Int) < 0 then (i : Int) + (x.length : Int) else (i : Int))).toNat = i := by
    rw [if_neg (Int.not_lt.mpr (Int.natCast_nonneg i))]; exact ar_toNat i
  have e2 : min (max (0 : Int) (if (j : Int) < 0 then (j : Int) + (x.length : Int) else (j : Int))).toNat x.length = j := by
    rw [if_neg (Int.not_lt.mpr (Int.natCast_nonneg j)), ar_toNat]; exact Nat.min_eq_left hj
  have key : Gives (match Builtin.Str.occurrences x y (max (0 : Int) (if (i : Int) < 0 then (i : Int) + (x.length : Int) else (i : Int))).toNat (min (max (0 : Int) (if (j : Int) < 0 then (j : Int) + (x.length : Int) else (j : Int))).toNat x.length) 1 with
      | k :: _ => retInt k | [] => (do rule "str.find.not-found"; retInt (-1))) (.int (match Builtin.Str.occurrences x y i j 1 with | k :: _ => (k : Int) | [] => -1)) := by
    rw [e1, e2]
    cases Builtin.Str.occurrences x y i j 1 with
    | nil => exact .rule (.of_eq rfl)
    | cons k _ => exact .of_eq rfl
  exact key
noncomputable def fndI (x y : List Nat) (i j : Nat) : Int := match fnd x y i j with | some k => (k : Int) | none => -1
theorem cl_find4 {a b : List Nat} {i j : Nat} {t u v z : Tok} (hj : j ≤ a.length) : Cl prog w A (.builtin "str.find") [.str (S a) t, .str (S b) u, .int (i : Int) v, .int (j : Int) z] h (IsI (fndI a b i j)) :=
  fun s _ _ => call_gives F.slot_str_find (typeIs_str _ _ _) F.entry_str_find (F.args_str_find_4 _ _ _ _) (gives_find4 (S a) (S b) i j t u v z (by rw [S_len]; exact hj))
    ⟨keeps_tok (keeps_refl s) _, _, by
      rw [occ1]; unfold fndI
      cases fnd a b i j <;> rfl⟩
theorem cl_replace {x y z : List Nat} {t u v : Tok} {out : List Nat} (hu : u ≠ 0) (hv : v ≠ 0) (huv : u ≠ v) (hyz : y ≠ z) (hx : x.length ≤ 1048576) (hz : z.length ≤ 14)
    (ho : Txt.replace (S x) (S y) (S z) = S out) : Cl prog w A (.builtin "str.replace") [.str (S x) t, .str (S y) u, .str (S z) v] h (IsS out) :=
  fun s _ _ => SC.replaceW hu hv huv (by
    rw [beq_eq_false_iff_ne]; intro e; apply hyz
    have := congrArg (fun s : Str => s.cps.toList) e; exact this) (by rw [S_len]; omega) (by rw [S_len]; exact hz) fun t' k => ⟨keeps_tok (keeps_refl s) _, _, by rw [ho]⟩
theorem pts_S {l : List (Str × Tok)} {ls : List (List Nat)} (e : l.map (·.1) = ls.map S) : Pts KS ls (strValues l) := by
  refine ⟨?_, fun i a ha => ?_⟩
  · have := congrArg List.length e; simpa [strValues] using this
  · have h1 : (l.map (·.1))[i]? = some (S a) := by rw [e]; simp [ha]
    rw [List.getElem?_map, Option.map_eq_some_iff] at h1
    obtain ⟨p, hp, e1⟩ := h1
    exact ⟨.str p.1 p.2, by simp [strValues, hp], p.2, by rw [e1]⟩
theorem S_pts : ∀ {ls : List (List Nat)} {ys : List Value}, Pts KS ls ys → ∃ l : List (Str × Tok), ys = strValues l ∧ l.map (·.1) = ls.map S
  | [], ys, h => by
    have : ys = [] := List.length_eq_zero_iff.mp h.1
    subst this; exact ⟨[], rfl, rfl⟩
  | a :: as, [], h => by have := h.1; simp at this
  | a :: as, y :: ys, h => by
    obtain ⟨y', e, t, ht⟩ := h.2 0 a rfl
    simp at e; subst e; subst ht
    obtain ⟨l, e1, e2⟩ := S_pts (ls := as) (ys := ys) ⟨by have := h.1; simpa using this, fun i b hb => h.2 (i + 1) b hb⟩
    exact ⟨(S a, t) :: l, by rw [e1]; rfl, by rw [List.map_cons, e2]; rfl⟩
theorem numbered_pts {k : Nat} {xs : List Str} {ls : List (List Nat)} (e : xs = ls.map S) : Pts KS ls (strValues (numbered k xs)) := pts_S ((numbered_texts _ _).trans e)
theorem split_plain {x y : Str} {t u : Tok} (hy : (y.length == 0) = false) (hsz : x.length ≤ sizeLine) (hsz2 : (Builtin.Str.partsBetween x (Builtin.Str.occurrences x y 0 x.length (x.length + 1)) y.length).length ≤ sizeLine)
    (hq : ∀ D l h' k, s.heap.get? D = none → l.map (·.1) = Txt.split x y → Ext s.heap h' → h'.PlainList D (strValues l).toArray → Q (.ref D) { s with heap := h', toks := k }) :
    wpAny (model prog w) A (call (.builtin "str.split") [.str x t, .str y u]) Q E s := by
  have up : ∀ o, Ext s.heap (s.heap.push o) := fun o b o' e => Heap.get?_push_of_some _ e
  have fr : s.heap.get? s.heap.objs.size = none := by
    cases e : s.heap.get? s.heap.objs.size with
    | none => rfl
    | some o => exact absurd (Heap.lt_size e) (Nat.lt_irrefl _)
  cases h1 : (decide (x.length < y.length) || decide (Builtin.Str.strKind x < Builtin.Str.strKind y))
  · cases hf : (Builtin.Str.occurrences x y 0 x.length (x.length + 1)).isEmpty
    · refine call_meets F.slot_str_split (typeIs_str _ _ _) F.entry_str_split (F.args_str_split_2 _ _) (meets_str_split_sep x y t u h1 hy hf hsz hsz2) ?_
      show wants Q E _ { s with toks := _, heap := s.heap.push { cls := .type "list", data := .seq (strsFrom s.toks (Builtin.Str.partsBetween x (Builtin.Str.occurrences x y 0 x.length (x.length + 1)) y.length)).toArray } }
      rw [strsFrom_eq]
      exact hq _ (numbered s.toks _) _ _ fr ((numbered_texts _ _).trans ((if_neg (ne_true_of_eq_false h1)).trans (if_neg (ne_true_of_eq_false hf))).symm) (up _) ⟨_, Heap.get?_push_size _ rfl⟩
    · exact call_meets F.slot_str_split (typeIs_str _ _ _) F.entry_str_split (F.args_str_split_2 _ _) (meets_str_split_not_found x y t u h1 hy hf)
        (hq _ [(x, t)] _ _ fr ((if_neg (ne_true_of_eq_false h1)).trans (if_pos hf)).symm (up _) ⟨_, Heap.get?_push_size _ rfl⟩)
  · exact call_meets F.slot_str_split (typeIs_str _ _ _) F.entry_str_split (F.args_str_split_2 _ _) (meets_str_split_cannot_occur x y t u h1)
      (hq _ [(x, t)] _ _ fr (if_pos h1).symm (up _) ⟨_, Heap.get?_push_size _ rfl⟩)
theorem cl_split {x y : List Nat} {ps : List (List Nat)} {t u : Tok} (hy : y ≠ []) (hx : x.length ≤ 100000) (ho : Txt.split (S x) (S y) = ps.map S) :
    Cl prog w A (.builtin "str.split") [.str (S x) t, .str (S y) u] h (fun v h' => ∃ D ys, v = .ref D ∧ h'.PlainList D ys.toArray ∧ Pts KS ps ys ∧ h.get? D = none) := fun s hx _ =>
  split_plain (by rw [S_len]; cases y <;> simp_all) (by rw [S_len, sizeLine_eq]; omega) (by
      have h1 := StrLaws.occ_length_le (S x) (S y) 0 (S x).length ((S x).length + 1)
      rw [StrLaws.partsBetween_eq]
      have h2 : ∀ (c : List Nat) (a w : Nat), (StrLaws.partsFrom (S x) w a c).length = c.length + 1 := by
        intro c
        induction c with
        | nil => intro a w; rfl
        | cons d r ih => intro a w; show (_ :: StrLaws.partsFrom _ _ _ _).length = _; rw [List.length_cons, ih]; rfl
      rw [h2, sizeLine_eq]
      rw [S_len] at h1 ⊢
      omega) (fun D l h' k hD e x hl => ⟨keeps_grown (keeps_refl s) h' k x, D, strValues l, rfl, hl, pts_S (e.trans ho), by
      cases e' : h.get? D with
      | none => rfl
      | some o => rw [hx _ _ e'] at hD; cases hD⟩)
theorem sum_len_le : ∀ (ls : List (List Nat)) (B : Nat), (∀ l ∈ ls, l.length ≤ B) → (ls.map List.length).sum ≤ ls.length * B
  | [], _, _ => by simp
  | l :: r, B, h => by
    have := sum_len_le r B fun x hx => h x (List.mem_cons_of_mem _ hx)
    have h1 := h l (by simp)
    simp only [List.map_cons, List.sum_cons, List.length_cons, Nat.succ_mul]; omega
theorem joinL_nil : ∀ ls : List (List Nat), joinL [] ls = ls.flatten
  | [] => rfl
  | [p] => by simp [joinL]
  | p :: q :: r => by show p ++ [] ++ joinL [] (q :: r) = _; rw [joinL_nil (q :: r)]; simp
theorem cl_join {ls : List (List Nat)} {v : Value} {t : Tok} (hn : ls.length ≤ 1000) (hb : ∀ l ∈ ls, l.length ≤ 1000) (hv : LS ls v h) :
    Cl prog w A (.builtin "str.join") [.str (S []) t, v] h (IsS ls.flatten) := fun s hx _ => by
  obtain ⟨D, ys, rfl, hl, p⟩ := hv
  obtain ⟨l, rfl, e⟩ := S_pts p
  refine SC.join (hl.isList.at fun o e => hx _ o e) e ?_ fun t' k => ⟨keeps_tok (keeps_refl s) _, t', ?_⟩
  · unfold JoinOk
    rw [StrLaws.joinTotal]
    have h1 : ((ls.map S).map (·.length)).sum = (ls.map List.length).sum := by
      rw [List.map_map]; rfl
    rw [h1, S_len]
    have := sum_len_le ls 1000 hb
    simp only [List.length_nil, Nat.mul_zero, Nat.add_zero, Bool.not_eq_true']
    unfold PySem.Builtin.Str.tooLong PySem.sizeLine
    apply decide_eq_false
    have : ls.length * 1000 ≤ 1000000 := by omega
    omega
  · show Value.str (Builtin.Str.glued (S []) (ls.map S)) t' = _
    rw [StrLaws.glued_eq_join, strJoin_eq, joinL_nil]
theorem cl_len_str {a : List Nat} {t : Tok} (ha : a.length ≤ 100000) : Cl prog w A (.builtin "len") [.str (S a) t] h (IsI a.length) :=
  fun s _ _ => P.len_str (by rw [S_len]; omega) ⟨keeps_tok (keeps_refl s) _, _, by rw [S_len]⟩
theorem cl_len_list {R : List Value → Prop} {v : Value} {n : Nat} (hv : IsL R v h) (hn : ∀ ys, R ys → ys.length = n) (hs : n ≤ 100000) : Cl prog w A (.builtin "len") [v] h (IsI n) := fun s hx _ => by
  obtain ⟨D, ys, rfl, hl, p⟩ := hv
  have hz : ys.toArray.size = n := by simp [hn ys p]
  exact Calls.call_len_list (hl.isList.at fun o e => hx _ o e) (by rw [hz]; omega) ⟨keeps_tok (keeps_refl s) _, _, by rw [hz]⟩
theorem cl_max2 {a b : Int} {t u : Tok} (hh : A.handled = none) : Cl prog w A (.builtin "max") [.int a t, .int b u] h (IsI (max a b)) := fun s _ _ =>
  max_two_ints hh fun h' tk k => ⟨keeps_grown (keeps_refl s) _ _ k, by
    by_cases hb : b > a
    · rw [if_pos hb]; exact ⟨u, by rw [show max a b = b by omega]⟩
    · rw [if_neg hb]; exact ⟨t, by rw [show max a b = a by omega]⟩⟩
theorem cl_range1 {n : Int} {t : Tok} : Cl prog w A (.type "range") [.int n t] h (fun v h' => ∃ r t u v', v = .ref r ∧ IsRange h' r 0 n 1 t u v') := fun s _ _ =>
  call_range_1 ⟨keeps_tok (keeps_push (keeps_refl s) _) _, _, _, _, _, rfl, IsRange.new ..⟩
theorem cl_range2 {a b : Int} {t u : Tok} : Cl prog w A (.type "range") [.int a t, .int b u] h (fun v h' => ∃ r t u v', v = .ref r ∧ IsRange h' r a b 1 t u v') := fun s _ _ =>
  call_range_2 ⟨keeps_tok (keeps_push (keeps_refl s) _) _, _, _, _, _, rfl, IsRange.new ..⟩

/-! greatest of a list -/
theorem iter_any {v : Addr} {items : Array Value} {Q : Value → Shared → Prop} (hl : s.heap.IsList v items)
    (k : ∀ s₂ : Shared, s₂ = { s with heap := s.heap.push { cls := .type "list_iterator", data := .fields #[.ref v, .int 0 0] } } →
      (s₂.heap.IsListIter s.heap.objs.size v 0 ∧ s₂.heap.IsList v items) → (∀ b ∈ [s.heap.objs.size, v], b < s₂.heap.objs.size) → v ≠ s.heap.objs.size → Q (.ref s.heap.objs.size) s₂) :
    wpAny (model prog w) A (pyIter (.ref v)) Q E s := by
  have hlt : v < s.heap.objs.size := by obtain ⟨_, e, _⟩ := hl; exact Heap.lt_size e
  refine wpAny_pyIter_list hl (k _ rfl ⟨⟨_, Heap.get?_push_size _ rfl, rfl, rfl⟩, hl.push _⟩ (fun b hb => ?_) (Nat.ne_of_lt hlt))
  show b < (s.heap.push _).objs.size
  rw [Heap.size_push]
  rcases List.mem_cons.mp hb with rfl | hb
  · exact Nat.lt_succ_self _
  · rcases List.mem_cons.mp hb with rfl | hb
    · exact Nat.lt_succ_of_lt hlt
    · cases hb
theorem cl_max_list {α : Type} {K : α → Value → Prop} {as : List α} {v : Value} (bt : Nat → Nat → Bool) (hh : A.handled = none) (hv : IsL (Pts K as) v h) (hne : as ≠ [])
    (hcmp : CmpOf prog w A.in1 .Gt (fun i v => ∃ a, as[i]? = some a ∧ K a v) bt) :
    Cl prog w A (.builtin "max") [v] h (fun y _ => ∃ a, as[argBest bt (as.length - 1)]? = some a ∧ K a y) := fun s hx _ => by
  obtain ⟨D, ys, rfl, hl, p⟩ := hv
  have hl' := hl.isList.at fun o e => hx _ o e
  have hsz : ys.toArray.size = as.length := by simp [p.1]
  refine call_max_walk (iter_any hl' fun s₂ e st hfp hlI => ?_)
  subst e
  have W := Walks.list (prog := prog) (w := w) (A := A.in1) hh _ D hlI ys.toArray
  have hpos : 0 < ys.toArray.size := by rw [hsz]; cases as <;> simp_all
  have hat : ∀ i y, ys.toArray[i]? = some y → ∃ a, as[i]? = some a ∧ K a y := fun i y hy => p.at (by simpa using hy)
  refine ⟨_, _, _, _, _, _, bt, rfl, W, st, hfp, hpos, fun i j vi vj s' Q' E' hi hj hq => hcmp i j vi vj s' Q' E' (hat _ _ hi) (hat _ _ hj) hq, fun y h' tk hP hk => ?_⟩
  refine ⟨keeps_grown (keeps_refl s) _ _ (old_kept hk), ?_⟩
  have := hat _ _ hP
  rw [hsz] at this; exact this
theorem cmp_gt_S (prog : Program) (w : World) (A : Around) (as : List (List Nat)) : CmpOf prog w A .Gt (fun i v => ∃ a, as[i]? = some a ∧ KS a v) (fun i j => decide (as.getD j [] < as.getD i [])) := fun i j vi vj s Q E hi hj h => by
  obtain ⟨a, ea, t, rfl⟩ := hi
  obtain ⟨b, eb, u, rfl⟩ := hj
  have e1 : as.getD i [] = a := by simp [List.getD, ea]
  have e2 : as.getD j [] = b := by simp [List.getD, eb]
  dsimp only at h
  rw [e1, e2] at h
  exact richCompare_gives (op := .Gt) (typeIs_str s _ t) (typeIs_str s _ u) F.slot_str_gt F.entry_str_gt (F.args_str_gt_2 _ _) (gives_str_gt _ _ t u) (fun x => nomatch x) h
theorem cmp_gt_I (prog : Program) (w : World) (A : Around) (as : List Int) : CmpOf prog w A .Gt (fun i v => ∃ a, as[i]? = some a ∧ KI a v) (fun i j => decide (as.getD j 0 < as.getD i 0)) := fun i j vi vj s Q E hi hj h => by
  obtain ⟨a, ea, t, rfl⟩ := hi
  obtain ⟨b, eb, u, rfl⟩ := hj
  have e1 : as.getD i 0 = a := by simp [List.getD, ea]
  have e2 : as.getD j 0 = b := by simp [List.getD, eb]
  dsimp only at h
  rw [e1, e2] at h
  exact richCompare_gives (op := .Gt) (typeIs_int s _ t) (typeIs_int s _ u) F.slot_int_gt F.entry_int_gt (F.args_int_gt_2 _ _) (gives_int_gt _ _ t u) (fun x => nomatch x) h
/-- the first place of a text in a list of texts -/
theorem cl_index {as : List (List Nat)} {v : Value} {a : List Nat} {t : Tok} {j : Nat} (hv : LS as v h) (hj : as[j]? = some a) (hno : ∀ m, m < j → as[m]? ≠ some a) (hs : as.length ≤ 100000) :
    Cl prog w A (.builtin "list.index") [v, .str (S a) t] h (IsI j) := fun s hx _ => by
  obtain ⟨D, ys, rfl, hl, p⟩ := hv
  have hl' := hl.isList.at fun o e => hx _ o e
  obtain ⟨⟨cls, dd, data, sl⟩, ho, hc, n, hd⟩ := id hl'
  simp only at hc hd
  subst hc hd
  have hjl : j < as.length := (List.getElem?_eq_some_iff.mp hj).1
  have hjy : j < ys.toArray.size := by simp [p.1]; exact hjl
  have hjy' : j < ys.length := by rw [p.1]; exact hjl
  let e : Value → Bool := fun y => match y with | .str x _ => x.cps.toList == a | _ => false
  have he : ∀ m (hm : m < ys.length), ∃ b, as[m]? = some b ∧ e ys[m] = (b == a) := fun m hm => by
    obtain ⟨b, eb, u, hu⟩ := p.at (List.getElem?_eq_getElem hm)
    exact ⟨b, eb, by rw [hu]⟩
  refine call_meets F.slot_list_index ⟨_, ho, rfl⟩ F.entry_list_index (F.args_list_index_2 _ _) (SeqAt.list_indexAt D ys.toArray n dd sl (.str (S a) t) e j hjy (by omega) ?_ ?_) ⟨ho, fun y hy => ?_, ?_⟩
  · obtain ⟨b, eb, hb⟩ := he j hjy'
    rw [hj] at eb; cases eb
    show e ys[j] = true
    rw [hb]; exact beq_self_eq_true _
  · intro m hm hmj
    have hm' : m < ys.length := by simpa using hm
    obtain ⟨b, eb, hb⟩ := he m hm'
    show e ys[m] = false
    rw [hb, beq_eq_false_iff_ne]
    intro c; subst c; exact hno m hmj eb
  · have hy' : y ∈ ys := by simpa using hy
    obtain ⟨m, hm, rfl⟩ := List.getElem_of_mem hy'
    obtain ⟨b, eb, u, hu⟩ := p.at (List.getElem?_eq_getElem hm)
    rw [hu]
    exact (SeqRoads2.EqGives.str _ _ _ _).at _ _
  · exact ⟨keeps_tok (keeps_refl s) _, _, rfl⟩
end
end Mine

end

section
open PySem PySem.W PyProof.Rows PySem.Spec
namespace Mine
section
variable {prog : Program} {w : World} {A : Around} {env : Env}
variable {h h' : Heap} {s : Shared} {Q : Value → Shared → Prop} {E : Value → Shared → Prop} {pos : Pos}

/-! list comprehensions -/
/-- the tests of a clause -/
noncomputable def Tests (prog : Program) (w : World) (A : Around) (env : Env) (ifs : List Expr) (h : Heap) (b : Bool) : Prop :=
  (ifs = [] ∧ b = true) ∨ ∃ c, ifs = [c] ∧ Tr prog w A env c h b
theorem Tests.go {ifs : List Expr} {b : Bool} (T : Tests prog w A env ifs h b) (hx : Ext h s.heap) (ht : 0 < s.toks) :
    wpAny (model prog w) A (forIn ifs true fun c r => if r = true then do let ok ← PySem.isTrue c env (eval c env); pure (ForInStep.yield ok) else pure (ForInStep.yield r)) (fun ok s₄ => ok = b ∧ Keeps s s₄) E s := by
  rcases T with ⟨rfl, rfl⟩ | ⟨c, rfl, t⟩
  · exact wpAny_tests_nil ⟨rfl, keeps_refl s⟩
  · exact wpAny_tests_one (t.use hx ht fun s' k _ _ => ⟨rfl, k⟩)

/-- where the items come from -/
noncomputable def Src (prog : Program) (w : World) (A : Around) {α : Type} (KA : α → Value → Prop) (as : List α) (h : Heap) (v : Value) : Prop :=
  ∀ (s : Shared) (Q : Value → Shared → Prop) (E : Value → Shared → Prop), Ext h s.heap →
    (∀ I s₂ fp wr P St, Keeps s s₂ → Walks prog w A I fp wr as.length P St → St 0 s₂.heap → (∀ b ∈ fp, b < s₂.heap.objs.size) → (∀ b ∈ wr, s.heap.get? b = none) → (∀ j v, P j v → ∃ a, as[j]? = some a ∧ KA a v) → Q (.ref I) s₂) →
    wpAny (model prog w) A (pyIter v) Q E s
theorem Src.stay {α : Type} {KA : α → Value → Prop} {as : List α} {v : Value} {h₁ h₂ : Heap} (x : Ext h₁ h₂) (S : Src prog w A KA as h₁ v) : Src prog w A KA as h₂ v :=
  fun s Q E hx k => S s Q E (x.trans hx) k
theorem src_list {α : Type} {K : α → Value → Prop} {as : List α} {v : Value} (hh : A.handled = none) (hv : IsL (Pts K as) v h) : Src prog w A K as h v := fun s Q E hx k => by
  obtain ⟨D, ys, rfl, hl, p⟩ := hv
  have hl' := hl.isList.at fun o e => hx _ o e
  have hlt : D < s.heap.objs.size := by obtain ⟨_, e, _⟩ := hl'; exact Heap.lt_size e
  have hsz : ys.toArray.size = as.length := by simp [p.1]
  refine iter_any hl' fun s₂ e st hfp hlI => ?_
  subst e
  have W := Walks.list (prog := prog) (w := w) (A := A) hh _ D hlI ys.toArray
  rw [hsz] at W
  refine k _ _ _ _ _ _ (keeps_push (keeps_refl s) _) W st hfp (fun b hb => ?_) fun j y hy => p.at (by simpa using hy)
  rw [List.mem_singleton.mp hb]
  cases e : s.heap.get? s.heap.objs.size with
  | none => rfl
  | some o => exact absurd (Heap.lt_size e) (Nat.lt_irrefl _)
/-- the ints of a range -/
noncomputable def upto (a : Int) (n : Nat) : List Int := (List.range n).map fun (j : Nat) => a + (j : Int)
theorem src_range {r : Addr} {a b : Int} {t u v' : Tok} {n : Nat} (hh : A.handled = none) (hr : IsRange h r a b 1 t u v') (hn : b - a = n) (hs : -1000 ≤ a ∧ b ≤ 100000) :
    Src prog w A KI (upto a n) h (.ref r) := fun s Q E hx k => by
  have hr' : IsRange s.heap r a b 1 t u v' := hx _ _ hr
  have hsm : Builtin.Range.small a b 1 = true := small_one (by omega) (by omega) (by omega) (by omega)
  have hsize : Builtin.Range.rangeSize a b 1 = n := by rw [rangeSize_one]; split <;> omega
  refine wpAny_pyIter_range hr' hsm ?_
  have W := (Walks.range (prog := prog) (w := w) (A := A) hh s.heap.objs.size a 1 n).bound
  have hlen : (upto a n).length = n := by simp [upto]
  rw [← hlen] at W
  refine k _ _ _ _ _ _ (keeps_push (keeps_refl s) _) W ?_ (fun b hb => ?_) (fun b hb => ?_) ?_
  · show IsRangeIter _ _ _ _ _
    rw [hsize, hlen]; simpa using Heap.get?_push_size _ rfl
  · rw [List.mem_singleton.mp hb]
    show s.heap.objs.size < (s.heap.push _).objs.size
    rw [Heap.size_push]; exact Nat.lt_succ_self _
  · rw [List.mem_singleton.mp hb]
    cases e : s.heap.get? s.heap.objs.size with
    | none => rfl
    | some o => exact absurd (Heap.lt_size e) (Nat.lt_irrefl _)
  · rintro j v ⟨hj, t, rfl⟩
    refine ⟨a + j, ?_, t, by rw [Int.mul_one]⟩
    unfold upto
    rw [List.getElem?_map, List.getElem?_range (by rw [hlen] at hj; exact hj)]; rfl

theorem paired_pts {α β : Type} {KA : α → Value → Prop} {KB : β → Value → Prop} (fn : ∀ a b v, KA a v → KA b v → a = b) (pz : α → Bool) (f : α → β) (p : Value → Bool)
    (hp : ∀ a v, KA a v → p v = pz a) : ∀ (as : List α) (vs ys : List Value), Pts KA as vs →
    Paired (fun v y => ∃ a, KA a v ∧ KB (f a) y) (vs.filter p) ys → Pts KB ((as.filter pz).map f) ys
  | [], vs, ys, h, q => by
    have : vs = [] := List.length_eq_zero_iff.mp h.1
    subst this
    cases q; exact Pts.nil
  | a :: as, [], ys, h, q => by have := h.1; simp at this
  | a :: as, v :: vs, ys, h, q => by
    obtain ⟨v', e, k⟩ := h.2 0 a rfl
    simp at e; subst e
    have h' : Pts KA as vs := ⟨by have := h.1; simpa using this, fun i b hb => h.2 (i + 1) b hb⟩
    cases hz : pz a with
    | false =>
      rw [List.filter_cons_of_neg (by simp [hz])]
      rw [List.filter_cons_of_neg (by simp [hp a v k, hz])] at q
      exact paired_pts fn pz f p hp as vs ys h' q
    | true =>
      rw [List.filter_cons_of_pos hz, List.map_cons]
      rw [List.filter_cons_of_pos (by rw [hp a v k, hz])] at q
      cases q with
      | cons hF t =>
        obtain ⟨a', k', kb⟩ := hF
        rw [fn _ _ _ k' k] at kb
        exact Pts.cons kb (paired_pts fn pz f p hp as vs _ h' t)
theorem fn_S : ∀ (a b : List Nat) v, KS a v → KS b v → a = b := fun a b v ⟨t, e⟩ ⟨u, e'⟩ => by
  subst e
  have := (Value.str.inj e').1
  have h2 := congrArg (fun s : Str => s.cps.toList) this; exact h2
theorem fn_I : ∀ (a b : Int) v, KI a v → KI b v → a = b := fun a b v ⟨t, e⟩ ⟨u, e'⟩ => by
  subst e; exact (Value.int.inj e').1

open Classical in
/-- the core: what is shown of the block, for both ways of using it -/
theorem comp_quiet {α β : Type} {KA : α → Value → Prop} {KB : β → Value → Prop} (fn : ∀ a b v, KA a v → KA b v → a = b) {as : List α} (pz : α → Bool) (f : α → β)
    {elt : Expr} {x : Str} {ifs : List Expr} {scope : Scope} {cl : List (Str × Addr)} {s₁ s₂ : Shared} {wr : List Addr} {P : Nat → Value → Prop}
    (hx : Ext h s₁.heap) (ht : 0 < s₂.toks) (k : Keeps s₁ s₂) (hwr : ∀ b ∈ wr, s₁.heap.get? b = none) (hP : ∀ j v, P j v → ∃ a, as[j]? = some a ∧ KA a v)
    (htests : ∀ C h₂ m₂ a v, a ∈ as → KA a v → Ext h h₂ → h₂.Ns C m₂ → m₂ x = some v → h.get? C = none → Tests prog w A (compEnvC scope cl C env) ifs h₂ (pz a))
    (helt : ∀ C h₂ m₂ a v, a ∈ as → KA a v → pz a = true → Ext h h₂ → h₂.Ns C m₂ → m₂ x = some v → h.get? C = none → Ev prog w A (compEnvC scope cl C env) elt h₂ (fun y _ => KB (f a) y)) :
    QuietOnC prog w A env scope cl x ifs elt wr P (fun v => decide (∃ a, KA a v ∧ pz a = true)) (fun v y => ∃ a, KA a v ∧ KB (f a) y) s₂ := by
  have dec : ∀ a v, KA a v → decide (∃ a, KA a v ∧ pz a = true) = pz a := fun a v ka => by
    cases hz : pz a with
    | true => exact decide_eq_true ⟨a, ka, hz⟩
    | false =>
      refine decide_eq_false ?_
      rintro ⟨b, kb, hb⟩
      rw [fn _ _ _ kb ka, hz] at hb; cases hb
  have up : ∀ (s₃ : Shared), (∀ b o, b ∉ wr → s₂.heap.get? b = some o → s₃.heap.get? b = some o) → Ext h s₃.heap := fun s₃ hk b o e =>
    hk b o (fun hb => by have := hwr b hb; rw [hx b o e] at this; cases this) (keeps_ext k b o (hx b o e))
  have fresh : ∀ C, s₂.heap.objs.size ≤ C → h.get? C = none := fun C hC => by
    cases e : h.get? C with
    | none => rfl
    | some o => exact absurd (Heap.lt_size (keeps_ext k _ _ (hx _ _ e))) (Nat.not_lt.mpr hC)
  refine ⟨fun C i v s₃ m₃ E' hC hPv hn hm hk htk => ?_, fun C i v s₃ m₃ E' hC hPv hp hn hm hk htk => ?_⟩
  · obtain ⟨a, ea, ka⟩ := hP i v hPv
    rw [dec a v ka]
    exact (htests C _ m₃ a v (List.mem_of_getElem? ea) ka (up s₃ hk) hn hm (fresh C hC)).go (Ext.refl _) (Nat.lt_of_lt_of_le ht htk)
  · obtain ⟨a, ea, ka⟩ := hP i v hPv
    rw [dec a v ka] at hp
    exact (helt C _ m₃ a v (List.mem_of_getElem? ea) ka hp (up s₃ hk) hn hm (fresh C hC)).use (Ext.refl _) (Nat.lt_of_lt_of_le ht htk) fun y s₄ k₄ _ _ kb => ⟨⟨a, ka, kb⟩, k₄⟩

open Classical in
theorem ev_comp {α β : Type} {KA : α → Value → Prop} {KB : β → Value → Prop} (fn : ∀ a b v, KA a v → KA b v → a = b) {as : List α} (pz : α → Bool) (f : α → β)
    {elt iter : Expr} {x : Str} {px : Pos} {ifs : List Expr} {scope : Scope} {cl : List (Str × Addr)} {Psrc : Value → Heap → Prop}
    (hclos : closureFor scope env = pure cl) (hcell : ∀ y ∈ scope.names, y.2 ≠ .cell) (hkind : scope.kind = .function)
    (hnames : ∀ y ∈ scope.names, y.2 = .local → scope.names.lookup y.1 = some .local) (hxl : scope.names.lookup x = some .local)
    (hiter : Ev prog w A env iter h Psrc) (hsrc : ∀ v h', Ext h h' → Psrc v h' → Src prog w A KA as h' v) (hsz : as.length ≤ 100000)
    (htests : ∀ C h₂ m₂ a v, a ∈ as → KA a v → Ext h h₂ → h₂.Ns C m₂ → m₂ x = some v → h.get? C = none → Tests prog w A (compEnvC scope cl C env) ifs h₂ (pz a))
    (helt : ∀ C h₂ m₂ a v, a ∈ as → KA a v → pz a = true → Ext h h₂ → h₂.Ns C m₂ → m₂ x = some v → h.get? C = none → Ev prog w A (compEnvC scope cl C env) elt h₂ (fun y _ => KB (f a) y))
    (hs : ∀ x, foldedSetIterable iter env x = pure x := by intro _; rfl) :
    Ev prog w A env (.ListComp elt [⟨.Name x px, iter, ifs, 0⟩] scope pos) h (IsL (Pts KB ((as.filter pz).map f))) := fun s hx ht => by
  refine wpAny_ListComp_free (fun v => decide (∃ a, KA a v ∧ pz a = true)) (fun v y => ∃ a, KA a v ∧ KB (f a) y) hclos hcell hkind hnames hxl (hiter.use hx ht fun v s₁ k₁ x₁ t₁ p => ?_) hs
  refine wpAny_with_toks (n := 1) t₁ (hsrc v _ x₁ p s₁ _ _ (Ext.refl _) fun I s₂ fp wr P St k₂ W hst hfp hwr hP ht₂ => ?_)
  refine ⟨I, fp, wr, _, P, St, rfl, W, by rw [sizeLine_eq]; omega, hst, hfp, comp_quiet fn pz f x₁ ht₂ k₂ hwr hP htests helt, fun D h' tk ys vs hD _ hl hlen hPv hF hk => ?_⟩
  have up : Ext s₁.heap h' := fun b o e => hk b o (fun hb => by have := hwr b hb; rw [e] at this; cases this) (keeps_ext k₂ b o e)
  refine ⟨?_, D, ys.toList, rfl, by rw [Array.toArray_toList]; exact hl, ?_⟩
  · obtain ⟨h₂, tk₂, rfl, _⟩ := k₂
    exact keeps_trans k₁ (keeps_grown (keeps_refl s₁) h' tk up)
  · refine paired_pts fn pz f _ (fun a v ka => ?_) as vs ys.toList ⟨hlen, fun i a ha => ?_⟩ hF
    · cases hz : pz a with
      | true => exact decide_eq_true ⟨a, ka, hz⟩
      | false =>
        refine decide_eq_false ?_
        rintro ⟨b, kb, hb⟩
        rw [fn _ _ _ kb ka, hz] at hb; cases hb
    · have hi : i < vs.length := by rw [hlen]; exact (List.getElem?_eq_some_iff.mp ha).1
      obtain ⟨b, eb, kb⟩ := hP i _ (hPv i _ (List.getElem?_eq_getElem hi))
      rw [ha] at eb; cases eb
      exact ⟨_, List.getElem?_eq_getElem hi, kb⟩

open Classical in
/-- the statement x = [..], x a local -/
theorem st_comp {α β : Type} {KA : α → Value → Prop} {KB : β → Value → Prop} (fn : ∀ a b v, KA a v → KA b v → a = b) {as : List α} (pz : α → Bool) (f : α → β)
    {elt iter : Expr} {x y : Str} {px py spos : Pos} {ifs : List Expr} {scope : Scope} {cl : List (Str × Addr)} {Psrc : Value → Heap → Prop} {Q : Flow → Shared → Prop} {m : Str → Option Value}
    (hsw : swapsWith (.ListComp elt [⟨.Name x px, iter, ifs, 0⟩] scope pos) (some (.Name y py)) spos.line env = pure true)
    (hclos : closureFor scope env = pure cl) (hcell : ∀ y ∈ scope.names, y.2 ≠ .cell) (hkind : scope.kind = .function)
    (hnames : ∀ y ∈ scope.names, y.2 = .local → scope.names.lookup y.1 = some .local) (hxl : scope.names.lookup x = some .local)
    (hy : env.kindOf y = some .local) (hp : (env.scope.kind == .class || (env.scope.kind == .module && env.locals != env.globals)) = false)
    (hn : h.Ns env.locals m)
    (hiter : Ev prog w A env iter h Psrc) (hsrc : ∀ v h', Ext h h' → Psrc v h' → Src prog w A KA as h' v) (hsz : as.length ≤ 100000)
    (htests : ∀ C h₂ m₂ a v, a ∈ as → KA a v → Ext h h₂ → h₂.Ns C m₂ → m₂ x = some v → h.get? C = none → Tests prog w A (compEnvC scope cl C env) ifs h₂ (pz a))
    (helt : ∀ C h₂ m₂ a v, a ∈ as → KA a v → pz a = true → Ext h h₂ → h₂.Ns C m₂ → m₂ x = some v → h.get? C = none → Ev prog w A (compEnvC scope cl C env) elt h₂ (fun y _ => KB (f a) y))
    (hx : Ext h s.heap) (ht : 0 < s.toks)
    (go : ∀ D (ys : List Value) h' tk, h'.PlainList D ys.toArray → Pts KB ((as.filter pz).map f) ys → h.get? D = none → h'.Ns env.locals (fun z => if z = y then some (.ref D) else m z) →
      (∀ b o, b ≠ env.locals → s.heap.get? b = some o → h'.get? b = some o) → Q .next { s with heap := h', toks := tk })
    (hs : ∀ x, foldedSetIterable iter env x = pure x := by intro _; rfl) :
    wpAny (model prog w) A (exec (.Assign [.Name y py] (.ListComp elt [⟨.Name x px, iter, ifs, 0⟩] scope pos) spos) env) Q E s := by
  refine wpAny_Assign_ListComp_free (fun v => decide (∃ a, KA a v ∧ pz a = true)) (fun v y => ∃ a, KA a v ∧ KB (f a) y) hsw hclos hcell hkind hnames hxl hy hp (hiter.use hx ht fun v s₁ k₁ x₁ t₁ p => ?_) hs
  refine wpAny_with_toks (n := 1) t₁ (hsrc v _ x₁ p s₁ _ _ (Ext.refl _) fun I s₂ fp wr P St k₂ W hst hfp hwr hP ht₂ => ?_)
  have hns : s₂.heap.Ns env.locals m := (hn.keeps x₁).keeps (keeps_ext k₂)
  have hLwr : env.locals ∉ wr := fun hb => by
    have := hwr _ hb
    obtain ⟨o, _, _, e, _⟩ := hn.keeps x₁
    rw [e] at this; cases this
  refine ⟨I, fp, wr, _, P, St, m, rfl, W, by rw [sizeLine_eq]; omega, hst, hfp, hLwr, hns, comp_quiet fn pz f x₁ ht₂ k₂ hwr hP htests helt, fun D h' tk ys vs hD _ hl hlen hPv hF hn' hk => ?_⟩
  have up : ∀ b o, b ≠ env.locals → s₁.heap.get? b = some o → h'.get? b = some o := fun b o hbL e => hk b o hbL (fun hb => by have := hwr b hb; rw [e] at this; cases this) (keeps_ext k₂ b o e)
  have hpts : Pts KB ((as.filter pz).map f) ys.toList := by
    refine paired_pts fn pz f _ (fun a v ka => ?_) as vs ys.toList ⟨hlen, fun i a ha => ?_⟩ hF
    · cases hz : pz a with
      | true => exact decide_eq_true ⟨a, ka, hz⟩
      | false =>
        refine decide_eq_false ?_
        rintro ⟨b, kb, hb⟩
        rw [fn _ _ _ kb ka, hz] at hb; cases hb
    · have hi : i < vs.length := by rw [hlen]; exact (List.getElem?_eq_some_iff.mp ha).1
      obtain ⟨b, eb, kb⟩ := hP i _ (hPv i _ (List.getElem?_eq_getElem hi))
      rw [ha] at eb; cases eb
      exact ⟨_, List.getElem?_eq_getElem hi, kb⟩
  have hD0 : h.get? D = none := by
    cases e : h.get? D with
    | none => rfl
    | some o => have := keeps_ext k₂ _ _ (x₁ _ _ e); rw [hD] at this; cases this
  obtain ⟨h₁, tk₁, rfl, kk₁⟩ := k₁
  obtain ⟨h₂, tk₂, rfl, _⟩ := k₂
  exact go D ys.toList h' tk (by rw [Array.toArray_toList]; exact hl) hpts hD0 hn' fun b o hbL e => up b o hbL (kk₁ b o e)
end
end Mine

end

section
open PySem PySem.W PyProof.Rows PySem.Spec
namespace Mine

/-! the state of a frame -/
noncomputable def upd (m : Str → Option Value) (x : Str) (v : Value) : Str → Option Value := fun y => if y = x then some v else m y

structure St (G : Array GenState → Prop) (s₀ : Shared) (g : Heap) (env : Env) (m cm : Str → Option Value) (ls : List (Addr × List Value)) (s : Shared) : Prop where
  same : ∃ h tk gs, s = { s₀ with heap := h, toks := tk, gens := gs } ∧ G gs
  toks : 0 < s.toks
  keep : Ext g s.heap
  ns : s.heap.Ns env.locals m
  noL : g.get? env.locals = none
  cell : ∀ n c, (n, c) ∈ env.cells → s.heap.IsCell c (cm n)
  apart : env.cells.Pairwise fun x y => x.2 ≠ y.2
  uniq : ∀ n c c', (n, c) ∈ env.cells → (n, c') ∈ env.cells → c = c'
  noC : ∀ n c, (n, c) ∈ env.cells → g.get? c = none
  lists : ∀ p ∈ ls, s.heap.PlainList p.1 p.2.toArray

theorem ns_ne_list {h : Heap} {a b : Addr} {m : Str → Option Value} {items : Array Value} (x : h.Ns a m) (y : h.IsList b items) : b ≠ a := by
  rintro rfl
  obtain ⟨o, es, ep, e, d, _⟩ := x
  obtain ⟨o', e', c, n, d'⟩ := y
  rw [e] at e'; cases e'
  rw [d] at d'; cases d'
theorem ns_ne_cell {h : Heap} {a b : Addr} {m : Str → Option Value} {v : Option Value} (x : h.Ns a m) (y : h.IsCell b v) : b ≠ a := by
  rintro rfl
  obtain ⟨o, es, ep, e, d, _⟩ := x
  obtain ⟨o', e', d'⟩ := y
  rw [e] at e'; cases e'
  rw [d] at d'; cases d'
theorem cell_ne_list {h : Heap} {a b : Addr} {v : Option Value} {items : Array Value} (x : h.IsCell a v) (y : h.IsList b items) : b ≠ a := by
  rintro rfl
  obtain ⟨o, e, d⟩ := x
  obtain ⟨o', e', c, n, d'⟩ := y
  rw [e] at e'; cases e'
  rw [d] at d'; cases d'

section
variable {prog : Program} {w : World} {A : Around} {env : Env} {G : Array GenState → Prop} {s₀ s s' : Shared} {g : Heap} {m cm : Str → Option Value} {ls : List (Addr × List Value)}
variable {Q : Flow → Shared → Prop} {E : Value → Shared → Prop} {pos : Pos}

theorem St.kept (x : St G s₀ g env m cm ls s) (k : Keeps s s') (t : 0 < s'.toks) : St G s₀ g env m cm ls s' := by
  obtain ⟨h, tk, rfl, k⟩ := k
  obtain ⟨h₁, tk₁, gs, rfl, hg⟩ := x.same
  exact ⟨⟨h, tk, gs, rfl, hg⟩, t, x.keep.trans k, x.ns.keeps k, x.noL, fun n c hc => (x.cell n c hc).keeps k, x.apart, x.uniq, x.noC, fun p hp => (x.lists p hp).at fun o e => k _ o e⟩
theorem St.more (x : St G s₀ g env m cm ls s) {D : Addr} {ys : List Value} (hl : s.heap.PlainList D ys.toArray) : St G s₀ g env m cm ((D, ys) :: ls) s :=
  { x with lists := fun p hp => by rcases List.mem_cons.mp hp with rfl | hp; exact hl; exact x.lists p hp }
theorem St.less {ls' : List (Addr × List Value)} (x : St G s₀ g env m cm ls s) (h : ∀ p ∈ ls', p ∈ ls) : St G s₀ g env m cm ls' s :=
  { x with lists := fun p hp => x.lists p (h p hp) }
theorem St.up (x : St G s₀ g env m cm ls s) {g' : Heap} (k : Ext g' g) : St G s₀ g' env m cm ls s := by
  have none' : ∀ a, g.get? a = none → g'.get? a = none := fun a ha => by
    cases e : g'.get? a with
    | none => rfl
    | some o => have := k _ _ e; rw [ha] at this; cases this
  exact ⟨x.same, x.toks, k.trans x.keep, x.ns, none' _ x.noL, x.cell, x.apart, x.uniq, fun n c hc => none' _ (x.noC n c hc), x.lists⟩
theorem St.change (x : St G s₀ g env m cm ls s) {a : Addr} {h' : Heap} {tk : Nat} {m' cm' : Str → Option Value} (hs : Heap.SameBut a s.heap h') (ht : 0 < tk) (hg : g.get? a = none)
    (hn : h'.Ns env.locals m') (hc : ∀ n c, (n, c) ∈ env.cells → h'.IsCell c (cm' n)) (hl : ∀ p ∈ ls, p.1 ≠ a) : St G s₀ g env m' cm' ls { s with heap := h', toks := tk } := by
  obtain ⟨h₁, tk₁, gs, rfl, hG⟩ := x.same
  exact ⟨⟨h', tk, gs, rfl, hG⟩, ht, fun b o e => hs.extBut b o (fun q => by rw [q, hg] at e; cases e) (x.keep b o e), hn, x.noL, hc, x.apart, x.uniq, x.noC, fun p hp => (x.lists p hp).at fun o e => hs.extBut _ o (hl p hp) e⟩

theorem store_local {x : Str} {v : Value} {Q : Unit → Shared → Prop} (X : St G s₀ g env m cm ls s) (hl : env.kindOf x = some .local) (hk : env.scope.kind = .function)
    (k : ∀ s', St G s₀ g env (upd m x v) cm ls s' → Q () s') : wpAny (model prog w) A (storeName env x v) Q E s :=
  wpAny_storeName_local hl X.ns (fun h' hn hs => k _ (X.change (tk := s.toks + 1) hs (Nat.succ_pos _) X.noL hn
    (fun n c hc => (X.cell n c hc).sameBut hs (ns_ne_cell X.ns (X.cell n c hc))) fun p hp => ns_ne_list X.ns (X.lists p hp).isList)) (by rw [hk]; rfl)
theorem store_cell {x : Str} {c : Addr} {v : Value} {Q : Unit → Shared → Prop} (X : St G s₀ g env m cm ls s) (hl : env.kindOf x = some .cell) (hk : env.scope.kind = .function) (hc : env.cells.lookup x = some c)
    (k : ∀ s', St G s₀ g env m (upd cm x v) ls s' → Q () s') : wpAny (model prog w) A (storeName env x v) Q E s :=
  wpAny_storeName_cell hk hl hc (X.cell x c (mem_of_lookup hc)) fun h' hv hs => by
    have hm := mem_of_lookup hc
    have := X.change (tk := s.toks) (m' := m) (cm' := upd cm x v) hs X.toks (X.noC x c hm) (X.ns.sameBut hs (Ne.symm (ns_ne_cell X.ns (X.cell x c hm))))
      (fun n c' hc' => by
        by_cases hn : n = x
        · subst hn
          cases X.uniq _ _ _ hm hc'
          show h'.IsCell c (if n = n then some v else cm n)
          rw [if_pos rfl]; exact hv
        · show h'.IsCell c' (if n = x then some v else cm n)
          rw [if_neg hn]
          exact (X.cell n c' hc').sameBut hs fun e => hn (name_of_addr X.apart hc' (e ▸ hm))) fun p hp => cell_ne_list (X.cell x c hm) (X.lists p hp).isList
    exact k _ this

/-! statements, one behind the other -/
theorem x_nil (h : Q .next s) : wpAny (model prog w) A (execs [] env) Q E s := wpAny_execs_nil h
theorem x_assign {K : Value → Prop} {x : Str} {px : Pos} {e : Expr} {rest : List Stmt} (X : St G s₀ g env m cm ls s) (H : Ev prog w A env e s.heap (fun v _ => K v)) (hl : env.kindOf x = some .local) (hk : env.scope.kind = .function)
    (k : ∀ v s', K v → St G s₀ g env (upd m x v) cm ls s' → wpAny (model prog w) A (execs rest env) Q E s') (hs : swapsWith e (some (.Name x px)) pos.line env = pure false := by rfl) :
    wpAny (model prog w) A (execs (.Assign [.Name x px] e pos :: rest) env) Q E s :=
  wpAny_execs_cons (wpAny_Assign_Name (H.use (Ext.refl _) X.toks fun v s₁ k₁ _ t₁ p => store_local (X.kept k₁ t₁) hl hk fun s' X' => k v s' p X') hs)
theorem x_assignL {R : List Value → Prop} {x : Str} {px : Pos} {e : Expr} {rest : List Stmt} (X : St G s₀ g env m cm ls s) (H : Ev prog w A env e s.heap (IsL R)) (hl : env.kindOf x = some .local) (hk : env.scope.kind = .function)
    (k : ∀ D ys s', R ys → St G s₀ g env (upd m x (.ref D)) cm ((D, ys) :: ls) s' → wpAny (model prog w) A (execs rest env) Q E s') (hs : swapsWith e (some (.Name x px)) pos.line env = pure false := by rfl) :
    wpAny (model prog w) A (execs (.Assign [.Name x px] e pos :: rest) env) Q E s :=
  wpAny_execs_cons (wpAny_Assign_Name (H.use (Ext.refl _) X.toks fun v s₁ k₁ _ t₁ ⟨D, ys, e, hl', r⟩ => by
    subst e
    exact store_local ((X.kept k₁ t₁).more hl') hl hk fun s' X' => k D ys s' r X') hs)
theorem x_assignC {K : Value → Prop} {x : Str} {c : Addr} {px : Pos} {e : Expr} {rest : List Stmt} (X : St G s₀ g env m cm ls s) (H : Ev prog w A env e s.heap (fun v _ => K v)) (hl : env.kindOf x = some .cell) (hk : env.scope.kind = .function) (hc : env.cells.lookup x = some c)
    (k : ∀ v s', K v → St G s₀ g env m (upd cm x v) ls s' → wpAny (model prog w) A (execs rest env) Q E s') (hs : swapsWith e (some (.Name x px)) pos.line env = pure false := by rfl) :
    wpAny (model prog w) A (execs (.Assign [.Name x px] e pos :: rest) env) Q E s :=
  wpAny_execs_cons (wpAny_Assign_Name (H.use (Ext.refl _) X.toks fun v s₁ k₁ _ t₁ p => store_cell (X.kept k₁ t₁) hl hk hc fun s' X' => k v s' p X') hs)
theorem x_assignCL {R : List Value → Prop} {x : Str} {c : Addr} {px : Pos} {e : Expr} {rest : List Stmt} (X : St G s₀ g env m cm ls s) (H : Ev prog w A env e s.heap (IsL R)) (hl : env.kindOf x = some .cell) (hk : env.scope.kind = .function) (hc : env.cells.lookup x = some c)
    (k : ∀ D ys s', R ys → St G s₀ g env m (upd cm x (.ref D)) ((D, ys) :: ls) s' → wpAny (model prog w) A (execs rest env) Q E s') (hs : swapsWith e (some (.Name x px)) pos.line env = pure false := by rfl) :
    wpAny (model prog w) A (execs (.Assign [.Name x px] e pos :: rest) env) Q E s :=
  wpAny_execs_cons (wpAny_Assign_Name (H.use (Ext.refl _) X.toks fun v s₁ k₁ _ t₁ ⟨D, ys, e, hl', r⟩ => by
    subst e
    exact store_cell ((X.kept k₁ t₁).more hl') hl hk hc fun s' X' => k D ys s' r X') hs)
theorem x_return {P : Value → Heap → Prop} {e : Expr} {rest : List Stmt} (X : St G s₀ g env m cm ls s) (H : Ev prog w A env e s.heap P)
    (k : ∀ v s', P v s'.heap → St G s₀ g env m cm ls s' → Q (.ret v) s') : wpAny (model prog w) A (execs (.Return (some e) pos :: rest) env) Q E s :=
  wpAny_execs_cons (wpAny_Return_some (H.use (Ext.refl _) X.toks fun v s₁ k₁ _ t₁ p => k v s₁ p (X.kept k₁ t₁)))
theorem x_if {b : Bool} {test : Expr} {body orelse rest : List Stmt} (X : St G s₀ g env m cm ls s) (H : Tr prog w A env test s.heap b)
    (k : ∀ s', St G s₀ g env m cm ls s' → if b = true then wpAny (model prog w) A (execs body env) (fun f s' => match f with | .next => wpAny (model prog w) A (execs rest env) Q E s' | f => Q f s') E s'
      else wpAny (model prog w) A (execs orelse env) (fun f s' => match f with | .next => wpAny (model prog w) A (execs rest env) Q E s' | f => Q f s') E s') :
    wpAny (model prog w) A (execs (.If test body orelse pos :: rest) env) Q E s :=
  wpAny_execs_cons (wpAny_If (H.use (Ext.refl _) X.toks fun s₁ k₁ _ t₁ => k s₁ (X.kept k₁ t₁)))
/-- the test is false, there is no else -/
theorem x_skip {test : Expr} {body rest : List Stmt} (X : St G s₀ g env m cm ls s) (H : Tr prog w A env test s.heap false)
    (k : ∀ s', St G s₀ g env m cm ls s' → wpAny (model prog w) A (execs rest env) Q E s') : wpAny (model prog w) A (execs (.If test body [] pos :: rest) env) Q E s :=
  x_if X H fun s' X' => by rw [if_neg Bool.false_ne_true]; exact wpAny_execs_nil (k s' X')
theorem x_comp {α β : Type} {KA : α → Value → Prop} {KB : β → Value → Prop} (fn : ∀ a b v, KA a v → KA b v → a = b) {as : List α} (pz : α → Bool) (f : α → β)
    {elt iter : Expr} {x y : Str} {px py spos : Pos} {ifs : List Expr} {scope : Scope} {cl : List (Str × Addr)} {Psrc : Value → Heap → Prop} {rest : List Stmt} (X : St G s₀ g env m cm ls s)
    (hclos : closureFor scope env = pure cl)
    (hiter : Ev prog w A env iter s.heap Psrc) (hsrc : ∀ v h', Ext s.heap h' → Psrc v h' → Src prog w A KA as h' v) (hsz : as.length ≤ 100000)
    (htests : ∀ C h₂ m₂ a v, a ∈ as → KA a v → Ext s.heap h₂ → h₂.Ns C m₂ → m₂ x = some v → s.heap.get? C = none → Tests prog w A (compEnvC scope cl C env) ifs h₂ (pz a))
    (helt : ∀ C h₂ m₂ a v, a ∈ as → KA a v → pz a = true → Ext s.heap h₂ → h₂.Ns C m₂ → m₂ x = some v → s.heap.get? C = none → Ev prog w A (compEnvC scope cl C env) elt h₂ (fun y _ => KB (f a) y))
    (k : ∀ D (ys : List Value) s', Pts KB ((as.filter pz).map f) ys → St G s₀ g env (upd m y (.ref D)) cm ((D, ys) :: ls) s' → wpAny (model prog w) A (execs rest env) Q E s')
    (hk : env.scope.kind = .function) (hy : env.kindOf y = some .local)
    (hsw : swapsWith (.ListComp elt [⟨.Name x px, iter, ifs, 0⟩] scope pos) (some (.Name y py)) spos.line env = pure true := by rfl)
    (hcell : ∀ y ∈ scope.names, y.2 ≠ .cell := by decide) (hkind : scope.kind = .function := by rfl)
    (hnames : ∀ y ∈ scope.names, y.2 = .local → scope.names.lookup y.1 = some .local := by decide) (hxl : scope.names.lookup x = some .local := by rfl)
    (hs : ∀ x, foldedSetIterable iter env x = pure x := by intro _; rfl) :
    wpAny (model prog w) A (execs (.Assign [.Name y py] (.ListComp elt [⟨.Name x px, iter, ifs, 0⟩] scope pos) spos :: rest) env) Q E s := by
  refine wpAny_execs_cons (wpAny_with_toks (n := 1) X.toks ?_)
  refine st_comp fn pz f hsw hclos hcell hkind hnames hxl hy (by rw [hk]; rfl) X.ns hiter hsrc hsz htests helt (Ext.refl _) X.toks (fun D ys h' tk hl hp hD hn hold => ?_) hs
  intro ht
  refine k D ys _ hp ?_
  obtain ⟨h₁, tk₁, gs, rfl, hG⟩ := X.same
  refine ⟨⟨h', tk, gs, rfl, hG⟩, ht, fun b o e => hold b o (fun q => by rw [q, X.noL] at e; cases e) (X.keep b o e), hn, X.noL, fun n c hc => ?_, X.apart, X.uniq, X.noC, fun p hp' => ?_⟩
  · obtain ⟨o, e, d⟩ := X.cell n c hc
    exact ⟨o, hold c o (ns_ne_cell X.ns ⟨o, e, d⟩) e, d⟩
  · rcases List.mem_cons.mp hp' with rfl | hp'
    · exact hl
    · exact (X.lists p hp').at fun o e => hold _ o (ns_ne_list X.ns (X.lists p hp').isList) e

/-! loops -/
/-- a base in which nothing stands that the body may change -/
theorem St.rebase (X : St G s₀ g env m cm ls s) (muts : List Addr) (hm : ∀ D ∈ muts, g.get? D = none) :
    ∃ g', Ext g g' ∧ St G s₀ g' env m cm ls s ∧ (∀ D ∈ muts, g'.get? D = none) ∧ ∀ b o, b ≠ env.locals → (∀ n c, (n, c) ∈ env.cells → b ≠ c) → b ∉ muts → s.heap.get? b = some o → g'.get? b = some o := by
  refine ⟨hideAll s.heap (env.locals :: (env.cells.map (·.2) ++ muts)), ?_, ?_, ?_, ?_⟩
  · intro b o e
    refine hideAll_get _ (X.keep b o e) fun hb => ?_
    rcases List.mem_cons.mp hb with rfl | hb
    · rw [X.noL] at e; cases e
    · rcases List.mem_append.mp hb with hb | hb
      · obtain ⟨⟨n, c⟩, hc, rfl⟩ := List.mem_map.mp hb
        rw [X.noC n c hc] at e; cases e
      · rw [hm b hb] at e; cases e
  · exact ⟨X.same, X.toks, fun b o e => of_hideAll _ e, X.ns, hideAll_none _ (by simp), X.cell, X.apart, X.uniq, fun n c hc => hideAll_none _ (List.mem_cons_of_mem _ (List.mem_append_left _ (List.mem_map.mpr ⟨(n, c), hc, rfl⟩))), X.lists⟩
  · exact fun D hD => hideAll_none _ (List.mem_cons_of_mem _ (List.mem_append_right _ hD))
  · intro b o h1 h2 h3 e
    refine hideAll_get _ e fun hb => ?_
    rcases List.mem_cons.mp hb with rfl | hb
    · exact h1 rfl
    · rcases List.mem_append.mp hb with hb | hb
      · obtain ⟨⟨n, c⟩, hc, rfl⟩ := List.mem_map.mp hb
        exact h2 n c hc rfl
      · exact h3 hb

/-- what a loop goes over -/
noncomputable def FSrc (prog : Program) (w : World) (A : Around) {α : Type} (KA : α → Value → Prop) (as : List α) (bad : Addr → Prop) (h : Heap) (v : Value) : Prop :=
  ∀ (s : Shared) (Q : Value → Shared → Prop) (E : Value → Shared → Prop), Ext h s.heap →
    (∀ I s₂ fp P Sx, Keeps s s₂ → Walks prog w A I fp [I] as.length P Sx → Sx 0 s₂.heap → s.heap.get? I = none → (∀ i h' D items, Sx i h' → h'.IsList D items → D ≠ I) →
      (∀ b ∈ fp, b = I ∨ ((∃ o, s.heap.get? b = some o) ∧ ¬ bad b)) → (∀ i h', Sx i h' → ∀ b ∈ fp, ∃ o, h'.get? b = some o) → (∀ j v, P j v → ∃ a, as[j]? = some a ∧ KA a v) → Q (.ref I) s₂) →
    wpAny (model prog w) A (pyIter v) Q E s
theorem fsrc_list {α : Type} {K : α → Value → Prop} {as : List α} {h : Heap} {D : Addr} {ys : List Value} {bad : Addr → Prop} (hh : A.handled = none) (hl : h.PlainList D ys.toArray) (p : Pts K as ys) (hb : ¬ bad D) : FSrc prog w A K as bad h (.ref D) := fun s Q E hx k => by
  have hl' := hl.isList.at fun o e => hx _ o e
  obtain ⟨oD, hoD, _⟩ := id hl'
  have hlt : D < s.heap.objs.size := Heap.lt_size hoD
  have hsz : ys.toArray.size = as.length := by simp [p.1]
  refine iter_any hl' fun s₂ e st hfp hlI => ?_
  subst e
  have W := Walks.list (prog := prog) (w := w) (A := A) hh s.heap.objs.size D hlI ys.toArray
  rw [hsz] at W
  have fresh : s.heap.get? s.heap.objs.size = none := by
    cases e : s.heap.get? s.heap.objs.size with
    | none => rfl
    | some o => exact absurd (Heap.lt_size e) (Nat.lt_irrefl _)
  refine k _ _ _ _ _ (keeps_push (keeps_refl s) _) W st fresh (fun i h' D' items hS hL => ?_) (fun b hb' => ?_) (fun i h' hS b hb' => ?_) fun j y hy => p.at (by simpa using hy)
  · rintro rfl
    obtain ⟨o, e, _, d⟩ := hS.1
    obtain ⟨o', e', _, n, d'⟩ := hL
    rw [e] at e'; cases e'
    rw [d] at d'; cases d'
  · rcases List.mem_cons.mp hb' with rfl | hb'
    · exact .inl rfl
    · rw [List.mem_singleton.mp hb']
      exact .inr ⟨⟨oD, hoD⟩, hb⟩
  · rcases List.mem_cons.mp hb' with rfl | hb'
    · obtain ⟨o, e, _⟩ := hS.1; exact ⟨o, e⟩
    · rw [List.mem_singleton.mp hb']
      obtain ⟨o, e, _⟩ := hS.2; exact ⟨o, e⟩
theorem fsrc_range {r : Addr} {a b : Int} {t u v' : Tok} {n : Nat} {h : Heap} {bad : Addr → Prop} (hh : A.handled = none) (hr : IsRange h r a b 1 t u v') (hn : max 0 (b - a) = n) (hs : -1000 ≤ a ∧ a ≤ 100000 ∧ -1000 ≤ b ∧ b ≤ 100000) :
    FSrc prog w A KI (upto a n) bad h (.ref r) := fun s Q E hx k => by
  have hr' : IsRange s.heap r a b 1 t u v' := hx _ _ hr
  have hsm : Builtin.Range.small a b 1 = true := small_one (by omega) (by omega) (by omega) (by omega)
  have hsize : Builtin.Range.rangeSize a b 1 = n := by rw [rangeSize_one]; split <;> omega
  refine wpAny_pyIter_range hr' hsm ?_
  have W := (Walks.range (prog := prog) (w := w) (A := A) hh s.heap.objs.size a 1 n).bound
  have hlen : (upto a n).length = n := by simp [upto]
  rw [← hlen] at W
  have fresh : s.heap.get? s.heap.objs.size = none := by
    cases e : s.heap.get? s.heap.objs.size with
    | none => rfl
    | some o => exact absurd (Heap.lt_size e) (Nat.lt_irrefl _)
  refine k _ _ _ _ _ (keeps_push (keeps_refl s) _) W ?_ fresh (fun i h' D' items hS hL => ?_) (fun b hb => .inl (List.mem_singleton.mp hb)) (fun i h' hS b hb => ?_) ?_
  · show IsRangeIter _ _ _ _ _
    rw [hsize, hlen]; simpa using Heap.get?_push_size _ rfl
  · rintro rfl
    have e : h'.get? s.heap.objs.size = some _ := hS
    obtain ⟨o', e', _, n, d'⟩ := hL
    rw [e] at e'; cases e'
    cases d'
  · rw [List.mem_singleton.mp hb]; exact ⟨_, hS⟩
  · rintro j v ⟨hj, t, rfl⟩
    refine ⟨a + j, ?_, t, by rw [Int.mul_one]⟩
    unfold upto
    rw [List.getElem?_map, List.getElem?_range (by rw [hlen] at hj; exact hj)]; rfl

theorem x_for {α : Type} {KA : α → Value → Prop} {as : List α} {x : Str} {px : Pos} {iter : Expr} {body rest : List Stmt} {Psrc : Value → Heap → Prop} (X : St G s₀ g env m cm ls s) (muts : List Addr) (hm : ∀ D ∈ muts, g.get? D = none)
    (hml : ∀ D ∈ muts, ∃ items, s.heap.IsList D items)
    (hiter : Ev prog w A env iter s.heap Psrc)
    (hsrc : ∀ v h', Ext s.heap h' → Psrc v h' → FSrc prog w A KA as (fun b => b = env.locals ∨ (∃ n, (n, b) ∈ env.cells) ∨ b ∈ muts) h' v)
    (hk : env.scope.kind = .function) (hl : env.kindOf x = some .local)
    (R : Nat → (Str → Option Value) → (Str → Option Value) → List (Addr × List Value) → Prop) (h0 : R 0 m cm ls)
    (turn : ∀ g' i a v m cm ls s' E, Ext g g' → (∀ D ∈ muts, g'.get? D = none) → as[i]? = some a → KA a v → R i m cm ls → St G s₀ g' env (upd m x v) cm ls s' →
      wpAny (model prog w) A (execs body env) (fun f s'' => match f with
        | .next | .cont => ∃ m' cm' ls', R (i + 1) m' cm' ls' ∧ St G s₀ g' env m' cm' ls' s''
        | .brk => ∃ m' cm' ls', R as.length m' cm' ls' ∧ St G s₀ g' env m' cm' ls' s''
        | .ret v => ∃ m' cm' ls', St G s₀ g' env m' cm' ls' s'' ∧ Q (.ret v) s'') E s')
    (fin : ∀ m cm ls s', R as.length m cm ls → St G s₀ g env m cm ls s' → wpAny (model prog w) A (execs rest env) Q E s')
    (hs : ∀ x, foldedSetIterable iter env x = pure x := by intro _; rfl) :
    wpAny (model prog w) A (execs (.For (.Name x px) iter body [] pos :: rest) env) Q E s := by
  refine wpAny_execs_cons (wpAny_For (hiter.use (Ext.refl _) X.toks fun v s₁ k₁ x₁ t₁ p => ?_) hs)
  have X₁ := X.kept k₁ t₁
  refine wpAny_with_toks (n := 1) t₁ (hsrc v _ x₁ p s₁ _ _ (Ext.refl _) fun I s₂ fp P Sx k₂ W hst hI hIk hfp hfo hP t₂ => ?_)
  have X₂ := X₁.kept k₂ t₂
  have hIL : I ≠ env.locals := by
    rintro rfl
    obtain ⟨o, _, _, e, _⟩ := X₁.ns
    rw [hI] at e; cases e
  have hIC : ∀ n c, (n, c) ∈ env.cells → I ≠ c := by
    rintro n c hc rfl
    obtain ⟨o, e, _⟩ := X₁.cell n _ hc
    rw [hI] at e; cases e
  have hIm : I ∉ muts := fun hmem => by
    obtain ⟨items, o, e, _⟩ := hml I hmem
    have := x₁ _ _ e
    rw [hI] at this; cases this
  have hgI : g.get? I = none := by
    cases e : g.get? I with
    | none => rfl
    | some o => have := X₁.keep _ _ e; rw [hI] at this; cases this
  have good : ∀ b ∈ fp, b ≠ env.locals ∧ (∀ n c, (n, c) ∈ env.cells → b ≠ c) ∧ b ∉ muts := fun b hb => by
    rcases hfp b hb with rfl | ⟨_, nb⟩
    · exact ⟨hIL, hIC, hIm⟩
    · exact ⟨fun e => nb (.inl e), fun n c hc e => nb (.inr (.inl ⟨n, e ▸ hc⟩)), fun e => nb (.inr (.inr e))⟩
  refine codeAny_forLoop (fun k s' => ∃ i m cm ls, k = as.length + 1 - i ∧ i ≤ as.length ∧ R i m cm ls ∧ St G s₀ g env m cm ls s' ∧ Sx i s'.heap) ?_ (as.length + 1) ⟨0, m, cm, ls, rfl, Nat.zero_le _, h0, X₂, hst⟩
  rintro k s' ⟨i, m', cm', ls', rfl, hi, hR, X', hS⟩
  have moved : ∀ h' tk, (∀ b o, b ∉ [I] → s'.heap.get? b = some o → h'.get? b = some o) → 0 < tk → St G s₀ g env m' cm' ls' { s' with heap := h', toks := tk } := fun h' tk hk' ht => by
    obtain ⟨h₁, tk₁, gs, rfl, hG⟩ := X'.same
    have ne : ∀ b, b ≠ I → b ∉ [I] := fun b hb hm => hb (List.mem_singleton.mp hm)
    refine ⟨⟨h', tk, gs, rfl, hG⟩, ht, fun b o e => hk' b o (ne b fun q => by rw [q, hgI] at e; cases e) (X'.keep b o e), X'.ns.at' fun o e => hk' _ o (ne _ (Ne.symm hIL)) e, X'.noL, fun n c hc => ?_, X'.apart, X'.uniq, X'.noC, fun p hp => ?_⟩
    · obtain ⟨o, e, d⟩ := X'.cell n c hc
      exact ⟨o, hk' c o (ne c (Ne.symm (hIC n c hc))) e, d⟩
    · exact (X'.lists p hp).at fun o e => hk' _ o (ne _ (hIk i _ _ _ hS (X'.lists p hp).isList)) e
  by_cases hlt : i < as.length
  · refine wpAny_with_toks (n := 1) X'.toks (W.item i s' _ _ hlt hS fun v h' tk hPv hS' hk' ht => ?_)
    obtain ⟨a, ea, ka⟩ := hP i v hPv
    have X₃ := moved h' tk hk' ht
    obtain ⟨g', gg, X₄, gm, hg'⟩ := X₃.rebase muts hm
    refine wpAny_assign_Name (store_local X₄ hl hk fun s₅ X₅ => ?_)
    have kept : ∀ s₆ : Shared, Ext g' s₆.heap → Sx (i + 1) s₆.heap := fun s₆ x₆ => W.frame _ _ _ hS' fun b hb o e => x₆ b o (hg' b o (good b hb).1 (good b hb).2.1 (good b hb).2.2 e)
    refine wpAny_mono (turn g' i a v m' cm' ls' s₅ _ gg gm ea ka hR X₅) (fun f s₆ h₆ => ?_) fun _ _ e => e
    cases f with
    | next =>
      obtain ⟨m₆, cm₆, ls₆, r₆, X₆⟩ := h₆
      exact ⟨as.length + 1 - (i + 1), ar_step hlt, i + 1, m₆, cm₆, ls₆, rfl, hlt, r₆, X₆.up gg, kept _ X₆.keep⟩
    | cont =>
      obtain ⟨m₆, cm₆, ls₆, r₆, X₆⟩ := h₆
      exact ⟨as.length + 1 - (i + 1), ar_step hlt, i + 1, m₆, cm₆, ls₆, rfl, hlt, r₆, X₆.up gg, kept _ X₆.keep⟩
    | brk =>
      obtain ⟨m₆, cm₆, ls₆, r₆, X₆⟩ := h₆
      exact fin _ _ _ _ r₆ (X₆.up gg)
    | ret v => obtain ⟨_, _, _, _, q⟩ := h₆; exact q
  · obtain rfl : i = as.length := Nat.le_antisymm hi (Nat.not_lt.mp hlt)
    refine wpAny_with_toks (n := 1) X'.toks (W.done s' _ _ hS fun h' tk hk' ht => wpAny_execs_nil ?_)
    exact fin _ _ _ _ hR (moved h' tk hk' ht)

theorem x_while {test : Expr} {body rest : List Stmt} (X : St G s₀ g env m cm ls s) (N : Nat)
    (R : Nat → (Str → Option Value) → (Str → Option Value) → List (Addr × List Value) → Prop) (h0 : R N m cm ls)
    (D : (Str → Option Value) → (Str → Option Value) → List (Addr × List Value) → Prop)
    (turn : ∀ k m cm ls s', R k m cm ls → St G s₀ g env m cm ls s' →
      ∃ b, Tr prog w A env test s'.heap b ∧ (b = true → ∀ s'' E', St G s₀ g env m cm ls s'' → wpAny (model prog w) A (execs body env) (fun f s₃ => match f with
        | .next | .cont => ∃ k' m' cm' ls', k' < k ∧ R k' m' cm' ls' ∧ St G s₀ g env m' cm' ls' s₃
        | .brk => ∃ m' cm' ls', D m' cm' ls' ∧ St G s₀ g env m' cm' ls' s₃
        | .ret v => Q (.ret v) s₃) E' s'') ∧ (b = false → D m cm ls))
    (fin : ∀ m cm ls s', D m cm ls → St G s₀ g env m cm ls s' → wpAny (model prog w) A (execs rest env) Q E s') :
    wpAny (model prog w) A (execs (.While test body [] pos :: rest) env) Q E s := by
  refine wpAny_execs_cons (wpAny_While ?_)
  refine codeAny_whileLoop (fun k s' => ∃ m cm ls, R k m cm ls ∧ St G s₀ g env m cm ls s') ?_ N ⟨m, cm, ls, h0, X⟩
  rintro k s' ⟨m', cm', ls', hR, X'⟩
  obtain ⟨b, ht, hb, hf⟩ := turn k m' cm' ls' s' hR X'
  refine ht.use (Ext.refl _) X'.toks fun s₁ k₁ _ t₁ => ?_
  have X₁ := X'.kept k₁ t₁
  cases b with
  | true =>
    rw [if_pos rfl]
    refine wpAny_mono (hb rfl s₁ _ X₁) (fun f s₃ h₃ => ?_) fun _ _ e => e
    cases f with
    | next => obtain ⟨k', m₃, cm₃, ls₃, hk, r, x⟩ := h₃; exact ⟨k', hk, m₃, cm₃, ls₃, r, x⟩
    | cont => obtain ⟨k', m₃, cm₃, ls₃, hk, r, x⟩ := h₃; exact ⟨k', hk, m₃, cm₃, ls₃, r, x⟩
    | brk => obtain ⟨m₃, cm₃, ls₃, r, x⟩ := h₃; exact fin _ _ _ _ r x
    | ret v => exact h₃
  | false =>
    rw [if_neg Bool.false_ne_true]
    exact wpAny_execs_nil (fin _ _ _ _ (hf rfl) X₁)

/-! entering a def -/
noncomputable def Room (A : Around) (k : Nat) : Prop := A.handled = none ∧ A.depth + k < recursionLimit ∧ A.units + 8 * k + 8 < cLine
theorem Room.deeper {k : Nat} (R : Room A (k + 1)) (env : Env) : Room (A.deeper env) k := ⟨R.1, by have := R.2.1; show A.depth + 1 + k < _; omega, by have := R.2.2; show A.units + 3 + 8 * k + 8 < _; omega⟩
theorem Room.less {k j : Nat} (R : Room A k) (h : j ≤ k) : Room A j := ⟨R.1, by have := R.2.1; omega, by have := R.2.2; omega⟩
theorem Room.units {k : Nat} (R : Room A k) : A.units < cLine := by have := R.2.2; omega
theorem Room.depth {k : Nat} (R : Room A k) : A.depth < recursionLimit := by have := R.2.1; omega

theorem lookup_of_mem_uniq : ∀ {l : List (Str × Addr)}, ((l.map (·.1)).Nodup) → ∀ {n : Str} {c : Addr}, (n, c) ∈ l → l.lookup n = some c
  | q :: r, hnd, n, c, hm => by
    have h := List.nodup_cons.mp hnd
    rcases List.mem_cons.mp hm with e | hm
    · rw [← e, List.lookup_cons]; simp
    · have : n ≠ q.1 := fun e => h.1 (by show q.1 ∈ _; rw [← e]; exact List.mem_map_of_mem (f := (·.1)) hm)
      rw [List.lookup_cons]
      have hb : (n == q.1) = false := by simpa using this
      rw [hb]; exact lookup_of_mem_uniq h.2 hm

theorem cl_def {f : Addr} {o : Obj} {fd : FuncData} {body : List Stmt} {vals : List Value} {binds : List (Str × Value)} {h : Heap} {P : Value → Heap → Prop}
    (hroom : A.depth < recursionLimit) (ho : h.get? f = some o) (hdata : o.data = .func fd) (hlim : h.NoLimit) (hcd : h.CodeRec fd.code fd.qualname)
    (hbody : fd.body = .stmts body) (hbind : bindArgs fd ⟨vals, []⟩ = pure binds) (hclo : fd.closure = [])
    (hkind : ∀ n, ∀ x ∈ binds, fd.scope.names.lookup x.1 = some .local ∨ (fd.scope.names.lookup x.1 = some .cell ∧ ((cellsFrom n fd.scope.names []).lookup x.1).isSome = true))
    (hnd : ((cellsFrom 0 fd.scope.names []).map (·.1)).Nodup)
    (go : ∀ (s s₁ : Shared) (L : Addr), Ext h s.heap → 0 < s.toks → L = s.heap.objs.size →
      St (· = s.gens) s s.heap (callEnvC fd L f) (bindL (callEnvC fd L f).kindOf binds fun _ => none) (bindC (callEnvC fd L f).kindOf binds fun _ => none) [] s₁ →
      wpAny (model prog w) (A.deeper (callEnvC fd L f)) (execs body (callEnvC fd L f)) (fun fl s' => (∃ m cm ls, St (· = s.gens) s s.heap (callEnvC fd L f) m cm ls s') ∧ P (match fl with | .ret v => v | _ => .none) s'.heap) (fun _ _ => False) s₁)
    (hco : fd.scope.isCoroutine = false := by rfl) (hgen : fd.scope.isGenerator = false := by rfl) (hk : fd.scope.kind = .function := by rfl) :
    Cl prog w A (.ref f) vals h P := fun s hx ht => by
  refine wpAny_call ?_
  refine codeAny_call_function hroom (hx _ _ ho) hdata hco hgen hbody (hcd.keeps hx) ?_
  rw [hbind, hclo]
  refine wpAny_pure (wpAny_with_toks (n := 1) ht (wpAny_newFunctionEnv_cells hk (hkind _) fun env he s₁ x ht₁ => ?_))
  subst he
  have fresh : ∀ a, s.heap.objs.size ≤ a → s.heap.get? a = none := fun a ha => by
    cases e : s.heap.get? a with
    | none => rfl
    | some o => exact absurd (Heap.lt_size e) (Nat.not_lt.mpr ha)
  have hnd' : ((cellsFrom (s.heap.objs.size + 1) fd.scope.names []).map (·.1)).Nodup := by
    rw [cellsFrom_names fd.scope.names (s.heap.objs.size + 1) 0 [] [] rfl]; exact hnd
  obtain ⟨h₁, tk₁, e₁, k₁⟩ := x.done
  have X : St (· = s.gens) s s.heap (callEnvC fd s.heap.objs.size f) (bindL (callEnvC fd s.heap.objs.size f).kindOf binds fun _ => none) (bindC (callEnvC fd s.heap.objs.size f).kindOf binds fun _ => none) [] s₁ := by
    refine ⟨⟨h₁, tk₁, s.gens, e₁, rfl⟩, ht₁, x.toInCall.keep, x.toInCall.ns, fresh _ (Nat.le_refl _), fun n c hc => x.cell n c (lookup_of_mem_uniq hnd' hc), x.apart, fun n c c' h1 h2 => ?_, fun n c hc => fresh _ (Nat.le_of_lt (x.above n c hc)), fun p hp => nomatch hp⟩
    have := lookup_of_mem_uniq hnd' h1
    rw [lookup_of_mem_uniq hnd' h2] at this
    exact (Option.some.inj this).symm
  refine ⟨(hlim.keeps hx).keeps x.toInCall.keep, codeAny_func ?_⟩
  refine wpAny_mono (go s s₁ _ hx ht rfl X) (fun fl s' h' => ?_) fun _ _ h' => h'.elim
  obtain ⟨⟨m', cm', ls', X'⟩, p⟩ := h'
  obtain ⟨h₂, tk₂, gs, e₂, hg⟩ := X'.same
  subst hg
  have : Keeps s s' := ⟨h₂, tk₂, e₂, by have := X'.keep; rw [e₂] at this; exact this⟩
  exact ⟨this, p⟩
end
end Mine

end

section
open PySem PySem.W PyProof.Rows PySem.Spec
namespace Mine

/-- the i-th statement of the top, a def -/
noncomputable def defAt (i : Nat) : DefItem := match PySem.Challenge.pw_wr0026_01.main.body[i]? with
  | some (.FunctionDef name args body _ _ _ scope _ _ pos) => ⟨name, args, body, scope, pos⟩
  | _ => ⟨Str.empty, ⟨[], [], none, [], [], none, []⟩, [], ⟨.function, [], false, false, []⟩, ⟨0, 0, 0, 0⟩⟩

/-- what the top holds -/
structure Gl (mg mb : Str → Option Value) (h : Heap) : Prop where
  g : h.Ns mainGlobals mg
  b : h.Ns builtinsNs mb
  lim : h.NoLimit
  fn : ∀ i ∈ [2, 4, 5, 9, 12, 13, 14, 16, 17, 18, 19], ∃ a o pm c doc, mg (defAt i).name = some (.ref a) ∧ h.get? a = some o ∧
    o.data = .func (Calls.docDef (defAt i).name (defAt i).params (defAt i).body (defAt i).scope pm (.ref c) doc) ∧ h.CodeRec (.ref c) (defAt i).name
  bi : ∀ x ∈ (["len", "enumerate", "range", "max", "min", "sum"] : List String), mg (Str.ofString x) = none ∧ mb (Str.ofString x) = bootBuiltins (Str.ofString x)
  el : ∃ t, mg (Str.ofString "ELLIPSIS_MARKER") = some (.str (S [46, 46, 46]) t)
theorem Gl.up {mg mb : Str → Option Value} {h h' : Heap} (G : Gl mg mb h) (x : Ext h h') : Gl mg mb h' :=
  ⟨G.g.keeps x, G.b.keeps x, G.lim.keeps x, fun i hi => by
    obtain ⟨a, o, pm, c, doc, h1, h2, h3, h4⟩ := G.fn i hi
    exact ⟨a, o, pm, c, doc, h1, x _ _ h2, h3, h4.keeps x⟩, G.bi, G.el⟩

section
variable {prog : Program} {w : World} {A : Around} {env : Env} {mg mb : Str → Option Value} {h : Heap} {pos : Pos}
theorem ev_len {np : Pos} {e : Expr} {a : List Nat} (G : Gl mg mb h) (hg : env.globals = mainGlobals) (hb : env.builtins = builtinsNs) (he : Ev prog w A env e h (IsS a)) (ha : a.length ≤ 100000)
    (hk : env.scope.kind = .function := by rfl) (hl : env.kindOf (Str.ofString "len") = some .globalImplicit := by rfl) (hst : starEach [e] env = [(false, eval e env)] := by rfl) :
    Ev prog w A env (.Call (.Name (Str.ofString "len") np) [e] [] pos) h (IsI a.length) :=
  ev_call_builtin (id := "len") (ev_builtin (hg ▸ G.g) (G.bi "len" (by simp)).1 (hb ▸ G.b) ((G.bi "len" (by simp)).2.trans (by rfl)) hk hl) (args_more he args_none (fun _ _ _ _ p => p) hst)
    (fun vs h' x ⟨v, vs', e1, ⟨t, e2⟩, e3⟩ => by subst e1 e2 e3; exact cl_len_str ha) hst
theorem ev_lenL {np : Pos} {e : Expr} {R : List Value → Prop} {n : Nat} (G : Gl mg mb h) (hg : env.globals = mainGlobals) (hb : env.builtins = builtinsNs) (he : Ev prog w A env e h (IsL R)) (hn : ∀ ys, R ys → ys.length = n) (hs : n ≤ 100000)
    (hk : env.scope.kind = .function := by rfl) (hl : env.kindOf (Str.ofString "len") = some .globalImplicit := by rfl) (hst : starEach [e] env = [(false, eval e env)] := by rfl) :
    Ev prog w A env (.Call (.Name (Str.ofString "len") np) [e] [] pos) h (IsI n) :=
  ev_call_builtin (id := "len") (ev_builtin (hg ▸ G.g) (G.bi "len" (by simp)).1 (hb ▸ G.b) ((G.bi "len" (by simp)).2.trans (by rfl)) hk hl) (args_more he args_none (fun _ _ _ x p => p.stay x) hst)
    (fun vs h' x ⟨v, vs', e1, p, e3⟩ => by subst e1 e3; exact cl_len_list p hn hs) hst
/-- one method of texts with one text -/
theorem ev_smeth1 {o e : Expr} {name : Str} {id : String} {apos : Pos} {a b : List Nat} {P : Value → Heap → Prop} (ho : Ev prog w A env o h (IsS a)) (he : Ev prog w A env e h (IsS b)) (slot : Slot "str" name id) (hty : typeOf (.builtin id) = pure (.type "method_descriptor"))
    (go : ∀ t u h', Ext h h' → Cl prog w A (.builtin id) [.str (S a) t, .str (S b) u] h' P)
    (hbase : attributeBase o name env (eval o env) = eval o env := by rfl) (hline : (apos.endLine == pos.line) = true := by rfl) (hst : starEach [e] env = [(false, eval e env)] := by rfl) :
    Ev prog w A env (.Call (.Attribute o name apos) [e] [] pos) h P :=
  ev_method (T := "str") ho (fun _ _ _ _ p => p) (args_more he args_none (fun _ _ _ _ p => p) hst) (by simp) F.plainAttrs_str slot hty (fun v s ⟨t, e⟩ => by subst e; exact ⟨typeIs_str _ _ _, fun a e => nomatch e⟩)
    (fun v vs h' x ⟨t, e0⟩ ⟨v', vs', e1, ⟨u, e2⟩, e3⟩ => by subst e0 e1 e2 e3; exact go t u h' x) hbase hline (by rw [hst]; rfl) ⟨e, [], rfl, hst⟩
theorem tr_str {e : Expr} {a : List Nat} (he : Ev prog w A env e h (IsS a)) (ha : a.length ≤ 100000)
    (hs : PySem.isTrue e env (eval e env) = (do let v ← eval e env; standAt e.pos; holding [v] (truthy v)) := by rfl) : Tr prog w A env e h (!a.isEmpty) :=
  tr_val he (fun v s ⟨t, e⟩ => by
    subst e
    refine P.truthy_str (by rw [S_len]; omega) ⟨keeps_tok (keeps_refl s) _, ?_⟩
    rw [S_len]; cases a with
    | nil => rfl
    | cons x r => simp; omega) hs

variable {G : Array GenState → Prop} {s₀ s s' : Shared} {g : Heap} {m cm : Str → Option Value} {ls : List (Addr × List Value)} {Q : Flow → Shared → Prop} {E : Value → Shared → Prop}
theorem x_assert {test : Expr} {msg : Option Expr} {rest : List Stmt} (X : St G s₀ g env m cm ls s) (H : Tr prog w A env test s.heap true)
    (k : ∀ s', St G s₀ g env m cm ls s' → wpAny (model prog w) A (execs rest env) Q E s') : wpAny (model prog w) A (execs (.Assert test msg pos :: rest) env) Q E s :=
  wpAny_execs_cons (wpAny_Assert_holds (H.use (Ext.refl _) X.toks fun s' k1 _ t1 => ⟨rfl, k s' (X.kept k1 t1)⟩))
/-- del xs[i], xs a local that holds the list D, the first of the ledger -/
theorem x_del {o i : Expr} {D : Addr} {ys : List Value} {j : Int} {n : Nat} {dp : Pos} {rest : List Stmt} (X : St G s₀ g env m cm ((D, ys) :: ls) s) (ho : Ev prog w A env o s.heap (IsV (.ref D))) (hi : Ev prog w A env i s.heap (IsI j))
    (hj : seqIndex? j ys.length = some n) (hf : Builtin.List.listFitsIndex j = true) (hsz : ys.length ≤ 100000) (hD : g.get? D = none) (hap : ∀ p ∈ ls, p.1 ≠ D)
    (k : ∀ s', St G s₀ g env m cm ((D, ys.eraseIdx n) :: ls) s' → wpAny (model prog w) A (execs rest env) Q E s') :
    wpAny (model prog w) A (execs (.Delete [.Subscript o i dp] pos :: rest) env) Q E s := by
  refine wpAny_execs_cons (wpAny_Delete (wpAny_deleteEach_cons (wpAny_delete_Subscript (ho.use (Ext.refl _) X.toks fun ov s₁ k₁ x₁ t₁ p => ?_))))
  cases (show ov = .ref D from p)
  refine hi.use x₁ t₁ fun iv s₂ k₂ x₂ t₂ ⟨t, e⟩ => ?_
  subst e
  have X₂ := (X.kept k₁ t₁).kept k₂ t₂
  have hpl := X₂.lists (D, ys) (by simp)
  refine wpAny_delItem_plain hpl hf (k := n) (by simpa using hj) (fun h' hl' hs' => ?_) (by rw [sizeLine_eq]; simp; omega)
  refine wpAny_deleteEach_nil (k _ ?_)
  have hl2 : h'.PlainList D (ys.eraseIdx n).toArray := by
    have e : ys.toArray.eraseIdxIfInBounds n = (ys.eraseIdx n).toArray := by simp
    rw [e] at hl'; exact hl'
  have X₃ : St G s₀ g env m cm ls { s₂ with heap := h', toks := s₂.toks } := (X₂.less (ls' := ls) fun p hp => by simp [hp]).change (tk := s₂.toks) hs' t₂ hD (X₂.ns.sameBut hs' (Ne.symm (ns_ne_list X₂.ns hpl.isList)))
    (fun n c hc => (X₂.cell n c hc).sameBut hs' (Ne.symm (cell_ne_list (X₂.cell n c hc) hpl.isList))) hap
  exact X₃.more hl2
/-- x -= e -/
theorem x_isub {x : Str} {px : Pos} {e : Expr} {a b : Int} {t : Tok} {rest : List Stmt} (X : St G s₀ g env m cm ls s) (hm : m x = some (.int a t)) (H : Ev prog w A env e s.heap (IsI b)) (hl : env.kindOf x = some .local) (hk : env.scope.kind = .function)
    (k : ∀ u s', St G s₀ g env (upd m x (.int (a - b) u)) cm ls s' → wpAny (model prog w) A (execs rest env) Q E s') :
    wpAny (model prog w) A (execs (.AugAssign (.Name x px) .Sub e pos :: rest) env) Q E s :=
  wpAny_execs_cons (wpAny_AugAssign_Name (wpAny_loadName_local hk hl X.ns hm (H.use (Ext.refl _) X.toks fun v s₁ k₁ x₁ t₁ ⟨u, e⟩ => by
    subst e
    exact P.isub_int (store_local (s := { s₁ with toks := s₁.toks + 1 }) ((X.kept k₁ t₁).kept (keeps_tok (keeps_refl s₁) _) (Nat.succ_pos _)) hl hk fun s' X' => k _ s' X'))))
theorem x_iadd {x : Str} {px : Pos} {e : Expr} {a b : Int} {t : Tok} {rest : List Stmt} (X : St G s₀ g env m cm ls s) (hm : m x = some (.int a t)) (H : Ev prog w A env e s.heap (IsI b)) (hl : env.kindOf x = some .local) (hk : env.scope.kind = .function)
    (k : ∀ u s', St G s₀ g env (upd m x (.int (a + b) u)) cm ls s' → wpAny (model prog w) A (execs rest env) Q E s') :
    wpAny (model prog w) A (execs (.AugAssign (.Name x px) .Add e pos :: rest) env) Q E s :=
  wpAny_execs_cons (wpAny_AugAssign_Name (wpAny_loadName_local hk hl X.ns hm (H.use (Ext.refl _) X.toks fun v s₁ k₁ x₁ t₁ ⟨u, e⟩ => by
    subst e
    exact P.iadd_int (store_local (s := { s₁ with toks := s₁.toks + 1 }) ((X.kept k₁ t₁).kept (keeps_tok (keeps_refl s₁) _) (Nat.succ_pos _)) hl hk fun s' X' => k _ s' X'))))
/-- x, y = a, b (ints) -/
theorem x_pair {x y : Str} {px py tp vp : Pos} {k1 k2 : Nat} {e e' : Expr} {a b : Int} {rest : List Stmt} (hh : A.handled = none) (X : St G s₀ g env m cm ls s) (He : Ev prog w A env e s.heap (IsI a)) (He' : Ev prog w A env e' s.heap (IsI b))
    (hx : env.kindOf x = some .local) (hy : env.kindOf y = some .local) (hk : env.scope.kind = .function)
    (k : ∀ t u s', St G s₀ g env (upd (upd m y (.int b u)) x (.int a t)) cm ls s' → wpAny (model prog w) A (execs rest env) Q E s')
    (hs : swapsWithSole [.Tuple [.Name x px, .Name y py] k1 tp] (.Tuple [e, e'] k2 vp) pos.line env = pure false := by rfl)
    (hw : swappedStores [.Tuple [.Name x px, .Name y py] k1 tp] (.Tuple [e, e'] k2 vp) env = pure (some [x, y]) := by rfl)
    (hst : starEach [e, e'] env = [(false, eval e env), (false, eval e' env)] := by rfl) :
    wpAny (model prog w) A (execs (.Assign [.Tuple [.Name x px, .Name y py] k1 tp] (.Tuple [e, e'] k2 vp) pos :: rest) env) Q E s := by
  refine wpAny_execs_cons (Assign_Tuple_swapped (names := [x, y]) (wpAny_Tuple_spliced ?_) hs hw)
  have hst' : starEach [e'] env = [(false, eval e' env)] := by
    have h1 : starEach [e, e'] env = (starEach [e] env) ++ starEach [e'] env := by
      cases e <;> rfl
    have h2 := hst
    rw [h1] at h2
    have h3 : (starEach [e] env).length = 1 := by cases e <;> rfl
    obtain ⟨q, hq⟩ := List.length_eq_one_iff.mp h3
    rw [hq] at h2
    exact (List.cons.inj h2).2
  have hst2 : starEach [e, e'] env = (false, eval e env) :: starEach [e'] env := by rw [hst, hst']
  refine wpAny_mono (args_more He (args_more He' args_none (fun _ _ _ _ p => p) hst') (fun _ _ _ _ p => p) hst2 _ s (fun vs s' => ∃ t u, vs = [.int a t, .int b u] ∧ Keeps s s' ∧ 0 < s'.toks) (Ext.refl _) X.toks
    (fun vs s' k1 _ t1 r => by obtain ⟨_, _, rfl, ⟨t, rfl⟩, _, _, rfl, ⟨u, rfl⟩, rfl⟩ := r; exact ⟨t, u, rfl, k1, t1⟩)) (fun vs s₁ h₁ => ?_) fun _ _ f => f.elim
  obtain ⟨t, u, rfl, k₁, t₁⟩ := h₁
  refine ⟨by rw [sizeLine_eq]; simp, ?_⟩
  have X₁ := (X.kept k₁ t₁).kept (s' := { s₁ with heap := s₁.heap.push { cls := .type "tuple", data := .seq [Value.int a t, Value.int b u].toArray } }) (keeps_push (keeps_refl s₁) _) t₁
  refine wpAny_unpackItems_tuple (items := [Value.int a t, Value.int b u].toArray) hh ⟨_, Heap.get?_push_size _ rfl, rfl, _, rfl⟩ fun h' hext => ?_
  have X₂ : St G s₀ g env m cm ls { s₁ with heap := h' } := by
    refine X₁.kept (s' := { s₁ with heap := h' }) ⟨h', s₁.toks, rfl, fun b o e => hext b o (Nat.ne_of_lt ?_) e⟩ t₁
    have := Heap.lt_size e; exact this
  refine wpAny_assignInOrder_more (wpAny_bindName (store_local X₂ hy hk fun s₃ X₃ => ?_))
  refine wpAny_assignInOrder_more (wpAny_bindName (store_local X₃ hx hk fun s₄ X₄ => ?_))
  exact wpAny_assignInOrder_none (k t u s₄ X₄)
end
end Mine

end

section
open PySem PySem.W PyProof.Rows PySem.Spec
namespace Mine
section
variable {prog : Program} {w : World} {A : Around} {env : Env} {mg mb : Str → Option Value} {h : Heap} {pos : Pos}

/-- the frame of the i-th def -/
noncomputable def envAt (i : Nat) (pm : Value) (c : Addr) (doc : Value) (L f : Addr) : Env := callEnvC (Calls.docDef (defAt i).name (defAt i).params (defAt i).body (defAt i).scope pm (.ref c) doc) L f

/-- entering the i-th def -/
theorem cl_top {i : Nat} {f : Addr} {vals : List Value} {binds : List (Str × Value)} {P : Value → Heap → Prop} (G : Gl mg mb h) (hi : i ∈ [2, 4, 5, 9, 12, 13, 14, 16, 17, 18, 19])
    (hf : mg (defAt i).name = some (.ref f)) (hroom : A.depth < recursionLimit)
    (hbind : ∀ pm c doc, bindArgs (Calls.docDef (defAt i).name (defAt i).params (defAt i).body (defAt i).scope pm (.ref c) doc) ⟨vals, []⟩ = pure binds)
    (hkind : ∀ n, ∀ x ∈ binds, (defAt i).scope.names.lookup x.1 = some .local ∨ ((defAt i).scope.names.lookup x.1 = some .cell ∧ ((cellsFrom n (defAt i).scope.names []).lookup x.1).isSome = true))
    (hnd : ((cellsFrom 0 (defAt i).scope.names []).map (·.1)).Nodup)
    (go : ∀ (pm : Value) (c : Addr) (doc : Value) (L : Addr) (s s₁ : Shared), Ext h s.heap → 0 < s.toks → Gl mg mb s.heap →
      St (· = s.gens) s s.heap (envAt i pm c doc L f) (bindL (envAt i pm c doc L f).kindOf binds fun _ => none) (bindC (envAt i pm c doc L f).kindOf binds fun _ => none) [] s₁ →
      wpAny (model prog w) (A.deeper (envAt i pm c doc L f)) (execs (defAt i).body (envAt i pm c doc L f)) (fun fl s' => (∃ m cm ls, St (· = s.gens) s s.heap (envAt i pm c doc L f) m cm ls s') ∧ P (match fl with | .ret v => v | _ => .none) s'.heap) (fun _ _ => False) s₁)
    (hco : (defAt i).scope.isCoroutine = false := by rfl) (hgen : (defAt i).scope.isGenerator = false := by rfl) (hk : (defAt i).scope.kind = .function := by rfl) :
    Cl prog w A (.ref f) vals h P := by
  obtain ⟨a, o, pm, c, doc, h1, h2, h3, h4⟩ := G.fn i hi
  rw [hf] at h1; cases h1
  refine cl_def hroom h2 h3 G.lim h4 rfl (hbind pm c doc) rfl hkind hnd ?_ hco hgen hk
  intro s s₁ L hx ht hL X
  subst hL
  exact go pm c doc _ s s₁ hx ht (G.up hx) X

variable {G : Array GenState → Prop} {s₀ s s' : Shared} {g : Heap} {m cm : Str → Option Value} {ls : List (Addr × List Value)} {Q : Flow → Shared → Prop} {E : Value → Shared → Prop}
theorem x_assignLF {R : List Value → Prop} {x : Str} {px : Pos} {e : Expr} {rest : List Stmt} (X : St G s₀ g env m cm ls s) (H : Ev prog w A env e s.heap (fun v h' => ∃ D ys, v = .ref D ∧ h'.PlainList D ys.toArray ∧ R ys ∧ s.heap.get? D = none)) (hl : env.kindOf x = some .local) (hk : env.scope.kind = .function)
    (k : ∀ D ys s', R ys → g.get? D = none → (∀ p ∈ ls, p.1 ≠ D) → St G s₀ g env (upd m x (.ref D)) cm ((D, ys) :: ls) s' → wpAny (model prog w) A (execs rest env) Q E s') (hs : swapsWith e (some (.Name x px)) pos.line env = pure false := by rfl) :
    wpAny (model prog w) A (execs (.Assign [.Name x px] e pos :: rest) env) Q E s :=
  wpAny_execs_cons (wpAny_Assign_Name (H.use (Ext.refl _) X.toks fun v s₁ k₁ _ t₁ ⟨D, ys, e, hl', r, hD⟩ => by
    subst e
    refine store_local ((X.kept k₁ t₁).more hl') hl hk fun s' X' => k D ys s' r ?_ (fun p hp e => ?_) X'
    · cases e : g.get? D with
      | none => rfl
      | some o => have := X.keep _ _ e; rw [hD] at this; cases this
    · obtain ⟨o, e', _⟩ := (X.lists p hp).isList
      rw [e, hD] at e'; cases e') hs)

theorem ev_item_neg {α : Type} {K : α → Value → Prop} {value slice : Expr} {as : List α} {i : Int} {a : α} (hv : Ev prog w A env value h (IsL (Pts K as))) (hi : Ev prog w A env slice h (IsI i))
    (h0 : i < 0) (h1 : -(as.length : Int) ≤ i) (hs1 : as.length ≤ 100000) (ha : as[(i + as.length).toNat]? = some a) (hs : ∀ o i, subscripted slice false o i = operate [o, i] (getItem o i) := by intro _ _; rfl) :
    Ev prog w A env (.Subscript value slice pos) h (fun v _ => K a v) :=
  sub_go slot_list_getitem.lookup hv hi (fun _ _ _ x p => p.stay x) list_TypeIs (fun o i => .inl (hs o i)) fun o j s hx ⟨D, ys, e, hl, r⟩ ⟨t, e'⟩ => by
    subst e e'
    obtain ⟨y, hy, k⟩ := r.2 _ _ ha
    have hz : ys.toArray.size = as.length := by simp [r.1]
    exact wpAny_getItem_list_neg hl.isList h0 (by rw [hz]; exact h1) (by omega) (by rw [hz]; simpa using hy) ⟨keeps_refl s, k⟩
end

section
variable {prog : Program} {w : World} {A : Around} {env : Env} {h : Heap} {pos : Pos}
theorem ev_neg {e : Expr} {i : Int} (he : Ev prog w A env e h (IsI i)) : Ev prog w A env (.UnaryOp .USub e pos) h (IsI (-i)) := fun s hx ht =>
  wpAny_UnaryOp (he.use hx ht fun v s' k _ _ ⟨t, e⟩ => by subst e; exact P.neg_int ⟨keeps_tok k _, _, rfl⟩)
theorem Tr.eq {e : Expr} {b b' : Bool} (he : b = b') (T : Tr prog w A env e h b) : Tr prog w A env e h b' := he ▸ T
end

/-! what _ellipsis_match comes to -/
noncomputable def emGo (got : List Nat) : List (List Nat) → Nat → Nat → Bool
  | [], _, _ => true
  | w :: r, lo, hi => match fnd got w lo hi with | none => false | some k => emGo got r (k + w.length) hi
noncomputable def em (ps : List (List Nat)) (got : List Nat) : Bool :=
  let a := ps.headD []
  let ps1 := if a.isEmpty then ps else ps.tail
  let z := ps1.getLastD []
  let ps2 := if z.isEmpty then ps1 else ps1.dropLast
  a.isPrefixOf got && (z.isSuffixOf got && (decide (a.length + z.length ≤ got.length) && emGo got ps2 a.length (got.length - z.length)))

section
variable {prog : Program} {w : World} {A : Around} {env : Env} {mg mb : Str → Option Value} {h : Heap} {pos : Pos}
theorem ev_dots {np : Pos} (G : Gl mg mb h) (hg : env.globals = mainGlobals)
    (hk : env.scope.kind = .function := by rfl) (hl : env.kindOf (Str.ofString "ELLIPSIS_MARKER") = some .globalImplicit := by rfl) :
    Ev prog w A env (.Name (Str.ofString "ELLIPSIS_MARKER") np) h (IsS [46, 46, 46]) := by
  obtain ⟨t, e⟩ := G.el
  exact (ev_global (hg ▸ G.g) e hk hl).isS

theorem St.loc {G : Array GenState → Prop} {s₀ s : Shared} {g : Heap} {m cm : Str → Option Value} {ls : List (Addr × List Value)} {x : Str} {v : Value} {np : Pos} (X : St G s₀ g env m cm ls s) (hv : m x = some v)
    (hk : env.scope.kind = .function := by rfl) (hl : env.kindOf x = some .local := by rfl) (hd : (x == ("__debug__" : Str)) = false := by decide) : Ev prog w A env (.Name x np) s.heap (IsV v) := ev_local X.ns hv hk hl hd
theorem St.locS {G : Array GenState → Prop} {s₀ s : Shared} {g : Heap} {m cm : Str → Option Value} {ls : List (Addr × List Value)} {x : Str} {l : List Nat} {np : Pos} (X : St G s₀ g env m cm ls s) (hv : ∃ t, m x = some (.str (S l) t))
    (hk : env.scope.kind = .function := by rfl) (hl : env.kindOf x = some .local := by rfl) (hd : (x == ("__debug__" : Str)) = false := by decide) : Ev prog w A env (.Name x np) s.heap (IsS l) := by
  obtain ⟨t, e⟩ := hv; exact (ev_local X.ns e hk hl hd).isS
theorem St.locI {G : Array GenState → Prop} {s₀ s : Shared} {g : Heap} {m cm : Str → Option Value} {ls : List (Addr × List Value)} {x : Str} {i : Int} {np : Pos} (X : St G s₀ g env m cm ls s) (hv : ∃ t, m x = some (.int i t))
    (hk : env.scope.kind = .function := by rfl) (hl : env.kindOf x = some .local := by rfl) (hd : (x == ("__debug__" : Str)) = false := by decide) : Ev prog w A env (.Name x np) s.heap (IsI i) := by
  obtain ⟨t, e⟩ := hv; exact (ev_local X.ns e hk hl hd).isI
theorem St.locL {G : Array GenState → Prop} {s₀ s : Shared} {g : Heap} {m cm : Str → Option Value} {ls : List (Addr × List Value)} {x : Str} {R : List Value → Prop} {D : Addr} {ys : List Value} {np : Pos} (X : St G s₀ g env m cm ls s) (hv : m x = some (.ref D)) (hD : (D, ys) ∈ ls) (hR : R ys)
    (hk : env.scope.kind = .function := by rfl) (hl : env.kindOf x = some .local := by rfl) (hd : (x == ("__debug__" : Str)) = false := by decide) : Ev prog w A env (.Name x np) s.heap (IsL R) :=
  (ev_local X.ns hv hk hl hd).mono fun v h' hx e => by cases (show v = .ref D from e); exact ⟨D, ys, rfl, (X.lists _ hD).at fun o e => hx _ o e, hR⟩
theorem upd_at (m : Str → Option Value) (x : Str) (v : Value) : upd m x v x = some v := if_pos rfl
theorem upd_off {m : Str → Option Value} {x y : Str} {v : Value} (h : (y == x) = false) : upd m x v y = m y := if_neg (by simpa using h)

theorem kind_em (n : Nat) {a b : Value} : ∀ x ∈ [(Str.ofString "want", a), (Str.ofString "got", b)], (defAt 2).scope.names.lookup x.1 = some .local ∨ ((defAt 2).scope.names.lookup x.1 = some .cell ∧ ((cellsFrom n (defAt 2).scope.names []).lookup x.1).isSome = true) := by
  intro x hx
  rcases List.mem_cons.mp hx with rfl | hx
  · exact .inl rfl
  · rcases List.mem_cons.mp hx with rfl | hx
    · exact .inl rfl
    · cases hx

theorem cl_em_plain {f : Addr} {want got : List Nat} {t u : Tok} (G : Gl mg mb h) (hf : mg (defAt 2).name = some (.ref f)) (R : Room A 1)
   (hw : Txt.contains (S want) (S [46, 46, 46]) = false) : Cl prog w A (.ref f) [.str (S want) t, .str (S got) u] h (IsB (want == got)) := by
  refine cl_top G (by simp) hf R.depth (binds := [(Str.ofString "want", .str (S want) t), (Str.ofString "got", .str (S got) u)]) (fun _ _ _ => rfl) (fun n => kind_em n) (by decide +kernel) ?_
  intro pm c doc L s s₁ hx ht G' X
  refine x_if (b := true) X (tr_cmp (ev_dots (G'.up X.keep) rfl) (X.locS ⟨t, by rfl⟩) (fun _ _ _ _ p => p) (by
      have := cmp_notIn_str (prog := prog) (w := w) (A := A.deeper (envAt 2 pm c doc L f)) (h := s₁.heap) hw
      exact this)) fun s₂ X₂ => ?_
  rw [if_pos rfl]
  exact x_return (P := IsB (want == got)) X₂ (ev_cmp (X₂.locS ⟨t, by rfl⟩) (X₂.locS ⟨u, by rfl⟩) (fun _ _ _ _ p => p) cmp_eq_str) fun v s₃ p X₃ => ⟨⟨_, _, _, X₃⟩, p⟩

/-- what the later part of _ellipsis_match wants of the frame -/
structure EmIn (got : List Nat) (D : Addr) (lo hi : Nat) (m : Str → Option Value) : Prop where
  got : ∃ t, m (Str.ofString "got") = some (.str (S got) t)
  ws : m (Str.ofString "ws") = some (.ref D)
  lo : ∃ t, m (Str.ofString "startpos") = some (.int (lo : Int) t)
  hi : ∃ t, m (Str.ofString "endpos") = some (.int (hi : Int) t)

abbrev EmQ (s : Shared) (env : Env) (b : Bool) : Flow → Shared → Prop := fun fl s' => (∃ m cm ls, St (· = s.gens) s s.heap env m cm ls s') ∧ IsB b (match fl with | .ret v => v | _ => .none) s'.heap

theorem ev_find4 {o a b c : Expr} {apos : Pos} {x y : List Nat} {i j : Nat} (ho : Ev prog w A env o h (IsS x)) (ha : Ev prog w A env a h (IsS y)) (hb : Ev prog w A env b h (IsI (i : Int))) (hc : Ev prog w A env c h (IsI (j : Int))) (hj : j ≤ x.length)
    (hbase : attributeBase o (Str.ofString "find") env (eval o env) = eval o env := by rfl) (hline : (apos.endLine == pos.line) = true := by rfl)
    (hst1 : starEach [a, b, c] env = (false, eval a env) :: starEach [b, c] env := by rfl) (hst2 : starEach [b, c] env = (false, eval b env) :: starEach [c] env := by rfl) (hst3 : starEach [c] env = (false, eval c env) :: starEach [] env := by rfl) :
    Ev prog w A env (.Call (.Attribute o (Str.ofString "find") apos) [a, b, c] [] pos) h (IsI (fndI x y i j)) :=
  ev_method (T := "str") ho (fun _ _ _ _ p => p) (args_more ha (args_more hb (args_more hc args_none (fun _ _ _ _ p => p) hst3) (fun _ _ _ _ p => p) hst2) (fun _ _ _ _ p => p) hst1) (by simp) F.plainAttrs_str F.slot_str_find rfl
    (fun v s q => by obtain ⟨t, rfl⟩ := q; exact ⟨typeIs_str _ _ _, fun a e => nomatch e⟩)
    (fun v vs h' x q r => by obtain ⟨t, rfl⟩ := q; obtain ⟨_, _, rfl, ⟨u, rfl⟩, _, _, rfl, ⟨u2, rfl⟩, _, _, rfl, ⟨u3, rfl⟩, rfl⟩ := r; exact cl_find4 hj) hbase hline (by rw [hst1, hst2, hst3]; rfl) ⟨a, [b, c], rfl, hst1⟩

theorem emGo_cons (got a : List Nat) (r : List (List Nat)) (lo hi : Nat) : emGo got (a :: r) lo hi = match fnd got a lo hi with | none => false | some k => emGo got r (k + a.length) hi := rfl
theorem em_cells {pm : Value} {c : Addr} {doc : Value} {L f : Addr} : (envAt 2 pm c doc L f).cells = [] := rfl

theorem em_tail2 {pm : Value} {c : Addr} {doc : Value} {L f : Addr} {got : List Nat} {D : Addr} {ys : List Value} {ps : List (List Nat)} {lo hi : Nat} {m cm : Str → Option Value} {s s₁ : Shared} (R : Room A 0) (G : Gl mg mb s.heap)
    (hsz : got.length ≤ 1000) (hps : ∀ p ∈ ps, p.length ≤ 1000) (hhi : hi ≤ got.length)
    (X : St (· = s.gens) s s.heap (envAt 2 pm c doc L f) m cm [(D, ys)] s₁) (M : EmIn got D lo hi m) (hp : Pts KS ps ys) :
    wpAny (model prog w) A (execs ((defAt 2).body.drop 8) (envAt 2 pm c doc L f)) (EmQ s (envAt 2 pm c doc L f) (decide (lo ≤ hi) && emGo got ps lo hi)) (fun _ _ => False) s₁ := by
  refine x_if (b := decide ((hi : Int) < lo)) X (tr_cmp (X.locI M.lo) (X.locI M.hi) (fun _ _ _ _ p => p) cmp_gt_int) fun s₂ X₂ => ?_
  by_cases hlt : (hi : Int) < lo
  · rw [if_pos (by simpa using hlt)]
    have e : (decide (lo ≤ hi) && emGo got ps lo hi) = false := by
      rw [decide_eq_false (by omega)]; rfl
    rw [e]
    exact x_return (P := IsB false) X₂ ev_bool fun v s₃ p X₃ => ⟨⟨_, _, _, X₃⟩, p⟩
  · rw [if_neg (by simpa using hlt)]
    refine x_nil ?_
    have e : decide (lo ≤ hi) = true := decide_eq_true (by omega)
    rw [e, Bool.true_and]
    have nb : ¬ (D = (envAt 2 pm c doc L f).locals ∨ (∃ n, (n, D) ∈ (envAt 2 pm c doc L f).cells) ∨ D ∈ ([] : List Addr)) := by
      rintro (h | ⟨n, h⟩ | h)
      · exact ns_ne_list X₂.ns (X₂.lists _ List.mem_cons_self).isList h
      · rw [em_cells] at h; cases h
      · cases h
    refine x_for (KA := KS) (as := ps) X₂ [] (fun _ h => nomatch h) (fun _ h => nomatch h) (X₂.loc M.ws) (fun v h' hx e => by
        cases (show v = .ref D from e)
        exact fsrc_list R.1 ((X₂.lists (D, ys) List.mem_cons_self).at fun o e => hx _ o e) hp nb) (by rfl) (by rfl)
      (fun i m cm ls => ∃ lo', EmIn got D lo' hi m ∧ ls = [(D, ys)] ∧ emGo got (ps.drop i) lo' hi = emGo got ps lo hi) ⟨lo, M, rfl, rfl⟩ ?_ ?_
    · rintro g' i a v m cm ls s' E hg hgm hi' ⟨t, rfl⟩ ⟨lo', M, rfl, eg⟩ X₃
      have ed : ps.drop i = a :: ps.drop (i + 1) := by
        obtain ⟨hlt, e⟩ := List.getElem?_eq_some_iff.mp hi'
        rw [← e]; exact List.drop_eq_getElem_cons hlt
      rw [ed, emGo_cons] at eg
      have M₃ : EmIn got D lo' hi (upd m (Str.ofString "w") (.str (S a) t)) := ⟨M.got, M.ws, M.lo, M.hi⟩
      refine x_assign (K := fun v => ∃ t, v = .int (fndI got a lo' hi) t) X₃ (ev_find4 (X₃.locS M₃.got) (X₃.locS ⟨t, by rfl⟩) (X₃.locI M₃.lo) (X₃.locI M₃.hi) hhi) (by rfl) (by rfl) fun v s₄ ⟨u, hv⟩ X₄ => ?_
      subst hv
      refine x_if (b := decide (fndI got a lo' hi < 0)) X₄ (tr_cmp (X₄.locI ⟨u, by rfl⟩) ev_int (fun _ _ _ _ p => p) cmp_lt_int) fun s₅ X₅ => ?_
      cases ef : fnd got a lo' hi with
      | none =>
        have : fndI got a lo' hi = -1 := by unfold fndI; rw [ef]
        rw [if_pos (by rw [this]; rfl)]
        rw [ef] at eg
        refine x_return (P := IsB false) X₅ ev_bool fun v s₆ p X₆ => ⟨_, _, _, X₆, ⟨_, _, _, X₆.up hg⟩, ?_⟩
        rw [← eg]; exact p
      | some k =>
        have ek : fndI got a lo' hi = (k : Int) := by unfold fndI; rw [ef]
        rw [if_neg (by rw [ek]; simp)]
        rw [ef] at eg
        refine x_nil ?_
        refine x_iadd (a := fndI got a lo' hi) (b := (a.length : Int)) X₅ (t := u) (by rfl) (ev_len (G.up (hg.trans X₅.keep)) rfl rfl (X₅.locS ⟨t, by rfl⟩) (by have := hps a (List.mem_of_getElem? hi'); omega)) (by rfl) (by rfl) fun u' s₆ X₆ => ?_
        refine x_nil ⟨_, _, _, ⟨k + a.length, ?_, rfl, eg⟩, X₆⟩
        rw [ek]
        exact ⟨M.got, M.ws, ⟨u', by rfl⟩, M.hi⟩
    · rintro m cm ls s₃ ⟨lo', M, rfl, eg⟩ X₃
      rw [List.drop_length] at eg
      rw [← eg]
      exact x_return (P := IsB true) X₃ ev_bool fun v s₆ p X₆ => ⟨⟨_, _, _, X₆⟩, p⟩

theorem em_tail1 {pm : Value} {c : Addr} {doc : Value} {L f : Addr} {got : List Nat} {D : Addr} {ys : List Value} {ps : List (List Nat)} {lo : Nat} {m cm : Str → Option Value} {s s₁ : Shared} (R : Room A 0) (G : Gl mg mb s.heap)
    (hsz : got.length ≤ 1000) (hps : ∀ p ∈ ps, p.length ≤ 1000) (hn : ps.length ≤ 1000) (hne : ps ≠ []) (hD : s.heap.get? D = none)
    (X : St (· = s.gens) s s.heap (envAt 2 pm c doc L f) m cm [(D, ys)] s₁) (M : EmIn got D lo got.length m) (hp : Pts KS ps ys) :
    wpAny (model prog w) A (execs ((defAt 2).body.drop 6) (envAt 2 pm c doc L f)) (EmQ s (envAt 2 pm c doc L f) ((ps.getLastD []).isSuffixOf got &&
      (decide (lo + (ps.getLastD []).length ≤ got.length) && emGo got (if (ps.getLastD []).isEmpty then ps else ps.dropLast) lo (got.length - (ps.getLastD []).length)))) (fun _ _ => False) s₁ := by
  have hlen : 0 < ps.length := by cases ps <;> simp_all
  have hlast : ps[ps.length - 1]? = some (ps.getLastD []) := by
    rw [List.getLastD_eq_getLast?, ← List.getLast?_eq_getElem?]
    cases ps with
    | nil => exact absurd rfl hne
    | cons a r => rw [List.getLast?_cons]; rfl
  generalize hz : ps.getLastD [] = z at hlast ⊢
  have hzl : z.length ≤ 1000 := hps z (List.mem_of_getElem? hlast)
  refine x_assign (K := KS z) X (ev_item_neg (K := KS) (as := ps) (i := -1) (X.locL M.ws List.mem_cons_self hp) (ev_neg ev_int) (by omega) (by omega) (by omega) (by rw [show ((-1 : Int) + (ps.length : Int)).toNat = ps.length - 1 by omega]; exact hlast)) (by rfl) (by rfl) fun v s₂ ⟨t, hv⟩ X₂ => ?_
  subst hv
  have M₂ : EmIn got D lo got.length (upd m (Str.ofString "w") (.str (S z) t)) := ⟨M.got, M.ws, M.lo, M.hi⟩
  refine x_if X₂ (tr_str (X₂.locS ⟨t, by rfl⟩) (by omega)) fun s₃ X₃ => ?_
  by_cases hze : z = []
  · subst hze
    rw [if_neg (by simp)]
    refine x_nil ?_
    have := em_tail2 (prog := prog) (w := w) R G hsz hps (Nat.le_refl _) X₃ M₂ hp
    simp only [List.isEmpty_nil, if_true, List.length_nil, Nat.add_zero, Nat.sub_zero]
    have e : ([] : List Nat).isSuffixOf got = true := by simp
    rw [e, Bool.true_and]
    refine wpAny_mono this (fun _ _ h => ?_) fun _ _ h => h
    by_cases hlo : lo ≤ got.length
    · exact h
    · rw [decide_eq_false hlo] at h ⊢; exact h
  · have hzf : z.isEmpty = false := by cases z <;> simp_all
    rw [if_pos (by rw [hzf]; rfl)]
    refine x_if (b := z.isSuffixOf got) X₃ (tr_bool (ev_smeth1 (X₃.locS M₂.got) (X₃.locS ⟨t, by rfl⟩) F.slot_str_endswith rfl fun _ _ _ _ => cl_endswith)) fun s₄ X₄ => ?_
    cases hsuf : z.isSuffixOf got with
    | false =>
      rw [if_neg (by simp), Bool.false_and]
      exact x_return (P := IsB false) X₄ ev_bool fun v s₅ p X₅ => ⟨⟨_, _, _, X₅⟩, p⟩
    | true =>
      rw [if_pos rfl, Bool.true_and]
      have hle : z.length ≤ got.length := (List.isSuffixOf_iff_suffix.mp hsuf).length_le
      obtain ⟨t', ht'⟩ := M₂.hi
      refine x_isub X₄ ht' (ev_len (G.up X₄.keep) rfl rfl (X₄.locS ⟨t, by rfl⟩) (by omega)) (by rfl) (by rfl) fun u s₅ X₅ => ?_
      refine x_del X₅ (X₅.loc (v := .ref D) (by exact M.ws)) (ev_neg ev_int) (n := ps.length - 1) (by
        rw [hp.1]; unfold seqIndex?
        simp only [show ((-1 : Int) < 0) from by decide, if_true]
        rw [if_pos (by simp; omega)]
        congr 1; omega) (by rfl) (by rw [hp.1]; omega) hD (fun _ h => nomatch h) fun s₆ X₆ => ?_
      refine x_nil (x_nil ?_)
      rw [hzf, if_neg Bool.false_ne_true]
      have hp' : Pts KS ps.dropLast (ys.eraseIdx (ps.length - 1)) := by
        have e : ys.eraseIdx (ps.length - 1) = ys.take (ps.length - 1) := by
          rw [List.eraseIdx_eq_take_drop_succ, List.drop_eq_nil_of_le (by rw [hp.1]; omega), List.append_nil]
        rw [e, List.dropLast_eq_take]
        exact hp.take _
      have M₆ : EmIn got D lo (got.length - z.length) (upd (upd m (Str.ofString "w") (.str (S z) t)) (Str.ofString "endpos") (.int ((got.length : Int) - (z.length : Int)) u)) :=
        ⟨M.got, M.ws, M.lo, ⟨u, by rw [upd_at]; congr 2; omega⟩⟩
      have := em_tail2 (prog := prog) (w := w) R G hsz (fun p hp => hps p (List.dropLast_subset _ hp)) (Nat.sub_le _ _) X₆ M₆ hp'
      refine wpAny_mono this (fun _ _ h => ?_) fun _ _ h => h
      have e : decide (lo ≤ got.length - z.length) = decide (lo + z.length ≤ got.length) := by
        exact decide_eq_decide.mpr (Nat.le_sub_iff_add_le hle)
      rw [e] at h; exact h

theorem cl_em_dots {f : Addr} {want got : List Nat} {ps : List (List Nat)} {t u : Tok} (G : Gl mg mb h) (hf : mg (defAt 2).name = some (.ref f)) (R : Room A 1)
   (hw : Txt.contains (S want) (S [46, 46, 46]) = true) (hs : Txt.split (S want) (S [46, 46, 46]) = ps.map S) (hn2 : 2 ≤ ps.length) (hn : ps.length ≤ 1000) (hps : ∀ p ∈ ps, p.length ≤ 1000) (hsz : got.length ≤ 1000) (hwz : want.length ≤ 1000) :
   Cl prog w A (.ref f) [.str (S want) t, .str (S got) u] h (IsB (em ps got)) := by
  refine cl_top G (by simp) hf R.depth (binds := [(Str.ofString "want", .str (S want) t), (Str.ofString "got", .str (S got) u)]) (fun _ _ _ => rfl) (fun n => kind_em n) (by decide +kernel) ?_
  intro pm c doc L s s₁ hx ht G' X
  have R' : Room (A.deeper (envAt 2 pm c doc L f)) 0 := R.deeper _
  refine x_if (b := false) X (tr_cmp (ev_dots (G'.up X.keep) rfl) (X.locS ⟨t, by rfl⟩) (fun _ _ _ _ p => p) (by
      have := cmp_notIn_str (prog := prog) (w := w) (A := A.deeper (envAt 2 pm c doc L f)) (h := s₁.heap) hw
      exact this)) fun s₂ X₂ => ?_
  rw [if_neg (by simp)]
  refine x_nil ?_
  refine x_assignLF (R := Pts KS ps) X₂ (ev_smeth1 (X₂.locS ⟨t, by rfl⟩) (ev_dots (G'.up X₂.keep) rfl) F.slot_str_split rfl fun t' u' h' hx' => ?_) (by rfl) (by rfl) fun D ys s₃ hp hD _ X₃ => ?_
  · exact fun s hx ht => (cl_split (h := h') (by simp) (by omega) hs).use hx ht fun v s' k1 x1 t1 ⟨D, ys, e1, e2, e3, e4⟩ => ⟨k1, D, ys, e1, e2, e3, by
      cases e' : s₂.heap.get? D with
      | none => rfl
      | some o => rw [hx' _ _ e'] at e4; cases e4⟩
  refine x_assert X₃ (Tr.eq (decide_eq_true (by omega)) (tr_cmp (ev_lenL (G'.up X₃.keep) rfl rfl (X₃.locL (R := Pts KS ps) (by rfl) List.mem_cons_self hp) (fun ys h => h.1) (by omega)) ev_int (fun _ _ _ _ p => p) cmp_ge_int)) fun s₄ X₄ => ?_
  refine x_pair R'.1 X₄ ev_int (ev_len (G'.up X₄.keep) rfl rfl (X₄.locS ⟨u, by rfl⟩) (by omega)) (by rfl) (by rfl) (by rfl) fun t₁ t₂ s₅ X₅ => ?_
  obtain ⟨a, b, r, rfl⟩ : ∃ a b r, ps = a :: b :: r := by
    match ps, hn2 with
    | a :: b :: r, _ => exact ⟨a, b, r, rfl⟩
  refine x_assign (K := KS a) X₅ (ev_item (K := KS) (as := a :: b :: r) (i := 0) (X₅.locL (R := Pts KS (a :: b :: r)) (by rfl) List.mem_cons_self hp) ev_int (by omega) (by omega) rfl) (by rfl) (by rfl) fun v s₆ ⟨t₃, hv⟩ X₆ => ?_
  subst hv
  refine x_if X₆ (tr_str (X₆.locS ⟨t₃, by rfl⟩) (by have := hps a (by simp); omega)) fun s₇ X₇ => ?_
  have ha := hps a (by simp)
  by_cases hze : a = []
  · subst hze
    rw [if_neg (by simp)]
    refine x_nil ?_
    have := em_tail1 (prog := prog) (w := w) (lo := 0) R' G' hsz hps hn (by simp) hD X₇ ⟨⟨u, by rfl⟩, by rfl, ⟨t₁, by rfl⟩, ⟨t₂, by rfl⟩⟩ hp
    have e : em ([] :: b :: r) got = (((([] : List Nat) :: b :: r).getLastD []).isSuffixOf got && (decide (0 + ((([] : List Nat) :: b :: r).getLastD []).length ≤ got.length) &&
        emGo got (if ((([] : List Nat) :: b :: r).getLastD []).isEmpty then [] :: b :: r else ([] :: b :: r).dropLast) 0 (got.length - ((([] : List Nat) :: b :: r).getLastD []).length))) := by
      unfold em; simp
    rw [e]
    exact this
  · have hzf : a.isEmpty = false := by cases a <;> simp_all
    rw [if_pos (by rw [hzf]; rfl)]
    refine x_if (b := a.isPrefixOf got) X₇ (tr_bool (ev_smeth1 (X₇.locS ⟨u, by rfl⟩) (X₇.locS ⟨t₃, by rfl⟩) F.slot_str_startswith rfl fun _ _ _ _ => cl_startswith)) fun s₈ X₈ => ?_
    cases hpre : a.isPrefixOf got with
    | false =>
      rw [if_neg (by simp)]
      have e : em (a :: b :: r) got = false := by
        unfold em; simp [hpre]
      rw [e]
      exact x_return (P := IsB false) X₈ ev_bool fun v s₅ p X₅ => ⟨⟨_, _, _, X₅⟩, p⟩
    | true =>
      rw [if_pos rfl]
      refine x_assign (K := fun v => ∃ t, v = .int (a.length : Int) t) X₈ (ev_len (G'.up X₈.keep) rfl rfl (X₈.locS ⟨t₃, by rfl⟩) (by omega)) (by rfl) (by rfl) fun v s₉ ⟨t₄, hv⟩ X₉ => ?_
      subst hv
      refine x_del X₉ (X₉.loc (v := .ref D) (by rfl)) ev_int (n := 0) (by
        rw [hp.1]; exact seqIndex_of (by decide) (by simp only [List.length_cons]; omega)) (by rfl) (by rw [hp.1]; omega) hD (fun _ h => nomatch h) fun s₁₀ X₁₀ => ?_
      refine x_nil (x_nil ?_)
      have hp' : Pts KS (b :: r) (ys.eraseIdx 0) := by
        have e : ys.eraseIdx 0 = ys.drop 1 := by cases ys <;> rfl
        rw [e]; exact hp.drop 1
      have := em_tail1 (prog := prog) (w := w) (lo := a.length) R' G' hsz (fun p hp => hps p (List.mem_cons_of_mem _ hp)) (by simp at hn ⊢; omega) (by simp) hD X₁₀ ⟨⟨u, by rfl⟩, by rfl, ⟨t₄, by rfl⟩, ⟨t₂, by rfl⟩⟩ hp'
      have e : em (a :: b :: r) got = (((b :: r).getLastD []).isSuffixOf got && (decide (a.length + ((b :: r).getLastD []).length ≤ got.length) &&
          emGo got (if ((b :: r).getLastD []).isEmpty then b :: r else (b :: r).dropLast) a.length (got.length - ((b :: r).getLastD []).length))) := by
        unfold em; simp [hpre, hzf]
      rw [e]
      exact this
end
end Mine

end

section
open PySem PySem.W PyProof.Rows PySem.Spec
namespace Mine
section
variable {prog : Program} {w : World} {A : Around} {env : Env} {mg mb : Str → Option Value} {h : Heap} {pos : Pos}
theorem args_consts {x y : Str} {a b : List Nat} {k₁ k₂ : Nat} {p₁ p₂ : Pos} (ea : x = S a) (eb : y = S b) :
    Args prog w A env [.Constant (.str x) k₁ p₁, .Constant (.str y) k₂ p₂] h (fun vs _ => ∃ u v, vs = [.str (S a) u, .str (S b) v] ∧ u ≠ 0 ∧ v ≠ 0 ∧ u ≠ v) := fun pos s Q hx ht k => by
  subst ea eb
  refine spliced_more (wpAny_Constant_str (spliced_more (wpAny_Constant_str (Calls.spliced_nil ?_)) rfl)) rfl
  refine k _ _ (keeps_tok (keeps_refl s) _) hx (Nat.succ_pos _) ⟨s.toks, s.toks + 1, rfl, Nat.ne_of_gt ht, Nat.succ_ne_zero _, Nat.ne_of_lt (Nat.lt_succ_self _)⟩
theorem ev_replaceC {o : Expr} {x y : Str} {a b l out : List Nat} {k₁ k₂ : Nat} {p₁ p₂ apos : Pos} (ho : Ev prog w A env o h (IsS l)) (ea : x = S a) (eb : y = S b) (hab : a ≠ b) (hl : l.length ≤ 1048576) (hb : b.length ≤ 14)
    (hout : Txt.replace (S l) (S a) (S b) = S out)
    (hbase : attributeBase o (Str.ofString "replace") env (eval o env) = eval o env := by rfl) (hline : (apos.endLine == pos.line) = true := by rfl) :
    Ev prog w A env (.Call (.Attribute o (Str.ofString "replace") apos) [.Constant (.str x) k₁ p₁, .Constant (.str y) k₂ p₂] [] pos) h (IsS out) :=
  ev_method (T := "str") ho (fun _ _ _ _ p => p) (args_consts ea eb) (by simp) F.plainAttrs_str F.slot_str_replace rfl
    (fun v s ⟨t, e⟩ => by subst e; exact ⟨typeIs_str _ _ _, fun a e => nomatch e⟩)
    (fun v vs h' x ⟨t, e0⟩ ⟨u, v', e1, hu, hv, huv⟩ => by subst e0 e1; exact cl_replace hu hv huv hab hl hb hout) hbase hline rfl ⟨_, _, rfl, rfl⟩

theorem atB_one (l : List Nat) (c i : Nat) : atB l [c] l.length i = true ↔ l[i]? = some c := by
  unfold atB
  simp only [Bool.and_eq_true, decide_eq_true_eq, List.length_cons, List.length_nil]
  constructor
  · rintro ⟨h1, h2⟩
    rw [beq_iff_eq, List.take_one] at h2
    rw [← List.head?_drop]
    cases hd : (l.drop i).head? with
    | none => rw [hd] at h2; cases h2
    | some d => rw [hd] at h2; simp at h2; rw [h2]
  · intro h
    have hlt := (List.getElem?_eq_some_iff.mp h).1
    refine ⟨by omega, ?_⟩
    rw [beq_iff_eq, List.take_one, List.head?_drop, h]; rfl
theorem contains_one (l : List Nat) (c : Nat) : Txt.contains (S l) (S [c]) = decide (c ∈ l) := by
  rw [contains_eq]
  cases hf : fnd l [c] 0 l.length with
  | none =>
    have hn := fnd_none.mp hf
    rw [decide_eq_false]
    · rfl
    · intro hm
      obtain ⟨i, hi, e⟩ := List.mem_iff_getElem.mp hm
      have := hn i (Nat.zero_le _) (Nat.le_of_lt hi)
      rw [(atB_one l c i).mpr (by rw [List.getElem?_eq_getElem hi, e])] at this
      cases this
  | some k =>
    have hs := (fnd_some.mp hf).2.1
    rw [decide_eq_true (List.mem_of_getElem? ((atB_one l c k).mp hs))]; rfl
theorem rep_none {c : Nat} {z l : List Nat} (h : c ∉ l) : rep c z l = l := by
  unfold rep
  induction l with
  | nil => rfl
  | cons a r ih =>
    rw [List.flatMap_cons, ih fun hm => h (List.mem_cons_of_mem _ hm), if_neg (fun e => h (by rw [e]; exact List.mem_cons_self))]; rfl
theorem rep_len {c : Nat} {z l : List Nat} {n m : Nat} (hz : z.length ≤ 6) (h : l.length ≤ n) (hm : 6 * n ≤ m) : (rep c z l).length ≤ m := by
  refine Nat.le_trans ?_ (Nat.le_trans (Nat.mul_le_mul_left 6 h) hm)
  clear h hm
  unfold rep
  induction l with
  | nil => exact Nat.le_refl _
  | cons a r ih =>
    rw [List.flatMap_cons, List.length_append, List.length_cons]
    have : (if a = c then z else [a]).length ≤ 6 := by split; exact hz; simp
    omega

variable {G : Array GenState → Prop} {s₀ s s' : Shared} {g : Heap} {m cm : Str → Option Value} {ls : List (Addr × List Value)} {Q : Flow → Shared → Prop} {E : Value → Shared → Prop}
theorem x_esc {x : Str} {cs zs : Str} {c : Nat} {z l : List Nat} {k₁ k₂ k₃ : Nat} {p₀ p₁ p₂ p₃ p₄ p₅ p₆ p₇ p₈ apos : Pos} {rest : List Stmt} (X : St G s₀ g env m cm ls s) (hm : ∃ t, m x = some (.str (S l) t)) (hl : l.length ≤ 1048576)
    (k : ∀ m' s', (∃ t, m' x = some (.str (S (rep c z l)) t)) → St G s₀ g env m' cm ls s' → wpAny (model prog w) A (execs rest env) Q E s')
    (ec : cs = S [c] := by decide) (ez : zs = S z := by decide) (hzc : [c] ≠ z := by decide) (hz : z.length ≤ 14 := by decide)
    (hk : env.scope.kind = .function := by rfl) (hx : env.kindOf x = some .local := by rfl) (hd : (x == ("__debug__" : Str)) = false := by decide) (hline : (apos.endLine == p₄.line) = true := by rfl)
    (hbase : attributeBase (.Name x p₆) (Str.ofString "replace") env (eval (.Name x p₆) env) = eval (.Name x p₆) env := by rfl)
    (hs : swapsWith (.Call (.Attribute (.Name x p₆) (Str.ofString "replace") apos) [.Constant (.str cs) k₂ p₂, .Constant (.str zs) k₃ p₃] [] p₄) (some (.Name x p₅)) p₇.line env = pure false := by rfl) :
    wpAny (model prog w) A (execs (.If (.Compare (.Constant (.str cs) k₁ p₁) [.In] [.Name x p₀] p₈)
      [.Assign [.Name x p₅] (.Call (.Attribute (.Name x p₆) (Str.ofString "replace") apos) [.Constant (.str cs) k₂ p₂, .Constant (.str zs) k₃ p₃] [] p₄) p₇] [] pos :: rest) env) Q E s := by
  subst ec ez
  refine x_if X (tr_cmp (ev_str rfl) (X.locS hm hk hx hd) (fun _ _ _ _ p => p) (cmp_in_str (contains_one l c))) fun s₂ X₂ => ?_
  by_cases hc : c ∈ l
  · rw [if_pos (decide_eq_true hc)]
    refine x_assign (K := KS (rep c z l)) X₂ (ev_replaceC (X₂.locS hm hk hx hd) rfl rfl hzc hl hz (replace_one' c z l) hbase hline) hx hk (fun v s₃ ⟨t, hv⟩ X₃ => ?_) hs
    subst hv
    exact x_nil (k _ _ ⟨t, upd_at _ _ _⟩ X₃)
  · rw [if_neg (by simpa using hc)]
    exact x_nil (k m _ (by rw [rep_none hc]; exact hm) X₂)

/-- the three ways of writing -/
noncomputable def esc0 (l : List Nat) : List Nat := rep 9 [38, 35, 48, 57, 59] <| rep 10 [38, 35, 49, 48, 59] <| rep 13 [38, 35, 49, 51, 59] <| rep 34 [38, 113, 117, 111, 116, 59] <| rep 62 [38, 103, 116, 59] <| rep 60 [38, 108, 116, 59] <| rep 38 [38, 97, 109, 112, 59] l
noncomputable def esc1 (l : List Nat) : List Nat := rep 34 [38, 113, 117, 111, 116, 59] <| rep 62 [38, 103, 116, 59] <| rep 38 [38, 97, 109, 112, 59] l
noncomputable def esc2 (l : List Nat) : List Nat := rep 13 [38, 35, 120, 68, 59] <| rep 10 [38, 35, 120, 65, 59] <| rep 9 [38, 35, 120, 57, 59] <| rep 34 [38, 113, 117, 111, 116, 59] <| rep 60 [38, 108, 116, 59] <| rep 38 [38, 97, 109, 112, 59] l

theorem cl_esc0 {f : Addr} {l : List Nat} {t : Tok} (G : Gl mg mb h) (hf : mg (defAt 12).name = some (.ref f)) (R : Room A 1) (hl : l.length ≤ 14) : Cl prog w A (.ref f) [.str (S l) t] h (IsS (esc0 l)) := by
  refine cl_top G (by simp) hf R.depth (binds := [(Str.ofString "text", .str (S l) t)]) (fun _ _ _ => rfl) (fun n x hx => by
    rcases List.mem_cons.mp hx with rfl | hx
    · exact .inl rfl
    · cases hx) (by decide +kernel) ?_
  intro pm c doc L s s₁ hx ht G' X1
  have hm1 : ∃ u, (bindL (envAt 12 pm c doc L f).kindOf [(Str.ofString "text", Value.str (S l) t)] fun x => none) (Str.ofString "text") = some (.str (S l) u) := ⟨t, by rfl⟩
  have b0 : l.length ≤ 14 := hl
  refine wpAny_execs_cons (wpAny_Try_except ?_)
  have b1 := rep_len (c := 38) (z := [38, 97, 109, 112, 59]) (m := 84) (by decide) b0 (by omega)
  have b2 := rep_len (c := 60) (z := [38, 108, 116, 59]) (m := 504) (by decide) b1 (by omega)
  have b3 := rep_len (c := 62) (z := [38, 103, 116, 59]) (m := 3024) (by decide) b2 (by omega)
  have b4 := rep_len (c := 34) (z := [38, 113, 117, 111, 116, 59]) (m := 18144) (by decide) b3 (by omega)
  have b5 := rep_len (c := 13) (z := [38, 35, 49, 51, 59]) (m := 108864) (by decide) b4 (by omega)
  have b6 := rep_len (c := 10) (z := [38, 35, 49, 48, 59]) (m := 653184) (by decide) b5 (by omega)
  have b7 := rep_len (c := 9) (z := [38, 35, 48, 57, 59]) (m := 3919104) (by decide) b6 (by omega)
  refine x_esc (c := 38) (z := [38, 97, 109, 112, 59]) X1 hm1 (by omega) fun m2 s2 hm2 X2 => ?_
  refine x_esc (c := 60) (z := [38, 108, 116, 59]) X2 hm2 (by omega) fun m3 s3 hm3 X3 => ?_
  refine x_esc (c := 62) (z := [38, 103, 116, 59]) X3 hm3 (by omega) fun m4 s4 hm4 X4 => ?_
  refine x_esc (c := 34) (z := [38, 113, 117, 111, 116, 59]) X4 hm4 (by omega) fun m5 s5 hm5 X5 => ?_
  refine x_esc (c := 13) (z := [38, 35, 49, 51, 59]) X5 hm5 (by omega) fun m6 s6 hm6 X6 => ?_
  refine x_esc (c := 10) (z := [38, 35, 49, 48, 59]) X6 hm6 (by omega) fun m7 s7 hm7 X7 => ?_
  refine x_esc (c := 9) (z := [38, 35, 48, 57, 59]) X7 hm7 (by omega) fun m8 s8 hm8 X8 => ?_
  exact x_return (P := IsS (esc0 l)) X8 (X8.locS hm8) fun v s₃ p X₃ => ⟨⟨_, _, _, X₃⟩, p⟩

theorem cl_esc1 {f : Addr} {l : List Nat} {t : Tok} (G : Gl mg mb h) (hf : mg (defAt 13).name = some (.ref f)) (R : Room A 1) (hl : l.length ≤ 14) : Cl prog w A (.ref f) [.str (S l) t] h (IsS (esc1 l)) := by
  refine cl_top G (by simp) hf R.depth (binds := [(Str.ofString "text", .str (S l) t)]) (fun _ _ _ => rfl) (fun n x hx => by
    rcases List.mem_cons.mp hx with rfl | hx
    · exact .inl rfl
    · cases hx) (by decide +kernel) ?_
  intro pm c doc L s s₁ hx ht G' X1
  have hm1 : ∃ u, (bindL (envAt 13 pm c doc L f).kindOf [(Str.ofString "text", Value.str (S l) t)] fun x => none) (Str.ofString "text") = some (.str (S l) u) := ⟨t, by rfl⟩
  have b0 : l.length ≤ 14 := hl
  refine wpAny_execs_cons (wpAny_Try_except ?_)
  have b1 := rep_len (c := 38) (z := [38, 97, 109, 112, 59]) (m := 84) (by decide) b0 (by omega)
  have b2 := rep_len (c := 62) (z := [38, 103, 116, 59]) (m := 504) (by decide) b1 (by omega)
  have b3 := rep_len (c := 34) (z := [38, 113, 117, 111, 116, 59]) (m := 3024) (by decide) b2 (by omega)
  refine x_esc (c := 38) (z := [38, 97, 109, 112, 59]) X1 hm1 (by omega) fun m2 s2 hm2 X2 => ?_
  refine x_esc (c := 62) (z := [38, 103, 116, 59]) X2 hm2 (by omega) fun m3 s3 hm3 X3 => ?_
  refine x_esc (c := 34) (z := [38, 113, 117, 111, 116, 59]) X3 hm3 (by omega) fun m4 s4 hm4 X4 => ?_
  exact x_return (P := IsS (esc1 l)) X4 (X4.locS hm4) fun v s₃ p X₃ => ⟨⟨_, _, _, X₃⟩, p⟩

theorem cl_esc2 {f : Addr} {l : List Nat} {t : Tok} (G : Gl mg mb h) (hf : mg (defAt 14).name = some (.ref f)) (R : Room A 1) (hl : l.length ≤ 14) : Cl prog w A (.ref f) [.str (S l) t] h (IsS (esc2 l)) := by
  refine cl_top G (by simp) hf R.depth (binds := [(Str.ofString "text", .str (S l) t)]) (fun _ _ _ => rfl) (fun n x hx => by
    rcases List.mem_cons.mp hx with rfl | hx
    · exact .inl rfl
    · cases hx) (by decide +kernel) ?_
  intro pm c doc L s s₁ hx ht G' X1
  have hm1 : ∃ u, (bindL (envAt 14 pm c doc L f).kindOf [(Str.ofString "text", Value.str (S l) t)] fun x => none) (Str.ofString "text") = some (.str (S l) u) := ⟨t, by rfl⟩
  have b0 : l.length ≤ 14 := hl
  refine wpAny_execs_cons (wpAny_Try_except ?_)
  have b1 := rep_len (c := 38) (z := [38, 97, 109, 112, 59]) (m := 84) (by decide) b0 (by omega)
  have b2 := rep_len (c := 60) (z := [38, 108, 116, 59]) (m := 504) (by decide) b1 (by omega)
  have b3 := rep_len (c := 34) (z := [38, 113, 117, 111, 116, 59]) (m := 3024) (by decide) b2 (by omega)
  have b4 := rep_len (c := 9) (z := [38, 35, 120, 57, 59]) (m := 18144) (by decide) b3 (by omega)
  have b5 := rep_len (c := 10) (z := [38, 35, 120, 65, 59]) (m := 108864) (by decide) b4 (by omega)
  have b6 := rep_len (c := 13) (z := [38, 35, 120, 68, 59]) (m := 653184) (by decide) b5 (by omega)
  refine x_esc (c := 38) (z := [38, 97, 109, 112, 59]) X1 hm1 (by omega) fun m2 s2 hm2 X2 => ?_
  refine x_esc (c := 60) (z := [38, 108, 116, 59]) X2 hm2 (by omega) fun m3 s3 hm3 X3 => ?_
  refine x_esc (c := 34) (z := [38, 113, 117, 111, 116, 59]) X3 hm3 (by omega) fun m4 s4 hm4 X4 => ?_
  refine x_esc (c := 9) (z := [38, 35, 120, 57, 59]) X4 hm4 (by omega) fun m5 s5 hm5 X5 => ?_
  refine x_esc (c := 10) (z := [38, 35, 120, 65, 59]) X5 hm5 (by omega) fun m6 s6 hm6 X6 => ?_
  refine x_esc (c := 13) (z := [38, 35, 120, 68, 59]) X6 hm6 (by omega) fun m7 s7 hm7 X7 => ?_
  exact x_return (P := IsS (esc2 l)) X7 (X7.locS hm7) fun v s₃ p X₃ => ⟨⟨_, _, _, X₃⟩, p⟩

noncomputable def writ (hand : Nat) (l : List Nat) : List Nat := if hand = 0 then esc0 l else if hand = 1 then esc1 l else esc2 l
theorem ev_calldef1 {i : Nat} {np : Pos} {e : Expr} {P₁ P : Value → Heap → Prop} (G : Gl mg mb h) (hi : i ∈ [2, 4, 5, 9, 12, 13, 14, 16, 17, 18, 19]) (hg : env.globals = mainGlobals)
    (he : Ev prog w A env e h P₁) (stay : ∀ v h₁ h₂, Ext h₁ h₂ → P₁ v h₁ → P₁ v h₂)
    (go : ∀ f v h', mg (defAt i).name = some (.ref f) → Ext h h' → P₁ v h' → Cl prog w A (.ref f) [v] h' P)
    (hk : env.scope.kind = .function := by rfl) (hl : env.kindOf (defAt i).name = some .globalImplicit := by rfl) (hd : ((defAt i).name == ("__debug__" : Str)) = false := by decide +kernel) (hst : starEach [e] env = [(false, eval e env)] := by rfl) :
    Ev prog w A env (.Call (.Name (defAt i).name np) [e] [] pos) h P := by
  obtain ⟨a, o, pm, c, doc, h1, h2, h3, h4⟩ := G.fn i hi
  exact ev_call_def (ev_global (hg ▸ G.g) h1 hk hl hd) h2 h3 (args_more he args_none stay hst) (fun vs h' x ⟨v, vs', e1, p, e3⟩ => by subst e1 e3; exact go a v h' h1 x p) hst
theorem ev_calldef2 {i : Nat} {np : Pos} {e e' : Expr} {P₁ P₂ P : Value → Heap → Prop} (G : Gl mg mb h) (hi : i ∈ [2, 4, 5, 9, 12, 13, 14, 16, 17, 18, 19]) (hg : env.globals = mainGlobals)
    (he : Ev prog w A env e h P₁) (he' : Ev prog w A env e' h P₂) (stay : ∀ v h₁ h₂, Ext h₁ h₂ → P₁ v h₁ → P₁ v h₂) (stay' : ∀ v h₁ h₂, Ext h₁ h₂ → P₂ v h₁ → P₂ v h₂)
    (go : ∀ f v v' h', mg (defAt i).name = some (.ref f) → Ext h h' → P₁ v h' → P₂ v' h' → Cl prog w A (.ref f) [v, v'] h' P)
    (hk : env.scope.kind = .function := by rfl) (hl : env.kindOf (defAt i).name = some .globalImplicit := by rfl) (hd : ((defAt i).name == ("__debug__" : Str)) = false := by decide +kernel)
    (hst : starEach [e, e'] env = (false, eval e env) :: starEach [e'] env := by rfl) (hst' : starEach [e'] env = [(false, eval e' env)] := by rfl) :
    Ev prog w A env (.Call (.Name (defAt i).name np) [e, e'] [] pos) h P := by
  obtain ⟨a, o, pm, c, doc, h1, h2, h3, h4⟩ := G.fn i hi
  exact ev_call_def (ev_global (hg ▸ G.g) h1 hk hl hd) h2 h3 (args_more he (args_more he' args_none stay' hst') stay hst) (fun vs h' x r => by obtain ⟨v, _, rfl, p, v2, _, rfl, p2, rfl⟩ := r; exact go a v v2 h' h1 x p p2) hst

theorem ev_calldef3 {i : Nat} {np : Pos} {e e' e'' : Expr} {P₁ P₂ P₃ P : Value → Heap → Prop} (G : Gl mg mb h) (hi : i ∈ [2, 4, 5, 9, 12, 13, 14, 16, 17, 18, 19]) (hg : env.globals = mainGlobals)
    (he : Ev prog w A env e h P₁) (he' : Ev prog w A env e' h P₂) (he'' : Ev prog w A env e'' h P₃) (stay : ∀ v h₁ h₂, Ext h₁ h₂ → P₁ v h₁ → P₁ v h₂) (stay' : ∀ v h₁ h₂, Ext h₁ h₂ → P₂ v h₁ → P₂ v h₂) (stay'' : ∀ v h₁ h₂, Ext h₁ h₂ → P₃ v h₁ → P₃ v h₂)
    (go : ∀ f v v' v'' h', mg (defAt i).name = some (.ref f) → Ext h h' → P₁ v h' → P₂ v' h' → P₃ v'' h' → Cl prog w A (.ref f) [v, v', v''] h' P)
    (hk : env.scope.kind = .function := by rfl) (hl : env.kindOf (defAt i).name = some .globalImplicit := by rfl) (hd : ((defAt i).name == ("__debug__" : Str)) = false := by decide +kernel)
    (hst : starEach [e, e', e''] env = (false, eval e env) :: starEach [e', e''] env := by rfl) (hst' : starEach [e', e''] env = (false, eval e' env) :: starEach [e''] env := by rfl) (hst'' : starEach [e''] env = [(false, eval e'' env)] := by rfl) :
    Ev prog w A env (.Call (.Name (defAt i).name np) [e, e', e''] [] pos) h P := by
  obtain ⟨a, o, pm, c, doc, h1, h2, h3, h4⟩ := G.fn i hi
  exact ev_call_def (ev_global (hg ▸ G.g) h1 hk hl hd) h2 h3 (args_more he (args_more he' (args_more he'' args_none stay'' hst'') stay' hst') stay hst) (fun vs h' x r => by obtain ⟨v, _, rfl, p, v2, _, rfl, p2, v3, _, rfl, p3, rfl⟩ := r; exact go a v v2 v3 h' h1 x p p2 p3) hst

theorem cl_writ {f : Addr} {l : List Nat} {hand : Nat} {t u : Tok} (G : Gl mg mb h) (hf : mg (defAt 16).name = some (.ref f)) (R : Room A 2) (hl : l.length ≤ 14) : Cl prog w A (.ref f) [.int (hand : Int) u, .str (S l) t] h (IsS (writ hand l)) := by
  refine cl_top G (by simp) hf R.depth (binds := [(Str.ofString "hand", .int (hand : Int) u), (Str.ofString "text", .str (S l) t)]) (fun _ _ _ => rfl) (fun n x hx => by
    rcases List.mem_cons.mp hx with rfl | hx
    · exact .inl rfl
    · rcases List.mem_cons.mp hx with rfl | hx
      · exact .inl rfl
      · cases hx) (by decide +kernel) ?_
  intro pm c doc L s s₁ hx ht G' X
  have R' : Room (A.deeper (envAt 16 pm c doc L f)) 1 := R.deeper _
  refine x_if (b := ((hand : Int) == 0)) X (tr_cmp (X.locI ⟨u, by rfl⟩) ev_int (fun _ _ _ _ p => p) cmp_eq_int) fun s₂ X₂ => ?_
  by_cases h0 : hand = 0
  · rw [if_pos (by simp [h0])]
    refine x_return (P := IsS (writ hand l)) X₂ ?_ fun v s₃ p X₃ => ⟨⟨_, _, _, X₃⟩, p⟩
    refine ev_calldef1 (i := 12) (P₁ := IsS l) (G'.up X₂.keep) (by simp) rfl (X₂.locS ⟨t, by rfl⟩) (fun _ _ _ _ p => p) fun f v h' hf x ⟨t, e⟩ => ?_
    subst e
    have e : writ hand l = esc0 l := by unfold writ; rw [if_pos h0]
    rw [e]
    exact cl_esc0 ((G'.up X₂.keep).up x) hf R' hl
  · rw [if_neg (by simpa using h0)]
    refine x_nil ?_
    refine x_if (b := ((hand : Int) == 1)) X₂ (tr_cmp (X₂.locI ⟨u, by rfl⟩) ev_int (fun _ _ _ _ p => p) cmp_eq_int) fun s₃ X₃ => ?_
    by_cases h1 : hand = 1
    · rw [if_pos (by simp [h1])]
      refine x_return (P := IsS (writ hand l)) X₃ ?_ fun v s₃ p X₃ => ⟨⟨_, _, _, X₃⟩, p⟩
      refine ev_calldef1 (i := 13) (P₁ := IsS l) (G'.up X₃.keep) (by simp) rfl (X₃.locS ⟨t, by rfl⟩) (fun _ _ _ _ p => p) fun f v h' hf x ⟨t, e⟩ => ?_
      subst e
      have e : writ hand l = esc1 l := by unfold writ; rw [if_neg h0, if_pos h1]
      rw [e]
      exact cl_esc1 ((G'.up X₃.keep).up x) hf R' hl
    · rw [if_neg (by simp; omega)]
      refine x_nil ?_
      refine x_return (P := IsS (writ hand l)) X₃ ?_ fun v s₃ p X₃ => ⟨⟨_, _, _, X₃⟩, p⟩
      refine ev_calldef1 (i := 14) (P₁ := IsS l) (G'.up X₃.keep) (by simp) rfl (X₃.locS ⟨t, by rfl⟩) (fun _ _ _ _ p => p) fun f v h' hf x ⟨t, e⟩ => ?_
      subst e
      have e : writ hand l = esc2 l := by unfold writ; rw [if_neg h0, if_neg h1]
      rw [e]
      exact cl_esc2 ((G'.up X₃.keep).up x) hf R' hl
end
end Mine

end

section
open PySem PySem.W PyProof.Rows PySem.Spec
namespace Mine
section
variable {prog : Program} {w : World} {A : Around} {env : Env} {mg mb : Str → Option Value} {h : Heap} {pos : Pos}
theorem ev_call_type {x : Str} {np : Pos} {e : Expr} {es : List Expr} {id : String} {R : List Value → Heap → Prop} {P : Value → Heap → Prop} (hf : Ev prog w A env (.Name x np) h (IsV (.type id)))
    (ha : Args prog w A env (e :: es) h R)
    (go : ∀ vs h', Ext h h' → R vs h' → Cl prog w A (.type id) vs h' P) (hst : starEach (e :: es) env = (false, eval e env) :: starEach es env := by rfl)
    (hplain : ∀ pos, (backTo pos (starEach es env)).any (·.1) = false := by intro _; rfl) :
    Ev prog w A env (.Call (.Name x np) (e :: es) [] pos) h P := fun s hx ht =>
  wpAny_Call_NameR (hf.use hx ht fun v s1 k1 x1 t1 p => by
    cases (show v = .type id from p)
    refine PyProof.Rows.callWith_type1 (ha pos s1 _ x1 t1 fun vs s2 k2 x2 t2 r => ?_) hst (hplain pos)
    exact (go vs s2.heap x2 r).use (Ext.refl _) t2 fun v s3 k3 x3 t3 p => ⟨keeps_trans (keeps_trans k1 k2) k3, p⟩)
theorem cl_min2 {a b : Int} {t u : Tok} (hh : A.handled = none) : Cl prog w A (.builtin "min") [.int a t, .int b u] h (IsI (min a b)) := fun s _ _ =>
  min_two_ints hh fun h' tk k => ⟨keeps_grown (keeps_refl s) _ _ k, by
    by_cases hb : b < a
    · rw [if_pos hb]; exact ⟨u, by rw [show min a b = b by omega]⟩
    · rw [if_neg hb]; exact ⟨t, by rw [show min a b = a by omega]⟩⟩
theorem ev_max2 {np : Pos} {e e' : Expr} {a b : Int} (hh : A.handled = none) (G : Gl mg mb h) (hg : env.globals = mainGlobals) (hb : env.builtins = builtinsNs) (he : Ev prog w A env e h (IsI a)) (he' : Ev prog w A env e' h (IsI b))
    (hk : env.scope.kind = .function := by rfl) (hl : env.kindOf (Str.ofString "max") = some .globalImplicit := by rfl)
    (hst : starEach [e, e'] env = (false, eval e env) :: starEach [e'] env := by rfl) (hst' : starEach [e'] env = [(false, eval e' env)] := by rfl) :
    Ev prog w A env (.Call (.Name (Str.ofString "max") np) [e, e'] [] pos) h (IsI (max a b)) :=
  ev_call_builtin (id := "max") (ev_builtin (hg ▸ G.g) (G.bi "max" (by simp)).1 (hb ▸ G.b) ((G.bi "max" (by simp)).2.trans (by rfl)) hk hl) (args_more he (args_more he' args_none (fun _ _ _ _ p => p) hst') (fun _ _ _ _ p => p) hst)
    (fun vs h' x r => by obtain ⟨_, _, rfl, ⟨t, rfl⟩, _, _, rfl, ⟨u, rfl⟩, rfl⟩ := r; exact cl_max2 hh) hst (by intro _; rw [hst']; rfl)
theorem ev_min2 {np : Pos} {e e' : Expr} {a b : Int} (hh : A.handled = none) (G : Gl mg mb h) (hg : env.globals = mainGlobals) (hb : env.builtins = builtinsNs) (he : Ev prog w A env e h (IsI a)) (he' : Ev prog w A env e' h (IsI b))
    (hk : env.scope.kind = .function := by rfl) (hl : env.kindOf (Str.ofString "min") = some .globalImplicit := by rfl)
    (hst : starEach [e, e'] env = (false, eval e env) :: starEach [e'] env := by rfl) (hst' : starEach [e'] env = [(false, eval e' env)] := by rfl) :
    Ev prog w A env (.Call (.Name (Str.ofString "min") np) [e, e'] [] pos) h (IsI (min a b)) :=
  ev_call_builtin (id := "min") (ev_builtin (hg ▸ G.g) (G.bi "min" (by simp)).1 (hb ▸ G.b) ((G.bi "min" (by simp)).2.trans (by rfl)) hk hl) (args_more he (args_more he' args_none (fun _ _ _ _ p => p) hst') (fun _ _ _ _ p => p) hst)
    (fun vs h' x r => by obtain ⟨_, _, rfl, ⟨t, rfl⟩, _, _, rfl, ⟨u, rfl⟩, rfl⟩ := r; exact cl_min2 hh) hst (by intro _; rw [hst']; rfl)
abbrev IsR (a b : Int) : Value → Heap → Prop := fun v h' => ∃ r t u v', v = .ref r ∧ IsRange h' r a b 1 t u v'
theorem ev_range1 {np : Pos} {e : Expr} {b : Int} (G : Gl mg mb h) (hg : env.globals = mainGlobals) (hb : env.builtins = builtinsNs) (he : Ev prog w A env e h (IsI b))
    (hk : env.scope.kind = .function := by rfl) (hl : env.kindOf (Str.ofString "range") = some .globalImplicit := by rfl)
    (hst : starEach [e] env = [(false, eval e env)] := by rfl) :
    Ev prog w A env (.Call (.Name (Str.ofString "range") np) [e] [] pos) h (IsR 0 b) :=
  ev_call_type (id := "range") (ev_builtin (hg ▸ G.g) (G.bi "range" (by simp)).1 (hb ▸ G.b) ((G.bi "range" (by simp)).2.trans (by rfl)) hk hl) (args_more he args_none (fun _ _ _ _ p => p) hst)
    (fun vs h' x ⟨v, vs', e1, ⟨t, e2⟩, e5⟩ => by subst e1 e2 e5; exact cl_range1) hst
theorem ev_range2 {np : Pos} {e e' : Expr} {a b : Int} (G : Gl mg mb h) (hg : env.globals = mainGlobals) (hb : env.builtins = builtinsNs) (he : Ev prog w A env e h (IsI a)) (he' : Ev prog w A env e' h (IsI b))
    (hk : env.scope.kind = .function := by rfl) (hl : env.kindOf (Str.ofString "range") = some .globalImplicit := by rfl)
    (hst : starEach [e, e'] env = (false, eval e env) :: starEach [e'] env := by rfl) (hst' : starEach [e'] env = [(false, eval e' env)] := by rfl) :
    Ev prog w A env (.Call (.Name (Str.ofString "range") np) [e, e'] [] pos) h (IsR a b) :=
  ev_call_type (id := "range") (ev_builtin (hg ▸ G.g) (G.bi "range" (by simp)).1 (hb ▸ G.b) ((G.bi "range" (by simp)).2.trans (by rfl)) hk hl) (args_more he (args_more he' args_none (fun _ _ _ _ p => p) hst') (fun _ _ _ _ p => p) hst)
    (fun vs h' x ⟨v, vs', e1, ⟨t, e2⟩, v2, vs2, e3, ⟨u, e4⟩, e5⟩ => by subst e1 e2 e3 e4 e5; exact cl_range2) hst (by intro _; rw [hst']; rfl)
theorem Ev.eqI {e : Expr} {i j : Int} (H : Ev prog w A env e h (IsI i)) (hij : i = j) : Ev prog w A env e h (IsI j) := hij ▸ H
theorem Ev.eqS {e : Expr} {i j : List Nat} (H : Ev prog w A env e h (IsS i)) (hij : i = j) : Ev prog w A env e h (IsS j) := hij ▸ H
end

/-! the plain matter of the matches -/
theorem fnd_nil {x : List Nat} {lo hi : Nat} (h : lo ≤ hi) : fnd x [] lo hi = some lo := by
  rw [fnd_some]
  refine ⟨Nat.le_refl _, ?_, fun i h1 h2 => by omega⟩
  unfold atB; simp; exact h
theorem em_head (a got : List Nat) : em [a, []] got = a.isPrefixOf got := by
  have e : em [a, []] got = (a.isPrefixOf got && (([] : List Nat).isSuffixOf got && (decide (a.length + 0 ≤ got.length) && emGo got (if a.isEmpty then [a, []] else [[]]) a.length (got.length - 0)))) := by
    unfold em; cases a <;> rfl
  rw [e]
  cases hp : a.isPrefixOf got with
  | false => rfl
  | true =>
    have hle : a.length ≤ got.length := (List.isPrefixOf_iff_prefix.mp hp).length_le
    have h1 : ([] : List Nat).isSuffixOf got = true := by simp
    rw [h1, decide_eq_true (by omega), Bool.true_and, Bool.true_and, Bool.true_and, Nat.sub_zero]
    cases a with
    | nil =>
      show emGo got [[], []] 0 got.length = true
      rw [emGo_cons, fnd_nil (Nat.zero_le _)]
      show emGo got [[]] 0 got.length = true
      rw [emGo_cons, fnd_nil (Nat.zero_le _)]; rfl
    | cons c r =>
      rw [if_neg (by simp), emGo_cons, fnd_nil hle]; rfl
theorem em_foot (b got : List Nat) : em [[], b] got = b.isSuffixOf got := by
  have e : em [[], b] got = (([] : List Nat).isPrefixOf got && (b.isSuffixOf got && (decide (0 + b.length ≤ got.length) && emGo got (if b.isEmpty then [[], b] else [[]]) 0 (got.length - b.length)))) := by
    unfold em; cases b <;> rfl
  rw [e]
  have h1 : ([] : List Nat).isPrefixOf got = true := by simp
  rw [h1, Bool.true_and]
  cases hp : b.isSuffixOf got with
  | false => rfl
  | true =>
    have hle : b.length ≤ got.length := (List.isSuffixOf_iff_suffix.mp hp).length_le
    rw [decide_eq_true (by omega), Bool.true_and, Bool.true_and]
    cases b with
    | nil =>
      show emGo got [[], []] 0 got.length = true
      rw [emGo_cons, fnd_nil (Nat.zero_le _)]
      show emGo got [[]] 0 got.length = true
      rw [emGo_cons, fnd_nil (Nat.zero_le _)]; rfl
    | cons c r =>
      rw [if_neg (by simp), emGo_cons, fnd_nil (Nat.zero_le _)]; rfl
/-- texts without a dot -/
theorem no_dots {x : List Nat} (h : 46 ∉ x) : Txt.contains (S x) (S [46, 46, 46]) = false := by
  rw [contains_eq]
  have : fnd x [46, 46, 46] 0 x.length = none := fnd_none.mpr fun i _ _ => atB_free (c := 46) (by simp) rfl fun e => h (List.mem_of_getElem? e)
  rw [this]; rfl
theorem dots_in : ∀ (ps : List (List Nat)), 2 ≤ ps.length → Txt.contains (S (joinL [46, 46, 46] ps)) (S [46, 46, 46]) = true
  | a :: b :: r, _ => by
    rw [contains_eq]
    cases hf : fnd (joinL [46, 46, 46] (a :: b :: r)) [46, 46, 46] 0 (joinL [46, 46, 46] (a :: b :: r)).length with
    | some k => rfl
    | none =>
      have := fnd_none.mp hf a.length (Nat.zero_le _) (by
        show _ ≤ (a ++ [46, 46, 46] ++ joinL [46, 46, 46] (b :: r)).length
        simp only [List.length_append]; omega)
      exfalso
      have e : joinL [46, 46, 46] (a :: b :: r) = a ++ ([46, 46, 46] ++ joinL [46, 46, 46] (b :: r)) := by
        show a ++ [46, 46, 46] ++ _ = _; rw [List.append_assoc]
      rw [e] at this
      unfold atB at this
      rw [List.drop_left] at this
      simp at this

section
variable {prog : Program} {w : World} {A : Around} {env : Env} {mg mb : Str → Option Value} {h : Heap} {pos : Pos}
/-- the call of _ellipsis_match in an expression -/
theorem ev_em_plain {np : Pos} {e e' : Expr} {want got : List Nat} (G : Gl mg mb h) (R : Room A 1) (hg : env.globals = mainGlobals) (he : Ev prog w A env e h (IsS want)) (he' : Ev prog w A env e' h (IsS got)) (hw : 46 ∉ want)
    (hk : env.scope.kind = .function := by rfl) (hl : env.kindOf (defAt 2).name = some .globalImplicit := by rfl)
    (hst : starEach [e, e'] env = (false, eval e env) :: starEach [e'] env := by rfl) (hst' : starEach [e'] env = [(false, eval e' env)] := by rfl) :
    Ev prog w A env (.Call (.Name (defAt 2).name np) [e, e'] [] pos) h (IsB (want == got)) :=
  ev_calldef2 (i := 2) (P₁ := IsS want) (P₂ := IsS got) G (by simp) hg he he' (fun _ _ _ _ p => p) (fun _ _ _ _ p => p) (fun f v v' h' hf x ⟨t, e1⟩ ⟨u, e2⟩ => by
    subst e1 e2; exact cl_em_plain (G.up x) hf R (no_dots hw)) hk hl (by decide +kernel) hst hst'
theorem joinL_len : ∀ (ps : List (List Nat)) (p : List Nat), p ∈ ps → p.length ≤ (joinL [46, 46, 46] ps).length
  | [a], p, hp => by
    rw [List.mem_singleton.mp hp]; simp [joinL]
  | a :: b :: r, p, hp => by
    have e : (joinL [46, 46, 46] (a :: b :: r)).length = a.length + 3 + (joinL [46, 46, 46] (b :: r)).length := by
      show (a ++ [46, 46, 46] ++ joinL [46, 46, 46] (b :: r)).length = _
      simp only [List.length_append, List.length_cons, List.length_nil]
    rw [e]
    rcases List.mem_cons.mp hp with rfl | hp
    · omega
    · have := joinL_len (b :: r) p hp; omega
theorem ev_em_dots {np : Pos} {e e' : Expr} {want got : List Nat} (ps : List (List Nat)) (G : Gl mg mb h) (R : Room A 1) (hg : env.globals = mainGlobals) (he : Ev prog w A env e h (IsS want)) (he' : Ev prog w A env e' h (IsS got))
    (hw : want = joinL [46, 46, 46] ps) (h2 : 2 ≤ ps.length) (hn : ps.length ≤ 1000) (hps : ∀ p ∈ ps, 46 ∉ p) (hsz : want.length ≤ 1000) (hsz' : got.length ≤ 1000)
    (hk : env.scope.kind = .function := by rfl) (hl : env.kindOf (defAt 2).name = some .globalImplicit := by rfl)
    (hst : starEach [e, e'] env = (false, eval e env) :: starEach [e'] env := by rfl) (hst' : starEach [e'] env = [(false, eval e' env)] := by rfl) :
    Ev prog w A env (.Call (.Name (defAt 2).name np) [e, e'] [] pos) h (IsB (em ps got)) := by
  subst hw
  exact ev_calldef2 (i := 2) (P₁ := IsS (joinL [46, 46, 46] ps)) (P₂ := IsS got) G (by simp) hg he he' (fun _ _ _ _ p => p) (fun _ _ _ _ p => p) (fun f v v' h' hf x ⟨t, e1⟩ ⟨u, e2⟩ => by
    subst e1 e2; exact cl_em_dots (G.up x) hf R (dots_in ps h2) (split_join _ 46 (by simp) rfl ps (by intro e; rw [e] at h2; simp at h2) hps) h2 hn (fun p hp => Nat.le_trans (joinL_len ps p hp) hsz) hsz' hsz) hk hl (by decide +kernel) hst hst'
end
end Mine

end

section
open PySem PySem.W PyProof.Rows PySem.Spec
namespace Mine
/-! least repeats, plainly -/
noncomputable def tst (x : List Nat) (cut size : Nat) : Bool := (x.drop (cut - size)).take (min (x.length - size) cut - (cut - size)) == (x.drop (cut - size + size)).take (min (x.length - size) cut - (cut - size))
noncomputable def leastF (x : List Nat) (cut : Nat) : Nat := match (List.range x.length).find? fun j => tst x cut (j + 1) with | some j => j + 1 | none => 0
noncomputable def aheadF (x : List Nat) (cut size : Nat) : List Nat := x.take (cut - size + size) ++ (x.drop (cut - size)).take (min (x.length - size) cut - (cut - size))
noncomputable def behindF (x : List Nat) (cut size : Nat) : List Nat := (x.drop (cut - size + size)).take (min (x.length - size) cut - (cut - size)) ++ x.drop (min (x.length - size) cut)
section
variable {x : List Nat} {cut size : Nat}
theorem nf1 {n c s : Nat} (hs : s ≤ n) (hc : c ≤ n) : c - s + s ≤ n := by
  rcases Nat.le_total s c with h | h
  · rw [Nat.sub_add_cancel h]; exact hc
  · rw [Nat.sub_eq_zero_of_le h, Nat.zero_add]; exact hs
theorem nf2 {n c s : Nat} (hc : c ≤ n) : c - s ≤ min (n - s) c := Nat.le_min.mpr ⟨Nat.sub_le_sub_right hc s, Nat.sub_le _ _⟩
theorem nf3 {n c s : Nat} (hs : s ≤ n) : min (n - s) c + s ≤ n := by
  have := Nat.add_le_add_right (Nat.min_le_left (n - s) c) s
  rw [Nat.sub_add_cancel hs] at this; exact this
theorem nf4 {n c s : Nat} : min (n - s) c ≤ n := Nat.le_trans (Nat.min_le_left _ _) (Nat.sub_le _ _)
theorem nf5 {F N s n : Nat} (h1 : N ≤ F) (h2 : F + s ≤ n) : F - N ≤ n - N := Nat.sub_le_sub_right (Nat.le_trans (Nat.le_add_right _ _) h2) N
theorem nf6 {F N s n : Nat} (h1 : N ≤ F) (h2 : F + s ≤ n) : F - N ≤ n - (N + s) := by
  rw [← Nat.add_sub_add_right F s N]; exact Nat.sub_le_sub_right h2 _
theorem nf7 {F N s : Nat} (h1 : N ≤ F) : N + s + (F - N) = F + s := by rw [Nat.add_right_comm, Nat.add_sub_cancel' h1]
theorem nf8 {F N n : Nat} (h1 : N ≤ F) (h2 : F ≤ n) : F - N + (n - F) = n - N := by rw [Nat.add_comm]; exact Nat.sub_add_sub_cancel h2 h1
theorem ahead_len (hc : cut ≤ x.length) (hs : size ≤ x.length) : (aheadF x cut size).length = min (x.length - size) cut + size := by
  unfold aheadF
  simp only [List.length_append, List.length_take, List.length_drop]
  rw [Nat.min_eq_left (nf1 hs hc), Nat.min_eq_left (nf5 (nf2 hc) (nf3 hs))]
  exact nf7 (nf2 hc)
theorem behind_len (hc : cut ≤ x.length) (hs : size ≤ x.length) : (behindF x cut size).length = x.length - (cut - size) := by
  unfold behindF
  simp only [List.length_append, List.length_take, List.length_drop]
  rw [Nat.min_eq_left (nf6 (nf2 hc) (nf3 hs))]
  exact nf8 (nf2 hc) nf4
theorem ahead_prefix (hc : cut ≤ x.length) (hs : size ≤ x.length) : (aheadF x cut size).isPrefixOf x = tst x cut size := by
  rw [Bool.eq_iff_iff, List.isPrefixOf_iff_prefix]
  unfold aheadF tst
  conv => lhs; rhs; rw [← List.take_append_drop (cut - size + size) x]
  rw [List.prefix_append_right_inj, List.prefix_iff_eq_take, beq_iff_eq]
  have e : ((x.drop (cut - size)).take (min (x.length - size) cut - (cut - size))).length = min (x.length - size) cut - (cut - size) := by
    simp only [List.length_take, List.length_drop]
    exact Nat.min_eq_left (nf5 (nf2 hc) (nf3 hs))
  rw [e]
theorem ahead_eq (hc : cut ≤ x.length) (hs : size ≤ x.length) (hn : ¬ min (x.length - size) cut + size < x.length) : (aheadF x cut size == x) = tst x cut size := by
  rw [← ahead_prefix hc hs, Bool.eq_iff_iff, List.isPrefixOf_iff_prefix, beq_iff_eq]
  constructor
  · intro h; rw [h]; exact List.prefix_refl x
  · intro h; exact h.eq_of_length (by rw [ahead_len hc hs]; exact Nat.le_antisymm (nf3 hs) (Nat.not_lt.mp hn))
theorem behind_suffix (hc : cut ≤ x.length) (hs : size ≤ x.length) : (behindF x cut size).isSuffixOf x = tst x cut size := by
  rw [Bool.eq_iff_iff, List.isSuffixOf_iff_suffix, List.suffix_iff_eq_drop, behind_len hc hs]
  have e : x.length - (x.length - (cut - size)) = cut - size := Nat.sub_sub_self (Nat.le_trans (Nat.sub_le _ _) hc)
  rw [e]
  unfold behindF tst
  have e2 : x.drop (cut - size) = (x.drop (cut - size)).take (min (x.length - size) cut - (cut - size)) ++ x.drop (min (x.length - size) cut) := by
    conv => lhs; rw [← List.take_append_drop (min (x.length - size) cut - (cut - size)) (x.drop (cut - size))]
    rw [List.drop_drop]
    rw [Nat.add_sub_cancel' (nf2 hc)]
  conv => lhs; rhs; rw [e2]
  rw [List.append_cancel_right_eq, beq_iff_eq]
  exact eq_comm
theorem behind_eq (hc : cut ≤ x.length) (hs : size ≤ x.length) (hn : ¬ 0 < cut - size) : (behindF x cut size == x) = tst x cut size := by
  rw [← behind_suffix hc hs, Bool.eq_iff_iff, List.isSuffixOf_iff_suffix, beq_iff_eq]
  constructor
  · intro h; rw [h]; exact List.suffix_refl x
  · intro h; exact h.eq_of_length (by rw [behind_len hc hs, Nat.eq_zero_of_not_pos hn]; rfl)
theorem least_at {i : Nat} (hi : i < x.length) (h0 : ∀ j, j < i → tst x cut (j + 1) = false) (h1 : tst x cut (i + 1) = true) : leastF x cut = i + 1 := by
  unfold leastF
  have : (List.range x.length).find? (fun j => tst x cut (j + 1)) = some i := by
    rw [List.find?_range_eq_some]
    exact ⟨h1, List.mem_range.mpr hi, fun j hj => by rw [h0 j hj]; rfl⟩
  rw [this]
theorem least_none (h0 : ∀ j, j < x.length → tst x cut (j + 1) = false) : leastF x cut = 0 := by
  unfold leastF
  have : (List.range x.length).find? (fun j => tst x cut (j + 1)) = none := by
    rw [List.find?_eq_none]
    intro j hj; simp [h0 j (List.mem_range.mp hj)]
  rw [this]
end

section
variable {prog : Program} {w : World} {A : Around} {env : Env} {mg mb : Str → Option Value} {h : Heap} {pos : Pos}
structure LeIn (x : List Nat) (cut : Nat) (m : Str → Option Value) : Prop where
  front : ∃ t, m (Str.ofString "front") = some (.str (S (x.take cut)) t)
  word : ∃ t, m (Str.ofString "word") = some (.str (S x) t)
  both : ∃ t, m (Str.ofString "both") = some (.str (S x) t)

theorem range_at {a : Int} {n i : Nat} {z : Int} (h : (upto a n)[i]? = some z) : z = a + i ∧ i < n := by
  unfold upto at h
  rw [List.getElem?_map, Option.map_eq_some_iff] at h
  obtain ⟨j, hj, e⟩ := h
  have hlt := (List.getElem?_eq_some_iff.mp hj).1
  rw [List.getElem?_range (by simpa using hlt)] at hj
  cases hj
  exact ⟨e.symm, by simpa using hlt⟩

/-- what a want tells of a text -/
noncomputable def Tells (want got : List Nat) (b : Bool) : Prop := want.length ≤ 1000 ∧ got.length ≤ 1000 ∧ ((46 ∉ want ∧ (want == got) = b) ∨
  ∃ ps, want = joinL [46, 46, 46] ps ∧ 2 ≤ ps.length ∧ ps.length ≤ 1000 ∧ (∀ p ∈ ps, 46 ∉ p) ∧ em ps got = b)
theorem ev_em_tells {np : Pos} {e e' : Expr} {want got : List Nat} {b : Bool} (G : Gl mg mb h) (R : Room A 1) (hg : env.globals = mainGlobals) (he : Ev prog w A env e h (IsS want)) (he' : Ev prog w A env e' h (IsS got)) (T : Tells want got b)
    (hk : env.scope.kind = .function := by rfl) (hl : env.kindOf (defAt 2).name = some .globalImplicit := by rfl)
    (hst : starEach [e, e'] env = (false, eval e env) :: starEach [e'] env := by rfl) (hst' : starEach [e'] env = [(false, eval e' env)] := by rfl) :
    Ev prog w A env (.Call (.Name (defAt 2).name np) [e, e'] [] pos) h (IsB b) := by
  obtain ⟨h1, h2, ⟨h3, h4⟩ | ⟨ps, h3, h4, h5, h6, h7⟩⟩ := T
  · subst h4; exact ev_em_plain G R hg he he' h3 hk hl hst hst'
  · subst h7; exact ev_em_dots ps G R hg he he' h3 h4 h5 h6 h1 h2 hk hl hst hst'

theorem x_join {G : Array GenState → Prop} {s₀ s : Shared} {g : Heap} {m cm : Str → Option Value} {ls : List (Addr × List Value)} {Q : Flow → Shared → Prop} {E : Value → Shared → Prop} {b : Bool} {test : Expr} {body orelse rest : List Stmt}
    {J : (Str → Option Value) → (Str → Option Value) → List (Addr × List Value) → Prop} (X : St G s₀ g env m cm ls s) (H : Tr prog w A env test s.heap b)
    (k₁ : b = true → ∀ s' E', St G s₀ g env m cm ls s' → wpAny (model prog w) A (execs body env) (fun f s' => match f with | .next => ∃ m' cm' ls', St G s₀ g env m' cm' ls' s' ∧ J m' cm' ls' | _ => False) E' s')
    (k₂ : b = false → ∀ s' E', St G s₀ g env m cm ls s' → wpAny (model prog w) A (execs orelse env) (fun f s' => match f with | .next => ∃ m' cm' ls', St G s₀ g env m' cm' ls' s' ∧ J m' cm' ls' | _ => False) E' s')
    (k : ∀ m' cm' ls' s', J m' cm' ls' → St G s₀ g env m' cm' ls' s' → wpAny (model prog w) A (execs rest env) Q E s') :
    wpAny (model prog w) A (execs (.If test body orelse pos :: rest) env) Q E s := by
  refine x_if X H fun s' X' => ?_
  cases b with
  | true =>
    rw [if_pos rfl]
    refine wpAny_mono (k₁ rfl s' _ X') (fun f s₃ h₃ => ?_) fun _ _ e => e
    cases f with
    | next => obtain ⟨m', cm', ls', x, j⟩ := h₃; exact k _ _ _ _ j x
    | _ => exact h₃.elim
  | false =>
    rw [if_neg Bool.false_ne_true]
    refine wpAny_mono (k₂ rfl s' _ X') (fun f s₃ h₃ => ?_) fun _ _ e => e
    cases f with
    | next => obtain ⟨m', cm', ls', x, j⟩ := h₃; exact k _ _ _ _ j x
    | _ => exact h₃.elim

theorem sz_two {x : List Nat} (h : x.length ≤ 100) {a b c : Nat} : (x.take a).length + ((x.drop b).take c).length ≤ 16000000 := by
  have h1 := List.length_take_le' a x
  have h2 : ((x.drop b).take c).length ≤ x.length := Nat.le_trans (List.length_take_le' c _) (by rw [List.length_drop]; exact Nat.sub_le _ _)
  omega
theorem sz_two' {x : List Nat} (h : x.length ≤ 100) {a b c : Nat} : ((x.drop b).take c).length + (x.drop a).length ≤ 16000000 := by
  have h1 : (x.drop a).length ≤ x.length := by rw [List.length_drop]; exact Nat.sub_le _ _
  have h2 : ((x.drop b).take c).length ≤ x.length := Nat.le_trans (List.length_take_le' c _) (by rw [List.length_drop]; exact Nat.sub_le _ _)
  omega
theorem cl_least {f : Addr} {x : List Nat} {cut : Nat} {t u v : Tok} (G : Gl mg mb h) (hf : mg (defAt 18).name = some (.ref f)) (R : Room A 2) (hcut : cut ≤ x.length) (hsz : x.length ≤ 100) (hdot : 46 ∉ x) :
    Cl prog w A (.ref f) [.str (S (x.take cut)) t, .str (S (x.drop cut)) u, .str (S x) v] h (IsI (leastF x cut)) := by
  refine cl_top G (by simp) hf R.depth (binds := [(Str.ofString "front", .str (S (x.take cut)) t), (Str.ofString "back", .str (S (x.drop cut)) u), (Str.ofString "word", .str (S x) v)]) (fun _ _ _ => rfl) (fun n y hy => by
    rcases List.mem_cons.mp hy with rfl | hy
    · exact .inl rfl
    · rcases List.mem_cons.mp hy with rfl | hy
      · exact .inl rfl
      · rcases List.mem_cons.mp hy with rfl | hy
        · exact .inl rfl
        · cases hy) (by decide +kernel) ?_
  intro pm c doc L s s₁ hx ht G' X
  have R' : Room (A.deeper (envAt 18 pm c doc L f)) 1 := R.deeper _
  refine x_assign (K := KS x) X ((ev_add_str (X.locS ⟨t, by rfl⟩) (X.locS ⟨u, by rfl⟩) (Nat.le_trans (ar_len2 hsz cut cut) (by decide))).eqS (List.take_append_drop cut x)) (by rfl) (by rfl) fun y s₂ ⟨t', hv⟩ X₂ => ?_
  subst hv
  have L0 : LeIn x cut (upd (bindL (envAt 18 pm c doc L f).kindOf [(Str.ofString "front", .str (S (x.take cut)) t), (Str.ofString "back", .str (S (x.drop cut)) u), (Str.ofString "word", .str (S x) v)] fun _ => none) (Str.ofString "both") (.str (S x) t')) :=
    ⟨⟨t, by rfl⟩, ⟨v, by rfl⟩, ⟨t', by rfl⟩⟩
  refine x_for (KA := KI) (as := upto 1 x.length) X₂ [] (fun _ h => nomatch h) (fun _ h => nomatch h) (ev_range2 (G'.up X₂.keep) rfl rfl ev_int (ev_add (ev_len (G'.up X₂.keep) rfl rfl (X₂.locS L0.word) (Nat.le_trans hsz (by decide))) ev_int)) (fun v h' hx ⟨r, t, u, v', e, hr⟩ => by
      subst e; exact fsrc_range R'.1 hr (ar_span _) (ar_bnds (m := x.length + 1) (Nat.succ_le_succ (Nat.le_trans hsz (by decide))))) (by rfl) (by rfl)
    (fun i m cm ls => LeIn x cut m ∧ ls = [] ∧ ∀ j, j < i → tst x cut (j + 1) = false) ⟨L0, rfl, fun j hj => absurd hj (Nat.not_lt_zero _)⟩ ?_ ?_
  · rintro g' i a vv m cm ls s' E hg hgm hiz ⟨ta, rfl⟩ ⟨M, rfl, hno⟩ X₃
    obtain ⟨rfl, hi⟩ := range_at hiz
    have M₃ : LeIn x cut (upd m (Str.ofString "size") (.int (1 + i) ta)) := ⟨M.front, M.word, M.both⟩
    have n1 : cut - (i + 1) + (i + 1) ≤ x.length := nf1 hi hcut
    have n2 : cut - (i + 1) ≤ min (x.length - (i + 1)) cut := nf2 hcut
    have n3 : min (x.length - (i + 1)) cut + (i + 1) ≤ x.length := nf3 hi
    have n4 : min (x.length - (i + 1)) cut ≤ x.length := nf4
    have z1 : x.length ≤ 16000000 := Nat.le_trans hsz (by decide)
    have z2 : x.length ≤ 100000 := Nat.le_trans hsz (by decide)
    have c1 : ∀ a : Nat, ((a : Nat) : Int) + (1 + (i : Int)) = ((a + (i + 1) : Nat) : Int) := fun a => by push_cast; rw [Int.add_comm 1 (i : Int)]
    have hk := fun (q : Shared) (k : Ext g' q.heap) => G'.up (hg.trans k)
    refine x_assign (K := KI ((cut - (i + 1) : Nat) : Int)) X₃ ((ev_max2 R'.1 (hk _ X₃.keep) rfl rfl ev_int (ev_sub (ev_len (hk _ X₃.keep) rfl rfl (X₃.locS M₃.front) (Nat.le_trans (List.length_take_le _ _) (Nat.le_trans hcut z2))) (X₃.locI ⟨ta, by rfl⟩))).eqI (by
      rw [List.length_take, Nat.min_eq_left hcut, Int.add_comm 1]; exact ar_max0 cut (i + 1))) (by rfl) (by rfl) fun y s₄ ⟨t4, hv⟩ X₄ => ?_
    subst hv
    have M₄ : LeIn x cut (upd (upd m (Str.ofString "size") (.int (1 + i) ta)) (Str.ofString "near") (.int ((cut - (i + 1) : Nat) : Int) t4)) := ⟨M.front, M.word, M.both⟩
    refine x_assign (K := KI ((min (x.length - (i + 1)) cut : Nat) : Int)) X₄ ((ev_min2 R'.1 (hk _ X₄.keep) rfl rfl (ev_sub (ev_len (hk _ X₄.keep) rfl rfl (X₄.locS M₄.word) z2) (X₄.locI ⟨ta, by rfl⟩)) (ev_len (hk _ X₄.keep) rfl rfl (X₄.locS M₄.front) (Nat.le_trans (ar_take hsz cut) (by decide)))).eqI (by
      rw [List.length_take, Nat.min_eq_left hcut, Int.add_comm 1]; exact ar_min' hi)) (by rfl) (by rfl) fun y s₅ ⟨t5, hv⟩ X₅ => ?_
    subst hv
    have M₅ : LeIn x cut (upd (upd (upd m (Str.ofString "size") (.int (1 + i) ta)) (Str.ofString "near") (.int ((cut - (i + 1) : Nat) : Int) t4)) (Str.ofString "far") (.int ((min (x.length - (i + 1)) cut : Nat) : Int) t5)) := ⟨M.front, M.word, M.both⟩
    refine x_assign (K := KS (aheadF x cut (i + 1))) X₅ (ev_add_str (ev_to (n := cut - (i + 1) + (i + 1)) (X₅.locS M₅.both) ((ev_add (X₅.locI ⟨t4, by rfl⟩) (X₅.locI ⟨ta, by rfl⟩)).eqI (c1 _)) z1)
      (ev_fromto (X₅.locS M₅.both) (X₅.locI ⟨t4, by rfl⟩) (X₅.locI ⟨t5, by rfl⟩) n2 n4 z1) (sz_two hsz)) (by rfl) (by rfl) fun y s₆ ⟨t6, hv⟩ X₆ => ?_
    subst hv
    refine x_assign (K := KS (behindF x cut (i + 1))) X₆ (Ev.eqS (ev_add_str (ev_fromto (n := cut - (i + 1) + (i + 1)) (m := min (x.length - (i + 1)) cut + (i + 1)) (X₆.locS M.both) (Ev.eqI (ev_add (X₆.locI ⟨t4, by rfl⟩) (X₆.locI ⟨ta, by rfl⟩)) (c1 _)) (Ev.eqI (ev_add (X₆.locI ⟨t5, by rfl⟩) (X₆.locI ⟨ta, by rfl⟩)) (c1 _)) (Nat.add_le_add_right n2 _) n3 z1)
      (ev_from (X₆.locS M.both) (X₆.locI ⟨t5, by rfl⟩) z1) (sz_two' hsz)) (by
        unfold behindF
        rw [show min (x.length - (i + 1)) cut + (i + 1) - (cut - (i + 1) + (i + 1)) = min (x.length - (i + 1)) cut - (cut - (i + 1)) from Nat.add_sub_add_right _ _ _])) (by rfl) (by rfl) fun y s₇ ⟨t7, hv⟩ X₇ => ?_
    subst hv
    have bA : (aheadF x cut (i + 1)).length ≤ 100 := by rw [ahead_len hcut hi]; exact Nat.le_trans n3 hsz
    have bB : (behindF x cut (i + 1)).length ≤ 100 := by rw [behind_len hcut hi]; exact Nat.le_trans (Nat.sub_le _ _) hsz
    have dA : 46 ∉ aheadF x cut (i + 1) := fun hm => by
      unfold aheadF at hm
      rcases List.mem_append.mp hm with hm | hm
      · exact hdot (List.mem_of_mem_take hm)
      · exact hdot (List.mem_of_mem_drop (List.mem_of_mem_take hm))
    have dB : 46 ∉ behindF x cut (i + 1) := fun hm => by
      unfold behindF at hm
      rcases List.mem_append.mp hm with hm | hm
      · exact hdot (List.mem_of_mem_drop (List.mem_of_mem_take hm))
      · exact hdot (List.mem_of_mem_drop hm)
    refine x_join (J := fun m' cm' ls' => ls' = [] ∧ LeIn x cut m' ∧ (∃ t, m' (Str.ofString "size") = some (.int (1 + i) t)) ∧ (∃ t, m' (Str.ofString "near") = some (.int ((cut - (i + 1) : Nat) : Int) t)) ∧
        (∃ t, m' (Str.ofString "behind") = some (.str (S (behindF x cut (i + 1))) t)) ∧ ∃ a t, m' (Str.ofString "ahead") = some (.str (S a) t) ∧ Tells a x (tst x cut (i + 1))) X₇
      (b := decide (((min (x.length - (i + 1)) cut : Nat) : Int) + (1 + (i : Int)) < (x.length : Int)))
      (tr_cmp (ev_add (X₇.locI ⟨t5, by rfl⟩) (X₇.locI ⟨ta, by rfl⟩)) (ev_len (hk _ X₇.keep) rfl rfl (X₇.locS M.word) z2) (fun _ _ _ _ p => p) cmp_lt_int) (fun hb q E' Xq => ?_) (fun hb q E' Xq => ?_) (fun m' cm' ls' q hj Xq => ?_)
    · refine x_assign (K := KS (aheadF x cut (i + 1) ++ [46, 46, 46])) Xq (ev_add_str (Xq.locS ⟨t6, by rfl⟩) (ev_str) (Nat.le_trans (Nat.add_le_add_right bA _) (by decide))) (by rfl) (by rfl) fun y s₈ ⟨t8, hv⟩ X₈ => ?_
      subst hv
      refine x_nil ⟨_, _, _, X₈, rfl, ⟨M.front, M.word, M.both⟩, ⟨ta, by rfl⟩, ⟨t4, by rfl⟩, ⟨t7, by rfl⟩, _, t8, by rfl, ?_⟩
      refine ⟨ar_appS bA (Nat.le_refl 3) (by decide), Nat.le_trans hsz (by decide), .inr ⟨[aheadF x cut (i + 1), []], by simp [joinL], by simp, by simp, by simpa using dA, ?_⟩⟩
      rw [em_head, ahead_prefix hcut hi]
    · refine x_nil ⟨_, _, _, Xq, rfl, ⟨M.front, M.word, M.both⟩, ⟨ta, by rfl⟩, ⟨t4, by rfl⟩, ⟨t7, by rfl⟩, _, t6, by rfl, ?_⟩
      exact ⟨Nat.le_trans bA (by decide), Nat.le_trans hsz (by decide), .inl ⟨dA, ahead_eq hcut hi (ar_nlt (of_decide_eq_false hb))⟩⟩
    obtain ⟨rfl, M', hsize, hnear, hbehind, a, t8, hahead, hta⟩ := hj
    refine x_join (J := fun m'' cm' ls' => ls' = [] ∧ LeIn x cut m'' ∧ (∃ t, m'' (Str.ofString "size") = some (.int (1 + i) t)) ∧
        (∃ t, m'' (Str.ofString "ahead") = some (.str (S a) t)) ∧ ∃ a t, m'' (Str.ofString "behind") = some (.str (S a) t) ∧ Tells a x (tst x cut (i + 1))) Xq
      (b := decide ((0 : Int) < ((cut - (i + 1) : Nat) : Int)))
      (tr_cmp (Xq.locI hnear) ev_int (fun _ _ _ _ p => p) cmp_gt_int) (fun hb q' E' Xq => ?_) (fun hb q' E' Xq => ?_) (fun m'' cm' ls' q' hj Xq => ?_)
    · refine x_assign (K := KS ([46, 46, 46] ++ behindF x cut (i + 1))) Xq (ev_add_str ev_str (Xq.locS hbehind) (Nat.le_trans (Nat.add_le_add_left bB _) (by decide))) (by rfl) (by rfl) fun y s₈ ⟨t10, hv⟩ X₈ => ?_
      subst hv
      refine x_nil ⟨_, _, _, X₈, rfl, ⟨M'.front, M'.word, M'.both⟩, hsize, ⟨t8, hahead⟩, _, t10, by rfl, ?_⟩
      refine ⟨ar_appS (Nat.le_refl 3) bB (by decide), Nat.le_trans hsz (by decide), .inr ⟨[[], behindF x cut (i + 1)], by simp [joinL], by simp, by simp, by simpa using dB, ?_⟩⟩
      rw [em_foot, behind_suffix hcut hi]
    · obtain ⟨t7, hbehind⟩ := hbehind
      refine x_nil ⟨_, _, _, Xq, rfl, M', hsize, ⟨t8, hahead⟩, _, t7, hbehind, ?_⟩
      exact ⟨Nat.le_trans bB (by decide), Nat.le_trans hsz (by decide), .inl ⟨dB, behind_eq hcut hi (fun k => of_decide_eq_false hb (Int.natCast_pos.mpr k))⟩⟩
    obtain ⟨rfl, M'', hsize, ⟨t9, hahead⟩, b, t8, hbehind, htb⟩ := hj
    refine x_assign (K := fun v => v = .bool (tst x cut (i + 1))) Xq (ev_em_tells (hk _ Xq.keep) R' rfl (Xq.locS ⟨t9, hahead⟩) (Xq.locS M''.word) hta) (by rfl) (by rfl) fun y s₁₀ hv X₁₀ => ?_
    subst hv
    refine x_skip X₁₀ (Tr.eq (b := (tst x cut (i + 1) != tst x cut (i + 1))) (bne_self_eq_false _) (tr_cmp (X₁₀.loc (by rfl)).isB (ev_em_tells (hk _ X₁₀.keep) R' rfl (X₁₀.locS ⟨t8, hbehind⟩) (X₁₀.locS M''.word) htb) (fun _ _ _ _ p => p) cmp_isNot_bool)) fun s₁₁ X₁₁ => ?_
    refine x_if X₁₁ (tr_cmp (X₁₁.loc (by rfl)).isB ev_bool (fun _ _ _ _ p => p) cmp_is_bool) fun s₁₂ X₁₂ => ?_
    cases htst : tst x cut (i + 1) with
    | true =>
      rw [if_pos (show (true == true) = true from rfl)]
      refine x_return (P := IsI (leastF x cut)) X₁₂ (Ev.eqI (X₁₂.locI hsize) (by rw [least_at hi hno htst]; exact ar_one i)) fun v s₃ p X₃ => ⟨_, _, _, X₃, ⟨_, _, _, X₃.up hg⟩, p⟩
    | false =>
      rw [if_neg (by simp)]
      refine x_nil ?_
      rw [htst] at X₁₂
      refine x_skip X₁₂ (Tr.eq (b := (false != false)) rfl (tr_cmp (X₁₂.loc (by rfl)).isB ev_bool (fun _ _ _ _ p => p) cmp_isNot_bool)) fun s₁₃ X₁₃ => ?_
      refine x_nil ⟨upd m'' (Str.ofString "told") (.bool false), _, _, ⟨⟨M''.front, M''.word, M''.both⟩, rfl, fun j hj => ?_⟩, X₁₃⟩
      by_cases hj' : j < i
      · exact hno j hj'
      · rw [Nat.le_antisymm (Nat.lt_succ_iff.mp hj) (Nat.not_lt.mp hj')]; exact htst
  · rintro m cm ls s₃ ⟨M, rfl, hno⟩ X₃
    rw [show (upto 1 x.length).length = x.length by simp [upto]] at hno
    rw [least_none hno]
    exact x_return (P := IsI 0) X₃ ev_int fun v s₃ p X₃ => ⟨⟨_, _, _, X₃⟩, p⟩
end
end Mine

end

section
open PySem PySem.W PyProof.Rows PySem.Spec
namespace Mine
section
variable {prog : Program} {w : World} {A : Around} {env : Env} {mg mb : Str → Option Value} {h : Heap} {pos : Pos}
/-! list displays -/
theorem args_pn {α : Type} {K : α → Value → Prop} : Args prog w A env [] h (fun vs _ => Pts K [] vs) := fun pos s Q hx ht k => args_none pos s Q hx ht fun vs s' k1 x1 t1 e => k vs s' k1 x1 t1 (by subst e; exact Pts.nil)
theorem args_pc {α : Type} {K : α → Value → Prop} {a : α} {as : List α} {e : Expr} {es : List Expr} (he : Ev prog w A env e h (fun v _ => K a v)) (hes : Args prog w A env es h (fun vs _ => Pts K as vs))
    (hst : starEach (e :: es) env = (false, eval e env) :: starEach es env := by rfl) : Args prog w A env (e :: es) h (fun vs _ => Pts K (a :: as) vs) := fun pos s Q hx ht k =>
  args_more he hes (fun _ _ _ _ p => p) hst pos s Q hx ht fun vs s' k1 x1 t1 ⟨v, vs', e, p, r⟩ => k vs s' k1 x1 t1 (by subst e; exact Pts.cons p r)
theorem ev_listF {α : Type} {K : α → Value → Prop} {as : List α} {es : List Expr} (ha : Args prog w A env es h (fun vs _ => Pts K as vs)) (hn : as.length ≤ 1000) :
    Ev prog w A env (.List es pos) h (fun v h' => ∃ D ys, v = .ref D ∧ h'.PlainList D ys.toArray ∧ Pts K as ys ∧ h.get? D = none) := fun s hx ht =>
  wpAny_List (ha pos s _ hx ht fun vs s' k1 x1 t1 p => ⟨by rw [sizeLine_eq, p.1]; omega, keeps_push k1 _, _, vs, rfl, ⟨_, Heap.get?_push_size _ rfl⟩, p, by
    cases e : h.get? s'.heap.objs.size with
    | none => rfl
    | some o => exact absurd (Heap.lt_size (x1 _ _ e)) (Nat.lt_irrefl _)⟩)
theorem ev_list {α : Type} {K : α → Value → Prop} {as : List α} {es : List Expr} (ha : Args prog w A env es h (fun vs _ => Pts K as vs)) (hn : as.length ≤ 1000) :
    Ev prog w A env (.List es pos) h (IsL (Pts K as)) := (ev_listF ha hn).mono fun v h' _ ⟨D, ys, e, hl, r, _⟩ => ⟨D, ys, e, hl, r⟩

/-! cells of the frame -/
variable {G : Array GenState → Prop} {s₀ s s' : Shared} {g : Heap} {m cm : Str → Option Value} {ls : List (Addr × List Value)} {Q : Flow → Shared → Prop} {E : Value → Shared → Prop}
theorem St.celS {x : Str} {l : List Nat} {np : Pos} {c : Addr} (X : St G s₀ g env m cm ls s) (hv : ∃ t, cm x = some (.str (S l) t)) (hc : env.cells.lookup x = some c := by rfl)
    (hk : env.scope.kind = .function := by rfl) (hl : env.kindOf x = some .cell := by rfl) (hd : (x == ("__debug__" : Str)) = false := by decide) : Ev prog w A env (.Name x np) s.heap (IsS l) := by
  obtain ⟨t, e⟩ := hv
  have := X.cell x c (mem_of_lookup hc)
  rw [e] at this
  exact (ev_cell this hc hk hl hd).isS
theorem St.celI {x : Str} {i : Int} {np : Pos} {c : Addr} (X : St G s₀ g env m cm ls s) (hv : ∃ t, cm x = some (.int i t)) (hc : env.cells.lookup x = some c := by rfl)
    (hk : env.scope.kind = .function := by rfl) (hl : env.kindOf x = some .cell := by rfl) (hd : (x == ("__debug__" : Str)) = false := by decide) : Ev prog w A env (.Name x np) s.heap (IsI i) := by
  obtain ⟨t, e⟩ := hv
  have := X.cell x c (mem_of_lookup hc)
  rw [e] at this
  exact (ev_cell this hc hk hl hd).isI
theorem St.celL {x : Str} {R : List Value → Prop} {D : Addr} {ys : List Value} {np : Pos} {c : Addr} (X : St G s₀ g env m cm ls s) (hv : cm x = some (.ref D)) (hD : (D, ys) ∈ ls) (hR : R ys) (hc : env.cells.lookup x = some c := by rfl)
    (hk : env.scope.kind = .function := by rfl) (hl : env.kindOf x = some .cell := by rfl) (hd : (x == ("__debug__" : Str)) = false := by decide) : Ev prog w A env (.Name x np) s.heap (IsL R) := by
  have := X.cell x c (mem_of_lookup hc)
  rw [hv] at this
  exact (ev_cell this hc hk hl hd).mono fun v h' hx e => by cases (show v = .ref D from e); exact ⟨D, ys, rfl, (X.lists _ hD).at fun o e => hx _ o e, hR⟩
theorem x_iaddC {x : Str} {px : Pos} {e : Expr} {a b : Int} {t : Tok} {c : Addr} {rest : List Stmt} (X : St G s₀ g env m cm ls s) (hm : cm x = some (.int a t)) (H : Ev prog w A env e s.heap (IsI b)) (hl : env.kindOf x = some .cell) (hk : env.scope.kind = .function) (hc : env.cells.lookup x = some c)
    (k : ∀ u s', St G s₀ g env m (upd cm x (.int (a + b) u)) ls s' → wpAny (model prog w) A (execs rest env) Q E s') :
    wpAny (model prog w) A (execs (.AugAssign (.Name x px) .Add e pos :: rest) env) Q E s := by
  have hcell := X.cell x c (mem_of_lookup hc)
  rw [hm] at hcell
  exact wpAny_execs_cons (wpAny_AugAssign_Name (wpAny_loadName_cell hk hl hc hcell (H.use (Ext.refl _) X.toks fun v s₁ k₁ x₁ t₁ ⟨u, e⟩ => by
    subst e
    exact P.iadd_int (store_cell (s := { s₁ with toks := s₁.toks + 1 }) ((X.kept k₁ t₁).kept (keeps_tok (keeps_refl s₁) _) (Nat.succ_pos _)) hl hk hc fun s' X' => k _ s' X'))))

/-! the same cells in a comprehension -/
theorem St.subS {env' : Env} {h₂ : Heap} {x : Str} {l : List Nat} {np : Pos} {c : Addr} (X : St G s₀ g env m cm ls s) (hx : Ext s.heap h₂) (hv : ∃ t, cm x = some (.str (S l) t)) (hc : env.cells.lookup x = some c := by rfl) (hc' : env'.cells.lookup x = some c := by rfl)
    (hk : env'.scope.kind = .function := by rfl) (hl : env'.kindOf x = some .cell := by rfl) (hd : (x == ("__debug__" : Str)) = false := by decide) : Ev prog w A env' (.Name x np) h₂ (IsS l) := by
  obtain ⟨t, e⟩ := hv
  have := X.cell x c (mem_of_lookup hc)
  rw [e] at this
  exact (ev_cell (this.keeps hx) hc' hk hl hd).isS
theorem St.subI {env' : Env} {h₂ : Heap} {x : Str} {i : Int} {np : Pos} {c : Addr} (X : St G s₀ g env m cm ls s) (hx : Ext s.heap h₂) (hv : ∃ t, cm x = some (.int i t)) (hc : env.cells.lookup x = some c := by rfl) (hc' : env'.cells.lookup x = some c := by rfl)
    (hk : env'.scope.kind = .function := by rfl) (hl : env'.kindOf x = some .cell := by rfl) (hd : (x == ("__debug__" : Str)) = false := by decide) : Ev prog w A env' (.Name x np) h₂ (IsI i) := by
  obtain ⟨t, e⟩ := hv
  have := X.cell x c (mem_of_lookup hc)
  rw [e] at this
  exact (ev_cell (this.keeps hx) hc' hk hl hd).isI
theorem St.subL {env' : Env} {h₂ : Heap} {x : Str} {R : List Value → Prop} {D : Addr} {ys : List Value} {np : Pos} {c : Addr} (X : St G s₀ g env m cm ls s) (hx : Ext s.heap h₂) (hv : cm x = some (.ref D)) (hD : (D, ys) ∈ ls) (hR : R ys) (hc : env.cells.lookup x = some c := by rfl) (hc' : env'.cells.lookup x = some c := by rfl)
    (hk : env'.scope.kind = .function := by rfl) (hl : env'.kindOf x = some .cell := by rfl) (hd : (x == ("__debug__" : Str)) = false := by decide) : Ev prog w A env' (.Name x np) h₂ (IsL R) := by
  have := X.cell x c (mem_of_lookup hc)
  rw [hv] at this
  exact (ev_cell (this.keeps hx) hc' hk hl hd).mono fun v h' hx' e => by cases (show v = .ref D from e); exact ⟨D, ys, rfl, (X.lists _ hD).at fun o e => hx' _ o (hx _ o e), hR⟩

theorem tn_add (a j : Nat) : ((a : Int) + (j : Int)).toNat = a + j := by omega
theorem lt62 {a n : Nat} (h : a < n) (hn : n ≤ 100) : (a : Int) < 2 ^ 62 := by omega
theorem pf1 {c s n j : Nat} (hj : j < min c (n - s) - (c - s)) : c - s + j < min c (n - s) := by
  have := Nat.add_lt_of_lt_sub hj
  rw [Nat.add_comm]; exact this
theorem pf2 {c s n a : Nat} (h : a < min c (n - s)) (hs : s ≤ n) : a + s < n := by
  have := Nat.lt_of_lt_of_le h (Nat.min_le_right _ _)
  exact Nat.add_lt_of_lt_sub this
theorem pf3 {c s n a : Nat} (h : a < min c (n - s)) (hc : c ≤ n) : a < n := Nat.lt_of_lt_of_le h (Nat.le_trans (Nat.min_le_left _ _) hc)
noncomputable def badAt (x : List Nat) (size : Nat) (z : Int) : Bool := x.getD z.toNat 0 != x.getD (z.toNat + size) 0
theorem filter_tst {x : List Nat} {cut size : Nat} (hc : cut ≤ x.length) (hs : size ≤ x.length) :
    ((((upto ((cut - size : Nat) : Int) (min cut (x.length - size) - (cut - size))).filter (badAt x size)).map fun z => z) != []) = !(tst x cut size) := by
  rw [List.map_id', Bool.eq_iff_iff, bne_iff_ne, ne_eq, List.filter_eq_nil_iff, Bool.not_eq_true']
  have key : tst x cut size = true ↔ ∀ a ∈ upto ((cut - size : Nat) : Int) (min cut (x.length - size) - (cut - size)), ¬ badAt x size a = true := by
    unfold tst
    rw [beq_iff_eq]
    have hlen : min (x.length - size) cut - (cut - size) = min cut (x.length - size) - (cut - size) := by rw [Nat.min_comm]
    rw [hlen]
    constructor
    · intro h a ha
      unfold upto at ha
      obtain ⟨j, hj, rfl⟩ := List.mem_map.mp ha
      have hj := List.mem_range.mp hj
      have := congrArg (fun l => l[j]?) h
      simp only [List.getElem?_take, if_pos hj, List.getElem?_drop] at this
      unfold badAt
      have e : (((cut - size : Nat) : Int) + (j : Int)).toNat = cut - size + j := tn_add _ _
      rw [e]
      simp only [List.getD_eq_getElem?_getD]
      rw [this, show cut - size + size + j = cut - size + j + size from Nat.add_right_comm _ _ _]
      simp
    · intro h
      apply List.ext_getElem?
      intro j
      simp only [List.getElem?_take, List.getElem?_drop]
      by_cases hj : j < min cut (x.length - size) - (cut - size)
      · rw [if_pos hj, if_pos hj]
        have := h (((cut - size : Nat) : Int) + (j : Int)) (List.mem_map.mpr ⟨j, List.mem_range.mpr hj, rfl⟩)
        unfold badAt at this
        have e : (((cut - size : Nat) : Int) + (j : Int)).toNat = cut - size + j := tn_add _ _
        rw [e] at this
        have l1 : cut - size + j < x.length := pf3 (pf1 hj) hc
        have l2 : cut - size + j + size < x.length := pf2 (pf1 hj) hs
        simp only [List.getD_eq_getElem?_getD, List.getElem?_eq_getElem l1, List.getElem?_eq_getElem l2, Option.getD_some, bne_iff_ne, ne_eq, Decidable.not_not] at this
        rw [List.getElem?_eq_getElem l1, List.getElem?_eq_getElem (show cut - size + size + j < x.length by rw [Nat.add_right_comm]; exact l2), this]
        congr 2; exact Nat.add_right_comm _ _ _
      · rw [if_neg hj, if_neg hj]
  rw [← Bool.not_eq_true, key]

theorem cl_plain {f : Addr} {x : List Nat} {cut : Nat} {t u : Tok} (G : Gl mg mb h) (hf : mg (defAt 19).name = some (.ref f)) (R : Room A 2) (hcut : cut < x.length) (hsz : x.length ≤ 100) :
    Cl prog w A (.ref f) [.str (S x) t, .int (cut : Int) u] h (IsI (leastF x cut)) := by
  refine cl_top G (by simp) hf R.depth (binds := [(Str.ofString "word", .str (S x) t), (Str.ofString "cut", .int (cut : Int) u)]) (fun _ _ _ => rfl) (fun n y hy => by
    rcases List.mem_cons.mp hy with rfl | hy
    · exact .inr ⟨rfl, by rfl⟩
    · rcases List.mem_cons.mp hy with rfl | hy
      · exact .inl rfl
      · cases hy) (by decide +kernel) ?_
  intro pm c doc L s s₁ hx ht G' X
  have R' : Room (A.deeper (envAt 19 pm c doc L f)) 1 := R.deeper _
  refine x_assignC (K := KI 1) X ev_int (by rfl) (by rfl) (by rfl) fun y s₂ ⟨t', hv⟩ X₂ => ?_
  subst hv
  refine x_while X₂ (x.length - 1) (fun k m cm ls => ∃ size : Nat, 1 ≤ size ∧ size ≤ x.length ∧ k = x.length - size ∧ (∃ t, cm (Str.ofString "size") = some (.int (size : Int) t)) ∧ (∃ t, cm (Str.ofString "word") = some (.str (S x) t)) ∧
      (∃ t, m (Str.ofString "cut") = some (.int (cut : Int) t)) ∧ ∀ j, j + 1 < size → tst x cut (j + 1) = false)
    ⟨1, Nat.le_refl _, Nat.lt_of_le_of_lt (Nat.zero_le _) hcut, rfl, ⟨t', by rfl⟩, ⟨t, by rfl⟩, ⟨u, by rfl⟩, fun j hj => absurd (Nat.lt_of_succ_lt_succ hj) (Nat.not_lt_zero j)⟩
    (fun m cm ls => ∃ t, cm (Str.ofString "size") = some (.int (leastF x cut : Int) t)) ?_ ?_
  · rintro k m cm ls s₃ ⟨size, h1, h2, hk, hsize, hword, hcutm, hno⟩ X₃
    refine ⟨!(tst x cut size), ?_, ?_, ?_⟩
    · refine Tr.eq (filter_tst (Nat.le_of_lt hcut) h2) (tr_cmp (ev_comp (KA := KI) (KB := KI) fn_I (badAt x size) (fun z => z) (as := upto ((cut - size : Nat) : Int) (min cut (x.length - size) - (cut - size))) (by rfl) (by decide) (by rfl) (by decide) (by rfl)
        (ev_range2 (a := ((cut - size : Nat) : Int)) (b := ((min cut (x.length - size) : Nat) : Int)) (G'.up X₃.keep) rfl rfl (Ev.eqI (ev_max2 R'.1 (G'.up X₃.keep) rfl rfl ev_int (ev_sub (X₃.locI hcutm) (X₃.celI hsize))) (ar_max0 cut size))
          (Ev.eqI (ev_min2 R'.1 (G'.up X₃.keep) rfl rfl (X₃.locI hcutm) (ev_sub (ev_len (G'.up X₃.keep) rfl rfl (X₃.celS hword) (Nat.le_trans hsz (by decide))) (X₃.celI hsize))) (ar_min h2)))
        (fun v h' hx ⟨r, t, u, v', e, hr⟩ => by subst e; exact src_range R'.1 hr (Int.natCast_sub (Nat.le_min.mpr ⟨Nat.sub_le _ _, Nat.sub_le_sub_right (Nat.le_of_lt hcut) _⟩)).symm ⟨ar_lo _, ar_hi5 (Nat.le_trans (Nat.min_le_left _ _) (Nat.le_trans (Nat.le_of_lt hcut) (Nat.le_trans hsz (by decide))))⟩) (by simp only [upto, List.length_map, List.length_range]; exact Nat.le_trans (Nat.sub_le _ _) (Nat.le_trans (Nat.min_le_left _ _) (Nat.le_trans (Nat.le_of_lt hcut) (Nat.le_trans hsz (by decide)))))
        (fun C h₂ m₂ a v ha ka hx₂ hn hv _ => ?_) (fun C h₂ m₂ a v ha ka _ hx₂ hn hv _ => ?_)) (ev_list (K := KI) (as := []) args_pn (by simp)) (fun _ _ _ x p => p.stay x) (cmp_ne_list eqK_I R'.units))
      · obtain ⟨t, rfl⟩ := ka
        obtain ⟨j, hj, rfl⟩ := List.mem_map.mp ha
        have hj := List.mem_range.mp hj
        have ez : ((cut - size : Nat) : Int) + (j : Int) = ((cut - size + j : Nat) : Int) := (Int.natCast_add _ _).symm
        have q1 : cut - size + j < x.length := pf3 (pf1 hj) (Nat.le_of_lt hcut)
        have q2 : cut - size + j + size < x.length := pf2 (pf1 hj) h2
        rw [ez] at hv ⊢
        have g1 : x[(((cut - size + j : Nat) : Int)).toNat]? = some (x.getD (cut - size + j) 0) := by
          rw [Int.toNat_natCast, List.getD_eq_getElem?_getD, List.getElem?_eq_getElem q1]; rfl
        have g2 : x[(((cut - size + j + size : Nat) : Int)).toNat]? = some (x.getD (cut - size + j + size) 0) := by
          rw [Int.toNat_natCast, List.getD_eq_getElem?_getD, List.getElem?_eq_getElem q2]; rfl
        refine .inr ⟨_, rfl, Tr.eq ?_ (tr_cmp (ev_item_str (l := x) (i := ((cut - size + j : Nat) : Int)) (c := x.getD (cut - size + j) 0) (X₃.subS hx₂ hword) (ev_local hn hv (by rfl) (by rfl)).isI (Int.natCast_nonneg _) (lt62 q1 hsz) g1)
          (ev_item_str (l := x) (i := ((cut - size + j + size : Nat) : Int)) (c := x.getD (cut - size + j + size) 0) (X₃.subS hx₂ hword) (Ev.eqI (ev_add (a := ((cut - size + j : Nat) : Int)) (b := (size : Int)) (ev_local hn hv (by rfl) (by rfl)).isI (X₃.subI hx₂ hsize)) (Int.natCast_add _ _).symm) (Int.natCast_nonneg _) (lt62 q2 hsz) g2) (fun _ _ _ _ p => p) cmp_ne_str)⟩
        unfold badAt
        rw [Int.toNat_natCast]
        simp [bne]
      · obtain ⟨t, rfl⟩ := ka
        exact (ev_local hn hv (by rfl) (by rfl)).isI
    · intro hb s₄ E' X₄
      obtain ⟨ts, es⟩ := hsize
      have hf0 : tst x cut size = false := by simpa using hb
      have hne : size ≠ x.length := by
        rintro rfl
        unfold tst at hf0
        simp at hf0
      refine x_iaddC X₄ es ev_int (by rfl) (by rfl) (by rfl) fun u s₅ X₅ => x_nil ⟨x.length - (size + 1), m, _, ls, (by rw [hk]; exact Nat.sub_lt_sub_left (Nat.lt_of_le_of_ne h2 hne) (Nat.lt_succ_self _)), ⟨size + 1, Nat.le_add_left 1 size, Nat.lt_of_le_of_ne h2 hne, rfl, ⟨u, upd_at _ _ _⟩, hword, hcutm, fun j hj => ?_⟩, X₅⟩
      by_cases hj' : j + 1 < size
      · exact hno j hj'
      · rw [Nat.le_antisymm (Nat.lt_succ_iff.mp hj) (Nat.not_lt.mp hj')]; exact hf0
    · intro hb
      have ht : tst x cut size = true := by simpa using hb
      obtain ⟨sz, rfl⟩ : ∃ k, size = k + 1 := ⟨size - 1, (Nat.sub_add_cancel h1).symm⟩
      rw [least_at (i := sz) h2 (fun j hj => hno j (Nat.succ_lt_succ hj)) ht]
      exact hsize
  · rintro m cm ls s₃ ⟨t, e⟩ X₃
    exact x_return (P := IsI (leastF x cut)) X₃ (X₃.celI ⟨t, e⟩) fun v s₃ p X₃ => ⟨⟨_, _, _, X₃⟩, p⟩
end
end Mine

end

section
open PySem PySem.W PyProof.Rows PySem.Spec
namespace Mine
section
variable {prog : Program} {w : World} {A : Around} {env : Env} {mg mb : Str → Option Value} {h : Heap} {pos : Pos}
variable {G : Array GenState → Prop} {s₀ s s' : Shared} {g : Heap} {m cm : Str → Option Value} {ls : List (Addr × List Value)} {Q : Flow → Shared → Prop} {E : Value → Shared → Prop}

/-- the answer that parse257 reads -/
noncomputable def resp (p back : List Nat) : List Nat := [50, 53, 55, 32, 34] ++ (rep 34 [34, 34] p ++ ([34, 32] ++ back))
structure PIn (p back : List Nat) (i : Nat) (a b : List Nat) (m : Str → Option Value) : Prop where
  rs : ∃ t, m (Str.ofString "resp") = some (.str (S (resp p back)) t)
  ix : ∃ t, m (Str.ofString "i") = some (.int (i : Int) t)
  nn : ∃ t, m (Str.ofString "n") = some (.int ((Mine.resp p back).length : Int) t)
  dir : ∃ t, m (Str.ofString "dirname") = some (.str (S a) t)
  cut : p = a ++ b
  at' : (Mine.resp p back).drop i = rep 34 [34, 34] b ++ ([34, 32] ++ back)
theorem drop_head {l r : List Nat} {i c : Nat} (h : l.drop i = c :: r) : l[i]? = some c ∧ l.drop (i + 1) = r ∧ i < l.length := by
  have hlt : i < l.length := by
    rcases Nat.lt_or_ge i l.length with h' | h'
    · exact h'
    · rw [List.drop_eq_nil_of_le h'] at h; cases h
  rw [List.drop_eq_getElem_cons hlt] at h
  obtain ⟨rfl, h2⟩ := List.cons.inj h
  exact ⟨List.getElem?_eq_getElem hlt, h2, hlt⟩
theorem lt62' {a n : Nat} (h : a < n) (hn : n ≤ 1000) : (a : Int) < 2 ^ 62 := by omega
theorem cl_parse {f : Addr} {p back : List Nat} {t : Tok} (G : Gl mg mb h) (hf : mg (defAt 9).name = some (.ref f)) (R : Room A 1) (hsz : (resp p back).length ≤ 1000) :
    Cl prog w A (.ref f) [.str (S (resp p back)) t] h (IsS p) := by
  have hpl : p.length ≤ 1000 := by
    refine Nat.le_trans ?_ hsz
    unfold resp
    simp only [List.length_append]
    have : p.length ≤ (rep 34 [34, 34] p).length := by
      unfold rep
      clear hsz
      induction p with
      | nil => exact Nat.le_refl _
      | cons a r ih =>
        rw [List.flatMap_cons, List.length_append, List.length_cons]
        have : 1 ≤ (if a = 34 then [34, 34] else [a]).length := by split <;> simp
        omega
    omega
  refine cl_top G (by simp) hf R.depth (binds := [(Str.ofString "resp", .str (S (resp p back)) t)]) (fun _ _ _ => rfl) (fun n x hx => by
    rcases List.mem_cons.mp hx with rfl | hx
    · exact .inl rfl
    · cases hx) (by decide +kernel) ?_
  intro pm c doc L s s₁ hx ht G' X
  have R' : Room (A.deeper (envAt 9 pm c doc L f)) 0 := R.deeper _
  refine x_skip X (Tr.eq (b := ((resp p back).take 3 != [50, 53, 55])) (by unfold resp; rfl) (tr_cmp (ev_to (n := 3) (X.locS ⟨t, by rfl⟩) ev_int (by omega)) ev_str (fun _ _ _ _ p => p) cmp_ne_str)) fun s₂ X₂ => ?_
  have h5 : 5 ≤ (resp p back).length := by unfold resp; simp
  refine x_skip X₂ (Tr.eq (b := (((resp p back).drop 3).take (5 - 3) != [32, 34])) (by unfold resp; rfl) (tr_cmp (ev_fromto (n := 3) (m := 5) (X₂.locS ⟨t, by rfl⟩) ev_int ev_int (by omega) h5 (by omega)) ev_str (fun _ _ _ _ p => p) cmp_ne_str)) fun s₃ X₃ => ?_
  refine x_assign (K := KS []) X₃ ev_str (by rfl) (by rfl) fun y s₄ ⟨t4, hv⟩ X₄ => ?_
  subst hv
  refine x_assign (K := KI 5) X₄ ev_int (by rfl) (by rfl) fun y s₅ ⟨t5, hv⟩ X₅ => ?_
  subst hv
  refine x_assign (K := KI (resp p back).length) X₅ (ev_len (G'.up X₅.keep) rfl rfl (X₅.locS ⟨t, by rfl⟩) (by omega)) (by rfl) (by rfl) fun y s₆ ⟨t6, hv⟩ X₆ => ?_
  subst hv
  refine x_while X₆ (p.length + 1) (fun k m cm ls => ∃ i a b, k = b.length + 1 ∧ PIn p back i a b m) ⟨5, [], p, rfl, ⟨⟨t, by rfl⟩, ⟨t5, by rfl⟩, ⟨t6, by rfl⟩, ⟨t4, by rfl⟩, rfl, rfl⟩⟩
    (fun m cm ls => ∃ t, m (Str.ofString "dirname") = some (.str (S p) t)) ?_ ?_
  · rintro k m cm ls s₇ ⟨i, a, b, rfl, M⟩ X₇
    have hab : a.length + b.length ≤ 1000 := by have := congrArg List.length M.cut; simp at this; omega
    have hlt : i < (resp p back).length := by
      rcases Nat.lt_or_ge i (resp p back).length with h' | h'
      · exact h'
      · have := M.at'
        rw [List.drop_eq_nil_of_le h'] at this
        simp at this
    refine ⟨true, Tr.eq (decide_eq_true (by omega)) (tr_cmp (X₇.locI M.ix) (X₇.locI M.nn) (fun _ _ _ _ p => p) cmp_lt_int), fun _ s₈ E' X₈ => ?_, fun h => nomatch h⟩
    cases b with
    | nil =>
      have hd : (resp p back).drop i = 34 :: 32 :: back := M.at'
      obtain ⟨g1, d1, l1⟩ := drop_head hd
      obtain ⟨g2, d2, l2⟩ := drop_head d1
      refine x_assign (K := KS [34]) X₈ (ev_item_str (X₈.locS M.rs) (X₈.locI M.ix) (Int.natCast_nonneg _) (lt62' l1 hsz) (by rw [Int.toNat_natCast]; exact g1)) (by rfl) (by rfl) fun y s₉ ⟨t9, hv⟩ X₉ => ?_
      subst hv
      refine x_assign (K := KI ((i + 1 : Nat) : Int)) X₉ (Ev.eqI (ev_add (X₉.locI M.ix) ev_int) rfl) (by rfl) (by rfl) fun y s₁₀ ⟨t10, hv⟩ X₁₀ => ?_
      subst hv
      refine x_if (b := true) X₁₀ (Tr.eq (b := (([34] : List Nat) == [34])) rfl (tr_cmp (X₁₀.locS ⟨t9, by rfl⟩) ev_str (fun _ _ _ _ p => p) cmp_eq_str)) fun s₁₁ X₁₁ => ?_
      rw [if_pos (show true = true from rfl)]
      refine x_if (b := true) X₁₁ (Tr.eq (b := (decide (((resp p back).length : Int) ≤ ((i + 1 : Nat) : Int)) || (([32] : List Nat) != [34]))) (by simp) (tr_or2 (tr_cmp (X₁₁.locI ⟨t10, by rfl⟩) (X₁₁.locI M.nn) (fun _ _ _ _ p => p) cmp_ge_int)
        (fun _ => tr_cmp (ev_item_str (X₁₁.locS M.rs) (X₁₁.locI ⟨t10, by rfl⟩) (Int.natCast_nonneg _) (lt62' l2 hsz) (by rw [Int.toNat_natCast]; exact g2)) ev_str (fun _ _ _ _ p => p) cmp_ne_str))) fun s₁₂ X₁₂ => ?_
      rw [if_pos (show true = true from rfl)]
      refine wpAny_execs_cons (wpAny_Break ⟨_, _, _, ?_, X₁₂⟩)
      obtain ⟨td, ed⟩ := M.dir
      exact ⟨td, by rw [M.cut, List.append_nil]; exact ed⟩
    | cons ch r =>
      by_cases hq : ch = 34
      · subst hq
        have hd : (resp p back).drop i = 34 :: 34 :: (rep 34 [34, 34] r ++ ([34, 32] ++ back)) := M.at'
        obtain ⟨g1, d1, l1⟩ := drop_head hd
        obtain ⟨g2, d2, l2⟩ := drop_head d1
        refine x_assign (K := KS [34]) X₈ (ev_item_str (X₈.locS M.rs) (X₈.locI M.ix) (Int.natCast_nonneg _) (lt62' l1 hsz) (by rw [Int.toNat_natCast]; exact g1)) (by rfl) (by rfl) fun y s₉ ⟨t9, hv⟩ X₉ => ?_
        subst hv
        refine x_assign (K := KI ((i + 1 : Nat) : Int)) X₉ (Ev.eqI (ev_add (X₉.locI M.ix) ev_int) rfl) (by rfl) (by rfl) fun y s₁₀ ⟨t10, hv⟩ X₁₀ => ?_
        subst hv
        refine x_if (b := true) X₁₀ (Tr.eq (b := (([34] : List Nat) == [34])) rfl (tr_cmp (X₁₀.locS ⟨t9, by rfl⟩) ev_str (fun _ _ _ _ p => p) cmp_eq_str)) fun s₁₁ X₁₁ => ?_
        rw [if_pos (show true = true from rfl)]
        refine x_skip X₁₁ (Tr.eq (b := (decide (((resp p back).length : Int) ≤ ((i + 1 : Nat) : Int)) || (([34] : List Nat) != [34]))) (by rw [decide_eq_false (by omega)]; rfl) (tr_or2 (tr_cmp (X₁₁.locI ⟨t10, by rfl⟩) (X₁₁.locI M.nn) (fun _ _ _ _ p => p) cmp_ge_int)
          (fun _ => tr_cmp (ev_item_str (X₁₁.locS M.rs) (X₁₁.locI ⟨t10, by rfl⟩) (Int.natCast_nonneg _) (lt62' l2 hsz) (by rw [Int.toNat_natCast]; exact g2)) ev_str (fun _ _ _ _ p => p) cmp_ne_str))) fun s₁₂ X₁₂ => ?_
        refine x_assign (K := KI ((i + 1 + 1 : Nat) : Int)) X₁₂ (Ev.eqI (ev_add (X₁₂.locI ⟨t10, by rfl⟩) ev_int) rfl) (by rfl) (by rfl) fun y s₁₃ ⟨t13, hv⟩ X₁₃ => ?_
        subst hv
        refine x_nil ?_
        refine x_assign (K := KS (a ++ [34])) X₁₃ (ev_add_str (X₁₃.locS M.dir) (X₁₃.locS ⟨t9, by rfl⟩) (by simp; omega)) (by rfl) (by rfl) fun y s₁₄ ⟨t14, hv⟩ X₁₄ => ?_
        subst hv
        refine x_nil ⟨r.length + 1, _, _, _, by simp, ?_, X₁₄⟩
        exact ⟨i + 1 + 1, a ++ [34], r, rfl, ⟨M.rs, ⟨t13, by rfl⟩, M.nn, ⟨t14, by rfl⟩, by rw [M.cut]; simp, d2⟩⟩
      · have hd : (resp p back).drop i = ch :: (rep 34 [34, 34] r ++ ([34, 32] ++ back)) := by
          have := M.at'
          unfold rep at this ⊢
          rw [List.flatMap_cons, if_neg hq] at this
          exact this
        obtain ⟨g1, d1, l1⟩ := drop_head hd
        refine x_assign (K := KS [ch]) X₈ (ev_item_str (X₈.locS M.rs) (X₈.locI M.ix) (Int.natCast_nonneg _) (lt62' l1 hsz) (by rw [Int.toNat_natCast]; exact g1)) (by rfl) (by rfl) fun y s₉ ⟨t9, hv⟩ X₉ => ?_
        subst hv
        refine x_assign (K := KI ((i + 1 : Nat) : Int)) X₉ (Ev.eqI (ev_add (X₉.locI M.ix) ev_int) rfl) (by rfl) (by rfl) fun y s₁₀ ⟨t10, hv⟩ X₁₀ => ?_
        subst hv
        refine x_skip X₁₀ (Tr.eq (b := (([ch] : List Nat) == [34])) (by simpa using hq) (tr_cmp (X₁₀.locS ⟨t9, by rfl⟩) ev_str (fun _ _ _ _ p => p) cmp_eq_str)) fun s₁₁ X₁₁ => ?_
        refine x_assign (K := KS (a ++ [ch])) X₁₁ (ev_add_str (X₁₁.locS M.dir) (X₁₁.locS ⟨t9, by rfl⟩) (by simp; omega)) (by rfl) (by rfl) fun y s₁₄ ⟨t14, hv⟩ X₁₄ => ?_
        subst hv
        refine x_nil ⟨r.length + 1, _, _, _, by simp, ?_, X₁₄⟩
        exact ⟨i + 1, a ++ [ch], r, rfl, ⟨M.rs, ⟨t10, by rfl⟩, M.nn, ⟨t14, by rfl⟩, by rw [M.cut]; simp, d1⟩⟩
  · rintro m cm ls s₃ e X₃
    exact x_return (P := IsS p) X₃ (X₃.locS e) fun v s₃ p X₃ => ⟨⟨_, _, _, X₃⟩, p⟩
end
end Mine

end

section
open PySem PySem.W PyProof.Rows PySem.Spec
namespace Mine
/-! segments of a generator -/
section
variable {M : Model} {A : Around} {R : GenEnd} {Y : Protocol} {n : Nat} {s₀ : Shared} {c : Code} {fs : List Frame} {s : Shared} {env : Env}
  {H : Value → Sem Fin} {gd : Bool → Bool} {lv : List Value → List Value} {α β : Type}
theorem seg_bw {m : Sem α} {k : α → Sem β} {K : β → Sem Fin} (h : wpAny M (A.over c fs) m (fun a s' => Seg M A R Y n s₀ c ((k a).wrap K H gd lv) fs s') (fun _ _ => False) s) :
    Seg M A R Y n s₀ c ((m >>= k).wrap K H gd lv) fs s := by
  rw [Sem.bind_eq_wrap', Sem.wrap_wrap]
  exact seg_wrap (wpAny_mono h (fun _ _ h => h) fun _ _ h => h.elim)
theorem seg_mw {m : Sem α} {K : α → Sem Fin} (h : wpAny M (A.over c fs) m (fun a s' => Seg M A R Y n s₀ c (K a) fs s') (fun _ _ => False) s) :
    Seg M A R Y n s₀ c (m.wrap K H gd lv) fs s := seg_wrap (wpAny_mono h (fun _ _ h => h) fun _ _ h => h.elim)
theorem seg_If {test : Expr} {body orelse : List Stmt} {pos : Pos} {K : Flow → Sem Fin} (h : wpAny M (A.over c fs) (PySem.isTrue test env (eval test env)) (fun b s' =>
      if b = true then Seg M A R Y n s₀ c ((execs body env).wrap K H gd lv) fs s' else Seg M A R Y n s₀ c ((execs orelse env).wrap K H gd lv) fs s') (fun _ _ => False) s) :
    Seg M A R Y n s₀ c ((exec (.If test body orelse pos) env).wrap K H gd lv) fs s := by
  rw [exec_If]
  refine seg_bw (wpAny_standAt (seg_bw (wpAny_mono h (fun b s' h => ?_) fun _ _ h => h)))
  cases b with
  | true => exact h
  | false => exact h
theorem seg_For {target iter : Expr} {body orelse : List Stmt} {pos : Pos} {K : Flow → Sem Fin}
    (h : wpAny M (A.over c fs) (eval iter env) (fun x s₁ => wpAny M (A.over c fs) (pyIter x) (fun it s₂ => ∀ p, Seg M A R Y n s₀ (.forLoop target it body orelse env) (M.den (.forLoop target it body orelse env))
      (.ret (fun r => ((match r with | .ok f => (.pure f : Sem Flow) | .error e => .raise e).onRaise fun (x : Value) => do
        if (← field x 1) == Value.none then unsupported "frame.own-activation:exception-without-traceback"
        setFlight x env.frame).wrap K H gd lv) none (gd false) (lv []) c p [] :: fs) s₂) (fun _ _ => False) s₁) (fun _ _ => False) s)
    (hs : ∀ x, foldedSetIterable iter env x = pure x := by intro _; rfl) :
    Seg M A R Y n s₀ c ((exec (.For target iter body orelse pos) env).wrap K H gd lv) fs s := by
  rw [exec_For]
  refine seg_bw (wpAny_standAt (seg_bw (wpAny_mono h (fun x s₁ h₁ => ?_) fun _ _ h => h)))
  refine seg_bw (wpAny_of_eq (hs x) ?_)
  refine seg_bw (wpAny_standAt (seg_bw (wpAny_holding (wpAny_mono h₁ (fun it s₂ h₂ => ?_) fun _ _ h => h))))
  exact seg_call h₂
end
section
variable {prog : Program} {w : World} {A : Around} {R : GenEnd} {Y : Protocol} {n : Nat} {s₀ : Shared} {fs : List Frame} {s : Shared} {env : Env}
theorem seg_forLoop {target : Expr} {it : Value} {body orelse : List Stmt}
    (h : wpAny (model prog w) (A.over (.forLoop target it body orelse env) fs) (pyNext it) (fun r s₁ => match r with
      | none => Seg (model prog w) A R Y n s₀ (.forLoop target it body orelse env) (.pure (.again (.block orelse env))) fs s₁
      | some v => wpAny (model prog w) (A.over (.forLoop target it body orelse env) fs) (letOwnedTupleGo target it v) (fun _ s₂ => wpAny (model prog w) (A.over (.forLoop target it body orelse env) fs) (assign target env v) (fun _ s₃ =>
          Seg (model prog w) A R Y n s₀ (.forLoop target it body orelse env) ((execs body env).wrap (fun f => match f with
            | .next | .cont => .pure (.again (.forLoop target it body orelse env))
            | .brk => .pure (.done .next)
            | .ret v => .pure (.done (.ret v))) (fun e => (do noteFrame e env; theTreesLotGoes e : Sem Unit).bind (fun _ => .raise e)) id id) fs s₃) (fun _ _ => False) s₂) (fun _ _ => False) s₁) (fun _ _ => False) s) :
    Seg (model prog w) A R Y n s₀ (.forLoop target it body orelse env) ((model prog w).den (.forLoop target it body orelse env)) fs s := by
  show Seg _ A R Y n s₀ _ ((forTurn target it body orelse env).onRaise (fun x => do noteFrame x env; theTreesLotGoes x)) fs s
  unfold forTurn
  rw [Sem.onRaise_eq_wrap]
  refine seg_bw (wpAny_standAt (seg_bw (wpAny_onRaise (wpAny_mono h (fun r s₁ h₁ => ?_) fun _ _ h => h.elim))))
  cases r with
  | none => exact h₁
  | some v =>
    refine seg_bw (wpAny_mono h₁ (fun _ s₂ h₂ => ?_) fun _ _ h => h)
    refine seg_bw (wpAny_mono h₂ (fun _ s₃ h₃ => ?_) fun _ _ h => h)
    rw [Sem.bind_eq_wrap', Sem.wrap_wrap]
    refine Eq.mpr (congrArg (fun t => Seg (model prog w) A R Y n s₀ (Code.forLoop target it body orelse env) t fs s₃) (Sem.wrap_congr (execs body env) _ _ (fun f => ?_) (fun e => ?_))) h₃
    · cases f <;> rfl
    · rfl
theorem seg_block_nil {c : Code} (h : ∀ c', Seg (model prog w) A R Y n s₀ c' (.pure (.done .next)) fs s) : Seg (model prog w) A R Y n s₀ c (.pure (.again (.block [] env))) fs s := by
  refine seg_again rfl ?_
  show Seg _ A R Y n s₀ _ (((execs [] env).onRaise (fun x => do noteFrame x env; theTreesLotGoes x)) >>= fun f => pure (Fin.done f)) fs s
  exact h _
end
end Mine

end

section
open PySem PySem.W PyProof.Rows PySem.Spec
namespace Mine
noncomputable def Moves (W : List Addr) (s s' : Shared) : Prop := ∃ h tk, s' = { s with heap := h, toks := tk } ∧ ∀ b o, b ∉ W → s.heap.get? b = some o → h.get? b = some o
theorem Moves.refl (W : List Addr) (s : Shared) : Moves W s s := ⟨_, _, rfl, fun _ _ _ e => e⟩
theorem Moves.trans {W : List Addr} {a b c : Shared} (x : Moves W a b) (y : Moves W b c) : Moves W a c := by
  obtain ⟨h, t, rfl, k⟩ := x; obtain ⟨h', t', rfl, k'⟩ := y
  exact ⟨h', t', rfl, fun b o hb e => k' b o hb (k b o hb e)⟩
theorem Moves.of_keeps {W : List Addr} {a b : Shared} (x : Keeps a b) : Moves W a b := by
  obtain ⟨h, t, rfl, k⟩ := x; exact ⟨h, t, rfl, fun b o _ e => k b o e⟩

noncomputable def SgAt (x : Str) (i : Nat) (v : Value) : Prop := ∃ c u, x.cps[i]? = some c ∧ v = .str ⟨#[c]⟩ u
theorem draws_str (prog : Program) (w : World) (x : Str) (t : Tok) (it : Addr) : ∃ St : Nat → Heap → Prop, (∀ A', A'.handled = none → Draws prog w A' it [it] x.cps.size (SgAt x) St) ∧ ∀ h, h.IsStrIter it (strIterType x) x t 0 → St 0 h := by
  cases ha : x.cps.all (· < 128)
  · exact ⟨_, fun A' hA => Draws.strWide hA it x t, fun h hi => by simpa [strIterType, ha] using hi⟩
  · exact ⟨_, fun A' hA => Draws.strAscii hA it x t, fun h hi => by simpa [strIterType, ha] using hi⟩

structure GP (L e it : Addr) (Sx : Nat → Heap → Prop) (i : Nat) (m : Str → Option Value) (h : Heap) : Prop where
  ns : h.Ns L m
  en : ∃ old, IsEnum h e it (i : Int) old
  st : Sx i h
section
variable {prog : Program} {w : World} {A : Around} {env : Env} {s : Shared}
theorem GP.stay {L e it : Addr} {Sx : Nat → Heap → Prop} {i n : Nat} {m : Str → Option Value} {h h' : Heap} {P : Nat → Value → Prop} (D : Draws prog w A it [it] n P Sx) (g : GP L e it Sx i m h) (k : ∀ b ∈ [L, e, it], ∀ o, h.get? b = some o → h'.get? b = some o) : GP L e it Sx i m h' :=
  ⟨g.ns.at' fun o e' => k L (by simp) o e', let ⟨old, x⟩ := g.en; ⟨old, k e (by simp) _ x⟩, D.frame _ _ _ g.st fun b hb o x => k b (by rw [List.mem_singleton.mp hb]; simp) o x⟩

theorem gen_item {l : List Nat} {L e it : Addr} {Sx : Nat → Heap → Prop} {i c : Nat} {m : Str → Option Value} {x1 : Nat} {pi pv pt : Pos} {xi xv : Str} (hh : A.handled = none) (D : ∀ A', A'.handled = none → Draws prog w A' it [it] (S l).cps.size (SgAt (S l)) Sx)
    (hLe : L ≠ e) (hLi : L ≠ it) (hei : e ≠ it) (hL : env.locals = L) (hk : env.scope.kind = .function) (hxi : env.kindOf xi = some .local) (hxv : env.kindOf xv = some .local)
    (G : GP L e it Sx i m s.heap) (hi : l[i]? = some c) :
    wpAny (model prog w) A (pyNext (.ref e)) (fun r s₁ => match r with
      | none => False
      | some v => wpAny (model prog w) A (letOwnedTupleGo (.Tuple [.Name xi pi, .Name xv pv] x1 pt) (.ref e) v) (fun _ s₂ => wpAny (model prog w) A (assign (.Tuple [.Name xi pi, .Name xv pv] x1 pt) env v) (fun _ s₃ =>
          ∃ tp tq, Moves [L, e, it] s s₃ ∧ GP L e it Sx (i + 1) (upd (upd m xi (.int i tp)) xv (.str (S [c]) tq)) s₃.heap ∧ 0 < s₃.toks) (fun _ _ => False) s₂) (fun _ _ => False) s₁) (fun _ _ => False) s := by
  obtain ⟨hn, ⟨old, he⟩, hst⟩ := G
  have hp : (env.scope.kind == .class || (env.scope.kind == .module && env.locals != env.globals)) = false := by rw [hk]; rfl
  subst hL
  have hlt : i < (S l).cps.size := by
    have := (List.getElem?_eq_some_iff.mp hi).1
    simpa [S] using this
  have heH : e < s.heap.objs.size := Heap.lt_size he
  have hLH : env.locals < s.heap.objs.size := hn.lt
  obtain ⟨oi, hoi⟩ := (D A hh).live _ _ hst
  have hiH : it < s.heap.objs.size := Heap.lt_size hoi
  refine wpAny_pyNext_enum_itemD (D A.in1 hh) he hst hlt hei (by simpa using hei) fun x h₁ tk hP heo hst₁ ht₁ hz₁ hk₁ => ?_
  obtain ⟨c', u, hc', rfl⟩ := hP
  have ec : c' = c := by
    have : (S l).cps[i]? = l[i]? := by simp [S]
    rw [this, hi] at hc'; cases hc'; rfl
  subst ec
  refine wpAny_letOwnedTupleGo_enum heo fun h₂ he₂ hs₂ => ?_
  replace hs₂ : Heap.SameBut e h₁ h₂ := hs₂
  have ht₂ : h₂.IsTuple s.heap.objs.size #[.int i tk, .str ⟨#[c']⟩ u] := ⟨_, (hs₂.2 _ (Nat.ne_of_gt heH)).trans ht₁, rfl, _, rfl⟩
  have hz₂ : h₂.objs.size = s.heap.objs.size + 1 := hs₂.1.trans hz₁
  refine wpAny_assign_Tuple hh ht₂ rfl rfl fun h₃ hx₃ => ?_
  replace hx₃ : Heap.ExtBut h₂.objs.size h₂ h₃ := hx₃
  have old₃ : ∀ b o, b < s.heap.objs.size → h₂.get? b = some o → h₃.get? b = some o := fun b o hb x => hx₃ b o (by rw [hz₂]; exact Nat.ne_of_lt (Nat.lt_succ_of_lt hb)) x
  have hn₃ : h₃.Ns env.locals m := (hn.at fun o x => hk₁ _ o hLe hLi x).sameBut hs₂ hLe |>.at fun o x => old₃ _ o hLH x
  show wpAny _ A (do holding [Value.str ⟨#[c']⟩ u] (assign (.Name xi pi) env (.int i tk)); do holding [] (assign (.Name xv pv) env (Value.str ⟨#[c']⟩ u)); pure ()) _ _ _
  refine wpAny_bind (wpAny_holding (wpAny_assign_Name (wpAny_storeName_local hxi hn₃ (fun h₄ hn₄ hs₄ => ?_) hp)))
  replace hs₄ : Heap.SameBut env.locals h₃ h₄ := hs₄
  refine wpAny_bind (wpAny_holding (wpAny_assign_Name (wpAny_storeName_local hxv hn₄ (fun h₅ hn₅ hs₅ => wpAny_pure ?_) hp)))
  replace hs₅ : Heap.SameBut env.locals h₄ h₅ := hs₅
  have up : ∀ b o, b ≠ env.locals → b < s.heap.objs.size → h₂.get? b = some o → h₅.get? b = some o := fun b o hbL hb x =>
    hs₅.extBut b o hbL (hs₄.extBut b o hbL (old₃ b o hb x))
  refine ⟨tk, u, ⟨h₅, _, rfl, fun b o hb e' => ?_⟩, ⟨hn₅, ⟨Value.str ⟨#[c']⟩ u, ?_⟩, ?_⟩, Nat.succ_pos _⟩
  · simp only [List.mem_cons, List.not_mem_nil, or_false, not_or] at hb
    exact up b o hb.1 (Heap.lt_size e') (hs₂.extBut b o hb.2.1 (hk₁ b o hb.2.1 hb.2.2 e'))
  · have : ((i + 1 : Nat) : Int) = (i : Int) + 1 := by push_cast; rfl
    rw [this]; exact up e _ (Ne.symm hLe) heH he₂
  · exact (D A hh).frame _ _ _ hst₁ fun b hb o x => by
      rw [List.mem_singleton.mp hb] at x ⊢
      exact up it o (Ne.symm hLi) hiH (hs₂.extBut it o (Ne.symm hei) x)
end
end Mine

end

section
open PySem PySem.W PyProof.Rows PySem.Spec
namespace Mine
noncomputable def forPart : Expr × List Stmt := match (defAt 4).body[2]? with | some (Stmt.For t _ b _ _) => (t, b) | _ => (.Constant .none 0 ⟨0, 0, 0, 0⟩, [])
/-- what is yielded -/
noncomputable def itsF : List (List Nat) → Nat → List (Nat × List Nat)
  | [], _ => []
  | t :: r, i => (i + t.length - 1, t) :: itsF r (i + t.length)
noncomputable def IsTup (p : Nat × List Nat) (v : Value) (h : Heap) : Prop := ∃ a t u, v = .ref a ∧ h.IsTuple a #[.int (p.1 : Int) t, .str (S p.2) u]
/-- what the generator may change: its own names, and what it made itself -/
noncomputable def Own (L : Addr) (base : Heap) (W : List Addr) : Prop := ∀ b ∈ W, b = L ∨ base.get? b = none
/-- the protocol: n yet to come behind this one -/
noncomputable def GY (L : Addr) (base : Heap) (all : List (Nat × List Nat)) : Protocol := fun n s₀ v s' kap => ∃ W, Own L base W ∧ Moves W s₀ s' ∧ 0 < s'.toks ∧ (∃ p, all[all.length - (n + 1)]? = some p ∧ IsTup p v s'.heap) ∧
  ∀ s'', (∀ b ∈ W, ∀ o, s'.heap.get? b = some o → s''.heap.get? b = some o) → 0 < s''.toks → kap (.send .none) s''
noncomputable def GE (L : Addr) (base : Heap) (n : Nat) (s₀ s₁ : Shared) : Prop := n = 0 ∧ ∃ W, Own L base W ∧ Moves W s₀ s₁ ∧ 0 < s₁.toks
noncomputable def GR (L : Addr) (base : Heap) : GenEnd := fun n s₀ r s₁ => r = .ok (.ret .none) ∧ GE L base n s₀ s₁

section
variable {prog : Program} {w : World} {A : Around} {env : Env} {s : Shared} {h : Heap} {pos : Pos}
theorem ev_tup {e e' : Expr} {k : Nat} {i : Nat} {x : List Nat} (he : Ev prog w A env e h (IsI i)) (he' : Ev prog w A env e' h (IsS x))
    (hst : starEach [e, e'] env = (false, eval e env) :: starEach [e'] env := by rfl) (hst' : starEach [e'] env = [(false, eval e' env)] := by rfl) :
    Ev prog w A env (.Tuple [e, e'] k pos) h (IsTup (i, x)) := fun s hx ht => by
  refine wpAny_Tuple_spliced (wpAny_mono (args_more he (args_more he' args_none (fun _ _ _ _ p => p) hst') (fun _ _ _ _ p => p) hst _ s (fun vs s' => ∃ t u, vs = [.int i t, .str (S x) u] ∧ Keeps s s') hx ht
    (fun vs s' k1 _ t1 r => by obtain ⟨_, _, rfl, ⟨t, rfl⟩, _, _, rfl, ⟨u, rfl⟩, rfl⟩ := r; exact ⟨t, u, rfl, k1⟩)) (fun vs s₁ h₁ => ?_) fun _ _ f => f.elim)
  obtain ⟨t, u, rfl, k₁⟩ := h₁
  exact ⟨by rw [sizeLine_eq]; simp, keeps_push k₁ _, _, t, u, rfl, ⟨_, Heap.get?_push_size _ rfl, rfl, _, rfl⟩⟩

theorem gen_store {l : List Nat} {L e it : Addr} {Sx : Nat → Heap → Prop} {i : Nat} {m : Str → Option Value} {x : Str} {px : Pos} {ex : Expr} {v : Value} (D : ∀ A', A'.handled = none → Draws prog w A' it [it] (S l).cps.size (SgAt (S l)) Sx) (hh : A.handled = none)
    (hLe : L ≠ e) (hLi : L ≠ it) (hL : env.locals = L) (hk : env.scope.kind = .function) (hx : env.kindOf x = some .local) (G : GP L e it Sx i m s.heap) (ht : 0 < s.toks) (H : Ev prog w A env ex s.heap (IsV v)) (hs : swapsWith ex (some (.Name x px)) pos.line env = pure false) :
    wpAny (model prog w) A (exec (.Assign [.Name x px] ex pos) env) (fun f s' => f = .next ∧ Moves [L, e, it] s s' ∧ GP L e it Sx i (upd m x v) s'.heap ∧ 0 < s'.toks) (fun _ _ => False) s := by
  subst hL
  refine wpAny_Assign_Name (H.use (Ext.refl _) ht fun v' s₁ k₁ _ t₁ p => ?_) hs
  cases (show v' = v from p)
  have G₁ : GP env.locals e it Sx i m s₁.heap := G.stay (D A hh) fun b _ o x => keeps_ext k₁ b o x
  refine wpAny_storeName_local hx G₁.ns (fun h' hn hs' => ⟨rfl, (Moves.of_keeps k₁).trans ⟨h', _, rfl, fun b o hb x => hs'.extBut b o (fun q => hb (by rw [q]; simp)) x⟩, ?_, Nat.succ_pos _⟩) (by rw [hk]; rfl)
  exact ⟨hn, let ⟨old, x⟩ := G₁.en; ⟨old, hs'.extBut e _ (Ne.symm hLe) x⟩, (D A hh).frame _ _ _ G₁.st fun b hb o x => by
    rw [List.mem_singleton.mp hb] at x ⊢
    exact hs'.extBut it o (Ne.symm hLi) x⟩

theorem forPart_tgt : ∃ pi pv pt x1, forPart.1 = .Tuple [.Name (Str.ofString "pos") pi, .Name (Str.ofString "ch") pv] x1 pt := ⟨_, _, _, _, rfl⟩
theorem gen_item' {l : List Nat} {L e it : Addr} {Sx : Nat → Heap → Prop} {i c : Nat} {m : Str → Option Value} (hh : A.handled = none) (D : ∀ A', A'.handled = none → Draws prog w A' it [it] (S l).cps.size (SgAt (S l)) Sx)
    (hLe : L ≠ e) (hLi : L ≠ it) (hei : e ≠ it) (hL : env.locals = L) (hk : env.scope.kind = .function) (hxi : env.kindOf (Str.ofString "pos") = some .local) (hxv : env.kindOf (Str.ofString "ch") = some .local)
    (G : GP L e it Sx i m s.heap) (hi : l[i]? = some c) :
    wpAny (model prog w) A (pyNext (.ref e)) (fun r s₁ => match r with
      | none => False
      | some v => wpAny (model prog w) A (letOwnedTupleGo forPart.1 (.ref e) v) (fun _ s₂ => wpAny (model prog w) A (assign forPart.1 env v) (fun _ s₃ =>
          ∃ tp tq, Moves [L, e, it] s s₃ ∧ GP L e it Sx (i + 1) (upd (upd m (Str.ofString "pos") (.int i tp)) (Str.ofString "ch") (.str (S [c]) tq)) s₃.heap ∧ 0 < s₃.toks) (fun _ _ => False) s₂) (fun _ _ => False) s₁) (fun _ _ => False) s := by
  obtain ⟨pi, pv, pt, x1, e⟩ := forPart_tgt
  rw [e]
  exact gen_item hh D hLe hLi hei hL hk hxi hxv G hi

theorem gen_turn {l : List Nat} {L e it : Addr} {Sx : Nat → Heap → Prop} {i c : Nat} {m : Str → Option Value} {R : GenEnd} {Y : Protocol} {n : Nat} {s₀ : Shared} {fs : List Frame} (hh : (A.over (.forLoop forPart.1 (.ref e) forPart.2 [] env) fs).handled = none) (D : ∀ A', A'.handled = none → Draws prog w A' it [it] (S l).cps.size (SgAt (S l)) Sx)
    (hLe : L ≠ e) (hLi : L ≠ it) (hei : e ≠ it) (hL : env.locals = L) (hk : env.scope.kind = .function) (hxi : env.kindOf (Str.ofString "pos") = some .local) (hxv : env.kindOf (Str.ofString "ch") = some .local)
    (G : GP L e it Sx i m s.heap) (hi : l[i]? = some c)
    (go : ∀ s₃ tp tq, Moves [L, e, it] s s₃ → GP L e it Sx (i + 1) (upd (upd m (Str.ofString "pos") (.int i tp)) (Str.ofString "ch") (.str (S [c]) tq)) s₃.heap → 0 < s₃.toks →
      Seg (model prog w) A R Y n s₀ (.forLoop forPart.1 (.ref e) forPart.2 [] env) ((execs forPart.2 env).wrap (fun f => match f with
            | .next | .cont => .pure (.again (.forLoop forPart.1 (.ref e) forPart.2 [] env))
            | .brk => .pure (.done .next)
            | .ret v => .pure (.done (.ret v))) (fun e => (do noteFrame e env; theTreesLotGoes e : Sem Unit).bind (fun _ => .raise e)) id id) fs s₃) :
    Seg (model prog w) A R Y n s₀ (.forLoop forPart.1 (.ref e) forPart.2 [] env) ((model prog w).den (.forLoop forPart.1 (.ref e) forPart.2 [] env)) fs s := by
  refine seg_forLoop (wpAny_mono (gen_item' hh D hLe hLi hei hL hk hxi hxv G hi) (fun r s₁ h₁ => ?_) fun _ _ h => h)
  cases r with
  | none => exact h₁.elim
  | some v =>
    refine wpAny_mono h₁ (fun _ s₂ h₂ => wpAny_mono h₂ (fun _ s₃ h₃ => ?_) fun _ _ h => h) fun _ _ h => h
    obtain ⟨tp, tq, mv, G₃, ht₃⟩ := h₃
    exact go s₃ tp tq mv G₃ ht₃

theorem gen_loop {pm : Value} {c₀ : Addr} {doc : Value} {f : Addr} {l : List Nat} {L e it : Addr} {Sx : Nat → Heap → Prop} {k : Result → Sem Fin} {p : Pos} {all : List (Nat × List Nat)} (env : Env) (henv : env = envAt 4 pm c₀ doc L f) (hh : A.handled = none) (D : ∀ A', A'.handled = none → Draws prog w A' it [it] (S l).cps.size (SgAt (S l)) Sx)
    (hLe : L ≠ e) (hLi : L ≠ it) (hei : e ≠ it) (hsz : l.length ≤ 1000) {base : Heap} (hW : Own L base [L, e, it])
    (hend : ∀ s₀ s m, Moves [L, e, it] s₀ s → s.heap.Ns L m → m (Str.ofString "escape") = some (.bool false) → 0 < s.toks → Seg (model prog w) A (GR L base) (GY L base all) 0 s₀ (.func (defAt 4).body env) (k (.ok .next)) [] s) :
    ∀ (T : List (List Nat)), (∀ t ∈ T, (∃ c, c ≠ 92 ∧ t = [c]) ∨ ∃ c, t = [92, c]) → ∀ (s₀ s : Shared) (i : Nat) (m : Str → Option Value), Moves [L, e, it] s₀ s → GP L e it Sx i m s.heap → m (Str.ofString "escape") = some (.bool false) → 0 < s.toks →
      l.drop i = T.flatten → i ≤ l.length → all.drop (all.length - T.length) = itsF T i → T.length ≤ all.length →
      Seg (model prog w) A (GR L base) (GY L base all) T.length s₀ (.forLoop forPart.1 (.ref e) forPart.2 [] env) ((model prog w).den (.forLoop forPart.1 (.ref e) forPart.2 [] env)) [.ret k none false [] (.func (defAt 4).body env) p []] s := by
  intro T
  induction T with
  | nil =>
    intro hT s₀ s i m hmv G hesc ht hl hil hall hle
    refine seg_forLoop ?_
    have hi : i = (S l).cps.size := by
      have := congrArg List.length hl
      simp at this; simp; omega
    subst hi
    obtain ⟨hn, ⟨old, he⟩, hst⟩ := G
    refine wpAny_pyNext_enum_endD (D _ hh) he hst fun h' hx => ?_
    refine seg_block_nil fun c' => ?_
    refine seg_leaf (.ok .next) ?_
    refine hend _ _ m (hmv.trans ⟨h', _, rfl, fun b o hb x => hx b o (fun q => hb (by rw [q]; simp)) x⟩) (hn.at' fun o x => hx L o hLi x) hesc ht
  | cons t T ih =>
    intro hT s₀ s i m hmv G hesc ht hl hil hall hle
    have hT' : ∀ t ∈ T, (∃ c, c ≠ 92 ∧ t = [c]) ∨ ∃ c, t = [92, c] := fun t ht => hT t (List.mem_cons_of_mem _ ht)
    have hne : t ≠ [] := by rcases hT t List.mem_cons_self with ⟨c, _, rfl⟩ | ⟨c, rfl⟩ <;> simp
    have hkk : env.scope.kind = .function := by subst henv; rfl
    have hLL : env.locals = L := by subst henv; rfl
    have hitem : all[all.length - (T.length + 1)]? = some (i + t.length - 1, t) := by
      have := congrArg List.head? hall
      rw [List.head?_drop] at this
      exact this
    have hall' : all.drop (all.length - T.length) = itsF T (i + t.length) := by
      have := congrArg List.tail hall
      rw [List.tail_drop] at this
      refine Eq.trans ?_ this
      congr 1
      exact ar_pred hle
    have hle' : T.length ≤ all.length := by simp at hle; omega
    -- the end of a turn
    have again : ∀ (s₁ s₂ : Shared) (m' : Str → Option Value), Moves [L, e, it] s₁ s₂ → GP L e it Sx (i + t.length) m' s₂.heap → m' (Str.ofString "escape") = some (.bool false) → 0 < s₂.toks →
        Seg (model prog w) A (GR L base) (GY L base all) T.length s₁ (.forLoop forPart.1 (.ref e) forPart.2 [] env) (.pure (.again (.forLoop forPart.1 (.ref e) forPart.2 [] env))) [.ret k none false [] (.func (defAt 4).body env) p []] s₂ := fun s₁ s₂ m' mv G' he ht' => by
      refine seg_again rfl (ih hT' s₁ s₂ (i + t.length) m' mv G' he ht' ?_ ?_ hall' hle')
      · rw [← List.drop_drop, hl]; simp
      · have := congrArg List.length hl
        simp at this; omega
    rcases hT t List.mem_cons_self with ⟨c, hc, rfl⟩ | ⟨c, rfl⟩
    · have hic : l[i]? = some c := by
        rw [← List.head?_drop, hl]; rfl
      subst henv
      refine gen_turn hh D hLe hLi hei rfl rfl rfl rfl G hic fun s₃ tp tq mv G₃ ht₃ => ?_
      refine seg_execs_cons (seg_If ((tr_bool (ev_local G₃.ns (v := .bool false) (by exact hesc) (by rfl) (by rfl)).isB).use (Ext.refl _) ht₃ fun s₄ k₄ x₄ t₄ => ?_))
      rw [if_neg (by simp)]
      have G₄ := G₃.stay (D _ hh) fun b _ o x => x₄ b o x
      refine seg_execs_cons (seg_If ((tr_cmp (ev_local G₄.ns (v := .str (S [c]) tq) (by rfl) (by rfl) (by rfl)).isS (ev_str (l := [92])) (fun _ _ _ _ p => p) cmp_eq_str).use (Ext.refl _) t₄ fun s₅ k₅ x₅ t₅ => ?_))
      rw [if_neg (by simpa using hc)]
      have G₅ := G₄.stay (D _ hh) fun b _ o x => x₅ b o x
      refine seg_execs_cons (seg_Expr_Yield rfl rfl rfl ((ev_tup (ev_local G₅.ns (v := .int (i : Int) tp) (by rfl) (by rfl) (by rfl)).isI (ev_local G₅.ns (v := .str (S [c]) tq) (by rfl) (by rfl) (by rfl)).isS).use (Ext.refl _) t₅ fun v s₆ k₆ x₆ t₆ pv => ?_))
      intro kap hkap
      have G₆ := G₅.stay (D _ hh) fun b _ o x => x₆ b o x
      refine ⟨_, hW, (hmv.trans mv).trans (((Moves.of_keeps k₄).trans (Moves.of_keeps k₅)).trans (Moves.of_keeps k₆)), t₆, ⟨_, hitem, by simpa using pv⟩, fun s'' hag ht'' => hkap _ _ ?_⟩
      exact again s'' s'' _ (Moves.refl _ _) (G₆.stay (D _ hh) hag) hesc ht''
    · subst henv
      have hic : l[i]? = some 92 := by rw [← List.head?_drop, hl]; rfl
      have hic2 : l[i + 1]? = some c := by
        rw [← List.head?_drop, ← List.drop_drop, hl]; rfl
      refine gen_turn hh D hLe hLi hei rfl rfl rfl rfl G hic fun s₃ tp tq mv G₃ ht₃ => ?_
      refine seg_execs_cons (seg_If ((tr_bool (ev_local G₃.ns (v := .bool false) (by exact hesc) (by rfl) (by rfl)).isB).use (Ext.refl _) ht₃ fun s₄ k₄ x₄ t₄ => ?_))
      rw [if_neg (by simp)]
      have G₄ := G₃.stay (D _ hh) fun b _ o x => x₄ b o x
      refine seg_execs_cons (seg_If ((tr_cmp (ev_local G₄.ns (v := .str (S [92]) tq) (by rfl) (by rfl) (by rfl)).isS (ev_str (l := [92])) (fun _ _ _ _ p => p) cmp_eq_str).use (Ext.refl _) t₄ fun s₅ k₅ x₅ t₅ => ?_))
      rw [if_pos (by simp)]
      have G₅ := G₄.stay (D _ hh) fun b _ o x => x₅ b o x
      refine seg_execs_cons (seg_mw (wpAny_mono (gen_store (v := .bool true) D hh hLe hLi rfl rfl (by rfl) G₅ t₅ ev_bool (by rfl)) (fun f s₆ h₆ => ?_) fun _ _ h => h))
      obtain ⟨rfl, mv₆, G₆, t₆⟩ := h₆
      refine seg_again rfl ?_
      refine gen_turn hh D hLe hLi hei rfl rfl rfl rfl G₆ hic2 fun s₇ tp' tq' mv₇ G₇ ht₇ => ?_
      refine seg_execs_cons (seg_If ((tr_bool (ev_local G₇.ns (v := .bool true) (by rfl) (by rfl) (by rfl)).isB).use (Ext.refl _) ht₇ fun s₈ k₈ x₈ t₈ => ?_))
      rw [if_pos rfl]
      have G₈ := G₇.stay (D _ hh) fun b _ o x => x₈ b o x
      refine seg_execs_cons (seg_Expr_Yield rfl rfl rfl ((ev_tup (ev_local G₈.ns (v := .int ((i + 1 : Nat) : Int) tp') (by rfl) (by rfl) (by rfl)).isI (ev_add_str (ev_str (l := [92])) (ev_local G₈.ns (v := .str (S [c]) tq') (by rfl) (by rfl) (by rfl)).isS (by simp))).use (Ext.refl _) t₈ fun v s₉ k₉ x₉ t₉ pv => ?_))
      intro kap hkap
      have G₉ := G₈.stay (D _ hh) fun b _ o x => x₉ b o x
      refine ⟨_, hW, ((hmv.trans mv).trans (((Moves.of_keeps k₄).trans (Moves.of_keeps k₅)).trans mv₆)).trans ((mv₇.trans (Moves.of_keeps k₈)).trans (Moves.of_keeps k₉)), t₉, ⟨_, hitem, by simpa using pv⟩, fun s'' hag ht'' => hkap _ _ ?_⟩
      have G₁₀ := G₉.stay (D _ hh) hag
      refine seg_execs_cons (seg_mw (wpAny_mono (gen_store (v := .bool false) D hh hLe hLi rfl rfl (by rfl) G₁₀ ht'' ev_bool (by rfl)) (fun f s₁₁ h₁₁ => ?_) fun _ _ h => h))
      obtain ⟨rfl, mv₁₁, G₁₁, t₁₁⟩ := h₁₁
      exact again s'' s₁₁ _ mv₁₁ G₁₁ (by rfl) t₁₁
end
end Mine

end

section
open PySem PySem.W PyProof.Rows PySem.Spec
namespace Mine
section
variable {prog : Program} {w : World} {A : Around} {env : Env} {s : Shared} {h : Heap} {pos : Pos} {mg mb : Str → Option Value}
theorem ns_store {m : Str → Option Value} {x : Str} {px : Pos} {ex : Expr} {K : Value → Prop} {L : Addr} (hL : env.locals = L) (hk : env.scope.kind = .function) (hx : env.kindOf x = some .local) (hn : s.heap.Ns L m) (ht : 0 < s.toks) (H : Ev prog w A env ex s.heap (fun y _ => K y)) (hs : swapsWith ex (some (.Name x px)) pos.line env = pure false) :
    wpAny (model prog w) A (exec (.Assign [.Name x px] ex pos) env) (fun f s' => f = .next ∧ ∃ v, K v ∧ Moves [L] s s' ∧ s'.heap.Ns L (upd m x v) ∧ 0 < s'.toks) (fun _ _ => False) s := by
  subst hL
  refine wpAny_Assign_Name (H.use (Ext.refl _) ht fun v' s₁ k₁ _ t₁ p => ?_) hs
  refine wpAny_storeName_local hx (hn.keeps (keeps_ext k₁)) (fun h' hn hs' => ⟨rfl, v', p, (Moves.of_keeps k₁).trans ⟨h', _, rfl, fun b o hb x => hs'.extBut b o (fun q => hb (by rw [q]; simp)) x⟩, hn, Nat.succ_pos _⟩) (by rw [hk]; rfl)
theorem Moves.ext {W : List Addr} {s s' : Shared} (x : Moves W s s') {h : Heap} (e : Ext h s.heap) (hW : ∀ b ∈ W, h.get? b = none) : Ext h s'.heap := by
  obtain ⟨h', tk, rfl, k⟩ := x
  exact fun b o hb => k b o (fun hm => by rw [hW b hm] at hb; cases hb) (e b o hb)
theorem Moves.wider {W W' : List Addr} {s s' : Shared} (x : Moves W s s') (hW : ∀ b ∈ W, b ∈ W') : Moves W' s s' := by
  obtain ⟨h', tk, rfl, k⟩ := x
  exact ⟨h', tk, rfl, fun b o hb e => k b o (fun hm => hb (hW b hm)) e⟩

/-- enumerate(addr) -/
theorem ev_enum {np : Pos} {e : Expr} {l : List Nat} (G : Gl mg mb h) (hg : env.globals = mainGlobals) (hb : env.builtins = builtinsNs) (he : Ev prog w A env e h (IsS l))
    (hk : env.scope.kind = .function := by rfl) (hl : env.kindOf (Str.ofString "enumerate") = some .globalImplicit := by rfl)
    (hst : starEach [e] env = [(false, eval e env)] := by rfl) :
    Ev prog w A env (.Call (.Name (Str.ofString "enumerate") np) [e] [] pos) h (fun v h' => ∃ en it t, v = .ref en ∧ IsEnum h' en it 0 .none ∧ h'.IsStrIter it (strIterType (S l)) (S l) t 0 ∧ h.get? en = none ∧ h.get? it = none ∧ en ≠ it) :=
  ev_call_type (id := "enumerate") (ev_builtin (hg ▸ G.g) (G.bi "enumerate" (by simp)).1 (hb ▸ G.b) ((G.bi "enumerate" (by simp)).2.trans (by rfl)) hk hl) (args_more he args_none (fun _ _ _ _ p => p) hst)
    (fun vs h' x ⟨v, vs', e1, ⟨t, e2⟩, e5⟩ => by
      subst e1 e2 e5
      intro s hx ht
      have fresh : ∀ a, s.heap.objs.size ≤ a → h.get? a = none := fun a ha => by
        cases e : h.get? a with
        | none => rfl
        | some o => exact absurd (Heap.lt_size (hx _ _ (x _ _ e))) (Nat.not_lt.mpr ha)
      exact call_enumerate_str fun h₂ he hi hz hk => ⟨⟨h₂, _, rfl, hk⟩, _, _, t, rfl, he, hi, fresh _ (Nat.le_succ _), fresh _ (Nat.le_refl _), Nat.succ_ne_self _⟩) hst

theorem seg_frame_next {R : GenEnd} {Y : Protocol} {n : Nat} {s₀ : Shared} {c : Code} {fs : List Frame} {K : Flow → Sem Fin} {H : Value → Sem Fin} {gd : Bool → Bool} {lv : List Value → List Value} {M : Model} {g : Value → Sem Unit}
    (h : Seg M A R Y n s₀ c (K .next) fs s) : Seg M A R Y n s₀ c (Sem.wrap K H gd lv ((match (Except.ok Flow.next : Result) with | .ok f => (.pure f : Sem Flow) | .error e => .raise e).onRaise g)) fs s := h

theorem gen_start {pm : Value} {c₀ : Addr} {doc : Value} {f : Addr} {l : List Nat} {L : Addr} {t : Tok} {m : Str → Option Value} {T : List (List Nat)} (hh : A.handled = none) (hsz : l.length ≤ 1000) (hT : ∀ t ∈ T, (∃ c, c ≠ 92 ∧ t = [c]) ∨ ∃ c, t = [92, c]) (hl : l = T.flatten)
    (hLG : ∃ h₀, Gl mg mb h₀ ∧ Ext h₀ s.heap ∧ h₀.get? L = none) (hn : s.heap.Ns L m) (hm : m (Str.ofString "addr") = some (.str (S l) t)) (ht : 0 < s.toks) :
    Seg (model prog w) A (GR L s.heap) (GY L s.heap (itsF T 0)) T.length s (.func (defAt 4).body (envAt 4 pm c₀ doc L f)) ((model prog w).den (.func (defAt 4).body (envAt 4 pm c₀ doc L f))) [] s := by
  obtain ⟨h₀, G₀, x₀, hL₀⟩ := hLG
  have hL1 : ∀ b ∈ [L], h₀.get? b = none := fun b hb => by rw [List.mem_singleton.mp hb]; exact hL₀
  refine seg_func ?_
  refine seg_execs_cons (seg_mw (wpAny_mono (ns_store (K := KI 0) (L := L) rfl rfl (by rfl) hn ht ev_int (by rfl)) (fun f s₁ h₁ => ?_) fun _ _ h => h))
  obtain ⟨rfl, v₁, -, mv₁, hn₁, t₁⟩ := h₁
  refine seg_execs_cons (seg_mw (wpAny_mono (ns_store (K := fun v => v = .bool false) (L := L) rfl rfl (by rfl) hn₁ t₁ ev_bool (by rfl)) (fun f s₂ h₂ => ?_) fun _ _ h => h))
  obtain ⟨rfl, v₂, rfl, mv₂, hn₂, t₂⟩ := h₂
  have mv := mv₁.trans mv₂
  have x₂ : Ext h₀ s₂.heap := mv.ext x₀ hL1
  have hlen : (itsF T 0).length = T.length := by
    have : ∀ (T : List (List Nat)) i, (itsF T i).length = T.length := by
      intro T
      induction T with
      | nil => intro i; rfl
      | cons a r ih => intro i; show (_ :: itsF r _).length = _; rw [List.length_cons, ih]; rfl
    exact this T 0
  refine seg_execs_cons (seg_For ((ev_enum (G₀.up x₂) rfl rfl (ev_local hn₂ (v := .str (S l) t) (by exact hm) (by rfl) (by rfl)).isS).use (Ext.refl _) t₂ fun v s₃ k₃ x₃ t₃ hv => ?_))
  obtain ⟨en, it, tk, rfl, he, hi, hfe, hfi, hei⟩ := hv
  refine wpAny_pyIter_enum he fun p => ?_
  obtain ⟨Sx, D, hSt⟩ := draws_str prog w (S l) tk it
  have hLs : ∃ o, s₂.heap.get? L = some o := let ⟨o, _, _, e, _⟩ := hn₂; ⟨o, e⟩
  have hLe : L ≠ en := by rintro rfl; obtain ⟨o, e⟩ := hLs; rw [hfe] at e; cases e
  have hLi : L ≠ it := by rintro rfl; obtain ⟨o, e⟩ := hLs; rw [hfi] at e; cases e
  have fr : ∀ b, b ≠ L → s₂.heap.get? b = none → s.heap.get? b = none := fun b hb hn => by
    cases e : s.heap.get? b with
    | none => rfl
    | some o =>
      obtain ⟨h', tk', rfl, k⟩ := mv
      have := k b o (by simpa using hb) e
      rw [hn] at this; cases this
  refine gen_loop (all := itsF T 0) _ rfl hh D hLe hLi hei hsz ?_ ?_ T hT s s₃ 0 _ ((mv.trans (Moves.of_keeps k₃)).wider (fun b hb => by rw [List.mem_singleton.mp hb]; simp)) ⟨hn₂.keeps x₃, ⟨_, he⟩, hSt _ hi⟩ (by rfl) t₃ hl (Nat.zero_le _) (by rw [hlen, Nat.sub_self]; rfl) (by omega)
  · intro b hb
    simp only [List.mem_cons, List.not_mem_nil, or_false] at hb
    rcases hb with rfl | rfl | rfl
    · exact .inl rfl
    · exact .inr (fr _ (Ne.symm hLe) hfe)
    · exact .inr (fr _ (Ne.symm hLi) hfi)
  · intro s₀ s₄ m₄ mv₄ hn₄ he₄ t₄
    refine seg_frame_next (seg_execs_cons (seg_If ((tr_bool (ev_local hn₄ (v := .bool false) (by exact he₄) (by rfl) (by rfl)).isB).use (Ext.refl _) t₄ fun s₅ k₅ x₅ t₅ => ?_)))
    rw [if_neg (by simp)]
    refine seg_end (.ok (.ret .none)) ⟨rfl, rfl, [L, en, it], ?_, mv₄.trans (Moves.of_keeps k₅), t₅⟩
    intro b hb
    simp only [List.mem_cons, List.not_mem_nil, or_false] at hb
    rcases hb with rfl | rfl | rfl
    · exact .inl rfl
    · exact .inr (fr _ (Ne.symm hLe) hfe)
    · exact .inr (fr _ (Ne.symm hLi) hfi)
end
end Mine

end

section
open PySem PySem.W PyProof.Rows PySem.Spec
namespace Mine
section
variable {prog : Program} {w : World} {A : Around} {env : Env} {s : Shared} {h : Heap} {pos : Pos} {mg mb : Str → Option Value}

/-- a turn of the generator as its reader sees it -/
theorem gen_next {a L : Addr} {base : Heap} {all : List (Nat × List Nat)} {n : Nat} {G₀ : Array GenState} {gs : GenState} (hh : A.handled = none) (hlim : s.heap.NoLimit) (hroom : A.depth < recursionLimit)
    (hgen : s.heap.IsGen a G₀.size) (hgs : s.gens = G₀.push gs) (hgo : gs.Goes (model prog w) A.in1 (GR L base) (GY L base all) n (.send .none) (s.setGen G₀.size .running)) :
    wpAny (model prog w) A (pyNext (.ref a)) (fun r s' => match r with
      | some v => ∃ n' W gs' h tk, n = n' + 1 ∧ Own L base W ∧ s' = { s with heap := h, toks := tk, gens := G₀.push gs' } ∧ (∀ b o, b ∉ W → s.heap.get? b = some o → h.get? b = some o) ∧ 0 < tk ∧
          (∃ p, all[all.length - (n' + 1)]? = some p ∧ IsTup p v h) ∧
          ∀ s'' : Shared, s''.gens = G₀.push gs' → (∀ b ∈ W, ∀ o, h.get? b = some o → s''.heap.get? b = some o) → 0 < s''.toks → gs'.Goes (model prog w) A.in1 (GR L base) (GY L base all) n' (.send .none) (s''.setGen G₀.size .running)
      | none => n = 0 ∧ ∃ W h tk, Own L base W ∧ s' = { s with heap := h, toks := tk, gens := G₀.push .finished } ∧ (∀ b o, b ∉ W → s.heap.get? b = some o → h.get? b = some o) ∧ 0 < tk) (fun _ _ => False) s := by
  have setp : ∀ (x y : GenState), (G₀.push x).setIfInBounds G₀.size y = G₀.push y := fun x y => by
    apply Array.ext'
    simp [Array.toList_setIfInBounds]
  refine wpAny_pyNext_gen (n := n) (P := GE L base) (Y := GY L base all) hh hlim hroom hgen (gs := gs) (by rw [hgs]; simp) hgo (fun v s₁ gs' hv => ?_) (fun s₁ hp h' hk => ?_)
  · obtain ⟨W, hW, ⟨h₁, tk₁, rfl, k₁⟩, ht, hp, hkap⟩ := hv
    cases n with
    | zero => exact (hkap { s with heap := h₁, toks := tk₁ } (fun _ _ _ e => e) ht).elim
    | succ m =>
      refine ⟨m, W, gs', h₁, tk₁, rfl, hW, ?_, k₁, ht, hp, fun s'' hg'' hag ht'' => ?_⟩
      · unfold Shared.setGen
        simp only [hgs, setp]
      · exact hkap _ hag ht''
  · obtain ⟨hn, W, hW, ⟨h₁, tk₁, rfl, k₁⟩, ht⟩ := hp
    refine ⟨hn, W, h', tk₁, hW, ?_, fun b o hb e => hk b o (k₁ b o hb e), ht⟩
    unfold Shared.setGen
    simp only [hgs, setp]

/-- the call that makes the generator -/
theorem gen_call {np : Pos} {e : Expr} {l : List Nat} (G : Gl mg mb s.heap) (hroom : A.depth < recursionLimit) (hg : env.globals = mainGlobals) (he : Ev prog w A env e s.heap (IsS l)) (ht : 0 < s.toks)
    (hk : env.scope.kind = .function := by rfl) (hl : env.kindOf (defAt 4).name = some .globalImplicit := by rfl) (hst : starEach [e] env = [(false, eval e env)] := by rfl) :
    wpAny (model prog w) A (eval (.Call (.Name (defAt 4).name np) [e] [] pos) env) (fun v s' => ∃ a L f pm c doc t m h tk, v = .ref a ∧ s' = { s with heap := h, toks := tk, gens := s.gens.push (.fresh (.func (defAt 4).body (envAt 4 pm c doc L f))) } ∧
      Ext s.heap h ∧ s.heap.get? L = none ∧ h.IsGen a s.gens.size ∧ h.Ns L m ∧ m (Str.ofString "addr") = some (.str (S l) t) ∧ 0 < tk) (fun _ _ => False) s := by
  obtain ⟨f, o, pm, c, doc, h1, h2, h3, h4⟩ := G.fn 4 (by simp)
  refine wpAny_Call_NameR ((ev_global (hg ▸ G.g) h1 hk hl (by decide +kernel)).use (Ext.refl _) ht fun v s₁ k₁ x₁ t₁ p => ?_)
  cases (show v = .ref f from p)
  refine callWith_def (fd := Calls.docDef (defAt 4).name (defAt 4).params (defAt 4).body (defAt 4).scope pm (.ref c) doc) h3 (args_more he args_none (fun _ _ _ _ p => p) hst pos s₁ _ x₁ t₁ fun vs s₂ k₂ x₂ t₂ r => ⟨x₂ _ _ h2, ?_⟩) hst
  obtain ⟨v, vs', e1, ⟨t, e2⟩, e3⟩ := r
  subst e1 e2 e3
  refine wpAny_call ?_
  refine codeAny_call_generator hroom (x₂ _ _ h2) h3 rfl rfl rfl (h4.keeps x₂) ?_
  have hbind : bindArgs (Calls.docDef (defAt 4).name (defAt 4).params (defAt 4).body (defAt 4).scope pm (.ref c) doc) ⟨[.str (S l) t], []⟩ = pure [(Str.ofString "addr", .str (S l) t)] := rfl
  rw [hbind]
  refine wpAny_pure (wpAny_newFunctionEnv_cells rfl (fun x hx => by
    rcases List.mem_cons.mp hx with rfl | hx
    · exact .inl rfl
    · cases hx) fun env he s₃ x => ?_)
  subst he
  obtain ⟨h₃, tk₃, e₃, k₃⟩ := x.done
  subst e₃
  obtain ⟨h₁', tk₁', rfl, kk₁⟩ := k₁
  obtain ⟨h₂', tk₂', rfl, kk₂⟩ := k₂
  refine ⟨((G.lim.keeps x₁).keeps kk₂).keeps x.toInCall.keep, ?_⟩
  refine ⟨h₃.objs.size, h₂'.objs.size, f, pm, c, doc, t, _, _, _, rfl, rfl, fun b o e => Heap.get?_push_of_some _ (x.toInCall.keep b o (kk₂ b o (kk₁ b o e))), ?_, ⟨_, _, _, Heap.get?_push_size _ rfl, rfl, rfl, rfl⟩, x.toInCall.ns.push _, by rfl, Nat.succ_pos _⟩
  cases e : s.heap.get? h₂'.objs.size with
  | none => rfl
  | some o => exact absurd (Heap.lt_size (kk₂ _ _ (kk₁ _ _ e))) (Nat.lt_irrefl _)
end
end Mine

end

section
open PySem PySem.W PyProof.Rows PySem.Spec
namespace Mine
section
variable {prog : Program} {w : World} {A : Around} {env : Env} {s : Shared} {h : Heap} {pos : Pos} {mg mb : Str → Option Value}
theorem cmp_is_none_none : Cmp prog w A .Is (IsV .none) (IsV .none) h true := fun v₁ v₂ s _ e e' => by
  cases (show v₁ = .none from e); cases (show v₂ = .none from e')
  exact wpAny_is_plain rfl ⟨keeps_refl s, rfl⟩
theorem cmp_is_int_none {i : Int} : Cmp prog w A .Is (IsI i) (IsV .none) h false := fun v₁ v₂ s _ ⟨t, e⟩ e' => by
  subst e; cases (show v₂ = .none from e')
  exact wpAny_is_plain rfl ⟨keeps_refl s, rfl⟩

variable {G : Array GenState → Prop} {s₀ s' : Shared} {g : Heap} {m cm : Str → Option Value} {ls : List (Addr × List Value)} {Q : Flow → Shared → Prop} {E : Value → Shared → Prop}
theorem x_append {K : Value → Prop} {o elt : Expr} {apos cpos : Pos} {D : Addr} {ys : List Value} {rest : List Stmt} (X : St G s₀ g env m cm ((D, ys) :: ls) s) (ho : Ev prog w A env o s.heap (IsV (.ref D)))
    (helt : ∀ s₁, St G s₀ g env m cm ((D, ys) :: ls) s₁ → wpAny (model prog w) A (eval elt env) (fun y s₂ => St G s₀ g env m cm ((D, ys) :: ls) s₂ ∧ K y) (fun _ _ => False) s₁) (hD : g.get? D = none) (hap : ∀ p ∈ ls, p.1 ≠ D) (hsz : ys.length ≤ 100000)
    (k : ∀ y s', K y → St G s₀ g env m cm ((D, ys ++ [y]) :: ls) s' → wpAny (model prog w) A (execs rest env) Q E s')
    (hbase : attributeBase o (Str.ofString "append") env (eval o env) = eval o env := by rfl) (hline : (apos.endLine == cpos.line) = true := by rfl) (htrees : ∀ p, backTo p (starEach [elt] env) = [(false, eval elt env)] := by intro _; rfl)
    (hi : interactive env = false := by rfl) (hs : swapsWith (.Call (.Attribute o (Str.ofString "append") apos) [elt] [] cpos) none pos.line env = pure false := by rfl) :
    wpAny (model prog w) A (execs (.Expr (.Call (.Attribute o (Str.ofString "append") apos) [elt] [] cpos) pos :: rest) env) Q E s := by
  refine wpAny_execs_cons (wpAny_Expr_any (wpAny_Call_append hbase (by rw [htrees]; rfl) hline (htrees _) (ho.use (Ext.refl _) X.toks fun v s₁ k₁ x₁ t₁ p => ?_)) hi hs)
  cases (show v = .ref D from p)
  have X₁ := X.kept k₁ t₁
  obtain ⟨n, hpl⟩ := X₁.lists (D, ys) List.mem_cons_self
  refine ⟨D, ys.toArray, rfl, ⟨_, n, hpl, rfl, rfl, rfl⟩, wpAny_mono (helt s₁ X₁) (fun y s₂ h₂ => ?_) fun _ _ h => h.elim⟩
  obtain ⟨X₂, ky⟩ := h₂
  have hpl₂ := X₂.lists (D, ys) List.mem_cons_self
  refine wpAny_list_append_plain hpl₂ (fun h' hl' hs' => ?_) (by rw [sizeLine_eq]; simp; omega)
  have X₃ : St G s₀ g env m cm ls { s₂ with heap := h', toks := s₂.toks } := (X₂.less (ls' := ls) fun p hp => by simp [hp]).change (tk := s₂.toks) hs' X₂.toks hD (X₂.ns.sameBut hs' (Ne.symm (ns_ne_list X₂.ns hpl₂.isList)))
    (fun n c hc => (X₂.cell n c hc).sameBut hs' (Ne.symm (cell_ne_list (X₂.cell n c hc) hpl₂.isList))) hap
  refine k y _ ky (X₃.more ?_)
  have e : ys.toArray.push y = (ys ++ [y]).toArray := by simp
  rw [e] at hl'; exact hl'
theorem x_appendE {K : Value → Prop} {o elt : Expr} {apos cpos : Pos} {D : Addr} {ys : List Value} {rest : List Stmt} (X : St G s₀ g env m cm ((D, ys) :: ls) s) (ho : Ev prog w A env o s.heap (IsV (.ref D)))
    (helt : ∀ s₁, St G s₀ g env m cm ((D, ys) :: ls) s₁ → Ev prog w A env elt s₁.heap (fun y _ => K y)) (hD : g.get? D = none) (hap : ∀ p ∈ ls, p.1 ≠ D) (hsz : ys.length ≤ 100000)
    (k : ∀ y s', K y → St G s₀ g env m cm ((D, ys ++ [y]) :: ls) s' → wpAny (model prog w) A (execs rest env) Q E s')
    (hbase : attributeBase o (Str.ofString "append") env (eval o env) = eval o env := by rfl) (hline : (apos.endLine == cpos.line) = true := by rfl) (htrees : ∀ p, backTo p (starEach [elt] env) = [(false, eval elt env)] := by intro _; rfl)
    (hi : interactive env = false := by rfl) (hs : swapsWith (.Call (.Attribute o (Str.ofString "append") apos) [elt] [] cpos) none pos.line env = pure false := by rfl) :
    wpAny (model prog w) A (execs (.Expr (.Call (.Attribute o (Str.ofString "append") apos) [elt] [] cpos) pos :: rest) env) Q E s :=
  x_append X ho (fun s₁ X₁ => (helt s₁ X₁).use (Ext.refl _) X₁.toks fun y s₂ k₂ _ t₂ ky => ⟨X₁.kept k₂ t₂, ky⟩) hD hap hsz k hbase hline htrees hi hs
end

/-! what _strip_quoted_realnames comes to -/
abbrev SState := Nat × Option Nat × List (List Nat)
noncomputable def stStep (l : List Nat) (z : SState) (p : Nat × List Nat) : SState :=
  if p.2 = [34] then
    match z.2.1 with
    | none => (z.1, some p.1, z.2.2)
    | some o => (p.1 + 1, none, if z.1 = o then z.2.2 else z.2.2 ++ [(l.drop z.1).take (o - z.1)])
  else z
noncomputable def stripF (l : List Nat) (T : List (List Nat)) : List Nat :=
  let z := (itsF T 0).foldl (stStep l) (0, none, [])
  (if z.1 < l.length then z.2.2 ++ [l.drop z.1] else z.2.2).flatten

structure SIn (l : List Nat) (D : Addr) (z : SState) (ys : List Value) (m : Str → Option Value) : Prop where
  addr : ∃ t, m (Str.ofString "addr") = some (.str (S l) t)
  start : ∃ t, m (Str.ofString "start") = some (.int (z.1 : Int) t)
  op : match z.2.1 with | none => m (Str.ofString "open_pos") = some .none | some o => ∃ t, m (Str.ofString "open_pos") = some (.int (o : Int) t)
  res : m (Str.ofString "result") = some (.ref D)
  pts : Pts KS z.2.2 ys
noncomputable def bodyPart : Expr × List Stmt := match (defAt 5).body[4]? with | some (Stmt.For t _ b _ _) => (t, b) | _ => (.Constant .none 0 ⟨0, 0, 0, 0⟩, [])

section
variable {prog : Program} {w : World} {A : Around} {env : Env} {s : Shared} {h : Heap} {pos : Pos} {mg mb : Str → Option Value}
theorem strip_body {G : Array GenState → Prop} {s₀ : Shared} {g : Heap} {m cm : Str → Option Value} {l : List Nat} {D : Addr} {ys : List Value} {z : SState} {pm : Value} {c : Addr} {doc : Value} {L f : Addr} {p : Nat × List Nat} {t u : Tok} {E : Value → Shared → Prop}
    (X : St G s₀ g (envAt 5 pm c doc L f) (upd (upd m (Str.ofString "pos") (.int (p.1 : Int) t)) (Str.ofString "ch") (.str (S p.2) u)) cm [(D, ys)] s) (M : SIn l D z ys m) (hD : g.get? D = none) (hl : l.length ≤ 1000) (hz : z.1 ≤ l.length) (hop : ∀ o, z.2.1 = some o → z.1 ≤ o ∧ o ≤ l.length) (hr : z.2.2.length ≤ 1000) :
    wpAny (model prog w) A (execs bodyPart.2 (envAt 5 pm c doc L f)) (fun fl s' => fl = .next ∧ ∃ m' ys', St G s₀ g (envAt 5 pm c doc L f) m' cm [(D, ys')] s' ∧ SIn l D (stStep l z p) ys' m') E s := by
  refine x_if X (tr_cmp (X.locS ⟨u, by rfl⟩) (ev_str (l := [34])) (fun _ _ _ _ p => p) cmp_eq_str) fun s₁ X₁ => ?_
  by_cases hp : p.2 = [34]
  · rw [if_pos (by simpa using hp)]
    unfold stStep
    rw [if_pos hp]
    cases ho : z.2.1 with
    | none =>
      have hopen := M.op
      rw [ho] at hopen
      refine x_if (b := true) X₁ (tr_cmp (X₁.loc (v := .none) (by exact hopen)) ev_none (fun _ _ _ _ p => p) cmp_is_none_none) fun s₂ X₂ => ?_
      rw [if_pos rfl]
      refine x_assign (K := KI p.1) X₂ (X₂.locI ⟨t, by rfl⟩) (by rfl) (by rfl) fun y s₃ ⟨t₃, hv⟩ X₃ => ?_
      subst hv
      refine x_nil (x_nil (x_nil ⟨rfl, _, ys, X₃, ?_⟩))
      exact ⟨M.addr, M.start, ⟨t₃, by rfl⟩, M.res, M.pts⟩
    | some o =>
      have hopen := M.op
      rw [ho] at hopen
      obtain ⟨ho1, ho2⟩ := hop o ho
      refine x_if (b := false) X₁ (tr_cmp (X₁.locI (by exact hopen)) ev_none (fun _ _ _ _ p => p) cmp_is_int_none) fun s₂ X₂ => ?_
      rw [if_neg (by simp)]
      refine x_join (J := fun m' cm' ls' => cm' = cm ∧ ∃ ys', ls' = [(D, ys')] ∧ SIn l D (z.1, some o, if z.1 = o then z.2.2 else z.2.2 ++ [(l.drop z.1).take (o - z.1)]) ys' m' ∧ (∃ t, m' (Str.ofString "pos") = some (.int (p.1 : Int) t))) X₂
        (tr_cmp (X₂.locI M.start) (X₂.locI (by exact hopen)) (fun _ _ _ _ p => p) cmp_ne_int) (fun hb q E' Xq => ?_) (fun hb q E' Xq => ?_) (fun m' cm' ls' q hJ Xq => ?_)
      · have hne : z.1 ≠ o := by
          intro e; rw [e] at hb; simp at hb
        refine x_appendE (K := KS ((l.drop z.1).take (o - z.1))) Xq (Xq.loc (v := .ref D) (by exact M.res)) (fun s₁ X₁ => ev_fromto (X₁.locS M.addr) (X₁.locI M.start) (X₁.locI (by exact hopen)) ho1 ho2 (by omega)) hD (fun _ h => nomatch h) (by rw [M.pts.1]; omega) fun y q' ky Xq' => ?_
        refine x_nil ⟨_, _, _, Xq', rfl, _, rfl, ?_, ⟨t, by rfl⟩⟩
        rw [if_neg hne]
        exact ⟨M.addr, M.start, hopen, M.res, M.pts.snoc ky⟩
      · have he : z.1 = o := by
          have : (z.1 : Int) = (o : Int) := by simpa using hb
          omega
        refine x_nil ⟨_, _, _, Xq, rfl, _, rfl, ?_, ⟨t, by rfl⟩⟩
        rw [if_pos he]
        exact ⟨M.addr, M.start, hopen, M.res, M.pts⟩
      · obtain ⟨rfl, ys', rfl, M', hpos⟩ := hJ
        refine x_assign (K := KI ((p.1 + 1 : Nat) : Int)) Xq (Ev.eqI (ev_add (Xq.locI hpos) ev_int) (by omega)) (by rfl) (by rfl) fun y s₃ ⟨t₃, hv⟩ X₃ => ?_
        subst hv
        refine x_assign (K := fun v => v = .none) X₃ ev_none (by rfl) (by rfl) fun y s₄ hv X₄ => ?_
        subst hv
        refine x_nil (x_nil (x_nil ⟨rfl, _, ys', X₄, ?_⟩))
        exact ⟨M'.addr, ⟨t₃, by rfl⟩, by rfl, M'.res, M'.pts⟩
  · rw [if_neg (by simpa using hp)]
    unfold stStep
    rw [if_neg hp]
    refine x_nil (x_nil ⟨rfl, _, ys, X₁, ?_⟩)
    exact ⟨M.addr, M.start, M.op, M.res, M.pts⟩
end
end Mine

end

section
open PySem PySem.W PyProof.Rows PySem.Spec
namespace Mine
section
variable {prog : Program} {w : World} {A : Around} {env : Env} {s s' : Shared} {h : Heap} {pos : Pos} {mg mb : Str → Option Value}
variable {G G' : Array GenState → Prop} {s₀ : Shared} {g : Heap} {m cm : Str → Option Value} {ls : List (Addr × List Value)}
theorem St.weak (X : St G s₀ g env m cm ls s) (hG : ∀ gs, G gs → G' gs) : St G' s₀ g env m cm ls s :=
  { X with same := let ⟨h, tk, gs, e, hg⟩ := X.same; ⟨h, tk, gs, e, hG _ hg⟩ }
theorem St.exact (X : St G s₀ g env m cm ls s) : St (· = s.gens) s₀ g env m cm ls s :=
  { X with same := let ⟨h, tk, gs, e, hg⟩ := X.same; ⟨h, tk, gs, e, by rw [e]⟩ }
theorem St.gens (X : St (· = G₀) s₀ g env m cm ls s) : s.gens = G₀ := by
  obtain ⟨h, tk, gs, e, hg⟩ := X.same
  rw [e]; exact hg
theorem St.moved {W : List Addr} {h' : Heap} {tk : Nat} {gs' : Array GenState} (X : St G s₀ g env m cm ls s) (hk : ∀ b o, b ∉ W → s.heap.get? b = some o → h'.get? b = some o) (ht : 0 < tk) (hG : G' gs')
    (hL : env.locals ∉ W) (hc : ∀ n c, (n, c) ∈ env.cells → c ∉ W) (hg : ∀ b ∈ W, g.get? b = none) (hls : ∀ p ∈ ls, p.1 ∉ W) : St G' s₀ g env m cm ls { s with heap := h', toks := tk, gens := gs' } := by
  obtain ⟨h₁, tk₁, gs, rfl, _⟩ := X.same
  refine ⟨⟨h', tk, gs', rfl, hG⟩, ht, fun b o e => hk b o (fun q => by rw [hg b q] at e; cases e) (X.keep b o e), X.ns.at' fun o e => hk _ o hL e, X.noL, fun n c hc' => ?_, X.apart, X.uniq, X.noC, fun p hp => ?_⟩
  · obtain ⟨o, e, d⟩ := X.cell n c hc'
    exact ⟨o, hk c o (hc n c hc') e, d⟩
  · exact (X.lists p hp).at fun o e => hk _ o (hls p hp) e
theorem letGo_gen {elts : List Expr} {x1 : Nat} {tp : Pos} {a T : Addr} {n : Nat} {Q : Unit → Shared → Prop} {E : Value → Shared → Prop} (hit : s.heap.IsGen a n) (hQ : Q () s) :
    wpAny (model prog w) A (letOwnedTupleGo (.Tuple elts x1 tp) (.ref a) (.ref T)) Q E s := by
  obtain ⟨o, nm, qn, ho, hc, hd, hsl⟩ := hit
  unfold letOwnedTupleGo
  refine wpAny_bind (wpAny_load ho ?_)
  rw [hc, hd]
  show wpAny _ A (if (["enumerate", "zip", "dict_itemiterator", "dict_reverseitemiterator", "odict_iterator", "itertools.zip_longest", "itertools.pairwise"].contains "generator" &&
      (#[.int n 0, nm, qn] : Array Value)[0]? == some (rawInt T)) = true then _ else _) Q E s
  rw [if_neg (by
    intro h
    rw [show (["enumerate", "zip", "dict_itemiterator", "dict_reverseitemiterator", "odict_iterator", "itertools.zip_longest", "itertools.pairwise"].contains "generator") = false from by decide, Bool.false_and] at h
    cases h)]
  exact wpAny_pure hQ
theorem isGen_ne {h : Heap} {a b : Addr} {n : Nat} {m : Str → Option Value} (x : h.IsGen a n) (y : h.Ns b m) : a ≠ b := by
  rintro rfl
  obtain ⟨o, nm, qn, e, _, d, _⟩ := x
  obtain ⟨o', es, ep, e', d', _⟩ := y
  rw [e] at e'; cases e'
  rw [d] at d'; cases d'
theorem isGen_neL {h : Heap} {a b : Addr} {n : Nat} {its : Array Value} (x : h.IsGen a n) (y : h.IsList b its) : a ≠ b := by
  rintro rfl
  obtain ⟨o, nm, qn, e, _, d, _⟩ := x
  obtain ⟨o', e', _, _, d'⟩ := y
  rw [e] at e'; cases e'
  rw [d] at d'; cases d'

theorem itsF_len (T : List (List Nat)) : ∀ i, (itsF T i).length = T.length := by
  induction T with
  | nil => intro i; rfl
  | cons a r ih => intro i; show (_ :: itsF r _).length = _; rw [List.length_cons, ih]; rfl

/-- the state behind some items -/
noncomputable def stAt (l : List Nat) (T : List (List Nat)) (j : Nat) : SState := ((itsF T 0).take j).foldl (stStep l) (0, none, [])
theorem stAt_succ {l : List Nat} {T : List (List Nat)} {j : Nat} {p : Nat × List Nat} (h : (itsF T 0)[j]? = some p) : stAt l T (j + 1) = stStep l (stAt l T j) p := by
  unfold stAt
  rw [List.take_add_one, h]
  simp
theorem itsF_get (T : List (List Nat)) : ∀ (i j : Nat), (itsF T i)[j]? = T[j]?.map fun t => (i + ((T.take j).flatten).length + t.length - 1, t) := by
  induction T with
  | nil => intro i j; simp [itsF]
  | cons a r ih =>
    intro i j
    cases j with
    | zero => simp [itsF]
    | succ j =>
      show (itsF r (i + a.length))[j]? = _
      rw [ih]
      simp only [List.getElem?_cons_succ, List.take_succ_cons, List.flatten_cons, List.length_append]
      congr 1
      funext t
      rw [Nat.add_assoc i a.length]
theorem stAt_ok {l : List Nat} {T : List (List Nat)} (j : Nat) (hj : j ≤ T.length) : (stAt l T j).1 ≤ ((T.take j).flatten).length ∧ (∀ o, (stAt l T j).2.1 = some o → (stAt l T j).1 ≤ o ∧ o < ((T.take j).flatten).length) ∧ (stAt l T j).2.2.length ≤ j := by
  induction j with
  | zero => exact ⟨Nat.zero_le _, fun o h => (by have h2 : (none : Option Nat) = some o := h; cases h2), Nat.zero_le _⟩
  | succ j ih =>
    obtain ⟨a, b, c⟩ := ih (by omega)
    have ht : T[j]? = some T[j] := List.getElem?_eq_getElem (by omega)
    have hp := itsF_get T 0 j
    rw [ht] at hp
    have hlen : ((T.take (j + 1)).flatten).length = ((T.take j).flatten).length + T[j].length := by
      rw [List.take_add_one, ht, List.flatten_append, List.length_append]; simp
    rw [stAt_succ hp, hlen]
    generalize stAt l T j = z at a b c
    generalize ((T.take j).flatten).length = n at a b
    unfold stStep
    dsimp only
    by_cases hq : T[j] = [34]
    · rw [if_pos hq, hq]
      cases ho : z.2.1 with
      | none =>
        dsimp only
        refine ⟨by simp; omega, fun o h => ?_, by omega⟩
        cases h
        simp; omega
      | some o =>
        dsimp only
        refine ⟨by simp, fun o h => (by cases h), ?_⟩
        split
        · omega
        · simp; omega
    · rw [if_neg hq]
      exact ⟨by omega, fun o h => ⟨(b o h).1, by have := (b o h).2; omega⟩, by omega⟩
theorem stAt_len {l : List Nat} {T : List (List Nat)} (j : Nat) : ∀ p ∈ (stAt l T j).2.2, p.length ≤ l.length := by
  have : ∀ (its : List (Nat × List Nat)) (z : SState), (∀ p ∈ z.2.2, p.length ≤ l.length) → ∀ p ∈ (its.foldl (stStep l) z).2.2, p.length ≤ l.length := by
    intro its
    induction its with
    | nil => exact fun z h => h
    | cons q r ih =>
      intro z hz
      refine ih _ ?_
      unfold stStep
      split
      · split
        · exact hz
        · intro p hp
          dsimp only at hp
          split at hp
          · exact hz p hp
          · rcases List.mem_append.mp hp with h | h
            · exact hz p h
            · rw [List.mem_singleton.mp h]
              simp only [List.length_take, List.length_drop]; exact Nat.le_trans (Nat.min_le_right _ _) (Nat.sub_le _ _)
      · exact hz
  exact this _ _ (fun p hp => nomatch hp)
theorem take_flat_le {T : List (List Nat)} (j : Nat) : ((T.take j).flatten).length ≤ T.flatten.length := by
  conv => rhs; rw [← List.take_append_drop j T]
  rw [List.flatten_append, List.length_append]; omega
theorem bodyPart_tgt : ∃ pi pv pt x1, bodyPart.1 = .Tuple [.Name (Str.ofString "pos") pi, .Name (Str.ofString "ch") pv] x1 pt := ⟨_, _, _, _, rfl⟩
theorem strip_loop {m cm : Str → Option Value} {l : List Nat} {T : List (List Nat)} {D : Addr} {ys : List Value} {pm : Value} {c : Addr} {doc : Value} {L f a Lg : Addr} {gs : GenState} {base : Heap}
    (hh : A.handled = none) (hroom : A.depth < recursionLimit) (hlim : s₀.heap.NoLimit)
    (hl : l = T.flatten) (hsz : l.length ≤ 1000) (hn : T.length ≤ 1000) (hb : base = s.heap) (hLg : s₀.heap.get? Lg = none) (hD : s₀.heap.get? D = none)
    (X : St (· = s₀.gens.push gs) s₀ s₀.heap (envAt 5 pm c doc L f) m cm [(D, ys)] s) (M : SIn l D (0, none, []) ys m) (hgen : s.heap.IsGen a s₀.gens.size) (hLn : ∃ mg, s.heap.Ns Lg mg) (hLL : Lg ≠ L)
    (hgo : gs.Goes (model prog w) A.in1 (GR Lg base) (GY Lg base (itsF T 0)) T.length (.send .none) (s.setGen s₀.gens.size .running)) :
    codeAny (model prog w) A (.forLoop bodyPart.1 (.ref a) bodyPart.2 [] (envAt 5 pm c doc L f)) (fun r s' => ∃ m' ys', r = .ok .next ∧ St (· = s₀.gens.push .finished) s₀ s₀.heap (envAt 5 pm c doc L f) m' cm [(D, ys')] s' ∧ SIn l D (stAt l T T.length) ys' m') s := by
  refine codeAny_forLoop_any (fun k s' => ∃ j m' ys' gs', k = T.length + 1 - j ∧ j ≤ T.length ∧ St (· = s₀.gens.push gs') s₀ s₀.heap (envAt 5 pm c doc L f) m' cm [(D, ys')] s' ∧ SIn l D (stAt l T j) ys' m' ∧ s'.heap.IsGen a s₀.gens.size ∧
    (∀ b, b ≠ (envAt 5 pm c doc L f).locals → b ≠ D → b ≠ Lg → ∀ o, base.get? b = some o → s'.heap.get? b = some o) ∧
    gs'.Goes (model prog w) A.in1 (GR Lg base) (GY Lg base (itsF T 0)) (T.length - j) (.send .none) (s'.setGen s₀.gens.size .running)) ?_ (T.length + 1) ⟨0, m, ys, gs, rfl, Nat.zero_le _, X, M, hgen, fun b _ _ _ o e => by rw [← hb]; exact e, hgo⟩
  rintro k s' ⟨j, m', ys', gs', rfl, hj, X', M', hg', hold, hgo'⟩
  have hxb : Ext s₀.heap base := by rw [hb]; exact X.keep
  obtain ⟨mg', hLn⟩ := hLn
  have hDl := (X.lists (D, ys) List.mem_cons_self).isList
  have hLD : D ≠ Lg := ns_ne_list hLn hDl
  have haLg : a ≠ Lg := isGen_ne hgen hLn
  have some_of : ∀ b, (∃ o, s.heap.get? b = some o) → base.get? b ≠ none := fun b ⟨o, e⟩ h => by rw [hb, e] at h; cases h
  have notW : ∀ {W : List Addr}, Own Lg base W → ∀ b, b ≠ Lg → (∃ o, s.heap.get? b = some o) → b ∉ W := fun hW b h1 h2 hm => by
    rcases hW b hm with h | h
    · exact h1 h
    · exact some_of b h2 h
  have hLs : ∃ o, s.heap.get? (envAt 5 pm c doc L f).locals = some o := let ⟨o, _, _, e, _⟩ := X.ns; ⟨o, e⟩
  have hDs : ∃ o, s.heap.get? D = some o := let ⟨o, e, _⟩ := hDl; ⟨o, e⟩
  have has : ∃ o, s.heap.get? a = some o := let ⟨o, _, _, e, _⟩ := hgen; ⟨o, e⟩
  have s0W : ∀ {W : List Addr}, Own Lg base W → ∀ b ∈ W, s₀.heap.get? b = none := fun hW b hm => by
    rcases hW b hm with rfl | h
    · exact hLg
    · cases e : s₀.heap.get? b with
      | none => rfl
      | some o => rw [hxb b o e] at h; cases h
  refine wpAny_mono (gen_next hh (hlim.keeps X'.keep) hroom hg' X'.gens hgo') (fun r s₁ h₁ => ?_) fun _ _ h => h.elim
  cases r with
  | none =>
    obtain ⟨hn0, W, h₂, tk, hW, rfl, hk, ht⟩ := h₁
    have : j = T.length := Nat.le_antisymm hj (Nat.sub_eq_zero_iff_le.mp hn0)
    subst this
    exact x_nil ⟨m', ys', rfl, X'.moved hk ht rfl (notW hW _ (Ne.symm hLL) hLs) (fun _ _ h => nomatch h) (s0W hW) (fun p hp => by rw [List.mem_singleton.mp hp]; exact notW hW _ hLD hDs), M'⟩
  | some v =>
    obtain ⟨n', W, gs₂, h₂, tk, en, hW, rfl, hk, ht, ⟨p, hp, htup⟩, hnext⟩ := h₁
    have X₁ : St (· = s₀.gens.push gs₂) s₀ s₀.heap (envAt 5 pm c doc L f) m' cm [(D, ys')] _ := X'.moved hk ht rfl (notW hW _ (Ne.symm hLL) hLs) (fun _ _ h => nomatch h) (s0W hW) (fun p hp => by rw [List.mem_singleton.mp hp]; exact notW hW _ hLD hDs)
    obtain ⟨g', gg, X₂, gm, hrest⟩ := X₁.rebase [D] (fun b hb' => by rw [List.mem_singleton.mp hb']; exact hD)
    obtain ⟨pi, pv, pt, x1, etgt⟩ := bodyPart_tgt
    rw [etgt]
    obtain ⟨ta, tt, tu, rfl, htu⟩ := htup
    have hg₁ : h₂.IsGen a s₀.gens.size := let ⟨o, nm, qn, e, r⟩ := hg'; ⟨o, nm, qn, hk a o (notW hW a haLg has) e, r⟩
    refine letGo_gen (s := { s' with heap := h₂, toks := tk, gens := s₀.gens.push gs₂ }) hg₁ ?_
    refine wpAny_assign_Tuple hh htu rfl rfl fun h₃ hx₃ => ?_
    have X₃ := X₂.kept (s' := { s' with heap := h₃, toks := tk, gens := s₀.gens.push gs₂ }) ⟨h₃, tk, rfl, fun b o e => hx₃ b o (Nat.ne_of_lt (Heap.lt_size e)) e⟩ ht
    show wpAny _ A (do holding [Value.str (S p.2) tu] (assign (.Name (Str.ofString "pos") pi) (envAt 5 pm c doc L f) (.int (p.1 : Int) tt)); do holding [] (assign (.Name (Str.ofString "ch") pv) (envAt 5 pm c doc L f) (Value.str (S p.2) tu)); pure ()) _ _ _
    refine wpAny_bind (wpAny_holding (wpAny_assign_Name (store_local X₃ (by rfl) (by rfl) fun s₄ X₄ => ?_)))
    refine wpAny_bind (wpAny_holding (wpAny_assign_Name (store_local X₄ (by rfl) (by rfl) fun s₅ X₅ => wpAny_pure ?_)))
    obtain ⟨ok1, ok2, ok3⟩ := stAt_ok (l := l) (T := T) j hj
    have hfl := take_flat_le (T := T) j
    rw [← hl] at hfl
    refine wpAny_mono (strip_body X₅ M' (gm D (by simp)) hsz (Nat.le_trans ok1 hfl) (fun o ho => ⟨(ok2 o ho).1, Nat.le_trans (Nat.le_of_lt (ok2 o ho).2) hfl⟩) (Nat.le_trans ok3 (Nat.le_trans hj hn))) (fun fl s₆ h₆ => ?_) fun _ _ h => h
    obtain ⟨rfl, m₆, ys₆, X₆, M₆⟩ := h₆
    have hidx : (itsF T 0)[j]? = some p := by
      rw [itsF_len] at hp
      rw [ar_back hj en] at hp
      exact hp
    have keepW : ∀ b, b ≠ (envAt 5 pm c doc L f).locals → b ≠ D → ∀ o, h₂.get? b = some o → s₆.heap.get? b = some o := fun b h1 h2 o e =>
      X₆.keep b o (hrest b o h1 (fun _ _ h => nomatch h) (by simpa using h2) e)
    refine ⟨T.length + 1 - (j + 1), Nat.sub_lt_sub_left (Nat.lt_succ_of_le hj) (Nat.lt_succ_self j), j + 1, m₆, ys₆, gs₂, rfl, Nat.lt_of_sub_eq_succ en, X₆.up gg, by rw [stAt_succ hidx]; exact M₆, ?_, ?_, ?_⟩
    · obtain ⟨o, nm, qn, e, r⟩ := hg₁
      exact ⟨o, nm, qn, keepW a (isGen_ne ⟨o, nm, qn, e, r⟩ X₁.ns) (isGen_neL ⟨o, nm, qn, e, r⟩ (X₁.lists (D, ys') List.mem_cons_self).isList) o e, r⟩
    · exact fun b h1 h2 h3 o e => keepW b h1 h2 o (hk b o (notW hW b h3 ⟨o, by rw [← hb]; exact e⟩) (hold b h1 h2 h3 o e))
    · rw [ar_next en]
      refine hnext s₆ X₆.gens (fun b hbW o e => keepW b ?_ ?_ o e) X₆.toks
      · rintro rfl; exact notW hW _ (Ne.symm hLL) hLs hbW
      · rintro rfl; exact notW hW _ hLD hDs hbW
end
end Mine

end

section
open PySem PySem.W PyProof.Rows PySem.Spec
namespace Mine
section
variable {prog : Program} {w : World} {A : Around} {env : Env} {s s' : Shared} {h : Heap} {pos : Pos} {mg mb : Str → Option Value}
noncomputable def Bares (gs gs' : Array GenState) : Prop := (∀ x ∈ gs, x.bare = true) → ∀ x ∈ gs', x.bare = true
/-- a call that may leave ended generators -/
noncomputable def ClG (prog : Program) (w : World) (A : Around) (f : Value) (args : List Value) (h : Heap) (P : Value → Heap → Prop) : Prop :=
  ∀ s : Shared, Ext h s.heap → 0 < s.toks → wpAny (model prog w) A (call f args) (fun v s' => (∃ hp tk gs, s' = { s with heap := hp, toks := tk, gens := gs } ∧ Ext s.heap hp ∧ Bares s.gens gs ∧ 0 < tk) ∧ P v s'.heap) (fun _ _ => False) s
theorem cl_topG {i : Nat} {f : Addr} {vals : List Value} {binds : List (Str × Value)} {P : Value → Heap → Prop} (G : Gl mg mb h) (hi : i ∈ [2, 4, 5, 9, 12, 13, 14, 16, 17, 18, 19])
    (hf : mg (defAt i).name = some (.ref f)) (hroom : A.depth < recursionLimit)
    (hbind : ∀ pm c doc, bindArgs (Calls.docDef (defAt i).name (defAt i).params (defAt i).body (defAt i).scope pm (.ref c) doc) ⟨vals, []⟩ = pure binds)
    (hkind : ∀ n, ∀ x ∈ binds, (defAt i).scope.names.lookup x.1 = some .local ∨ ((defAt i).scope.names.lookup x.1 = some .cell ∧ ((cellsFrom n (defAt i).scope.names []).lookup x.1).isSome = true))
    (hnd : ((cellsFrom 0 (defAt i).scope.names []).map (·.1)).Nodup)
    (go : ∀ (pm : Value) (c : Addr) (doc : Value) (L : Addr) (s s₁ : Shared), Ext h s.heap → 0 < s.toks → Gl mg mb s.heap →
      St (· = s.gens) s s.heap (envAt i pm c doc L f) (bindL (envAt i pm c doc L f).kindOf binds fun _ => none) (bindC (envAt i pm c doc L f).kindOf binds fun _ => none) [] s₁ →
      wpAny (model prog w) (A.deeper (envAt i pm c doc L f)) (execs (defAt i).body (envAt i pm c doc L f)) (fun fl s' => (∃ m cm ls, St (Bares s.gens) s s.heap (envAt i pm c doc L f) m cm ls s') ∧ P (match fl with | .ret v => v | _ => .none) s'.heap) (fun _ _ => False) s₁)
    (hco : (defAt i).scope.isCoroutine = false := by rfl) (hgen : (defAt i).scope.isGenerator = false := by rfl) (hk : (defAt i).scope.kind = .function := by rfl) :
    ClG prog w A (.ref f) vals h P := fun s hx ht => by
  obtain ⟨a, o, pm, c, doc, h1, ho, hdata, hcd⟩ := G.fn i hi
  rw [hf] at h1; cases h1
  have hlim := G.lim
  refine wpAny_call ?_
  refine codeAny_call_function hroom (hx _ _ ho) hdata hco hgen rfl (hcd.keeps hx) ?_
  rw [hbind]
  refine wpAny_pure (wpAny_with_toks (n := 1) ht (wpAny_newFunctionEnv_cells hk (hkind _) fun env he s₁ x ht₁ => ?_))
  subst he
  have fresh : ∀ a, s.heap.objs.size ≤ a → s.heap.get? a = none := fun a ha => by
    cases e : s.heap.get? a with
    | none => rfl
    | some o => exact absurd (Heap.lt_size e) (Nat.not_lt.mpr ha)
  have hnd' : ((cellsFrom (s.heap.objs.size + 1) (defAt i).scope.names []).map (·.1)).Nodup := by
    rw [cellsFrom_names (defAt i).scope.names (s.heap.objs.size + 1) 0 [] [] rfl]; exact hnd
  obtain ⟨h₁, tk₁, e₁, k₁⟩ := x.done
  have X : St (· = s.gens) s s.heap (envAt i pm c doc s.heap.objs.size f) (bindL (envAt i pm c doc s.heap.objs.size f).kindOf binds fun _ => none) (bindC (envAt i pm c doc s.heap.objs.size f).kindOf binds fun _ => none) [] s₁ := by
    refine ⟨⟨h₁, tk₁, s.gens, e₁, rfl⟩, ht₁, x.toInCall.keep, x.toInCall.ns, fresh _ (Nat.le_refl _), fun n c hc => x.cell n c (lookup_of_mem_uniq hnd' hc), x.apart, fun n c c' h1 h2 => ?_, fun n c hc => fresh _ (Nat.le_of_lt (x.above n c hc)), fun p hp => nomatch hp⟩
    have := lookup_of_mem_uniq hnd' h1
    rw [lookup_of_mem_uniq hnd' h2] at this
    exact (Option.some.inj this).symm
  refine ⟨(hlim.keeps hx).keeps x.toInCall.keep, codeAny_func ?_⟩
  refine wpAny_mono (go pm c doc _ s s₁ hx ht (G.up hx) X) (fun fl s' h' => ?_) fun _ _ h' => h'.elim
  obtain ⟨⟨m', cm', ls', X'⟩, p⟩ := h'
  have hkeep := X'.keep
  have htk := X'.toks
  obtain ⟨h₂, tk₂, gs, e₂, hg⟩ := X'.same
  exact ⟨⟨h₂, tk₂, gs, e₂, by rw [e₂] at hkeep; exact hkeep, hg, by rw [e₂] at htk; exact htk⟩, p⟩

theorem ev_join {e : Expr} {ls : List (List Nat)} {apos p : Pos} {x : Str} {k : Nat} (he : Ev prog w A env e h (LS ls)) (hn : ls.length ≤ 1000) (hb : ∀ p ∈ ls, p.length ≤ 1000) (hx : x = S [] := by decide)
    (hline : (apos.endLine == pos.line) = true := by rfl) (hst : starEach [e] env = [(false, eval e env)] := by rfl) :
    Ev prog w A env (.Call (.Attribute (.Constant (.str x) k p) (Str.ofString "join") apos) [e] [] pos) h (IsS ls.flatten) :=
  ev_method (T := "str") (P₁ := IsS []) (ev_str hx) (fun _ _ _ _ p => p) (args_more he args_none (fun _ _ _ x p => p.stay x) hst) (by simp) F.plainAttrs_str F.slot_str_join rfl
    (fun v s ⟨t, e⟩ => by subst e; exact ⟨typeIs_str _ _ _, fun a e => nomatch e⟩)
    (fun v vs h' x ⟨t, e0⟩ ⟨v', vs', e1, p, e3⟩ => by subst e0 e1 e3; exact cl_join hn hb p) (by rfl) hline (by rw [hst]; rfl) ⟨e, [], rfl, hst⟩

theorem cl_strip {f : Addr} {l : List Nat} {T : List (List Nat)} {t : Tok} (G : Gl mg mb h) (hf : mg (defAt 5).name = some (.ref f)) (R : Room A 1) (hsz : l.length ≤ 1000) (h34 : 34 ∈ l) (hl : l = T.flatten) (hn : T.length ≤ 900) (hT : ∀ t ∈ T, (∃ c, c ≠ 92 ∧ t = [c]) ∨ ∃ c, t = [92, c]) :
    ClG prog w A (.ref f) [.str (S l) t] h (IsS (stripF l T)) := by
  refine cl_topG G (by simp) hf R.depth (binds := [(Str.ofString "addr", .str (S l) t)]) (fun _ _ _ => rfl) (fun n x hx => by
    rcases List.mem_cons.mp hx with rfl | hx
    · exact .inl rfl
    · cases hx) (by decide +kernel) ?_
  intro pm c doc L s s₁ hx ht G' X
  have R' : Room (A.deeper (envAt 5 pm c doc L f)) 0 := R.deeper _
  refine x_skip X (Tr.eq (b := !decide (34 ∈ l)) (by simpa using h34) (tr_cmp (ev_str (l := [34])) (X.locS ⟨t, by rfl⟩) (fun _ _ _ _ p => p) (cmp_notIn_str (contains_one l 34)))) fun s₂ X₂ => ?_
  refine x_assign (K := KI 0) X₂ ev_int (by rfl) (by rfl) fun y s₃ ⟨t₃, hv⟩ X₃ => ?_
  subst hv
  refine x_assign (K := fun v => v = .none) X₃ ev_none (by rfl) (by rfl) fun y s₄ hv X₄ => ?_
  subst hv
  refine x_assignLF (R := Pts KS []) X₄ (ev_listF args_pn (by simp)) (by rfl) (by rfl) fun D ys s₅ hp hD _ X₅ => ?_
  refine wpAny_execs_cons (wpAny_For (wpAny_mono (gen_call (A := A.deeper (envAt 5 pm c doc L f)) (env := envAt 5 pm c doc L f) (G'.up X₅.keep) R'.depth rfl (X₅.locS (l := l) (x := Str.ofString "addr") ⟨t, by rfl⟩) X₅.toks) (fun v s₆ h₆ => ?_) fun _ _ h => h.elim))
  obtain ⟨a, Lg, fg, pm', c', doc', t', mg', h', tk, rfl, rfl, hk, hLg, hgen, hLn, haddr, htk⟩ := h₆
  refine wpAny_pyIter_gen hgen ?_
  have hgs : s₅.gens = s.gens := X₅.gens
  rw [hgs] at hgen ⊢
  have none_of : s.heap.get? Lg = none := by
    cases e : s.heap.get? Lg with
    | none => rfl
    | some o => rw [X₅.keep _ _ e] at hLg; cases hLg
  have X₆ : St (· = s.gens.push (.fresh (.func (defAt 4).body (envAt 4 pm' c' doc' Lg fg)))) s s.heap (envAt 5 pm c doc L f) _ _ [(D, ys)] _ :=
    X₅.moved (W := []) (h' := h') (fun b o _ e => hk b o e) htk rfl (by simp) (fun _ _ _ => by simp) (fun _ hb => nomatch hb) (fun _ _ => by simp)
  have hLL : Lg ≠ L := by
    rintro rfl
    obtain ⟨o, _, _, e, _⟩ := X₅.ns
    have e' : s₅.heap.get? Lg = some o := e
    rw [hLg] at e'; cases e'
  refine codeAny_mono (strip_loop (T := T) (base := h') R'.1 R'.depth G'.lim hl hsz (by omega) rfl none_of hD X₆ ⟨⟨t, by rfl⟩, ⟨t₃, by rfl⟩, by rfl, by rfl, hp⟩ hgen ⟨_, hLn⟩ hLL ?_) (fun r s' h => ?_)
  · exact ⟨rfl, gen_start (A := (A.deeper (envAt 5 pm c doc L f)).in1) (s := ({ s₅ with heap := h', toks := tk, gens := s.gens.push (.fresh (.func (defAt 4).body (envAt 4 pm' c' doc' Lg fg))) } : Shared).setGen s.gens.size .running) R'.1 hsz hT hl ⟨s₅.heap, G'.up X₅.keep, hk, hLg⟩ hLn haddr htk⟩
  · obtain ⟨m', ys', rfl, X₇, M⟩ := h
    have ok := stAt_ok (l := l) (T := T) T.length (Nat.le_refl _)
    have hst : stAt l T T.length = (itsF T 0).foldl (stStep l) (0, none, []) := by
      unfold stAt; rw [List.take_of_length_le (by rw [itsF_len]; exact Nat.le_refl _)]
    rw [List.take_length, ← hl] at ok
    generalize hz : stAt l T T.length = z at M ok hst
    show wpAny _ _ (execs _ _) _ _ _
    refine x_join (J := fun m' cm' ls' => ∃ ys', ls' = [(D, ys')] ∧ Pts KS (if z.1 < l.length then z.2.2 ++ [l.drop z.1] else z.2.2) ys' ∧ m' (Str.ofString "result") = some (.ref D)) X₇
      (tr_cmp (X₇.locI M.start) (ev_len (G'.up X₇.keep) rfl rfl (X₇.locS M.addr) (by omega)) (fun _ _ _ _ p => p) cmp_lt_int) (fun hb q E' Xq => ?_) (fun hb q E' Xq => ?_) (fun m'' cm' ls' q ⟨ys'', e, hp', hres⟩ Xq => ?_)
    · refine x_appendE (K := KS (l.drop z.1)) Xq (Xq.loc (v := .ref D) (by exact M.res)) (fun s₁ X₁ => ev_from (X₁.locS M.addr) (X₁.locI M.start) (by omega)) hD (fun _ h => nomatch h) (by rw [M.pts.1]; omega) fun y q' ky Xq' => ?_
      refine x_nil ⟨_, _, _, Xq', _, rfl, ?_, M.res⟩
      rw [if_pos (by have := of_decide_eq_true hb; omega)]
      exact M.pts.snoc ky
    · refine x_nil ⟨_, _, _, Xq, _, rfl, ?_, M.res⟩
      rw [if_neg (by have := of_decide_eq_false hb; omega)]
      exact M.pts
    · subst e
      have hbound : ∀ p ∈ (if z.1 < l.length then z.2.2 ++ [l.drop z.1] else z.2.2), p.length ≤ 1000 := by
        have h1 := stAt_len (l := l) (T := T) T.length
        rw [hz] at h1
        intro p hp
        split at hp
        · rcases List.mem_append.mp hp with h | h
          · have := h1 p h; omega
          · rw [List.mem_singleton.mp h, List.length_drop]; omega
        · have := h1 p hp; omega
      have hcount : (if z.1 < l.length then z.2.2 ++ [l.drop z.1] else z.2.2).length ≤ 1000 := by
        split
        · simp; omega
        · omega
      have hval : stripF l T = (if z.1 < l.length then z.2.2 ++ [l.drop z.1] else z.2.2).flatten := by
        unfold stripF; rw [← hst]
      rw [hval]
      refine x_return (P := IsS _) Xq (ev_join (Xq.locL (R := Pts KS _) hres List.mem_cons_self hp') hcount hbound) fun v s₉ p X₉ => ⟨⟨_, _, _, X₉.weak fun gs e => ?_⟩, p⟩
      subst e
      intro hb x hx
      rcases Array.mem_push.mp hx with h | h
      · exact hb x h
      · rw [h]; rfl
end
end Mine

end

section
open PySem PySem.W PyProof.Rows PySem.Spec
namespace Mine
/-! tables of texts -/
noncomputable def TabIs (prog : Program) (w : World) (h : Heap) (d : Addr) (n : Nat) (TF : List Nat → Option (List Nat)) : Prop := ∃ kvs : List (Str × Value), h.DictOf (PySem.strKind prog w) d kvs ∧ kvs.length ≤ n ∧
  ∀ c, match TF c with | none => valueAt kvs (S c) = none | some z => ∃ t, valueAt kvs (S c) = some (.str (S z) t)
noncomputable def putF (TF : List Nat → Option (List Nat)) (k z : List Nat) : List Nat → Option (List Nat) := fun c => if c = k then some z else TF c
theorem S_inj {a b : List Nat} (h : S a = S b) : a = b := by
  have := congrArg (fun s : Str => s.cps.toList) h; exact this
theorem find_map_key {l : List (Str × Value)} {k x : Str} {v : Value} : ((l.map fun kv => if kv.1 = k then (kv.1, v) else kv).find? fun kv => kv.1 = x).map (·.2) = if x = k then (if l.any (fun kv => kv.1 = k) then some v else none) else (l.find? fun kv => kv.1 = x).map (·.2) := by
  induction l with
  | nil => simp
  | cons q r ih =>
    rw [List.map_cons]
    by_cases hq : q.1 = k
    · rw [if_pos hq]
      by_cases hx : x = k
      · subst hx; simp [hq]
      · have : ¬ q.1 = x := fun e => hx (e.symm.trans hq)
        rw [List.find?_cons_of_neg (by simpa using this), List.find?_cons_of_neg (by simpa using this), ih, if_neg hx, if_neg hx]
    · rw [if_neg hq]
      by_cases hx : q.1 = x
      · rw [List.find?_cons_of_pos (by simpa using hx), List.find?_cons_of_pos (by simpa using hx)]
        have : ¬ x = k := fun e => hq (hx.trans e)
        rw [if_neg this]
      · rw [List.find?_cons_of_neg (by simpa using hx), List.find?_cons_of_neg (by simpa using hx), ih]
        have : (q :: r).any (fun kv => decide (kv.1 = k)) = r.any (fun kv => decide (kv.1 = k)) := by simp [hq]
        rw [this]
theorem valueAt_stored (kvs : List (Str × Value)) (k x : Str) (v : Value) : valueAt (stored kvs k v) x = if x = k then some v else valueAt kvs x := by
  unfold stored valueAt
  by_cases hk : kvs.any (fun kv => decide (kv.1 = k)) = true
  · rw [if_pos hk, find_map_key, if_pos hk]
  · rw [if_neg hk, List.find?_append]
    by_cases hx : x = k
    · subst hx
      rw [if_pos rfl]
      have : kvs.find? (fun kv => decide (kv.1 = x)) = none := by
        rw [List.find?_eq_none]
        intro q hq hc
        exact hk (List.any_eq_true.mpr ⟨q, hq, hc⟩)
      rw [this]; simp
    · rw [if_neg hx]
      have : [(k, v)].find? (fun kv => decide (kv.1 = x)) = none := by simp; exact fun e => hx e.symm
      rw [this]; simp
section
variable {prog : Program} {w : World} {A : Around} {env : Env} {s : Shared} {h : Heap} {pos : Pos} {mg mb : Str → Option Value}
theorem TabIs.keeps {h h' : Heap} {d : Addr} {n : Nat} {TF : List Nat → Option (List Nat)} (T : TabIs prog w h d n TF) (x : Ext h h') : TabIs prog w h' d n TF :=
  let ⟨kvs, hd, r⟩ := T; ⟨kvs, hd.keep x, r⟩
theorem TabIs.put {h' : Heap} {d : Addr} {n : Nat} {TF : List Nat → Option (List Nat)} {kvs : List (Str × Value)} {k z : List Nat} {t : Tok} (hn : kvs.length ≤ n) (hF : ∀ c, match TF c with | none => valueAt kvs (S c) = none | some z => ∃ t, valueAt kvs (S c) = some (.str (S z) t))
    (hd : h'.DictOf (PySem.strKind prog w) d (stored kvs (S k) (.str (S z) t))) : TabIs prog w h' d (n + 1) (putF TF k z) := by
  refine ⟨_, hd, Nat.le_trans (stored_length_le _ _ _) (Nat.succ_le_succ hn), fun c => ?_⟩
  unfold putF
  rw [valueAt_stored]
  by_cases hc : c = k
  · subst hc
    rw [if_pos rfl, if_pos rfl]; exact ⟨t, rfl⟩
  · rw [if_neg hc, if_neg (fun e => hc (S_inj e))]; exact hF c
theorem cl_get {d : Addr} {n : Nat} {TF : List Nat → Option (List Nat)} {k y : List Nat} {t u : Tok} (T : TabIs prog w h d n TF) (hd : (d == sysModules) = false) :
    Cl prog w A (.builtin "dict.get") [.ref d, .str (S k) t, .str (S y) u] h (IsS ((TF k).getD y)) := fun s hx _ => by
  obtain ⟨kvs, hk, hn, hF⟩ := T
  have hk' := hk.keep hx
  refine call_meetsIn F.slot_dict_get hk'.typeIs F.entry_dict_get (F.args_dict_get_3 _ _ _) (meets_dict_get_default (PySem.strKind prog w) d (k := S k) (by show Value.isStrOf (S k) (.str (S k) t) = true; simp [Value.isStrOf]) hd _) ⟨_, hk'.mapOf, ?_⟩
  have := hF k
  refine ⟨keeps_tok (keeps_refl s) _, ?_⟩
  cases hz : TF k with
  | none => rw [hz] at this; replace this : valueAt kvs (S k) = none := this; rw [this]; exact ⟨u, rfl⟩
  | some z => rw [hz] at this; obtain ⟨t', e⟩ := this; rw [e]; exact ⟨t', rfl⟩

theorem src_str {l : List Nat} {t : Tok} (hh : A.handled = none) : Src prog w A KS (l.map fun c => [c]) h (.str (S l) t) := fun s Q E hx k => by
  refine wpAny_pyIter_str fun o Sx W hst => ?_
  have hsz : (S l).cps.size = (l.map fun c => [c]).length := by simp
  have W' := W A hh
  rw [hsz] at W'
  refine k _ _ _ _ _ _ (keeps_push (keeps_refl s) o) W' hst (fun b hb => ?_) (fun b hb => ?_) fun j v hv => ?_
  · rw [List.mem_singleton.mp hb]
    show s.heap.objs.size < (s.heap.push o).objs.size
    rw [Heap.size_push]; exact Nat.lt_succ_self _
  · rw [List.mem_singleton.mp hb]
    cases e : s.heap.get? s.heap.objs.size with
    | none => rfl
    | some o => exact absurd (Heap.lt_size e) (Nat.lt_irrefl _)
  · obtain ⟨c, u, hc, rfl⟩ := hv
    refine ⟨[c], ?_, u, rfl⟩
    rw [List.getElem?_map]
    have : l[j]? = some c := by simpa using hc
    rw [this]; rfl

variable {G : Array GenState → Prop} {s₀ s' : Shared} {g : Heap} {m cm : Str → Option Value} {ls : List (Addr × List Value)} {Q : Flow → Shared → Prop} {E : Value → Shared → Prop}
/-- a dict of the frame -/
structure Own1 (env : Env) (g : Heap) (d : Addr) : Prop where
  fr : g.get? d = none
  loc : d ≠ env.locals
  cel : ∀ n c, (n, c) ∈ env.cells → d ≠ c
  sys : (d == sysModules) = false
theorem x_put {TF : List Nat → Option (List Nat)} {d : Addr} {n : Nat} {o i value : Expr} {p : Pos} {k z : List Nat} {rest : List Stmt} (X : St G s₀ g env m cm [] s) (T : TabIs prog w s.heap d n TF) (O : Own1 env g d) (hn : n ≤ 100)
    (hv : Ev prog w A env value s.heap (IsS z)) (ho : Ev prog w A env o s.heap (IsV (.ref d))) (hi : Ev prog w A env i s.heap (IsS k))
    (go : ∀ s', St G s₀ g env m cm [] s' → TabIs prog w s'.heap d (n + 1) (putF TF k z) → wpAny (model prog w) A (execs rest env) Q E s')
    (hs : swapsWith value (some (.Subscript o i p)) pos.line env = pure false := by rfl) :
    wpAny (model prog w) A (execs (.Assign [.Subscript o i p] value pos :: rest) env) Q E s := by
  refine wpAny_execs_cons (wpAny_Assign_Subscript (hv.use (Ext.refl _) X.toks fun v s₁ k₁ x₁ t₁ pv => ho.use x₁ t₁ fun ov s₂ k₂ x₂ t₂ po => hi.use x₂ t₂ fun iv s₃ k₃ x₃ t₃ pi => ?_) hs)
  obtain ⟨t, rfl⟩ := pv
  cases (show ov = .ref d from po)
  obtain ⟨u, rfl⟩ := pi
  have X₃ := ((X.kept k₁ t₁).kept k₂ t₂).kept k₃ t₃
  obtain ⟨kvs, hk, hl, hF⟩ := T.keeps x₃
  refine wpAny_setItem_pairs (knd := PySem.strKind prog w) (k := S k) (by show Value.isStrOf (S k) (.str (S k) u) = true; simp [Value.isStrOf]) hk (fun h' hk' hs' => ?_) (by rw [sizeLine_eq]; omega)
  refine go _ (X₃.change (tk := s₃.toks + 1) hs' (Nat.succ_pos _) O.fr (X₃.ns.sameBut hs' (Ne.symm O.loc)) (fun n c hc => (X₃.cell n c hc).sameBut hs' (Ne.symm (O.cel n c hc))) fun _ h => nomatch h) (TabIs.put hl hF hk')

noncomputable def zAmp : List Nat := [38, 97, 109, 112, 59]
noncomputable def zQuot : List Nat := [38, 113, 117, 111, 116, 59]
noncomputable def zLt : List Nat := [38, 108, 116, 59]
noncomputable def zGt : List Nat := [38, 103, 116, 59]
noncomputable def tab0 : List Nat → Option (List Nat) := putF (putF (fun _ => none) [34] zQuot) [38] zAmp
noncomputable def tabMid (hand : Nat) : List Nat → Option (List Nat) :=
  putF (putF (putF (putF tab0 [60] zLt) [9] (([[38, 35, 48, 57, 59], [], [38, 35, 120, 57, 59]] : List (List Nat)).getD hand [])) [10] (([[38, 35, 49, 48, 59], [], [38, 35, 120, 65, 59]] : List (List Nat)).getD hand [])) [13] (([[38, 35, 49, 51, 59], [], [38, 35, 120, 68, 59]] : List (List Nat)).getD hand [])
noncomputable def tabF (hand : Nat) : List Nat → Option (List Nat) := if hand = 0 then putF (tabMid 0) [62] zGt else if hand = 1 then putF tab0 [62] zGt else tabMid 2
noncomputable def spell (hand : Nat) (l : List Nat) : List Nat := ((l.map fun c => [c]).map fun y => (tabF hand y).getD y).flatten

theorem ev_compA {α β : Type} {KA : α → Value → Prop} {KB : β → Value → Prop} (fn : ∀ a b v, KA a v → KA b v → a = b) {as : List α} (f : α → β)
    {elt iter : Expr} {x : Str} {px : Pos} {scope : Scope} {cl : List (Str × Addr)} {Psrc : Value → Heap → Prop}
    (hclos : closureFor scope env = pure cl)
    (hiter : Ev prog w A env iter h Psrc) (hsrc : ∀ v h', Ext h h' → Psrc v h' → Src prog w A KA as h' v) (hsz : as.length ≤ 100000)
    (helt : ∀ C h₂ m₂ a v, a ∈ as → KA a v → Ext h h₂ → h₂.Ns C m₂ → m₂ x = some v → h.get? C = none → Ev prog w A (compEnvC scope cl C env) elt h₂ (fun y _ => KB (f a) y))
    (hcell : ∀ y ∈ scope.names, y.2 ≠ .cell := by decide) (hkind : scope.kind = .function := by rfl)
    (hnames : ∀ y ∈ scope.names, y.2 = .local → scope.names.lookup y.1 = some .local := by decide) (hxl : scope.names.lookup x = some .local := by rfl)
    (hs : ∀ x, foldedSetIterable iter env x = pure x := by intro _; rfl) :
    Ev prog w A env (.ListComp elt [⟨.Name x px, iter, [], 0⟩] scope pos) h (IsL (Pts KB (as.map f))) := by
  have := ev_comp (pos := pos) (px := px) (ifs := []) fn (fun _ => true) f hclos hcell hkind hnames hxl hiter hsrc hsz (fun C h₂ m₂ a v _ _ _ _ _ _ => .inl ⟨rfl, rfl⟩) (fun C h₂ m₂ a v ha ka _ hx₂ hn hv h0 => helt C h₂ m₂ a v ha ka hx₂ hn hv h0) hs
  rw [List.filter_eq_self.mpr fun _ _ => rfl] at this
  exact this

theorem spell_tail {TF : List Nat → Option (List Nat)} {d : Addr} {n : Nat} {pm : Value} {c : Addr} {doc : Value} {L f : Addr} {l : List Nat} {m cm : Str → Option Value} {s₀ s : Shared} (hh : A.handled = none) (hl : l.length ≤ 1000)
    (X : St (· = s₀.gens) s₀ s₀.heap (envAt 17 pm c doc L f) m cm [] s) (T : TabIs prog w s.heap d n TF) (hd : (d == sysModules) = false) (htab : cm (Str.ofString "table") = some (.ref d)) (htext : ∃ t, m (Str.ofString "text") = some (.str (S l) t))
    (hb : ∀ k z, TF k = some z → z.length ≤ 100) :
    wpAny (model prog w) A (execs ((defAt 17).body.drop 3) (envAt 17 pm c doc L f)) (fun fl s' => (∃ m cm ls, St (· = s₀.gens) s₀ s₀.heap (envAt 17 pm c doc L f) m cm ls s') ∧ IsS (((l.map fun c => [c]).map fun y => (TF y).getD y).flatten) (match fl with | .ret v => v | _ => .none) s'.heap) (fun _ _ => False) s := by
  have hx : ∀ p ∈ ((l.map fun c => [c]).map fun y => (TF y).getD y), p.length ≤ 1000 := by
    intro p hp
    obtain ⟨y, hy, rfl⟩ := List.mem_map.mp hp
    obtain ⟨c, _, rfl⟩ := List.mem_map.mp hy
    cases hz : TF [c] with
    | none => simp
    | some z => have := hb _ z hz; simp; omega
  refine x_return (P := IsS _) X (ev_join (ls := (l.map fun c => [c]).map fun y => (TF y).getD y) ?_ (by simp; omega) hx) fun v s₃ p X₃ => ⟨⟨_, _, _, X₃⟩, p⟩
  refine ev_compA (KA := KS) (KB := KS) fn_S (as := l.map fun c => [c]) (fun y => (TF y).getD y) (by rfl) (X.locS htext) (fun v h' hx ⟨t, e⟩ => by subst e; exact src_str hh) (by simp; omega) (fun C h₂ m₂ a v ha ka hx₂ hn hv _ => ?_)
  obtain ⟨t, rfl⟩ := ka
  have hcell := X.cell (Str.ofString "table") _ (mem_of_lookup (by rfl))
  rw [htab] at hcell
  refine ev_method (T := "dict") (P₁ := fun v h' => v = .ref d ∧ TabIs prog w h' d n TF) ((ev_cell (hcell.keeps hx₂) (by rfl) (by rfl) (by rfl)).mono fun v h' hx' e => ⟨e, T.keeps (hx₂.trans hx')⟩) (fun v h₁ h₂ x p => ⟨p.1, p.2.keeps x⟩)
    (args_more (ev_local hn hv (by rfl) (by rfl)).isS (args_more (ev_local hn hv (by rfl) (by rfl)).isS args_none (fun _ _ _ _ p => p)) (fun _ _ _ _ p => p)) (by simp) F.plainAttrs_dict F.slot_dict_get rfl
    (fun v s q => by obtain ⟨rfl, kvs, hk, _⟩ := q; exact ⟨hk.typeIs, hk.mapOf.noDict⟩)
    (fun v vs h' x q r => by obtain ⟨rfl, T'⟩ := q; obtain ⟨_, _, rfl, ⟨t1, rfl⟩, _, _, rfl, ⟨t2, rfl⟩, rfl⟩ := r; exact cl_get T' hd) (by rfl) (by rfl)
end
end Mine

end

section
open PySem PySem.W PyProof.Rows PySem.Spec
namespace Mine
section
variable {prog : Program} {w : World} {A : Around} {env : Env} {s : Shared} {h : Heap} {pos : Pos} {mg mb : Str → Option Value}
variable {G : Array GenState → Prop} {s₀ s' : Shared} {g : Heap} {m cm : Str → Option Value} {ls : List (Addr × List Value)} {Q : Flow → Shared → Prop} {E : Value → Shared → Prop}
theorem tab_put {TF : List Nat → Option (List Nat)} {kvs : List (Str × Value)} {k z : List Nat} {t : Tok} (hF : ∀ c, match TF c with | none => valueAt kvs (S c) = none | some z => ∃ t, valueAt kvs (S c) = some (.str (S z) t)) :
    ∀ c, match putF TF k z c with | none => valueAt (stored kvs (S k) (.str (S z) t)) (S c) = none | some z' => ∃ u, valueAt (stored kvs (S k) (.str (S z) t)) (S c) = some (.str (S z') u) := fun c => by
  unfold putF
  rw [valueAt_stored]
  by_cases hc : c = k
  · subst hc
    rw [if_pos rfl, if_pos rfl]; exact ⟨t, rfl⟩
  · rw [if_neg hc, if_neg (fun e => hc (S_inj e))]; exact hF c
theorem isStrOf_S (k : List Nat) (t : Tok) : (PySem.strKind prog w).is (S k) (.str (S k) t) = true := by show Value.isStrOf (S k) (.str (S k) t) = true; simp [Value.isStrOf]
/-- a written text -/
structure LitS (prog : Program) (w : World) (A : Around) (env : Env) (e : Expr) (l : List Nat) : Prop where
  out : ∀ (s : Shared) (Q : Value → Shared → Prop) (E : Value → Shared → Prop), Q (.str (S l) s.toks) { s with toks := s.toks + 1 } → wpAny (model prog w) A (eval e env) Q E s
theorem litS {x : Str} {l : List Nat} {k : Nat} (e : x = S l := by decide) : LitS prog w A env (.Constant (.str x) k pos) l := ⟨fun s Q E h => by subst e; exact wpAny_Constant_str h⟩
structure TabEv (prog : Program) (w : World) (A : Around) (env : Env) (e : Expr) (n : Nat) (TF : List Nat → Option (List Nat)) : Prop where
  out : ∀ (s : Shared) (Q : Value → Shared → Prop) (E : Value → Shared → Prop), (∀ h' tk, Ext s.heap h' → TabIs prog w h' s.heap.objs.size n TF → 0 < tk → Q (.ref s.heap.objs.size) { s with heap := h', toks := tk }) → wpAny (model prog w) A (eval e env) Q E s
theorem tabEv {e₁ e₂ e₃ e₄ : Expr} {ka za kb zb : List Nat} (h₁ : LitS prog w A env e₁ ka) (h₂ : LitS prog w A env e₂ za) (h₃ : LitS prog w A env e₃ kb) (h₄ : LitS prog w A env e₄ zb) :
    TabEv prog w A env (.Dict [some e₁, some e₃] [e₂, e₄] pos) 2 (putF (putF (fun _ => none) ka za) kb zb) := by
  constructor
  intro s Q E go
  refine wpAny_Dict_pairs (knd := PySem.strKind prog w) (pairs := [(eval e₁ env, do let x ← eval e₂ env; standAt pos; pure x), (eval e₃ env, do let x ← eval e₄ env; standAt pos; pure x)]) (by rfl) (by simp) (by simp) ?_
  refine evalPairs_cons (h₁.out _ _ _ (wpAny_bind (h₂.out _ _ _ (wpAny_bind (wpAny_standAt (wpAny_pure ?_))))))
  refine evalPairs_cons (h₃.out _ _ _ (wpAny_bind (h₄.out _ _ _ (wpAny_bind (wpAny_standAt (wpAny_pure ?_))))))
  refine evalPairs_nil ⟨[(S ka, .str (S za) _), (S kb, .str (S zb) _)], ⟨isStrOf_S _ _, rfl, isStrOf_S _ _, rfl, trivial⟩, Heap.DictOf.new _, fun h' hd hs' => ?_⟩
  refine go h' _ (fun b o e => hs'.extBut b o (Nat.ne_of_lt (Heap.lt_size e)) (Heap.get?_push_of_some _ e)) ⟨_, hd, ?_, tab_put (tab_put (kvs := []) fun c => rfl)⟩ (Nat.succ_pos _)
  exact Nat.le_trans (stored_length_le _ _ _) (Nat.succ_le_succ (stored_length_le _ _ _))
structure Boxed (p : Prop) : Prop where
  out : p
theorem x_table {x : Str} {e : Expr} {px : Pos} {ca : Addr} {n : Nat} {TF : List Nat → Option (List Nat)} {rest : List Stmt} (X : St G s₀ g env m cm [] s) (hlim : s.heap.NoLimit) (H : TabEv prog w A env e n TF)
    (hl : env.kindOf x = some .cell) (hk : env.scope.kind = .function) (hc : env.cells.lookup x = some ca)
    (hs : swapsWith e (some (.Name x px)) pos.line env = pure false)
    (go : ∀ d s', Own1 env g d → TabIs prog w s'.heap d n TF → St G s₀ g env m (upd cm x (.ref d)) [] s' → wpAny (model prog w) A (execs rest env) Q E s') :
    Boxed (wpAny (model prog w) A (execs (.Assign [.Name x px] e pos :: rest) env) Q E s) := by
  constructor
  have hsz : 2 < s.heap.objs.size := by
    obtain ⟨_, hn, _⟩ := hlim
    exact hn.lt
  have fresh : ∀ b, (∃ o, s.heap.get? b = some o) → s.heap.objs.size ≠ b := fun b ⟨o, e⟩ h => Nat.lt_irrefl _ (h ▸ Heap.lt_size e)
  refine wpAny_execs_cons (wpAny_Assign_Name (H.out _ _ _ fun h' tk hx T₁ ht => ?_) hs)
  have X₁ := X.kept (s' := { s with heap := h', toks := tk }) ⟨h', _, rfl, hx⟩ ht
  have O : Own1 env g s.heap.objs.size := by
    refine ⟨?_, ?_, fun n c hc => ?_, ?_⟩
    · cases e : g.get? s.heap.objs.size with
      | none => rfl
      | some o => exact absurd (Heap.lt_size (X.keep _ _ e)) (Nat.lt_irrefl _)
    · obtain ⟨o, _, _, e, _⟩ := X.ns; exact fresh _ ⟨o, e⟩
    · obtain ⟨o, e, _⟩ := X.cell n c hc; exact fresh _ ⟨o, e⟩
    · show (s.heap.objs.size == 1) = false
      simp; omega
  obtain ⟨g', gg, X₂, _, hg'⟩ := X₁.rebase [] (fun _ h => nomatch h)
  have hd' : ∀ o, h'.get? s.heap.objs.size = some o → g'.get? s.heap.objs.size = some o := fun o e => hg' _ o O.loc O.cel (by simp) e
  have T₂ : TabIs prog w g' s.heap.objs.size n TF := let ⟨kvs, hd, r⟩ := T₁; ⟨kvs, hd.at hd', r⟩
  exact store_cell X₂ hl hk hc fun s' X' => go _ s' O (T₂.keeps X'.keep) (X'.up gg)
end
end Mine

end

section
open PySem PySem.W PyProof.Rows PySem.Spec
namespace Mine
section
variable {prog : Program} {w : World} {A : Around} {env : Env} {s : Shared} {h : Heap} {pos : Pos} {mg mb : Str → Option Value}
variable {G : Array GenState → Prop} {s₀ s' : Shared} {g : Heap} {m cm : Str → Option Value} {ls : List (Addr × List Value)} {Q : Flow → Shared → Prop} {E : Value → Shared → Prop}
theorem tabs_len {TF : List Nat → Option (List Nat)} {k z : List Nat} (h : ∀ k z, TF k = some z → z.length ≤ 100) (hz : z.length ≤ 100) : ∀ k' z', putF TF k z k' = some z' → z'.length ≤ 100 := fun k' z' e => by
  unfold putF at e
  split at e
  · cases e; exact hz
  · exact h _ _ e
theorem tab0_len : ∀ k z, tab0 k = some z → z.length ≤ 100 := tabs_len (tabs_len (fun _ _ h => nomatch h) (by decide)) (by decide)
theorem x_ifD {TF : List Nat → Option (List Nat)} {d : Addr} {n : Nat} {b : Bool} {test : Expr} {body orelse rest : List Stmt} (X : St G s₀ g env m cm [] s) (T : TabIs prog w s.heap d n TF) (H : Tr prog w A env test s.heap b)
    (k : ∀ s', St G s₀ g env m cm [] s' → TabIs prog w s'.heap d n TF → if b = true then wpAny (model prog w) A (execs body env) (fun f s' => match f with | .next => wpAny (model prog w) A (execs rest env) Q E s' | f => Q f s') E s'
      else wpAny (model prog w) A (execs orelse env) (fun f s' => match f with | .next => wpAny (model prog w) A (execs rest env) Q E s' | f => Q f s') E s') :
    wpAny (model prog w) A (execs (.If test body orelse pos :: rest) env) Q E s :=
  wpAny_execs_cons (wpAny_If (H.use (Ext.refl _) X.toks fun s₁ k₁ _ t₁ => k s₁ (X.kept k₁ t₁) (T.keeps (keeps_ext k₁))))
theorem spell_from2 {hand : Nat} {TF : List Nat → Option (List Nat)} {d : Addr} {n : Nat} {pm : Value} {c : Addr} {doc : Value} {L f : Addr} {l : List Nat} {m cm : Str → Option Value} {s₀ s : Shared} (hh : A.handled = none) (hl : l.length ≤ 1000) (hn : n ≤ 50)
    (X : St (· = s₀.gens) s₀ s₀.heap (envAt 17 pm c doc L f) m cm [] s) (T : TabIs prog w s.heap d n TF) (O : Own1 (envAt 17 pm c doc L f) s₀.heap d) (htab : cm (Str.ofString "table") = some (.ref d)) (htext : ∃ t, m (Str.ofString "text") = some (.str (S l) t))
    (hhand : ∃ t, m (Str.ofString "hand") = some (.int (hand : Int) t)) (hb : ∀ k z, TF k = some z → z.length ≤ 100) :
    wpAny (model prog w) A (execs ((defAt 17).body.drop 2) (envAt 17 pm c doc L f)) (fun fl s' => (∃ m cm ls, St (· = s₀.gens) s₀ s₀.heap (envAt 17 pm c doc L f) m cm ls s') ∧
      IsS (((l.map fun c => [c]).map fun y => ((if hand = 2 then TF else putF TF [62] zGt) y).getD y).flatten) (match fl with | .ret v => v | _ => .none) s'.heap) (fun _ _ => False) s := by
  refine x_ifD X T (tr_cmp (X.locI hhand) ev_int (fun _ _ _ _ p => p) cmp_ne_int) fun s₁ X₁ T₁ => ?_
  by_cases h2 : hand = 2
  · rw [if_neg (by subst h2; simp), if_pos h2]
    exact x_nil (spell_tail hh hl X₁ T₁ O.sys htab htext hb)
  · rw [if_pos (by simp; omega), if_neg h2]
    have hcell := X₁.cell (Str.ofString "table") _ (mem_of_lookup (by rfl))
    rw [htab] at hcell
    refine x_put (k := [62]) (z := zGt) X₁ T₁ O (by omega) ev_str (ev_cell hcell (by rfl) (by rfl) (by rfl)) ev_str fun s₂ X₂ T₂ => x_nil ?_
    exact spell_tail hh hl X₂ T₂ O.sys htab htext (tabs_len hb (by decide))
theorem get3_len {hand : Nat} (hd3 : hand < 3) (a b c : List Nat) (ha : a.length ≤ 100) (hb : b.length ≤ 100) (hc : c.length ≤ 100) : (([a, b, c] : List (List Nat)).getD hand []).length ≤ 100 := by
  match hand, hd3 with
  | 0, _ => exact ha
  | 1, _ => exact hb
  | 2, _ => exact hc
theorem tabMid_len {hand : Nat} (hd3 : hand < 3) : ∀ k z, tabMid hand k = some z → z.length ≤ 100 := by
  unfold tabMid
  exact tabs_len (tabs_len (tabs_len (tabs_len tab0_len (by decide)) (get3_len hd3 _ _ _ (by decide) (by decide) (by decide))) (get3_len hd3 _ _ _ (by decide) (by decide) (by decide))) (get3_len hd3 _ _ _ (by decide) (by decide) (by decide))
theorem ev_item3 {value slice : Expr} {z0 z1 z2 : List Nat} {hand : Nat} (hv : Ev prog w A env value h (LS [z0, z1, z2])) (hi : Ev prog w A env slice h (IsI (hand : Int))) (hd : hand < 3)
    (hs : ∀ o i, subscripted slice false o i = operate [o, i] (getItem o i)) : Ev prog w A env (.Subscript value slice pos) h (IsS (([z0, z1, z2] : List (List Nat)).getD hand [])) :=
  ev_item (K := KS) hv hi (by omega) (by omega) (by rw [Int.toNat_natCast, List.getD_eq_getElem?_getD, List.getElem?_eq_getElem (by simp; omega)]; rfl) hs
theorem spell_from1 {hand : Nat} {d : Addr} {pm : Value} {c : Addr} {doc : Value} {L f : Addr} {l : List Nat} {m cm : Str → Option Value} {s₀ s : Shared} (hh : A.handled = none) (hl : l.length ≤ 1000) (hd3 : hand < 3)
    (X : St (· = s₀.gens) s₀ s₀.heap (envAt 17 pm c doc L f) m cm [] s) (T : TabIs prog w s.heap d 2 tab0) (O : Own1 (envAt 17 pm c doc L f) s₀.heap d) (htab : cm (Str.ofString "table") = some (.ref d)) (htext : ∃ t, m (Str.ofString "text") = some (.str (S l) t))
    (hhand : ∃ t, m (Str.ofString "hand") = some (.int (hand : Int) t)) :
    wpAny (model prog w) A (execs ((defAt 17).body.drop 1) (envAt 17 pm c doc L f)) (fun fl s' => (∃ m cm ls, St (· = s₀.gens) s₀ s₀.heap (envAt 17 pm c doc L f) m cm ls s') ∧
      IsS (((l.map fun c => [c]).map fun y => ((if hand = 2 then (if hand = 1 then tab0 else tabMid hand) else putF (if hand = 1 then tab0 else tabMid hand) [62] zGt) y).getD y).flatten) (match fl with | .ret v => v | _ => .none) s'.heap) (fun _ _ => False) s := by
  refine x_ifD X T (tr_cmp (X.locI hhand) ev_int (fun _ _ _ _ p => p) cmp_ne_int) fun s₁ X₁ T₁ => ?_
  by_cases h1 : hand = 1
  · rw [if_neg (by subst h1; simp)]
    have := spell_from2 (prog := prog) (w := w) hh hl (by omega) X₁ T₁ O htab htext hhand tab0_len
    refine x_nil ?_
    simp only [if_pos h1]
    exact this
  · rw [if_pos (by simp; omega)]
    have hcell : ∀ {s : Shared}, St (· = s₀.gens) s₀ s₀.heap (envAt 17 pm c doc L f) m cm [] s → ∀ np, Ev prog w A (envAt 17 pm c doc L f) (.Name (Str.ofString "table") np) s.heap (IsV (.ref d)) := fun X np => by
      have hcell := X.cell (Str.ofString "table") _ (mem_of_lookup (by rfl))
      rw [htab] at hcell
      exact ev_cell hcell (by rfl) (by rfl) (by rfl)
    refine x_put (k := [60]) (z := zLt) X₁ T₁ O (by omega) ev_str (hcell X₁ _) ev_str fun s₂ X₂ T₂ => ?_
    refine x_put (k := [9]) X₂ T₂ O (by omega) (ev_item3 (ev_list (args_pc (ev_str (l := [38, 35, 48, 57, 59])) (args_pc (ev_str (l := [])) (args_pc (ev_str (l := [38, 35, 120, 57, 59])) args_pn))) (by simp)) (X₂.locI hhand) hd3 (by intro _ _; rfl)) (hcell X₂ _) ev_str fun s₃ X₃ T₃ => ?_
    refine x_put (k := [10]) X₃ T₃ O (by omega) (ev_item3 (ev_list (args_pc (ev_str (l := [38, 35, 49, 48, 59])) (args_pc (ev_str (l := [])) (args_pc (ev_str (l := [38, 35, 120, 65, 59])) args_pn))) (by simp)) (X₃.locI hhand) hd3 (by intro _ _; rfl)) (hcell X₃ _) ev_str fun s₄ X₄ T₄ => ?_
    refine x_put (k := [13]) X₄ T₄ O (by omega) (ev_item3 (ev_list (args_pc (ev_str (l := [38, 35, 49, 51, 59])) (args_pc (ev_str (l := [])) (args_pc (ev_str (l := [38, 35, 120, 68, 59])) args_pn))) (by simp)) (X₄.locI hhand) hd3 (by intro _ _; rfl)) (hcell X₄ _) ev_str fun s₅ X₅ T₅ => ?_
    have hb := tabMid_len hd3
    have := spell_from2 (prog := prog) (w := w) (TF := tabMid hand) hh hl (by omega) X₅ T₅ O htab htext hhand hb
    refine x_nil ?_
    simp only [if_neg h1]
    exact this

theorem cl_spell {f : Addr} {l : List Nat} {hand : Nat} {t u : Tok} (G : Gl mg mb h) (hf : mg (defAt 17).name = some (.ref f)) (R : Room A 1) (hl : l.length ≤ 1000) (hh : hand = 0 ∨ hand = 1 ∨ hand = 2) : Cl prog w A (.ref f) [.int (hand : Int) u, .str (S l) t] h (IsS (spell hand l)) := by
  refine cl_top G (by simp) hf R.depth (binds := [(Str.ofString "hand", .int (hand : Int) u), (Str.ofString "text", .str (S l) t)]) (fun _ _ _ => rfl) (fun n x hx => by
    rcases List.mem_cons.mp hx with rfl | hx
    · exact .inl rfl
    · rcases List.mem_cons.mp hx with rfl | hx
      · exact .inl rfl
      · cases hx) (by decide +kernel) ?_
  intro pm c doc L s s₁ hx ht G' X
  have R' : Room (A.deeper (envAt 17 pm c doc L f)) 0 := R.deeper _
  refine Boxed.out (x_table X (G'.up X.keep).lim (tabEv (ka := [34]) (za := zQuot) (kb := [38]) (zb := zAmp) litS litS litS litS) (by rfl) (by rfl) (by rfl) (by rfl) fun d s₂ O T₂ X₂ => ?_)
  have := spell_from1 (prog := prog) (w := w) (hand := hand) R'.1 hl (by omega) X₂ T₂ O (by rfl) ⟨t, by rfl⟩ ⟨u, by rfl⟩
  have e : (if hand = 2 then (if hand = 1 then tab0 else tabMid hand) else putF (if hand = 1 then tab0 else tabMid hand) [62] zGt) = tabF hand := by
    rcases hh with rfl | rfl | rfl <;> rfl
  rw [e] at this
  exact this
end
end Mine

end

section
open PySem PySem.W PyProof.Rows PySem.Spec
namespace Mine
section
variable {prog : Program} {w : World} {A : Around} {env : Env} {s : Shared} {h : Heap} {pos : Pos} {mg mb : Str → Option Value}
/-- an enumerate object over a list, as yet undrawn -/
noncomputable def EnumL {α : Type} (KA : α → Value → Prop) (as : List α) (h : Heap) (v : Value) (h' : Heap) : Prop :=
  ∃ e it l ys, v = .ref e ∧ IsEnum h' e it 0 .none ∧ h'.IsListIter it l 0 ∧ h'.PlainList l ys.toArray ∧ Pts KA as ys ∧ h.get? e = none ∧ h.get? it = none ∧ e ≠ it ∧ l ≠ e ∧ l ≠ it

theorem lc_enum {α β : Type} {KA : α → Value → Prop} {KB : β → Value → Prop} {as : List α} (f : Nat → α → β)
    {elt iter : Expr} {x x₂ : Str} {px px₂ tp : Pos} {tk : Nat} {scope : Scope} {cl : List (Str × Addr)} (hh : A.handled = none)
    (hclos : closureFor scope env = pure cl) (hxx : x ≠ x₂)
    (hiter : wpAny (model prog w) A (eval iter env) (fun v s₁ => Keeps s s₁ ∧ 0 < s₁.toks ∧ EnumL KA as s.heap v s₁.heap) (fun _ _ => False) s) (hsz : as.length ≤ 1000)
    (helt : ∀ (C : Addr) (h₂ : Heap) (m₂ : Str → Option Value) (i : Nat) (a : α) (v : Value) (t : Tok), as[i]? = some a → KA a v → Ext s.heap h₂ → h₂.Ns C m₂ → m₂ x = some (.int (i : Int) t) → m₂ x₂ = some v → s.heap.get? C = none → Ev prog w A (compEnvC scope cl C env) elt h₂ (fun y _ => KB (f i a) y))
    (hcell : ∀ y ∈ scope.names, y.2 ≠ .cell) (hkind : scope.kind = .function)
    (hnames : ∀ y ∈ scope.names, y.2 = .local → scope.names.lookup y.1 = some .local) (hx : scope.names.lookup x = some .local) (hx₂ : scope.names.lookup x₂ = some .local)
    (hs : ∀ x, foldedSetIterable iter env x = pure x) :
    wpAny (model prog w) A (eval (.ListComp elt [⟨.Tuple [.Name x px, .Name x₂ px₂] tk tp, iter, [], 0⟩] scope pos) env) (fun v s' => Keeps s s' ∧ 0 < s'.toks ∧ IsL (Pts KB (as.mapIdx f)) v s'.heap) (fun _ _ => False) s := by
  rw [eval_ListComp]
  refine wpAny_comprehension_free (use := none) rfl hs hclos hkind hnames (wpAny_mono hiter (fun xv s₁ h₁ => ?_) fun _ _ e => e)
  obtain ⟨k₁, t₁, e, it, l, ys0, rfl, he, hit, hl, hp, hfe, hfit, hei, hle, hli⟩ := h₁
  refine wpAny_pyIter_enum he ?_
  refine wpAny_newObj_type (wpAny_newFunctionEnv hcell (by intro y hy; simp at hy) (fun h₁ hns₁ hsb₁ => ?_) hkind)
  dsimp only at hns₁ hsb₁ ⊢
  generalize hH2 : s₁.heap.push { cls := .type "list", dict := none, data := .seq ([] : List Value).toArray } = H2 at hns₁ hsb₁ ⊢
  have hC : H2.objs.size = s₁.heap.objs.size + 1 := by rw [← hH2, Heap.size_push]
  have hDC : s₁.heap.objs.size ≠ H2.objs.size := by rw [hC]; exact Nat.ne_of_lt (Nat.lt_succ_self _)
  generalize hD : s₁.heap.objs.size = D at hC hDC
  have below : ∀ b, b < D → b ≠ H2.objs.size ∧ b ≠ D := fun b hb => ⟨by rw [hC]; exact Nat.ne_of_lt (Nat.lt_succ_of_lt hb), Nat.ne_of_lt hb⟩
  have old : ∀ b o, s₁.heap.get? b = some o → h₁.get? b = some o := fun b o e => hsb₁.extBut b o (below b (hD ▸ Heap.lt_size e)).1 (Heap.get?_push_of_some _ (hH2 ▸ Heap.get?_push_of_some _ e))
  have hacc : h₁.PlainList D ([] : List Value).toArray := ⟨_, hsb₁.extBut _ _ hDC (Heap.get?_push_of_some _ (by rw [← hH2, ← hD]; exact Heap.get?_push_size _ rfl))⟩
  generalize hCe : H2.objs.size = C at hns₁ hsb₁ hC hDC below
  have fresh : ∀ a, D ≤ a → s₁.heap.get? a = none := fun a ha => by
    cases e : s₁.heap.get? a with
    | none => rfl
    | some o' => exact absurd (Heap.lt_size e) (Nat.not_lt.mpr (hD ▸ ha))
  have hDn : s₁.heap.get? D = none := fresh D (Nat.le_refl _)
  have hCn : s₁.heap.get? C = none := fresh C (by omega)
  have live : ∀ b, (∃ o, s₁.heap.get? b = some o) → b ≠ D ∧ b ≠ C := fun b ⟨o, eo⟩ => ⟨fun q => (by rw [q, hDn] at eo; cases eo), fun q => (by rw [q, hCn] at eo; cases eo)⟩
  have heL := live e ⟨_, he⟩
  have hiL := live it (let ⟨o, ho, _⟩ := hit; ⟨o, ho⟩)
  have hlL := live l (let ⟨n, ho⟩ := hl; ⟨_, ho⟩)
  have hbase : ∀ b o, s.heap.get? b = some o → b ≠ e ∧ b ≠ it ∧ b ≠ C ∧ b ≠ D := fun b o eo => by
    have e1 := keeps_ext k₁ b o eo
    exact ⟨fun q => (by rw [q, hfe] at eo; cases eo), fun q => (by rw [q, hfit] at eo; cases eo), (live b ⟨o, e1⟩).2, (live b ⟨o, e1⟩).1⟩
  have hCs : s.heap.get? C = none := by
    cases eo : s.heap.get? C with
    | none => rfl
    | some o => exact absurd rfl (hbase C o eo).2.2.1
  have loop : ∀ (RR : Result → Shared → Prop), (∀ h' tk' ys m', h'.PlainList D ys.toArray → h'.Ns C m' → Pts KB (as.mapIdx f) ys → 0 < tk' → (∀ b o, b ≠ e → b ≠ it → b ≠ C → b ≠ D → s₁.heap.get? b = some o → h'.get? b = some o) → RR (.ok .next) { s₁ with heap := h', toks := tk' }) →
      ∀ s₃ : Shared, s₃ = { s₁ with heap := h₁, toks := s₁.toks + ([] : List (Str × Value)).length } →
      codeAny (model prog w) A (.compLoop (.ListComp elt [⟨.Tuple [.Name x px, .Name x₂ px₂] tk tp, iter, [], 0⟩] scope pos) 0 (.ref e) (.ref D) (compEnvC scope cl C env)) RR s₃ := by
    rintro RR hRR s₃ rfl
    refine LCp.codeAny_compLoop_pair (fun k s' => ∃ h' tk' i ys m' old, s' = { s₁ with heap := h', toks := tk' } ∧ i ≤ as.length ∧ k = as.length + 1 - i ∧ 0 < tk' ∧ Pts KB ((as.mapIdx f).take i) ys ∧ IsEnum h' e it (i : Int) old ∧ h'.IsListIter it l i ∧ h'.PlainList l ys0.toArray ∧
        h'.Ns C m' ∧ h'.PlainList D ys.toArray ∧ (∀ b o, b ≠ e → b ≠ it → b ≠ C → b ≠ D → s₁.heap.get? b = some o → h'.get? b = some o)) ?_ (as.length + 1)
      ⟨h₁, _, 0, [], _, _, rfl, Nat.zero_le _, rfl, t₁, Pts.nil, old _ _ he, hit.at fun o eo => old _ o eo, hl.at fun o eo => old _ o eo, hns₁, hacc, fun b o _ _ _ _ eo => old b o eo⟩
    rintro k s' ⟨h', tk', i, ys, m', oldv, rfl, hi, rfl, ht', hpy, he', hit', hl', hn', hD', hk'⟩
    have hzs : ys0.length = as.length := hp.1
    by_cases hlt : i < as.length
    · have hvi : ys0.toArray[i]? = some ys0[i] := by simp [hzs, hlt]
      obtain ⟨a, ea, ka⟩ := hp.at (List.getElem?_eq_getElem (l := ys0) (i := i) (by omega))
      refine wpAny_pyNext_enum_item he' hit' hl'.isList hvi hei fun h₂ heo hit₂ ht₂ hz₂ hk₂ => ?_
      refine wpAny_letOwnedTupleGo_enum heo fun h₃ he₃ hs₃ => ?_
      replace hs₃ : Heap.SameBut e h₂ h₃ := hs₃
      have heH : e < h'.objs.size := Heap.lt_size he'
      have htup : h₃.IsTuple h'.objs.size #[.int i tk', ys0[i]] := ⟨_, (hs₃.2 _ (Nat.ne_of_gt heH)).trans ht₂, rfl, _, rfl⟩
      have hz₃ : h₃.objs.size = h'.objs.size + 1 := hs₃.1.trans hz₂
      refine wpAny_assign_Tuple hh htup rfl rfl fun h₄ hx₄ => ?_
      replace hx₄ : Heap.ExtBut h₃.objs.size h₃ h₄ := hx₄
      have old₄ : ∀ b o, b < h'.objs.size → h₃.get? b = some o → h₄.get? b = some o := fun b o hb x => hx₄ b o (by rw [hz₃]; exact Nat.ne_of_lt (Nat.lt_succ_of_lt hb)) x
      have step : ∀ b o, b ≠ e → b ≠ it → h'.get? b = some o → h₄.get? b = some o := fun b o h1 h2 eo => old₄ b o (Heap.lt_size eo) (hs₃.extBut b o h1 (hk₂ b o h1 h2 eo))
      have hn₄ : h₄.Ns C m' := hn'.at' fun o eo => step C o (Ne.symm heL.2) (Ne.symm hiL.2) eo
      refine assignInOrder_cons (wpAny_assign_Name (wpAny_storeName_local (lookup_relabel_local hx) hn₄ (fun h₅ hn₅ hs₅ => ?_) (by simp [compEnvC, relabel, hkind])))
      refine assignInOrder_cons (wpAny_assign_Name (wpAny_storeName_local (lookup_relabel_local hx₂) hn₅ (fun h₆ hn₆ hs₆ => ?_) (by simp [compEnvC, relabel, hkind])))
      refine assignInOrder_nil ?_
      have step6 : ∀ b o, b ≠ e → b ≠ it → b ≠ C → h'.get? b = some o → h₆.get? b = some o := fun b o h1 h2 h3 eo => hs₆.extBut b o h3 (hs₅.extBut b o h3 (step b o h1 h2 eo))
      have hext : Ext s.heap h₆ := fun b o eo => by
        obtain ⟨q1, q2, q3, q4⟩ := hbase b o eo
        exact step6 b o q1 q2 q3 (hk' b o q1 q2 q3 q4 (keeps_ext k₁ b o eo))
      refine (helt C h₆ _ i a ys0[i] tk' ea ka hext hn₆ (by simp [hxx]) (by simp) hCs).use (Ext.refl _) (Nat.succ_pos _) fun y s₇ k₇ x₇ t₇ ky => ?_
      obtain ⟨h₇, tk₇, rfl, kk₇⟩ := k₇
      have up7 : ∀ b o, b ≠ e → b ≠ it → b ≠ C → h'.get? b = some o → h₇.get? b = some o := fun b o h1 h2 h3 eo => kk₇ b o (step6 b o h1 h2 h3 eo)
      have hD₇ : h₇.PlainList D ys.toArray := hD'.at fun o eo => up7 D o (Ne.symm heL.1) (Ne.symm hiL.1) hDC eo
      refine wpAny_list_append_plain hD₇ (fun h₈ hl₈ hs₈ => ?_) (by rw [sizeLine_eq]; have := hpy.1; simp at this ⊢; omega)
      have keep8 : ∀ b o, b ≠ D → h₇.get? b = some o → h₈.get? b = some o := fun b o h1 eo => hs₈.extBut b o h1 eo
      refine ⟨as.length + 1 - (i + 1), ar_step hlt, h₈, tk₇, i + 1, ys ++ [y], (fun z => if z = x₂ then some ys0[i] else if z = x then some (Value.int (↑i) tk') else m' z), ys0[i], rfl, hlt, rfl, t₇, ?_, ?_, ?_, ?_, ?_, ?_, ?_⟩
      · have hf : (as.mapIdx f)[i]? = some (f i a) := by rw [List.getElem?_mapIdx, ea]; rfl
        rw [List.take_add_one, hf]
        exact hpy.snoc ky
      · have : ((i + 1 : Nat) : Int) = (i : Int) + 1 := by push_cast; rfl
        rw [this]
        exact keep8 e _ heL.1 (kk₇ e _ (hs₆.extBut e _ heL.2 (hs₅.extBut e _ heL.2 (old₄ e _ heH he₃))))
      · obtain ⟨oi, eoi, ri⟩ := hit₂
        obtain ⟨o0, e0, _⟩ := hit'
        exact ⟨oi, keep8 it _ hiL.1 (kk₇ it _ (hs₆.extBut it _ hiL.2 (hs₅.extBut it _ hiL.2 (old₄ it _ (Heap.lt_size e0) (hs₃.extBut it _ (Ne.symm hei) eoi))))), ri⟩
      · exact hl'.at fun o eo => keep8 l o hlL.1 (up7 l o hle hli hlL.2 eo)
      · exact (hn₆.keeps kk₇).at' fun o eo => keep8 C o (Ne.symm hDC) eo
      · have e8 : ys.toArray.push y = (ys ++ [y]).toArray := by simp
        rw [e8] at hl₈; exact hl₈
      · exact fun b o h1 h2 h3 h4 eo => keep8 b o h4 (up7 b o h1 h2 h3 (hk' b o h1 h2 h3 h4 eo))
    · obtain rfl : i = as.length := Nat.le_antisymm hi (Nat.not_lt.mp hlt)
      refine wpAny_pyNext_enum_end hh he' hit' hl'.isList (by simp [hzs]) fun h₂ hx₂ => ?_
      refine hRR h₂ tk' ys m' (hD'.at fun o eo => hx₂ D o (Ne.symm hiL.1) eo) (hn'.at' fun o eo => hx₂ C o (Ne.symm hiL.2) eo) ?_ ht' fun b o h1 h2 h3 h4 eo => hx₂ b o h2 (hk' b o h1 h2 h3 h4 eo)
      rw [List.take_of_length_le (by simp)] at hpy; exact hpy
  refine codeAny_compStart_list (loop _ ?_ _ rfl) (wpAny_pyIter_enum (old _ _ he) (loop _ ?_ _ rfl))
  all_goals
    intro h' tk' ys m' hD' hn' hpy ht' hk'
    refine ⟨m', hn', fun h'' hs'' => ⟨?_, ht', D, ys, rfl, hD'.at fun o eo => hs''.extBut D o hDC eo, hpy⟩⟩
    obtain ⟨h₀, tk₀, rfl, kk⟩ := k₁
    exact ⟨h'', tk', rfl, fun b o eo => by
      obtain ⟨q1, q2, q3, q4⟩ := hbase b o eo
      exact hs''.extBut b o q3 (hk' b o q1 q2 q3 q4 (kk b o eo))⟩
end
end Mine

end

section
open PySem PySem.W PyProof.Rows PySem.Spec
namespace Mine
section
variable {prog : Program} {w : World} {A : Around} {env : Env} {s : Shared} {h : Heap} {pos : Pos} {mg mb : Str → Option Value}
theorem filterMap_pts {α : Type} {K : α → Value → Prop} {as : List α} {ys : List Value} (h : Pts K as ys) : ∀ idx : List Nat, Pts K (idx.filterMap (as[·]?)) (idx.filterMap (ys[·]?))
  | [] => Pts.nil
  | i :: r => by
    cases e : as[i]? with
    | none =>
      have : ys[i]? = none := by
        rw [List.getElem?_eq_none_iff] at e ⊢; rw [h.1]; exact e
      rw [List.filterMap_cons_none e, List.filterMap_cons_none this]
      exact filterMap_pts h r
    | some a =>
      obtain ⟨y, ey, ky⟩ := h.2 i a e
      rw [List.filterMap_cons_some e, List.filterMap_cons_some ey]
      exact Pts.cons ky (filterMap_pts h r)
/-- a list of ints, of any make -/
noncomputable def IntsF (as : List Int) (v : Value) (h : Heap) : Prop := ∃ D ys, v = .ref D ∧ h.IsList D ys.toArray ∧ Pts KI as ys
theorem IntsF.stay {as : List Int} {v : Value} {h₁ h₂ : Heap} (x : Ext h₁ h₂) (p : IntsF as v h₁) : IntsF as v h₂ :=
  let ⟨D, ys, e, hl, r⟩ := p; ⟨D, ys, e, hl.at fun o e => x _ o e, r⟩
noncomputable def pickF (as : List Int) (i c : Int) : List Int := (sliceRange (sliceBounds (some i) none (some c) as.length).1 (sliceBounds (some i) none (some c) as.length).2.1 (sliceBounds (some i) none (some c) as.length).2.2).filterMap (as[·]?)
theorem pick_pts {as : List Int} {ys : List Value} (h : Pts KI as ys) (i c : Int) : Pts KI (pickF as i c) (slicePick ys.toArray (some i) none (some c)).toList := by
  have := filterMap_pts h (sliceRange (sliceBounds (some i) none (some c) as.length).1 (sliceBounds (some i) none (some c) as.length).2.1 (sliceBounds (some i) none (some c) as.length).2.2)
  unfold slicePick pickF
  have e : ys.toArray.size = as.length := by simp [h.1]
  rw [e]
  simpa using this
theorem pick_len {as : List Int} {ys : List Value} (h : Pts KI as ys) (i c : Int) : (pickF as i c).length ≤ as.length := by
  have h1 := slicePick_size_le ys.toArray (some i) none (some c)
  have h2 := (pick_pts h i c).1
  have h3 := h.1
  simp at h1 h2
  omega
theorem ev_slice3 {value e st : Expr} {p : Pos} {as : List Int} {i c : Int} (hv : Ev prog w A env value h (IntsF as)) (hn : as.length ≤ 1000) (he : Ev prog w A env e h (IsI i)) (hst : Ev prog w A env st h (IsI c)) (hc : c ≠ 0)
    (ht : ∀ o r, letTemporaryGo value o r = pure () := by intro _ _; rfl) :
    Ev prog w A env (.Subscript value (.Slice (some e) none (some st) p) pos) h (IsL (Pts KI (pickF as i c))) := fun s hx ht' => by
  refine wpAny_Subscript_Slice_step slot_list_getitem.lookup (hv.use hx ht' fun o s₁ k₁ x₁ t₁ ⟨D, ys, eo, hl, pas⟩ => ?_) ht
  subst eo
  refine wpAny_Slice ?_
  rw [evalPart_some]
  refine he.use x₁ t₁ fun v₂ s₂ k₂ x₂ t₂ ⟨u₂, e₂⟩ => ?_
  subst e₂
  rw [show evalPart none env = pure .none from evalPart_none env]
  refine wpAny_pure ?_
  rw [evalPart_some]
  refine hst.use x₂ t₂ fun v₃ s₃ k₃ x₃ t₃ ⟨u₃, e₃⟩ => ?_
  subst e₃
  have hl₃ : s₃.heap.IsList D ys.toArray := hl.at fun o eo => keeps_ext k₃ _ o (keeps_ext k₂ _ o eo)
  refine ⟨(hl₃.push _).typeIs, wpAny_getItem_list_slice (lo := some i) (hi := none) (st := some c) (hl₃.push _) (Heap.IsSliceOf.new ..) (.int i u₂) .none (.int c u₃) (by simpa using hc) ?_ (by rw [sizeLine_eq]; have := pas.1; simp; omega)⟩
  refine ⟨keeps_push (keeps_push (keeps_trans (keeps_trans k₁ k₂) k₃) _) _, _, (slicePick ys.toArray (some i) none (some c)).toList, rfl, ?_, pick_pts pas i c⟩
  exact ⟨0, by rw [Array.toArray_toList]; exact Heap.get?_push_size _ rfl⟩

theorem preSum_bound {val : Nat → Int} {B : Int} (h : ∀ i, 0 ≤ val i ∧ val i ≤ B) (n : Nat) : 0 ≤ preSum val n ∧ preSum val n ≤ n * B := by
  induction n with
  | zero => exact ⟨Int.le_refl _, by simp [preSum]⟩
  | succ n ih =>
    have h1 := h n
    have e : ((n + 1 : Nat) : Int) * B = n * B + B := by push_cast; rw [Int.add_mul, Int.one_mul]
    show 0 ≤ preSum val n + val n ∧ preSum val n + val n ≤ _
    rw [e]; omega
theorem cl_sum {as : List Int} {v : Value} (hh : A.handled = none) (hv : IsL (Pts KI as) v h) : Cl prog w A (.builtin "sum") [v] h (IsI (preSum (fun i => as.getD i 0) as.length)) := fun s hx _ => by
  obtain ⟨D, ys, rfl, hl, p⟩ := hv
  have hl' := hl.isList.at fun o e => hx _ o e
  have hsz : ys.toArray.size = as.length := by simp [p.1]
  refine call_sum_walkG (iter_any hl' fun s₂ e st hfp hlI => ?_)
  subst e
  have W := Walks.list (prog := prog) (w := w) (A := A.in1) hh _ D hlI ys.toArray
  rw [hsz] at W
  refine ⟨_, _, _, _, _, _, fun i => as.getD i 0, rfl, W, st, hfp, fun i v hv => ?_, fun h' tk t' hk => ⟨keeps_grown (keeps_refl s) h' tk (old_kept hk), t', rfl⟩⟩
  obtain ⟨a, ea, t, e⟩ := p.at (by simpa using hv)
  exact ⟨t, by rw [e]; dsimp only; rw [List.getD_eq_getElem?_getD, ea]; rfl⟩
theorem ev_sum {np : Pos} {e : Expr} {as : List Int} (hh : A.handled = none) (G : Gl mg mb h) (hg : env.globals = mainGlobals) (hb : env.builtins = builtinsNs) (he : Ev prog w A env e h (IsL (Pts KI as)))
    (hk : env.scope.kind = .function := by rfl) (hl : env.kindOf (Str.ofString "sum") = some .globalImplicit := by rfl) (hst : starEach [e] env = [(false, eval e env)] := by rfl) :
    Ev prog w A env (.Call (.Name (Str.ofString "sum") np) [e] [] pos) h (IsI (preSum (fun i => as.getD i 0) as.length)) :=
  ev_call_builtin (id := "sum") (ev_builtin (hg ▸ G.g) (G.bi "sum" (by simp)).1 (hb ▸ G.b) ((G.bi "sum" (by simp)).2.trans (by rfl)) hk hl) (args_more he args_none (fun _ _ _ x p => p.stay x) hst)
    (fun vs h' x ⟨v, vs', e1, p, e3⟩ => by subst e1 e3; exact cl_sum hh p) hst

/-- a written int -/
structure LitI (prog : Program) (w : World) (A : Around) (env : Env) (e : Expr) (i : Int) : Prop where
  out : ∀ (s : Shared) (Q : Value → Shared → Prop) (E : Value → Shared → Prop), Q (.int i s.toks) { s with toks := s.toks + 1 } → wpAny (model prog w) A (eval e env) Q E s
theorem litI {i : Int} {k : Nat} : LitI prog w A env (.Constant (.int i) k pos) i := ⟨fun s Q E h => wpAny_Constant_int h⟩
theorem enum3 {np lp : Pos} {e₁ e₂ e₃ : Expr} {a b c : Int} (G : Gl mg mb s.heap) (hg : env.globals = mainGlobals) (hb : env.builtins = builtinsNs) (h₁ : LitI prog w A env e₁ a) (h₂ : LitI prog w A env e₂ b) (h₃ : LitI prog w A env e₃ c)
    (hk : env.scope.kind = .function) (hl : env.kindOf (Str.ofString "enumerate") = some .globalImplicit)
    (hst : starEach [.List [e₁, e₂, e₃] lp] env = [(false, eval (.List [e₁, e₂, e₃] lp) env)]) (hst1 : starEach [e₁, e₂, e₃] env = (false, eval e₁ env) :: starEach [e₂, e₃] env) (hst2 : starEach [e₂, e₃] env = (false, eval e₂ env) :: starEach [e₃] env) (hst3 : starEach [e₃] env = (false, eval e₃ env) :: starEach [] env) :
    wpAny (model prog w) A (eval (.Call (.Name (Str.ofString "enumerate") np) [.List [e₁, e₂, e₃] lp] [] pos) env) (fun v s₁ => Keeps s s₁ ∧ 0 < s₁.toks ∧ EnumL KI [a, b, c] s.heap v s₁.heap) (fun _ _ => False) s := by
  refine wpAny_Call_NameR (Calls.Name_function_global hk hl (Calls.loadGlobal_builtin (hg ▸ G.g) (G.bi "enumerate" (by simp)).1 (hb ▸ G.b) ((G.bi "enumerate" (by simp)).2.trans (by rfl)) ?_) (by decide))
  refine PyProof.Rows.callWith_type1 ?_ hst (by intros; rfl)
  rw [hst]
  refine Calls.spliced_cons (wpAny_List ?_)
  refine spliced_more (h₁.out _ _ _ (spliced_more (h₂.out _ _ _ (spliced_more (h₃.out _ _ _ (Calls.spliced_nil ?_)) hst3)) hst2)) hst1
  refine ⟨by rw [sizeLine_eq]; simp, Calls.spliced_nil ?_⟩
  have up : Ext s.heap (s.heap.push { cls := .type "list", data := .seq [Value.int a s.toks, Value.int b (s.toks + 1), Value.int c (s.toks + 1 + 1)].toArray }) := fun b o e => Heap.get?_push_of_some _ e
  have hpl : (s.heap.push { cls := .type "list", data := .seq [Value.int a s.toks, Value.int b (s.toks + 1), Value.int c (s.toks + 1 + 1)].toArray }).PlainList s.heap.objs.size [Value.int a s.toks, Value.int b (s.toks + 1), Value.int c (s.toks + 1 + 1)].toArray := ⟨_, Heap.get?_push_size _ rfl⟩
  have fresh : ∀ a, s.heap.objs.size ≤ a → s.heap.get? a = none := fun a ha => by
    cases e : s.heap.get? a with
    | none => rfl
    | some o => exact absurd (Heap.lt_size e) (Nat.not_lt.mpr ha)
  have hz0 : (s.heap.push { cls := .type "list", data := .seq [Value.int a s.toks, Value.int b (s.toks + 1), Value.int c (s.toks + 1 + 1)].toArray }).objs.size = s.heap.objs.size + 1 := Heap.size_push ..
  refine call_enumerate_list hpl.isList fun h' he hit hz hk => ?_
  refine ⟨⟨h', _, rfl, fun b o e => hk b o (up b o e)⟩, Nat.succ_pos _, _, _, s.heap.objs.size, _, rfl, he, hit, hpl.at fun o e => hk _ o e, Pts.cons ⟨_, rfl⟩ (Pts.cons ⟨_, rfl⟩ (Pts.cons ⟨_, rfl⟩ Pts.nil)), ?_, ?_, ?_, ?_, ?_⟩
  all_goals (try rw [hz0])
  · exact fresh _ (by omega)
  · exact fresh _ (by omega)
  · exact Nat.succ_ne_self _
  · exact Nat.ne_of_lt (by omega)
  · exact Nat.ne_of_lt (by omega)
end
end Mine

end

section
open PySem PySem.W PyProof.Rows PySem.Spec
namespace Mine
theorem noPylong {x y : Int} (hy : y.natAbs < 1000) : Builtin.divisionGoesByPylong x y = false := by
  unfold Builtin.divisionGoesByPylong
  have : (if (y == 0) = true then 0 else y.natAbs.log2 / 30 + 1) ≤ 300 := by
    split
    · omega
    · have : y.natAbs.log2 ≤ y.natAbs := Nat.log2_le_self _
      omega
  have h2 : ¬ ((if (y == 0) = true then 0 else y.natAbs.log2 / 30 + 1) > 300) := by omega
  dsimp only
  rw [decide_eq_false h2]; rfl
section
variable {prog : Program} {w : World} {A : Around} {env : Env} {s : Shared} {h : Heap} {pos : Pos} {mg mb : Str → Option Value}
/-- the cells of the first line -/
noncomputable def KC (_ : Int) (v : Value) : Prop := ∃ c : Nat, c ≤ 1000000000 ∧ ∃ t, v = .int (c : Int) t
theorem len_succ {α : Type} {n : Nat} : ∀ {l : List α}, l.length = n + 1 → ∃ a r, l = a :: r ∧ r.length = n
  | [], h => nomatch h
  | a :: r, h => ⟨a, r, rfl, Nat.succ.inj h⟩
theorem len3 {α : Type} {l : List α} (h : l.length = 3) : ∃ a b c, l = [a, b, c] := by
  obtain ⟨a, l₁, e₁, h₁⟩ := len_succ h
  obtain ⟨b, l₂, e₂, h₂⟩ := len_succ h₁
  obtain ⟨c, e₃⟩ := List.length_eq_one_iff.mp h₂
  subst e₃ e₂ e₁
  exact ⟨a, b, c, rfl⟩
theorem pickC {ys : List Value} {as : List Int} (h : Pts KC as ys) (h3 : as.length = 3) : ∃ c0 c1 c2 : Nat, c0 ≤ 1000000000 ∧ c1 ≤ 1000000000 ∧ c2 ≤ 1000000000 ∧ Pts KI [(c0 : Int), c1, c2] ys := by
  obtain ⟨a0, a1, a2, rfl⟩ := len3 h3
  obtain ⟨z0, z1, z2, rfl⟩ := len3 h.1
  obtain ⟨y0, e0, c0, b0, t0, rfl⟩ := h.2 0 a0 rfl
  obtain ⟨y1, e1, c1, b1, t1, rfl⟩ := h.2 1 a1 rfl
  obtain ⟨y2, e2, c2, b2, t2, rfl⟩ := h.2 2 a2 rfl
  cases e0; cases e1; cases e2
  exact ⟨c0, c1, c2, b0, b1, b2, Pts.cons ⟨_, rfl⟩ (Pts.cons ⟨_, rfl⟩ (Pts.cons ⟨_, rfl⟩ Pts.nil))⟩

theorem law_1 {pm : Value} {c : Addr} {doc : Value} {L f D : Addr} {m cm : Str → Option Value} {s₀ s : Shared} {Q : Flow → Shared → Prop} {G : Array GenState → Prop} (hh : A.handled = none) (Gl₀ : Gl mg mb s₀.heap)
    (X : St G s₀ s₀.heap (envAt 20 pm c doc L f) m cm [] { s with toks := s.toks + 1 }) (hscript : cm (Str.ofString "script") = some (.ref D)) {ns : List Int} (hints : IntsF ns (.ref D) s₀.heap) (hn63 : ns.length ≤ 63)
    (k : ∀ (c0 c1 c2 : Nat) D' ys s', c0 ≤ 1000000000 → c1 ≤ 1000000000 → c2 ≤ 1000000000 → Pts KI [(c0 : Int), c1, c2] ys → St G s₀ s₀.heap (envAt 20 pm c doc L f) m (upd cm (Str.ofString "cells") (.ref D')) [(D', ys)] s' →
      wpAny (model prog w) A (execs ((defAt 20).body.drop 1) (envAt 20 pm c doc L f)) Q (fun _ _ => False) s') :
    Boxed (wpAny (model prog w) A (execs ((defAt 20).body) (envAt 20 pm c doc L f)) Q (fun _ _ => False) s) := by
  constructor
  have Gs : Gl mg mb s.heap := Gl₀.up X.keep
  refine wpAny_execs_cons (wpAny_Assign_Name (wpAny_mono (lc_enum (s := s) (KA := KI) (KB := KC) (as := [82, 1, 10]) (fun _ a => a) hh (by rfl) (by decide) (enum3 (env := envAt 20 pm c doc L f) Gs rfl rfl litI litI litI (by rfl) (by rfl) (by rfl) (by rfl) (by rfl) (by rfl)) (by simp) (fun C h₂ m₂ i a v t ea ka hx hn h1 h2 hC => ?_) (by decide) (by rfl) (by decide) (by rfl) (by rfl) (by intro _; rfl)) (fun v s₁ h₁ => ?_) fun _ _ h => h) (by rfl))
  · have hcell := X.cell (Str.ofString "script") _ (mem_of_lookup (by rfl))
    rw [hscript] at hcell
    obtain ⟨u, rfl⟩ := ka
    have hi3 : a = 82 ∨ a = 1 ∨ a = 10 := by
      have := List.mem_of_getElem? ea
      simpa using this
    have hpl := pick_len hints.choose_spec.choose_spec.2.2 (i : Int) 3
    have hb := preSum_bound (val := fun j => ((pickF ns i 3).map (fun z => z.fmod 1000000)).getD j 0) (B := 1000000) (fun j => by
      rw [List.getD_eq_getElem?_getD, List.getElem?_map]
      cases (pickF ns i 3)[j]? with
      | none => simp
      | some z =>
        simp only [Option.map_some, Option.getD_some]
        have h1 := Int.fmod_nonneg_of_pos z (show (0 : Int) < 1000000 by decide)
        have h2 := Int.fmod_lt_of_pos z (show (0 : Int) < 1000000 by decide)
        omega) ((pickF ns i 3).map (fun z => z.fmod 1000000)).length
    refine (ev_add (ev_local hn h2 (by rfl) (by rfl)).isI (ev_sum hh (Gs.up hx) rfl rfl (ev_compA (KA := KI) (KB := KI) fn_I (as := pickF ns i 3) (fun z => z.fmod 1000000) (by rfl)
      (ev_slice3 (as := ns) (i := (i : Int)) (c := 3) ((ev_cell (hcell.keeps hx) (by rfl) (by rfl) (by rfl)).mono fun v h' hx' e => by cases (show v = .ref D from e); exact hints.stay (X.keep.trans (hx.trans hx'))) (by omega) (ev_local hn h1 (by rfl) (by rfl)).isI ev_int (by decide))
      (fun v h' hx p => src_list hh p) (by omega) (fun C' h₃ m₃ b v hb kb hx' hn' hv' _ => ?_)))).mono fun v h' _ ⟨t', e⟩ => ?_
    · obtain ⟨u', rfl⟩ := kb
      exact ev_mod (b := 1000000) (ev_local hn' hv' (by rfl) (by rfl)).isI (Ev.eqI (ev_pow (a := 10) (b := 6) ev_int ev_int (by decide) (by decide)) (by decide))
    · rw [List.length_map] at hb
      have hq : (((pickF ns i 3).length : Nat) : Int) ≤ 63 := by omega
      have hq2 : (((pickF ns i 3).length : Nat) : Int) * 1000000 ≤ 63 * 1000000 := Int.mul_le_mul_of_nonneg_right hq (by decide)
      rw [List.length_map] at e
      generalize preSum (fun j => ((pickF ns i 3).map (fun z => z.fmod 1000000)).getD j 0) (pickF ns i 3).length = q at hb e
      refine ⟨(a + q).toNat, by omega, t', ?_⟩
      rw [e, Int.toNat_of_nonneg (by omega)]
  · obtain ⟨k₁, t₁, D', ys, rfl, hl, hp⟩ := h₁
    obtain ⟨c0, c1, c2, b0, b1, b2, hp'⟩ := pickC hp (by simp)
    obtain ⟨h', tk, rfl, kk⟩ := k₁
    have X₁ := (X.kept (s' := { s with heap := h', toks := tk }) ⟨h', tk, rfl, kk⟩ t₁).more hl
    exact store_cell X₁ (by rfl) (by rfl) (by rfl) fun s' X' => k c0 c1 c2 D' ys s' b0 b1 b2 hp' X'
end
end Mine

end

section
open PySem PySem.W PyProof.Rows PySem.Spec
namespace Mine
theorem fmod_nat (a b : Nat) : ((a : Int)).fmod (b : Int) = ((a % b : Nat) : Int) := by
  rw [Int.fmod_eq_emod_of_nonneg _ (by omega)]; rfl
theorem fdiv_nat (a b : Nat) : ((a : Int)).fdiv (b : Int) = ((a / b : Nat) : Int) := by
  rw [Int.fdiv_eq_ediv_of_nonneg _ (by omega)]; rfl
noncomputable def othersF (hand : Nat) : List Nat := ([[35, 36, 37, 38, 60, 62], [35, 36, 37, 38, 62], [35, 36, 37, 38, 60]] : List (List Nat)).getD hand []
noncomputable def wordF (c0 o size : Nat) : List Nat := (List.range size).map fun k => if c0 / 2 ^ k % 2 = 0 then 34 else o
structure LwIn (hand size : Nat) (x : List Nat) (cm : Str → Option Value) : Prop where
  hand : ∃ t, cm (Str.ofString "hand") = some (.int (hand : Int) t)
  size : ∃ t, cm (Str.ofString "size") = some (.int (size : Int) t)
  word : ∃ t, cm (Str.ofString "word") = some (.str (S x) t)
theorem flat1 {α : Type} (l : List α) (g : α → Nat) : (l.map fun z => [g z]).flatten = l.map g := by
  induction l with
  | nil => rfl
  | cons a r ih => rw [List.map_cons, List.flatten_cons, ih]; rfl
theorem mem_upto0 {n : Nat} {z : Int} (h : z ∈ upto 0 n) : ∃ j : Nat, j < n ∧ z = (j : Int) := by
  unfold upto at h
  obtain ⟨j, hj, rfl⟩ := List.mem_map.mp h
  exact ⟨j, List.mem_range.mp hj, by omega⟩
section
variable {prog : Program} {w : World} {A : Around} {env : Env} {s : Shared} {h : Heap} {pos : Pos} {mg mb : Str → Option Value}
theorem othersF_len {hand : Nat} (h : hand < 3) : 0 < (othersF hand).length ∧ (othersF hand).length ≤ 6 := by
  match hand, h with
  | 0, _ => decide
  | 1, _ => decide
  | 2, _ => decide
theorem law_2 {pm : Value} {c : Addr} {doc : Value} {L f D : Addr} {m cm : Str → Option Value} {s₀ s : Shared} {Q : Flow → Shared → Prop} {G : Array GenState → Prop} {c0 c1 c2 : Nat} {ys : List Value} (hh : A.handled = none) (Gl₀ : Gl mg mb s₀.heap)
    (X : St G s₀ s₀.heap (envAt 20 pm c doc L f) m cm [(D, ys)] s) (hcells : cm (Str.ofString "cells") = some (.ref D)) (hp : Pts KI [(c0 : Int), c1, c2] ys) (b0 : c0 ≤ 1000000000) (b1 : c1 ≤ 1000000000) (b2 : c2 ≤ 1000000000)
    (k : ∀ hand o size m' cm' ls s', hand < 3 → o ∈ othersF hand → 6 ≤ size → size ≤ 8 → LwIn hand size (wordF c0 o size) cm' → St G s₀ s₀.heap (envAt 20 pm c doc L f) m' cm' ls s' →
      wpAny (model prog w) A (execs ((defAt 20).body.drop 6) (envAt 20 pm c doc L f)) Q (fun _ _ => False) s') :
    Boxed (wpAny (model prog w) A (execs ((defAt 20).body.drop 1) (envAt 20 pm c doc L f)) Q (fun _ _ => False) s) := by
  constructor
  have h3 : c2 % 3 < 3 := Nat.mod_lt _ (by decide)
  refine x_assignC (K := KI ((c2 % 3 : Nat) : Int)) X (Ev.eqI (ev_mod (ev_item (K := KI) (as := [(c0 : Int), c1, c2]) (i := 2) (X.celL hcells List.mem_cons_self hp) ev_int (by decide) (by decide) rfl) ev_int) (fmod_nat c2 3)) (by rfl) (by rfl) (by rfl) fun y s₁ ⟨t₁, hv⟩ X₁ => ?_
  subst hv
  obtain ⟨ol1, ol2⟩ := othersF_len h3
  refine x_assign (K := KS (othersF (c2 % 3))) X₁ (ev_item3 (ev_list (args_pc (ev_str (l := [35, 36, 37, 38, 60, 62])) (args_pc (ev_str (l := [35, 36, 37, 38, 62])) (args_pc (ev_str (l := [35, 36, 37, 38, 60])) args_pn))) (by simp)) (X₁.celI (i := ((c2 % 3 : Nat) : Int)) ⟨t₁, by rfl⟩) h3 (by intro _ _; rfl)) (by rfl) (by rfl) fun y s₂ ⟨t₂, hv⟩ X₂ => ?_
  subst hv
  have hidx : c2 / 3 % (othersF (c2 % 3)).length < (othersF (c2 % 3)).length := Nat.mod_lt _ ol1
  have Gl₂ : Gl mg mb s₂.heap := Gl₀.up X₂.keep
  refine x_assignC (K := KS [(othersF (c2 % 3))[c2 / 3 % (othersF (c2 % 3)).length]]) X₂ (ev_item_str (l := othersF (c2 % 3)) (i := ((c2 / 3 % (othersF (c2 % 3)).length : Nat) : Int)) (X₂.locS ⟨t₂, by rfl⟩)
    (Ev.eqI (ev_mod (b := (((othersF (c2 % 3)).length : Nat) : Int)) (Ev.eqI (ev_fdiv (ev_item (K := KI) (as := [(c0 : Int), c1, c2]) (i := 2) (X₂.celL (by exact hcells) List.mem_cons_self hp) ev_int (by decide) (by decide) rfl) ev_int (by decide) (noPylong (by decide))) (fdiv_nat c2 3)) (ev_len Gl₂ rfl rfl (X₂.locS ⟨t₂, by rfl⟩) (by omega)) (by omega)) (fmod_nat _ _)) (by omega) (by omega) (by rw [Int.toNat_natCast]; exact List.getElem?_eq_getElem hidx)) (by rfl) (by rfl) (by rfl) fun y s₃ ⟨t₃, hv⟩ X₃ => ?_
  subst hv
  have ho : (othersF (c2 % 3))[c2 / 3 % (othersF (c2 % 3)).length] ∈ othersF (c2 % 3) := List.getElem_mem hidx
  generalize (othersF (c2 % 3))[c2 / 3 % (othersF (c2 % 3)).length] = o at X₃ ho
  refine x_assignC (K := KI ((6 + c1 % 3 : Nat) : Int)) X₃ (Ev.eqI (ev_add ev_int (Ev.eqI (ev_mod (ev_item (K := KI) (as := [(c0 : Int), c1, c2]) (i := 1) (X₃.celL (by exact hcells) List.mem_cons_self hp) ev_int (by decide) (by decide) rfl) ev_int) (fmod_nat c1 3))) (by omega)) (by rfl) (by rfl) (by rfl) fun y s₄ ⟨t₄, hv⟩ X₄ => ?_
  subst hv
  have hs1 : 6 ≤ 6 + c1 % 3 := by omega
  have hs2 : 6 + c1 % 3 ≤ 8 := by omega
  generalize 6 + c1 % 3 = size at X₄ hs1 hs2
  have Gl₄ : Gl mg mb s₄.heap := Gl₀.up X₄.keep
  have hw : ((upto 0 size).map fun z => [if c0 / 2 ^ z.toNat % 2 = 0 then 34 else o]).flatten = wordF c0 o size := by
    rw [flat1]
    unfold upto wordF
    rw [List.map_map]
    refine List.map_congr_left fun j _ => ?_
    show (if c0 / 2 ^ ((0 : Int) + (j : Int)).toNat % 2 = 0 then 34 else o) = _
    rw [show ((0 : Int) + (j : Int)).toNat = j by omega]
  refine x_assignC (K := KS (wordF c0 o size)) X₄ (Ev.eqS (ev_join (ls := (upto 0 size).map fun z => [if c0 / 2 ^ z.toNat % 2 = 0 then 34 else o]) (ev_compA (KA := KI) (KB := KS) fn_I (as := upto 0 size) (fun z => [if c0 / 2 ^ z.toNat % 2 = 0 then 34 else o]) (by rfl)
    (ev_range1 Gl₄ rfl rfl (X₄.celI (i := (size : Int)) ⟨t₄, by rfl⟩)) (fun v h' hx ⟨r, t, u, v', e, hr⟩ => by subst e; exact src_range hh hr (by omega) (by omega)) (by simp [upto]; omega) (fun C h₂ m₂ a v ha ka hx hn hv _ => ?_)) (by simp [upto]; omega) (fun p hp => by
      obtain ⟨z, _, rfl⟩ := List.mem_map.mp hp; simp)) hw) (by rfl) (by rfl) (by rfl) fun y s₅ ⟨t₅, hv⟩ X₅ => ?_
  · obtain ⟨u, rfl⟩ := ka
    obtain ⟨j, hj, rfl⟩ := mem_upto0 ha
    have h2j : 2 ^ j ≤ 128 := by
      have : 2 ^ j ≤ 2 ^ 7 := Nat.pow_le_pow_right (by decide) (by omega)
      omega
    have h2p : 0 < 2 ^ j := Nat.pow_pos (by decide)
    have hpow : (2 : Int) ^ ((j : Int)).toNat = ((2 ^ j : Nat) : Int) := by
      rw [Int.toNat_natCast]; push_cast; rfl
    refine ev_item_str (l := [34, o]) (i := ((c0 / 2 ^ j % 2 : Nat) : Int)) (ev_add_str (ev_str (l := [34])) (X₄.subS hx (l := [o]) ⟨t₃, by rfl⟩) (by simp))
      (Ev.eqI (ev_mod (Ev.eqI (ev_fdiv (b := ((2 ^ j : Nat) : Int)) (ev_item (K := KI) (as := [(c0 : Int), c1, c2]) (i := 0) (X₄.subL hx (by exact hcells) List.mem_cons_self hp) ev_int (by decide) (by decide) rfl)
        (Ev.eqI (ev_pow (a := 2) (b := (j : Int)) ev_int (ev_local hn hv (by rfl) (by rfl)).isI (by omega) (by
          have : (Builtin.Int.intBits 2 : Int) = 2 := by decide
          rw [this]; omega)) hpow) (by omega) (noPylong (by omega))) (fdiv_nat c0 (2 ^ j))) ev_int) (fmod_nat _ 2)) (by omega) (by omega) ?_
    rw [Int.toNat_natCast, Int.toNat_natCast]
    have : c0 / 2 ^ j % 2 = 0 ∨ c0 / 2 ^ j % 2 = 1 := Nat.mod_two_eq_zero_or_one _
    rcases this with e | e
    · rw [e]; rfl
    · rw [e]; rfl
  · subst hv
    exact k (c2 % 3) o size _ _ _ s₅ h3 ho hs1 hs2 ⟨⟨t₁, by rfl⟩, ⟨t₄, by rfl⟩, ⟨t₅, by rfl⟩⟩ X₅
end
end Mine

end

section
open PySem PySem.W PyProof.Rows PySem.Spec
namespace Mine
noncomputable def HasL {α : Type} (K : α → Value → Prop) (as : List α) (ls : List (Addr × List Value)) (v : Option Value) : Prop := ∃ D ys, v = some (.ref D) ∧ (D, ys) ∈ ls ∧ Pts K as ys
theorem HasL.more {α : Type} {K : α → Value → Prop} {as : List α} {ls : List (Addr × List Value)} {v : Option Value} {p : Addr × List Value} (h : HasL K as ls v) : HasL K as (p :: ls) v :=
  let ⟨D, ys, e, hm, hp⟩ := h; ⟨D, ys, e, List.mem_cons_of_mem _ hm, hp⟩
theorem HasL.first {α : Type} {K : α → Value → Prop} {as : List α} {ls : List (Addr × List Value)} {D : Addr} {ys : List Value} (hp : Pts K as ys) : HasL K as ((D, ys) :: ls) (some (.ref D)) := ⟨D, ys, rfl, List.mem_cons_self, hp⟩
theorem upto_map {β : Type} (n : Nat) (f : Int → β) : (upto 0 n).map f = (List.range n).map fun (j : Nat) => f (j : Int) := by
  unfold upto
  rw [List.map_map]
  refine List.map_congr_left fun j _ => ?_
  show f (0 + (j : Int)) = _
  rw [Int.zero_add]
section
variable {prog : Program} {w : World} {A : Around} {env : Env} {s : Shared} {h : Heap} {pos : Pos} {mg mb : Str → Option Value}
variable {G : Array GenState → Prop} {s₀ s' : Shared} {g : Heap} {m cm : Str → Option Value} {ls : List (Addr × List Value)} {Q : Flow → Shared → Prop} {E : Value → Shared → Prop}
theorem St.locH {α : Type} {K : α → Value → Prop} {as : List α} {x : Str} {np : Pos} (X : St G s₀ g env m cm ls s) (H : HasL K as ls (m x))
    (hk : env.scope.kind = .function := by rfl) (hl : env.kindOf x = some .local := by rfl) (hd : (x == ("__debug__" : Str)) = false := by decide) : Ev prog w A env (.Name x np) s.heap (IsL (Pts K as)) := by
  obtain ⟨D, ys, e, hm, hp⟩ := H
  exact X.locL e hm hp hk hl hd
theorem St.celH {α : Type} {K : α → Value → Prop} {as : List α} {x : Str} {np : Pos} {c : Addr} (X : St G s₀ g env m cm ls s) (H : HasL K as ls (cm x)) (hc : env.cells.lookup x = some c := by rfl)
    (hk : env.scope.kind = .function := by rfl) (hl : env.kindOf x = some .cell := by rfl) (hd : (x == ("__debug__" : Str)) = false := by decide) : Ev prog w A env (.Name x np) s.heap (IsL (Pts K as)) := by
  obtain ⟨D, ys, e, hm, hp⟩ := H
  exact X.celL e hm hp hc hk hl hd
theorem St.subH {α : Type} {K : α → Value → Prop} {as : List α} {env' : Env} {h₂ : Heap} {x : Str} {np : Pos} {c : Addr} (X : St G s₀ g env m cm ls s) (hx : Ext s.heap h₂) (H : HasL K as ls (cm x)) (hc : env.cells.lookup x = some c := by rfl) (hc' : env'.cells.lookup x = some c := by rfl)
    (hk : env'.scope.kind = .function := by rfl) (hl : env'.kindOf x = some .cell := by rfl) (hd : (x == ("__debug__" : Str)) = false := by decide) : Ev prog w A env' (.Name x np) h₂ (IsL (Pts K as)) := by
  obtain ⟨D, ys, e, hm, hp⟩ := H
  exact X.subL hx e hm hp hc hc' hk hl hd
theorem ev_compR {β : Type} {KB : β → Value → Prop} (f : Nat → β) {n : Nat} (hh : A.handled = none)
    {elt iter : Expr} {x : Str} {px : Pos} {scope : Scope} {cl : List (Str × Addr)}
    (hclos : closureFor scope env = pure cl) (hiter : Ev prog w A env iter h (IsR 0 n)) (hn : n ≤ 100000)
    (helt : ∀ (C : Addr) (h₂ : Heap) (m₂ : Str → Option Value) (j : Nat) (t : Tok), j < n → Ext h h₂ → h₂.Ns C m₂ → m₂ x = some (.int (j : Int) t) → Ev prog w A (compEnvC scope cl C env) elt h₂ (fun y _ => KB (f j) y))
    (hcell : ∀ y ∈ scope.names, y.2 ≠ .cell := by decide) (hkind : scope.kind = .function := by rfl)
    (hnames : ∀ y ∈ scope.names, y.2 = .local → scope.names.lookup y.1 = some .local := by decide) (hxl : scope.names.lookup x = some .local := by rfl)
    (hs : ∀ x, foldedSetIterable iter env x = pure x := by intro _; rfl) :
    Ev prog w A env (.ListComp elt [⟨.Name x px, iter, [], 0⟩] scope pos) h (IsL (Pts KB ((List.range n).map f))) := by
  have := ev_compA (pos := pos) (px := px) (KA := KI) (KB := KB) fn_I (as := upto 0 n) (fun z => f z.toNat) hclos hiter (fun v h' hx ⟨r, t, u, v', e, hr⟩ => by subst e; exact src_range hh hr (by omega) (by omega)) (by simp [upto]; omega)
    (fun C h₂ m₂ a v ha ka hx₂ hn hv _ => by
      obtain ⟨t, rfl⟩ := ka
      obtain ⟨j, hj, rfl⟩ := mem_upto0 ha
      rw [Int.toNat_natCast]
      exact helt C h₂ m₂ j t hj hx₂ hn hv) hcell hkind hnames hxl hs
  rw [upto_map] at this
  simp only [Int.toNat_natCast] at this
  exact this
theorem ev_parse {np : Pos} {e : Expr} {p back : List Nat} (G : Gl mg mb h) (R : Room A 1) (hg : env.globals = mainGlobals) (he : Ev prog w A env e h (IsS (resp p back))) (hsz : (resp p back).length ≤ 1000)
    (hk : env.scope.kind = .function := by rfl) (hl : env.kindOf (defAt 9).name = some .globalImplicit := by rfl) (hst : starEach [e] env = [(false, eval e env)] := by rfl) :
    Ev prog w A env (.Call (.Name (defAt 9).name np) [e] [] pos) h (IsS p) :=
  ev_calldef1 (i := 9) (P₁ := IsS (resp p back)) G (by simp) hg he (fun _ _ _ _ p => p) (fun f v h' hf x ⟨t, e⟩ => by subst e; exact cl_parse (G.up x) hf R hsz) hk hl (by decide +kernel) hst

noncomputable def frontsF (x : List Nat) (n : Nat) : List (List Nat) := (List.range n).map fun j => x.take j
theorem rep_len2 {c : Nat} {z l : List Nat} (hz : z.length ≤ 6) : (rep c z l).length ≤ 6 * l.length := rep_len hz (Nat.le_refl _) (Nat.le_refl _)
theorem law_6 {pm : Value} {c : Addr} {doc : Value} {L f : Addr} {hand size : Nat} {x : List Nat} (R : Room A 1) (Gl₀ : Gl mg mb s₀.heap)
    (X : St G s₀ s₀.heap (envAt 20 pm c doc L f) m cm ls s) (H : LwIn hand size x cm) (hx : x.length = size) (hs : size ≤ 8)
    (k : ∀ cm' ls' s', St G s₀ s₀.heap (envAt 20 pm c doc L f) m cm' ls' s' → LwIn hand size x cm' → HasL KS (frontsF x size) ls' (cm' (Str.ofString "fronts")) →
      wpAny (model prog w) A (execs ((defAt 20).body.drop 7) (envAt 20 pm c doc L f)) Q (fun _ _ => False) s') :
    Boxed (wpAny (model prog w) A (execs ((defAt 20).body.drop 6) (envAt 20 pm c doc L f)) Q (fun _ _ => False) s) := by
  constructor
  have Gl₁ : Gl mg mb s.heap := Gl₀.up X.keep
  refine x_assignCL (R := Pts KS (frontsF x size)) X (ev_compR (KB := KS) (fun j => x.take j) R.1 (by rfl) (ev_range1 Gl₁ rfl rfl (X.celI H.size)) (by omega) fun C h₂ m₂ j t hj hx₂ hn hv => ?_) (by rfl) (by rfl) (by rfl) fun D ys s₁ hp X₁ => ?_
  · have hlt : (x.take j).length ≤ 8 := by simp; omega
    have hld : (x.drop j).length ≤ 8 := by simp; omega
    have hr := rep_len2 (c := 34) (z := [34, 34]) (l := x.take j) (by decide)
    have hres : (resp (x.take j) (x.drop j)).length ≤ 1000 := by
      unfold resp
      simp only [List.length_append, List.length_cons, List.length_nil]
      omega
    refine ev_parse (p := x.take j) (back := x.drop j) (Gl₁.up hx₂) R rfl (Ev.eqS (ev_add_str (ev_add_str (ev_add_str (ev_str (l := [50, 53, 55, 32, 34])) (ev_replaceC (ev_to (X.subS hx₂ H.word) (ev_local hn hv (by rfl) (by rfl)).isI (by omega)) (a := [34]) (b := [34, 34]) (by decide) (by decide) (by decide) (by omega) (by decide) (replace_one' 34 [34, 34] (x.take j))) (by simp only [List.length_cons, List.length_nil]; omega))
      (ev_str (l := [34, 32])) (by simp only [List.length_append, List.length_cons, List.length_nil]; omega)) (ev_from (X.subS hx₂ H.word) (ev_local hn hv (by rfl) (by rfl)).isI (by omega)) (by simp only [List.length_append, List.length_cons, List.length_nil]; omega)) ?_) hres
    unfold resp
    simp only [List.append_assoc]
  · exact k _ _ s₁ X₁ ⟨H.hand, H.size, H.word⟩ (HasL.first hp)
end
end Mine

end

section
open PySem PySem.W PyProof.Rows PySem.Spec
namespace Mine
/-! strip on what the law makes -/
noncomputable def tokF (x : List Nat) : List (List Nat) := x.map fun c => if c = 34 then [92, 34] else [c]
theorem tokF_flat (x : List Nat) : (tokF x).flatten = rep 34 [92, 34] x := by
  unfold tokF rep
  rw [List.flatMap_def]
theorem tokF_ok {x : List Nat} (h : 92 ∉ x) : ∀ t ∈ tokF x, (∃ c, c ≠ 92 ∧ t = [c]) ∨ ∃ c, t = [92, c] := by
  intro t ht
  unfold tokF at ht
  obtain ⟨c, hc, rfl⟩ := List.mem_map.mp ht
  by_cases h34 : c = 34
  · rw [if_pos h34]; exact .inr ⟨34, rfl⟩
  · rw [if_neg h34]; exact .inl ⟨c, fun e => h (e ▸ hc), rfl⟩
theorem tokF_not {x : List Nat} : ∀ t ∈ tokF x, t ≠ [34] := by
  intro t ht
  unfold tokF at ht
  obtain ⟨c, hc, rfl⟩ := List.mem_map.mp ht
  split
  · simp
  · rename_i h; simpa using h
theorem itsF_append (A B : List (List Nat)) : ∀ i, itsF (A ++ B) i = itsF A i ++ itsF B (i + A.flatten.length) := by
  induction A with
  | nil => intro i; simp [itsF]
  | cons a r ih =>
    intro i
    show (i + a.length - 1, a) :: itsF (r ++ B) (i + a.length) = _
    rw [ih]
    simp only [List.flatten_cons, List.length_append, itsF, List.cons_append]
    rw [Nat.add_assoc]
theorem st_quiet (l : List Nat) (z : SState) : ∀ (T : List (List Nat)) (i : Nat), (∀ t ∈ T, t ≠ [34]) → (itsF T i).foldl (stStep l) z = z
  | [], _, _ => rfl
  | t :: r, i, h => by
    show (itsF r (i + t.length)).foldl (stStep l) (stStep l z (i + t.length - 1, t)) = z
    have : stStep l z (i + t.length - 1, t) = z := by unfold stStep; rw [if_neg (h t List.mem_cons_self)]
    rw [this]
    exact st_quiet l z r _ fun t ht => h t (List.mem_cons_of_mem _ ht)
/-- quoted name, then more -/
theorem strip_hidden (a b : List Nat) : stripF ([34] ++ rep 34 [92, 34] a ++ [34] ++ rep 34 [92, 34] b) ([34] :: (tokF a ++ [34] :: tokF b)) = rep 34 [92, 34] b := by
  unfold stripF
  generalize hl : [34] ++ rep 34 [92, 34] a ++ [34] ++ rep 34 [92, 34] b = l
  have hlen : l.length = (rep 34 [92, 34] a).length + 2 + (rep 34 [92, 34] b).length := by rw [← hl]; simp only [List.length_append, List.length_cons, List.length_nil]; omega
  have hdrop : l.drop ((rep 34 [92, 34] a).length + 2) = rep 34 [92, 34] b := by
    rw [← hl]
    have : ([34] ++ rep 34 [92, 34] a ++ [34]).length = (rep 34 [92, 34] a).length + 2 := by simp only [List.length_append, List.length_cons, List.length_nil]; omega
    rw [← this]; exact List.drop_left
  have h1 : itsF ([34] :: (tokF a ++ [34] :: tokF b)) 0 = (0, [34]) :: (itsF (tokF a) 1 ++ ((1 + (rep 34 [92, 34] a).length, [34]) :: itsF (tokF b) (1 + (rep 34 [92, 34] a).length + 1))) := by
    show (0 + 1 - 1, [34]) :: itsF (tokF a ++ [34] :: tokF b) (0 + 1) = _
    rw [itsF_append, tokF_flat]
    rfl
  rw [h1, List.foldl_cons, List.foldl_append, List.foldl_cons, st_quiet l _ (tokF a) 1 tokF_not, st_quiet l _ (tokF b) _ tokF_not]
  have h2 : stStep l (stStep l (0, none, []) (0, [34])) (1 + (rep 34 [92, 34] a).length, [34]) = (1 + (rep 34 [92, 34] a).length + 1, none, []) := rfl
  rw [h2]
  dsimp only
  rw [show 1 + (rep 34 [92, 34] a).length + 1 = (rep 34 [92, 34] a).length + 2 by omega]
  split
  · rw [hdrop]; simp
  · have : (rep 34 [92, 34] b).length = 0 := by omega
    rw [List.length_eq_zero_iff.mp this]; rfl
/-- a quote that is never closed -/
theorem strip_bare (a : List Nat) : stripF ([34] ++ rep 34 [92, 34] a) ([34] :: tokF a) = [34] ++ rep 34 [92, 34] a := by
  unfold stripF
  generalize hl : [34] ++ rep 34 [92, 34] a = l
  have h1 : itsF ([34] :: tokF a) 0 = (0, [34]) :: itsF (tokF a) 1 := rfl
  rw [h1, List.foldl_cons, st_quiet l _ (tokF a) 1 tokF_not]
  have h2 : stStep l (0, none, []) (0, [34]) = (0, some 0, []) := rfl
  rw [h2]
  dsimp only
  have : 0 < l.length := by rw [← hl]; simp
  rw [if_pos this]; simp

section
variable {prog : Program} {w : World} {A : Around} {env : Env} {s : Shared} {h : Heap} {pos : Pos} {mg mb : Str → Option Value}
variable {s₀ s' : Shared} {g : Heap} {m cm : Str → Option Value} {ls : List (Addr × List Value)} {Q : Flow → Shared → Prop} {E : Value → Shared → Prop}
/-- the call of strip in a frame -/
theorem strip_call {np : Pos} {e : Expr} {l : List Nat} {T : List (List Nat)} (X : St (Bares s₀.gens) s₀ g env m cm ls s) (G : Gl mg mb s.heap) (R : Room A 1) (hg : env.globals = mainGlobals) (he : Ev prog w A env e s.heap (IsS l))
    (hsz : l.length ≤ 1000) (h34 : 34 ∈ l) (hl : l = T.flatten) (hn : T.length ≤ 900) (hT : ∀ t ∈ T, (∃ c, c ≠ 92 ∧ t = [c]) ∨ ∃ c, t = [92, c])
    (hk : env.scope.kind = .function) (hlk : env.kindOf (defAt 5).name = some .globalImplicit) (hst : starEach [e] env = [(false, eval e env)]) :
    wpAny (model prog w) A (eval (.Call (.Name (defAt 5).name np) [e] [] pos) env) (fun y s₂ => St (Bares s₀.gens) s₀ g env m cm ls s₂ ∧ KS (stripF l T) y) (fun _ _ => False) s := by
  obtain ⟨f, o, pm, c, doc, h1, h2, h3, h4⟩ := G.fn 5 (by simp)
  refine wpAny_Call_NameR ((ev_global (hg ▸ G.g) h1 hk hlk (by decide +kernel)).use (Ext.refl _) X.toks fun v s₁ k₁ x₁ t₁ p => ?_)
  cases (show v = .ref f from p)
  refine callWith_def h3 (args_more he args_none (fun _ _ _ _ p => p) hst pos s₁ _ x₁ t₁ fun vs s₂ k₂ x₂ t₂ r => ⟨x₂ _ _ h2, ?_⟩) hst
  obtain ⟨v, vs', e1, ⟨t, e2⟩, e3⟩ := r
  subst e1 e2 e3
  have X₂ := (X.kept k₁ t₁).kept k₂ t₂
  refine wpAny_mono (cl_strip (G.up x₂) h1 R hsz h34 hl hn hT s₂ (Ext.refl _) t₂) (fun y s₃ h₃ => ?_) fun _ _ h => h
  obtain ⟨⟨hp, tk, gs, rfl, hx, hb, ht⟩, hy⟩ := h₃
  obtain ⟨h₀, tk₀, gs₀, e₀, hg₀⟩ := X₂.same
  refine ⟨X₂.moved (W := []) (fun b o _ e => hx b o e) ht (fun hall => ?_) (by simp) (fun _ _ _ => by simp) (fun _ h => nomatch h) (fun _ _ => by simp), hy⟩
  rw [e₀] at hb
  exact hb (hg₀ hall)
end
end Mine

end

section
open PySem PySem.W PyProof.Rows PySem.Spec
namespace Mine
noncomputable def backsF (x : List Nat) (n : Nat) : List (List Nat) := (List.range n).map fun j => rep 34 [92, 34] (x.drop j)
section
variable {prog : Program} {w : World} {A : Around} {env : Env} {s : Shared} {h : Heap} {pos : Pos} {mg mb : Str → Option Value}
variable {G : Array GenState → Prop} {s₀ s' : Shared} {g : Heap} {m cm : Str → Option Value} {ls : List (Addr × List Value)} {Q : Flow → Shared → Prop} {E : Value → Shared → Prop}
theorem x_assignCLF {R : List Value → Prop} {x : Str} {c : Addr} {px : Pos} {e : Expr} {rest : List Stmt} (X : St G s₀ g env m cm ls s) (H : Ev prog w A env e s.heap (fun v h' => ∃ D ys, v = .ref D ∧ h'.PlainList D ys.toArray ∧ R ys ∧ s.heap.get? D = none)) (hl : env.kindOf x = some .cell) (hk : env.scope.kind = .function) (hc : env.cells.lookup x = some c)
    (k : ∀ D ys s', R ys → g.get? D = none → (∀ p ∈ ls, p.1 ≠ D) → St G s₀ g env m (upd cm x (.ref D)) ((D, ys) :: ls) s' → wpAny (model prog w) A (execs rest env) Q E s') (hs : swapsWith e (some (.Name x px)) pos.line env = pure false := by rfl) :
    wpAny (model prog w) A (execs (.Assign [.Name x px] e pos :: rest) env) Q E s :=
  wpAny_execs_cons (wpAny_Assign_Name (H.use (Ext.refl _) X.toks fun v s₁ k₁ _ t₁ ⟨D, ys, e, hl', r, hD⟩ => by
    subst e
    refine store_cell ((X.kept k₁ t₁).more hl') hl hk hc fun s' X' => k D ys s' r ?_ (fun p hp e => ?_) X'
    · cases e : g.get? D with
      | none => rfl
      | some o => have := X.keep _ _ e; rw [hD] at this; cases this
    · obtain ⟨o, e', _⟩ := (X.lists p hp).isList
      rw [e, hD] at e'; cases e') hs)

theorem law_7 {pm : Value} {c : Addr} {doc : Value} {L f : Addr} {hand size : Nat} {x : List Nat} (R : Room A 1) (Gl₀ : Gl mg mb s₀.heap)
    (X : St (Bares s₀.gens) s₀ s₀.heap (envAt 20 pm c doc L f) m cm ls s) (H : LwIn hand size x cm) (hx : x.length = size) (hs : size ≤ 8) (h92 : 92 ∉ x) (HF : HasL KS (frontsF x size) ls (cm (Str.ofString "fronts")))
    (k : ∀ m' cm' ls' s', St (Bares s₀.gens) s₀ s₀.heap (envAt 20 pm c doc L f) m' cm' ls' s' → LwIn hand size x cm' → HasL KS (frontsF x size) ls' (cm' (Str.ofString "fronts")) → HasL KS (backsF x size) ls' (cm' (Str.ofString "backs")) →
      wpAny (model prog w) A (execs ((defAt 20).body.drop 9) (envAt 20 pm c doc L f)) Q (fun _ _ => False) s') :
    Boxed (wpAny (model prog w) A (execs ((defAt 20).body.drop 7) (envAt 20 pm c doc L f)) Q (fun _ _ => False) s) := by
  constructor
  refine x_assignCLF (R := Pts KS []) X (ev_listF args_pn (by simp)) (by rfl) (by rfl) (by rfl) fun D ys s₁ hp hD hap X₁ => ?_
  have HF₁ : HasL KS (frontsF x size) ((D, ys) :: ls) (upd cm (Str.ofString "backs") (.ref D) (Str.ofString "fronts")) := by
    rw [upd_off (by decide)]; exact HF.more
  have H₁ : LwIn hand size x (upd cm (Str.ofString "backs") (.ref D)) := ⟨H.hand, H.size, H.word⟩
  have Gl₁ : Gl mg mb s₁.heap := Gl₀.up X₁.keep
  refine x_for (KA := KI) (as := upto 0 size) X₁ [D] (fun b hb => by rw [List.mem_singleton.mp hb]; exact hD) (fun b hb => by rw [List.mem_singleton.mp hb]; exact ⟨_, (X₁.lists (D, ys) List.mem_cons_self).isList⟩)
    (ev_range1 Gl₁ rfl rfl (X₁.celI H₁.size)) (fun v h' hx ⟨r, t, u, v', e, hr⟩ => by subst e; exact fsrc_range R.1 hr (by omega) (by omega)) (by rfl) (by rfl)
    (fun i m' cm' ls' => ∃ ysb, cm' = upd cm (Str.ofString "backs") (.ref D) ∧ ls' = (D, ysb) :: ls ∧ Pts KS ((backsF x size).take i) ysb) ⟨ys, rfl, rfl, hp⟩ ?_ ?_
  · rintro g' i a v m' cm' ls' s' E hg hgm hi' ⟨t, rfl⟩ ⟨ysb, rfl, rfl, hpb⟩ X₂
    obtain ⟨rfl, hi⟩ := range_at hi'
    have HF₂ : HasL KS (frontsF x size) ((D, ysb) :: ls) (upd cm (Str.ofString "backs") (.ref D) (Str.ofString "fronts")) := by
      rw [upd_off (by decide)]; exact HF.more
    have hfi : (frontsF x size)[i]? = some (x.take i) := by
      unfold frontsF
      rw [List.getElem?_map, List.getElem?_range hi]; rfl
    have hcut : ((0 : Int) + (i : Int)) = (i : Int) := by omega
    rw [hcut] at X₂
    have r1 := rep_len2 (c := 34) (z := [92, 34]) (l := x.take i) (by decide)
    have r2 := rep_len2 (c := 34) (z := [92, 34]) (l := x.drop i) (by decide)
    have l1 : (x.take i).length ≤ 8 := by simp; omega
    have l2 : (x.drop i).length ≤ 8 := by simp; omega
    refine x_assign (K := KS ([34] ++ rep 34 [92, 34] (x.take i) ++ [34])) X₂ (ev_add_str (ev_add_str ev_str (ev_replaceC (l := x.take i) (ev_item (K := KS) (i := (i : Int)) (X₂.celH HF₂) (X₂.locI ⟨t, by rfl⟩) (by omega) (by omega) (by rw [Int.toNat_natCast]; exact hfi)) (a := [34]) (b := [92, 34]) (by decide) (by decide) (by decide) (by omega) (by decide) (replace_one' 34 [92, 34] (x.take i))) (by simp only [List.length_cons, List.length_nil]; omega)) ev_str (by simp only [List.length_append, List.length_cons, List.length_nil]; omega)) (by rfl) (by rfl) fun y s₃ ⟨t₃, hv⟩ X₃ => ?_
    subst hv
    have Gl₃ : Gl mg mb s₃.heap := (Gl₀.up hg).up X₃.keep
    have hcell := X₃.cell (Str.ofString "backs") _ (mem_of_lookup (by rfl))
    rw [upd_at] at hcell
    refine x_append (K := KS (rep 34 [92, 34] (x.drop i))) X₃ (ev_cell hcell (by rfl) (by rfl) (by rfl)) (fun s₄ X₄ => ?_) (hgm D (by simp)) hap (by rw [hpb.1]; unfold backsF; simp; omega) fun y s₄ ky X₄ => ?_
    · refine wpAny_mono (strip_call (l := [34] ++ rep 34 [92, 34] (x.take i) ++ [34] ++ rep 34 [92, 34] (x.drop i)) (T := [34] :: (tokF (x.take i) ++ [34] :: tokF (x.drop i))) X₄ ((Gl₀.up hg).up X₄.keep) R rfl (ev_add_str (X₄.locS ⟨t₃, by rfl⟩) (ev_replaceC (ev_from (X₄.celS H₁.word) (X₄.locI ⟨t, by rfl⟩) (by omega)) (a := [34]) (b := [92, 34]) (by decide) (by decide) (by decide) (by omega) (by decide) (replace_one' 34 [92, 34] (x.drop i))) (by simp only [List.length_append, List.length_cons, List.length_nil]; omega))
        (by simp only [List.length_append, List.length_cons, List.length_nil]; omega) (by simp) ?_ (by unfold tokF; simp; omega) ?_ (by rfl) (by rfl) (by rfl)) (fun y s₅ h₅ => ⟨h₅.1, by have := h₅.2; rw [strip_hidden] at this; exact this⟩) fun _ _ h => h
      · simp only [List.flatten_cons, List.flatten_append, tokF_flat, List.append_assoc, List.cons_append, List.nil_append]
      · intro t ht
        rcases List.mem_cons.mp ht with rfl | ht
        · exact .inl ⟨34, by decide, rfl⟩
        · rcases List.mem_append.mp ht with ht | ht
          · exact tokF_ok (fun h => h92 (List.mem_of_mem_take h)) t ht
          · rcases List.mem_cons.mp ht with rfl | ht
            · exact .inl ⟨34, by decide, rfl⟩
            · exact tokF_ok (fun h => h92 (List.mem_of_mem_drop h)) t ht
    · refine x_nil ⟨_, _, _, ⟨_, rfl, rfl, ?_⟩, X₄⟩
      have hbi : (backsF x size)[i]? = some (rep 34 [92, 34] (x.drop i)) := by
        unfold backsF
        rw [List.getElem?_map, List.getElem?_range hi]; rfl
      rw [List.take_add_one, hbi]
      exact hpb.snoc ky
  · rintro m' cm' ls' s₂ ⟨ysb, rfl, rfl, hpb⟩ X₂
    rw [List.take_of_length_le (by unfold backsF upto; simp)] at hpb
    refine k _ _ _ s₂ X₂ H₁ ?_ ?_
    · rw [upd_off (by decide)]; exact HF.more
    · rw [upd_at]; exact HasL.first hpb
end
end Mine

end

section
open PySem PySem.W PyProof.Rows PySem.Spec
namespace Mine
noncomputable def leastsF (x : List Nat) (n : Nat) : List Int := (List.range n).map fun j => (leastF x j : Int)
noncomputable def periodsF (x : List Nat) : List Int := (upto 1 x.length).filter fun z => (x.drop z.toNat).isPrefixOf x
theorem tells_head {a got : List Nat} (ha : 46 ∉ a) (hl : a.length ≤ 900) (hg : got.length ≤ 1000) : Tells (a ++ [46, 46, 46]) got (a.isPrefixOf got) :=
  ⟨by simp; omega, hg, .inr ⟨[a, []], by simp [joinL], by simp, by simp, by simpa using ha, em_head a got⟩⟩
theorem tells_foot {b got : List Nat} (hb : 46 ∉ b) (hl : b.length ≤ 900) (hg : got.length ≤ 1000) : Tells ([46, 46, 46] ++ b) got (b.isSuffixOf got) :=
  ⟨by simp; omega, hg, .inr ⟨[[], b], by simp [joinL], by simp, by simp, by simpa using hb, em_foot b got⟩⟩
section
variable {prog : Program} {w : World} {A : Around} {env : Env} {s : Shared} {h : Heap} {pos : Pos} {mg mb : Str → Option Value}
variable {G : Array GenState → Prop} {s₀ s' : Shared} {g : Heap} {m cm : Str → Option Value} {ls : List (Addr × List Value)} {Q : Flow → Shared → Prop} {E : Value → Shared → Prop}
theorem x_compR {β : Type} {KB : β → Value → Prop} (f : Nat → β) {n : Nat} (hh : A.handled = none)
    {elt iter : Expr} {x y : Str} {px py spos : Pos} {scope : Scope} {cl : List (Str × Addr)} {rest : List Stmt} (X : St G s₀ g env m cm ls s)
    (hclos : closureFor scope env = pure cl) (hiter : Ev prog w A env iter s.heap (IsR 0 n)) (hn : n ≤ 100000)
    (helt : ∀ (C : Addr) (h₂ : Heap) (m₂ : Str → Option Value) (j : Nat) (t : Tok), j < n → Ext s.heap h₂ → h₂.Ns C m₂ → m₂ x = some (.int (j : Int) t) → Ev prog w A (compEnvC scope cl C env) elt h₂ (fun y _ => KB (f j) y))
    (k : ∀ D (ys : List Value) s', Pts KB ((List.range n).map f) ys → St G s₀ g env (upd m y (.ref D)) cm ((D, ys) :: ls) s' → wpAny (model prog w) A (execs rest env) Q E s')
    (hk : env.scope.kind = .function) (hy : env.kindOf y = some .local)
    (hsw : swapsWith (.ListComp elt [⟨.Name x px, iter, [], 0⟩] scope pos) (some (.Name y py)) spos.line env = pure true := by rfl)
    (hcell : ∀ y ∈ scope.names, y.2 ≠ .cell := by decide) (hkind : scope.kind = .function := by rfl)
    (hnames : ∀ y ∈ scope.names, y.2 = .local → scope.names.lookup y.1 = some .local := by decide) (hxl : scope.names.lookup x = some .local := by rfl)
    (hs : ∀ x, foldedSetIterable iter env x = pure x := by intro _; rfl) :
    wpAny (model prog w) A (execs (.Assign [.Name y py] (.ListComp elt [⟨.Name x px, iter, [], 0⟩] scope pos) spos :: rest) env) Q E s := by
  refine x_comp (KA := KI) (KB := KB) fn_I (as := upto 0 n) (fun _ => true) (fun z => f z.toNat) X hclos hiter (fun v h' hx ⟨r, t, u, v', e, hr⟩ => by subst e; exact src_range hh hr (by omega) (by omega)) (by simp [upto]; omega)
    (fun C h₂ m₂ a v _ _ _ _ _ _ => .inl ⟨rfl, rfl⟩) (fun C h₂ m₂ a v ha ka _ hx₂ hn hv _ => ?_) (fun D ys s' hp X' => k D ys s' ?_ X') hk hy hsw hcell hkind hnames hxl hs
  · obtain ⟨t, rfl⟩ := ka
    obtain ⟨j, hj, rfl⟩ := mem_upto0 ha
    rw [Int.toNat_natCast]
    exact helt C h₂ m₂ j t hj hx₂ hn hv
  · rw [List.filter_eq_self.mpr fun _ _ => rfl, upto_map] at hp
    simp only [Int.toNat_natCast] at hp
    exact hp
theorem ev_least {np : Pos} {e e' e'' : Expr} {x : List Nat} {cut : Nat} (G : Gl mg mb h) (R : Room A 2) (hg : env.globals = mainGlobals) (he : Ev prog w A env e h (IsS (x.take cut))) (he' : Ev prog w A env e' h (IsS (x.drop cut))) (he'' : Ev prog w A env e'' h (IsS x))
    (hcut : cut ≤ x.length) (hsz : x.length ≤ 100) (hdot : 46 ∉ x)
    (hk : env.scope.kind = .function) (hl : env.kindOf (defAt 18).name = some .globalImplicit)
    (hst : starEach [e, e', e''] env = (false, eval e env) :: starEach [e', e''] env) (hst' : starEach [e', e''] env = (false, eval e' env) :: starEach [e''] env) (hst'' : starEach [e''] env = [(false, eval e'' env)]) :
    Ev prog w A env (.Call (.Name (defAt 18).name np) [e, e', e''] [] pos) h (IsI (leastF x cut)) :=
  ev_calldef3 (i := 18) (P₁ := IsS (x.take cut)) (P₂ := IsS (x.drop cut)) (P₃ := IsS x) G (by simp) hg he he' he'' (fun _ _ _ _ p => p) (fun _ _ _ _ p => p) (fun _ _ _ _ p => p)
    (fun f v v' v'' h' hf hx ⟨t, e1⟩ ⟨u, e2⟩ ⟨z, e3⟩ => by subst e1 e2 e3; exact cl_least (G.up hx) hf R hcut hsz hdot) hk hl (by decide +kernel) hst hst' hst''

theorem law_9 {pm : Value} {c : Addr} {doc : Value} {L f : Addr} {hand size : Nat} {x : List Nat} (R : Room A 2) (Gl₀ : Gl mg mb s₀.heap)
    (X : St G s₀ s₀.heap (envAt 20 pm c doc L f) m cm ls s) (H : LwIn hand size x cm) (hx : x.length = size) (hs : size ≤ 8) (h92 : 92 ∉ x) (h46 : 46 ∉ x) (HF : HasL KS (frontsF x size) ls (cm (Str.ofString "fronts"))) (HB : HasL KS (backsF x size) ls (cm (Str.ofString "backs")))
    (k : ∀ m' ls' s', St G s₀ s₀.heap (envAt 20 pm c doc L f) m' cm ls' s' → (∀ p ∈ ls, p ∈ ls') → HasL KI (leastsF x size) ls' (m' (Str.ofString "leasts")) →
      wpAny (model prog w) A (execs ((defAt 20).body.drop 10) (envAt 20 pm c doc L f)) Q (fun _ _ => False) s') :
    Boxed (wpAny (model prog w) A (execs ((defAt 20).body.drop 9) (envAt 20 pm c doc L f)) Q (fun _ _ => False) s) := by
  constructor
  have Gl₁ : Gl mg mb s.heap := Gl₀.up X.keep
  refine x_compR (KB := KI) (fun j => (leastF x j : Int)) R.1 X (by rfl) (ev_range1 Gl₁ rfl rfl (X.celI H.size)) (by omega) (fun C h₂ m₂ j t hj hx₂ hn hv => ?_) (fun D ys s₁ hp X₁ => ?_) (by rfl) (by rfl)
  · have hfj : (frontsF x size)[j]? = some (x.take j) := by
      unfold frontsF; rw [List.getElem?_map, List.getElem?_range hj]; rfl
    have hbj : (backsF x size)[j]? = some (rep 34 [92, 34] (x.drop j)) := by
      unfold backsF; rw [List.getElem?_map, List.getElem?_range hj]; rfl
    have r2 := rep_len2 (c := 34) (z := [92, 34]) (l := x.drop j) (by decide)
    have l2 : (x.drop j).length ≤ 8 := by simp; omega
    exact ev_least (Gl₁.up hx₂) R rfl (ev_item (K := KS) (i := (j : Int)) (X.subH hx₂ HF) (ev_local hn hv (by rfl) (by rfl)).isI (by omega) (by omega) (by rw [Int.toNat_natCast]; exact hfj))
      (ev_replaceC (l := rep 34 [92, 34] (x.drop j)) (ev_item (K := KS) (i := (j : Int)) (X.subH hx₂ HB) (ev_local hn hv (by rfl) (by rfl)).isI (by omega) (by omega) (by rw [Int.toNat_natCast]; exact hbj)) (a := [92, 34]) (b := [34]) (by decide) (by decide) (by decide) (by omega) (by decide) (replace_back 34 92 [92, 34] rfl (x.drop j) (fun h => h92 (List.mem_of_mem_drop h))))
      (X.subS hx₂ H.word) (by omega) (by omega) h46 (by rfl) (by rfl) (by rfl) (by rfl) (by rfl)
  · refine k _ _ s₁ X₁ (fun p hp => List.mem_cons_of_mem _ hp) ?_
    rw [upd_at]; exact HasL.first hp

theorem law_10 {pm : Value} {c : Addr} {doc : Value} {L f : Addr} {hand size : Nat} {x : List Nat} (R : Room A 2) (Gl₀ : Gl mg mb s₀.heap)
    (X : St G s₀ s₀.heap (envAt 20 pm c doc L f) m cm ls s) (H : LwIn hand size x cm) (hx : x.length = size) (hs : size ≤ 8) (h46 : 46 ∉ x)
    (hper : ((upto 1 x.length).filter fun z => (x.take (x.length - z.toNat)).isSuffixOf x) = periodsF x)
    (k : ∀ D ys s', St G s₀ s₀.heap (envAt 20 pm c doc L f) (upd m (Str.ofString "periods") (.ref D)) cm ((D, ys) :: ls) s' → Pts KI (periodsF x) ys →
      wpAny (model prog w) A (execs ((defAt 20).body.drop 12) (envAt 20 pm c doc L f)) Q (fun _ _ => False) s') :
    Boxed (wpAny (model prog w) A (execs ((defAt 20).body.drop 10) (envAt 20 pm c doc L f)) Q (fun _ _ => False) s) := by
  constructor
  have Gl₁ : Gl mg mb s.heap := Gl₀.up X.keep
  have R1 : Room A 1 := R.less (by omega)
  refine x_comp (KA := KI) (KB := KI) fn_I (as := upto 1 x.length) (fun z => (x.drop z.toNat).isPrefixOf x) (fun z => z) X (by rfl) (ev_range2 (a := 1) (b := ((size + 1 : Nat) : Int)) Gl₁ rfl rfl ev_int (Ev.eqI (ev_add (X.celI H.size) ev_int) (by omega))) (fun v h' hx' ⟨r, t, u, v', e, hr⟩ => by subst e; exact src_range R.1 hr (by omega) (by omega)) (by simp [upto]; omega)
    (fun C h₂ m₂ a v ha ka hx₂ hn hv _ => ?_) (fun C h₂ m₂ a v ha ka _ hx₂ hn hv _ => ?_) (fun D ys s₁ hp X₁ => ?_) (by rfl) (by rfl)
  · obtain ⟨t, rfl⟩ := ka
    obtain ⟨j, hj, rfl⟩ := List.mem_map.mp ha
    have e : (1 : Int) + (j : Int) = ((j + 1 : Nat) : Int) := by omega
    rw [e] at hv ⊢
    rw [Int.toNat_natCast]
    exact .inr ⟨_, rfl, tr_bool (ev_em_tells (Gl₁.up hx₂) R1 rfl (ev_add_str (ev_from (X.subS hx₂ H.word) (ev_local hn hv (by rfl) (by rfl)).isI (by omega)) ev_str (by simp; omega)) (X.subS hx₂ H.word) (tells_head (fun h => h46 (List.mem_of_mem_drop h)) (by simp; omega) (by omega)))⟩
  · obtain ⟨t, rfl⟩ := ka
    exact (ev_local hn hv (by rfl) (by rfl)).isI
  · rw [List.map_id'] at hp
    have hp' : Pts KI (periodsF x) ys := hp
    have Gl₂ : Gl mg mb s₁.heap := Gl₀.up X₁.keep
    refine x_skip X₁ (Tr.eq (b := (periodsF x != ((upto 1 x.length).filter fun z => (x.take (x.length - z.toNat)).isSuffixOf x).map fun z => z)) (by rw [List.map_id', hper]; simp) (tr_cmp (X₁.locL (by rfl) List.mem_cons_self hp')
      (ev_comp (KA := KI) (KB := KI) fn_I (fun z => (x.take (x.length - z.toNat)).isSuffixOf x) (fun z => z) (as := upto 1 x.length) (by rfl) (by decide) (by rfl) (by decide) (by rfl) (ev_range2 (a := 1) (b := ((size + 1 : Nat) : Int)) Gl₂ rfl rfl ev_int (Ev.eqI (ev_add (X₁.celI H.size) ev_int) (by omega))) (fun v h' hx' ⟨r, t, u, v', e, hr⟩ => by subst e; exact src_range R.1 hr (by omega) (by omega)) (by simp [upto]; omega)
        (fun C h₂ m₂ a v ha ka hx₂ hn hv _ => ?_) (fun C h₂ m₂ a v ha ka _ hx₂ hn hv _ => ?_)) (fun _ _ _ x p => p.stay x) (cmp_ne_list eqK_I R.units))) fun s₂ X₂ => k D ys s₂ X₂ hp'
    · obtain ⟨t, rfl⟩ := ka
      obtain ⟨j, hj, rfl⟩ := List.mem_map.mp ha
      have hj := List.mem_range.mp hj
      have e : (1 : Int) + (j : Int) = ((j + 1 : Nat) : Int) := by omega
      rw [e] at hv ⊢
      rw [Int.toNat_natCast]
      exact .inr ⟨_, rfl, tr_bool (ev_em_tells (Gl₂.up hx₂) R1 rfl (ev_add_str ev_str (ev_to (n := x.length - (j + 1)) (X₁.subS hx₂ H.word) (Ev.eqI (ev_sub (X₁.subI hx₂ H.size) (ev_local hn hv (by rfl) (by rfl)).isI) (by omega)) (by omega)) (by simp; omega)) (X₁.subS hx₂ H.word) (tells_foot (fun h => h46 (List.mem_of_mem_take h)) (by simp; omega) (by omega)))⟩
    · obtain ⟨t, rfl⟩ := ka
      exact (ev_local hn hv (by rfl) (by rfl)).isI
end
end Mine

end

section
open PySem PySem.W PyProof.Rows PySem.Spec
namespace Mine
noncomputable def endsF (x : List Nat) (n : Nat) : List (List Nat) := (List.range n).map fun j => x.drop j
noncomputable def bestS (as : List (List Nat)) : Nat := argBest (fun i j => decide (as.getD j [] < as.getD i [])) (as.length - 1)
noncomputable def topF (as : List (List Nat)) : Nat := as.idxOf (as.getD (bestS as) [])
noncomputable def placeF (hand : Nat) (x : List Nat) (n : Nat) : Nat := max (topF (endsF x n)) (topF ((endsF x n).map (writ hand)))
section
variable {prog : Program} {w : World} {A : Around} {env : Env} {s : Shared} {h : Heap} {pos : Pos} {mg mb : Str → Option Value}
variable {G : Array GenState → Prop} {s₀ s' : Shared} {g : Heap} {m cm : Str → Option Value} {ls : List (Addr × List Value)} {Q : Flow → Shared → Prop} {E : Value → Shared → Prop}
theorem ev_maxL {α : Type} {K : α → Value → Prop} {np : Pos} {e : Expr} {as : List α} (bt : Nat → Nat → Bool) (hh : A.handled = none) (G : Gl mg mb h) (hg : env.globals = mainGlobals) (hb : env.builtins = builtinsNs) (he : Ev prog w A env e h (IsL (Pts K as))) (hne : as ≠ [])
    (hcmp : CmpOf prog w A.in1 .Gt (fun i v => ∃ a, as[i]? = some a ∧ K a v) bt)
    (hk : env.scope.kind = .function := by rfl) (hl : env.kindOf (Str.ofString "max") = some .globalImplicit := by rfl) (hst : starEach [e] env = [(false, eval e env)] := by rfl) :
    Ev prog w A env (.Call (.Name (Str.ofString "max") np) [e] [] pos) h (fun y _ => ∃ a, as[argBest bt (as.length - 1)]? = some a ∧ K a y) :=
  ev_call_builtin (id := "max") (ev_builtin (hg ▸ G.g) (G.bi "max" (by simp)).1 (hb ▸ G.b) ((G.bi "max" (by simp)).2.trans (by rfl)) hk hl) (args_more he args_none (fun _ _ _ x p => p.stay x) hst)
    (fun vs h' x ⟨v, vs', e1, p, e3⟩ => by subst e1 e3; exact cl_max_list bt hh p hne hcmp) hst
theorem ev_top {np : Pos} {o e : Expr} {apos : Pos} {as : List (List Nat)} (hh : A.handled = none) (G : Gl mg mb h) (hg : env.globals = mainGlobals) (hb : env.builtins = builtinsNs) (ho : Ev prog w A env o h (LS as)) (he : Ev prog w A env e h (LS as)) (hne : as ≠ []) (hsz : as.length ≤ 1000)
    (hbase : attributeBase o (Str.ofString "index") env (eval o env) = eval o env) (hline : (apos.endLine == pos.line) = true) (hk : env.scope.kind = .function) (hl : env.kindOf (Str.ofString "max") = some .globalImplicit) (hst : starEach [e] env = [(false, eval e env)])
    (hst' : ∀ cp, starEach [.Call (.Name (Str.ofString "max") np) [e] [] cp] env = [(false, eval (.Call (.Name (Str.ofString "max") np) [e] [] cp) env)]) {cp : Pos} :
    Ev prog w A env (.Call (.Attribute o (Str.ofString "index") apos) [.Call (.Name (Str.ofString "max") np) [e] [] cp] [] pos) h (IsI (topF as)) := by
  have hm := ev_maxL (pos := cp) (np := np) (as := as) (K := KS) (fun i j => decide (as.getD j [] < as.getD i [])) hh G hg hb he hne (cmp_gt_S prog w A.in1 as) hk hl hst
  refine ev_method (T := "list") (P₁ := LS as) ho (fun _ _ _ x p => p.stay x) (args_more hm args_none (fun _ _ _ _ p => p) (hst' cp)) (by simp) F.plainAttrs_list F.slot_list_index rfl
    (fun v s p => ⟨list_TypeIs v s p, fun a ea => by
      obtain ⟨D, ys, e, ⟨n, hl⟩, _⟩ := p
      subst e; cases ea; exact ⟨_, hl, rfl⟩⟩)
    (fun v vs h' x p r => ?_) hbase hline (by rw [hst' cp]; rfl) ⟨_, [], rfl, hst' cp⟩
  obtain ⟨_, _, rfl, ⟨a, ea, t, rfl⟩, rfl⟩ := r
  have ha : as.getD (bestS as) [] = a := by
    rw [List.getD_eq_getElem?_getD]; unfold bestS; rw [ea]; rfl
  have hmem : a ∈ as := List.mem_of_getElem? ea
  have hj : as[topF as]? = some a := by
    unfold topF; rw [ha]
    rw [List.getElem?_eq_getElem (List.idxOf_lt_length_of_mem hmem), List.getElem_idxOf]
  refine cl_index p hj (fun q hq e => ?_) (by omega)
  unfold topF at hq
  rw [ha] at hq
  have hql : q < as.length := (List.getElem?_eq_some_iff.mp e).1
  have := List.not_of_lt_findIdx (p := fun y => y == a) (xs := as) (i := q) hq
  rw [(List.getElem?_eq_some_iff.mp e).2] at this
  simp at this

theorem law_12 {pm : Value} {c : Addr} {doc : Value} {L f : Addr} {hand size : Nat} {x : List Nat} (R : Room A 3) (Gl₀ : Gl mg mb s₀.heap)
    (X : St G s₀ s₀.heap (envAt 20 pm c doc L f) m cm ls s) (H : LwIn hand size x cm) (hx : x.length = size) (hs1 : 0 < size) (hs : size ≤ 8)
    (k : ∀ m' ls' s', St G s₀ s₀.heap (envAt 20 pm c doc L f) m' cm ls' s' → (∀ p ∈ ls, p ∈ ls') → (∀ y, y ≠ Str.ofString "ends" → y ≠ Str.ofString "writings" → y ≠ Str.ofString "place" → m' y = m y) →
      HasL KS (endsF x size) ls' (m' (Str.ofString "ends")) → HasL KS ((endsF x size).map (writ hand)) ls' (m' (Str.ofString "writings")) → (∃ t, m' (Str.ofString "place") = some (.int ((placeF hand x size : Nat) : Int) t)) →
      wpAny (model prog w) A (execs ((defAt 20).body.drop 15) (envAt 20 pm c doc L f)) Q (fun _ _ => False) s') :
    Boxed (wpAny (model prog w) A (execs ((defAt 20).body.drop 12) (envAt 20 pm c doc L f)) Q (fun _ _ => False) s) := by
  constructor
  have Gl₁ : Gl mg mb s.heap := Gl₀.up X.keep
  refine x_compR (KB := KS) (fun j => x.drop j) R.1 X (by rfl) (ev_range1 Gl₁ rfl rfl (X.celI H.size)) (by omega) (fun C h₂ m₂ j t hj hx₂ hn hv => ?_) (fun D ys s₁ hp X₁ => ?_) (by rfl) (by rfl)
  · exact ev_from (X.subS hx₂ H.word) (ev_local hn hv (by rfl) (by rfl)).isI (by omega)
  have hp' : Pts KS (endsF x size) ys := hp
  have Gl₂ : Gl mg mb s₁.heap := Gl₀.up X₁.keep
  have hel : (endsF x size).length = size := by unfold endsF; simp
  refine x_comp (KA := KS) (KB := KS) fn_S (as := endsF x size) (fun _ => true) (fun l => writ hand l) X₁ (by rfl) (X₁.locL (R := Pts KS (endsF x size)) (by rfl) List.mem_cons_self hp') (fun v h' hx p => src_list R.1 p) (by omega)
    (fun C h₂ m₂ a v ha ka hx₂ hn hv _ => .inl ⟨rfl, rfl⟩) (fun C h₂ m₂ a v ha ka _ hx₂ hn hv _ => ?_) (fun D' ys' s₂ hp2 X₂ => ?_) (by rfl) (by rfl)
  · obtain ⟨t, rfl⟩ := ka
    unfold endsF at ha
    obtain ⟨j, hj, rfl⟩ := List.mem_map.mp ha
    exact ev_calldef2 (i := 16) (P₁ := IsI (hand : Int)) (P₂ := IsS (x.drop j)) (Gl₂.up hx₂) (by simp) rfl (X₁.subI hx₂ H.hand) (ev_local hn hv (by rfl) (by rfl)).isS (fun _ _ _ _ p => p) (fun _ _ _ _ p => p)
      (fun f v v' h' hf hx3 ⟨t, e1⟩ ⟨u, e2⟩ => by subst e1 e2; exact cl_writ ((Gl₂.up hx₂).up hx3) hf (R.less (by omega)) (by simp; omega))
  rw [List.filter_eq_self.mpr fun _ _ => rfl] at hp2
  have hp2' : Pts KS ((endsF x size).map (writ hand)) ys' := hp2
  have Gl₃ : Gl mg mb s₂.heap := Gl₀.up X₂.keep
  have hne : endsF x size ≠ [] := by intro e; rw [e] at hel; simp at hel; omega
  refine x_assign (K := KI ((placeF hand x size : Nat) : Int)) X₂ (Ev.eqI (ev_max2 R.1 Gl₃ rfl rfl
    (ev_top (as := endsF x size) R.1 Gl₃ rfl rfl (X₂.locL (by rfl) (List.mem_cons_of_mem _ List.mem_cons_self) hp') (X₂.locL (by rfl) (List.mem_cons_of_mem _ List.mem_cons_self) hp') hne (by omega) (by rfl) (by rfl) (by rfl) (by rfl) (by rfl) (by intro _; rfl))
    (ev_top (as := (endsF x size).map (writ hand)) R.1 Gl₃ rfl rfl (X₂.locL (by rfl) List.mem_cons_self hp2') (X₂.locL (by rfl) List.mem_cons_self hp2') (by simpa using hne) (by simp; omega) (by rfl) (by rfl) (by rfl) (by rfl) (by rfl) (by intro _; rfl))) (by
      unfold placeF; omega)) (by rfl) (by rfl) fun y s₃ ⟨t, hv⟩ X₃ => ?_
  subst hv
  refine k _ _ s₃ X₃ (fun p hp => List.mem_cons_of_mem _ (List.mem_cons_of_mem _ hp)) (fun y h1 h2 h3 => ?_) ⟨D, ys, by rfl, List.mem_cons_of_mem _ List.mem_cons_self, hp'⟩ ⟨D', ys', by rfl, List.mem_cons_self, hp2'⟩ ⟨t, by rfl⟩
  unfold upd
  rw [if_neg h3, if_neg h2, if_neg h1]
end
end Mine

end

section
open PySem PySem.W PyProof.Rows PySem.Spec
namespace Mine
noncomputable def maxF (l : List Int) : Int := l.getD (argBest (fun i j => decide (l.getD j 0 < l.getD i 0)) (l.length - 1)) 0
/-- what the frame still holds -/
structure LwM (hand size : Nat) (x : List Nat) (ls : List (Addr × List Value)) (m : Str → Option Value) : Prop where
  leasts : HasL KI (leastsF x size) ls (m (Str.ofString "leasts"))
  periods : HasL KI (periodsF x) ls (m (Str.ofString "periods"))
  ends : HasL KS (endsF x size) ls (m (Str.ofString "ends"))
  writings : HasL KS ((endsF x size).map (writ hand)) ls (m (Str.ofString "writings"))
  place : ∃ t, m (Str.ofString "place") = some (.int ((placeF hand x size : Nat) : Int) t)
theorem LwM.same {hand size : Nat} {x : List Nat} {ls : List (Addr × List Value)} {m m' : Str → Option Value} (h : LwM hand size x ls m)
    (e : ∀ y ∈ [Str.ofString "leasts", Str.ofString "periods", Str.ofString "ends", Str.ofString "writings", Str.ofString "place"], m' y = m y) : LwM hand size x ls m' :=
  ⟨by rw [e _ (by simp)]; exact h.leasts, by rw [e _ (by simp)]; exact h.periods, by rw [e _ (by simp)]; exact h.ends, by rw [e _ (by simp)]; exact h.writings, by rw [e _ (by simp)]; exact h.place⟩
section
variable {prog : Program} {w : World} {A : Around} {env : Env} {s : Shared} {h : Heap} {pos : Pos} {mg mb : Str → Option Value}
variable {G : Array GenState → Prop} {s₀ s' : Shared} {g : Heap} {m cm : Str → Option Value} {ls : List (Addr × List Value)} {Q : Flow → Shared → Prop} {E : Value → Shared → Prop}
/-- xs[a:b] of a list -/
theorem ev_sliceL {α : Type} {K : α → Value → Prop} {value e e' : Expr} {p : Pos} {as : List α} {a b : Nat} (hv : Ev prog w A env value h (IsL (Pts K as))) (hn : as.length ≤ 1000) (he : Ev prog w A env e h (IsI (a : Int))) (he' : Ev prog w A env e' h (IsI (b : Int))) (hab : a ≤ b) (hb : b ≤ as.length) :
    Ev prog w A env (.Subscript value (.Slice (some e) (some e') none p) pos) h (IsL (Pts K ((as.drop a).take (b - a)))) := by
  refine sub_go (P₁ := IsL (Pts K as)) (P₂ := fun v hp => ∃ sl t u, v = .ref sl ∧ hp.IsSliceOf sl (.int (a : Int) t) (.int (b : Int) u) .none) slot_list_getitem.lookup hv (fun s hx ht => ?_) (fun _ _ _ x p => p.stay x) list_TypeIs (fun o i => .inr rfl) ?_
  · refine wpAny_Slice ?_
    rw [evalPart_some]
    refine he.use hx ht fun v₂ s₂ k₂ x₂ t₂ ⟨u₂, e₂⟩ => ?_
    subst e₂
    rw [evalPart_some]
    refine he'.use x₂ t₂ fun v₃ s₃ k₃ x₃ t₃ ⟨u₃, e₃⟩ => ?_
    subst e₃
    rw [show evalPart none env = pure .none from evalPart_none env]
    exact wpAny_pure ⟨keeps_push (keeps_trans k₂ k₃) _, _, u₂, u₃, rfl, Heap.IsSliceOf.new ..⟩
  · rintro o i s hxs ⟨D, ys, rfl, hl, pas⟩ ⟨sl, t, u, rfl, hsl⟩
    refine wpAny_getItem_list_slice (lo := some (a : Int)) (hi := some (b : Int)) (st := none) hl.isList hsl (.int _ t) (.int _ u) .none (by simp) ?_ (by rw [sizeLine_eq]; have := pas.1; simp; omega)
    refine ⟨keeps_push (keeps_refl s) _, _, (ys.drop a).take (b - a), rfl, ⟨0, ?_⟩, (pas.drop a).take _⟩
    rw [slicePick_run _ a b (by have := pas.1; simp; omega) hab]
    exact Heap.get?_push_size _ rfl

theorem law_15 {pm : Value} {c : Addr} {doc : Value} {L f : Addr} {hand size p : Nat} {x : List Nat} (R : Room A 3) (Gl₀ : Gl mg mb s₀.heap)
    (X : St G s₀ s₀.heap (envAt 20 pm c doc L f) m cm ls s) (H : LwIn hand size x cm) (M : LwM hand size x ls m) (hx : x.length = size) (hs1 : 0 < size) (hs : size ≤ 8)
    (hp0 : (periodsF x)[0]? = some (p : Int)) (hps : p ≤ size) (hp1 : 1 ≤ p) (hplace : placeF hand x size < p) (hleast : leastF x (placeF hand x size) = p)
    (hroom : ∀ cut : Nat, 1 ≤ cut → cut + max 1 (p - 1) ≤ size → maxF (((leastsF x size).drop cut).take (max 1 (p - 1))) = p)
    (k : ∀ m' s', St G s₀ s₀.heap (envAt 20 pm c doc L f) m' cm ls s' → LwM hand size x ls m' →
      wpAny (model prog w) A (execs ((defAt 20).body.drop 18) (envAt 20 pm c doc L f)) Q (fun _ _ => False) s') :
    Boxed (wpAny (model prog w) A (execs ((defAt 20).body.drop 15) (envAt 20 pm c doc L f)) Q (fun _ _ => False) s) := by
  constructor
  have hlp : (leastsF x size)[placeF hand x size]? = some (p : Int) := by
    unfold leastsF
    rw [List.getElem?_map, List.getElem?_range (Nat.lt_of_lt_of_le hplace hps)]
    show some (leastF x (placeF hand x size) : Int) = _
    rw [hleast]
  have hll : (leastsF x size).length = size := by unfold leastsF; simp
  refine x_skip X (Tr.eq (b := (decide ((p : Int) ≤ ((placeF hand x size : Nat) : Int)) || ((p : Int) != (p : Int)))) (by rw [decide_eq_false (fun h => absurd (Int.ofNat_le.mp h) (Nat.not_le.mpr hplace))]; simp) (tr_or2 (tr_cmp (X.locI M.place) (ev_item (K := KI) (i := 0) (X.locH M.periods) ev_int (by decide) (by decide) hp0) (fun _ _ _ _ p => p) cmp_ge_int)
    (fun _ => tr_cmp (ev_item (K := KI) (i := ((placeF hand x size : Nat) : Int)) (X.locH M.leasts) (X.locI M.place) (Int.natCast_nonneg _) (ar_lt63 (Nat.lt_of_lt_of_le hplace hps) (Nat.le_trans hs (by decide))) (by rw [Int.toNat_natCast]; exact hlp)) (ev_item (K := KI) (i := 0) (X.locH M.periods) ev_int (by decide) (by decide) hp0) (fun _ _ _ _ p => p) cmp_ne_int))) fun s₁ X₁ => ?_
  have Gl₁ : Gl mg mb s₁.heap := Gl₀.up X₁.keep
  refine x_assign (K := KI ((max 1 (p - 1) : Nat) : Int)) X₁ (Ev.eqI (ev_max2 R.1 Gl₁ rfl rfl ev_int (ev_sub (ev_item (K := KI) (i := 0) (X₁.locH M.periods) ev_int (by decide) (by decide) hp0) ev_int)) (ar_max1 hp1)) (by rfl) (by rfl) fun y s₂ ⟨t, hv⟩ X₂ => ?_
  subst hv
  have Gl₂ : Gl mg mb s₂.heap := Gl₀.up X₂.keep
  have hr1 : 1 ≤ max 1 (p - 1) := Nat.le_max_left _ _
  have hr2 : max 1 (p - 1) ≤ size := Nat.max_le.mpr ⟨hs1, Nat.le_trans (Nat.sub_le _ _) hps⟩
  generalize max 1 (p - 1) = room at hroom X₂ hr1 hr2
  clear hlp hleast hplace hp1 hps
  have M₂ : LwM hand size x ls (upd m (Str.ofString "room") (.int (room : Int) t)) := M.same fun y hy => upd_off (by
    simp only [List.mem_cons, List.not_mem_nil, or_false] at hy
    rcases hy with rfl | rfl | rfl | rfl | rfl <;> decide)
  refine x_for (KA := KI) (as := upto 1 (size - room)) X₂ [] (fun _ h => nomatch h) (fun _ h => nomatch h)
    (ev_range2 (a := 1) (b := ((size - room + 1 : Nat) : Int)) Gl₂ rfl rfl ev_int (Ev.eqI (ev_add (ev_sub (X₂.celI H.size) (X₂.locI ⟨t, by rfl⟩)) ev_int) (by rw [← Int.natCast_sub hr2]; rfl))) (fun v h' hx ⟨r, t, u, v', e, hr⟩ => by subst e; exact fsrc_range R.1 hr (ar_sized size room) (ar_bnds (Nat.le_trans (Nat.succ_le_succ (Nat.sub_le size room)) (Nat.le_trans (Nat.succ_le_succ hs) (by decide))))) (by rfl) (by rfl)
    (fun i m' cm' ls' => cm' = cm ∧ ls' = ls ∧ ∀ y, (y == Str.ofString "cut") = false → m' y = upd m (Str.ofString "room") (.int (room : Int) t) y) ⟨rfl, rfl, fun _ _ => rfl⟩ ?_ ?_
  · rintro g' i a v m' cm' ls' s₃ E hg hgm hi' ⟨u, rfl⟩ ⟨rfl, rfl, hm⟩ X₃
    obtain ⟨rfl, hi⟩ := range_at hi'
    have ec : (1 : Int) + (i : Int) = ((i + 1 : Nat) : Int) := ar_one i
    rw [ec] at X₃
    have Gl₃ : Gl mg mb s₃.heap := (Gl₀.up hg).up X₃.keep
    have M₃ : LwM hand size x ls' (upd m' (Str.ofString "cut") (.int ((i + 1 : Nat) : Int) u)) := M₂.same fun y hy => by
      have hne : (y == Str.ofString "cut") = false := by
        simp only [List.mem_cons, List.not_mem_nil, or_false] at hy
        rcases hy with rfl | rfl | rfl | rfl | rfl <;> decide
      rw [upd_off hne, hm y hne]
    have hroomt : ∃ t, upd m' (Str.ofString "cut") (.int ((i + 1 : Nat) : Int) u) (Str.ofString "room") = some (.int (room : Int) t) := ⟨t, by rw [upd_off (by decide), hm _ (by decide)]; exact upd_at _ _ _⟩
    have hcr : i + 1 + room ≤ size := Nat.add_le_of_le_sub hr2 hi
    clear hi
    have hl3 : (((leastsF x size).drop (i + 1)).take (i + 1 + room - (i + 1))).length = room := by rw [Nat.add_sub_cancel_left, List.length_take, List.length_drop, hll]; exact Nat.min_eq_left (Nat.le_sub_of_add_le (by rw [Nat.add_comm]; exact hcr))
    have hbest := hroom (i + 1) (Nat.le_add_left _ _) hcr
    have hne : ((leastsF x size).drop (i + 1)).take (i + 1 + room - (i + 1)) ≠ [] := fun e => by rw [e] at hl3; exact absurd hr1 (by rw [← hl3]; decide)
    refine x_skip X₃ (Tr.eq (b := ((p : Int) != (p : Int))) (by simp) (tr_cmp (P₁ := IsI (p : Int)) (Ev.mono (ev_maxL (K := KI) (as := ((leastsF x size).drop (i + 1)).take (i + 1 + room - (i + 1))) (fun a b => decide ((((leastsF x size).drop (i + 1)).take (i + 1 + room - (i + 1))).getD b 0 < (((leastsF x size).drop (i + 1)).take (i + 1 + room - (i + 1))).getD a 0)) R.1 Gl₃ rfl rfl
      (ev_sliceL (a := i + 1) (b := i + 1 + room) (X₃.locH M₃.leasts) (by rw [hll]; exact Nat.le_trans hs (by decide)) (X₃.locI ⟨u, by rfl⟩) (Ev.eqI (ev_add (X₃.locI ⟨u, by rfl⟩) (X₃.locI hroomt)) (Int.natCast_add _ _).symm) (Nat.le_add_right _ _) (by rw [hll]; exact hcr)) hne (cmp_gt_I prog w A.in1 _) (by rfl) (by rfl) (by rfl)) (fun v h' _ ⟨a, ea, t', e'⟩ => ⟨t', by
      rw [e']
      have : a = p := by
        rw [← hbest]
        unfold maxF
        rw [Nat.add_sub_cancel_left] at ea
        rw [List.getD_eq_getElem?_getD, ea]; rfl
      rw [this]⟩)) (ev_item (K := KI) (i := 0) (X₃.locH M₃.periods) ev_int (by decide) (by decide) hp0) (fun _ _ _ _ p => p) cmp_ne_int)) fun s₄ X₄ => ?_
    refine x_nil ⟨_, _, _, ?_, X₄⟩
    exact ⟨rfl, rfl, fun y hy => by rw [upd_off hy, hm y hy]⟩
  · rintro m' cm' ls' s₃ ⟨rfl, rfl, hm⟩ X₃
    refine k m' s₃ X₃ (M₂.same fun y hy => hm y ?_)
    simp only [List.mem_cons, List.not_mem_nil, or_false] at hy
    rcases hy with rfl | rfl | rfl | rfl | rfl <;> decide
end
end Mine

end

section
open PySem PySem.W PyProof.Rows PySem.Spec
namespace Mine
section
variable {prog : Program} {w : World} {A : Around} {env : Env} {s : Shared} {h : Heap} {pos : Pos} {mg mb : Str → Option Value}
variable {G : Array GenState → Prop} {s₀ s' : Shared} {g : Heap} {m cm : Str → Option Value} {ls : List (Addr × List Value)} {Q : Flow → Shared → Prop} {E : Value → Shared → Prop}
theorem ends_backs (x : List Nat) (n : Nat) : (endsF x n).map (fun l => rep 34 [92, 34] l) = backsF x n := by
  unfold endsF backsF; rw [List.map_map]; rfl
theorem law_18 {pm : Value} {c : Addr} {doc : Value} {L f : Addr} {hand size : Nat} {x : List Nat} (R : Room A 3) (Gl₀ : Gl mg mb s₀.heap)
    (X : St G s₀ s₀.heap (envAt 20 pm c doc L f) m cm ls s) (H : LwIn hand size x cm) (M : LwM hand size x ls m) (hx : x.length = size) (hs1 : 0 < size) (hs : size ≤ 8)
    (HF : HasL KS (frontsF x size) ls (cm (Str.ofString "fronts"))) (HB : HasL KS (backsF x size) ls (cm (Str.ofString "backs")))
    (hper : ((upto 1 x.length).filter fun z => x.drop z.toNat == x.take (x.length - z.toNat)) = periodsF x)
    (k : ∀ s', St G s₀ s₀.heap (envAt 20 pm c doc L f) m cm ls s' →
      wpAny (model prog w) A (execs ((defAt 20).body.drop 21) (envAt 20 pm c doc L f)) Q (fun _ _ => False) s') :
    Boxed (wpAny (model prog w) A (execs ((defAt 20).body.drop 18) (envAt 20 pm c doc L f)) Q (fun _ _ => False) s) := by
  constructor
  have Gl₁ : Gl mg mb s.heap := Gl₀.up X.keep
  refine x_skip X (Tr.eq (b := (leastsF x size != (List.range size).map fun j => (leastF x j : Int))) (by unfold leastsF; simp) (tr_cmp (X.locH M.leasts) (ev_compR (KB := KI) (fun j => (leastF x j : Int)) R.1 (by rfl) (ev_range1 Gl₁ rfl rfl (X.celI H.size)) (by omega) (fun C h₂ m₂ j t hj hx₂ hn hv => ?_)) (fun _ _ _ x p => p.stay x) (cmp_ne_list eqK_I R.units))) fun s₁ X₁ => ?_
  · exact ev_calldef2 (i := 19) (P₁ := IsS x) (P₂ := IsI (j : Int)) (Gl₁.up hx₂) (by simp) rfl (X.subS hx₂ H.word) (ev_local hn hv (by rfl) (by rfl)).isI (fun _ _ _ _ p => p) (fun _ _ _ _ p => p)
      (fun f v v' h' hf hx3 ⟨t, e1⟩ ⟨u, e2⟩ => by subst e1 e2; exact cl_plain ((Gl₁.up hx₂).up hx3) hf (R.less (by omega)) (by omega) (by omega))
  have Gl₂ : Gl mg mb s₁.heap := Gl₀.up X₁.keep
  refine x_skip X₁ (Tr.eq (b := (periodsF x != ((upto 1 x.length).filter fun z => x.drop z.toNat == x.take (x.length - z.toNat)).map fun z => z)) (by rw [List.map_id', hper]; simp) (tr_cmp (X₁.locH M.periods)
    (ev_comp (KA := KI) (KB := KI) fn_I (fun z => x.drop z.toNat == x.take (x.length - z.toNat)) (fun z => z) (as := upto 1 x.length) (by rfl) (by decide) (by rfl) (by decide) (by rfl) (ev_range2 (a := 1) (b := ((size + 1 : Nat) : Int)) Gl₂ rfl rfl ev_int (Ev.eqI (ev_add (X₁.celI H.size) ev_int) (by omega))) (fun v h' hx' ⟨r, t, u, v', e, hr⟩ => by subst e; exact src_range R.1 hr (by omega) (by omega)) (by simp [upto]; omega)
      (fun C h₂ m₂ a v ha ka hx₂ hn hv _ => ?_) (fun C h₂ m₂ a v ha ka _ hx₂ hn hv _ => ?_)) (fun _ _ _ x p => p.stay x) (cmp_ne_list eqK_I R.units))) fun s₂ X₂ => ?_
  · obtain ⟨t, rfl⟩ := ka
    obtain ⟨j, hj, rfl⟩ := List.mem_map.mp ha
    have hj := List.mem_range.mp hj
    have e : (1 : Int) + (j : Int) = ((j + 1 : Nat) : Int) := by omega
    rw [e] at hv ⊢
    rw [Int.toNat_natCast]
    exact .inr ⟨_, rfl, tr_cmp (ev_from (X₁.subS hx₂ H.word) (ev_local hn hv (by rfl) (by rfl)).isI (by omega)) (ev_to (n := x.length - (j + 1)) (X₁.subS hx₂ H.word) (Ev.eqI (ev_sub (X₁.subI hx₂ H.size) (ev_local hn hv (by rfl) (by rfl)).isI) (by omega)) (by omega)) (fun _ _ _ _ p => p) cmp_eq_str⟩
  · obtain ⟨t, rfl⟩ := ka
    exact (ev_local hn hv (by rfl) (by rfl)).isI
  have Gl₃ : Gl mg mb s₂.heap := Gl₀.up X₂.keep
  have hel : (endsF x size).length = size := by unfold endsF; simp
  refine x_skip X₂ (Tr.eq (b := ((frontsF x size != (List.range size).map fun j => x.take j) || (backsF x size != (endsF x size).map fun l => rep 34 [92, 34] l))) (by rw [ends_backs]; unfold frontsF; simp) (tr_or2
    (tr_cmp (X₂.celH HF) (ev_compR (KB := KS) (fun j => x.take j) R.1 (by rfl) (ev_range1 Gl₃ rfl rfl (X₂.celI H.size)) (by omega) (fun C h₂ m₂ j t hj hx₂ hn hv => ?_)) (fun _ _ _ x p => p.stay x) (cmp_ne_list eqK_S R.units))
    (fun _ => tr_cmp (X₂.celH HB) (ev_compA (KA := KS) (KB := KS) fn_S (as := endsF x size) (fun l => rep 34 [92, 34] l) (by rfl) (X₂.locH M.ends) (fun v h' hx p => src_list R.1 p) (by omega) (fun C h₂ m₂ a v ha ka hx₂ hn hv _ => ?_)) (fun _ _ _ x p => p.stay x) (cmp_ne_list eqK_S R.units)))) fun s₃ X₃ => k s₃ X₃
  · exact ev_to (X₂.subS hx₂ H.word) (ev_local hn hv (by rfl) (by rfl)).isI (by omega)
  · obtain ⟨t, rfl⟩ := ka
    unfold endsF at ha
    obtain ⟨j, hj, rfl⟩ := List.mem_map.mp ha
    exact ev_replaceC (ev_local hn hv (by rfl) (by rfl)).isS (a := [34]) (b := [92, 34]) (by decide) (by decide) (by decide) (by simp; omega) (by decide) (replace_one' 34 [92, 34] (x.drop j))

theorem law_21 {pm : Value} {c : Addr} {doc : Value} {L f : Addr} {hand size : Nat} {x : List Nat} (R : Room A 3) (Gl₀ : Gl mg mb s₀.heap)
    (X : St (Bares s₀.gens) s₀ s₀.heap (envAt 20 pm c doc L f) m cm ls s) (H : LwIn hand size x cm) (M : LwM hand size x ls m) (hx : x.length = size) (hs1 : 0 < size) (hs : size ≤ 8) (h92 : 92 ∉ x)
    (hh3 : hand < 3) (hws : ∀ l, writ hand l = spell hand l)
    (k : ∀ m' s', St (Bares s₀.gens) s₀ s₀.heap (envAt 20 pm c doc L f) m' cm ls s' → (∃ t, m' (Str.ofString "mark") = some (.int ((max (placeF hand x size) 1 : Nat) : Int) t)) →
      wpAny (model prog w) A (execs ((defAt 20).body.drop 26) (envAt 20 pm c doc L f)) Q (fun _ _ => False) s') :
    Boxed (wpAny (model prog w) A (execs ((defAt 20).body.drop 21) (envAt 20 pm c doc L f)) Q (fun _ _ => False) s) := by
  constructor
  have r1 := rep_len2 (c := 34) (z := [92, 34]) (l := x) (by decide)
  refine x_assign (K := KS ([34] ++ rep 34 [92, 34] x)) X (ev_add_str (ev_str (l := [34])) (ev_replaceC (X.celS H.word) (a := [34]) (b := [92, 34]) (by decide) (by decide) (by decide) (by omega) (by decide) (replace_one' 34 [92, 34] x)) (by simp only [List.length_cons, List.length_nil]; omega)) (by rfl) (by rfl) fun y s₁ ⟨t₁, hv⟩ X₁ => ?_
  subst hv
  have Gl₁ : Gl mg mb s₁.heap := Gl₀.up X₁.keep
  have hmem : ∀ {y : Str} {v : Value} {m' : Str → Option Value}, LwM hand size x ls m' → (∀ z ∈ [Str.ofString "leasts", Str.ofString "periods", Str.ofString "ends", Str.ofString "writings", Str.ofString "place"], (z == y) = false) → LwM hand size x ls (upd m' y v) := fun M h => M.same fun z hz => upd_off (h z hz)
  have M₁ : LwM hand size x ls (upd m (Str.ofString "bare") (.str (S ([34] ++ rep 34 [92, 34] x)) t₁)) := hmem M (by decide)
  refine wpAny_execs_cons (wpAny_If (wpAny_isTrue_Compare1 (wpAny_mono (strip_call (l := [34] ++ rep 34 [92, 34] x) (T := [34] :: tokF x) X₁ Gl₁ (R.less (by omega)) rfl (X₁.locS ⟨t₁, by rfl⟩) (by simp only [List.length_append, List.length_cons, List.length_nil]; omega) (by simp) (by simp [tokF_flat]) (by unfold tokF; simp; omega) (fun t ht => by
      rcases List.mem_cons.mp ht with rfl | ht
      · exact .inl ⟨34, by decide, rfl⟩
      · exact tokF_ok h92 t ht) (by rfl) (by rfl) (by rfl)) (fun y s₂ h₂ => ?_) fun _ _ h => h.elim) (by with_unfolding_all rfl)))
  obtain ⟨X₂, ky⟩ := h₂
  rw [strip_bare] at ky
  obtain ⟨t₂, rfl⟩ := ky
  refine (X₂.locS (l := [34] ++ rep 34 [92, 34] x) (x := Str.ofString "bare") ⟨t₁, by rfl⟩).use (Ext.refl _) X₂.toks fun v s₃ k₃ x₃ t₃ pv => ?_
  have X₃ := X₂.kept k₃ t₃
  refine wpAny_mono (wpAny_toks (cmp_ne_str (prog := prog) (w := w) (A := A) (h := s₃.heap) (a := [34] ++ rep 34 [92, 34] x) (b := [34] ++ rep 34 [92, 34] x) _ v s₃ (Ext.refl _) ⟨t₂, rfl⟩ pv)) (fun v' s₄ h₄ => ?_) fun _ _ h => h.2.elim
  obtain ⟨t₄, k₄, hv⟩ := h₄
  cases (show v' = .bool _ from hv)
  have X₄ := X₃.kept k₄ (Nat.lt_of_lt_of_le t₃ t₄)
  refine wpAny_truthy_bool ?_
  rw [if_neg (by simp)]
  refine x_nil ?_
  refine x_assign (K := KS ([9, 10, 13, 60, 38, 62] ++ x)) X₄ (ev_add_str (ev_str (l := [9, 10, 13, 60, 38, 62])) (X₄.celS H.word) (by simp only [List.length_cons, List.length_nil]; omega)) (by rfl) (by rfl) fun y s₅ ⟨t₅, hv⟩ X₅ => ?_
  subst hv
  have M₅ : LwM hand size x ls (upd (upd m (Str.ofString "bare") (.str (S ([34] ++ rep 34 [92, 34] x)) t₁)) (Str.ofString "text") (.str (S ([9, 10, 13, 60, 38, 62] ++ x)) t₅)) := hmem M₁ (by decide)
  have Gl₅ : Gl mg mb s₅.heap := Gl₀.up X₅.keep
  have hel : (endsF x size).length = size := by unfold endsF; simp
  have hh : hand = 0 ∨ hand = 1 ∨ hand = 2 := ar_three hand hh3
  have htl : ([9, 10, 13, 60, 38, 62] ++ x).length ≤ 14 := by simp only [List.length_append, List.length_cons, List.length_nil]; omega
  refine x_skip X₅ (Tr.eq (b := (((endsF x size).map (writ hand) != (endsF x size).map fun l => spell hand l) || (writ hand ([9, 10, 13, 60, 38, 62] ++ x) != spell hand ([9, 10, 13, 60, 38, 62] ++ x)))) (by rw [show (fun l => spell hand l) = writ hand from funext fun l => (hws l).symm, hws]; simp) (tr_or2
    (tr_cmp (X₅.locH M₅.writings) (ev_compA (KA := KS) (KB := KS) fn_S (as := endsF x size) (fun l => spell hand l) (by rfl) (X₅.locH M₅.ends) (fun v h' hx p => src_list R.1 p) (by omega) (fun C h₂ m₂ a v ha ka hx₂ hn hv _ => ?_)) (fun _ _ _ x p => p.stay x) (cmp_ne_list eqK_S R.units))
    (fun _ => tr_cmp (ev_calldef2 (i := 16) (P₁ := IsI (hand : Int)) (P₂ := IsS ([9, 10, 13, 60, 38, 62] ++ x)) (P := IsS (writ hand ([9, 10, 13, 60, 38, 62] ++ x))) Gl₅ (by simp) rfl (X₅.celI H.hand) (X₅.locS ⟨t₅, by rfl⟩) (fun _ _ _ _ p => p) (fun _ _ _ _ p => p)
        (fun f v v' h' hf hx3 ⟨t, e1⟩ ⟨u, e2⟩ => by subst e1 e2; exact cl_writ (Gl₅.up hx3) hf (R.less (by omega)) htl))
      (ev_calldef2 (i := 17) (P₁ := IsI (hand : Int)) (P₂ := IsS ([9, 10, 13, 60, 38, 62] ++ x)) (P := IsS (spell hand ([9, 10, 13, 60, 38, 62] ++ x))) Gl₅ (by simp) rfl (X₅.celI H.hand) (X₅.locS ⟨t₅, by rfl⟩) (fun _ _ _ _ p => p) (fun _ _ _ _ p => p)
        (fun f v v' h' hf hx3 ⟨t, e1⟩ ⟨u, e2⟩ => by subst e1 e2; exact cl_spell (Gl₅.up hx3) hf (R.less (by omega)) (by omega) hh)) (fun _ _ _ _ p => p) cmp_ne_str))) fun s₆ X₆ => ?_
  · obtain ⟨t, rfl⟩ := ka
    unfold endsF at ha
    obtain ⟨j, hj, rfl⟩ := List.mem_map.mp ha
    exact ev_calldef2 (i := 17) (P₁ := IsI (hand : Int)) (P₂ := IsS (x.drop j)) (Gl₅.up hx₂) (by simp) rfl (X₅.subI hx₂ H.hand) (ev_local hn hv (by rfl) (by rfl)).isS (fun _ _ _ _ p => p) (fun _ _ _ _ p => p)
      (fun f v v' h' hf hx3 ⟨t, e1⟩ ⟨u, e2⟩ => by subst e1 e2; exact cl_spell ((Gl₅.up hx₂).up hx3) hf (R.less (by omega)) (by simp; omega) hh)
  have Gl₆ : Gl mg mb s₆.heap := Gl₀.up X₆.keep
  refine x_assign (K := KI ((max (placeF hand x size) 1 : Nat) : Int)) X₆ (Ev.eqI (ev_max2 R.1 Gl₆ rfl rfl (X₆.locI M₅.place) ev_int) (ar_maxm1 _)) (by rfl) (by rfl) fun y s₇ ⟨t₇, hv⟩ X₇ => ?_
  subst hv
  exact k _ s₇ X₇ ⟨t₇, by rfl⟩
end
end Mine

end

section
open PySem PySem.W PyProof.Rows PySem.Spec
namespace Mine
section
variable {prog : Program} {w : World} {A : Around} {env : Env} {s : Shared} {h : Heap} {pos : Pos} {mg mb : Str → Option Value} {l r : Expr}
theorem ev_addL {α : Type} {K : α → Value → Prop} {as bs : List α} (hl : Ev prog w A env l h (IsL (Pts K as))) (hr : Ev prog w A env r h (IsL (Pts K bs))) (hsz : as.length + bs.length ≤ 1000) :
    Ev prog w A env (.BinOp l .Add r pos) h (IsL (Pts K (as ++ bs))) :=
  ev_bin hl hr (fun _ _ _ x p => p.stay x) fun v₁ v₂ s _ ⟨D, ys, e, ⟨n, ho⟩, p⟩ ⟨D', zs, e', ⟨n', ho'⟩, p'⟩ => by
    subst e e'
    have ez : ys.toArray ++ zs.toArray = (ys ++ zs).toArray := by simp
    refine concat_meets ⟨_, ho, rfl⟩ ⟨_, ho', rfl⟩ noFill_list_add seq_list_add PySem.F.slot_list_add PySem.F.entry_list_add (PySem.F.args_list_add_2 _ _) (list_addW D D' ys.toArray zs.toArray n n' none none #[] #[] (by rw [sizeLine_eq]; have h1 := p.1; have h2 := p'.1; simp; omega)) ⟨ho, ho', ?_⟩
    rw [ez]
    exact ⟨keeps_push (keeps_refl s) _, _, ys ++ zs, rfl, ⟨_, Heap.get?_push_size _ rfl⟩, p.append p'⟩
theorem ev_mul7 {α : Type} {K : α → Value → Prop} {a : α} (hl : Ev prog w A env l h (IsL (Pts K [a]))) (hr : Ev prog w A env r h (IsI 7)) :
    Ev prog w A env (.BinOp l .Mult r pos) h (IsL (Pts K [a, a, a, a, a, a, a])) :=
  ev_bin hl hr (fun _ _ _ x p => p.stay x) fun v₁ v₂ s _ q₁ q₂ => by
    obtain ⟨D, ys, rfl, ⟨n, ho⟩, p⟩ := q₁
    obtain ⟨t, rfl⟩ := q₂
    obtain ⟨y, ey, ky⟩ := p.2 0 a rfl
    obtain ⟨z, rfl⟩ := List.length_eq_one_iff.mp p.1
    cases ey
    refine wpAny_binaryOp_repeat_ref (T := "list") (U := "int") (by decide) ⟨_, ho, rfl⟩ (fun s' => typeIs_int s' 7 t) noFill_list_mul PySem.F.fills_int_mul PySem.F.slot_int_rmul repeat_list PySem.F.slot_int_index.lookup
      (call_meets PySem.F.slot_int_rmul (typeIs_int s 7 t) PySem.F.entry_int_rmul (PySem.F.args_int_rmul_2 _ _) (int___rmul___int_list 7 t D [y].toArray n)
        ⟨ho, rfl, ⟨_, ho, rfl⟩, call_meets PySem.F.slot_list_mul ⟨_, ho, rfl⟩ PySem.F.entry_list_mul (PySem.F.args_list_mul_2 _ _)
          (AutoListH.list___mul___list_int_3 D [y].toArray n 7 t (by decide) (by show ¬ (7 > (2 ^ 63 - 1) / 8); decide) (by show ¬ Builtin.List.listTooLong 7 = true; decide))
          ⟨ho, ?_⟩⟩)
    exact ⟨keeps_push (keeps_refl s) _, _, [y, y, y, y, y, y, y], rfl, ⟨_, Heap.get?_push_size _ rfl⟩, Pts.cons ky (Pts.cons ky (Pts.cons ky (Pts.cons ky (Pts.cons ky (Pts.cons ky (Pts.cons ky Pts.nil))))))⟩
end
/-- the eleven answers at the end -/
structure Asked (x : List Nat) (mark : Nat) : Prop where
  e1 : em [x.take mark, x.drop mark] x = true
  e2 : em [x.take (mark + 1), x.drop mark] x = false
  e3 : em [[], x.take mark, x.drop mark, []] x = true
  e4 : em [[], x.take mark, x.drop (mark - 1), []] x = false
  e5 : em [[], x.take mark, x.drop (mark - 1)] x = false
  e6 : em [x.take mark, x.drop (mark - 1), []] x = false
  e11 : em [[], x.drop mark, x.take mark, []] x = (x.drop mark ++ x.take mark == x)
section
variable {prog : Program} {w : World} {A : Around} {env : Env} {s : Shared} {h : Heap} {pos : Pos} {mg mb : Str → Option Value}
variable {G : Array GenState → Prop} {s₀ s' : Shared} {g : Heap} {m cm : Str → Option Value} {ls : List (Addr × List Value)} {Q : Flow → Shared → Prop} {E : Value → Shared → Prop}
theorem tells_plain {a got : List Nat} {b : Bool} (ha : 46 ∉ a) (hl : a.length ≤ 8) (hg : got.length ≤ 8) (he : (a == got) = b) : Tells a got b := ⟨Nat.le_trans hl (by decide), Nat.le_trans hg (by decide), .inl ⟨ha, he⟩⟩
theorem app_le {a b : List Nat} {n m : Nat} (ha : a.length ≤ n) (hb : b.length ≤ m) : (a ++ b).length ≤ n + m := by rw [List.length_append]; exact Nat.add_le_add ha hb
theorem dots_le : ([46, 46, 46] : List Nat).length ≤ 3 := Nat.le_refl 3
theorem ev_cat {l r : Expr} {a b : List Nat} {n m : Nat} (hl : Ev prog w A env l h (IsS a)) (hr : Ev prog w A env r h (IsS b)) (ha : a.length ≤ n) (hb : b.length ≤ m) (hs : n + m ≤ 16000000 := by decide) : Ev prog w A env (.BinOp l .Add r pos) h (IsS (a ++ b)) :=
  ev_add_str hl hr (Nat.le_trans (Nat.add_le_add ha hb) hs)
theorem no2 {a b : List Nat} (ha : 46 ∉ a) (hb : 46 ∉ b) : ∀ p ∈ [a, b], 46 ∉ p := by
  intro p hp; simp only [List.mem_cons, List.not_mem_nil, or_false] at hp; rcases hp with rfl | rfl <;> assumption
theorem no3 {a b c : List Nat} (ha : 46 ∉ a) (hb : 46 ∉ b) (hc : 46 ∉ c) : ∀ p ∈ [a, b, c], 46 ∉ p := by
  intro p hp; simp only [List.mem_cons, List.not_mem_nil, or_false] at hp; rcases hp with rfl | rfl | rfl <;> assumption
theorem no4 {a b c d : List Nat} (ha : 46 ∉ a) (hb : 46 ∉ b) (hc : 46 ∉ c) (hd : 46 ∉ d) : ∀ p ∈ [a, b, c, d], 46 ∉ p := by
  intro p hp; simp only [List.mem_cons, List.not_mem_nil, or_false] at hp; rcases hp with rfl | rfl | rfl | rfl <;> assumption
theorem tells_2 {a b got : List Nat} {v : Bool} (ha : 46 ∉ a) (hb : 46 ∉ b) (la : a.length ≤ 9) (lb : b.length ≤ 9) (hg : got.length ≤ 8) (he : em [a, b] got = v) : Tells (a ++ [46, 46, 46] ++ b) got v :=
  ⟨Nat.le_trans (app_le (app_le la dots_le) lb) (by decide), Nat.le_trans hg (by decide), .inr ⟨[a, b], rfl, by simp, by simp, no2 ha hb, he⟩⟩
theorem tells_4 {a b got : List Nat} {v : Bool} (ha : 46 ∉ a) (hb : 46 ∉ b) (la : a.length ≤ 9) (lb : b.length ≤ 9) (hg : got.length ≤ 8) (he : em [[], a, b, []] got = v) : Tells ([46, 46, 46] ++ a ++ [46, 46, 46] ++ b ++ [46, 46, 46]) got v :=
  ⟨Nat.le_trans (app_le (app_le (app_le (app_le dots_le la) dots_le) lb) dots_le) (by decide), Nat.le_trans hg (by decide), .inr ⟨[[], a, b, []], by simp [joinL], by simp, by simp, no4 List.not_mem_nil ha hb List.not_mem_nil, he⟩⟩
theorem tells_3 {a b got : List Nat} {v : Bool} (ha : 46 ∉ a) (hb : 46 ∉ b) (la : a.length ≤ 9) (lb : b.length ≤ 9) (hg : got.length ≤ 8) (he : em [[], a, b] got = v) : Tells ([46, 46, 46] ++ a ++ [46, 46, 46] ++ b) got v :=
  ⟨Nat.le_trans (app_le (app_le (app_le dots_le la) dots_le) lb) (by decide), Nat.le_trans hg (by decide), .inr ⟨[[], a, b], by simp [joinL], by simp, by simp, no3 List.not_mem_nil ha hb, he⟩⟩
theorem tells_3' {a b got : List Nat} {v : Bool} (ha : 46 ∉ a) (hb : 46 ∉ b) (la : a.length ≤ 9) (lb : b.length ≤ 9) (hg : got.length ≤ 8) (he : em [a, b, []] got = v) : Tells (a ++ [46, 46, 46] ++ b ++ [46, 46, 46]) got v :=
  ⟨Nat.le_trans (app_le (app_le (app_le la dots_le) lb) dots_le) (by decide), Nat.le_trans hg (by decide), .inr ⟨[a, b, []], by simp [joinL], by simp, by simp, no3 ha hb List.not_mem_nil, he⟩⟩
theorem law_26 {pm : Value} {c : Addr} {doc : Value} {L f : Addr} {hand size mark : Nat} {x : List Nat} (R : Room A 3) (Gl₀ : Gl mg mb s₀.heap)
    (X : St G s₀ s₀.heap (envAt 20 pm c doc L f) m cm ls s) (H : LwIn hand size x cm) (hx : x.length = size) (hs : size ≤ 8) (h46 : 46 ∉ x) (hm1 : 1 ≤ mark) (hm2 : mark < size) (K : Asked x mark)
    (hmark : ∃ t, m (Str.ofString "mark") = some (.int (mark : Int) t)) :
    Boxed (wpAny (model prog w) A (execs ((defAt 20).body.drop 26) (envAt 20 pm c doc L f)) (fun fl s' => (∃ m cm ls, St G s₀ s₀.heap (envAt 20 pm c doc L f) m cm ls s') ∧ fl = .ret (.bool true)) (fun _ _ => False) s) := by
  constructor
  have Gl₁ : Gl mg mb s.heap := Gl₀.up X.keep
  have R1 : Room A 1 := R.less (by omega)
  have dT : ∀ n, 46 ∉ x.take n := fun n h => h46 (List.mem_of_mem_take h)
  have dD : ∀ n, 46 ∉ x.drop n := fun n h => h46 (List.mem_of_mem_drop h)
  have lT : ∀ n, (x.take n).length ≤ 8 := fun n => by simp; omega
  have lD : ∀ n, (x.drop n).length ≤ 8 := fun n => by simp; omega
  have d0 : 46 ∉ ([] : List Nat) := by simp
  have neT : (x.take mark == x) = false := by
    cases hc : x.take mark == x with
    | false => rfl
    | true => have := congrArg List.length (beq_iff_eq.mp hc); simp at this; omega
  have neD : (x.drop mark == x) = false := by
    cases hc : x.drop mark == x with
    | false => rfl
    | true => have := congrArg List.length (beq_iff_eq.mp hc); simp at this; omega
  have neT' : (x == x.take mark) = false := by
    cases hc : x == x.take mark with
    | false => rfl
    | true => rw [beq_iff_eq] at hc; rw [← hc] at neT; simp at neT
  have neD' : (x == x.drop mark) = false := by
    cases hc : x == x.drop mark with
    | false => rfl
    | true => rw [beq_iff_eq] at hc; rw [← hc] at neD; simp at neD
  have evW : ∀ {q : Shared}, St G s₀ s₀.heap (envAt 20 pm c doc L f) m cm ls q → ∀ np, Ev prog w A (envAt 20 pm c doc L f) (.Name (Str.ofString "word") np) q.heap (IsS x) := fun X np => X.celS H.word
  have l3 : ∀ (a b : List Nat), a.length ≤ 8 → b.length ≤ 8 → a.length + b.length ≤ 16 := fun a b h1 h2 => by omega
  have hx8 : x.length ≤ 8 := by omega
  have hx16 : x.length ≤ 16000000 := Nat.le_trans hx8 (by decide)
  have lT9 : ∀ n, (x.take n).length ≤ 9 := fun n => Nat.le_succ_of_le (lT n)
  have lD9 : ∀ n, (x.drop n).length ≤ 9 := fun n => Nat.le_succ_of_le (lD n)
  have em1 : ((mark : Int) - 1) = ((mark - 1 : Nat) : Int) := by clear lT lD lT9 lD9 neT neD neT' neD'; omega
  refine x_assignL (R := Pts KB [true, false, true, false, false, false, false, false, false, false, (x.drop mark ++ x.take mark == x)]) X (ev_list (args_pc (K := KB) (ev_em_tells Gl₁ R1 rfl (ev_cat (ev_cat (ev_to (evW X _) (X.locI hmark) hx16) (ev_str (l := [46, 46, 46])) (lT _) dots_le) (ev_from (evW X _) (X.locI hmark) hx16) (app_le (lT _) dots_le) (lD _)) (evW X _) (tells_2 (dT _) (dD _) (lT9 _) (lD9 _) hx8 K.e1))
      (args_pc (K := KB) (ev_em_tells Gl₁ R1 rfl (ev_cat (ev_cat (ev_to (n := mark + 1) (evW X _) (Ev.eqI (ev_add (X.locI hmark) ev_int) rfl) hx16) (ev_str (l := [46, 46, 46])) (lT _) dots_le) (ev_from (evW X _) (X.locI hmark) hx16) (app_le (lT _) dots_le) (lD _)) (evW X _) (tells_2 (dT _) (dD _) (lT9 _) (lD9 _) hx8 K.e2))
      (args_pc (K := KB) (ev_em_tells Gl₁ R1 rfl (ev_cat (ev_cat (ev_cat (ev_cat (ev_str (l := [46, 46, 46])) (ev_to (evW X _) (X.locI hmark) hx16) dots_le (lT _)) (ev_str (l := [46, 46, 46])) (app_le dots_le (lT _)) dots_le) (ev_from (evW X _) (X.locI hmark) hx16) (app_le (app_le dots_le (lT _)) dots_le) (lD _)) (ev_str (l := [46, 46, 46])) (app_le (app_le (app_le dots_le (lT _)) dots_le) (lD _)) dots_le) (evW X _) (tells_4 (dT _) (dD _) (lT9 _) (lD9 _) hx8 K.e3))
      (args_pc (K := KB) (ev_em_tells Gl₁ R1 rfl (ev_cat (ev_cat (ev_cat (ev_cat (ev_str (l := [46, 46, 46])) (ev_to (evW X _) (X.locI hmark) hx16) dots_le (lT _)) (ev_str (l := [46, 46, 46])) (app_le dots_le (lT _)) dots_le) (ev_from (n := mark - 1) (evW X _) (Ev.eqI (ev_sub (X.locI hmark) ev_int) em1) hx16) (app_le (app_le dots_le (lT _)) dots_le) (lD _)) (ev_str (l := [46, 46, 46])) (app_le (app_le (app_le dots_le (lT _)) dots_le) (lD _)) dots_le) (evW X _) (tells_4 (dT _) (dD _) (lT9 _) (lD9 _) hx8 K.e4))
      (args_pc (K := KB) (ev_em_tells Gl₁ R1 rfl (ev_cat (ev_cat (ev_cat (ev_str (l := [46, 46, 46])) (ev_to (evW X _) (X.locI hmark) hx16) dots_le (lT _)) (ev_str (l := [46, 46, 46])) (app_le dots_le (lT _)) dots_le) (ev_from (n := mark - 1) (evW X _) (Ev.eqI (ev_sub (X.locI hmark) ev_int) em1) hx16) (app_le (app_le dots_le (lT _)) dots_le) (lD _)) (evW X _) (tells_3 (dT _) (dD _) (lT9 _) (lD9 _) hx8 K.e5))
      (args_pc (K := KB) (ev_em_tells Gl₁ R1 rfl (ev_cat (ev_cat (ev_cat (ev_to (evW X _) (X.locI hmark) hx16) (ev_str (l := [46, 46, 46])) (lT _) dots_le) (ev_from (n := mark - 1) (evW X _) (Ev.eqI (ev_sub (X.locI hmark) ev_int) em1) hx16) (app_le (lT _) dots_le) (lD _)) (ev_str (l := [46, 46, 46])) (app_le (app_le (lT _) dots_le) (lD _)) dots_le) (evW X _) (tells_3' (dT _) (dD _) (lT9 _) (lD9 _) hx8 K.e6))
      (args_pc (K := KB) (ev_em_tells Gl₁ R1 rfl (ev_to (evW X _) (X.locI hmark) hx16) (evW X _) (tells_plain (dT _) (lT _) hx8 neT))
      (args_pc (K := KB) (ev_em_tells Gl₁ R1 rfl (ev_from (evW X _) (X.locI hmark) hx16) (evW X _) (tells_plain (dD _) (lD _) hx8 neD))
      (args_pc (K := KB) (ev_em_tells Gl₁ R1 rfl (evW X _) (ev_to (evW X _) (X.locI hmark) hx16) (tells_plain h46 hx8 (lT _) neT'))
      (args_pc (K := KB) (ev_em_tells Gl₁ R1 rfl (evW X _) (ev_from (evW X _) (X.locI hmark) hx16) (tells_plain h46 hx8 (lD _) neD'))
      (args_pc (K := KB) (ev_em_tells Gl₁ R1 rfl (ev_cat (ev_cat (ev_cat (ev_cat (ev_str (l := [46, 46, 46])) (ev_from (evW X _) (X.locI hmark) hx16) dots_le (lD _)) (ev_str (l := [46, 46, 46])) (app_le dots_le (lD _)) dots_le) (ev_to (evW X _) (X.locI hmark) hx16) (app_le (app_le dots_le (lD _)) dots_le) (lT _)) (ev_str (l := [46, 46, 46])) (app_le (app_le (app_le dots_le (lD _)) dots_le) (lT _)) dots_le) (evW X _) (tells_4 (dD _) (dT _) (lD9 _) (lT9 _) hx8 K.e11))
      args_pn))))))))))) (by simp)) (by rfl) (by rfl) fun D ys s₁ hp X₁ => ?_
  have hmark₁ : ∃ t, upd m (Str.ofString "asked") (.ref D) (Str.ofString "mark") = some (.int (mark : Int) t) := hmark
  refine x_return (P := IsB ([true, false, true, false, false, false, false, false, false, false, (x.drop mark ++ x.take mark == x)] == (([true, false, true] ++ [false, false, false, false, false, false, false]) ++ [(x.drop mark ++ x.take mark == x)]))) X₁ (ev_cmp (X₁.locL (by rfl) List.mem_cons_self hp)
    (ev_addL (ev_addL (ev_list (args_pc (K := KB) ev_bool (args_pc (K := KB) ev_bool (args_pc (K := KB) ev_bool args_pn))) (by simp)) (ev_mul7 (ev_list (args_pc (K := KB) ev_bool args_pn) (by simp)) ev_int) (by simp))
      (ev_list (args_pc (K := KB) (ev_cmp (ev_add_str (ev_from (X₁.celS H.word) (X₁.locI hmark₁) hx16) (ev_to (X₁.celS H.word) (X₁.locI hmark₁) hx16) (Nat.le_trans (Nat.add_le_add (lD _) (lT _)) (by decide))) (X₁.celS H.word) (fun _ _ _ _ p => p) cmp_eq_str) args_pn) (by simp)) (by simp)) (fun _ _ _ x p => p.stay x) (cmp_eq_list eqK_B R.units)) fun v s₂ p X₂ => ⟨⟨_, _, _, X₂⟩, ?_⟩
  have e : ([true, false, true, false, false, false, false, false, false, false, (x.drop mark ++ x.take mark == x)] == (([true, false, true] ++ [false, false, false, false, false, false, false]) ++ [(x.drop mark ++ x.take mark == x)])) = true := by simp
  rw [e] at p
  cases (show v = .bool true from p); rfl
end
end Mine

end

section
open PySem PySem.W PyProof.Rows PySem.Spec
namespace Mine
/-- all that is wanted of a word -/
structure Fit (hand size : Nat) (x : List Nat) : Prop where
  per1 : ((upto 1 x.length).filter fun z => (x.take (x.length - z.toNat)).isSuffixOf x) = periodsF x
  per2 : ((upto 1 x.length).filter fun z => x.drop z.toNat == x.take (x.length - z.toNat)) = periodsF x
  p : ∃ p : Nat, (periodsF x)[0]? = some (p : Int) ∧ 1 ≤ p ∧ p ≤ size ∧ placeF hand x size < p ∧ leastF x (placeF hand x size) = p ∧
    ∀ cut : Nat, 1 ≤ cut → cut + max 1 (p - 1) ≤ size → maxF (((leastsF x size).drop cut).take (max 1 (p - 1))) = p
  asked : Asked x (max (placeF hand x size) 1)
section
variable {prog : Program} {w : World} {A : Around} {s : Shared} {mg mb : Str → Option Value} {s₀ : Shared} {m cm : Str → Option Value}
theorem wordF_len (c0 o size : Nat) : (wordF c0 o size).length = size := by unfold wordF; simp
theorem wordF_mem {c0 o size c : Nat} (h : c ∈ wordF c0 o size) : c = 34 ∨ c = o := by
  unfold wordF at h
  obtain ⟨k, _, e⟩ := List.mem_map.mp h
  split at e
  · exact .inl e.symm
  · exact .inr e.symm
theorem others_no {hand o : Nat} (hh : hand < 3) (ho : o ∈ othersF hand) : o ≠ 92 ∧ o ≠ 46 := by
  match hand, hh with
  | 0, _ => exact (by decide : ∀ o ∈ othersF 0, o ≠ 92 ∧ o ≠ 46) o ho
  | 1, _ => exact (by decide : ∀ o ∈ othersF 1, o ≠ 92 ∧ o ≠ 46) o ho
  | 2, _ => exact (by decide : ∀ o ∈ othersF 2, o ≠ 92 ∧ o ≠ 46) o ho
theorem law_walk {pm : Value} {c : Addr} {doc : Value} {L f D : Addr} {ns : List Int} (R : Room A 3) (Gl₀ : Gl mg mb s₀.heap)
    (X : St (Bares s₀.gens) s₀ s₀.heap (envAt 20 pm c doc L f) m cm [] { s with toks := s.toks + 1 }) (hscript : cm (Str.ofString "script") = some (.ref D)) (hints : IntsF ns (.ref D) s₀.heap) (hn63 : ns.length ≤ 63)
    (pure₁ : ∀ hand, hand < 3 → ∀ l, writ hand l = spell hand l)
    (pure₂ : ∀ hand o size x, hand < 3 → o ∈ othersF hand → 6 ≤ size → size ≤ 8 → x.length = size → (∀ c ∈ x, c = 34 ∨ c = o) → Fit hand size x) :
    wpAny (model prog w) A (execs ((defAt 20).body) (envAt 20 pm c doc L f)) (fun fl s' => (∃ m cm ls, St (Bares s₀.gens) s₀ s₀.heap (envAt 20 pm c doc L f) m cm ls s') ∧ fl = .ret (.bool true)) (fun _ _ => False) s := by
  refine Boxed.out (law_1 R.1 Gl₀ X hscript hints hn63 fun c0 c1 c2 D' ys s₁ b0 b1 b2 hp X₁ => ?_)
  refine Boxed.out (law_2 R.1 Gl₀ X₁ (upd_at _ _ _) hp b0 b1 b2 fun hand o size m₂ cm₂ ls₂ s₂ hh ho hs1 hs2 H₂ X₂ => ?_)
  have hx := wordF_len c0 o size
  have hmem : ∀ c ∈ wordF c0 o size, c = 34 ∨ c = o := fun c hc => wordF_mem hc
  have F := pure₂ hand o size _ hh ho hs1 hs2 hx hmem
  obtain ⟨o92, o46⟩ := others_no hh ho
  have h92 : 92 ∉ wordF c0 o size := fun h => by rcases hmem _ h with e | e <;> omega
  have h46 : 46 ∉ wordF c0 o size := fun h => by rcases hmem _ h with e | e <;> omega
  generalize wordF c0 o size = x at H₂ hx hmem F h92 h46
  obtain ⟨p, hp0, hp1, hps, hplace, hleast, hroom⟩ := F.p
  refine Boxed.out (law_6 (R.less (by omega)) Gl₀ X₂ H₂ hx hs2 fun cm₃ ls₃ s₃ X₃ H₃ HF₃ => ?_)
  refine Boxed.out (law_7 (R.less (by omega)) Gl₀ X₃ H₃ hx hs2 h92 HF₃ fun m₄ cm₄ ls₄ s₄ X₄ H₄ HF₄ HB₄ => ?_)
  refine Boxed.out (law_9 (R.less (by omega)) Gl₀ X₄ H₄ hx hs2 h92 h46 HF₄ HB₄ fun m₅ ls₅ s₅ X₅ hsub₅ HL₅ => ?_)
  have up : ∀ {α : Type} {K : α → Value → Prop} {as : List α} {ls ls' : List (Addr × List Value)} {v : Option Value}, (∀ p ∈ ls, p ∈ ls') → HasL K as ls v → HasL K as ls' v := fun hs ⟨D, ys, e, hm, hp⟩ => ⟨D, ys, e, hs _ hm, hp⟩
  have HF₅ := up hsub₅ HF₄
  have HB₅ := up hsub₅ HB₄
  refine Boxed.out (law_10 (R.less (by omega)) Gl₀ X₅ H₄ hx hs2 h46 F.per1 fun Dp ysp s₆ X₆ hpp => ?_)
  have sub₆ : ∀ q ∈ ls₅, q ∈ (Dp, ysp) :: ls₅ := fun q hq => List.mem_cons_of_mem _ hq
  refine Boxed.out (law_12 R Gl₀ X₆ H₄ hx (by omega) hs2 fun m₇ ls₇ s₇ X₇ hsub₇ hm₇ He₇ Hw₇ Hp₇ => ?_)
  have M₇ : LwM hand size x ls₇ m₇ := by
    refine ⟨?_, ?_, He₇, Hw₇, Hp₇⟩
    · rw [hm₇ _ (by decide) (by decide) (by decide), upd_off (by decide)]
      exact up hsub₇ (up sub₆ HL₅)
    · rw [hm₇ _ (by decide) (by decide) (by decide), upd_at]
      exact ⟨Dp, ysp, rfl, hsub₇ _ List.mem_cons_self, hpp⟩
  have HF₇ := up hsub₇ (up sub₆ HF₅)
  have HB₇ := up hsub₇ (up sub₆ HB₅)
  refine Boxed.out (law_15 R Gl₀ X₇ H₄ M₇ hx (by omega) hs2 hp0 hps hp1 hplace hleast hroom fun m₈ s₈ X₈ M₈ => ?_)
  refine Boxed.out (law_18 R Gl₀ X₈ H₄ M₈ hx (by omega) hs2 HF₇ HB₇ F.per2 fun s₉ X₉ => ?_)
  refine Boxed.out (law_21 R Gl₀ X₉ H₄ M₈ hx (by omega) hs2 h92 hh (pure₁ hand hh) fun m₁₀ s₁₀ X₁₀ Hm => ?_)
  exact Boxed.out (law_26 R Gl₀ X₁₀ H₄ hx hs2 h46 (by omega) (by omega) F.asked Hm)
end
end Mine

end

section
open PySem PySem.W PyProof.Rows PySem.Spec
namespace Mine
noncomputable def recAt (i : Nat) : DefRec := ⟨(defAt i).name, (defAt i).params, (defAt i).body, (defAt i).scope, (defAt i).pos⟩
noncomputable def freeOk (p : Program) (loose : List Str) (x : Str) : Bool := !(startupNames.contains x || loose.contains x || ((recsOf p).map (·.name)).contains x || ((litsOf p).map (·.1)).contains x || ((clssOf p loose).map (·.name)).contains x) && x != "__name__"
noncomputable def biNames : List String := ["len", "enumerate", "range", "max", "min", "sum"]
theorem gl_of_top {p : Program} {loose : List Str} {mean : ExcName → Option Value} {mg mb : Str → Option Value} {h : Heap} (T : Top p loose mean mg mb h)
    (hr : [0, 1, 2, 3, 5, 6, 7, 8, 9, 10, 11].map (fun k => (recsOf p)[k]?) = [2, 4, 5, 9, 12, 13, 14, 16, 17, 18, 19].map fun i => some (recAt i))
    (hfree : biNames.all (fun x => freeOk p loose (Str.ofString x)) = true)
    (hel : valOf p (Str.ofString "ELLIPSIS_MARKER") = some (.str (S [46, 46, 46]))) : Gl mg mb h := by
  refine ⟨T.g, T.b, T.nolimit, fun i hi => ?_, fun x hx => ?_, ?_⟩
  · have hmem : recAt i ∈ recsOf p := by
      have h2 : some (recAt i) ∈ [2, 4, 5, 9, 12, 13, 14, 16, 17, 18, 19].map fun i => some (recAt i) := List.mem_map.mpr ⟨i, hi, rfl⟩
      rw [← hr] at h2
      obtain ⟨k, _, hk⟩ := List.mem_map.mp h2
      exact List.mem_of_getElem? hk
    obtain ⟨a, o, pm, code, doc, h1, h2, h3, h4⟩ := T.fn _ hmem
    obtain ⟨c, _, _, _, rfl, _⟩ := id h4
    exact ⟨a, o, pm, c, doc, h1, h2, h3, h4⟩
  · have := List.all_eq_true.mp hfree x hx
    unfold freeOk at this
    rw [Bool.and_eq_true, Bool.not_eq_true', bne_iff_ne] at this
    obtain ⟨hf, hn⟩ := this
    simp only [Bool.or_eq_false_iff] at hf
    obtain ⟨⟨⟨⟨f1, f2⟩, f3⟩, f4⟩, f5⟩ := hf
    have no : ∀ {l : List Str}, l.contains (Str.ofString x) = false → Str.ofString x ∉ l := fun hc hm => by
      rw [List.contains_iff_mem.mpr hm] at hc; cases hc
    exact ⟨T.free _ (no f1) (no f2) (no f3) (no f4) (no f5), T.builtins _ hn⟩
  · obtain ⟨v, h1, h2⟩ := T.const _ _ hel
    have := h2 h
    cases this
    exact ⟨_, h1⟩

section
variable {prog : Program} {w : World} {A : Around} {mg mb : Str → Option Value}
theorem law_enter {s₁ : Shared} {fa D c : Addr} {o : Obj} {pm doc : Value} {ns : List Int} (R : Room A 4) (ho : s₁.heap.get? fa = some o)
    (hd : o.data = .func (Calls.docDef (defAt 20).name (defAt 20).params (defAt 20).body (defAt 20).scope pm (.ref c) doc)) (hcd : s₁.heap.CodeRec (.ref c) (defAt 20).name) (G : Gl mg mb s₁.heap) (hg : s₁.gens = #[])
    (hints : IntsF ns (.ref D) s₁.heap) (hn63 : ns.length ≤ 63)
    (pure₁ : ∀ hand, hand < 3 → ∀ l, writ hand l = spell hand l)
    (pure₂ : ∀ hand o size x, hand < 3 → o ∈ othersF hand → 6 ≤ size → size ≤ 8 → x.length = size → (∀ c ∈ x, c = 34 ∨ c = o) → Fit hand size x) :
    codeAny (model prog w) A (.call (.ref fa) ⟨[.ref D], []⟩) (fun r s' => r = .ok (.ret (.bool true)) ∧ ∃ h tk gs, s' = { s₁ with heap := h, toks := tk, gens := gs } ∧ Ext s₁.heap h ∧ ∀ x ∈ gs, x.bare = true) s₁ := by
  have hlim := G.lim
  refine codeAny_call_function R.depth ho hd rfl rfl rfl hcd ?_
  have hbind : bindArgs (Calls.docDef (defAt 20).name (defAt 20).params (defAt 20).body (defAt 20).scope pm (.ref c) doc) ⟨[.ref D], []⟩ = pure [(Str.ofString "script", .ref D)] := rfl
  rw [hbind]
  refine wpAny_pure (wpAny_newFunctionEnv_cells rfl (fun x hx => by
    rcases List.mem_cons.mp hx with rfl | hx
    · exact .inr ⟨rfl, by rfl⟩
    · cases hx) fun env he s₂ x => ?_)
  subst he
  have fresh : ∀ a, s₁.heap.objs.size ≤ a → s₁.heap.get? a = none := fun a ha => by
    cases e : s₁.heap.get? a with
    | none => rfl
    | some o => exact absurd (Heap.lt_size e) (Nat.not_lt.mpr ha)
  have hnd' : ((cellsFrom (s₁.heap.objs.size + 1) (defAt 20).scope.names []).map (·.1)).Nodup := by
    rw [cellsFrom_names (defAt 20).scope.names (s₁.heap.objs.size + 1) 0 [] [] rfl]; decide +kernel
  obtain ⟨h₁, tk₁, e₁, k₁⟩ := x.done
  have X : St (Bares s₁.gens) s₁ s₁.heap (envAt 20 pm c doc s₁.heap.objs.size fa) (bindL (envAt 20 pm c doc s₁.heap.objs.size fa).kindOf [(Str.ofString "script", .ref D)] fun _ => none) (bindC (envAt 20 pm c doc s₁.heap.objs.size fa).kindOf [(Str.ofString "script", .ref D)] fun _ => none) [] { s₂ with toks := s₂.toks + 1 } := by
    refine ⟨⟨h₁, s₂.toks + 1, s₁.gens, by rw [e₁], fun h => h⟩, Nat.succ_pos _, x.toInCall.keep, x.toInCall.ns, fresh _ (Nat.le_refl _), fun n c hc => x.cell n c (lookup_of_mem_uniq hnd' hc), x.apart, fun n c c' h1 h2 => ?_, fun n c hc => fresh _ (Nat.le_of_lt (x.above n c hc)), fun p hp => nomatch hp⟩
    have := lookup_of_mem_uniq hnd' h1
    rw [lookup_of_mem_uniq hnd' h2] at this
    exact (Option.some.inj this).symm
  refine ⟨hlim.keeps x.toInCall.keep, codeAny_func ?_⟩
  refine wpAny_mono (law_walk (A := A.deeper (envAt 20 pm c doc s₁.heap.objs.size fa)) (R.deeper _) G X (by rfl) hints hn63 pure₁ pure₂) (fun fl s' h' => ?_) fun _ _ h' => h'.elim
  obtain ⟨⟨m', cm', ls', X'⟩, rfl⟩ := h'
  have hkeep := X'.keep
  obtain ⟨h₂, tk₂, gs, e₂, hb⟩ := X'.same
  refine ⟨rfl, h₂, tk₂, gs, e₂, by rw [e₂] at hkeep; exact hkeep, hb ?_⟩
  rw [hg]; intro x hx; simp at hx
end
end Mine

end

section
open PySem PySem.W PyProof.Rows PySem.Spec
namespace Mine
/-! the writings, sign by sign -/
theorem rep_append (c : Nat) (z a b : List Nat) : rep c z (a ++ b) = rep c z a ++ rep c z b := by
  unfold rep; rw [List.flatMap_append]
theorem rep_one (c : Nat) (z : List Nat) (d : Nat) (h : d ≠ c) : rep c z [d] = [d] := by
  unfold rep; simp [h]
theorem esc0_append (a b : List Nat) : esc0 (a ++ b) = esc0 a ++ esc0 b := by unfold esc0; simp only [rep_append]
theorem esc1_append (a b : List Nat) : esc1 (a ++ b) = esc1 a ++ esc1 b := by unfold esc1; simp only [rep_append]
theorem esc2_append (a b : List Nat) : esc2 (a ++ b) = esc2 a ++ esc2 b := by unfold esc2; simp only [rep_append]
theorem writ_append (hand : Nat) (a b : List Nat) : writ hand (a ++ b) = writ hand a ++ writ hand b := by
  unfold writ
  split
  · exact esc0_append a b
  · split
    · exact esc1_append a b
    · exact esc2_append a b
theorem writ_nil (hand : Nat) : writ hand [] = [] := by
  unfold writ esc0 esc1 esc2 rep; simp
noncomputable def code (hand c : Nat) : List Nat := (tabF hand [c]).getD [c]
theorem writ_one {hand : Nat} (h : hand < 3) (c : Nat) : writ hand [c] = code hand c := by
  by_cases h1 : c = 38
  · subst h1; match hand, h with | 0, _ => rfl | 1, _ => rfl | 2, _ => rfl
  by_cases h2 : c = 60
  · subst h2; match hand, h with | 0, _ => rfl | 1, _ => rfl | 2, _ => rfl
  by_cases h3 : c = 62
  · subst h3; match hand, h with | 0, _ => rfl | 1, _ => rfl | 2, _ => rfl
  by_cases h4 : c = 34
  · subst h4; match hand, h with | 0, _ => rfl | 1, _ => rfl | 2, _ => rfl
  by_cases h5 : c = 13
  · subst h5; match hand, h with | 0, _ => rfl | 1, _ => rfl | 2, _ => rfl
  by_cases h6 : c = 10
  · subst h6; match hand, h with | 0, _ => rfl | 1, _ => rfl | 2, _ => rfl
  by_cases h7 : c = 9
  · subst h7; match hand, h with | 0, _ => rfl | 1, _ => rfl | 2, _ => rfl
  have l : writ hand [c] = [c] := by
    unfold writ esc0 esc1 esc2
    rw [rep_one 38 _ c h1]
    split
    · rw [rep_one 60 _ c h2, rep_one 62 _ c h3, rep_one 34 _ c h4, rep_one 13 _ c h5, rep_one 10 _ c h6, rep_one 9 _ c h7]
    · split
      · rw [rep_one 62 _ c h3, rep_one 34 _ c h4]
      · rw [rep_one 60 _ c h2, rep_one 34 _ c h4, rep_one 9 _ c h7, rep_one 10 _ c h6, rep_one 13 _ c h5]
  rw [l]
  have t0 : tab0 [c] = none := by unfold tab0 putF; simp [h1, h4]
  have tm : ∀ k, tabMid k [c] = none := fun k => by
    unfold tabMid
    unfold putF
    simp [h2, h5, h6, h7, t0]
  have : tabF hand [c] = none := by
    unfold tabF putF
    split
    · simp [h3, tm]
    · split
      · simp [h3, t0]
      · exact tm 2
  unfold code
  rw [this]; rfl
theorem writ_flat {hand : Nat} (h : hand < 3) : ∀ l : List Nat, writ hand l = l.flatMap (code hand)
  | [] => writ_nil hand
  | c :: r => by
    rw [show c :: r = [c] ++ r from rfl, writ_append, writ_one h, writ_flat h r]; simp
theorem spell_flat (hand : Nat) (l : List Nat) : spell hand l = l.flatMap (code hand) := by
  unfold spell code
  rw [List.map_map, List.flatMap_def]; rfl
theorem pure1 : ∀ hand, hand < 3 → ∀ l, writ hand l = spell hand l := fun hand h l => by rw [writ_flat h, spell_flat]

/-! periods three ways -/
theorem per_pre {x : List Nat} {s : Nat} (hs : s ≤ x.length) : (x.drop s).isPrefixOf x = (x.drop s == x.take (x.length - s)) := by
  rw [Bool.eq_iff_iff, List.isPrefixOf_iff_prefix, List.prefix_iff_eq_take, beq_iff_eq, List.length_drop]
theorem per_suf {x : List Nat} {s : Nat} (hs : s ≤ x.length) : (x.take (x.length - s)).isSuffixOf x = (x.drop s == x.take (x.length - s)) := by
  rw [Bool.eq_iff_iff, List.isSuffixOf_iff_suffix, List.suffix_iff_eq_drop, beq_iff_eq, List.length_take]
  rw [Nat.min_eq_left (Nat.sub_le _ _), Nat.sub_sub_self hs]
  exact eq_comm
theorem upto1_mem {n : Nat} {z : Int} (h : z ∈ upto 1 n) : 1 ≤ z.toNat ∧ z.toNat ≤ n := by
  unfold upto at h
  obtain ⟨j, hj, rfl⟩ := List.mem_map.mp h
  have := List.mem_range.mp hj
  omega
theorem per1 (x : List Nat) : ((upto 1 x.length).filter fun z => (x.take (x.length - z.toNat)).isSuffixOf x) = periodsF x :=
  List.filter_congr fun z hz => by rw [per_suf (upto1_mem hz).2, per_pre (upto1_mem hz).2]
theorem per2 (x : List Nat) : ((upto 1 x.length).filter fun z => x.drop z.toNat == x.take (x.length - z.toNat)) = periodsF x :=
  List.filter_congr fun z hz => by rw [per_pre (upto1_mem hz).2]
end Mine

end

section
open PySem PySem.W PyProof.Rows PySem.Spec
namespace Mine
theorem em_ne {a got : List Nat} {r : List (List Nat)} (ha : a ≠ []) : em (a :: r) got = (a.isPrefixOf got && ((r.getLastD []).isSuffixOf got && (decide (a.length + (r.getLastD []).length ≤ got.length) && emGo got (if (r.getLastD []).isEmpty then r else r.dropLast) a.length (got.length - (r.getLastD []).length)))) := by
  have he : a.isEmpty = false := by cases a <;> simp_all
  unfold em
  simp [he]
theorem em_nil {got : List Nat} {r : List (List Nat)} : em ([] :: r) got = ((([] :: r).getLastD []).isSuffixOf got && (decide (0 + (([] :: r : List (List Nat)).getLastD []).length ≤ got.length) && emGo got (if (([] :: r : List (List Nat)).getLastD []).isEmpty then [] :: r else ([] :: r : List (List Nat)).dropLast) 0 (got.length - (([] :: r : List (List Nat)).getLastD []).length))) := by
  unfold em
  simp
theorem atB_pre {x a : List Nat} (h : a <+: x) {hi : Nat} (hl : a.length ≤ hi) : atB x a hi 0 = true := by
  unfold atB
  rw [Nat.zero_add, decide_eq_true hl, List.drop_zero, Bool.true_and, beq_iff_eq]
  exact (List.prefix_iff_eq_take.mp h).symm
theorem fnd_zero {x a : List Nat} {hi : Nat} (h : atB x a hi 0 = true) : fnd x a 0 hi = some 0 := fnd_some.mpr ⟨Nat.le_refl _, h, fun i h1 h2 => by omega⟩
theorem fnd_long {x a : List Nat} {lo hi : Nat} (h : hi < lo + a.length) : fnd x a lo hi = none := fnd_none.mpr fun i h1 h2 => by
  unfold atB
  rw [decide_eq_false (by omega)]; rfl
theorem asked_fit {x : List Nat} {k : Nat} (h1 : 1 ≤ k) (h2 : k < x.length) : Asked x k := by
  have la : (x.take k).length = k := by simp; omega
  have lb : (x.drop k).length = x.length - k := by simp
  have lb1 : (x.drop (k - 1)).length = x.length - (k - 1) := by simp
  have la1 : (x.take (k + 1)).length = k + 1 := by simp; omega
  have na : x.take k ≠ [] := fun e => by rw [e] at la; simp at la; omega
  have nb : x.drop k ≠ [] := fun e => by rw [e] at lb; simp at lb; omega
  have nb1 : x.drop (k - 1) ≠ [] := fun e => by rw [e] at lb1; simp at lb1; omega
  have na1 : x.take (k + 1) ≠ [] := fun e => by rw [e] at la1; simp at la1
  have eb : (x.drop k).isEmpty = false := by cases h : x.drop k <;> simp_all
  have eb1 : (x.drop (k - 1)).isEmpty = false := by cases h : x.drop (k - 1) <;> simp_all
  have pa : (x.take k).isPrefixOf x = true := List.isPrefixOf_iff_prefix.mpr (List.take_prefix k x)
  have pa1 : (x.take (k + 1)).isPrefixOf x = true := List.isPrefixOf_iff_prefix.mpr (List.take_prefix _ x)
  have sb : (x.drop k).isSuffixOf x = true := List.isSuffixOf_iff_suffix.mpr (List.drop_suffix k x)
  have sb1 : (x.drop (k - 1)).isSuffixOf x = true := List.isSuffixOf_iff_suffix.mpr (List.drop_suffix _ x)
  have s0 : ([] : List Nat).isSuffixOf x = true := by simp
  have f0 : ∀ hi, fnd x [] 0 hi = some 0 := fun hi => fnd_nil (Nat.zero_le _)
  have fa : fnd x (x.take k) 0 x.length = some 0 := fnd_zero (atB_pre (List.take_prefix k x) (by omega))
  refine ⟨?_, ?_, ?_, ?_, ?_, ?_, ?_⟩
  · clear lb1 la1
    rw [em_ne na]
    show (_ && ((x.drop k).isSuffixOf x && (decide ((x.take k).length + (x.drop k).length ≤ x.length) && emGo x (if (x.drop k).isEmpty = true then [x.drop k] else []) (x.take k).length _))) = true
    rw [pa, sb, eb, decide_eq_true (by rw [la, lb, Nat.add_sub_cancel' (Nat.le_of_lt h2)]; exact Nat.le_refl _)]; rfl
  · clear la lb1 fa
    rw [em_ne na1]
    show (_ && ((x.drop k).isSuffixOf x && (decide ((x.take (k + 1)).length + (x.drop k).length ≤ x.length) && _))) = false
    rw [pa1, sb, decide_eq_false (by omega)]; rfl
  · clear lb1 la1
    rw [em_nil]
    show (([] : List Nat).isSuffixOf x && (decide (0 ≤ x.length) && emGo x [[], x.take k, x.drop k, []] 0 (x.length - 0))) = true
    rw [s0, decide_eq_true (Nat.zero_le _), Nat.sub_zero, emGo_cons, f0]
    show emGo x [x.take k, x.drop k, []] 0 x.length = true
    rw [emGo_cons, fa]
    show emGo x [x.drop k, []] (0 + (x.take k).length) x.length = true
    rw [la, Nat.zero_add, emGo_cons]
    have fb : fnd x (x.drop k) k x.length = some k := fnd_some.mpr ⟨Nat.le_refl _, by
      unfold atB
      rw [decide_eq_true (by omega), List.take_length]; simp, fun i h1 h2 => by omega⟩
    rw [fb]
    show emGo x [[]] (k + (x.drop k).length) x.length = true
    rw [emGo_cons, fnd_nil (by omega)]; rfl
  · clear lb la1
    rw [em_nil]
    show (([] : List Nat).isSuffixOf x && (decide (0 ≤ x.length) && emGo x [[], x.take k, x.drop (k - 1), []] 0 (x.length - 0))) = false
    rw [s0, decide_eq_true (Nat.zero_le _), Nat.sub_zero, emGo_cons, f0]
    show emGo x [x.take k, x.drop (k - 1), []] 0 x.length = false
    rw [emGo_cons, fa]
    show emGo x [x.drop (k - 1), []] (0 + (x.take k).length) x.length = false
    rw [la, Nat.zero_add, emGo_cons, fnd_long (by omega)]
  · clear lb la1 fa
    rw [em_nil]
    show ((x.drop (k - 1)).isSuffixOf x && (decide (0 + (x.drop (k - 1)).length ≤ x.length) && emGo x (if (x.drop (k - 1)).isEmpty = true then [[], x.take k, x.drop (k - 1)] else [[], x.take k]) 0 (x.length - (x.drop (k - 1)).length))) = false
    rw [sb1, eb1, decide_eq_true (by omega)]
    show emGo x [[], x.take k] 0 (x.length - (x.drop (k - 1)).length) = false
    rw [emGo_cons, f0]
    show emGo x [x.take k] 0 _ = false
    rw [emGo_cons, fnd_long (by omega)]
  · clear lb la1 fa
    rw [em_ne na]
    show (_ && (([] : List Nat).isSuffixOf x && (decide ((x.take k).length + ([] : List Nat).length ≤ x.length) && emGo x [x.drop (k - 1), []] (x.take k).length (x.length - 0)))) = false
    rw [pa, s0, Nat.sub_zero, la, emGo_cons, fnd_long (by omega)]; simp
  · clear lb1 la1
    rw [em_nil]
    show (([] : List Nat).isSuffixOf x && (decide (0 ≤ x.length) && emGo x [[], x.drop k, x.take k, []] 0 (x.length - 0))) = _
    rw [s0, decide_eq_true (Nat.zero_le _), Nat.sub_zero, emGo_cons, f0]
    show emGo x [x.drop k, x.take k, []] 0 x.length = _
    rw [emGo_cons]
    have hx : (x.drop k ++ x.take k == x) = true ↔ (x.drop k <+: x ∧ x.drop (x.length - k) = x.take k) := by
      rw [beq_iff_eq]
      constructor
      · intro h
        refine ⟨⟨_, h⟩, ?_⟩
        have : x.drop (x.drop k).length = x.take k := by
          conv => lhs; rw [← h]
          rw [h]; conv => lhs; arg 2; rw [← h]
          exact List.drop_left
        rw [lb] at this; exact this
      · rintro ⟨h1, h2⟩
        rw [← h2]
        have e := List.prefix_iff_eq_take.mp h1
        rw [lb] at e
        conv => lhs; arg 1; rw [e]
        exact List.take_append_drop _ _
    cases hf : fnd x (x.drop k) 0 x.length with
    | none =>
      have hn := fnd_none.mp hf 0 (Nat.le_refl _) (Nat.zero_le _)
      cases hc : x.drop k ++ x.take k == x with
      | false => rfl
      | true =>
        obtain ⟨h3, _⟩ := hx.mp hc
        rw [atB_pre h3 (by omega)] at hn; cases hn
    | some i =>
      obtain ⟨_, hi, hmin⟩ := fnd_some.mp hf
      show emGo x [x.take k, []] (i + (x.drop k).length) x.length = _
      by_cases hi0 : i = 0
      · subst hi0
        rw [emGo_cons, lb, Nat.zero_add]
        have pb : x.drop k <+: x := by
          unfold atB at hi
          rw [Bool.and_eq_true, beq_iff_eq] at hi
          rw [List.prefix_iff_eq_take]; exact hi.2.symm
        cases hf2 : fnd x (x.take k) (x.length - k) x.length with
        | none =>
          cases hc : x.drop k ++ x.take k == x with
          | false => rfl
          | true =>
            have h3 := (hx.mp hc).2
            have := fnd_none.mp hf2 (x.length - k) (Nat.le_refl _) (by omega)
            unfold atB at this
            rw [decide_eq_true (by omega), h3, List.take_of_length_le (Nat.le_refl _)] at this
            simp at this
        | some j =>
          obtain ⟨hj1, hj, _⟩ := fnd_some.mp hf2
          unfold atB at hj
          rw [Bool.and_eq_true, decide_eq_true_eq, beq_iff_eq] at hj
          have ej : j = x.length - k := by omega
          have hc : (x.drop k ++ x.take k == x) = true := hx.mpr ⟨pb, by
            have h3 := hj.2
            rw [ej, List.take_of_length_le (by simp; omega)] at h3; exact h3⟩
          rw [hc]
          show emGo x [[]] (j + (x.take k).length) x.length = true
          rw [emGo_cons, fnd_nil (by omega)]; rfl
      · have hl : i + (x.drop k).length ≤ x.length := by
          unfold atB at hi
          rw [Bool.and_eq_true, decide_eq_true_eq] at hi; exact hi.1
        rw [emGo_cons, fnd_long (by omega)]
        cases hc : x.drop k ++ x.take k == x with
        | false => rfl
        | true =>
          have h3 := (hx.mp hc).1
          have := hmin 0 (Nat.le_refl _) (by omega)
          rw [atB_pre h3 (by omega)] at this; cases this
end Mine

end

section
open PySem PySem.W PyProof.Rows PySem.Spec
namespace Mine
/-! the pattern of a word -/
noncomputable def tstB (x : List Bool) (cut size : Nat) : Bool := (x.drop (cut - size)).take (min (x.length - size) cut - (cut - size)) == (x.drop (cut - size + size)).take (min (x.length - size) cut - (cut - size))
noncomputable def leastB (x : List Bool) (cut : Nat) : Nat := match (List.range x.length).find? fun j => tstB x cut (j + 1) with | some j => j + 1 | none => 0
noncomputable def leastsB (x : List Bool) : List Int := (List.range x.length).map fun j => (leastB x j : Int)
noncomputable def lexB (s : Bool) : List Bool → List Bool → Bool
  | [], [] => false
  | [], _ :: _ => true
  | _ :: _, [] => false
  | a :: A, b :: B => if a == b then lexB s A B else a == s
noncomputable def bestB (s : Bool) (bs : List Bool) : Nat := argBest (fun i j => lexB s (bs.drop j) (bs.drop i)) (bs.length - 1)
noncomputable def firstB (bs : List Bool) : Option Nat := (List.range bs.length).find? fun j => bs.drop (j + 1) == bs.take (bs.length - (j + 1))
noncomputable def okB (bs : List Bool) : Bool := match firstB bs with
  | none => false
  | some j => decide (max (bestB false bs) (bestB true bs) < j + 1) && (leastB bs (max (bestB false bs) (bestB true bs)) == j + 1) &&
      (List.range bs.length).all fun cut => !(decide (1 ≤ cut) && decide (cut + max 1 (j + 1 - 1) ≤ bs.length)) || (maxF (((leastsB bs).drop cut).take (max 1 (j + 1 - 1))) == ((j + 1 : Nat) : Int))
noncomputable def allB : Nat → List (List Bool)
  | 0 => [[]]
  | n + 1 => (allB n).flatMap fun l => [false :: l, true :: l]
theorem allB_mem : ∀ (bs : List Bool), bs ∈ allB bs.length
  | [] => by simp [allB]
  | b :: r => by
    have := allB_mem r
    show b :: r ∈ (allB r.length).flatMap fun l => [false :: l, true :: l]
    rw [List.mem_flatMap]
    exact ⟨r, this, by cases b <;> simp⟩
theorem ok6 (a b c : Bool) : (allB 3).all (fun q => okB (a :: b :: c :: q)) = true := by cases a <;> cases b <;> cases c <;> decide +kernel
theorem ok7 (a b c : Bool) : (allB 4).all (fun q => okB (a :: b :: c :: q)) = true := by cases a <;> cases b <;> cases c <;> decide +kernel
theorem ok8 (a b c : Bool) : (allB 5).all (fun q => okB (a :: b :: c :: q)) = true := by cases a <;> cases b <;> cases c <;> decide +kernel
end Mine

end

section
open PySem PySem.W PyProof.Rows PySem.Spec
namespace Mine
/-! from the word to its pattern -/
noncomputable def vl (o : Nat) (b : Bool) : Nat := if b then o else 34
theorem vl_inj {o : Nat} (h : o ≠ 34) {a b : Bool} (e : vl o a = vl o b) : a = b := by
  cases a <;> cases b <;> simp_all [vl]
theorem map_beq {o : Nat} (h : o ≠ 34) : ∀ (a b : List Bool), (a.map (vl o) == b.map (vl o)) = (a == b)
  | [], [] => rfl
  | [], _ :: _ => rfl
  | _ :: _, [] => rfl
  | x :: A, y :: B => by
    rw [List.map_cons, List.map_cons, List.cons_beq_cons, List.cons_beq_cons, map_beq h A B]
    congr 1
    rw [Bool.eq_iff_iff, beq_iff_eq, beq_iff_eq]
    exact ⟨vl_inj h, fun e => by rw [e]⟩
theorem tst_map {o : Nat} (h : o ≠ 34) (bs : List Bool) (cut size : Nat) : tst (bs.map (vl o)) cut size = tstB bs cut size := by
  unfold tst tstB
  rw [List.length_map, ← List.map_drop, ← List.map_drop, ← List.map_take, ← List.map_take, map_beq h]
theorem least_map {o : Nat} (h : o ≠ 34) (bs : List Bool) (cut : Nat) : leastF (bs.map (vl o)) cut = leastB bs cut := by
  unfold leastF leastB
  rw [List.length_map]
  have : (fun j => tst (bs.map (vl o)) cut (j + 1)) = fun j => tstB bs cut (j + 1) := funext fun j => tst_map h bs cut _
  rw [this]
  all_goals (cases (List.range bs.length).find? fun j => tstB bs cut (j + 1) <;> rfl)
theorem leasts_map {o : Nat} (h : o ≠ 34) (bs : List Bool) : leastsF (bs.map (vl o)) bs.length = leastsB bs := by
  unfold leastsF leastsB
  exact List.map_congr_left fun j _ => by rw [least_map h]
theorem periods_map {o : Nat} (h : o ≠ 34) (bs : List Bool) : (periodsF (bs.map (vl o)))[0]? = (firstB bs).map fun j => ((j + 1 : Nat) : Int) := by
  rw [← per2]
  rw [← List.head?_eq_getElem?, List.head?_filter]
  unfold upto firstB
  rw [List.length_map, List.find?_map]
  have : ((fun z : Int => (bs.map (vl o)).drop z.toNat == (bs.map (vl o)).take (bs.length - z.toNat)) ∘ fun (j : Nat) => (1 : Int) + (j : Int)) = fun j => bs.drop (j + 1) == bs.take (bs.length - (j + 1)) := funext fun j => by
    show ((bs.map (vl o)).drop ((1 : Int) + (j : Int)).toNat == (bs.map (vl o)).take (bs.length - ((1 : Int) + (j : Int)).toNat)) = _
    rw [show ((1 : Int) + (j : Int)).toNat = j + 1 by omega, ← List.map_drop, ← List.map_take, map_beq h]
  rw [this]
  cases (List.range bs.length).find? fun j => bs.drop (j + 1) == bs.take (bs.length - (j + 1)) with
  | none => rfl
  | some j =>
    show some ((1 : Int) + (j : Int)) = some ((j + 1 : Nat) : Int)
    congr 1; omega

/-! order -/
theorem app_lt (u a b : List Nat) : u ++ a < u ++ b ↔ a < b := by
  induction u with
  | nil => exact Iff.rfl
  | cons c r ih =>
    rw [List.cons_append, List.cons_append, List.cons_lt_cons_iff]
    constructor
    · rintro (h | ⟨_, h⟩)
      · exact absurd h (Nat.lt_irrefl _)
      · exact ih.mp h
    · exact fun h => .inr ⟨rfl, ih.mpr h⟩
theorem bool_a : ∀ a s : Bool, ¬ a = s → a = !s := by decide
theorem bool_b : ∀ a b s : Bool, ¬ a = b → ¬ a = s → b = s := by decide
theorem lt_code {cd : Bool → List Nat} {s : Bool} {u P Q : List Nat} {p q : Nat} (hs : cd s = u ++ p :: P) (ht : cd (!s) = u ++ q :: Q) (hpq : p < q) : ∀ A B : List Bool, (A.flatMap cd < B.flatMap cd) ↔ lexB s A B = true
  | [], [] => by simp [lexB]
  | [], b :: B => by
    have hne : ∃ c r, cd b ++ B.flatMap cd = c :: r := by
      have : cd b = cd s ∨ cd b = cd (!s) := by cases b <;> cases s <;> simp
      rcases this with e | e
      · rw [e, hs]; cases u <;> exact ⟨_, _, rfl⟩
      · rw [e, ht]; cases u <;> exact ⟨_, _, rfl⟩
    obtain ⟨c, r, e⟩ := hne
    rw [List.flatMap_cons, e]
    simp [lexB]
  | a :: A, [] => by
    rw [List.flatMap_nil]
    simp [lexB]
  | a :: A, b :: B => by
    rw [List.flatMap_cons, List.flatMap_cons]
    by_cases hab : a = b
    · subst hab
      rw [app_lt, lt_code hs ht hpq A B]
      simp [lexB]
    · have hl : lexB s (a :: A) (b :: B) = (a == s) := by
        show (if a == b then _ else a == s) = _
        rw [if_neg (by simpa using hab)]
      rw [hl, beq_iff_eq]
      by_cases ha : a = s
      · subst ha
        have hb : b = !a := bool_a b a fun e => hab e.symm
        rw [hb, hs, ht, List.append_assoc, List.append_assoc, app_lt, List.cons_append, List.cons_append, List.cons_lt_cons_iff]
        simp [hpq]
      · have ha' : a = !s := bool_a a s ha
        have hb : b = s := bool_b a b s hab ha
        rw [ha', hb, hs, ht, List.append_assoc, List.append_assoc, app_lt, List.cons_append, List.cons_append, List.cons_lt_cons_iff]
        constructor
        · rintro (h | ⟨h, _⟩) <;> omega
        · intro h; cases s <;> simp at h
theorem argBest_le (bt : Nat → Nat → Bool) : ∀ k, argBest bt k ≤ k
  | 0 => Nat.le_refl _
  | k + 1 => by
    show (if bt (k + 1) (argBest bt k) then k + 1 else argBest bt k) ≤ k + 1
    have := argBest_le bt k
    split <;> omega
/-- the place of the greatest of the made suffixes -/
theorem top_code {cd : Bool → List Nat} {s : Bool} {u P Q : List Nat} {p q : Nat} (hs : cd s = u ++ p :: P) (ht : cd (!s) = u ++ q :: Q) (hpq : p < q) (bs : List Bool) (hne : 0 < bs.length) :
    topF ((List.range bs.length).map fun j => (bs.drop j).flatMap cd) = bestB s bs := by
  have hget : ∀ j, ((List.range bs.length).map fun j => (bs.drop j).flatMap cd).getD j [] = (bs.drop j).flatMap cd := fun j => by
    rw [List.getD_eq_getElem?_getD, List.getElem?_map]
    by_cases hj : j < bs.length
    · rw [List.getElem?_range hj]; rfl
    · rw [List.getElem?_eq_none (by simp; omega), List.drop_eq_nil_of_le (by omega)]; rfl
  have hbest : bestS ((List.range bs.length).map fun j => (bs.drop j).flatMap cd) = bestB s bs := by
    unfold bestS bestB
    rw [List.length_map, List.length_range]
    congr 1
    funext i j
    rw [hget, hget, Bool.eq_iff_iff, decide_eq_true_eq]
    exact lt_code hs ht hpq _ _
  have hlt : bestB s bs < bs.length := by
    unfold bestB
    have := argBest_le (fun i j => lexB s (bs.drop j) (bs.drop i)) (bs.length - 1)
    omega
  unfold topF
  rw [hbest, hget]
  have hcl : ∀ b, 0 < (cd b).length := fun b => by
    have : cd b = cd s ∨ cd b = cd (!s) := by cases b <;> cases s <;> simp
    rcases this with e | e
    · rw [e, hs]; simp; omega
    · rw [e, ht]; simp; omega
  have hlen : ∀ l : List Bool, l.length ≤ (l.flatMap cd).length := fun l => by
    induction l with
    | nil => exact Nat.le_refl _
    | cons a r ih => rw [List.flatMap_cons, List.length_append, List.length_cons]; have := hcl a; omega
  have hdec : ∀ i k, i < k → k ≤ bs.length → ((bs.drop k).flatMap cd).length < ((bs.drop i).flatMap cd).length := fun i k hik hk => by
    have e : bs.drop i = (bs.drop i).take (k - i) ++ bs.drop k := by
      conv => lhs; rw [← List.take_append_drop (k - i) (bs.drop i)]
      rw [List.drop_drop, Nat.add_sub_cancel' (Nat.le_of_lt hik)]
    rw [e, List.flatMap_append, List.length_append]
    have h1 := hlen ((bs.drop i).take (k - i))
    have h2 : ((bs.drop i).take (k - i)).length = k - i := by rw [List.length_take, List.length_drop]; exact Nat.min_eq_left (Nat.sub_le_sub_right hk i)
    omega
  unfold List.idxOf
  rw [List.findIdx_eq (by simpa using hlt)]
  constructor
  · simp
  · intro j hj
    simp only [List.getElem_map, List.getElem_range]
    have := hdec j (bestB s bs) hj (by omega)
    cases hc : ((bs.drop j).flatMap cd == (bs.drop (bestB s bs)).flatMap cd) with
    | false => rfl
    | true =>
      rw [beq_iff_eq] at hc
      rw [hc] at this; omega
end Mine

end

section
open PySem PySem.W PyProof.Rows PySem.Spec
namespace Mine
theorem codes {hand o : Nat} (hh : hand < 3) (ho : o ∈ othersF hand) : ∃ (u P Q : List Nat) (p q : Nat), code hand o = u ++ p :: P ∧ code hand 34 = u ++ q :: Q ∧ p < q := by
  match hand, hh with
  | 0, _ =>
    have : o = 35 ∨ o = 36 ∨ o = 37 ∨ o = 38 ∨ o = 60 ∨ o = 62 := by simpa [othersF] using ho
    rcases this with rfl | rfl | rfl | rfl | rfl | rfl
    · exact ⟨[], [], [113, 117, 111, 116, 59], 35, 38, rfl, rfl, by decide⟩
    · exact ⟨[], [], [113, 117, 111, 116, 59], 36, 38, rfl, rfl, by decide⟩
    · exact ⟨[], [], [113, 117, 111, 116, 59], 37, 38, rfl, rfl, by decide⟩
    · exact ⟨[38], [109, 112, 59], [117, 111, 116, 59], 97, 113, rfl, rfl, by decide⟩
    · exact ⟨[38], [116, 59], [117, 111, 116, 59], 108, 113, rfl, rfl, by decide⟩
    · exact ⟨[38], [116, 59], [117, 111, 116, 59], 103, 113, rfl, rfl, by decide⟩
  | 1, _ =>
    have : o = 35 ∨ o = 36 ∨ o = 37 ∨ o = 38 ∨ o = 62 := by simpa [othersF] using ho
    rcases this with rfl | rfl | rfl | rfl | rfl
    · exact ⟨[], [], [113, 117, 111, 116, 59], 35, 38, rfl, rfl, by decide⟩
    · exact ⟨[], [], [113, 117, 111, 116, 59], 36, 38, rfl, rfl, by decide⟩
    · exact ⟨[], [], [113, 117, 111, 116, 59], 37, 38, rfl, rfl, by decide⟩
    · exact ⟨[38], [109, 112, 59], [117, 111, 116, 59], 97, 113, rfl, rfl, by decide⟩
    · exact ⟨[38], [116, 59], [117, 111, 116, 59], 103, 113, rfl, rfl, by decide⟩
  | 2, _ =>
    have : o = 35 ∨ o = 36 ∨ o = 37 ∨ o = 38 ∨ o = 60 := by simpa [othersF] using ho
    rcases this with rfl | rfl | rfl | rfl | rfl
    · exact ⟨[], [], [113, 117, 111, 116, 59], 35, 38, rfl, rfl, by decide⟩
    · exact ⟨[], [], [113, 117, 111, 116, 59], 36, 38, rfl, rfl, by decide⟩
    · exact ⟨[], [], [113, 117, 111, 116, 59], 37, 38, rfl, rfl, by decide⟩
    · exact ⟨[38], [109, 112, 59], [117, 111, 116, 59], 97, 113, rfl, rfl, by decide⟩
    · exact ⟨[38], [116, 59], [117, 111, 116, 59], 108, 113, rfl, rfl, by decide⟩
theorem others_gt {hand o : Nat} (hh : hand < 3) (ho : o ∈ othersF hand) : 34 < o := by
  match hand, hh with
  | 0, _ => exact (by decide : ∀ o ∈ othersF 0, 34 < o) o ho
  | 1, _ => exact (by decide : ∀ o ∈ othersF 1, 34 < o) o ho
  | 2, _ => exact (by decide : ∀ o ∈ othersF 2, 34 < o) o ho
theorem place_map {hand o : Nat} (hh : hand < 3) (ho : o ∈ othersF hand) (bs : List Bool) (hne : 0 < bs.length) :
    placeF hand (bs.map (vl o)) bs.length = max (bestB false bs) (bestB true bs) := by
  have e1 : endsF (bs.map (vl o)) bs.length = (List.range bs.length).map fun j => (bs.drop j).flatMap fun b => [vl o b] := by
    unfold endsF
    refine List.map_congr_left fun j _ => ?_
    rw [← List.map_drop, List.map_eq_flatMap]
  have e2 : (endsF (bs.map (vl o)) bs.length).map (writ hand) = (List.range bs.length).map fun j => (bs.drop j).flatMap fun b => code hand (vl o b) := by
    unfold endsF
    rw [List.map_map]
    refine List.map_congr_left fun j _ => ?_
    show writ hand ((bs.map (vl o)).drop j) = _
    rw [writ_flat hh, ← List.map_drop, List.flatMap_map]
  obtain ⟨u, P, Q, p, q, h1, h2, h3⟩ := codes hh ho
  unfold placeF
  rw [e2, e1]
  rw [top_code (cd := fun b => [vl o b]) (s := false) (u := []) (P := []) (Q := []) (p := 34) (q := o) rfl rfl (others_gt hh ho) bs hne]
  rw [top_code (cd := fun b => code hand (vl o b)) (s := true) (u := u) (P := P) (Q := Q) (p := p) (q := q) h1 h2 h3 bs hne]
theorem okB_all : ∀ {bs : List Bool}, 6 ≤ bs.length → bs.length ≤ 8 → okB bs = true
  | [], h6, _ => absurd h6 (by decide)
  | [_], h6, _ => absurd h6 (by simp)
  | [_, _], h6, _ => absurd h6 (by simp)
  | a :: b :: c :: q, h6, h8 => by
    have hm := allB_mem q
    simp only [List.length_cons] at h6 h8
    have : q.length = 3 ∨ q.length = 4 ∨ q.length = 5 := by omega
    rcases this with e | e | e
    · rw [e] at hm; exact List.all_eq_true.mp (ok6 a b c) q hm
    · rw [e] at hm; exact List.all_eq_true.mp (ok7 a b c) q hm
    · rw [e] at hm; exact List.all_eq_true.mp (ok8 a b c) q hm
theorem pure2 : ∀ hand o size x, hand < 3 → o ∈ othersF hand → 6 ≤ size → size ≤ 8 → x.length = size → (∀ c ∈ x, c = 34 ∨ c = o) → Fit hand size x := by
  intro hand o size x hh ho h6 h8 hx hc
  have hgt := others_gt hh ho
  have ho34 : o ≠ 34 := by omega
  obtain ⟨bs, rfl⟩ : ∃ bs : List Bool, x = bs.map (vl o) := by
    refine ⟨x.map (fun c => c == o), ?_⟩
    rw [List.map_map]
    conv => lhs; rw [← List.map_id x]
    refine List.map_congr_left fun c hm => ?_
    show c = vl o (c == o)
    unfold vl
    rcases hc c hm with e | e
    · have : (c == o) = false := by rw [e]; simpa using fun h => ho34 h.symm
      rw [this]; exact e
    · have : (c == o) = true := by simpa using e
      rw [this]; exact e
  rw [List.length_map] at hx
  subst hx
  have hok := okB_all h6 h8
  unfold okB at hok
  have hper := periods_map ho34 bs
  have hpl := place_map hh ho bs (by omega)
  cases hf : firstB bs with
  | none => rw [hf] at hok; cases hok
  | some j =>
    rw [hf] at hok hper
    simp only [Bool.and_eq_true, decide_eq_true_eq, beq_iff_eq] at hok
    obtain ⟨⟨h1, h2⟩, h3⟩ := hok
    have hj : j < bs.length := by
      have := List.mem_of_find?_eq_some hf
      exact List.mem_range.mp this
    refine ⟨per1 _, per2 _, ⟨j + 1, hper, by omega, by omega, by rw [hpl]; exact h1, by rw [hpl, least_map ho34]; exact h2, fun cut hc1 hc2 => ?_⟩, ?_⟩
    · have := List.all_eq_true.mp h3 cut (List.mem_range.mpr (by omega))
      rw [Bool.or_eq_true, Bool.not_eq_true', beq_iff_eq] at this
      rcases this with e | e
      · rw [decide_eq_true hc1, decide_eq_true hc2] at e; cases e
      · rw [leasts_map ho34]; exact e
    · rw [hpl]
      exact asked_fit (by omega) (by rw [List.length_map]; omega)
end Mine

end

section
open PySem PySem.W PyProof.Rows
namespace Mine
theorem ints_pts : ∀ {vs : List Value} {ns : List Int}, IntsAre vs ns → Pts KI ns vs
  | _, _, .nil => Pts.nil
  | _, _, .cons n t h => Pts.cons ⟨t, rfl⟩ (ints_pts h)
theorem ints_of {h : Heap} {D : Addr} {vs : List Value} {ns : List Int} (hl : h.IsList D vs.toArray) (hi : IntsAre vs ns) : IntsF ns (.ref D) h := ⟨D, vs, rfl, hl, ints_pts hi⟩
end Mine
end

open PySem PySem.W PyProof.Rows
set_option maxHeartbeats 8000000 in
theorem PySem.Challenge.cw_wr0026_01_holds : PySem.Challenge.rw_wr0026_01.Holds := by
  w_on
  o_law
  o_head Hook.none
  (case hw => w_witness2)
  intro w s₀ s₁ mg mb G Y fa o pm cd doc dV kV ho hd hcd hD hmg hg args vals as hpre hlay hrd hwl hlo
  refine Ground.open G ?_
  intro T B D TE TW
  have GG : Mine.Gl mg mb s₁.heap := Mine.gl_of_top T (by kernel_rfl) (by decide +kernel) (by kernel_rfl)
  have hdV : dV = .none := hD.pos.elim (fun h => h.2) (fun h => absurd rfl h.1)
  have hkV : kV = .none := hD.kw.elim (fun h => h.2) (fun h => absurd rfl h.1)
  subst hdV hkV
  wrow_args hpre hlay hrd hwl hlo
  refine enter_call ?_
  obtain ⟨c, _, _, _, rfl, _⟩ := id hcd
  rename Heap.IsList _ _ _ => hL9
  rename IntsAre _ _ => hI9
  rename ¬ _ => hlen9
  refine codeAny_mono (Mine.law_enter ⟨rfl, by decide, by decide⟩ ho hd hcd GG hg (Mine.ints_of hL9 hI9) (by omega) Mine.pure1 Mine.pure2) (fun r s' h' => ?_)
  obtain ⟨rfl, h2, tk2, gs2, rfl, hx2, hb2⟩ := h'
  refine ⟨.inl ⟨.bool true, .bool true, [], rfl, fun cls => ?_, .bool true, ?_, fun _ => ⟨List.nodup_nil, fun a ha => nomatch ha⟩⟩, .of_keep hx2, rfl, hb2⟩
  · rfl
  · kernel_rfl

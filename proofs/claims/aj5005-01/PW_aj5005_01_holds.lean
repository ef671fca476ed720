import PyProof.Rows.All
import Wide.All
import OpenK.AllK
import Wide.FinOn
import KE.KBits
import Lean
import PySem.Challenge.RW_aj5005_01
set_option Elab.async false
-- part AJHead
section
open PySem PySem.W PyProof.Rows
namespace Mine
set_option maxRecDepth 100000 in
set_option maxHeartbeats 8000000 in
open_top hd for PySem.Challenge.rw_aj5005_01
end Mine
end
-- part AJA
section
open PySem PySem.W PyProof.Rows
namespace Mine
mutual
/-- data that stand on the heap -/
inductive Rep (h : Heap) : Value → PyData → Prop
  | none : Rep h .none .none
  | bool (b : Bool) : Rep h (.bool b) (.bool b)
  | int (i : Int) (t : Tok) : Rep h (.int i t) (.int i)
  | str (x : Str) (t : Tok) : Rep h (.str x t) (.str x)
  | tup0 {a : Addr} {o : Obj} {vs : Array Value} {n : Nat} {l : List PyData} : h.get? a = some o → o.cls = .type "tuple" → o.data = .seq vs n → Reps h vs.toList l → Rep h (.ref a) (.tuple l)
  | lst0 {a : Addr} {o : Obj} {vs : Array Value} {n : Nat} {l : List PyData} : h.get? a = some o → o.cls = .type "list" → o.data = .seq vs n → Reps h vs.toList l → Rep h (.ref a) (.list l)
inductive Reps (h : Heap) : List Value → List PyData → Prop
  | nil : Reps h [] []
  | cons {v : Value} {d : PyData} {vs : List Value} {ds : List PyData} : Rep h v d → Reps h vs ds → Reps h (v :: vs) (d :: ds)
end
def Keeps (h h' : Heap) : Prop := ∀ b o, h.get? b = some o → h'.get? b = some o
/-- the tuples and lists stay -/
def SeqKeeps (h h' : Heap) : Prop := ∀ b o vs n, o.data = .seq vs n → h.get? b = some o → h'.get? b = some o
theorem Keeps.refl (h : Heap) : Keeps h h := fun _ _ e => e
theorem Keeps.trans {a b c : Heap} (x : Keeps a b) (y : Keeps b c) : Keeps a c := fun _ _ e => y _ _ (x _ _ e)
theorem Keeps.push (h : Heap) (o : Obj) : Keeps h (h.push o) := fun _ _ e => Heap.get?_push_of_some _ e
theorem Keeps.seq {h h' : Heap} (k : Keeps h h') : SeqKeeps h h' := fun _ _ _ _ _ e => k _ _ e
mutual
theorem Rep.seqKeeps {h h' : Heap} (k : SeqKeeps h h') : ∀ {v : Value} {d : PyData}, Rep h v d → Rep h' v d
  | _, _, .none => .none
  | _, _, .bool b => .bool b
  | _, _, .int i t => .int i t
  | _, _, .str x t => .str x t
  | _, _, .tup0 h1 h2 h3 h4 => .tup0 (k _ _ _ _ h3 h1) h2 h3 (Reps.seqKeeps k h4)
  | _, _, .lst0 h1 h2 h3 h4 => .lst0 (k _ _ _ _ h3 h1) h2 h3 (Reps.seqKeeps k h4)
theorem Reps.seqKeeps {h h' : Heap} (k : SeqKeeps h h') : ∀ {v : List Value} {d : List PyData}, Reps h v d → Reps h' v d
  | _, _, .nil => .nil
  | _, _, .cons a b => .cons (Rep.seqKeeps k a) (Reps.seqKeeps k b)
end
mutual
theorem Rep.reads {h : Heap} : ∀ {v : Value} {d : PyData}, Rep h v d → ∃ as, Reads h v d as
  | _, _, .none => ⟨_, .none⟩
  | _, _, .bool b => ⟨_, .bool b⟩
  | _, _, .int i t => ⟨_, .int i t⟩
  | _, _, .str x t => ⟨_, .str x t⟩
  | _, _, .tup0 h1 h2 h3 h4 => let ⟨_, r⟩ := Reps.reads h4; ⟨_, .tuple h1 h2 h3 r⟩
  | _, _, .lst0 h1 h2 h3 h4 => let ⟨_, r⟩ := Reps.reads h4; ⟨_, .list h1 h2 h3 r⟩
theorem Reps.reads {h : Heap} : ∀ {v : List Value} {d : List PyData}, Reps h v d → ∃ as, ReadsAll h v d as
  | _, _, .nil => ⟨_, .nil⟩
  | _, _, .cons a b => let ⟨_, r⟩ := Rep.reads a; let ⟨_, q⟩ := Reps.reads b; ⟨_, .cons r q⟩
end
theorem Rep.keeps {h h' : Heap} {v : Value} {d : PyData} (x : Rep h v d) (k : Keeps h h') : Rep h' v d := x.seqKeeps k.seq
theorem Reps.keeps {h h' : Heap} {v : List Value} {d : List PyData} (x : Reps h v d) (k : Keeps h h') : Reps h' v d := x.seqKeeps k.seq
theorem Reps.inv_nil {h : Heap} {vs : List Value} (x : Reps h vs []) : vs = [] := by cases x; rfl
theorem Reps.inv_cons {h : Heap} {vs : List Value} {d : PyData} {ds : List PyData} (x : Reps h vs (d :: ds)) : ∃ v vs', vs = v :: vs' ∧ Rep h v d ∧ Reps h vs' ds := by
  cases x with
  | cons a b => exact ⟨_, _, rfl, a, b⟩
theorem Reps.length {h : Heap} : ∀ {ds : List PyData} {vs : List Value}, Reps h vs ds → vs.length = ds.length
  | [], _, x => by rw [x.inv_nil]; rfl
  | _ :: _, _, x => by obtain ⟨v, vs', rfl, _, y⟩ := x.inv_cons; simp [y.length]
theorem Reps.get {h : Heap} : ∀ {ds : List PyData} {vs : List Value} {k : Nat} {d : PyData}, Reps h vs ds → ds[k]? = some d → ∃ v, vs[k]? = some v ∧ Rep h v d
  | [], _, k, d, _, e => by simp at e
  | _ :: _, _, 0, d, x, e => by
    obtain ⟨v, vs', rfl, q, _⟩ := x.inv_cons
    simp at e; subst e; exact ⟨v, rfl, q⟩
  | _ :: _, _, k + 1, d, x, e => by
    obtain ⟨v, vs', rfl, _, y⟩ := x.inv_cons
    simp at e
    obtain ⟨u, hu, hr⟩ := y.get e
    exact ⟨u, by simpa using hu, hr⟩
theorem Reps.append {h : Heap} : ∀ {ds : List PyData} {vs : List Value} {es : List PyData} {us : List Value}, Reps h vs ds → Reps h us es → Reps h (vs ++ us) (ds ++ es)
  | [], _, _, _, x, y => by rw [x.inv_nil]; exact y
  | _ :: _, _, _, _, x, y => by
    obtain ⟨v, vs', rfl, q, z⟩ := x.inv_cons
    exact Reps.cons q (z.append y)
theorem Rep.none_inv {h : Heap} {v : Value} (x : Rep h v .none) : v = .none := by cases x; rfl
theorem Rep.int_inv {h : Heap} {v : Value} {i : Int} (x : Rep h v (.int i)) : ∃ t, v = .int i t := by cases x; exact ⟨_, rfl⟩
theorem Rep.bool_inv {h : Heap} {v : Value} {i : Bool} (x : Rep h v (.bool i)) : v = .bool i := by cases x; rfl
theorem Rep.str_inv {h : Heap} {v : Value} {i : Str} (x : Rep h v (.str i)) : ∃ t, v = .str i t := by cases x; exact ⟨_, rfl⟩
theorem Rep.tup_inv {h : Heap} {v : Value} {l : List PyData} (x : Rep h v (.tuple l)) : ∃ a vs, v = .ref a ∧ IsTup h a vs.toArray ∧ Reps h vs l := by
  cases x with
  | tup0 h1 h2 h3 h4 => exact ⟨_, _, rfl, ⟨_, h1, h2, _, by simpa using h3⟩, h4⟩
theorem Rep.lst_inv {h : Heap} {v : Value} {l : List PyData} (x : Rep h v (.list l)) : ∃ a vs, v = .ref a ∧ h.IsList a vs.toArray ∧ Reps h vs l := by
  cases x with
  | lst0 h1 h2 h3 h4 => exact ⟨_, _, rfl, ⟨_, h1, h2, _, by simpa using h3⟩, h4⟩
theorem Rep.tup {h : Heap} {a : Addr} {vs : List Value} {l : List PyData} (x : IsTup h a vs.toArray) (y : Reps h vs l) : Rep h (.ref a) (.tuple l) := by
  obtain ⟨o, h1, h2, n, h3⟩ := x
  exact .tup0 h1 h2 h3 (by simpa using y)
theorem Rep.lst {h : Heap} {a : Addr} {vs : List Value} {l : List PyData} (x : h.IsList a vs.toArray) (y : Reps h vs l) : Rep h (.ref a) (.list l) := by
  obtain ⟨o, h1, h2, n, h3⟩ := x
  exact .lst0 h1 h2 h3 (by simpa using y)
/-- a later state: the heap has grown, nothing else -/
def Ext (s s' : Shared) : Prop := ∃ h tk, s' = { s with heap := h, toks := tk } ∧ Keeps s.heap h
theorem Ext.refl (s : Shared) : Ext s s := ⟨s.heap, s.toks, rfl, .refl _⟩
theorem Ext.trans {a b c : Shared} (x : Ext a b) (y : Ext b c) : Ext a c := by
  obtain ⟨h, tk, rfl, k⟩ := x
  obtain ⟨h', tk', rfl, k'⟩ := y
  exact ⟨h', tk', rfl, k.trans k'⟩
theorem Ext.keeps {a b : Shared} (x : Ext a b) : Keeps a.heap b.heap := by obtain ⟨h, tk, rfl, k⟩ := x; exact k
theorem Ext.tok (s : Shared) (tk : Nat) : Ext s { s with toks := tk } := ⟨s.heap, tk, rfl, .refl _⟩
theorem Ext.heap (s : Shared) {h : Heap} (tk : Nat) (k : Keeps s.heap h) : Ext s { s with heap := h, toks := tk } := ⟨h, tk, rfl, k⟩
inductive BOp where | add | sub | mul | div | mod | shl | shr | band | bxor | pow
  deriving DecidableEq
def BOp.op : BOp → Operator
  | .add => .Add | .sub => .Sub | .mul => .Mult | .div => .FloorDiv | .mod => .Mod | .shl => .LShift | .shr => .RShift | .band => .BitAnd | .bxor => .BitXor | .pow => .Pow
def mulOk (a b : Int) : Bool := !(decide (Builtin.Int.intBits a > shortFactorBits) && decide (Builtin.Int.intBits b > shortFactorBits) && Builtin.Int.intTooBig (Builtin.Int.intBits a + Builtin.Int.intBits b))
def divOk (a b : Int) : Bool := decide (b ≠ 0) && !Builtin.divisionGoesByPylong a b
def shlOk (a n : Int) : Bool := decide (0 ≤ n) && decide (Builtin.Int.intBits a + n.toNat ≤ 2 ^ 27)
theorem shlOk_is {a n : Int} (h : shlOk a n = true) : 0 ≤ n ∧ (Builtin.Int.intBits a : Int) + n ≤ 2 ^ 27 := by
  simp only [shlOk, Bool.and_eq_true, decide_eq_true_eq] at h
  exact ⟨h.1, by omega⟩
def powOk (a n : Int) : Bool := decide (0 ≤ n) && decide (n.toNat ≤ 1000000) && decide (a.natAbs < 2 ^ 64)
theorem powOk_is {a n : Int} (h : powOk a n = true) : (0 ≤ n ∧ n ≤ 1000000) ∧ a.natAbs < 2 ^ 64 := by
  simp only [powOk, Bool.and_eq_true, decide_eq_true_eq] at h
  exact ⟨⟨h.1.1, by omega⟩, h.2⟩
def guardO {α : Type} (b : Bool) (x : α) : Option α := match b with | true => some x | false => none
theorem guardO_some {α : Type} {b : Bool} {x y : α} (h : guardO b x = some y) : b = true ∧ x = y := by cases b <;> simp_all [guardO]
def BOp.run : BOp → Int → Int → Option Int
  | .add, a, b => some (a + b)
  | .sub, a, b => some (a - b)
  | .mul, a, b => guardO (mulOk a b) (a * b)
  | .div, a, b => guardO (divOk a b) (a.fdiv b)
  | .mod, a, b => guardO (decide (b ≠ 0)) (a.fmod b)
  | .shl, a, b => guardO (shlOk a b) (a * 2 ^ b.toNat)
  | .shr, a, b => guardO (decide (0 ≤ b)) (a.fdiv (2 ^ b.toNat))
  | .band, a, b => some (Builtin.bitAnd a b)
  | .bxor, a, b => some (Builtin.bitXor a b)
  | .pow, a, b => guardO (powOk a b) (a ^ b.toNat)
section
variable {prog : Program} {w : World} {A : Around} {E : Value → Shared → Prop} {s : Shared} {a b r : Int} {t u : Tok} {Q : Value → Shared → Prop}
theorem bin_sound (hh : A.handled = none) (o : BOp) (hr : o.run a b = some r) (h : ∀ t s', Ext s s' → Q (.int r t) s') : wpAny (model prog w) A (binaryOp o.op (.int a t) (.int b u)) Q E s := by
  have go : Q (.int r s.toks) { s with toks := s.toks + 1 } := h _ _ (Ext.tok _ _)
  cases o <;> simp only [BOp.run, Option.some.injEq] at hr
  · subst hr; exact add_int go
  · subst hr; exact sub_int go
  · obtain ⟨h1, rfl⟩ := guardO_some hr
    refine mul_int go ?_
    unfold IntMulOk; unfold mulOk at h1; intro h2; rw [h2] at h1; cases h1
  · obtain ⟨h1, rfl⟩ := guardO_some hr
    simp only [divOk, Bool.and_eq_true, decide_eq_true_eq, Bool.not_eq_true'] at h1
    exact floordiv_int h1.1 go (.inl h1.2)
  · obtain ⟨h1, rfl⟩ := guardO_some hr
    exact mod_int' (of_decide_eq_true h1) go
  · obtain ⟨h1, rfl⟩ := guardO_some hr
    have h1 := shlOk_is h1
    exact lshift_int_or hh (fun hn => absurd h1.1 (by omega)) (fun _ => h1.2) (fun _ => go)
  · obtain ⟨h1, rfl⟩ := guardO_some hr
    exact rshift_int (of_decide_eq_true h1) go
  · subst hr; exact and_int go
  · subst hr; exact xor_int go
  · obtain ⟨h1, rfl⟩ := guardO_some hr
    have h1 := powOk_is h1
    exact pow_int_small h1.1.1 h1.1.2 h1.2 go
end
inductive IOp where | iadd | isub | ishl | ishr | ixor
  deriving DecidableEq
def IOp.op : IOp → Operator
  | .iadd => .Add | .isub => .Sub | .ishl => .LShift | .ishr => .RShift | .ixor => .BitXor
def IOp.b : IOp → BOp
  | .iadd => .add | .isub => .sub | .ishl => .shl | .ishr => .shr | .ixor => .bxor
section
variable {prog : Program} {w : World} {A : Around} {E : Value → Shared → Prop} {s : Shared} {a b r : Int} {t u : Tok} {Q : Value → Shared → Prop}
theorem inp_sound (_hh : A.handled = none) (o : IOp) (hr : o.b.run a b = some r) (h : ∀ t s', Ext s s' → Q (.int r t) s') : wpAny (model prog w) A (inplaceOp o.op (.int a t) (.int b u)) Q E s := by
  have go : Q (.int r s.toks) { s with toks := s.toks + 1 } := h _ _ (Ext.tok _ _)
  cases o <;> simp only [IOp.b, BOp.run, Option.some.injEq] at hr
  · subst hr; exact iadd_int go
  · subst hr; exact isub_int go
  · obtain ⟨h1, rfl⟩ := guardO_some hr
    have h1 := shlOk_is h1
    exact ilshift_int h1.1 h1.2 go
  · obtain ⟨h1, rfl⟩ := guardO_some hr
    exact irshift_int (of_decide_eq_true h1) go
  · subst hr; exact ixor_int go
end
inductive COp where | eq | ne | lt | le | gt | ge | isin
  deriving DecidableEq
def COp.op : COp → CmpOp
  | .eq => .Eq | .ne => .NotEq | .lt => .Lt | .le => .LtE | .gt => .Gt | .ge => .GtE | .isin => .In
def COp.run : COp → PyData → PyData → Option Bool
  | .eq, a, b => guardO (SeqAt.shaped a && SeqAt.shaped b) (PyData.eqv a b)
  | .ne, a, b => guardO (SeqAt.shaped a && SeqAt.shaped b) (!PyData.eqv a b)
  | .lt, .int a, .int b => some (decide (a < b))
  | .le, .int a, .int b => some (decide (a ≤ b))
  | .gt, .int a, .int b => some (decide (b < a))
  | .ge, .int a, .int b => some (decide (b ≤ a))
  | .isin, .str y, .str x => some (!(Builtin.Str.occurrences x y 0 x.length 1).isEmpty)
  | _, _, _ => none
section
variable {prog : Program} {w : World} {A : Around} {E : Value → Shared → Prop} {s : Shared} {v u : Value} {a b : PyData} {r : Bool} {Q : Value → Shared → Prop}
theorem cmp_sound (hu : A.units + 64 < cLine) (o : COp) (hr : o.run a b = some r) (ha : Rep s.heap v a) (hb : Rep s.heap u b) (h : Q (.bool r) s) : wpAny (model prog w) A (compareOp o.op v u) Q E s := by
  cases o
  · obtain ⟨h1, rfl⟩ := guardO_some hr
    obtain ⟨as, ra⟩ := ha.reads
    obtain ⟨bs, rb⟩ := hb.reads
    simp only [Bool.and_eq_true] at h1
    exact eq_dataH ra rb h1.1 h1.2 hu h
  · obtain ⟨h1, rfl⟩ := guardO_some hr
    obtain ⟨as, ra⟩ := ha.reads
    obtain ⟨bs, rb⟩ := hb.reads
    simp only [Bool.and_eq_true] at h1
    exact ne_dataH ra rb h1.1 h1.2 hu h
  all_goals
    cases a <;> cases b <;> simp only [COp.run, Option.some.injEq, reduceCtorEq] at hr
  · obtain ⟨t, rfl⟩ := ha.int_inv; obtain ⟨t', rfl⟩ := hb.int_inv; subst hr; exact lt_int h
  · obtain ⟨t, rfl⟩ := ha.int_inv; obtain ⟨t', rfl⟩ := hb.int_inv; subst hr; exact le_int h
  · obtain ⟨t, rfl⟩ := ha.int_inv; obtain ⟨t', rfl⟩ := hb.int_inv; subst hr; exact gt_int h
  · obtain ⟨t, rfl⟩ := ha.int_inv; obtain ⟨t', rfl⟩ := hb.int_inv; subst hr; exact ge_int h
  · obtain ⟨t, rfl⟩ := ha.str_inv; obtain ⟨t', rfl⟩ := hb.str_inv; subst hr; exact in_str h
end
def truth : PyData → Option Bool
  | .bool b => some b
  | .int i => some (i != 0)
  | _ => none
theorem truthy_sound {prog : Program} {w : World} {A : Around} {E : Value → Shared → Prop} {s : Shared} {v : Value} {d : PyData} {b : Bool} {Q : Bool → Shared → Prop}
    (hd : truth d = some b) (hv : Rep s.heap v d) (h : Q b s) : wpAny (model prog w) A (truthy v) Q E s := by
  cases d <;> simp only [truth, Option.some.injEq, reduceCtorEq] at hd
  · subst hd; rw [hv.bool_inv]; exact wpAny_truthy_bool h
  · subst hd; obtain ⟨t, rfl⟩ := hv.int_inv; exact truthy_int h
end Mine
end
-- part AJB
section
open PySem PySem.W PyProof.Rows
namespace Mine
structure EnvOK (env : Env) : Prop where
  kind : env.scope.kind = .function
  glob : env.globals = mainGlobals
  blt : env.builtins = builtinsNs
  inj : ∀ x y c, env.cells.lookup x = some c → env.cells.lookup y = some c → x = y
  whole : ∀ y, env.kindOf y = some .cell → ∃ c, env.cells.lookup y = some c
def Foot (env : Env) (b : Addr) : Prop := b = env.locals ∨ ∃ x, env.cells.lookup x = some b
/-- the frame's names as the list ρ says: xs the names, ρ their values -/
structure Vars (env : Env) (xs : List Str) (h : Heap) (ρ : List (Option PyData)) : Prop where
  ns : ∃ m, h.Ns env.locals m ∧ ∀ (i : Nat) x d, xs[i]? = some x → ρ[i]? = some (some d) → env.kindOf x = some .local → ∃ v, m x = some v ∧ Rep h v d
  cs : ∀ (i : Nat) x, xs[i]? = some x → env.kindOf x = some .cell → ∃ c w, env.cells.lookup x = some c ∧ h.IsCell c w ∧ ∀ d, ρ[i]? = some (some d) → ∃ v, w = some v ∧ Rep h v d
theorem Vars.keeps {env : Env} {xs : List Str} {h h' : Heap} {ρ : List (Option PyData)} (V : Vars env xs h ρ) (k : Keeps h h') : Vars env xs h' ρ := by
  obtain ⟨⟨m, hm, hv⟩, hc⟩ := V
  refine ⟨⟨m, hm.keeps k, fun i x d a b c => ?_⟩, fun i x a b => ?_⟩
  · obtain ⟨v, e, r⟩ := hv i x d a b c; exact ⟨v, e, r.keeps k⟩
  · obtain ⟨c, w, e, ⟨o, ho, hd⟩, r⟩ := hc i x a b
    exact ⟨c, w, e, ⟨o, k _ _ ho, hd⟩, fun d q => let ⟨v, e, r'⟩ := r d q; ⟨v, e, r'.keeps k⟩⟩
structure Base (K : Frag) (p : Program) (loose : List Str) (mg mb : Str → Option Value) (h : Heap) : Prop where
  k : K.In h
  top : TopRead p loose mg mb h
theorem Base.keeps {K : Frag} {p : Program} {loose : List Str} {mg mb : Str → Option Value} {h h' : Heap} (B : Base K p loose mg mb h) (k : Keeps h h') : Base K p loose mg mb h' := ⟨B.k.keeps k, B.top.keeps k⟩
structure AOK (A : Around) (d : Nat) : Prop where
  hh : A.handled = none
  depth : A.depth + d < recursionLimit
  units : A.units + 8 * d + 70 < cLine
theorem AOK.u {A : Around} {d : Nat} (x : AOK A d) : A.units + 64 < cLine := by have := x.units; omega
inductive CSrc where
  | rng (n : Nat)
  | chars (s : Str)
def CSrc.items : CSrc → List PyData
  | .rng n => (List.range n).map fun (i : Nat) => PyData.int i
  | .chars s => s.cps.toList.map fun c => PyData.str ⟨#[c]⟩
/-- terms: what an expression of the text says, names by their places -/
inductive T where
  | var (i : Nat)
  | glob (i : Nat)
  | litI (i : Int)
  | litS (s : Str)
  | litB (b : Bool)
  | bin (o : BOp) (a b : T)
  | neg (a : T)
  | not (a : T)
  | cmp (o : COp) (a b : T)
  | and (a b : T)
  | or (a b : T)
  | ite (c a b : T)
  | nil
  | cons (a b : T)
  | tup (l : T)
  | lst (l : T)
  | idx (a i : T)
  | idxL (a i : T)
  | down (k : T)
  | call (f : Nat) (l : T)
  | len (a : T)
  | max (a b : T)
  | divmod (a b : T)
  | isint (a : T)
  | bitlen (a : T)
  | all (a : T)
  | rep (l : T) (k : Nat)
  | comp (x : Str) (xs : List Str) (is : List Nat) (src : CSrc) (elt : T)
  /-- not come to: says nothing -/
  | bad
def idxOf (l : List PyData) (k : Int) : Option PyData := match seqIndex? k l.length with
  | some j => guardO (decide (-(2 ^ 63) ≤ k) && decide (k < 2 ^ 63)) () |>.bind fun _ => l[j]?
  | none => none
def boolsOf : List PyData → Option (List Bool)
  | [] => some []
  | .bool b :: r => (boolsOf r).map (b :: ·)
  | _ => none
def divmodOf (a b : Int) : Option PyData := guardO (divOk a b) (.tuple [.int (a.fdiv b), .int (a.fmod b)])
def atom : PyData → Bool
  | .none => true
  | .bool _ => true
  | .int _ => true
  | .str _ => true
  | _ => false
/-- no list within -/
def flat1 : PyData → Bool
  | .tuple l => l.all atom
  | d => atom d
def seqM {α : Type} : List (Option α) → Option (List α)
  | [] => some []
  | some a :: r => (seqM r).map (a :: ·)
  | none :: _ => none
abbrev Env' := List (Option PyData)
/-- the globals that are data -/
abbrev Globs := List (Str × PyData)
section
variable (gs : Globs) (sd : Str → Option PyData) (cf : Nat → List PyData → Option PyData)
def run : T → Env' → Option PyData
  | .var i, ρ => (ρ[i]?).join
  | .glob i, _ => (gs[i]?).map (·.2)
  | .litI i, _ => some (.int i)
  | .litS s, _ => some (.str s)
  | .litB b, _ => some (.bool b)
  | .bin o a b, ρ => match run a ρ, run b ρ with
    | some (.int x), some (.int y) => (o.run x y).map .int
    | _, _ => none
  | .neg a, ρ => match run a ρ with
    | some (.int x) => some (.int (-x))
    | _ => none
  | .not a, ρ => match run a ρ with
    | some d => (truth d).map fun b => .bool (!b)
    | none => none
  | .cmp o a b, ρ => match run a ρ, run b ρ with
    | some x, some y => (o.run x y).map .bool
    | _, _ => none
  | .and a b, ρ => match run a ρ with
    | some d => match truth d with
      | some true => run b ρ
      | some false => some d
      | none => none
    | none => none
  | .or a b, ρ => match run a ρ with
    | some d => match truth d with
      | some true => some d
      | some false => run b ρ
      | none => none
    | none => none
  | .ite c a b, ρ => match run c ρ with
    | some d => match truth d with
      | some true => run a ρ
      | some false => run b ρ
      | none => none
    | none => none
  | .nil, _ => some (.tuple [])
  | .cons a b, ρ => match run a ρ, run b ρ with
    | some x, some (.tuple l) => some (.tuple (x :: l))
    | _, _ => none
  | .tup l, ρ => match run l ρ with
    | some (.tuple l) => guardO (decide (l.length < 1000)) (.tuple l)
    | _ => none
  | .lst l, ρ => match run l ρ with
    | some (.tuple l) => guardO (decide (l.length < 1000)) (.list l)
    | _ => none
  | .idx a i, ρ => match run a ρ, run i ρ with
    | some (.tuple l), some (.int k) => idxOf l k
    | _, _ => none
  | .idxL a i, ρ => match run a ρ, run i ρ with
    | some (.list l), some (.int k) => guardO (decide (0 ≤ k) && decide (k < 2 ^ 63)) () |>.bind fun _ => l[k.toNat]?
    | _, _ => none
  | .down k, ρ => match run k ρ with
    | some (.str s) => sd s
    | _ => none
  | .call f l, ρ => match run l ρ with
    | some (.tuple l) => cf f l
    | _ => none
  | .len a, ρ => match run a ρ with
    | some (.list l) => guardO (decide (l.length < 2 ^ 62)) (.int l.length)
    | _ => none
  | .max a b, ρ => match run a ρ, run b ρ with
    | some (.int x), some (.int y) => some (.int (if y > x then y else x))
    | _, _ => none
  | .divmod a b, ρ => match run a ρ, run b ρ with
    | some (.int x), some (.int y) => divmodOf x y
    | _, _ => none
  | .isint a, ρ => match run a ρ with
    | some (.int _) => some (.bool true)
    | _ => none
  | .bitlen a, ρ => match run a ρ with
    | some (.int x) => some (.int (Builtin.Int.intBits x : Nat))
    | _ => none
  | .all a, ρ => match run a ρ with
    | some (.list l) => match boolsOf l with
      | some bs => some (.bool (bs.all id))
      | none => none
    | _ => none
  | .rep l k, ρ => match run l ρ with
    | some (.tuple [d]) => guardO (decide (k < 100)) (.list (List.replicate k d))
    | _ => none
  | .comp _ _ is src elt, ρ => match seqM (src.items.map fun v => run elt (some v :: is.map fun i => (ρ[i]?).join)) with
    | some l => guardO (decide (l.length < 1000) && l.all flat1) (.list l)
    | none => none
  | .bad, _ => none
end
/-! the look: does a term say what an expression of the text says? -/
abbrev Kof := Str → Option NameKind
def unw (op : BoolOp) (e : Expr) (rest : List Expr) (pos : Pos) : Expr := match rest with
  | [] => e
  | _ => .BoolOp op (e :: rest) pos
def isName (e : Expr) (x : Str) : Bool := match e with
  | .Name y _ => y == x
  | _ => false
def anyName (e : Expr) : Bool := match e with
  | .Name .. => true
  | _ => false
def isBin (e : Expr) : Bool := match e with
  | .BinOp .. => true
  | _ => false
def isSet (e : Expr) : Bool := match e with
  | .Set .. => true
  | _ => false
def isSlice (e : Expr) : Bool := match e with
  | .Slice .. => true
  | _ => false
def globName (kof : Kof) (e : Expr) (x : Str) : Bool := match e with
  | .Name y _ => y == x && kof y == some .globalImplicit && !(y == ("__debug__" : Str))
  | _ => false
def chkSrc (kof : Kof) : CSrc → Expr → Bool
  | .rng n, .Call f [.Constant (.int i) _ _] [] _ => globName kof f "range" && i == (n : Int) && decide (n < 1000)
  | .chars s, .Constant (.str x) _ _ => s == x && s.cps.all (fun c => decide (c < 128)) && decide (s.cps.size < 1000)
  | _, _ => false
def relk (kof : Kof) (names : List (Str × NameKind)) : List (Str × NameKind) := names.map fun (n, k) => if (k == .free && kof n == some .cell) then (n, .cell) else (n, k)
def compOk (kof : Kof) (xs : List Str) (x : Str) (ys : List Str) (is : List Nat) (scope : Scope) : Bool :=
  (scope.kind == .function) && scope.names.all (fun y => y.2 != .cell) && scope.names.all (fun y => y.2 != .local || scope.names.lookup y.1 == some .local) && scope.names.lookup x == some .local
    && scope.names.all (fun y => y.2 != .free || kof y.1 == some .cell) && (ys == is.map fun i => (xs[i]?).getD (Str.ofString "")) && is.all (fun i => decide (i < xs.length))
    && ys.all (fun y => (relk kof scope.names).lookup y == some .cell && kof y == some .cell)
section
variable (gs : Globs) (fns : List (Str × Addr))
mutual
def chk (kof : Kof) (xs : List Str) : T → Expr → Bool
  | .var i, e => match e with
    | .Name x _ => xs[i]? == some x && (kof x == some .local || kof x == some .cell) && !(x == ("__debug__" : Str))
    | _ => false
  | .glob i, e => match gs[i]? with
    | some (x, _) => globName kof e x
    | none => false
  | .litI i, e => match e with
    | .Constant (.int j) _ _ => i == j
    | _ => false
  | .litS i, e => match e with
    | .Constant (.str j) _ _ => i == j
    | _ => false
  | .litB i, e => match e with
    | .Constant (.bool j) _ _ => i == j
    | _ => false
  | .bin o a b, e => match e with
    | .BinOp l op r _ => o.op == op && chk kof xs a l && chk kof xs b r
    | _ => false
  | .neg a, e => match e with
    | .UnaryOp .USub x _ => chk kof xs a x
    | _ => false
  | .not a, e => match e with
    | .UnaryOp .Not x _ => chk kof xs a x
    | _ => false
  | .cmp o a b, e => match e with
    | .Compare l [op] [r] _ => o.op == op && !isSet r && chk kof xs a l && chk kof xs b r
    | _ => false
  | .and a b, e => match e with
    | .BoolOp .And (e1 :: e2 :: rest) pos => chk kof xs a e1 && chk kof xs b (unw .And e2 rest pos)
    | _ => false
  | .or a b, e => match e with
    | .BoolOp .Or (e1 :: e2 :: rest) pos => chk kof xs a e1 && chk kof xs b (unw .Or e2 rest pos)
    | _ => false
  | .ite c a b, e => match e with
    | .IfExp t x y _ => chk kof xs c t && chk kof xs a x && chk kof xs b y
    | _ => false
  | .nil, _ => false
  | .cons _ _, _ => false
  | .tup l, e => match e with
    | .Tuple es _ _ => chkL kof xs l es
    | _ => false
  | .lst l, e => match e with
    | .List es _ => chkL kof xs l es
    | _ => false
  | .idx a i, e => match e with
    | .Subscript v s _ => !isSlice s && chk kof xs a v && chk kof xs i s
    | _ => false
  | .idxL a i, e => match e with
    | .Subscript v s _ => anyName v && !isSlice s && chk kof xs a v && chk kof xs i s
    | _ => false
  | .down k, e => match e with
    | .Subscript v s _ => globName kof v "shifts_down" && !isSlice s && chk kof xs k s
    | _ => false
  | .call f l, e => match e with
    | .Call g (e1 :: es) [] _ => (match fns[f]? with
      | some (x, _) => globName kof g x && chkL kof xs l (e1 :: es)
      | none => false)
    | _ => false
  | .len a, e => match e with
    | .Call g [x] [] _ => globName kof g "len" && chk kof xs a x
    | _ => false
  | .max a b, e => match e with
    | .Call g [x, y] [] _ => globName kof g "max" && chk kof xs a x && chk kof xs b y
    | _ => false
  | .divmod a b, e => match e with
    | .Call g [x, y] [] _ => globName kof g "divmod" && chk kof xs a x && chk kof xs b y
    | _ => false
  | .isint a, e => match e with
    | .Call g [x, y] [] _ => globName kof g "isinstance" && globName kof y "int" && chk kof xs a x
    | _ => false
  | .bitlen a, e => match e with
    | .Call (.Attribute x n p1) [] [] pos => n == "bit_length" && (anyName x || isBin x) && p1.endLine == pos.line && chk kof xs a x
    | _ => false
  | .all a, e => match e with
    | .Call g [x] [] _ => globName kof g "all" && chk kof xs a x
    | _ => false
  | .rep l k, e => match e with
    | .BinOp (.List es _) .Mult (.Constant (.int j) _ _) _ => chkL kof xs l es && j == (k : Int)
    | _ => false
  | .comp x ys is src elt, e => match e with
    | .ListComp elt' [⟨.Name x' _, iter, [], 0⟩] scope _ => x == x' && chkSrc kof src iter && compOk kof xs x ys is scope && chk (fun y => List.lookup y (relk kof scope.names)) (x :: ys) elt elt'
    | _ => false
  | .bad, e => match e with
    | .Subscript .. => true
    | _ => false
def chkL (kof : Kof) (xs : List Str) : T → List Expr → Bool
  | .nil, [] => true
  | .cons a b, e :: es => chk kof xs a e && chkL kof xs b es
  | _, _ => false
end
end
end Mine
end
-- part AJC
section
open PySem PySem.W PyProof.Rows
set_option maxRecDepth 100000
namespace Mine
/-- what the top's written part holds of the names that the terms use -/
structure Tops (K : Frag) (P : Params) (gs : Globs) (sd : Str → Option PyData) (fns : List (Str × Addr)) : Prop where
  globs : ∀ (i : Nat) x d, gs[i]? = some (x, d) → ∃ v, nsIn K mainGlobals x = some (some v) ∧ ∀ h, K.In h → Rep h v d
  fns : ∀ (i : Nat) x a, fns[i]? = some (x, a) → nsIn K mainGlobals x = some (some (.ref a)) ∧ keepIn K (.ref a) = true
  n_len : nsIn K mainGlobals "len" = some none
  n_max : nsIn K mainGlobals "max" = some none
  n_divmod : nsIn K mainGlobals "divmod" = some none
  n_isi : nsIn K mainGlobals "isinstance" = some none
  n_int : nsIn K mainGlobals "int" = some none
  n_all : nsIn K mainGlobals "all" = some none
  n_range : nsIn K mainGlobals "range" = some none
  down : ∃ a es n, nsIn K mainGlobals "shifts_down" = some (some (.ref a)) ∧ K.lookup a = some ⟨.type "dict", none, .dict es n, #[]⟩ ∧ KeysLit P es.toList ∧
    ∀ s d, sd s = some d → ∃ v, nsIn K a s = some (some v) ∧ ∀ h, K.In h → Rep h v d
section
variable {prog : Program} {w : World} {K : Frag} {p : Program} {loose : List Str} {mg mb : Str → Option Value} {gs : Globs} {sd : Str → Option PyData} {fns : List (Str × Addr)}
variable {dep : Nat} {env : Env} {xs : List Str} {ρ : Env'} {kof : Kof}
/-- an expression comes back with data d, whatever stands before -/
def EOk (prog : Program) (w : World) (K : Frag) (p : Program) (loose : List Str) (mg mb : Str → Option Value) (dep : Nat) (env : Env) (xs : List Str) (ρ : Env') (e : Expr) (d : PyData) : Prop :=
  ∀ A E Q s, AOK A dep → Base K p loose mg mb s.heap → Vars env xs s.heap ρ → (∀ v s', Ext s s' → Rep s'.heap v d → Q v s') → wpAny (model prog w) A (eval e env) Q E s
def TOk (prog : Program) (w : World) (K : Frag) (p : Program) (loose : List Str) (mg mb : Str → Option Value) (dep : Nat) (env : Env) (xs : List Str) (ρ : Env') (e : Expr) (b : Bool) : Prop :=
  ∀ A E Q s, AOK A dep → Base K p loose mg mb s.heap → Vars env xs s.heap ρ → (∀ s', Ext s s' → Q b s') → wpAny (model prog w) A (PySem.isTrue e env (eval e env)) Q E s
def LOk (prog : Program) (w : World) (K : Frag) (p : Program) (loose : List Str) (mg mb : Str → Option Value) (dep : Nat) (env : Env) (xs : List Str) (ρ : Env') (es : List Expr) (ds : List PyData) : Prop :=
  ∀ pos A E Q s, AOK A dep → Base K p loose mg mb s.heap → Vars env xs s.heap ρ → (∀ vs s', Ext s s' → Reps s'.heap vs ds → Q vs s') → wpAny (model prog w) A (spliced (backTo pos (starEach es env))) Q E s
/-- the calls of the text's own defs, with dep frames left -/
def CallOK (prog : Program) (w : World) (K : Frag) (p : Program) (loose : List Str) (mg mb : Str → Option Value) (fns : List (Str × Addr)) (dep : Nat) (cf : Nat → List PyData → Option PyData) : Prop :=
  ∀ (f : Nat) x a ds r, fns[f]? = some (x, a) → cf f ds = some r → ∀ A E Q s vs, AOK A dep → Base K p loose mg mb s.heap → Reps s.heap vs ds → (∀ v s', Ext s s' → Rep s'.heap v r → Q v s') → wpAny (model prog w) A (call (.ref a) vs) Q E s
theorem eok_local {x : Str} {pos : Pos} {i : Nat} {d : PyData} (hE : EnvOK env) (hx : xs[i]? = some x) (hr : ρ[i]? = some (some d)) (hk : env.kindOf x = some .local ∨ env.kindOf x = some .cell) (hd : (x == ("__debug__" : Str)) = false) :
    EOk prog w K p loose mg mb dep env xs ρ (.Name x pos) d := by
  intro A E Q s hA hB hV h
  rcases hk with hk | hk
  · obtain ⟨m, hm, hv⟩ := hV.ns
    obtain ⟨v, e, r⟩ := hv i x d hx hr hk
    exact wpAny_Name (wpAny_loadName_local hE.kind hk hm e (h v s (.refl s) r)) hd
  · obtain ⟨c, w', hc, hcell, r⟩ := hV.cs i x hx hk
    obtain ⟨v, rfl, rv⟩ := r d hr
    exact wpAny_Name (wpAny_loadName_cell hE.kind hk hc hcell (h v s (.refl s) rv)) hd
/-- a global name that the written part knows -/
theorem name_glob {A : Around} {E : Value → Shared → Prop} {Q : Value → Shared → Prop} {s : Shared} {x : Str} {pos : Pos} {v : Value} (hE : EnvOK env) (hB : Base K p loose mg mb s.heap) (hk : env.kindOf x = some .globalImplicit) (hd : (x == ("__debug__" : Str)) = false)
    (e : nsIn K mainGlobals x = some (some v)) (h : Q v s) : wpAny (model prog w) A (eval (.Name x pos) env) Q E s :=
  Calls.Name_function_global hE.kind hk (Calls.loadGlobal_global (by rw [hE.glob]; exact hB.top.g) (mg_of hB.k hB.top.g e) h) hd
theorem name_boot {A : Around} {E : Value → Shared → Prop} {Q : Value → Shared → Prop} {s : Shared} {x : Str} {pos : Pos} {v : Value} (hE : EnvOK env) (hB : Base K p loose mg mb s.heap) (hk : env.kindOf x = some .globalImplicit) (hd : (x == ("__debug__" : Str)) = false)
    (e : nsIn K mainGlobals x = some none) (hb : bootBuiltins x = some v) (hn : x ≠ "__name__") (h : Q v s) : wpAny (model prog w) A (eval (.Name x pos) env) Q E s :=
  Calls.Name_function_global hE.kind hk (Calls.loadGlobal_builtin (by rw [hE.glob]; exact hB.top.g) (mg_none_of hB.k hB.top.g e) (by rw [hE.blt]; exact hB.top.b) ((hB.top.builtins x hn).trans hb) h) hd
theorem globName_inv {e : Expr} {x : Str} (h : globName kof e x = true) : ∃ pos, e = .Name x pos ∧ kof x = some .globalImplicit ∧ (x == ("__debug__" : Str)) = false := by
  unfold globName at h
  split at h
  · rename_i y pos
    simp only [Bool.and_eq_true, beq_iff_eq, Bool.not_eq_true'] at h
    obtain ⟨⟨rfl, h2⟩, h3⟩ := h
    exact ⟨pos, rfl, h2, h3⟩
  · cases h
theorem eok_int {i : Int} {k : Nat} {pos : Pos} : EOk prog w K p loose mg mb dep env xs ρ (.Constant (.int i) k pos) (.int i) :=
  fun _ _ _ s _ _ _ h => wpAny_Constant_int (h _ _ (Ext.tok s _) (.int _ _))
theorem eok_str {i : Str} {k : Nat} {pos : Pos} : EOk prog w K p loose mg mb dep env xs ρ (.Constant (.str i) k pos) (.str i) :=
  fun _ _ _ s _ _ _ h => Calls.Constant_str (h _ _ (Ext.tok s _) (.str _ _))
theorem eok_bool {i : Bool} {k : Nat} {pos : Pos} : EOk prog w K p loose mg mb dep env xs ρ (.Constant (.bool i) k pos) (.bool i) :=
  fun _ _ _ s _ _ _ h => Constant_bool (h _ _ (.refl s) (.bool _))
theorem eok_bin {l r : Expr} {o : BOp} {a b c : Int} {pos : Pos} (h1 : EOk prog w K p loose mg mb dep env xs ρ l (.int a)) (h2 : EOk prog w K p loose mg mb dep env xs ρ r (.int b)) (hr : o.run a b = some c) :
    EOk prog w K p loose mg mb dep env xs ρ (.BinOp l o.op r pos) (.int c) := by
  intro A E Q s hA hB hV h
  refine wpAny_BinOp (h1 _ _ _ _ hA hB hV fun v s1 x1 r1 => h2 _ _ _ _ hA (hB.keeps x1.keeps) (hV.keeps x1.keeps) fun u s2 x2 r2 => ?_)
  obtain ⟨t, rfl⟩ := r1.int_inv
  obtain ⟨t', rfl⟩ := r2.int_inv
  exact bin_sound hA.hh o hr fun t s3 x3 => h _ _ (x1.trans (x2.trans x3)) (.int _ _)
theorem eok_neg {l : Expr} {a : Int} {pos : Pos} (h1 : EOk prog w K p loose mg mb dep env xs ρ l (.int a)) : EOk prog w K p loose mg mb dep env xs ρ (.UnaryOp .USub l pos) (.int (-a)) := by
  intro A E Q s hA hB hV h
  refine UnaryOp_ (h1 _ _ _ _ hA hB hV fun v s1 x1 r1 => ?_)
  obtain ⟨t, rfl⟩ := r1.int_inv
  exact neg_int (h _ _ (x1.trans (Ext.tok _ _)) (.int _ _))
theorem eok_not {l : Expr} {a : PyData} {b : Bool} {pos : Pos} (h1 : EOk prog w K p loose mg mb dep env xs ρ l a) (hb : truth a = some b) : EOk prog w K p loose mg mb dep env xs ρ (.UnaryOp .Not l pos) (.bool (!b)) := by
  intro A E Q s hA hB hV h
  refine UnaryOp_ (h1 _ _ _ _ hA hB hV fun v s1 x1 r1 => not_of (truthy_sound hb r1 ?_))
  exact h _ _ x1 (.bool _)
theorem notSet_marks {op : CmpOp} {r : Expr} (h : isSet r = false) : behindInMarks op r = false := by
  cases r <;> first | rfl | cases h
theorem eok_cmp {l r : Expr} {o : COp} {a b : PyData} {c : Bool} {pos : Pos} (h1 : EOk prog w K p loose mg mb dep env xs ρ l a) (h2 : EOk prog w K p loose mg mb dep env xs ρ r b) (hr : o.run a b = some c) (hs : isSet r = false) :
    EOk prog w K p loose mg mb dep env xs ρ (.Compare l [o.op] [r] pos) (.bool c) := by
  intro A E Q s hA hB hV h
  refine wpAny_Compare1 (h1 _ _ _ _ hA hB hV fun v s1 x1 r1 => h2 _ _ _ _ hA (hB.keeps x1.keeps) (hV.keeps x1.keeps) fun u s2 x2 r2 => ?_) (notSet_marks hs)
  exact cmp_sound hA.u o hr (r1.keeps x2.keeps) r2 (h _ _ (x1.trans x2) (.bool _))
theorem tok_cmp {l r : Expr} {o : COp} {a b : PyData} {c : Bool} {pos : Pos} (h1 : EOk prog w K p loose mg mb dep env xs ρ l a) (h2 : EOk prog w K p loose mg mb dep env xs ρ r b) (hr : o.run a b = some c) (hs : isSet r = false) :
    TOk prog w K p loose mg mb dep env xs ρ (.Compare l [o.op] [r] pos) c := by
  intro A E Q s hA hB hV h
  refine wpAny_isTrue_Compare1 (h1 _ _ _ _ hA hB hV fun v s1 x1 r1 => h2 _ _ _ _ hA (hB.keeps x1.keeps) (hV.keeps x1.keeps) fun u s2 x2 r2 => ?_) (notSet_marks hs)
  exact cmp_sound hA.u o hr (r1.keeps x2.keeps) r2 (wpAny_truthy_bool (h _ (x1.trans x2)))
theorem eok_ite {c l r : Expr} {d : PyData} {b : Bool} {pos : Pos} (h1 : TOk prog w K p loose mg mb dep env xs ρ c b) (h2 : b = true → EOk prog w K p loose mg mb dep env xs ρ l d) (h3 : b = false → EOk prog w K p loose mg mb dep env xs ρ r d) :
    EOk prog w K p loose mg mb dep env xs ρ (.IfExp c l r pos) d := by
  intro A E Q s hA hB hV h
  refine IfExp_ (h1 _ _ _ _ hA hB hV fun s1 x1 => ?_)
  cases b with
  | true => exact h2 rfl _ _ _ _ hA (hB.keeps x1.keeps) (hV.keeps x1.keeps) fun v s2 x2 r => h _ _ (x1.trans x2) r
  | false => exact h3 rfl _ _ _ _ hA (hB.keeps x1.keeps) (hV.keeps x1.keeps) fun v s2 x2 r => h _ _ (x1.trans x2) r
theorem tok_ite {c l r : Expr} {d : Bool} {b : Bool} {pos : Pos} (h1 : TOk prog w K p loose mg mb dep env xs ρ c b) (h2 : b = true → TOk prog w K p loose mg mb dep env xs ρ l d) (h3 : b = false → TOk prog w K p loose mg mb dep env xs ρ r d) :
    TOk prog w K p loose mg mb dep env xs ρ (.IfExp c l r pos) d := by
  intro A E Q s hA hB hV h
  refine isTrue_IfExp (h1 _ _ _ _ hA hB hV fun s1 x1 => ?_)
  cases b with
  | true => exact h2 rfl _ _ _ _ hA (hB.keeps x1.keeps) (hV.keeps x1.keeps) fun s2 x2 => h _ (x1.trans x2)
  | false => exact h3 rfl _ _ _ _ hA (hB.keeps x1.keeps) (hV.keeps x1.keeps) fun s2 x2 => h _ (x1.trans x2)
theorem tok_not {l : Expr} {b : Bool} {pos : Pos} (h1 : TOk prog w K p loose mg mb dep env xs ρ l b) : TOk prog w K p loose mg mb dep env xs ρ (.UnaryOp .Not l pos) (!b) := by
  intro A E Q s hA hB hV h
  exact isTrue_not (h1 _ _ _ _ hA hB hV fun s1 x1 => h _ x1)
/-- an expression without a test of its own -/
theorem tok_plain {e : Expr} {d : PyData} {b : Bool} (h1 : EOk prog w K p loose mg mb dep env xs ρ e d) (hb : truth d = some b)
    (he : ∀ whole, PySem.isTrue e env whole = (do let v ← whole; standAt e.pos; holding [v] (truthy v))) : TOk prog w K p loose mg mb dep env xs ρ e b := by
  intro A E Q s hA hB hV h
  exact isTrue_plain (h1 _ _ _ _ hA hB hV fun v s1 x1 r1 => truthy_sound hb r1 (h _ x1)) (he _)
theorem eok_unw {op : BoolOp} {e2 : Expr} {rest : List Expr} {pos : Pos} {d : PyData} (h : EOk prog w K p loose mg mb dep env xs ρ (unw op e2 rest pos) d) : EOk prog w K p loose mg mb dep env xs ρ (.BoolOp op (e2 :: rest) pos) d := by
  cases rest with
  | nil => exact fun A E Q s hA hB hV hq => BoolOp_one (h A E Q s hA hB hV hq)
  | cons e3 r => exact h
theorem tok_unw_and {e2 : Expr} {rest : List Expr} {pos : Pos} {d : Bool} (h : TOk prog w K p loose mg mb dep env xs ρ (unw .And e2 rest pos) d) {A : Around} {E : Value → Shared → Prop} {Q : Bool → Shared → Prop} {s : Shared} {whole : Sem Value}
    (hA : AOK A dep) (hB : Base K p loose mg mb s.heap) (hV : Vars env xs s.heap ρ) (hq : ∀ s', Ext s s' → Q d s') : wpAny (model prog w) A (PySem.isTrue (.BoolOp .And (e2 :: rest) pos) env whole) Q E s := by
  cases rest with
  | nil =>
    refine isTrue_and (h A E _ s hA hB hV fun s1 x1 => ?_)
    cases d with
    | true => exact isTrue_and_nil (hq _ x1)
    | false => exact hq _ x1
  | cons e3 r => exact h A E Q s hA hB hV hq
theorem tok_unw_or {e2 : Expr} {rest : List Expr} {pos : Pos} {d : Bool} (h : TOk prog w K p loose mg mb dep env xs ρ (unw .Or e2 rest pos) d) {A : Around} {E : Value → Shared → Prop} {Q : Bool → Shared → Prop} {s : Shared} {whole : Sem Value}
    (hA : AOK A dep) (hB : Base K p loose mg mb s.heap) (hV : Vars env xs s.heap ρ) (hq : ∀ s', Ext s s' → Q d s') : wpAny (model prog w) A (PySem.isTrue (.BoolOp .Or (e2 :: rest) pos) env whole) Q E s := by
  cases rest with
  | nil =>
    refine isTrue_or (h A E _ s hA hB hV fun s1 x1 => ?_)
    cases d with
    | true => exact hq _ x1
    | false => exact isTrue_or_nil (hq _ x1)
  | cons e3 r => exact h A E Q s hA hB hV hq
theorem eok_and {e1 e2 : Expr} {rest : List Expr} {pos : Pos} {d d' : PyData} {b : Bool} (h1 : EOk prog w K p loose mg mb dep env xs ρ e1 d) (hb : truth d = some b)
    (h2 : b = true → EOk prog w K p loose mg mb dep env xs ρ (unw .And e2 rest pos) d') (h3 : b = false → d' = d) : EOk prog w K p loose mg mb dep env xs ρ (.BoolOp .And (e1 :: e2 :: rest) pos) d' := by
  intro A E Q s hA hB hV h
  refine BoolOp_and (h1 _ _ _ _ hA hB hV fun v s1 x1 r1 => truthy_sound hb r1 ?_)
  cases b with
  | true => exact eok_unw (h2 rfl) _ _ _ _ hA (hB.keeps x1.keeps) (hV.keeps x1.keeps) fun v s2 x2 r => h _ _ (x1.trans x2) r
  | false => exact h _ _ x1 (h3 rfl ▸ r1)
theorem eok_or {e1 e2 : Expr} {rest : List Expr} {pos : Pos} {d d' : PyData} {b : Bool} (h1 : EOk prog w K p loose mg mb dep env xs ρ e1 d) (hb : truth d = some b)
    (h2 : b = false → EOk prog w K p loose mg mb dep env xs ρ (unw .Or e2 rest pos) d') (h3 : b = true → d' = d) : EOk prog w K p loose mg mb dep env xs ρ (.BoolOp .Or (e1 :: e2 :: rest) pos) d' := by
  intro A E Q s hA hB hV h
  refine BoolOp_or (h1 _ _ _ _ hA hB hV fun v s1 x1 r1 => truthy_sound hb r1 ?_)
  cases b with
  | false => exact eok_unw (h2 rfl) _ _ _ _ hA (hB.keeps x1.keeps) (hV.keeps x1.keeps) fun v s2 x2 r => h _ _ (x1.trans x2) r
  | true => exact h _ _ x1 (h3 rfl ▸ r1)
theorem tok_and {e1 e2 : Expr} {rest : List Expr} {pos : Pos} {b b' : Bool} (h1 : TOk prog w K p loose mg mb dep env xs ρ e1 b)
    (h2 : b = true → TOk prog w K p loose mg mb dep env xs ρ (unw .And e2 rest pos) b') (h3 : b = false → b' = false) : TOk prog w K p loose mg mb dep env xs ρ (.BoolOp .And (e1 :: e2 :: rest) pos) b' := by
  intro A E Q s hA hB hV h
  refine isTrue_and (h1 _ _ _ _ hA hB hV fun s1 x1 => ?_)
  cases b with
  | true => exact tok_unw_and (h2 rfl) hA (hB.keeps x1.keeps) (hV.keeps x1.keeps) fun s2 x2 => h _ (x1.trans x2)
  | false => have e := h3 rfl; subst e; exact h _ x1
theorem tok_or {e1 e2 : Expr} {rest : List Expr} {pos : Pos} {b b' : Bool} (h1 : TOk prog w K p loose mg mb dep env xs ρ e1 b)
    (h2 : b = false → TOk prog w K p loose mg mb dep env xs ρ (unw .Or e2 rest pos) b') (h3 : b = true → b' = true) : TOk prog w K p loose mg mb dep env xs ρ (.BoolOp .Or (e1 :: e2 :: rest) pos) b' := by
  intro A E Q s hA hB hV h
  refine isTrue_or (h1 _ _ _ _ hA hB hV fun s1 x1 => ?_)
  cases b with
  | false => exact tok_unw_or (h2 rfl) hA (hB.keeps x1.keeps) (hV.keeps x1.keeps) fun s2 x2 => h _ (x1.trans x2)
  | true => have e := h3 rfl; subst e; exact h _ x1
theorem lok_nil : LOk prog w K p loose mg mb dep env xs ρ [] [] := fun _ _ _ _ s _ _ _ h => args_nil (h _ _ (.refl s) .nil)
def noStar (e : Expr) : Prop := ∀ (rest : List Expr) (env : Env), starEach (e :: rest) env = (false, eval e env) :: starEach rest env
theorem lok_cons {e : Expr} {es : List Expr} {d : PyData} {ds : List PyData} (hs : noStar e) (h1 : EOk prog w K p loose mg mb dep env xs ρ e d) (h2 : LOk prog w K p loose mg mb dep env xs ρ es ds) :
    LOk prog w K p loose mg mb dep env xs ρ (e :: es) (d :: ds) := by
  intro pos A E Q s hA hB hV h
  refine args_cons (h1 _ _ _ _ hA hB hV fun v s1 x1 r1 => h2 _ _ _ _ _ hA (hB.keeps x1.keeps) (hV.keeps x1.keeps) fun vs s2 x2 r2 => ?_) (hs es env)
  exact h _ _ (x1.trans x2) (.cons (r1.keeps x2.keeps) r2)
theorem IsTup.new (h : Heap) (vs : List Value) : IsTup (h.push { cls := .type "tuple", data := .seq vs.toArray }) h.objs.size vs.toArray := ⟨_, Heap.get?_push_size _ rfl, rfl, _, rfl⟩
theorem IsLst.new (h : Heap) (vs : List Value) : (h.push { cls := .type "list", data := .seq vs.toArray }).IsList h.objs.size vs.toArray := ⟨_, Heap.get?_push_size _ rfl, rfl, _, rfl⟩
theorem len_fits {α : Type} {l : List α} {n : Nat} (h : decide (l.length < 1000) = true) (e : n = l.length) : n ≤ sizeLine := by
  rw [sizeLine_eq]; have := of_decide_eq_true h; omega
theorem eok_tup {es : List Expr} {ds : List PyData} {k : Nat} {pos : Pos} (h1 : LOk prog w K p loose mg mb dep env xs ρ es ds) (hl : decide (ds.length < 1000) = true) : EOk prog w K p loose mg mb dep env xs ρ (.Tuple es k pos) (.tuple ds) := by
  intro A E Q s hA hB hV h
  refine Tuple_ (h1 _ _ _ _ _ hA hB hV fun vs s1 x1 r1 => ?_)
  refine wpAny_newObj_type (h _ _ (x1.trans (Ext.heap s1 s1.toks (Keeps.push _ _))) (.tup (IsTup.new _ _) (r1.keeps (Keeps.push _ _)))) ?_
  show vs.toArray.size ≤ sizeLine
  rw [List.size_toArray]; exact len_fits hl r1.length
theorem eok_lst {es : List Expr} {ds : List PyData} {pos : Pos} (h1 : LOk prog w K p loose mg mb dep env xs ρ es ds) (hl : decide (ds.length < 1000) = true) : EOk prog w K p loose mg mb dep env xs ρ (.List es pos) (.list ds) := by
  intro A E Q s hA hB hV h
  refine List_ (h1 _ _ _ _ _ hA hB hV fun vs s1 x1 r1 => ?_)
  exact wpAny_newList (h _ _ (x1.trans (Ext.heap s1 s1.toks (Keeps.push _ _))) (.lst (IsLst.new _ _) (r1.keeps (Keeps.push _ _)))) (len_fits hl r1.length)
theorem notSlice_sub {sl : Expr} (h : isSlice sl = false) (o i : Value) : subscripted sl false o i = operate [o, i] (getItem o i) := by
  cases sl <;> first | rfl | cases h
theorem eok_idx {a i : Expr} {l : List PyData} {k : Int} {d : PyData} {pos : Pos} (h1 : EOk prog w K p loose mg mb dep env xs ρ a (.tuple l)) (h2 : EOk prog w K p loose mg mb dep env xs ρ i (.int k)) (hd : idxOf l k = some d) (hs : isSlice i = false) :
    EOk prog w K p loose mg mb dep env xs ρ (.Subscript a i pos) d := by
  intro A E Q s hA hB hV h
  refine Subscript_ (h1 _ _ _ _ hA hB hV fun v s1 x1 r1 => h2 _ _ _ _ hA (hB.keeps x1.keeps) (hV.keeps x1.keeps) fun u s2 x2 r2 => ?_)
  obtain ⟨t, rfl⟩ := r2.int_inv
  obtain ⟨b, vs, rfl, ht, hr⟩ := (r1.keeps x2.keeps).tup_inv
  unfold idxOf at hd
  split at hd
  · rename_i j hj
    cases hg : (decide (-(2 ^ 63) ≤ k) && decide (k < 2 ^ 63)) with
    | false => rw [hg] at hd; cases hd
    | true =>
      rw [hg] at hd
      have hd : l[j]? = some d := hd
      simp only [Bool.and_eq_true, decide_eq_true_eq] at hg
      obtain ⟨v, hv, rv⟩ := hr.get hd
      exact item_tupleT ht hg.1 hg.2 (by rw [hr.length]; exact hj) hv (h _ _ (x1.trans x2) rv) (notSlice_sub hs _ _)
  · cases hd
theorem anyName_go {a : Expr} (h : anyName a = true) (o r : Value) : letTemporaryGo a o r = pure () := by
  cases a <;> first | rfl | cases h
theorem eok_idxL {a i : Expr} {l : List PyData} {k : Int} {d : PyData} {pos : Pos} (h1 : EOk prog w K p loose mg mb dep env xs ρ a (.list l)) (h2 : EOk prog w K p loose mg mb dep env xs ρ i (.int k)) (h0 : 0 ≤ k) (h63 : k < 2 ^ 63) (hd : l[k.toNat]? = some d) (hs : isSlice i = false) :
    EOk prog w K p loose mg mb dep env xs ρ (.Subscript a i pos) d := by
  intro A E Q s hA hB hV h
  refine Subscript_ (h1 _ _ _ _ hA hB hV fun v s1 x1 r1 => h2 _ _ _ _ hA (hB.keeps x1.keeps) (hV.keeps x1.keeps) fun u s2 x2 r2 => ?_)
  obtain ⟨t, rfl⟩ := r2.int_inv
  obtain ⟨b, vs, rfl, ht, hr⟩ := (r1.keeps x2.keeps).lst_inv
  obtain ⟨v, hv, rv⟩ := hr.get hd
  exact tail_any ht.typeIs slot_list_getitem.lookup (wpAny_getItem_list ht h0 h63 (by simpa using hv) (h _ _ (x1.trans x2) rv)) (notSlice_sub hs _ _)
theorem eok_down {a i : Expr} {x : Str} {d : PyData} {pos : Pos} (hE : EnvOK env) (hT : Tops K w.params gs sd fns) (ha : ∃ pp, a = .Name "shifts_down" pp) (hk : env.kindOf "shifts_down" = some .globalImplicit)
    (h2 : EOk prog w K p loose mg mb dep env xs ρ i (.str x)) (hd : sd x = some d) (hs : isSlice i = false) : EOk prog w K p loose mg mb dep env xs ρ (.Subscript a i pos) d := by
  intro A E Q s hA hB hV h
  obtain ⟨b, es, n, e1, e2, e3, e4⟩ := hT.down
  obtain ⟨v, e5, rv⟩ := e4 x d hd
  obtain ⟨pp, rfl⟩ := ha
  refine Subscript_ (name_glob hE hB hk (by decide +kernel) e1 ?_)
  refine h2 _ _ _ _ hA hB hV fun u s2 x2 r2 => ?_
  obtain ⟨t, rfl⟩ := r2.str_inv
  have hm := mapOf_K (prog := prog) (hB.keeps x2.keeps).k e2 e3
  exact tail_any hm.typeIs slot_dict_getitem.lookup (wpAny_getItem_of (strKind_is prog w x t) hm (find_K e2 e5) (h _ _ (x2.trans (Ext.tok _ _)) (rv _ (hB.keeps x2.keeps).k))) (notSlice_sub hs _ _)
theorem plain_args {pos : Pos} : ∀ {es : List Expr}, (∀ e ∈ es, noStar e) → (backTo pos (starEach es env)).any (·.1) = false
  | [], _ => rfl
  | e :: es, h => by
    rw [h e (.head _) es env]
    show (false || (backTo pos (starEach es env)).any (·.1)) = false
    rw [plain_args fun x hx => h x (.tail _ hx)]; rfl
theorem call_name {x : Str} {p' pos : Pos} {es : List Expr} {A : Around} {E : Value → Shared → Prop} {Q : Value → Shared → Prop} {s : Shared}
    (h : wpAny (model prog w) A (eval (.Name x p') env) (fun f s₁ => wpAny (model prog w) A (callWith pos f [] (backTo pos (starEach es env)) []) Q E s₁) E s) : wpAny (model prog w) A (eval (.Call (.Name x p') es [] pos) env) Q E s := Call_ h
theorem eok_call {cf : Nat → List PyData → Option PyData} {f : Nat} {x : Str} {a : Addr} {g e1 : Expr} {es : List Expr} {ds : List PyData} {r : PyData} {pos : Pos} (hE : EnvOK env) (hT : Tops K w.params gs sd fns) (hC : CallOK prog w K p loose mg mb fns dep cf)
    (hf : fns[f]? = some (x, a)) (hg : ∃ pp, g = .Name x pp) (hk : env.kindOf x = some .globalImplicit) (hdb : (x == ("__debug__" : Str)) = false)
    (hns : ∀ e ∈ e1 :: es, noStar e) (h1 : LOk prog w K p loose mg mb dep env xs ρ (e1 :: es) ds) (hr : cf f ds = some r) : EOk prog w K p loose mg mb dep env xs ρ (.Call g (e1 :: es) [] pos) r := by
  intro A E Q s hA hB hV h
  obtain ⟨pp, rfl⟩ := hg
  obtain ⟨n1, n2⟩ := hT.fns f x a hf
  refine call_name (name_glob hE hB hk hdb n1 ?_)
  refine callWith_K hB.k n2 (h1 _ _ _ _ _ hA hB hV fun vs s1 x1 r1 => ⟨(hB.keeps x1.keeps).k, ?_⟩) (hns e1 (.head _) es env) (plain_args fun e he => hns e (.tail _ he))
  exact hC f x a ds r hf hr _ _ _ _ _ hA (hB.keeps x1.keeps) r1 fun v s2 x2 r2 => h _ _ (x1.trans x2) r2
theorem eok_blt {id : String} {x : Str} {g e1 : Expr} {es : List Expr} {ds : List PyData} {r : PyData} {pos : Pos} (hE : EnvOK env) (hg : ∃ pp, g = .Name x pp) (hk : env.kindOf x = some .globalImplicit) (hdb : (x == ("__debug__" : Str)) = false)
    (n1 : nsIn K mainGlobals x = some none) (hb : bootBuiltins x = some (.builtin id)) (hn : x ≠ "__name__")
    (hns : ∀ e ∈ e1 :: es, noStar e) (h1 : LOk prog w K p loose mg mb dep env xs ρ (e1 :: es) ds)
    (hr : ∀ A E Q s vs, AOK A dep → Reps s.heap vs ds → (∀ v s', Ext s s' → Rep s'.heap v r → Q v s') → wpAny (model prog w) A (call (.builtin id) vs) Q E s) : EOk prog w K p loose mg mb dep env xs ρ (.Call g (e1 :: es) [] pos) r := by
  intro A E Q s hA hB hV h
  obtain ⟨pp, rfl⟩ := hg
  refine call_name (name_boot hE hB hk hdb n1 hb hn ?_)
  refine PyProof.Rows.callWith_builtin1 (h1 _ _ _ _ _ hA hB hV fun vs s1 x1 r1 => ?_) (hns e1 (.head _) es env) (plain_args fun e he => hns e (.tail _ he))
  exact hr _ _ _ _ _ hA r1 fun v s2 x2 r2 => h _ _ (x1.trans x2) r2
theorem len_call {l : List PyData} (hl : l.length < 2 ^ 62) : ∀ A E Q s vs, AOK A dep → Reps s.heap vs [.list l] → (∀ v s', Ext s s' → Rep s'.heap v (.int l.length) → Q v s') → wpAny (model prog w) A (call (.builtin "len") vs) Q E s := by
  intro A E Q s vs _ hr h
  obtain ⟨v, vs', rfl, r1, r2⟩ := hr.inv_cons
  rw [r2.inv_nil]
  obtain ⟨a, us, rfl, hL, hR⟩ := r1.lst_inv
  have e : us.toArray.size = l.length := by rw [List.size_toArray, hR.length]
  refine Calls.call_len_list hL (by omega) ?_
  rw [e]
  exact h _ _ (Ext.tok _ _) (.int _ _)
theorem max_call {x y : Int} : ∀ A E Q s vs, AOK A dep → Reps s.heap vs [.int x, .int y] → (∀ v s', Ext s s' → Rep s'.heap v (.int (if y > x then y else x)) → Q v s') → wpAny (model prog w) A (call (.builtin "max") vs) Q E s := by
  intro A E Q s vs hA hr h
  obtain ⟨v, vs', rfl, r1, r2⟩ := hr.inv_cons
  obtain ⟨v2, vs2, rfl, r3, r4⟩ := r2.inv_cons
  rw [r4.inv_nil]
  obtain ⟨t, rfl⟩ := r1.int_inv
  obtain ⟨t', rfl⟩ := r3.int_inv
  refine max_two_ints hA.hh fun h' tk hk => ?_
  by_cases c : y > x
  · rw [if_pos c] at h ⊢; exact h _ _ (Ext.heap _ _ hk) (.int _ _)
  · rw [if_neg c] at h ⊢; exact h _ _ (Ext.heap _ _ hk) (.int _ _)
theorem divmod_call {x y : Int} (hok : divOk x y = true) : ∀ A E Q s vs, AOK A dep → Reps s.heap vs [.int x, .int y] → (∀ v s', Ext s s' → Rep s'.heap v (.tuple [.int (x.fdiv y), .int (x.fmod y)]) → Q v s') → wpAny (model prog w) A (call (.builtin "divmod") vs) Q E s := by
  intro A E Q s vs hA hr h
  obtain ⟨v, vs', rfl, r1, r2⟩ := hr.inv_cons
  obtain ⟨v2, vs2, rfl, r3, r4⟩ := r2.inv_cons
  rw [r4.inv_nil]
  obtain ⟨t, rfl⟩ := r1.int_inv
  obtain ⟨t', rfl⟩ := r3.int_inv
  simp only [divOk, Bool.and_eq_true, decide_eq_true_eq, Bool.not_eq_true'] at hok
  refine divmod_int hok.1 ?_ (.inl hok.2)
  exact h _ _ (Ext.heap _ _ (Keeps.push _ _)) (.tup (IsTup.new _ _) (.cons (.int _ _) (.cons (.int _ _) .nil)))
theorem bools_truth {prog : Program} {w : World} : ∀ {l : List PyData} {bs : List Bool} {h : Heap} {vs : List Value}, boolsOf l = some bs → Reps h vs l → ∀ (i : Nat) v, vs[i]? = some v → ∃ b, bs[i]? = some b ∧ v = .bool b
  | [], _, _, _, hb, hr, i, v, hv => by rw [hr.inv_nil] at hv; simp at hv
  | d :: l, bs, h, vs, hb, hr, i, v, hv => by
    obtain ⟨u, vs', rfl, r1, r2⟩ := hr.inv_cons
    cases d <;> simp only [boolsOf, reduceCtorEq, Option.map_eq_some_iff] at hb
    obtain ⟨bs', hb', rfl⟩ := hb
    cases i with
    | zero => simp at hv; subst hv; exact ⟨_, rfl, r1.bool_inv⟩
    | succ i => exact bools_truth (prog := prog) (w := w) hb' r2 i v (by simpa using hv)
theorem bools_len : ∀ {l : List PyData} {bs : List Bool}, boolsOf l = some bs → bs.length = l.length
  | [], bs, h => by simp [boolsOf] at h; subst h; rfl
  | d :: l, bs, h => by
    cases d <;> simp only [boolsOf, reduceCtorEq, Option.map_eq_some_iff] at h
    obtain ⟨bs', hb', rfl⟩ := h
    simp [bools_len hb']
theorem all_call {l : List PyData} {bs : List Bool} (hb : boolsOf l = some bs) : ∀ A E Q s vs, AOK A dep → Reps s.heap vs [.list l] → (∀ v s', Ext s s' → Rep s'.heap v (.bool (bs.all id)) → Q v s') → wpAny (model prog w) A (call (.builtin "all") vs) Q E s := by
  intro A E Q s vs hA hr h
  obtain ⟨v, vs', rfl, r1, r2⟩ := hr.inv_cons
  rw [r2.inv_nil]
  obtain ⟨a, us, rfl, hL, hR⟩ := r1.lst_inv
  have hlt : a < s.heap.objs.size := by obtain ⟨_, e, _⟩ := hL; exact Heap.lt_size e
  refine call_all_walk (wpAny_pyIter_list hL ?_)
  refine ⟨s.heap.objs.size, [s.heap.objs.size, a], [s.heap.objs.size], us.toArray.size, _, _, fun i => (bs[i]?).getD true, rfl, Walks.list (A := A.in1) hA.hh _ a (Nat.ne_of_lt hlt) us.toArray,
    ⟨⟨_, Heap.get?_push_size _ rfl, rfl, rfl⟩, hL.push _⟩, fun i v s' Q' E' hP hQ => ?_, fun h' tk hk => ?_⟩
  · obtain ⟨b, e, rfl⟩ := bools_truth (prog := prog) (w := w) hb hR i v (by simpa using hP)
    simp only [e, Option.getD_some] at hQ
    exact wpAny_truthy_bool hQ
  · have e : ((List.range us.toArray.size).all fun i => (bs[i]?).getD true) = bs.all id := by
      rw [List.size_toArray, hR.length, ← bools_len hb, Bool.eq_iff_iff]
      simp only [List.all_eq_true, List.mem_range, id_eq]
      constructor
      · intro z b hb2
        obtain ⟨i, hi, rfl⟩ := List.getElem_of_mem hb2
        simpa [hi] using z i hi
      · intro z i hi
        simpa [hi] using z _ (List.getElem_mem hi)
    rw [e]
    exact h _ _ (Ext.heap _ _ fun b x e => hk b x (fun hm => by rw [List.mem_singleton.mp hm] at e; exact Nat.lt_irrefl _ (Heap.lt_size e)) (Heap.get?_push_of_some _ e)) (.bool _)
theorem eok_isint {g a b : Expr} {i : Int} {pos : Pos} (hE : EnvOK env) (hT : Tops K w.params gs sd fns) (hg : ∃ pp, g = .Name "isinstance" pp) (hk : env.kindOf "isinstance" = some .globalImplicit) (hb : ∃ pp, b = .Name "int" pp) (hk2 : env.kindOf "int" = some .globalImplicit)
    (hna : noStar a) (h1 : EOk prog w K p loose mg mb dep env xs ρ a (.int i)) : EOk prog w K p loose mg mb dep env xs ρ (.Call g [a, b] [] pos) (.bool true) := by
  intro A E Q s hA hB hV h
  obtain ⟨pp, rfl⟩ := hg
  obtain ⟨pq, rfl⟩ := hb
  refine call_name (name_boot hE hB hk (by decide +kernel) hT.n_isi boot_isinstance (by decide +kernel) ?_)
  refine PyProof.Rows.callWith_builtin1 ?_ (hna _ _) rfl
  refine args_cons (h1 _ _ _ _ hA hB hV fun v s1 x1 r1 => ?_) (hna _ _)
  refine args_cons (name_boot hE (hB.keeps x1.keeps) hk2 (by decide +kernel) hT.n_int (v := .type "int") (by decide +kernel) (by decide +kernel) (args_nil ?_)) rfl
  obtain ⟨t, rfl⟩ := r1.int_inv
  exact call_isinstance_yes (typeIs_int _ _ _) PyProof.Rows.meta_int PyProof.Rows.sub_int_int (h _ _ x1 (.bool _))
theorem eok_bitlen {a : Expr} {i : Int} {p1 pos : Pos} (ha : attributeBase a "bit_length" env (eval a env) = eval a env) (hp : (p1.endLine == pos.line) = true) (h1 : EOk prog w K p loose mg mb dep env xs ρ a (.int i)) : EOk prog w K p loose mg mb dep env xs ρ (.Call (.Attribute a "bit_length" p1) [] [] pos) (.int (Builtin.Int.intBits i : Nat)) := by
  intro A E Q s hA hB hV h
  show wpAny _ A (do
    let ov ← attributeBase a "bit_length" env (eval a env)
    standAt p1.atName
    methodCall a "bit_length" p1 pos env ov 0 (backTo pos (starEach [] env)) []) Q E s
  rw [ha]
  refine wpAny_bind (h1 _ _ _ _ hA hB hV fun v s1 x1 r1 => wpAny_bind (wpAny_standAt ?_))
  obtain ⟨t, rfl⟩ := r1.int_inv
  unfold methodCall
  refine wpAny_bind (wpAny_holding ?_)
  show wpAny _ A (getMethod (.int i t) "bit_length" _) _ E s1
  refine getMethod_int_bit_length ?_
  show wpAny _ A (do
    let callPos ← methodCallPos true a env p1 pos
    callWith callPos (.builtin "int.bit_length") [.int i t] (backTo pos (starEach [] env)) []) Q E s1
  unfold methodCallPos
  rw [hp]
  refine wpAny_bind (wpAny_pure ?_)
  exact callWith_method0 (call_int_bit_length (h _ _ (x1.trans (Ext.tok _ _)) (.int _ _)))
end
end Mine
end
-- part AJD
section
open PySem PySem.W PyProof.Rows
set_option maxRecDepth 100000
namespace Mine
section
variable {prog : Program} {w : World} {K : Frag} {p : Program} {loose : List Str} {mg mb : Str → Option Value} {gs : Globs} {sd : Str → Option PyData} {fns : List (Str × Addr)}
variable {dep : Nat} {env : Env} {xs : List Str} {ρ : Env'} {kof : Kof}
theorem reps_replicate {h : Heap} {v : Value} {d : PyData} (r : Rep h v d) : ∀ k, Reps h (List.replicate k v) (List.replicate k d)
  | 0 => .nil
  | k + 1 => .cons r (reps_replicate r k)
/-- a new list of one item, repeated -/
theorem eok_rep {es : List Expr} {d : PyData} {k c : Nat} {p1 p2 pos : Pos} (h1 : LOk prog w K p loose mg mb dep env xs ρ es [d]) (hk : k < 100) :
    EOk prog w K p loose mg mb dep env xs ρ (.BinOp (.List es p1) .Mult (.Constant (.int (k : Int)) c p2) pos) (.list (List.replicate k d)) := by
  intro A E Q s hA hB hV h
  refine wpAny_BinOp (List_ (h1 _ _ _ _ _ hA hB hV fun vs s1 x1 r1 => ?_))
  obtain ⟨v, vs', rfl, r2, r3⟩ := r1.inv_cons
  obtain rfl := r3.inv_nil
  refine wpAny_newList (wpAny_Constant_int ?_) (by rw [sizeLine_eq]; simp)
  have hl : (s1.heap.push { cls := .type "list", data := .seq [v].toArray }).get? s1.heap.objs.size = some { cls := .type "list", data := .seq [v].toArray 0 } := Heap.get?_push_size _ rfl
  refine wpAny_binaryOp_repeat_ref (T := "list") (U := "int") (by decide) ⟨_, hl, rfl⟩ (fun s' => typeIs_int s' _ _) noFill_list_mul F.fills_int_mul F.slot_int_rmul repeat_list F.slot_int_index.lookup ?_
  refine call_meets F.slot_int_rmul (typeIs_int _ _ _) F.entry_int_rmul (F.args_int_rmul_2 _ _) (int___rmul___int_list _ _ _ [v].toArray 0) ?_
  refine ⟨hl, rfl, ⟨_, hl, rfl⟩, call_meets F.slot_list_mul ⟨_, hl, rfl⟩ F.entry_list_mul (F.args_list_mul_2 _ _)
    (AutoListH.list___mul___list_int_3 _ [v].toArray 0 _ _ ?q0 ?q1 ?q2) ⟨hl, ?_⟩⟩
  case q0 =>
    have : Builtin.List.listFitsIndex (k : Int) = true := by
      unfold Builtin.List.listFitsIndex
      rw [Bool.and_eq_true, decide_eq_true_eq, decide_eq_true_eq]; omega
    rw [this]; decide
  case q1 => rw [List.size_toArray, List.length_singleton]; omega
  case q2 =>
    unfold Builtin.List.listTooLong
    rw [decide_eq_true_eq, sizeLine_eq, List.size_toArray, List.length_singleton]; omega
  have e9 : (List.foldl (fun x1 x2 => x1 ++ x2) #[] (List.replicate (if ([v].toArray).isEmpty = true then 0 else (k : Int).toNat) [v].toArray)) = (List.replicate k v).toArray := by
    have : ∀ (n : Nat) (acc : Array Value), List.foldl (fun x1 x2 => x1 ++ x2) acc (List.replicate n [v].toArray) = acc ++ (List.replicate n v).toArray := by
      intro n
      induction n with
      | zero => intro acc; simp
      | succ n ih => intro acc; rw [List.replicate_succ, List.foldl_cons, ih, List.replicate_succ]; apply Array.ext'; simp
    simp [this]
  rw [e9]
  refine h _ _ (x1.trans (Ext.heap s1 _ ((Keeps.push _ _).trans (Keeps.push _ _)))) (.lst (IsLst.new _ _) ?_)
  exact reps_replicate (r2.keeps ((Keeps.push s1.heap { cls := .type "list", data := .seq [v].toArray }).trans (Keeps.push _ { cls := .type "list", data := .seq (List.replicate k v).toArray }))) k
end
end Mine
end
-- part AJE
section
open PySem PySem.W PyProof.Rows
set_option maxRecDepth 100000
namespace Mine
def clos (env : Env) : List (Str × NameKind) → List (Str × Addr) → List (Str × Addr)
  | [], acc => acc
  | (n, k) :: r, acc => if k == .free then clos env r ((n, (env.cells.lookup n).getD 0) :: acc) else clos env r acc
theorem closureFor_eq {scope : Scope} {env : Env} (h : ∀ y ∈ scope.names, y.2 = .free → ∃ c, env.cells.lookup y.1 = some c) : closureFor scope env = pure (clos env scope.names []) := by
  unfold closureFor
  have go : ∀ (names : List (Str × NameKind)) (acc : List (Str × Addr)), (∀ y ∈ names, y.2 = .free → ∃ c, env.cells.lookup y.1 = some c) →
      (forIn names acc fun x r => (match x with
        | (name, kind) => if (kind == NameKind.free) = true then do
            let __do_lift ← cellOf env name
            pure (ForInStep.yield ((name, __do_lift) :: r))
          else pure (ForInStep.yield r) : Sem (ForInStep (List (Str × Addr))))) = pure (clos env names acc) := by
    intro names
    induction names with
    | nil => intro acc _; rfl
    | cons y r ih =>
      intro acc hy
      obtain ⟨n, k⟩ := y
      rw [List.forIn_cons]
      by_cases hk : (k == NameKind.free) = true
      · obtain ⟨c, hc⟩ := hy (n, k) (.head _) (by simpa using hk)
        simp only [hk, if_true, clos]
        have e : cellOf env n = pure c := by unfold cellOf; rw [hc]
        rw [e]
        have := ih ((n, c) :: acc) fun z hz => hy z (.tail _ hz)
        rw [hc]
        exact this
      · have hk' : (k == NameKind.free) = false := by simpa using hk
        simp only [hk', clos]
        exact ih acc fun z hz => hy z (.tail _ hz)
  exact congrArg (fun m => m >>= fun cs => pure cs) (go scope.names [] h)
theorem clos_sound {env : Env} : ∀ (names : List (Str × NameKind)) (acc : List (Str × Addr)), (∀ y ∈ names, y.2 = .free → ∃ c, env.cells.lookup y.1 = some c) → (∀ y c, acc.lookup y = some c → env.cells.lookup y = some c) →
    ∀ y c, (clos env names acc).lookup y = some c → env.cells.lookup y = some c
  | [], acc, _, ha, y, c, e => ha y c e
  | (n, k) :: r, acc, h, ha, y, c, e => by
    unfold clos at e
    by_cases hk : (k == NameKind.free) = true
    · rw [if_pos hk] at e
      obtain ⟨c', hc⟩ := h (n, k) (.head _) (by simpa using hk)
      refine clos_sound r _ (fun z hz => h z (.tail _ hz)) (fun y' c'' e' => ?_) y c e
      rw [List.lookup_cons] at e'
      by_cases hy : (y' == n) = true
      · rw [hy] at e'
        have : y' = n := by simpa using hy
        subst this
        rw [hc] at e' ⊢; simpa using e'
      · have hy' : (y' == n) = false := by simpa using hy
        rw [hy'] at e'
        exact ha _ _ e'
    · rw [if_neg hk] at e
      exact clos_sound r _ (fun z hz => h z (.tail _ hz)) ha y c e
theorem clos_whole {env : Env} : ∀ (names : List (Str × NameKind)) (acc : List (Str × Addr)) (y : Str), ((y, NameKind.free) ∈ names ∨ (acc.lookup y).isSome = true) → ((clos env names acc).lookup y).isSome = true
  | [], acc, y, h => h.elim (fun q => nomatch q) id
  | (n, k) :: r, acc, y, h => by
    unfold clos
    by_cases hk : (k == NameKind.free) = true
    · rw [if_pos hk]
      refine clos_whole r _ y ?_
      by_cases hy : (y == n) = true
      · right; rw [List.lookup_cons, hy]; rfl
      · have hy' : (y == n) = false := by simpa using hy
        rcases h with h | h
        · rcases List.mem_cons.mp h with h | h
          · cases h; simp at hy
          · exact .inl h
        · right; rw [List.lookup_cons, hy']; exact h
    · rw [if_neg hk]
      refine clos_whole r _ y ?_
      rcases h with h | h
      · rcases List.mem_cons.mp h with h | h
        · cases h; simp at hk
        · exact .inl h
      · exact .inr h
theorem relk_cell {kof : Kof} : ∀ {names : List (Str × NameKind)} {y : Str}, (∀ z ∈ names, z.2 ≠ .cell) → (relk kof names).lookup y = some .cell → (y, NameKind.free) ∈ names
  | [], _, _, h => by simp [relk] at h
  | (n, k) :: r, y, hn, h => by
    have hr : ∀ z ∈ r, z.2 ≠ .cell := fun z hz => hn z (.tail _ hz)
    unfold relk at h
    rw [List.map_cons] at h
    dsimp only at h
    by_cases hc : (k == NameKind.free && kof n == some NameKind.cell) = true
    · rw [if_pos hc] at h
      rw [List.lookup_cons] at h
      by_cases hy : (y == n) = true
      · have e1 : y = n := by simpa using hy
        have e2 : k = .free := by simp only [Bool.and_eq_true, beq_iff_eq] at hc; exact hc.1
        subst e1; subst e2; exact .head _
      · have hy' : (y == n) = false := by simpa using hy
        rw [hy'] at h
        exact .tail _ (relk_cell hr h)
    · rw [if_neg hc] at h
      rw [List.lookup_cons] at h
      by_cases hy : (y == n) = true
      · rw [hy] at h
        exact absurd (Option.some.inj h) (hn (n, k) (.head _))
      · have hy' : (y == n) = false := by simpa using hy
        rw [hy'] at h
        exact .tail _ (relk_cell hr h)
theorem relabel_eq {env : Env} {kof : Kof} {scope : Scope} (hk : env.scope.kind = .function) (hkof : ∀ y, env.kindOf y = kof y) : (relabel scope env).names = relk kof scope.names := by
  unfold relabel relk
  dsimp only
  refine List.map_congr_left fun y _ => ?_
  obtain ⟨n, k⟩ := y
  dsimp only
  rw [hk, hkof n]
  simp
section
variable {prog : Program} {w : World} {K : Frag} {p : Program} {loose : List Str} {mg mb : Str → Option Value} {gs : Globs} {sd : Str → Option PyData} {fns : List (Str × Addr)}
variable {dep : Nat} {env : Env} {xs : List Str} {ρ : Env'} {kof : Kof}
theorem reps_snoc {h : Heap} {vs : List Value} {ds : List PyData} {v : Value} {d : PyData} (a : Reps h vs ds) (b : Rep h v d) : Reps h (vs ++ [v]) (ds ++ [d]) := a.append (.cons b .nil)
def TupKeeps (h h' : Heap) : Prop := ∀ b o vs n, o.cls = .type "tuple" → o.data = .seq vs n → h.get? b = some o → h'.get? b = some o
theorem Keeps.tup {h h' : Heap} (k : Keeps h h') : TupKeeps h h' := fun _ _ _ _ _ _ e => k _ _ e
theorem atom_any {h h' : Heap} {v : Value} {d : PyData} (r : Rep h v d) (ha : atom d = true) : Rep h' v d := by
  cases r <;> first | (cases ha; done) | constructor
theorem atoms_any {h h' : Heap} : ∀ {ds : List PyData} {vs : List Value}, Reps h vs ds → ds.all atom = true → Reps h' vs ds
  | [], _, r, _ => by rw [r.inv_nil]; exact .nil
  | d :: ds, _, r, ha => by
    obtain ⟨v, vs', rfl, a, b⟩ := r.inv_cons
    rw [List.all_cons, Bool.and_eq_true] at ha
    exact .cons (atom_any a ha.1) (atoms_any b ha.2)
theorem flat_keeps {h h' : Heap} {v : Value} {d : PyData} (r : Rep h v d) (hf : flat1 d = true) (k : TupKeeps h h') : Rep h' v d := by
  cases r with
  | none => exact .none
  | bool b => exact .bool b
  | int i t => exact .int i t
  | str x t => exact .str x t
  | tup0 h1 h2 h3 h4 => exact .tup0 (k _ _ _ _ h2 h3 h1) h2 h3 (atoms_any h4 hf)
  | lst0 h1 h2 h3 h4 => cases hf
theorem flats_keep {h h' : Heap} (k : TupKeeps h h') : ∀ {ds : List PyData} {vs : List Value}, Reps h vs ds → ds.all flat1 = true → Reps h' vs ds
  | [], _, r, _ => by rw [r.inv_nil]; exact .nil
  | d :: ds, _, r, ha => by
    obtain ⟨v, vs', rfl, a, b⟩ := r.inv_cons
    rw [List.all_cons, Bool.and_eq_true] at ha
    exact .cons (flat_keeps a ha.1 k) (flats_keep k b ha.2)
theorem ns_data {h : Heap} {C : Addr} {m : Str → Option Value} {o : Obj} (x : h.Ns C m) (e : h.get? C = some o) : ∀ vs n, o.data ≠ .seq vs n := by
  obtain ⟨o', es, ep, e', hd, _⟩ := x
  rw [e] at e'
  cases e'
  intro vs n q
  rw [hd] at q; cases q
/-- what stands but for one address -/
def KeepsBut (I : Addr) (h h' : Heap) : Prop := ∀ b o, b ≠ I → h.get? b = some o → h'.get? b = some o
/-- the block of a comprehension, item by item -/
theorem comp_block {A : Around} {E : Value → Shared → Prop} {Q : Value → Shared → Prop} {s₀ s₂ : Shared} {elt iter : Expr} {x : Str} {px pos : Pos} {scope : Scope} {cl : List (Str × Addr)} {I : Addr} {n : Nat} {P : Nat → Value → Prop} {St : Nat → Heap → Prop}
    {ins outs : List PyData} {ys : List Str} {ρ' : Env'}
    (W : Walks prog w A I [I] [I] n P St) (hn : n = ins.length) (hin : ∀ i v d h, P i v → ins[i]? = some d → Rep h v d) (ho : outs.length = ins.length) (hl : ins.length < 1000)
    (hfl : outs.all flat1 = true) (hIo : ∀ i h, St i h → ∃ o, h.get? I = some o ∧ o.cls ≠ .type "tuple")
    (hcell : ∀ y ∈ scope.names, y.2 ≠ .cell) (hkind : scope.kind = .function) (hx : scope.names.lookup x = some .local)
    (hA : AOK A dep) (hB : Base K p loose mg mb s₀.heap) (hst : St 0 s₂.heap) (hI0 : s₀.heap.get? I = none) (hIlt : I < s₂.heap.objs.size) (hs : ∃ h tk, s₂ = { s₀ with heap := h, toks := tk } ∧ Keeps s₀.heap h)
    (hvars : ∀ C h v d m, Keeps s₀.heap h → h.Ns C m → m x = some v → Rep h v d → Vars (compEnvC scope cl C env) (x :: ys) h (some d :: ρ'))
    (helt : ∀ (i : Nat) d r C, ins[i]? = some d → outs[i]? = some r → EOk prog w K p loose mg mb dep (compEnvC scope cl C env) (x :: ys) (some d :: ρ') elt r)
    (hQ : ∀ v s', Ext s₀ s' → Rep s'.heap v (.list outs) → Q v s') :
    wpAny (model prog w) A (newList []) (fun acc s₃ => wpAny (model prog w) A (newFunctionEnv scope env.globals cl [] env.qual none .none (some env)) (fun cenv s₄ =>
      codeAny (model prog w) A (.compStart (.ListComp elt [⟨.Name x px, iter, [], 0⟩] scope pos) 0 (.ref I) acc { cenv with scope := relabel scope env }) (compPost (model prog w) A E none Q acc cenv.locals) s₄) E s₃) E s₂ := by
  obtain ⟨g2, tk2, rfl, hk02⟩ := hs
  refine wpAny_newObj_type (wpAny_newFunctionEnv hcell (by intro y hy; simp at hy) (fun h₁ hns₁ hsb₁ => ?_) hkind)
  dsimp only at hns₁ hsb₁ hIlt hst ⊢
  generalize hH2 : g2.push { cls := .type "list", dict := none, data := .seq ([] : List Value).toArray } = H2 at hns₁ hsb₁ ⊢
  have hC : H2.objs.size = g2.objs.size + 1 := by rw [← hH2, Heap.size_push]
  have hDC : g2.objs.size ≠ H2.objs.size := by rw [hC]; exact Nat.ne_of_lt (Nat.lt_succ_self _)
  have old : Keeps g2 h₁ := fun b o e => hsb₁.extBut b o (by have := Heap.lt_size e; rw [hC]; exact Nat.ne_of_lt (Nat.lt_succ_of_lt this)) (Heap.get?_push_of_some _ (hH2 ▸ Heap.get?_push_of_some _ e))
  have hD : h₁.IsList g2.objs.size ([] : List Value).toArray := ⟨_, hsb₁.extBut _ _ hDC (Heap.get?_push_of_some _ (hH2 ▸ Heap.get?_push_size _ rfl)), rfl, _, rfl⟩
  have hst₁ : St 0 h₁ := W.frame _ _ _ hst fun b _ o e => old b o e
  have lt0 : ∀ b o, s₀.heap.get? b = some o → b < g2.objs.size := fun b o e => Heap.lt_size (hk02 b o e)
  have hCI : I ≠ H2.objs.size := by rw [hC]; exact Nat.ne_of_lt (Nat.lt_succ_of_lt hIlt)
  have hDI : I ≠ g2.objs.size := Nat.ne_of_lt hIlt
  generalize hCe : H2.objs.size = C at *
  generalize hDe : g2.objs.size = D at *
  have ne0 : ∀ b o, s₀.heap.get? b = some o → b ≠ I ∧ b ≠ C ∧ b ≠ D := fun b o e => by
    have q := lt0 b o e
    exact ⟨fun z => (by rw [z, hI0] at e; cases e), Nat.ne_of_lt (by rw [hC]; exact Nat.lt_succ_of_lt q), Nat.ne_of_lt q⟩
  have loop : ∀ s₃ : Shared, s₃ = { s₀ with heap := h₁, toks := tk2 + ([] : List (Str × Value)).length } →
      codeAny (model prog w) A (.compLoop (.ListComp elt [⟨.Name x px, iter, [], 0⟩] scope pos) 0 (.ref I) (.ref D) (compEnvC scope cl C env))
        (compPost (model prog w) A E none Q (.ref D) C) s₃ := by
    rintro s₃ rfl
    refine codeAny_compLoop_tests
      (fun k s' => ∃ h' tk i us m', s' = { s₀ with heap := h', toks := tk } ∧ i ≤ n ∧ k = n + 1 - i ∧ us.length = i ∧ St i h' ∧ Keeps s₀.heap h' ∧ h'.Ns C m' ∧ h'.IsList D us.toArray ∧ Reps h' us (outs.take i)) ?_ (n + 1)
      ⟨h₁, _, 0, [], _, rfl, Nat.zero_le _, rfl, rfl, hst₁, hk02.trans old, hns₁, hD, .nil⟩
    rintro k s' ⟨h', tk, i, us, m', rfl, hi, rfl, hul, hst', hk', hn', hL', hR'⟩
    by_cases hlt : i < n
    · obtain ⟨d, hd⟩ : ∃ d, ins[i]? = some d := ⟨ins[i]'(hn ▸ hlt), by simp⟩
      obtain ⟨r, hr⟩ : ∃ r, outs[i]? = some r := ⟨outs[i]'(by omega), by simp⟩
      refine W.item i _ _ _ hlt hst' fun v h₂ tk₂ hPv hst₂ hk₂ => ?_
      have kI : ∀ b o, b ≠ I → h'.get? b = some o → h₂.get? b = some o := fun b o hb e => hk₂ b o (by simpa using hb) e
      have hn₂ : h₂.Ns C m' := hn'.at' fun o e => kI _ o (Ne.symm hCI) e
      have hL₂ : h₂.IsList D us.toArray := by obtain ⟨o, e, r⟩ := hL'; exact ⟨o, kI _ o (Ne.symm hDI) e, r⟩
      have hk0₂ : Keeps s₀.heap h₂ := fun b o e => kI b o (ne0 b o e).1 (hk' b o e)
      refine wpAny_assign_Name (wpAny_storeName_local (lookup_relabel_local hx) hn₂ (fun h₃ hn₃ hs₃ => ?_) (by simp [compEnvC, relabel, hkind]))
      refine wpAny_tests_nil ?_
      simp only [if_true]
      have kC : ∀ b o, b ≠ C → h₂.get? b = some o → h₃.get? b = some o := fun b o hb e => hs₃.extBut b o hb e
      have hst₃ : St (i + 1) h₃ := W.frame _ _ _ hst₂ fun b hb o e => kC b o (by rw [List.mem_singleton.mp hb]; exact hCI) e
      have hk0₃ : Keeps s₀.heap h₃ := fun b o e => kC b o (ne0 b o e).2.1 (hk0₂ b o e)
      have hL₃ : h₃.IsList D us.toArray := by obtain ⟨o, e, r⟩ := hL₂; exact ⟨o, kC _ o hDC e, r⟩
      have hflt : (outs.take i).all flat1 = true := List.all_eq_true.mpr fun z hz => List.all_eq_true.mp hfl z (List.mem_of_mem_take hz)
      have t13 : TupKeeps h' h₃ := fun b o vs k hc hd e => by
        obtain ⟨oI, eI, hcI⟩ := hIo _ _ hst'
        have bI : b ≠ I := fun q => by rw [q, eI] at e; cases e; exact hcI hc
        have e2 := kI b o bI e
        exact kC b o (fun q => by rw [q] at e2; exact ns_data hn₂ e2 _ _ hd) e2
      have hR₃ : Reps h₃ us (outs.take i) := flats_keep t13 hR' hflt
      have rv : Rep h₃ v d := hin i v d h₃ hPv hd
      refine helt i d r C hd hr _ _ _ _ hA (hB.keeps hk0₃) (hvars C h₃ v d _ hk0₃ hn₃ (by simp) rv) fun y s₄ x₄ r₄ => ?_
      obtain ⟨h₄, tk₄, rfl, k₄⟩ := x₄
      dsimp only at r₄ k₄ ⊢
      refine wpAny_list_append (l := D) (items := us.toArray) (by obtain ⟨o, e, r⟩ := hL₃; exact ⟨o, k₄ _ _ e, r⟩) (fun h₅ hL₅ hs₅ => ?_) (by rw [List.size_toArray, hul, sizeLine_eq]; omega)
      have kD : ∀ b o, b ≠ D → h₄.get? b = some o → h₅.get? b = some o := fun b o hb e => hs₅.extBut b o hb e
      have t45 : TupKeeps h₄ h₅ := fun b o vs k hc hd e => kD b o (fun q => by
        obtain ⟨o', e', hc', _⟩ := hL₃
        rw [q, k₄ _ _ e'] at e; cases e; rw [hc'] at hc; injection hc with q2; exact absurd q2 (by decide)) e
      refine ⟨n + 1 - (i + 1), by omega, h₅, tk₄, i + 1, us ++ [y], _, rfl, hlt, rfl, by simp [hul], ?_, fun b o e => kD b o (ne0 b o e).2.2 (k₄ b o (hk0₃ b o e)), (hn₃.keeps k₄).at' fun o e => kD _ o (Ne.symm hDC) e, ?_, ?_⟩
      · exact W.frame _ _ _ (W.frame _ _ _ hst₃ fun b _ o e => k₄ b o e) fun b hb o e => kD b o (by rw [List.mem_singleton.mp hb]; exact hDI) e
      · rw [List.push_toArray] at hL₅; exact hL₅
      · rw [List.take_add_one, hr]
        refine reps_snoc (flats_keep t45 (hR₃.keeps k₄) hflt) (flat_keeps r₄ ?_ t45)
        exact List.all_eq_true.mp hfl r (List.mem_of_getElem? hr)
    · obtain rfl : i = n := Nat.le_antisymm hi (Nat.not_lt.mp hlt)
      refine W.done _ _ _ hst' fun h₂ tk₂ hk₂ => ?_
      have kI : ∀ b o, b ≠ I → h'.get? b = some o → h₂.get? b = some o := fun b o hb e => hk₂ b o (by simpa using hb) e
      have hn₂ : h₂.Ns C m' := hn'.at' fun o e => kI _ o (Ne.symm hCI) e
      refine ⟨m', hn₂, fun h₃ hs₃ => ?_⟩
      have kC : ∀ b o, b ≠ C → h₂.get? b = some o → h₃.get? b = some o := fun b o hb e => hs₃.extBut b o hb e
      have t13 : TupKeeps h' h₃ := fun b o vs k hc hd e => by
        obtain ⟨oI, eI, hcI⟩ := hIo _ _ hst'
        have bI : b ≠ I := fun q => by rw [q, eI] at e; cases e; exact hcI hc
        have e2 := kI b o bI e
        exact kC b o (fun q => by rw [q] at e2; exact ns_data hn₂ e2 _ _ hd) e2
      have hflt : (outs.take i).all flat1 = true := List.all_eq_true.mpr fun z hz => List.all_eq_true.mp hfl z (List.mem_of_mem_take hz)
      have hR₃ := flats_keep t13 hR' hflt
      rw [List.take_of_length_le (by omega)] at hR₃
      refine hQ _ _ (Ext.heap _ _ fun b o e => kC b o (ne0 b o e).2.1 (kI b o (ne0 b o e).1 (hk' b o e))) (.lst ?_ hR₃)
      obtain ⟨o, e, r⟩ := hL'
      exact ⟨o, kC _ o hDC (kI _ o (Ne.symm hDI) e), r⟩
  exact codeAny_compStart_list (loop _ rfl) (W.self 0 _ _ _ hst₁ (loop _ rfl))
theorem getD_mem {xs : List Str} {i : Nat} (h : i < xs.length) : xs[i]? = some ((xs[i]?).getD (Str.ofString "")) := by
  rw [List.getElem?_eq_getElem h]; rfl
/-- the names of a comprehension's block -/
theorem comp_vars {x : Str} {ys : List Str} {is : List Nat} {scope : Scope} (hE : EnvOK env) (hkof : ∀ y, env.kindOf y = kof y) (hc : compOk kof xs x ys is scope = true) {h₀ : Heap} (hV : Vars env xs h₀ ρ) {C : Addr} {h : Heap} {v : Value} {d : PyData} {m : Str → Option Value}
    (hk : Keeps h₀ h) (hn : h.Ns C m) (hm : m x = some v) (hr : Rep h v d) : Vars (compEnvC scope (clos env scope.names []) C env) (x :: ys) h (some d :: is.map fun i => (ρ[i]?).join) := by
  unfold compOk at hc
  simp only [Bool.and_eq_true, beq_iff_eq, List.all_eq_true, decide_eq_true_eq] at hc
  obtain ⟨⟨⟨⟨⟨⟨⟨h1, h2⟩, h3⟩, h4⟩, h5⟩, h6⟩, h7⟩, h8⟩ := hc
  have hcellsC : ∀ y, (compEnvC scope (clos env scope.names []) C env).kindOf y = (relk kof scope.names).lookup y := fun y => by
    show (relabel scope env).names.lookup y = _
    rw [relabel_eq hE.kind hkof]
  have hfree : ∀ y ∈ scope.names, y.2 = .free → kof y.1 = some .cell := fun y hy e => by
    have := h5 y hy
    rw [e] at this
    simpa using this
  have nocell : ∀ z ∈ scope.names, z.2 ≠ .cell := fun z hz => by simpa using h2 z hz
  -- a name of ys: where it stands
  have place : ∀ (j : Nat) y, ys[j]? = some y → ∃ i, is[j]? = some i ∧ xs[i]? = some y := fun j y e => by
    rw [h6, List.getElem?_map, Option.map_eq_some_iff] at e
    obtain ⟨i, hi, rfl⟩ := e
    exact ⟨i, hi, getD_mem (h7 i (List.mem_of_getElem? hi))⟩
  have cellOf : ∀ (j : Nat) y, ys[j]? = some y → kof y = some .cell ∧ (relk kof scope.names).lookup y = some .cell := fun j y e => by
    have := h8 y (List.mem_of_getElem? e)
    simpa using ⟨this.2, this.1⟩
  have hasCell : ∀ y, (y, NameKind.free) ∈ scope.names → ∀ (j : Nat), ys[j]? = some y → ∃ c w, env.cells.lookup y = some c ∧ h.IsCell c w ∧ (∀ d, (is.map fun i => (ρ[i]?).join)[j]? = some (some d) → ∃ v, w = some v ∧ Rep h v d) := fun y hy j e => by
    obtain ⟨i, hi, hx⟩ := place j y e
    obtain ⟨c, w', hcl, ⟨o, ho, hd⟩, hw⟩ := hV.cs i y hx (by rw [hkof]; exact hfree _ hy rfl)
    refine ⟨c, w', hcl, ⟨o, hk _ _ ho, hd⟩, fun d e2 => ?_⟩
    rw [List.getElem?_map, hi] at e2
    have e3 : (ρ[i]?).join = some d := by simpa using e2
    obtain ⟨v, hv, rv⟩ := hw d (by
      cases q : ρ[i]? with
      | none => rw [q] at e3; cases e3
      | some z => rw [q] at e3; exact congrArg some e3)
    exact ⟨v, hv, rv.keeps hk⟩
  refine ⟨⟨m, hn, fun j y d' e1 e2 e3 => ?_⟩, fun j y e1 e2 => ?_⟩
  · cases j with
    | zero =>
      simp only [List.getElem?_cons_zero, Option.some.injEq] at e1 e2
      subst e1; subst e2
      exact ⟨v, hm, hr⟩
    | succ j =>
      simp only [List.getElem?_cons_succ] at e1
      rw [hcellsC, (cellOf j y e1).2] at e3
      cases e3
  · cases j with
    | zero =>
      simp only [List.getElem?_cons_zero, Option.some.injEq] at e1
      subst e1
      have hf := relk_cell nocell (by rw [← hcellsC]; exact e2)
      have : (relabel scope env).names.lookup x = some .local := lookup_relabel_local h4
      have e2' : (relabel scope env).names.lookup x = some .cell := e2
      rw [this] at e2'
      cases e2'
    | succ j =>
      simp only [List.getElem?_cons_succ] at e1 ⊢
      have hf := relk_cell nocell (cellOf j y e1).2
      obtain ⟨c, w', hcl, hcell, hw⟩ := hasCell y hf j e1
      refine ⟨c, w', ?_, hcell, hw⟩
      -- the closure holds it
      show (clos env scope.names []).lookup y = some c
      have hh : ∀ y ∈ scope.names, y.2 = .free → ∃ c, env.cells.lookup y.1 = some c := fun z hz e => hE.whole _ (by rw [hkof]; exact hfree z hz e)
      obtain ⟨c', hc'⟩ := Option.isSome_iff_exists.mp (clos_whole (env := env) scope.names [] y (.inl hf))
      rw [hc', ← clos_sound scope.names [] hh (fun _ _ q => by simp at q) y c' hc', hcl]
theorem comp_env {x : Str} {ys : List Str} {is : List Nat} {scope : Scope} (hE : EnvOK env) (hkof : ∀ y, env.kindOf y = kof y) (hc : compOk kof xs x ys is scope = true) (C : Addr) :
    EnvOK (compEnvC scope (clos env scope.names []) C env) ∧ (∀ y, (compEnvC scope (clos env scope.names []) C env).kindOf y = List.lookup y (relk kof scope.names)) := by
  unfold compOk at hc
  simp only [Bool.and_eq_true, beq_iff_eq, List.all_eq_true, decide_eq_true_eq] at hc
  obtain ⟨⟨⟨⟨⟨⟨⟨h1, h2⟩, h3⟩, h4⟩, h5⟩, h6⟩, h7⟩, h8⟩ := hc
  have hk : ∀ y, (compEnvC scope (clos env scope.names []) C env).kindOf y = List.lookup y (relk kof scope.names) := fun y => by
    show (relabel scope env).names.lookup y = _
    rw [relabel_eq hE.kind hkof]
  have hh : ∀ y ∈ scope.names, y.2 = .free → ∃ c, env.cells.lookup y.1 = some c := fun z hz e => hE.whole _ (by
    rw [hkof]
    have := h5 z hz
    rw [e] at this
    simpa using this)
  have snd := clos_sound scope.names [] hh (fun _ _ q => by simp at q)
  refine ⟨⟨?_, hE.glob, hE.blt, fun a b c e1 e2 => hE.inj a b c (snd _ _ e1) (snd _ _ e2), fun y e => ?_⟩, hk⟩
  · show (relabel scope env).kind = _
    exact h1
  · rw [hk] at e
    exact Option.isSome_iff_exists.mp (clos_whole (env := env) scope.names [] y (.inl (relk_cell (fun z hz => by simpa using h2 z hz) e)))
theorem eok_comp {elt iter : Expr} {x : Str} {ys : List Str} {is : List Nat} {src : CSrc} {scope : Scope} {px pos : Pos} {outs : List PyData} (hT : Tops K w.params gs sd fns) (hE : EnvOK env) (hkof : ∀ y, env.kindOf y = kof y) (hc : compOk kof xs x ys is scope = true)
    (hsrc : chkSrc kof src iter = true) (ho : outs.length = src.items.length) (hfl : outs.all flat1 = true)
    (helt : ∀ (i : Nat) d r C, src.items[i]? = some d → outs[i]? = some r → EOk prog w K p loose mg mb dep (compEnvC scope (clos env scope.names []) C env) (x :: ys) (some d :: is.map fun i => (ρ[i]?).join) elt r) :
    EOk prog w K p loose mg mb dep env xs ρ (.ListComp elt [⟨.Name x px, iter, [], 0⟩] scope pos) (.list outs) := by
  intro A E Q s hA hB hV hQ
  have hc' := hc
  unfold compOk at hc'
  simp only [Bool.and_eq_true, beq_iff_eq, List.all_eq_true, decide_eq_true_eq] at hc'
  obtain ⟨⟨⟨⟨⟨⟨⟨h1, h2⟩, h3⟩, h4⟩, h5⟩, h6⟩, h7⟩, h8⟩ := hc'
  have hh : ∀ y ∈ scope.names, y.2 = .free → ∃ c, env.cells.lookup y.1 = some c := fun z hz e => hE.whole _ (by
    rw [hkof]
    have := h5 z hz
    rw [e] at this
    simpa using this)
  have hnames : ∀ y ∈ scope.names, y.2 = .local → scope.names.lookup y.1 = some .local := fun y hy e => by
    have := h3 y hy
    rw [e] at this
    simpa using this
  have hcell : ∀ y ∈ scope.names, y.2 ≠ .cell := fun z hz => by simpa using h2 z hz
  have hvars : ∀ C h v d m, Keeps s.heap h → h.Ns C m → m x = some v → Rep h v d → Vars (compEnvC scope (clos env scope.names []) C env) (x :: ys) h (some d :: is.map fun i => (ρ[i]?).join) :=
    fun C h v d m k n e r => comp_vars hE hkof hc hV k n e r
  rw [eval_ListComp]
  have hfold : ∀ z, foldedSetIterable iter env z = pure z := by
    intro z
    unfold chkSrc at hsrc
    split at hsrc <;> first | rfl | cases hsrc
  refine wpAny_comprehension_free (use := none) rfl hfold (closureFor_eq hh) h1 hnames ?_
  cases src with
  | chars y =>
    unfold chkSrc at hsrc
    split at hsrc
    · rename_i h; cases h
    · rename_i y' z kk pp hq
      cases hq
      simp only [Bool.and_eq_true, beq_iff_eq, decide_eq_true_eq] at hsrc
      obtain ⟨⟨rfl, ha⟩, hsz⟩ := hsrc
      refine Calls.Constant_str (k := kk) (pos := pp) (wpAny_pyIter_ascii ha ?_)
      refine comp_block (s₀ := s) (Walks.strAscii hA.hh s.heap.objs.size y s.toks) (ins := CSrc.items (.chars y)) (by simp [CSrc.items]) ?_ ho (by simpa [CSrc.items] using hsz) hfl ?_ hcell h1 h4 hA hB ⟨_, Heap.get?_push_size _ rfl, rfl, rfl⟩ (Heap.get?_none_of_le (Nat.le_refl _)) (by show _ < (s.heap.push _).objs.size; rw [Heap.size_push]; exact Nat.lt_succ_self _)
        ⟨_, _, rfl, Keeps.push _ _⟩ hvars helt hQ
      · rintro i v d h ⟨c, u, hc, rfl⟩ hd
        simp only [CSrc.items, List.getElem?_map, Option.map_eq_some_iff] at hd
        obtain ⟨c', hc', rfl⟩ := hd
        have : c = c' := by simpa [hc] using hc'
        subst this
        exact .str _ _
      · rintro i h ⟨o, e1, e2, _⟩
        exact ⟨o, e1, by rw [e2]; intro q; injection q with q2; exact absurd q2 (by decide)⟩
    · cases hsrc
  | rng n =>
    unfold chkSrc at hsrc
    split at hsrc
    · rename_i n f i kk pp pq hq
      cases hq
      simp only [Bool.and_eq_true, beq_iff_eq, decide_eq_true_eq] at hsrc
      obtain ⟨⟨hf, rfl⟩, hsz⟩ := hsrc
      obtain ⟨pz, rfl, hk, hd⟩ := globName_inv hf
      show wpAny (model prog w) A (eval _ env) _ E s
      refine call_name (name_boot hE hB (by rw [hkof]; exact hk) hd hT.n_range (v := .type "range") boot_range (by decide +kernel) ?_)
      refine PyProof.Rows.callWith_type1 (args_cons (wpAny_Constant_int (args_nil ?_)) rfl) rfl rfl
      refine call_range_1 ?_
      refine wpAny_pyIter_range (IsRange.new _ _ _ _ _ _ _) (small_one (by omega) (by omega) (by omega) (by omega)) ?_
      have hrs : Builtin.Range.rangeSize 0 (n : Int) 1 = (n : Int) := by rw [rangeSize_one]; split <;> omega
      refine comp_block (s₀ := s) (Walks.range hA.hh _ 0 1 n) (ins := CSrc.items (.rng n)) (by simp [CSrc.items]) ?_ ho (by simpa [CSrc.items] using hsz) hfl ?_ hcell h1 h4 hA hB ?_ ?_ ?_ ⟨_, _, rfl, (Keeps.push _ _).trans (Keeps.push _ _)⟩ hvars helt hQ
      · rintro i v d h ⟨t, rfl⟩ hd
        simp only [CSrc.items, List.getElem?_map, Option.map_eq_some_iff] at hd
        obtain ⟨j, hj, rfl⟩ := hd
        have hj' : i < n ∧ i = j := by
          obtain ⟨hlt, e⟩ := List.getElem?_eq_some_iff.mp hj
          simp at e hlt
          exact ⟨hlt, e⟩
        obtain ⟨_, rfl⟩ := hj'
        have : (0 : Int) + (i : Int) * 1 = (i : Int) := by omega
        rw [this]; exact .int _ _
      · rintro i h e
        exact ⟨_, e, by intro q; injection q with q2; exact absurd q2 (by decide)⟩
      · show IsRangeIter _ _ _ _ _
        rw [hrs]
        refine Eq.trans (Heap.get?_push_size _ rfl) ?_
        simp
      · refine Heap.get?_none_of_le ?_
        dsimp only; rw [Heap.size_push]; exact Nat.le_succ _
      · dsimp only; rw [Heap.size_push, Heap.size_push, Heap.size_push]; exact Nat.lt_succ_self _
    · rename_i h; cases h
    · cases hsrc
end
end Mine
end
-- part AJF
section
open PySem PySem.W PyProof.Rows
set_option maxRecDepth 100000
namespace Mine
theorem chk_noStar {gs : Globs} {fns : List (Str × Addr)} {kof : Kof} {xs : List Str} {t : T} {e : Expr} (h : chk gs fns kof xs t e = true) : noStar e := by
  intro rest env
  cases e with
  | Starred a b =>
    exfalso
    cases t <;> simp [chk, globName] at h
    split at h <;> cases h
  | _ => rfl
section
variable {prog : Program} {w : World} {K : Frag} {p : Program} {loose : List Str} {mg mb : Str → Option Value} {gs : Globs} {sd : Str → Option PyData} {fns : List (Str × Addr)}
variable {dep : Nat} {cf : Nat → List PyData → Option PyData}
def P3 (prog : Program) (w : World) (K : Frag) (p : Program) (loose : List Str) (mg mb : Str → Option Value) (gs : Globs) (sd : Str → Option PyData) (fns : List (Str × Addr)) (dep : Nat) (cf : Nat → List PyData → Option PyData)
    (env : Env) (xs : List Str) (ρ : Env') (kof : Kof) (t : T) : Prop :=
  (∀ e d, chk gs fns kof xs t e = true → run gs sd cf t ρ = some d → EOk prog w K p loose mg mb dep env xs ρ e d) ∧
  (∀ e d b, chk gs fns kof xs t e = true → run gs sd cf t ρ = some d → truth d = some b → TOk prog w K p loose mg mb dep env xs ρ e b) ∧
  (∀ es d, chkL gs fns kof xs t es = true → run gs sd cf t ρ = some d → ∃ ds, d = .tuple ds ∧ LOk prog w K p loose mg mb dep env xs ρ es ds ∧ ∀ e ∈ es, noStar e)
theorem p3_of {env : Env} {xs : List Str} {ρ : Env'} {kof : Kof} {t : T} (hE : ∀ e d, chk gs fns kof xs t e = true → run gs sd cf t ρ = some d → EOk prog w K p loose mg mb dep env xs ρ e d)
    (hp : ∀ e, chk gs fns kof xs t e = true → ∀ whole, PySem.isTrue e env whole = (do let v ← whole; standAt e.pos; holding [v] (truthy v)))
    (hL : ∀ es, chkL gs fns kof xs t es = false) : P3 prog w K p loose mg mb gs sd fns dep cf env xs ρ kof t :=
  ⟨hE, fun e d b hc hr hb => tok_plain (hE e d hc hr) hb (hp e hc), fun es d hc _ => by rw [hL es] at hc; cases hc⟩
theorem sound (hT : Tops K w.params gs sd fns) (hC : CallOK prog w K p loose mg mb fns dep cf) : ∀ (t : T) (env : Env) (xs : List Str) (ρ : Env') (kof : Kof), EnvOK env → (∀ y, env.kindOf y = kof y) → P3 prog w K p loose mg mb gs sd fns dep cf env xs ρ kof t := by
  intro t
  induction t with
  | var i =>
    intro env xs ρ kof hE hk
    refine p3_of (fun e d hc hr => ?_) (fun e hc whole => ?_) (fun es => by cases es <;> rfl)
    · cases e <;> simp only [chk, reduceCtorEq] at hc
      simp only [Bool.and_eq_true, Bool.or_eq_true, beq_iff_eq, Bool.not_eq_true'] at hc
      obtain ⟨⟨h1, h2⟩, h3⟩ := hc
      refine eok_local hE h1 ?_ (by rw [hk]; exact h2) h3
      unfold run at hr
      cases q : ρ[i]? with
      | none => rw [q] at hr; cases hr
      | some z => rw [q] at hr; exact congrArg some hr
    · cases e <;> simp only [chk, reduceCtorEq] at hc
      rfl
  | glob i =>
    intro env xs ρ kof hE hk
    refine p3_of (fun e d hc hr => ?_) (fun e hc whole => ?_) (fun es => by cases es <;> rfl)
    · unfold chk at hc
      unfold run at hr
      cases q : gs[i]? with
      | none => rw [q] at hc; cases hc
      | some z =>
        obtain ⟨x, d'⟩ := z
        rw [q] at hc hr
        cases hr
        obtain ⟨pos, rfl, h1, h2⟩ := globName_inv hc
        obtain ⟨v, e1, e2⟩ := hT.globs i x _ q
        exact fun A E Q s hA hB hV h => name_glob hE hB (by rw [hk]; exact h1) h2 e1 (h v s (.refl s) (e2 _ hB.k))
    · unfold chk at hc
      cases q : gs[i]? with
      | none => rw [q] at hc; cases hc
      | some z =>
        rw [q] at hc
        obtain ⟨pos, rfl, _⟩ := globName_inv hc
        rfl
  | litI i =>
    intro env xs ρ kof hE hk
    refine p3_of (fun e d hc hr => ?_) (fun e hc whole => ?_) (fun es => by cases es <;> rfl)
    · unfold chk at hc
      split at hc
      · cases hr; have := eq_of_beq hc; subst this; exact eok_int
      · cases hc
    · unfold chk at hc
      split at hc
      · rfl
      · cases hc
  | litS i =>
    intro env xs ρ kof hE hk
    refine p3_of (fun e d hc hr => ?_) (fun e hc whole => ?_) (fun es => by cases es <;> rfl)
    · unfold chk at hc
      split at hc
      · cases hr; have := eq_of_beq hc; subst this; exact eok_str
      · cases hc
    · unfold chk at hc
      split at hc
      · rfl
      · cases hc
  | litB i =>
    intro env xs ρ kof hE hk
    refine p3_of (fun e d hc hr => ?_) (fun e hc whole => ?_) (fun es => by cases es <;> rfl)
    · unfold chk at hc
      split at hc
      · cases hr; have := eq_of_beq hc; subst this; exact eok_bool
      · cases hc
    · unfold chk at hc
      split at hc
      · rfl
      · cases hc
  | bin o a b iha ihb =>
    intro env xs ρ kof hE hk
    refine p3_of (fun e d hc hr => ?_) (fun e hc whole => ?_) (fun es => by cases es <;> rfl)
    · unfold chk at hc
      split at hc
      · simp only [Bool.and_eq_true, beq_iff_eq] at hc
        obtain ⟨⟨rfl, h1⟩, h2⟩ := hc
        unfold run at hr
        split at hr
        · rename_i x y e1 e2
          obtain ⟨z, hz, rfl⟩ := Option.map_eq_some_iff.mp hr
          exact eok_bin ((iha env xs ρ kof hE hk).1 _ _ h1 e1) ((ihb env xs ρ kof hE hk).1 _ _ h2 e2) hz
        · cases hr
      · cases hc
    · unfold chk at hc
      split at hc
      · rfl
      · cases hc
  | neg a iha =>
    intro env xs ρ kof hE hk
    refine p3_of (fun e d hc hr => ?_) (fun e hc whole => ?_) (fun es => by cases es <;> rfl)
    · unfold chk at hc
      split at hc
      · unfold run at hr
        split at hr
        · rename_i x e1
          cases hr
          exact eok_neg ((iha env xs ρ kof hE hk).1 _ _ hc e1)
        · cases hr
      · cases hc
    · unfold chk at hc
      split at hc
      · rfl
      · cases hc
  | not a iha =>
    intro env xs ρ kof hE hk
    have I := iha env xs ρ kof hE hk
    refine ⟨fun e d hc hr => ?_, fun e d b hc hr hb => ?_, fun es d hc hr => by cases es <;> cases hc⟩
    · unfold chk at hc
      split at hc
      · unfold run at hr
        split at hr
        · rename_i x e1
          obtain ⟨b, hb, rfl⟩ := Option.map_eq_some_iff.mp hr
          exact eok_not (I.1 _ _ hc e1) hb
        · cases hr
      · cases hc
    · unfold chk at hc
      split at hc
      · unfold run at hr
        split at hr
        · rename_i x e1
          obtain ⟨b', hb', rfl⟩ := Option.map_eq_some_iff.mp hr
          cases hb
          exact tok_not (I.2.1 _ _ _ hc e1 hb')
        · cases hr
      · cases hc
  | cmp o a b iha ihb =>
    intro env xs ρ kof hE hk
    have Ia := iha env xs ρ kof hE hk
    have Ib := ihb env xs ρ kof hE hk
    refine ⟨fun e d hc hr => ?_, fun e d b hc hr hb => ?_, fun es d hc hr => by cases es <;> cases hc⟩
    · unfold chk at hc
      split at hc
      · simp only [Bool.and_eq_true, beq_iff_eq, Bool.not_eq_true'] at hc
        obtain ⟨⟨⟨rfl, h0⟩, h1⟩, h2⟩ := hc
        unfold run at hr
        split at hr
        · rename_i x y e1 e2
          obtain ⟨z, hz, rfl⟩ := Option.map_eq_some_iff.mp hr
          exact eok_cmp (Ia.1 _ _ h1 e1) (Ib.1 _ _ h2 e2) hz h0
        · cases hr
      · cases hc
    · unfold chk at hc
      split at hc
      · simp only [Bool.and_eq_true, beq_iff_eq, Bool.not_eq_true'] at hc
        obtain ⟨⟨⟨rfl, h0⟩, h1⟩, h2⟩ := hc
        unfold run at hr
        split at hr
        · rename_i x y e1 e2
          obtain ⟨z, hz, rfl⟩ := Option.map_eq_some_iff.mp hr
          cases hb
          exact tok_cmp (Ia.1 _ _ h1 e1) (Ib.1 _ _ h2 e2) hz h0
        · cases hr
      · cases hc
  | and a b iha ihb =>
    intro env xs ρ kof hE hk
    have Ia := iha env xs ρ kof hE hk
    have Ib := ihb env xs ρ kof hE hk
    refine ⟨fun e d hc hr => ?_, fun e d b' hc hr hb => ?_, fun es d hc hr => by cases es <;> cases hc⟩
    · unfold chk at hc
      split at hc
      · simp only [Bool.and_eq_true] at hc
        unfold run at hr
        split at hr
        · rename_i x e1
          split at hr
          · rename_i ht
            exact eok_and (Ia.1 _ _ hc.1 e1) ht (fun _ => Ib.1 _ _ hc.2 hr) (fun q => nomatch q)
          · rename_i ht
            cases hr
            exact eok_and (Ia.1 _ _ hc.1 e1) ht (fun q => nomatch q) (fun _ => rfl)
          · cases hr
        · cases hr
      · cases hc
    · unfold chk at hc
      split at hc
      · simp only [Bool.and_eq_true] at hc
        unfold run at hr
        split at hr
        · rename_i x e1
          split at hr
          · rename_i ht
            exact tok_and (Ia.2.1 _ _ _ hc.1 e1 ht) (fun _ => Ib.2.1 _ _ _ hc.2 hr hb) (fun q => nomatch q)
          · rename_i ht
            cases hr
            rw [ht] at hb
            cases hb
            exact tok_and (Ia.2.1 _ _ _ hc.1 e1 ht) (fun q => nomatch q) (fun _ => rfl)
          · cases hr
        · cases hr
      · cases hc
  | or a b iha ihb =>
    intro env xs ρ kof hE hk
    have Ia := iha env xs ρ kof hE hk
    have Ib := ihb env xs ρ kof hE hk
    refine ⟨fun e d hc hr => ?_, fun e d b' hc hr hb => ?_, fun es d hc hr => by cases es <;> cases hc⟩
    · unfold chk at hc
      split at hc
      · simp only [Bool.and_eq_true] at hc
        unfold run at hr
        split at hr
        · rename_i x e1
          split at hr
          · rename_i ht
            cases hr
            exact eok_or (Ia.1 _ _ hc.1 e1) ht (fun q => nomatch q) (fun _ => rfl)
          · rename_i ht
            exact eok_or (Ia.1 _ _ hc.1 e1) ht (fun _ => Ib.1 _ _ hc.2 hr) (fun q => nomatch q)
          · cases hr
        · cases hr
      · cases hc
    · unfold chk at hc
      split at hc
      · simp only [Bool.and_eq_true] at hc
        unfold run at hr
        split at hr
        · rename_i x e1
          split at hr
          · rename_i ht
            cases hr
            rw [ht] at hb
            cases hb
            exact tok_or (Ia.2.1 _ _ _ hc.1 e1 ht) (fun q => nomatch q) (fun _ => rfl)
          · rename_i ht
            exact tok_or (Ia.2.1 _ _ _ hc.1 e1 ht) (fun _ => Ib.2.1 _ _ _ hc.2 hr hb) (fun q => nomatch q)
          · cases hr
        · cases hr
      · cases hc
  | ite c a b ihc iha ihb =>
    intro env xs ρ kof hE hk
    have Ic := ihc env xs ρ kof hE hk
    have Ia := iha env xs ρ kof hE hk
    have Ib := ihb env xs ρ kof hE hk
    refine ⟨fun e d hc hr => ?_, fun e d b' hc hr hb => ?_, fun es d hc hr => by cases es <;> cases hc⟩
    · unfold chk at hc
      split at hc
      · simp only [Bool.and_eq_true] at hc
        unfold run at hr
        split at hr
        · rename_i x e1
          split at hr
          · rename_i ht
            exact eok_ite (Ic.2.1 _ _ _ hc.1.1 e1 ht) (fun _ => Ia.1 _ _ hc.1.2 hr) (fun q => nomatch q)
          · rename_i ht
            exact eok_ite (Ic.2.1 _ _ _ hc.1.1 e1 ht) (fun q => nomatch q) (fun _ => Ib.1 _ _ hc.2 hr)
          · cases hr
        · cases hr
      · cases hc
    · unfold chk at hc
      split at hc
      · simp only [Bool.and_eq_true] at hc
        unfold run at hr
        split at hr
        · rename_i x e1
          split at hr
          · rename_i ht
            exact tok_ite (Ic.2.1 _ _ _ hc.1.1 e1 ht) (fun _ => Ia.2.1 _ _ _ hc.1.2 hr hb) (fun q => nomatch q)
          · rename_i ht
            exact tok_ite (Ic.2.1 _ _ _ hc.1.1 e1 ht) (fun q => nomatch q) (fun _ => Ib.2.1 _ _ _ hc.2 hr hb)
          · cases hr
        · cases hr
      · cases hc
  | nil =>
    intro env xs ρ kof hE hk
    refine ⟨fun e d hc hr => (by cases e <;> cases hc), fun e d b' hc hr hb => (by cases e <;> cases hc), fun es d hc hr => ?_⟩
    cases es with
    | nil => cases hr; exact ⟨[], rfl, lok_nil, fun _ h => nomatch h⟩
    | cons e es => cases hc
  | cons a b iha ihb =>
    intro env xs ρ kof hE hk
    refine ⟨fun e d hc hr => (by cases e <;> cases hc), fun e d b' hc hr hb => (by cases e <;> cases hc), fun es d hc hr => ?_⟩
    cases es with
    | nil => cases hc
    | cons e es =>
      simp only [chkL, Bool.and_eq_true] at hc
      unfold run at hr
      split at hr
      · rename_i x l e1 e2
        cases hr
        obtain ⟨ds, q, h1, h2⟩ := (ihb env xs ρ kof hE hk).2.2 es _ hc.2 e2
        cases q
        refine ⟨_, rfl, lok_cons (chk_noStar hc.1) ((iha env xs ρ kof hE hk).1 _ _ hc.1 e1) h1, fun z hz => ?_⟩
        rcases List.mem_cons.mp hz with rfl | hz
        · exact chk_noStar hc.1
        · exact h2 z hz
      · cases hr
  | tup l ih =>
    intro env xs ρ kof hE hk
    refine p3_of (fun e d hc hr => ?_) (fun e hc whole => ?_) (fun es => by cases es <;> rfl)
    · unfold chk at hc
      split at hc
      · unfold run at hr
        split at hr
        · rename_i l' e1
          obtain ⟨h1, rfl⟩ := guardO_some hr
          obtain ⟨ds, q, h2, _⟩ := (ih env xs ρ kof hE hk).2.2 _ _ hc e1
          cases q
          exact eok_tup h2 h1
        · cases hr
      · cases hc
    · unfold chk at hc
      split at hc
      · rfl
      · cases hc
  | lst l ih =>
    intro env xs ρ kof hE hk
    refine p3_of (fun e d hc hr => ?_) (fun e hc whole => ?_) (fun es => by cases es <;> rfl)
    · unfold chk at hc
      split at hc
      · unfold run at hr
        split at hr
        · rename_i l' e1
          obtain ⟨h1, rfl⟩ := guardO_some hr
          obtain ⟨ds, q, h2, _⟩ := (ih env xs ρ kof hE hk).2.2 _ _ hc e1
          cases q
          exact eok_lst h2 h1
        · cases hr
      · cases hc
    · unfold chk at hc
      split at hc
      · rfl
      · cases hc
  | idx a i iha ihi =>
    intro env xs ρ kof hE hk
    refine p3_of (fun e d hc hr => ?_) (fun e hc whole => ?_) (fun es => by cases es <;> rfl)
    · unfold chk at hc
      split at hc
      · simp only [Bool.and_eq_true, Bool.not_eq_true'] at hc
        unfold run at hr
        split at hr
        · rename_i l' k e1 e2
          exact eok_idx ((iha env xs ρ kof hE hk).1 _ _ hc.1.2 e1) ((ihi env xs ρ kof hE hk).1 _ _ hc.2 e2) hr hc.1.1
        · cases hr
      · cases hc
    · unfold chk at hc
      split at hc
      · rfl
      · cases hc
  | idxL a i iha ihi =>
    intro env xs ρ kof hE hk
    refine p3_of (fun e d hc hr => ?_) (fun e hc whole => ?_) (fun es => by cases es <;> rfl)
    · unfold chk at hc
      split at hc
      · rename_i v s pos
        simp only [Bool.and_eq_true, Bool.not_eq_true'] at hc
        unfold run at hr
        split at hr
        · rename_i l' k e1 e2
          cases hg : (decide (0 ≤ k) && decide (k < 2 ^ 63)) with
          | false => rw [hg] at hr; cases hr
          | true =>
            rw [hg] at hr
            have hr : l'[k.toNat]? = some d := hr
            simp only [Bool.and_eq_true, decide_eq_true_eq] at hg
            have hn : ∃ x pp, v = .Name x pp := by
              have := hc.1.1.1
              cases v <;> first | exact ⟨_, _, rfl⟩ | cases this
            obtain ⟨x, pp, rfl⟩ := hn
            exact eok_idxL ((iha env xs ρ kof hE hk).1 _ _ hc.1.2 e1) ((ihi env xs ρ kof hE hk).1 _ _ hc.2 e2) hg.1 hg.2 hr hc.1.1.2
        · cases hr
      · cases hc
    · unfold chk at hc
      split at hc
      · rfl
      · cases hc
  | down a iha =>
    intro env xs ρ kof hE hk
    refine p3_of (fun e d hc hr => ?_) (fun e hc whole => ?_) (fun es => by cases es <;> rfl)
    · unfold chk at hc
      split at hc
      · simp only [Bool.and_eq_true, Bool.not_eq_true'] at hc
        obtain ⟨⟨h1, h2⟩, h3⟩ := hc
        obtain ⟨pp, rfl, h4, h5⟩ := globName_inv h1
        unfold run at hr
        split at hr
        · rename_i s e1
          exact eok_down hE hT ⟨_, rfl⟩ (by rw [hk]; exact h4) ((iha env xs ρ kof hE hk).1 _ _ h3 e1) hr h2
        · cases hr
      · cases hc
    · unfold chk at hc
      split at hc
      · rfl
      · cases hc
  | call f l ih =>
    intro env xs ρ kof hE hk
    refine p3_of (fun e d hc hr => ?_) (fun e hc whole => ?_) (fun es => by cases es <;> rfl)
    · unfold chk at hc
      split at hc
      · split at hc
        · rename_i x a q
          simp only [Bool.and_eq_true] at hc
          obtain ⟨pp, rfl, h4, h5⟩ := globName_inv hc.1
          unfold run at hr
          split at hr
          · rename_i l' e1
            obtain ⟨ds, qq, h2, h3⟩ := (ih env xs ρ kof hE hk).2.2 _ _ hc.2 e1
            cases qq
            exact eok_call hE hT hC q ⟨_, rfl⟩ (by rw [hk]; exact h4) h5 h3 h2 hr
          · cases hr
        · cases hc
      · cases hc
    · unfold chk at hc
      split at hc
      · rfl
      · cases hc
  | len a iha =>
    intro env xs ρ kof hE hk
    refine p3_of (fun e d hc hr => ?_) (fun e hc whole => ?_) (fun es => by cases es <;> rfl)
    · unfold chk at hc
      split at hc
      · simp only [Bool.and_eq_true] at hc
        obtain ⟨pp, rfl, h4, h5⟩ := globName_inv hc.1
        unfold run at hr
        split at hr
        · rename_i l' e1
          obtain ⟨h1, rfl⟩ := guardO_some hr
          exact eok_blt hE ⟨_, rfl⟩ (by rw [hk]; exact h4) h5 hT.n_len boot_len (by decide +kernel) (fun z hz => by rw [List.mem_singleton.mp hz]; exact chk_noStar hc.2)
            (lok_cons (chk_noStar hc.2) ((iha env xs ρ kof hE hk).1 _ _ hc.2 e1) lok_nil) (len_call (of_decide_eq_true h1))
        · cases hr
      · cases hc
    · unfold chk at hc
      split at hc
      · rfl
      · cases hc
  | max a b iha ihb =>
    intro env xs ρ kof hE hk
    refine p3_of (fun e d hc hr => ?_) (fun e hc whole => ?_) (fun es => by cases es <;> rfl)
    · unfold chk at hc
      split at hc
      · simp only [Bool.and_eq_true] at hc
        obtain ⟨pp, rfl, h4, h5⟩ := globName_inv hc.1.1
        unfold run at hr
        split at hr
        · rename_i x y e1 e2
          cases hr
          exact eok_blt hE ⟨_, rfl⟩ (by rw [hk]; exact h4) h5 hT.n_max boot_max (by decide +kernel)
            (fun z hz => by
              rcases List.mem_cons.mp hz with rfl | hz
              · exact chk_noStar hc.1.2
              · rw [List.mem_singleton.mp hz]; exact chk_noStar hc.2)
            (lok_cons (chk_noStar hc.1.2) ((iha env xs ρ kof hE hk).1 _ _ hc.1.2 e1) (lok_cons (chk_noStar hc.2) ((ihb env xs ρ kof hE hk).1 _ _ hc.2 e2) lok_nil)) max_call
        · cases hr
      · cases hc
    · unfold chk at hc
      split at hc
      · rfl
      · cases hc
  | divmod a b iha ihb =>
    intro env xs ρ kof hE hk
    refine p3_of (fun e d hc hr => ?_) (fun e hc whole => ?_) (fun es => by cases es <;> rfl)
    · unfold chk at hc
      split at hc
      · simp only [Bool.and_eq_true] at hc
        obtain ⟨pp, rfl, h4, h5⟩ := globName_inv hc.1.1
        unfold run at hr
        split at hr
        · rename_i x y e1 e2
          unfold divmodOf at hr
          obtain ⟨h1, rfl⟩ := guardO_some hr
          exact eok_blt hE ⟨_, rfl⟩ (by rw [hk]; exact h4) h5 hT.n_divmod boot_divmod (by decide +kernel)
            (fun z hz => by
              rcases List.mem_cons.mp hz with rfl | hz
              · exact chk_noStar hc.1.2
              · rw [List.mem_singleton.mp hz]; exact chk_noStar hc.2)
            (lok_cons (chk_noStar hc.1.2) ((iha env xs ρ kof hE hk).1 _ _ hc.1.2 e1) (lok_cons (chk_noStar hc.2) ((ihb env xs ρ kof hE hk).1 _ _ hc.2 e2) lok_nil)) (divmod_call h1)
        · cases hr
      · cases hc
    · unfold chk at hc
      split at hc
      · rfl
      · cases hc
  | isint a iha =>
    intro env xs ρ kof hE hk
    refine p3_of (fun e d hc hr => ?_) (fun e hc whole => ?_) (fun es => by cases es <;> rfl)
    · unfold chk at hc
      split at hc
      · simp only [Bool.and_eq_true] at hc
        obtain ⟨pp, rfl, h4, h5⟩ := globName_inv hc.1.1
        obtain ⟨pq, rfl, h6, h7⟩ := globName_inv hc.1.2
        unfold run at hr
        split at hr
        · rename_i i e1
          cases hr
          exact eok_isint hE hT ⟨_, rfl⟩ (by rw [hk]; exact h4) ⟨_, rfl⟩ (by rw [hk]; exact h6) (chk_noStar hc.2) ((iha env xs ρ kof hE hk).1 _ _ hc.2 e1)
        · cases hr
      · cases hc
    · unfold chk at hc
      split at hc
      · rfl
      · cases hc
  | bitlen a iha =>
    intro env xs ρ kof hE hk
    refine p3_of (fun e d hc hr => ?_) (fun e hc whole => ?_) (fun es => by cases es <;> rfl)
    · unfold chk at hc
      split at hc
      · rename_i x n p1 pos
        simp only [Bool.and_eq_true, Bool.or_eq_true, beq_iff_eq] at hc
        obtain ⟨⟨⟨rfl, h1⟩, h2⟩, h3⟩ := hc
        unfold run at hr
        split at hr
        · rename_i i e1
          cases hr
          refine eok_bitlen ?_ (by rw [beq_iff_eq]; exact h2) ((iha env xs ρ kof hE hk).1 _ _ h3 e1)
          cases x <;> first | rfl | (rcases h1 with h1 | h1 <;> cases h1)
        · cases hr
      · cases hc
    · unfold chk at hc
      split at hc
      · rfl
      · cases hc
  | all a iha =>
    intro env xs ρ kof hE hk
    refine p3_of (fun e d hc hr => ?_) (fun e hc whole => ?_) (fun es => by cases es <;> rfl)
    · unfold chk at hc
      split at hc
      · simp only [Bool.and_eq_true] at hc
        obtain ⟨pp, rfl, h4, h5⟩ := globName_inv hc.1
        unfold run at hr
        split at hr
        · rename_i l' e1
          split at hr
          · rename_i bs hbs
            cases hr
            exact eok_blt hE ⟨_, rfl⟩ (by rw [hk]; exact h4) h5 hT.n_all boot_all (by decide +kernel) (fun z hz => by rw [List.mem_singleton.mp hz]; exact chk_noStar hc.2)
              (lok_cons (chk_noStar hc.2) ((iha env xs ρ kof hE hk).1 _ _ hc.2 e1) lok_nil) (all_call hbs)
          · cases hr
        · cases hr
      · cases hc
    · unfold chk at hc
      split at hc
      · rfl
      · cases hc
  | rep l k ih =>
    intro env xs ρ kof hE hk
    refine p3_of (fun e d hc hr => ?_) (fun e hc whole => ?_) (fun es => by cases es <;> rfl)
    · unfold chk at hc
      split at hc
      · rename_i es p1 j kk p2 pos
        simp only [Bool.and_eq_true, beq_iff_eq] at hc
        obtain ⟨h1, rfl⟩ := hc
        unfold run at hr
        split at hr
        · rename_i d' e1
          obtain ⟨h2, rfl⟩ := guardO_some hr
          obtain ⟨ds, q, h3, _⟩ := (ih env xs ρ kof hE hk).2.2 _ _ h1 e1
          cases q
          exact eok_rep h3 (of_decide_eq_true h2)
        · cases hr
      · cases hc
    · unfold chk at hc
      split at hc
      · rfl
      · cases hc
  | comp x ys is src elt ih =>
    intro env xs ρ kof hE hk
    refine p3_of (fun e d hc hr => ?_) (fun e hc whole => ?_) (fun es => by cases es <;> rfl)
    · unfold chk at hc
      split at hc
      · rename_i elt' x' px iter scope pos
        simp only [Bool.and_eq_true, beq_iff_eq] at hc
        obtain ⟨⟨⟨rfl, h1⟩, h2⟩, h3⟩ := hc
        unfold run at hr
        split at hr
        · rename_i outs e1
          obtain ⟨h4, rfl⟩ := guardO_some hr
          simp only [Bool.and_eq_true] at h4
          have key : ∀ {l : List (Option PyData)} {o : List PyData}, seqM l = some o → o.length = l.length ∧ ∀ (i : Nat) r, o[i]? = some r → l[i]? = some (some r) := by
            intro l
            induction l with
            | nil => intro o h; cases h; exact ⟨rfl, fun i r h => by simp at h⟩
            | cons z l ihl =>
              intro o h
              cases z with
              | none => cases h
              | some z =>
                simp only [seqM, Option.map_eq_some_iff] at h
                obtain ⟨o', ho', rfl⟩ := h
                obtain ⟨q1, q2⟩ := ihl ho'
                refine ⟨by simp [q1], fun i r h => ?_⟩
                cases i with
                | zero => simpa using h
                | succ i => simpa using q2 i r (by simpa using h)
          obtain ⟨k1, k2⟩ := key e1
          refine eok_comp hT hE hk h2 h1 (by rw [k1, List.length_map]) h4.2 fun i d r C hd hr' => ?_
          obtain ⟨E1, E2⟩ := comp_env hE hk h2 C
          have := k2 i r hr'
          rw [List.getElem?_map, hd] at this
          exact (ih _ _ _ _ E1 E2).1 _ _ h3 (by simpa using this)
        · cases hr
      · cases hc
    · unfold chk at hc
      split at hc
      · rfl
      · cases hc
  | bad =>
    intro env xs ρ kof hE hk
    refine p3_of (fun e d hc hr => ?_) (fun e hc whole => ?_) (fun es => by cases es <;> rfl)
    · cases hr
    · unfold chk at hc
      split at hc
      · rfl
      · cases hc
end
end Mine
end
-- part AJG
section
open PySem PySem.W PyProof.Rows
set_option maxRecDepth 100000
namespace Mine
inductive Res where
  | next (ρ : Env')
  | ret (d : PyData)
/-- statements -/
inductive S where
  | nil
  | cons (a r : S)
  | grow (i : Nat) (l1 l2 : T) (r : S)
  | asg (i : Nat) (t : T)
  | asgT (is : List Nat) (rev : Bool) (t : T)
  | aug (i : Nat) (o : IOp) (t : T)
  | ite (c : T) (a b : S)
  | ret (t : T)
  | asrt (t : T)
  | loop (b : S)
  | forr (i : Nat) (src : CSrc) (b : S)
  /-- not come to: says nothing -/
  | bad
def flatO : Option PyData → Bool
  | some d => flat1 d
  | none => true
def sets : List Nat → List PyData → Env' → Env'
  | i :: is, d :: ds, ρ => sets is ds (ρ.set i (some d))
  | _, _, ρ => ρ
def iterW (f : Env' → Option Res) : Nat → Env' → Option Res
  | 0, _ => none
  | n + 1, ρ => match f ρ with
    | some (.next ρ') => iterW f n ρ'
    | x => x
def forL (f : Env' → Option Res) (i : Nat) : List PyData → Env' → Option Res
  | [], ρ => some (.next ρ)
  | d :: ds, ρ => match f (ρ.set i (some d)) with
    | some (.next ρ') => forL f i ds ρ'
    | x => x
section
variable (gs : Globs) (sd : Str → Option PyData) (cf : Nat → List PyData → Option PyData) (N : Nat)
def runS : S → Env' → Option Res
  | .nil, ρ => some (.next ρ)
  | .cons a r, ρ => match runS a ρ with
    | some (.next ρ') => runS r ρ'
    | x => x
  | .grow i l1 l2 r, ρ => match run gs sd cf l1 ρ with
    | some (.tuple a) => match run gs sd cf l2 (ρ.set i none) with
      | some (.tuple b) => match decide (a.length < 1000) && decide (b.length < 1000) && a.all flat1 && b.all flat1 && (ρ.set i none).all flatO with
        | true => runS r (ρ.set i (some (.list (a ++ b))))
        | false => none
      | _ => none
    | _ => none
  | .asg i t, ρ => (run gs sd cf t ρ).map fun d => .next (ρ.set i (some d))
  | .asgT is rev t, ρ => match run gs sd cf t ρ with
    | some (.tuple l) => guardO (l.length == is.length) (.next (match rev with | true => sets is.reverse l.reverse ρ | false => sets is l ρ))
    | some (.list l) => guardO (l.length == is.length && !rev) (.next (sets is l ρ))
    | _ => none
  | .aug i o t, ρ => match (ρ[i]?).join, run gs sd cf t ρ with
    | some (.int a), some (.int b) => (o.b.run a b).map fun c => .next (ρ.set i (some (.int c)))
    | _, _ => none
  | .ite c a b, ρ => match run gs sd cf c ρ with
    | some d => match truth d with
      | some true => runS a ρ
      | some false => runS b ρ
      | none => none
    | none => none
  | .ret t, ρ => (run gs sd cf t ρ).map .ret
  | .asrt t, ρ => match run gs sd cf t ρ with
    | some d => match truth d with
      | some true => some (.next ρ)
      | _ => none
    | none => none
  | .loop b, ρ => iterW (runS b) N ρ
  | .forr i src b, ρ => forL (runS b) i src.items ρ
  | .bad, _ => none
end
def isComp (e : Expr) : Bool := match e with
  | .ListComp .. => true
  | .SetComp .. => true
  | .DictComp .. => true
  | _ => false
def swapCalc (kof : Kof) (ts : List Expr) (value : Expr) : Option (Option (List Str)) := match value with
  | .Tuple vs _ _ =>
    if !(ts.length == 2 || ts.length == 3) || vs.length != ts.length then some none
    else if vs.any fun | .Starred .. => true | _ => false then some none
    else
      let line := (ts.head?.map (·.pos.line)).getD 0
      let names := ts.filterMap fun
        | .Name id pos => if kof id == some .local && pos.line == line then some id else none
        | _ => none
      if names.length != ts.length || names.eraseDups.length != names.length then some none
      else if vs.all (foldedForSure 8) then some none
      else if vs.all (constantsAlone 8) then none
      else some (some names)
  | _ => some none
theorem swapCalc_sound {env : Env} {kof : Kof} {ts : List Expr} {k : Nat} {tp : Pos} {value : Expr} {r : Option (List Str)} (hk : env.scope.kind = .function) (hkof : ∀ y, env.kindOf y = kof y) (h : swapCalc kof ts value = some r) :
    swappedStores [.Tuple ts k tp] value env = pure r := by
  have hb : env.blockKind = .function := by unfold Env.blockKind; rw [hk]; rfl
  unfold swapCalc at h
  cases value with
  | Tuple vs a b =>
    unfold swappedStores
    dsimp only
    rw [hb]
    dsimp only at h
    simp only [hkof]
    have f : (ScopeKind.function != ScopeKind.function) = false := by decide
    simp only [f, Bool.or_false]
    split at h
    · rename_i c; cases h; refine Eq.trans (if_pos ?hc) ?_; (case hc => exact c); rfl
    · rename_i c
      refine Eq.trans (if_neg ?hc) ?_; (case hc => exact c)
      split at h
      · rename_i c2; cases h; refine Eq.trans (if_pos ?hc) ?_; (case hc => exact c2); rfl
      · rename_i c2
        refine Eq.trans (if_neg ?hc) ?_; (case hc => exact c2)
        split at h
        · rename_i c3; cases h; refine Eq.trans (if_pos ?hc) ?_; (case hc => exact c3); rfl
        · rename_i c3
          refine Eq.trans (if_neg ?hc) ?_; (case hc => exact c3)
          split at h
          · rename_i c4; cases h; refine Eq.trans (if_pos ?hc) ?_; (case hc => exact c4); rfl
          · rename_i c4
            refine Eq.trans (if_neg ?hc) ?_; (case hc => exact c4)
            split at h
            · cases h
            · rename_i c5
              cases h; refine Eq.trans (if_neg ?hc) ?_; (case hc => exact c5); rfl
  | _ => cases h; rfl
def okName (kof : Kof) (x : Str) : Bool := kof x == some .local || kof x == some .cell
def chkNames (kof : Kof) (xs : List Str) : List Nat → List Expr → Bool
  | [], [] => true
  | i :: is, .Name x _ :: es => xs[i]? == some x && okName kof x && chkNames kof xs is es
  | _, _ => false
section
variable (gs : Globs) (fns : List (Str × Addr)) (kof : Kof) (xs : List Str)
mutual
def chkS : S → Stmt → Bool
  | .asg i t, st => match st with
    | .Assign [.Name x _] v _ => xs[i]? == some x && okName kof x && !isComp v && chk gs fns kof xs t v
    | _ => false
  | .asgT is rev t, st => match st with
    | .Assign [.Tuple es _ _] v _ => chkNames kof xs is es && (match rev with
        | true => swapCalc kof es v == some (some (is.map fun i => (xs[i]?).getD (Str.ofString "")))
        | false => swapCalc kof es v == some none) && chk gs fns kof xs t v
    | _ => false
  | .aug i o t, st => match st with
    | .AugAssign (.Name x _) op v _ => xs[i]? == some x && okName kof x && o.op == op && chk gs fns kof xs t v
    | _ => false
  | .ite c a b, st => match st with
    | .If t x y _ => chk gs fns kof xs c t && chkB a x && chkB b y
    | _ => false
  | .ret t, st => match st with
    | .Return (some e) _ => chk gs fns kof xs t e
    | _ => false
  | .asrt t, st => match st with
    | .Assert e none _ => chk gs fns kof xs t e
    | _ => false
  | .loop b, st => match st with
    | .While (.Constant (.int i) _ _) body [] _ => i != 0 && chkB b body
    | _ => false
  | .forr i src b, st => match st with
    | .For (.Name x _) iter body [] _ => xs[i]? == some x && okName kof x && chkSrc kof src iter && chkB b body
    | _ => false
  | .bad, _ => true
  | _, _ => false
def chkB : S → List Stmt → Bool
  | .nil, [] => true
  | .cons a r, st :: sts => chkS a st && chkB r sts
  | .grow i l1 l2 r, .Assign [.Name x _] (.List e1 _) _ :: .AugAssign (.Name y _) .Add (.List e2 _) _ :: sts => xs[i]? == some x && okName kof x && x == y && chkL gs fns kof xs l1 e1 && chkL gs fns kof xs l2 e2 && chkB r sts
  | _, _ => false
end
end
end Mine
end
-- part AJH
section
open PySem PySem.W PyProof.Rows
set_option maxRecDepth 100000
namespace Mine
/-- a later state: all stands but the frame's own names -/
def SExt (env : Env) (s s' : Shared) : Prop := ∃ h tk, s' = { s with heap := h, toks := tk } ∧ ∀ b o, ¬ Foot env b → s.heap.get? b = some o → h.get? b = some o
theorem SExt.refl (env : Env) (s : Shared) : SExt env s s := ⟨_, _, rfl, fun _ _ _ e => e⟩
theorem SExt.trans {env : Env} {a b c : Shared} (x : SExt env a b) (y : SExt env b c) : SExt env a c := by
  obtain ⟨h, tk, rfl, k⟩ := x
  obtain ⟨h', tk', rfl, k'⟩ := y
  exact ⟨h', tk', rfl, fun b o f e => k' b o f (k b o f e)⟩
theorem Ext.s {env : Env} {a b : Shared} (x : Ext a b) : SExt env a b := by
  obtain ⟨h, tk, rfl, k⟩ := x
  exact ⟨h, tk, rfl, fun b o _ e => k b o e⟩
def VarAt (env : Env) (h : Heap) (x : Str) (v : Value) : Prop :=
  (env.kindOf x = some .local ∧ ∃ m, h.Ns env.locals m ∧ m x = some v) ∨ (env.kindOf x = some .cell ∧ ∃ c, env.cells.lookup x = some c ∧ h.IsCell c (some v))
theorem VarAt.keeps {env : Env} {h h' : Heap} {x : Str} {v : Value} (a : VarAt env h x v) (k : Keeps h h') : VarAt env h' x v := by
  rcases a with ⟨a, m, b, c⟩ | ⟨a, c, b, o, e, d⟩
  · exact .inl ⟨a, m, b.keeps k, c⟩
  · exact .inr ⟨a, c, b, o, k _ _ e, d⟩
theorem VarAt.load {env : Env} {x : Str} {v : Value} {M : Model} {A : Around} {E : Value → Shared → Prop} {s : Shared} {Q : Value → Shared → Prop} (hE : EnvOK env) (a : VarAt env s.heap x v) (h : Q v s) : wpAny M A (loadName env x) Q E s := by
  rcases a with ⟨a, m, b, c⟩ | ⟨a, c, b, d⟩
  · exact wpAny_loadName_local hE.kind a b c h
  · exact wpAny_loadName_cell hE.kind a b d h
theorem cell_data {h : Heap} {c : Addr} {w : Option Value} {o : Obj} (x : h.IsCell c w) (e : h.get? c = some o) : ∀ vs n, o.data ≠ .seq vs n := by
  obtain ⟨o', e', hd⟩ := x
  rw [e] at e'
  cases e'
  intro vs n q
  rw [hd] at q; cases q
theorem ns_cell_ne {h : Heap} {L c : Addr} {m : Str → Option Value} {w : Option Value} (x : h.Ns L m) (y : h.IsCell c w) : c ≠ L := by
  rintro rfl
  obtain ⟨o, es, ep, e, hd, _⟩ := x
  obtain ⟨o', e', hd'⟩ := y
  rw [e] at e'
  cases e'
  rw [hd] at hd'; cases hd'
section
variable {prog : Program} {w : World} {K : Frag} {p : Program} {loose : List Str} {mg mb : Str → Option Value} {gs : Globs} {sd : Str → Option PyData} {fns : List (Str × Addr)}
variable {dep : Nat} {cf : Nat → List PyData → Option PyData} {N : Nat} {env : Env} {xs : List Str} {kof : Kof} {h₀ : Heap}
theorem nodup_ne {i j : Nat} {x y : Str} (h : xs.Nodup) (a : xs[i]? = some x) (b : xs[j]? = some y) (n : i ≠ j) : y ≠ x := by
  rintro rfl
  obtain ⟨h1, e1⟩ := List.getElem?_eq_some_iff.mp a
  obtain ⟨h2, e2⟩ := List.getElem?_eq_some_iff.mp b
  exact n ((List.getElem_inj h).mp (e1.trans e2.symm))
/-- a name gets its value -/
theorem store_sound {i : Nat} {x : Str} {v : Value} {d : PyData} {ρ : Env'} {M : Model} {A : Around} {E : Value → Shared → Prop} {s : Shared} {Q : Unit → Shared → Prop} (hE : EnvOK env) (hnd : xs.Nodup) (hx : xs[i]? = some x) (hk : env.kindOf x = some .local ∨ env.kindOf x = some .cell)
    (hV : Vars env xs s.heap ρ) (hr : Rep s.heap v d) (h : ∀ s', SExt env s s' → Vars env xs s'.heap (ρ.set i (some d)) → VarAt env s'.heap x v → SeqKeeps s.heap s'.heap → Q () s') : wpAny M A (storeName env x v) Q E s := by
  obtain ⟨⟨m, hm, hv⟩, hc⟩ := hV
  rcases hk with hk | hk
  · refine wpAny_storeName_local hk hm (fun h' hn hs => ?_) (by rw [hE.kind]; rfl)
    have k : ∀ b o, b ≠ env.locals → s.heap.get? b = some o → h'.get? b = some o := fun b o hb e => hs.extBut b o hb e
    have sk : SeqKeeps s.heap h' := fun b o vs n hd e => k b o (fun q => by rw [q] at e; exact ns_data hm e _ _ hd) e
    refine h _ ⟨h', _, rfl, fun b o f e => k b o (fun q => f (.inl q)) e⟩ ⟨⟨_, hn, fun j y d' e1 e2 e3 => ?_⟩, fun j y e1 e2 => ?_⟩ (.inl ⟨hk, _, hn, by simp⟩) sk
    · by_cases hj : j = i
      · subst hj
        rw [hx] at e1
        cases e1
        have : d' = d := by
          rw [List.getElem?_set_self'] at e2
          cases q : ρ[j]? with
          | none => rw [q] at e2; cases e2
          | some z => rw [q] at e2; simpa using e2.symm
        subst this
        exact ⟨v, by simp, hr.seqKeeps sk⟩
      · rw [List.getElem?_set_ne (Ne.symm hj)] at e2
        obtain ⟨u, eu, ru⟩ := hv j y d' e1 e2 e3
        exact ⟨u, by simp [nodup_ne hnd hx e1 (Ne.symm hj), eu], ru.seqKeeps sk⟩
    · obtain ⟨c, w', ec, hcell, hw⟩ := hc j y e1 e2
      have hne : j ≠ i := fun q => by subst q; rw [hx] at e1; cases e1; rw [hk] at e2; cases e2
      refine ⟨c, w', ec, ?_, fun d' e => ?_⟩
      · obtain ⟨o, eo, ed⟩ := hcell
        exact ⟨o, k c o (ns_cell_ne hm ⟨o, eo, ed⟩) eo, ed⟩
      · rw [List.getElem?_set_ne (Ne.symm hne)] at e
        obtain ⟨u, eu, ru⟩ := hw d' e
        exact ⟨u, eu, ru.seqKeeps sk⟩
  · obtain ⟨c, w₀, ec, hcell, _⟩ := hc i x hx hk
    refine wpAny_storeName_cell hE.kind hk ec hcell fun h' hcell' hs => ?_
    have k : ∀ b o, b ≠ c → s.heap.get? b = some o → h'.get? b = some o := fun b o hb e => hs.extBut b o hb e
    have sk : SeqKeeps s.heap h' := fun b o vs n hd e => k b o (fun q => by rw [q] at e; exact cell_data hcell e _ _ hd) e
    refine h _ ⟨h', _, rfl, fun b o f e => k b o (fun q => f (.inr ⟨x, q ▸ ec⟩)) e⟩ ⟨⟨m, hm.at' fun o e => k _ o (Ne.symm (ns_cell_ne hm hcell)) e, fun j y d' e1 e2 e3 => ?_⟩, fun j y e1 e2 => ?_⟩ (.inr ⟨hk, c, ec, hcell'⟩) sk
    · have hne : j ≠ i := fun q => by subst q; rw [hx] at e1; cases e1; rw [hk] at e3; cases e3
      rw [List.getElem?_set_ne (Ne.symm hne)] at e2
      obtain ⟨u, eu, ru⟩ := hv j y d' e1 e2 e3
      exact ⟨u, eu, ru.seqKeeps sk⟩
    · by_cases hj : j = i
      · subst hj
        rw [hx] at e1
        cases e1
        refine ⟨c, some v, ec, hcell', fun d' e => ?_⟩
        have : d' = d := by
          rw [List.getElem?_set_self'] at e
          cases q : ρ[j]? with
          | none => rw [q] at e; cases e
          | some z => rw [q] at e; simpa using e.symm
        subst this
        exact ⟨v, rfl, hr.seqKeeps sk⟩
      · obtain ⟨c', w', ec', hcell2, hw⟩ := hc j y e1 e2
        have hcc : c' ≠ c := fun q => nodup_ne hnd hx e1 (Ne.symm hj) (hE.inj y x c (q ▸ ec') ec)
        refine ⟨c', w', ec', ?_, fun d' e => ?_⟩
        · obtain ⟨o, eo, ed⟩ := hcell2
          exact ⟨o, k c' o hcc eo, ed⟩
        · rw [List.getElem?_set_ne (Ne.symm hj)] at e
          obtain ⟨u, eu, ru⟩ := hw d' e
          exact ⟨u, eu, ru.seqKeeps sk⟩
/-- the frame that a body runs in -/
structure Fm (K : Frag) (p : Program) (loose : List Str) (mg mb : Str → Option Value) (env : Env) (xs : List Str) (kof : Kof) (h₀ : Heap) : Prop where
  e : EnvOK env
  kof : ∀ y, env.kindOf y = kof y
  nd : xs.Nodup
  base : Base K p loose mg mb h₀
  off : ∀ b, Foot env b → h₀.get? b = none
  cx : ∀ y c, env.cells.lookup y = some c → ∃ i : Nat, xs[i]? = some y ∧ env.kindOf y = some .cell
def Post (env : Env) (xs : List Str) (Q : Flow → Shared → Prop) (s : Shared) : Res → Prop
  | .next ρ' => ∀ s', SExt env s s' → Vars env xs s'.heap ρ' → Q .next s'
  | .ret d => ∀ v s', SExt env s s' → Rep s'.heap v d → Q (.ret v) s'
theorem Post.after {Q : Flow → Shared → Prop} {s s1 : Shared} {r : Res} (x : SExt env s s1) (h : Post env xs Q s r) : Post env xs Q s1 r := by
  cases r with
  | next ρ' => exact fun s' y v => h s' (x.trans y) v
  | ret d => exact fun v s' y r => h v s' (x.trans y) r
def NoE : Value → Shared → Prop := fun _ _ => False
def SOk (prog : Program) (w : World) (dep : Nat) (env : Env) (xs : List Str) (h₀ : Heap) (st : Stmt) (ρ : Env') (r : Res) : Prop :=
  ∀ A Q s, AOK A dep → Keeps h₀ s.heap → Vars env xs s.heap ρ → Post env xs Q s r → wpAny (model prog w) A (exec st env) Q NoE s
def BOk (prog : Program) (w : World) (dep : Nat) (env : Env) (xs : List Str) (h₀ : Heap) (sts : List Stmt) (ρ : Env') (r : Res) : Prop :=
  ∀ A Q s, AOK A dep → Keeps h₀ s.heap → Vars env xs s.heap ρ → Post env xs Q s r → wpAny (model prog w) A (execs sts env) Q NoE s
theorem Fm.keeps (F : Fm K p loose mg mb env xs kof h₀) {s s' : Shared} (x : SExt env s s') (k : Keeps h₀ s.heap) : Keeps h₀ s'.heap := by
  obtain ⟨h, tk, rfl, k'⟩ := x
  exact fun b o e => k' b o (fun f => by rw [F.off b f] at e; cases e) (k b o e)
theorem bok_nil {ρ : Env'} : BOk prog w dep env xs h₀ [] ρ (.next ρ) := fun _ _ s _ _ hV h => wpAny_execs_nil (h s (.refl _ _) hV)
theorem bok_next {st : Stmt} {sts : List Stmt} {ρ ρ' : Env'} {r : Res} (F : Fm K p loose mg mb env xs kof h₀) (h1 : SOk prog w dep env xs h₀ st ρ (.next ρ')) (h2 : BOk prog w dep env xs h₀ sts ρ' r) : BOk prog w dep env xs h₀ (st :: sts) ρ r := by
  intro A Q s hA hK hV h
  refine wpAny_execs_cons (h1 A _ s hA hK hV fun s' x v => ?_)
  exact h2 A Q s' hA (F.keeps x hK) v (h.after x)
theorem bok_ret {st : Stmt} {sts : List Stmt} {ρ : Env'} {d : PyData} (h1 : SOk prog w dep env xs h₀ st ρ (.ret d)) : BOk prog w dep env xs h₀ (st :: sts) ρ (.ret d) := by
  intro A Q s hA hK hV h
  exact wpAny_execs_cons (h1 A _ s hA hK hV fun v s' x r => h v s' x r)
theorem okName_or (hk : ∀ y, env.kindOf y = kof y) {x : Str} (h : okName kof x = true) : env.kindOf x = some .local ∨ env.kindOf x = some .cell := by
  unfold okName at h
  rw [hk]
  simpa using h
theorem sok_asg {x : Str} {px pos : Pos} {v : Expr} {i : Nat} {d : PyData} {ρ : Env'} (F : Fm K p loose mg mb env xs kof h₀) (hx : xs[i]? = some x) (hk : okName kof x = true) (hc : isComp v = false)
    (h1 : EOk prog w K p loose mg mb dep env xs ρ v d) : SOk prog w dep env xs h₀ (.Assign [.Name x px] v pos) ρ (.next (ρ.set i (some d))) := by
  intro A Q s hA hK hV h
  refine wpAny_Assign_Name (h1 A NoE _ s hA (F.base.keeps hK) hV fun u s1 x1 r1 => ?_) (by cases v <;> first | rfl | cases hc)
  exact store_sound F.e F.nd hx (okName_or F.kof hk) (hV.keeps x1.keeps) r1 fun s2 x2 v2 _ _ => h s2 (x1.s.trans x2) v2
theorem sok_ret {e : Expr} {pos : Pos} {d : PyData} {ρ : Env'} (F : Fm K p loose mg mb env xs kof h₀) (h1 : EOk prog w K p loose mg mb dep env xs ρ e d) : SOk prog w dep env xs h₀ (.Return (some e) pos) ρ (.ret d) := by
  intro A Q s hA hK hV h
  exact wpAny_Return_some (h1 A NoE _ s hA (F.base.keeps hK) hV fun u s1 x1 r1 => h u s1 x1.s r1)
theorem sok_ite {t : Expr} {x y : List Stmt} {pos : Pos} {b : Bool} {ρ : Env'} {r : Res} (F : Fm K p loose mg mb env xs kof h₀) (h1 : TOk prog w K p loose mg mb dep env xs ρ t b)
    (h2 : b = true → BOk prog w dep env xs h₀ x ρ r) (h3 : b = false → BOk prog w dep env xs h₀ y ρ r) : SOk prog w dep env xs h₀ (.If t x y pos) ρ r := by
  intro A Q s hA hK hV h
  refine wpAny_If (h1 A NoE _ s hA (F.base.keeps hK) hV fun s1 x1 => ?_)
  cases b with
  | true => exact h2 rfl A Q s1 hA (F.keeps x1.s hK) (hV.keeps x1.keeps) (h.after x1.s)
  | false => exact h3 rfl A Q s1 hA (F.keeps x1.s hK) (hV.keeps x1.keeps) (h.after x1.s)
theorem sok_asrt {t : Expr} {pos : Pos} {ρ : Env'} (F : Fm K p loose mg mb env xs kof h₀) (h1 : TOk prog w K p loose mg mb dep env xs ρ t true) : SOk prog w dep env xs h₀ (.Assert t none pos) ρ (.next ρ) := by
  intro A Q s hA hK hV h
  refine wpAny_Assert_new hA.hh (h1 A NoE _ s hA (F.base.keeps hK) hV fun s1 x1 => ?_)
  exact h s1 x1.s (hV.keeps x1.keeps)
theorem sok_aug {x : Str} {px pos : Pos} {v : Expr} {i : Nat} {o : IOp} {a b c : Int} {ρ : Env'} (F : Fm K p loose mg mb env xs kof h₀) (hx : xs[i]? = some x) (hk : okName kof x = true)
    (ha : ρ[i]? = some (some (.int a))) (h1 : EOk prog w K p loose mg mb dep env xs ρ v (.int b)) (hr : o.b.run a b = some c) : SOk prog w dep env xs h₀ (.AugAssign (.Name x px) o.op v pos) ρ (.next (ρ.set i (some (.int c)))) := by
  intro A Q s hA hK hV h
  have hv : ∃ u, VarAt env s.heap x u ∧ Rep s.heap u (.int a) := by
    rcases okName_or F.kof hk with q | q
    · obtain ⟨m, hm, hv⟩ := hV.ns
      obtain ⟨u, e, r⟩ := hv i x _ hx ha q
      exact ⟨u, .inl ⟨q, m, hm, e⟩, r⟩
    · obtain ⟨cc, w', hc, hcell, r⟩ := hV.cs i x hx q
      obtain ⟨u, rfl, ru⟩ := r _ ha
      exact ⟨u, .inr ⟨q, cc, hc, hcell⟩, ru⟩
  obtain ⟨u, hu, ru⟩ := hv
  obtain ⟨t, rfl⟩ := ru.int_inv
  refine wpAny_AugAssign_Name (hu.load F.e (h1 A NoE _ s hA (F.base.keeps hK) hV fun u2 s1 x1 r1 => ?_))
  obtain ⟨t2, rfl⟩ := r1.int_inv
  refine inp_sound hA.hh o hr fun t3 s2 x2 => ?_
  exact store_sound F.e F.nd hx (okName_or F.kof hk) (hV.keeps (x1.trans x2).keeps) (.int _ _) fun s3 x3 v3 _ _ => h s3 ((x1.trans x2).s.trans x3) v3
/-- names in a row get their values -/
theorem chkNames_inv : ∀ {is : List Nat} {es : List Expr}, chkNames kof xs is es = true → es.length = is.length ∧ (assignEach es env).findIdx? (·.1) = none ∧ (assignEach es env).length = es.length
  | [], [], _ => ⟨rfl, rfl, rfl⟩
  | [], _ :: _, h => by simp [chkNames] at h
  | _ :: _, [], h => by simp [chkNames] at h
  | i :: is, e :: es, h => by
    cases e <;> simp only [chkNames, reduceCtorEq] at h
    simp only [Bool.and_eq_true] at h
    obtain ⟨h1, h2, h3⟩ := chkNames_inv h.2
    rename_i x px
    refine ⟨by simp [h1], ?_, ?_⟩
    · show List.findIdx? (fun z => z.1) ((false, assign (.Name x px) env) :: assignEach es env) = none
      rw [List.findIdx?_cons, h2]; rfl
    · show ((false, assign (.Name x px) env) :: assignEach es env).length = _
      simp [h3]
theorem assign_names {A : Around} : ∀ {is : List Nat} {es : List Expr} {vs : List Value} {ds : List PyData} {ρ : Env'} {s : Shared} {Q : Unit → Shared → Prop} (_F : Fm K p loose mg mb env xs kof h₀), chkNames kof xs is es = true → ds.length = is.length → Vars env xs s.heap ρ → Reps s.heap vs ds →
    (∀ s', SExt env s s' → Vars env xs s'.heap (sets is ds ρ) → Q () s') → wpAny (model prog w) A (assignInOrder ((assignEach es env).map (·.2)) vs) Q NoE s
  | [], [], vs, ds, ρ, s, Q, F, _, hl, hV, hr, h => by
    have : ds = [] := List.eq_nil_of_length_eq_zero hl
    subst this
    rw [hr.inv_nil]
    exact assignInOrder_nil (h s (.refl _ _) hV)
  | [], _ :: _, _, _, _, _, _, _, hc, _, _, _, _ => by simp [chkNames] at hc
  | _ :: _, [], _, _, _, _, _, _, hc, _, _, _, _ => by simp [chkNames] at hc
  | i :: is, e :: es, vs, [], ρ, s, Q, F, hc, hl, hV, hr, h => by simp at hl
  | i :: is, e :: es, vs, d :: ds, ρ, s, Q, F, hc, hl, hV, hr, h => by
    cases e <;> simp only [chkNames, reduceCtorEq] at hc
    simp only [Bool.and_eq_true, beq_iff_eq] at hc
    obtain ⟨v, vs', rfl, r1, r2⟩ := hr.inv_cons
    refine assignInOrder_cons ?_
    refine wpAny_assign_Name (store_sound F.e F.nd hc.1.1 (okName_or F.kof hc.1.2) hV r1 fun s1 x1 v1 _ sk => ?_)
    exact assign_names F hc.2 (by simpa using hl) v1 (r2.seqKeeps sk) fun s2 x2 v2 => h s2 (x1.trans x2) v2
theorem extBut_keeps {h h' : Heap} (x : Heap.ExtBut h.objs.size h h') : Keeps h h' := fun b o e => x b o (Nat.ne_of_lt (Heap.lt_size e)) e
theorem unpack_tup {A : Around} {s : Shared} {v : Value} {l : List PyData} {n : Nat} {Q : List Value → Shared → Prop} (hh : A.handled = none) (hr : Rep s.heap v (.tuple l)) (hn : n = l.length)
    (h : ∀ vs s', Ext s s' → Reps s'.heap vs l → Q vs s') : wpAny (model prog w) A (unpackItems v n none) Q NoE s := by
  obtain ⟨a, vs, rfl, ht, r⟩ := hr.tup_inv
  have e : n = vs.toArray.size := by rw [List.size_toArray, r.length, hn]
  subst e
  refine unpackItems_tuple hh ht fun h' he => ?_
  exact h _ _ (Ext.heap s s.toks (extBut_keeps he)) (r.keeps (extBut_keeps he))
theorem unpack_lst {A : Around} {s : Shared} {v : Value} {l : List PyData} {n : Nat} {Q : List Value → Shared → Prop} (hh : A.handled = none) (hr : Rep s.heap v (.list l)) (hn : n = l.length)
    (h : ∀ vs s', Ext s s' → Reps s'.heap vs l → Q vs s') : wpAny (model prog w) A (unpackItems v n none) Q NoE s := by
  obtain ⟨a, vs, rfl, ht, r⟩ := hr.lst_inv
  have e : n = vs.toArray.size := by rw [List.size_toArray, r.length, hn]
  subst e
  refine kun_itemsOf hh ht fun h' he => ?_
  exact h _ _ (Ext.heap s s.toks (extBut_keeps he)) (r.keeps (extBut_keeps he))
theorem sok_tup {es : List Expr} {k : Nat} {tp pos : Pos} {v : Expr} {is : List Nat} {l : List PyData} {d : PyData} {ρ : Env'} (F : Fm K p loose mg mb env xs kof h₀) (hc : chkNames kof xs is es = true) (hs : swapCalc kof es v = some none)
    (h1 : EOk prog w K p loose mg mb dep env xs ρ v d) (hd : d = .tuple l ∨ d = .list l) (hl : l.length = is.length) : SOk prog w dep env xs h₀ (.Assign [.Tuple es k tp] v pos) ρ (.next (sets is l ρ)) := by
  intro A Q s hA hK hV h
  obtain ⟨n1, n2, n3⟩ := chkNames_inv (env := env) hc
  refine Assign_Tuple (h1 A NoE _ s hA (F.base.keeps hK) hV fun u s1 x1 r1 => ?_) (by cases v <;> rfl) (swapCalc_sound F.e.kind F.kof hs)
  rw [assign_Tuple]
  refine wpAny_bind (wpAny_standAt ?_)
  unfold unpack
  rw [n2]
  refine wpAny_bind (wpAny_holding ?_)
  have key : ∀ vs s', Ext s1 s' → Reps s'.heap vs l → wpAny (model prog w) A (assignInOrder ((assignEach es env).map (·.2)) vs) (fun _ => Q .next) NoE s' := fun vs s2 x2 r2 =>
    assign_names F hc hl (hV.keeps (x1.trans x2).keeps) r2 fun s3 x3 v3 => h s3 ((x1.trans x2).s.trans x3) v3
  rcases hd with rfl | rfl
  · exact unpack_tup hA.hh r1 (by rw [n3, n1, hl]) key
  · exact unpack_lst hA.hh r1 (by rw [n3, n1, hl]) key
theorem chkNames_each : ∀ {is : List Nat} {es : List Expr}, chkNames kof xs is es = true → ∀ i ∈ is, ∃ x, xs[i]? = some x ∧ okName kof x = true
  | [], _, _, _, h => nomatch h
  | _ :: _, [], h, _, _ => by simp [chkNames] at h
  | i :: is, e :: es, h, j, hj => by
    cases e <;> simp only [chkNames, reduceCtorEq] at h
    simp only [Bool.and_eq_true, beq_iff_eq] at h
    rcases List.mem_cons.mp hj with rfl | hj
    · exact ⟨_, h.1.1, h.1.2⟩
    · exact chkNames_each h.2 j hj
theorem bind_names {A : Around} : ∀ {is : List Nat} {vs : List Value} {ds : List PyData} {ρ : Env'} {s : Shared} {Q : Unit → Shared → Prop} (_F : Fm K p loose mg mb env xs kof h₀), (∀ i ∈ is, ∃ x, xs[i]? = some x ∧ okName kof x = true) → ds.length = is.length → Vars env xs s.heap ρ → Reps s.heap vs ds →
    (∀ s', SExt env s s' → Vars env xs s'.heap (sets is ds ρ) → Q () s') → wpAny (model prog w) A (assignInOrder (is.map fun i => bindName env ((xs[i]?).getD (Str.ofString ""))) vs) Q NoE s
  | [], vs, ds, ρ, s, Q, F, _, hl, hV, hr, h => by
    have : ds = [] := List.eq_nil_of_length_eq_zero hl
    subst this
    rw [hr.inv_nil]
    exact assignInOrder_nil (h s (.refl _ _) hV)
  | i :: is, vs, [], ρ, s, Q, F, hc, hl, hV, hr, h => by simp at hl
  | i :: is, vs, d :: ds, ρ, s, Q, F, hc, hl, hV, hr, h => by
    obtain ⟨x, hx, hk⟩ := hc i (.head _)
    obtain ⟨v, vs', rfl, r1, r2⟩ := hr.inv_cons
    rw [List.map_cons, hx]
    refine assignInOrder_cons ?_
    refine bindName_ (store_sound F.e F.nd hx (okName_or F.kof hk) hV r1 fun s1 x1 v1 _ sk => ?_)
    exact bind_names F (fun j hj => hc j (.tail _ hj)) (by simpa using hl) v1 (r2.seqKeeps sk) fun s2 x2 v2 => h s2 (x1.trans x2) v2
theorem Reps.reverse {h : Heap} : ∀ {ds : List PyData} {vs : List Value}, Reps h vs ds → Reps h vs.reverse ds.reverse
  | [], _, x => by rw [x.inv_nil]; exact .nil
  | _ :: _, _, x => by
    obtain ⟨v, vs', rfl, q, z⟩ := x.inv_cons
    rw [List.reverse_cons, List.reverse_cons]
    exact z.reverse.append (.cons q .nil)
theorem sok_swap {es : List Expr} {k : Nat} {tp pos : Pos} {v : Expr} {is : List Nat} {l : List PyData} {ρ : Env'} (F : Fm K p loose mg mb env xs kof h₀) (hc : chkNames kof xs is es = true) (hs : swapCalc kof es v = some (some (is.map fun i => (xs[i]?).getD (Str.ofString ""))))
    (h1 : EOk prog w K p loose mg mb dep env xs ρ v (.tuple l)) (hl : l.length = is.length) : SOk prog w dep env xs h₀ (.Assign [.Tuple es k tp] v pos) ρ (.next (sets is.reverse l.reverse ρ)) := by
  intro A Q s hA hK hV h
  refine Assign_Tuple_swapped (h1 A NoE _ s hA (F.base.keeps hK) hV fun u s1 x1 r1 => ?_) (by cases v <;> rfl) (swapCalc_sound F.e.kind F.kof hs)
  refine unpack_tup hA.hh r1 (by rw [List.length_map, hl]) fun vs s2 x2 r2 => ?_
  rw [← List.map_reverse, List.map_map]
  exact bind_names F (fun i hi => chkNames_each hc i (List.mem_reverse.mp hi)) (by rw [List.length_reverse, List.length_reverse, hl]) (hV.keeps (x1.trans x2).keeps) r2.reverse fun s3 x3 v3 => h s3 ((x1.trans x2).s.trans x3) v3
def LoopQ (Q : Flow → Shared → Prop) (I : Shared → Prop) : Flow → Shared → Prop
  | .next, s => I s
  | .ret v, s => Q (.ret v) s
  | _, _ => False
theorem noE {E : Value → Shared → Prop} : ∀ e s, NoE e s → E e s := fun _ _ h => False.elim h
/-- while with a test that never falls -/
theorem sok_loop {body : List Stmt} {i : Int} {k : Nat} {p1 pos : Pos} {f : Env' → Option Res} {ρ : Env'} {r : Res} {N : Nat} (hi : (i != 0) = true) (F : Fm K p loose mg mb env xs kof h₀) (hb : ∀ ρ r, f ρ = some r → BOk prog w dep env xs h₀ body ρ r) (hr : iterW f N ρ = some r) :
    SOk prog w dep env xs h₀ (.While (.Constant (.int i) k p1) body [] pos) ρ r := by
  intro A Q s hA hK hV h
  refine wpAny_While (codeAny_whileLoop (fun n s' => ∃ ρ', SExt env s s' ∧ Vars env xs s'.heap ρ' ∧ iterW f n ρ' = some r) ?_ N ⟨ρ, .refl _ _, hV, hr⟩)
  rintro n s' ⟨ρ', x, v, hr'⟩
  have ht : TOk prog w K p loose mg mb dep env xs ρ' (.Constant (.int i) k p1) true := tok_plain eok_int (by rw [truth, hi]) (fun _ => rfl)
  refine ht A _ _ s' hA (F.base.keeps (F.keeps x hK)) v fun s1 x1 => ?_
  simp only [if_true]
  cases n with
  | zero => cases hr'
  | succ n =>
    unfold iterW at hr'
    cases q : f ρ' with
    | none => rw [q] at hr'; cases hr'
    | some z =>
      rw [q] at hr'
      refine wpAny_mono (hb ρ' z q A (LoopQ Q fun s₃ => ∃ m, m < n + 1 ∧ ∃ ρ', SExt env s s₃ ∧ Vars env xs s₃.heap ρ' ∧ iterW f m ρ' = some r) s1 hA (F.keeps (x.trans x1.s) hK) (v.keeps x1.keeps) ?_) (fun fl s₃ h₃ => ?_) noE
      · cases z with
        | next ρ'' => exact fun s2 x2 v2 => ⟨n, Nat.lt_succ_self _, ρ'', (x.trans x1.s).trans x2, v2, hr'⟩
        | ret d =>
          cases hr'
          exact fun u s2 x2 r2 => h u s2 ((x.trans x1.s).trans x2) r2
      · cases fl <;> first | exact h₃ | exact False.elim h₃
/-- a for over a range or over signs -/
theorem for_loop {A : Around} {Q : Flow → Shared → Prop} {s₀ s₂ : Shared} {x : Str} {px : Pos} {body : List Stmt} {I : Addr} {n i₀ : Nat} {P : Nat → Value → Prop} {St : Nat → Heap → Prop} {ins : List PyData} {f : Env' → Option Res} {ρ : Env'} {r : Res}
    (F : Fm K p loose mg mb env xs kof h₀) (hx : xs[i₀]? = some x) (hk : okName kof x = true) (hb : ∀ ρ r, f ρ = some r → BOk prog w dep env xs h₀ body ρ r)
    (W : Walks prog w A I [I] [I] n P St) (hn : n = ins.length) (hin : ∀ i v d h, P i v → ins[i]? = some d → Rep h v d) (hIo : ∀ i h, St i h → ∃ o, h.get? I = some o ∧ ∀ vs n, o.data ≠ .seq vs n)
    (hA : AOK A dep) (hK : Keeps h₀ s₀.heap) (hV : Vars env xs s₀.heap ρ) (hst : St 0 s₂.heap) (hI0 : s₀.heap.get? I = none) (hIf : ¬ Foot env I) (hs : Ext s₀ s₂) (hr : forL f i₀ ins ρ = some r) (h : Post env xs Q s₀ r) :
    codeAny (model prog w) A (.forLoop (.Name x px) (.ref I) body [] env) (fun r s' => match r with | .ok f => Q f s' | .error e => cameBackBy (model prog w) A env NoE e s') s₂ := by
  refine codeAny_forLoop (fun k s' => ∃ i ρ', SExt env s₀ s' ∧ i ≤ n ∧ k = n + 1 - i ∧ St i s'.heap ∧ Vars env xs s'.heap ρ' ∧ forL f i₀ (ins.drop i) ρ' = some r) ?_ (n + 1)
    ⟨0, ρ, hs.s, Nat.zero_le _, rfl, hst, hV.keeps hs.keeps, hr⟩
  rintro k s' ⟨i, ρ', x1, hi, rfl, hst', hV', hr'⟩
  have kept : ∀ h' tk, (∀ b o, b ∉ [I] → s'.heap.get? b = some o → h'.get? b = some o) → SExt env s₀ { s' with heap := h', toks := tk } ∧ Vars env xs h' ρ' := by
    intro h' tk hk'
    have kI : ∀ b o, b ≠ I → s'.heap.get? b = some o → h'.get? b = some o := fun b o hb e => hk' b o (by simpa using hb) e
    obtain ⟨oI, eI, dI⟩ := hIo _ _ hst'
    have sk : SeqKeeps s'.heap h' := fun b o vs n hd e => kI b o (fun q => by rw [q, eI] at e; cases e; exact dI _ _ hd) e
    refine ⟨?_, ?_⟩
    · obtain ⟨g, tk', rfl, k'⟩ := x1
      exact ⟨h', tk, rfl, fun b o fb e => kI b o (fun q => by rw [q, hI0] at e; cases e) (k' b o fb e)⟩
    · obtain ⟨⟨m, hm, hv⟩, hc⟩ := hV'
      refine ⟨⟨m, hm.at' fun o e => kI _ o (fun q => hIf (.inl q.symm)) e, fun j y d a b c => ?_⟩, fun j y a b => ?_⟩
      · obtain ⟨v, e, r⟩ := hv j y d a b c; exact ⟨v, e, r.seqKeeps sk⟩
      · obtain ⟨c, w', e, ⟨o, ho, hd⟩, q⟩ := hc j y a b
        exact ⟨c, w', e, ⟨o, kI c o (fun q => hIf (.inr ⟨y, q ▸ e⟩)) ho, hd⟩, fun d z => let ⟨v, e, r'⟩ := q d z; ⟨v, e, r'.seqKeeps sk⟩⟩
  by_cases hlt : i < n
  · obtain ⟨d, hd⟩ : ∃ d, ins[i]? = some d := ⟨ins[i]'(hn ▸ hlt), by simp⟩
    refine W.item i _ _ _ hlt hst' fun v h₁ tk₁ hPv hst₁ hk₁ => ?_
    obtain ⟨xa, va⟩ := kept h₁ tk₁ hk₁
    have rv : Rep h₁ v d := hin i v d h₁ hPv hd
    refine wpAny_assign_Name (store_sound (s := { s' with heap := h₁, toks := tk₁ }) F.e F.nd hx (okName_or F.kof hk) va rv fun s3 x3 v3 _ _ => ?_)
    have hst3 : St (i + 1) s3.heap := by
      obtain ⟨g, tk', rfl, k'⟩ := x3
      exact W.frame _ _ _ hst₁ fun b hb o e => k' b o (by rw [List.mem_singleton.mp hb]; exact hIf) e
    have hdr : ins.drop i = d :: ins.drop (i + 1) := by
      rw [List.drop_eq_getElem_cons (hn ▸ hlt)]
      congr 1
      have := List.getElem?_eq_some_iff.mp hd
      exact this.2
    rw [hdr] at hr'
    unfold forL at hr'
    cases q : f (ρ'.set i₀ (some d)) with
    | none => rw [q] at hr'; cases hr'
    | some z =>
      rw [q] at hr'
      refine wpAny_mono (hb _ z q A (LoopQ Q fun s₃ => ∃ m, m < n + 1 - i ∧ ∃ i ρ', SExt env s₀ s₃ ∧ i ≤ n ∧ m = n + 1 - i ∧ St i s₃.heap ∧ Vars env xs s₃.heap ρ' ∧ forL f i₀ (ins.drop i) ρ' = some r) s3 hA (F.keeps (xa.trans x3) hK) v3 ?_) (fun fl s₃ h₃ => ?_) noE
      · cases z with
        | next ρ'' =>
          refine fun s4 x4 v4 => ⟨n + 1 - (i + 1), by omega, i + 1, ρ'', (xa.trans x3).trans x4, hlt, rfl, ?_, v4, hr'⟩
          obtain ⟨g, tk', rfl, k'⟩ := x4
          exact W.frame _ _ _ hst3 fun b hb o e => k' b o (by rw [List.mem_singleton.mp hb]; exact hIf) e
        | ret d =>
          cases hr'
          exact fun u s4 x4 r4 => h u s4 ((xa.trans x3).trans x4) r4
      · cases fl <;> first | exact h₃ | exact False.elim h₃
  · obtain rfl : i = n := Nat.le_antisymm hi (Nat.not_lt.mp hlt)
    refine W.done _ _ _ hst' fun h₁ tk₁ hk₁ => ?_
    obtain ⟨xa, va⟩ := kept h₁ tk₁ hk₁
    rw [List.drop_of_length_le (by omega)] at hr'
    cases hr'
    exact wpAny_execs_nil (h _ xa va)
theorem not_foot {s : Shared} {ρ : Env'} (F : Fm K p loose mg mb env xs kof h₀) (hV : Vars env xs s.heap ρ) {I : Addr} (hI : s.heap.objs.size ≤ I) : ¬ Foot env I := by
  rintro (f | ⟨y, f⟩)
  · obtain ⟨m, hm, _⟩ := hV.ns
    exact absurd hm.lt (by rw [← f]; exact Nat.not_lt.mpr hI)
  · obtain ⟨i, hx, hk⟩ := F.cx y _ f
    obtain ⟨c, w', ec, ⟨o, eo, _⟩, _⟩ := hV.cs i y hx hk
    rw [f] at ec
    cases ec
    exact absurd (Heap.lt_size eo) (Nat.not_lt.mpr hI)
theorem sok_for {x : Str} {px pos : Pos} {iter : Expr} {body : List Stmt} {i₀ : Nat} {src : CSrc} {f : Env' → Option Res} {ρ : Env'} {r : Res} (hT : Tops K w.params gs sd fns)
    (F : Fm K p loose mg mb env xs kof h₀) (hx : xs[i₀]? = some x) (hk : okName kof x = true) (hsrc : chkSrc kof src iter = true)
    (hb : ∀ ρ r, f ρ = some r → BOk prog w dep env xs h₀ body ρ r) (hr : forL f i₀ src.items ρ = some r) : SOk prog w dep env xs h₀ (.For (.Name x px) iter body [] pos) ρ r := by
  intro A Q s hA hK hV h
  have hfold : ∀ z, foldedSetIterable iter env z = pure z := by
    intro z
    unfold chkSrc at hsrc
    split at hsrc <;> first | rfl | cases hsrc
  refine wpAny_For ?_ hfold
  cases src with
  | chars y =>
    unfold chkSrc at hsrc
    split at hsrc
    · rename_i h; cases h
    · rename_i y' z kk pp hq
      cases hq
      simp only [Bool.and_eq_true, beq_iff_eq, decide_eq_true_eq] at hsrc
      obtain ⟨⟨rfl, ha⟩, hsz⟩ := hsrc
      refine Calls.Constant_str (k := kk) (pos := pp) (wpAny_pyIter_ascii ha ?_)
      refine for_loop (s₀ := s) F hx hk hb (Walks.strAscii hA.hh s.heap.objs.size y s.toks) (ins := CSrc.items (.chars y)) (by simp [CSrc.items]) ?_ ?_ hA hK hV ⟨_, Heap.get?_push_size _ rfl, rfl, rfl⟩ (Heap.get?_none_of_le (Nat.le_refl _)) (not_foot F hV (Nat.le_refl _))
        ⟨_, _, rfl, Keeps.push _ _⟩ hr h
      · rintro i v d h ⟨c, u, hc, rfl⟩ hd
        simp only [CSrc.items, List.getElem?_map, Option.map_eq_some_iff] at hd
        obtain ⟨c', hc', rfl⟩ := hd
        have : c = c' := by simpa [hc] using hc'
        subst this
        exact .str _ _
      · rintro i h ⟨o, e1, e2, e3⟩
        exact ⟨o, e1, fun vs n q => by rw [e3] at q; cases q⟩
    · cases hsrc
  | rng n =>
    unfold chkSrc at hsrc
    split at hsrc
    · rename_i n' f i kk pp pq hq
      cases hq
      simp only [Bool.and_eq_true, beq_iff_eq, decide_eq_true_eq] at hsrc
      obtain ⟨⟨hf, rfl⟩, hsz⟩ := hsrc
      obtain ⟨pz, rfl, hk2, hd⟩ := globName_inv hf
      refine call_name (name_boot F.e (F.base.keeps hK) (by rw [F.kof]; exact hk2) hd hT.n_range (v := .type "range") boot_range (by decide +kernel) ?_)
      refine PyProof.Rows.callWith_type1 (args_cons (wpAny_Constant_int (args_nil ?_)) rfl) rfl rfl
      refine call_range_1 ?_
      refine wpAny_pyIter_range (IsRange.new _ _ _ _ _ _ _) (small_one (by omega) (by omega) (by omega) (by omega)) ?_
      have hrs : Builtin.Range.rangeSize 0 (n : Int) 1 = (n : Int) := by rw [rangeSize_one]; split <;> omega
      refine for_loop (s₀ := s) F hx hk hb (Walks.range hA.hh _ 0 1 n) (ins := CSrc.items (.rng n)) (by simp [CSrc.items]) ?_ ?_ hA hK hV ?_ ?_ ?_ ⟨_, _, rfl, (Keeps.push _ _).trans (Keeps.push _ _)⟩ hr h
      · rintro i v d h ⟨t, rfl⟩ hd
        simp only [CSrc.items, List.getElem?_map, Option.map_eq_some_iff] at hd
        obtain ⟨j, hj, rfl⟩ := hd
        obtain ⟨hlt, e⟩ := List.getElem?_eq_some_iff.mp hj
        simp at e
        subst e
        have : (0 : Int) + (i : Int) * 1 = (i : Int) := by omega
        rw [this]; exact .int _ _
      · rintro i h e
        exact ⟨_, e, fun vs n q => by cases q⟩
      · show IsRangeIter _ _ _ _ _
        rw [hrs]
        refine Eq.trans (Heap.get?_push_size _ rfl) ?_
        simp
      · refine Heap.get?_none_of_le ?_
        dsimp only; rw [Heap.size_push]; exact Nat.le_succ _
      · refine not_foot F hV ?_
        dsimp only; rw [Heap.size_push]; exact Nat.le_succ _
    · rename_i h; cases h
    · cases hsrc
theorem no_fill_inplace_list : fillsInplaceSlot (.type "list") "add" (Operator.Add == .Add) = pure false := by
  unfold fillsInplaceSlot
  show (typeLookup (.type "list") (dunderI "add") >>= fun fi => pure (fi.isSome && !isSeqSlot fi)) = pure false
  rw [F.slot_list_iadd.lookup]; rfl
theorem iadd_slot : seqSlot? (.type "list") (dunderI "add") = pure (some (.builtin "list.__iadd__")) := by
  unfold seqSlot?
  rw [F.slot_list_iadd.lookup]; rfl
/-- a list of the call's own grows in place -/
theorem iadd_lists {A : Around} {E : Value → Shared → Prop} {s : Shared} {a b : Addr} {us vs : List Value} {n m : Nat} {Q : Value → Shared → Prop} (ha : s.heap.get? a = some { cls := .type "list", data := .seq us.toArray n }) (hb : s.heap.get? b = some { cls := .type "list", data := .seq vs.toArray m })
    (hu : us.length < 1000) (hv : vs.length < 1000) (h : ∀ h', h'.IsList a (us ++ vs).toArray → Heap.SameBut a s.heap h' → Q (.ref a) { s with heap := h' }) : wpAny (model prog w) A (inplaceOp .Add (.ref a) (.ref b)) Q E s := by
  have ta : s.TypeIs (.ref a) "list" := ⟨_, ha, rfl⟩
  have tb : s.TypeIs (.ref b) "list" := ⟨_, hb, rfl⟩
  unfold inplaceOp
  refine wpAny_holding ?_
  refine wpAny_bind (wpAny_typeOf ta (wpAny_bind (wpAny_of_eq no_fill_inplace_list ?_)))
  show wpAny (model prog w) A (if false = true then _ else _) Q E s
  rw [if_neg Bool.false_ne_true]
  refine wpAny_bind (PyProof.Rows.binaryOp1_none (nm := "add") ta tb noFill_list_add ?_)
  refine wpAny_bind (wpAny_of_eq iadd_slot ?_)
  refine wpAny_bind (wpAny_rule ?_)
  refine call_meets F.slot_list_iadd ta F.entry_list_iadd (F.args_list_iadd_2 _ _) (AutoSeq1.list___iadd___list_list_0 a us.toArray n b vs.toArray m ?q0 ?q1 ?q2) ?_
  case q0 =>
    intro q
    rw [Bool.and_eq_true] at q
    have := q.2
    unfold Builtin.List.listTooLong at this
    rw [decide_eq_true_eq, sizeLine_eq, List.size_toArray, List.size_toArray] at this
    omega
  case q1 => rw [List.size_toArray, sizeLine_eq]; omega
  case q2 => rw [List.size_toArray, List.size_toArray, sizeLine_eq]; omega
  refine ⟨ha, hb, ?_⟩
  refine h _ ?_ (Heap.SameBut.update ..)
  obtain ⟨n', hd'⟩ := Obj.data_mapSeq (o := { cls := .type "list", data := .seq us.toArray n }) (xs := us.toArray) (n := n) rfl (fun x => x ++ vs.toArray)
  refine ⟨_, Heap.get?_update_self _ ha (Obj.isFreed_of_seq hd'), Obj.cls_mapSeq .., n', ?_⟩
  rw [hd']
  simp
theorem flatO_vars {h h' : Heap} {ρ : Env'} (F : Fm K p loose mg mb env xs kof h₀) {D : Addr} (hV : Vars env xs h ρ) (hf : ρ.all flatO = true) (k : ∀ b o, b ≠ D → h.get? b = some o → h'.get? b = some o) (hD : ∃ o, h.get? D = some o ∧ o.cls = .type "list" ∧ ∃ xs n, o.data = .seq xs n) : Vars env xs h' ρ := by
  let _ := F
  obtain ⟨oD, eD, cD, xD, nD, dD⟩ := hD
  have tk : TupKeeps h h' := fun b o vs n hc hd e => k b o (fun q => by rw [q, eD] at e; cases e; rw [cD] at hc; injection hc with q2; exact absurd q2 (by decide)) e
  have fl : ∀ (i : Nat) d, ρ[i]? = some (some d) → flat1 d = true := fun i d e => List.all_eq_true.mp hf _ (List.mem_of_getElem? e)
  obtain ⟨⟨m, hm, hv⟩, hc⟩ := hV
  refine ⟨⟨m, hm.at' fun o e => k _ o (fun q => by rw [q, eD] at e; cases e; exact ns_data hm (q ▸ eD) _ _ dD) e, fun j y d a b c => ?_⟩, fun j y a b => ?_⟩
  · obtain ⟨v, e, r⟩ := hv j y d a b c; exact ⟨v, e, flat_keeps r (fl j d b) tk⟩
  · obtain ⟨c, w', e, ⟨o, ho, hd⟩, q⟩ := hc j y a b
    refine ⟨c, w', e, ⟨o, k c o (fun z => ?_) ho, hd⟩, fun d z => let ⟨v, e, r'⟩ := q d z; ⟨v, e, flat_keeps r' (fl j d z) tk⟩⟩
    rw [z, eD] at ho
    cases ho
    rw [dD] at hd; cases hd
theorem vars_less {h : Heap} {ρ : Env'} {i : Nat} {d : Option PyData} (hV : Vars env xs h (ρ.set i d)) : Vars env xs h (ρ.set i none) := by
  have key : ∀ (j : Nat) d', (ρ.set i none)[j]? = some (some d') → (ρ.set i d)[j]? = some (some d') := fun j d' e => by
    by_cases hj : i = j
    · subst hj
      rw [List.getElem?_set_self'] at e
      cases q : ρ[i]? with
      | none => rw [q] at e; cases e
      | some z => rw [q] at e; cases e
    · rw [List.getElem?_set_ne hj] at e ⊢; exact e
  obtain ⟨⟨m, hm, hv⟩, hc⟩ := hV
  refine ⟨⟨m, hm, fun j y d' a b c => hv j y d' a (key j d' b) c⟩, fun j y a b => ?_⟩
  obtain ⟨c, w', e, q, r⟩ := hc j y a b
  exact ⟨c, w', e, q, fun d' z => r d' (key j d' z)⟩
theorem bok_grow {x : Str} {p1 p2 p3 p4 p5 p6 : Pos} {e1 e2 : List Expr} {sts : List Stmt} {i : Nat} {a b : List PyData} {ρ : Env'} {r : Res} (F : Fm K p loose mg mb env xs kof h₀) (hx : xs[i]? = some x) (hk : okName kof x = true)
    (h1 : LOk prog w K p loose mg mb dep env xs ρ e1 a) (h2 : LOk prog w K p loose mg mb dep env xs (ρ.set i none) e2 b) (ha : a.length < 1000) (hb : b.length < 1000) (hfa : a.all flat1 = true) (hfb : b.all flat1 = true) (hfr : (ρ.set i none).all flatO = true)
    (h3 : BOk prog w dep env xs h₀ sts (ρ.set i (some (.list (a ++ b)))) r) : BOk prog w dep env xs h₀ (.Assign [.Name x p1] (.List e1 p2) p3 :: .AugAssign (.Name x p4) .Add (.List e2 p5) p6 :: sts) ρ r := by
  intro A Q s hA hK hV h
  refine wpAny_execs_cons (wpAny_Assign_Name (List_ (h1 _ A NoE _ s hA (F.base.keeps hK) hV fun vs s1 x1 r1 => ?_)) rfl)
  refine wpAny_newList ?_ (by rw [r1.length, sizeLine_eq]; omega)
  have kD : Keeps s1.heap (s1.heap.push { cls := .type "list", data := .seq vs.toArray }) := Keeps.push _ _
  have xD : Ext s { s1 with heap := s1.heap.push { cls := .type "list", data := .seq vs.toArray } } := x1.trans (Ext.heap s1 s1.toks kD)
  have hDg : (s1.heap.push { cls := .type "list", data := .seq vs.toArray }).get? s1.heap.objs.size = some { cls := .type "list", data := .seq vs.toArray } := Heap.get?_push_size _ rfl
  have hDf : ¬ Foot env s1.heap.objs.size := not_foot F (hV.keeps x1.keeps) (Nat.le_refl _)
  have hDn : ∀ b o, s.heap.get? b = some o → b ≠ s1.heap.objs.size := fun b o e => Nat.ne_of_lt (Heap.lt_size (x1.keeps b o e))
  generalize hDe : s1.heap.objs.size = Da at *
  refine store_sound F.e F.nd hx (okName_or F.kof hk) (hV.keeps xD.keeps) (.lst ⟨_, hDg, rfl, _, rfl⟩ (r1.keeps kD)) fun s2 x2 v2 at2 sk2 => ?_
  have hD2 : s2.heap.get? Da = some { cls := .type "list", data := .seq vs.toArray } := sk2 _ _ _ _ rfl hDg
  refine wpAny_execs_cons (wpAny_AugAssign_Name (at2.load F.e ?_))
  have K2 : Keeps h₀ s2.heap := F.keeps (xD.s.trans x2) hK
  refine List_ (h2 _ A NoE _ s2 hA (F.base.keeps K2) (vars_less v2) fun us s3 x3 r3 => ?_)
  refine wpAny_newList ?_ (by rw [r3.length, sizeLine_eq]; omega)
  have kE : Keeps s3.heap (s3.heap.push { cls := .type "list", data := .seq us.toArray }) := Keeps.push _ _
  have hD3 := kE _ _ (x3.keeps _ _ hD2)
  refine iadd_lists (n := 0) (m := 0) hD3 (Heap.get?_push_size _ rfl) (by rw [r1.length]; exact ha) (by rw [r3.length]; exact hb) fun h4 hL4 hs4 => ?_
  dsimp only at hs4
  have k4 : ∀ b o, b ≠ Da → (s3.heap.push { cls := .type "list", data := .seq us.toArray }).get? b = some o → h4.get? b = some o := fun b o hb e => hs4.extBut b o hb e
  have v4 : Vars env xs h4 (ρ.set i none) := flatO_vars F ((vars_less v2).keeps (fun b o e => kE _ _ (x3.keeps _ _ e))) hfr k4 ⟨_, hD3, rfl, _, _, rfl⟩
  have t24 : TupKeeps s2.heap h4 := fun b o vs n hc hd e => k4 b o (fun q => by rw [q, hD2] at e; cases e; injection hc with q2; exact absurd q2 (by decide)) (kE _ _ (x3.keeps _ _ e))
  have ra : Reps h4 vs a := flats_keep t24 ((r1.keeps kD).seqKeeps sk2) hfa
  have t34 : TupKeeps s3.heap h4 := fun b o vs n hc hd e => k4 b o (fun q => by rw [q, x3.keeps _ _ hD2] at e; cases e; injection hc with q2; exact absurd q2 (by decide)) (kE _ _ e)
  have rb : Reps h4 us b := flats_keep t34 r3 hfb
  refine store_sound F.e F.nd hx (okName_or F.kof hk) v4 (.lst hL4 (ra.append rb)) fun s5 x5 v5 _ _ => ?_
  rw [List.set_set] at v5
  have tot : SExt env s s5 := by
    have x02 := xD.s.trans x2
    obtain ⟨g2, tk2, rfl, k2⟩ := x02
    obtain ⟨g3, tk3, rfl, k3⟩ := x3
    obtain ⟨g5, tk5, rfl, k5⟩ := x5
    exact ⟨g5, tk5, rfl, fun b o f e => k5 b o f (k4 b o (hDn b o e) (kE _ _ (k3 _ _ (k2 b o f e))))⟩
  exact h3 A Q s5 hA (F.keeps tot hK) v5 (h.after tot)
theorem chkS_nil (st : Stmt) : chkS gs fns kof xs .nil st = false := by cases st <;> rfl
/-- what a body's terms say is what the body does -/
theorem soundS (hT : Tops K w.params gs sd fns) (hC : CallOK prog w K p loose mg mb fns dep cf) (F : Fm K p loose mg mb env xs kof h₀) : ∀ t : S,
    (∀ st ρ r, chkS gs fns kof xs t st = true → runS gs sd cf N t ρ = some r → SOk prog w dep env xs h₀ st ρ r) ∧
    (∀ sts ρ r, chkB gs fns kof xs t sts = true → runS gs sd cf N t ρ = some r → BOk prog w dep env xs h₀ sts ρ r) := by
  have snd := fun t ρ => sound (p := p) (loose := loose) (mg := mg) (mb := mb) hT hC t env xs ρ kof F.e F.kof
  intro t
  induction t with
  | nil =>
    refine ⟨fun st ρ r hc _ => by (cases st <;> cases hc), fun sts ρ r hc hr => ?_⟩
    cases sts with
    | nil => cases hr; exact bok_nil
    | cons st sts => cases hc
  | cons a q iha ihq =>
    refine ⟨fun st ρ r hc _ => by (cases st <;> cases hc), fun sts ρ r hc hr => ?_⟩
    cases sts with
    | nil => cases hc
    | cons st sts =>
      simp only [chkB, Bool.and_eq_true] at hc
      unfold runS at hr
      split at hr
      · rename_i ρ' e1
        exact bok_next F (iha.1 _ _ _ hc.1 e1) (ihq.2 _ _ _ hc.2 hr)
      · rename_i hne
        cases r with
        | next ρ' => exact absurd hr (hne ρ')
        | ret d => exact bok_ret (iha.1 _ _ _ hc.1 hr)
  | grow i l1 l2 q ihq =>
    refine ⟨fun st ρ r hc _ => by (cases st <;> cases hc), fun sts ρ r hc hr => ?_⟩
    unfold chkB at hc
    split at hc
    all_goals try (rename_i hq; cases hq)
    all_goals try cases hc
    rename_i x p1 e1 p2 p3 y p4 e2 p5 p6 sts
    simp only [Bool.and_eq_true, beq_iff_eq] at hc
    obtain ⟨⟨⟨⟨⟨h1, h2⟩, rfl⟩, h3⟩, h4⟩, h5⟩ := hc
    unfold runS at hr
    split at hr
    · rename_i a ea
      split at hr
      · rename_i b eb
        split at hr
        · rename_i hg
          simp only [Bool.and_eq_true, decide_eq_true_eq] at hg
          obtain ⟨⟨⟨⟨g1, g2⟩, g3⟩, g4⟩, g5⟩ := hg
          obtain ⟨ds, qa, l1k, _⟩ := (snd _ ρ).2.2 _ _ h3 ea
          cases qa
          obtain ⟨ds, qb, l2k, _⟩ := (snd _ _).2.2 _ _ h4 eb
          cases qb
          exact bok_grow F h1 h2 l1k l2k g1 g2 g3 g4 g5 (ihq.2 _ _ _ h5 hr)
        · cases hr
      · cases hr
    · cases hr
  | asg i t =>
    refine ⟨fun st ρ r hc hr => ?_, fun sts ρ r hc _ => by (cases sts <;> cases hc)⟩
    unfold chkS at hc
    split at hc
    · simp only [Bool.and_eq_true, beq_iff_eq, Bool.not_eq_true'] at hc
      obtain ⟨⟨⟨h1, h2⟩, h3⟩, h4⟩ := hc
      unfold runS at hr
      obtain ⟨d, hd, rfl⟩ := Option.map_eq_some_iff.mp hr
      exact sok_asg F h1 h2 h3 ((snd t ρ).1 _ _ h4 hd)
    · cases hc
  | asgT is rev t =>
    refine ⟨fun st ρ r hc hr => ?_, fun sts ρ r hc _ => by (cases sts <;> cases hc)⟩
    unfold chkS at hc
    split at hc
    · simp only [Bool.and_eq_true] at hc
      obtain ⟨⟨h1, h2⟩, h3⟩ := hc
      unfold runS at hr
      split at hr
      · rename_i l e1
        obtain ⟨hl, rfl⟩ := guardO_some hr
        have hl := eq_of_beq hl
        cases rev with
        | true => exact sok_swap F h1 (eq_of_beq h2) ((snd t ρ).1 _ _ h3 e1) hl
        | false => exact sok_tup F h1 (eq_of_beq h2) ((snd t ρ).1 _ _ h3 e1) (.inl rfl) hl
      · rename_i l e1
        obtain ⟨hl, rfl⟩ := guardO_some hr
        rw [Bool.and_eq_true] at hl
        cases rev with
        | true => cases hl.2
        | false => exact sok_tup F h1 (eq_of_beq h2) ((snd t ρ).1 _ _ h3 e1) (.inr rfl) (eq_of_beq hl.1)
      · cases hr
    · cases hc
  | aug i o t =>
    refine ⟨fun st ρ r hc hr => ?_, fun sts ρ r hc _ => by (cases sts <;> cases hc)⟩
    unfold chkS at hc
    split at hc
    · simp only [Bool.and_eq_true, beq_iff_eq] at hc
      obtain ⟨⟨⟨h1, h2⟩, rfl⟩, h4⟩ := hc
      unfold runS at hr
      split at hr
      · rename_i a b e1 e2
        obtain ⟨c, hd, rfl⟩ := Option.map_eq_some_iff.mp hr
        refine sok_aug F h1 h2 ?_ ((snd t ρ).1 _ _ h4 e2) hd
        cases q : ρ[i]? with
        | none => rw [q] at e1; cases e1
        | some z => rw [q] at e1; exact congrArg some e1
      · cases hr
    · cases hc
  | ite c a b iha ihb =>
    refine ⟨fun st ρ r hc hr => ?_, fun sts ρ r hc _ => by (cases sts <;> cases hc)⟩
    unfold chkS at hc
    split at hc
    · simp only [Bool.and_eq_true] at hc
      unfold runS at hr
      split at hr
      · rename_i d e1
        split at hr
        · rename_i ht
          exact sok_ite F ((snd c ρ).2.1 _ _ _ hc.1.1 e1 ht) (fun _ => iha.2 _ _ _ hc.1.2 hr) (fun q => nomatch q)
        · rename_i ht
          exact sok_ite F ((snd c ρ).2.1 _ _ _ hc.1.1 e1 ht) (fun q => nomatch q) (fun _ => ihb.2 _ _ _ hc.2 hr)
        · cases hr
      · cases hr
    · cases hc
  | ret t =>
    refine ⟨fun st ρ r hc hr => ?_, fun sts ρ r hc _ => by (cases sts <;> cases hc)⟩
    unfold chkS at hc
    split at hc
    · unfold runS at hr
      obtain ⟨d, hd, rfl⟩ := Option.map_eq_some_iff.mp hr
      exact sok_ret F ((snd t ρ).1 _ _ hc hd)
    · cases hc
  | asrt t =>
    refine ⟨fun st ρ r hc hr => ?_, fun sts ρ r hc _ => by (cases sts <;> cases hc)⟩
    unfold chkS at hc
    split at hc
    · unfold runS at hr
      split at hr
      · rename_i d e1
        split at hr
        · rename_i ht
          cases hr
          exact sok_asrt F ((snd t ρ).2.1 _ _ _ hc e1 ht)
        · cases hr
      · cases hr
    · cases hc
  | loop b ih =>
    refine ⟨fun st ρ r hc hr => ?_, fun sts ρ r hc _ => by (cases sts <;> cases hc)⟩
    unfold chkS at hc
    split at hc
    · simp only [Bool.and_eq_true] at hc
      unfold runS at hr
      exact sok_loop hc.1 F (fun ρ r e => ih.2 _ _ _ hc.2 e) hr
    · cases hc
  | forr i src b ih =>
    refine ⟨fun st ρ r hc hr => ?_, fun sts ρ r hc _ => by (cases sts <;> cases hc)⟩
    unfold chkS at hc
    split at hc
    · simp only [Bool.and_eq_true, beq_iff_eq] at hc
      obtain ⟨⟨⟨h1, h2⟩, h3⟩, h4⟩ := hc
      unfold runS at hr
      exact sok_for hT F h1 h2 h3 (fun ρ r e => ih.2 _ _ _ h4 e) hr
    · cases hc
  | bad => exact ⟨fun st ρ r _ hr => (by cases hr), fun sts ρ r hc _ => by (cases sts <;> cases hc)⟩
end
end Mine
end
-- part AJI
section
open PySem PySem.W PyProof.Rows
set_option maxRecDepth 100000
namespace Mine
/-- a def of the text, as terms -/
structure FB where
  xs : List Str
  np : Nat
  dfl : List PyData
  /-- with how many arguments it is called -/
  ks : List Nat
  body : S
def fill (fb : FB) (ds : List PyData) : Option (List PyData) :=
  guardO (fb.ks.contains ds.length && decide (ds.length ≤ fb.np) && decide (fb.np - ds.length ≤ fb.dfl.length)) (ds ++ fb.dfl.drop (fb.dfl.length - (fb.np - ds.length)))
def start (fb : FB) (full : List PyData) : Env' := full.map some ++ List.replicate (fb.xs.length - full.length) none
def scopeOk (fb : FB) (names : List (Str × NameKind)) : Bool :=
  names.all (fun x => x.2 != .cell || (names.lookup x.1 == some .cell && fb.xs.contains x.1)) && decide (fb.np ≤ fb.xs.length) && (fb.xs.take fb.np).all (fun x => names.lookup x == some .local || names.lookup x == some .cell)
structure FnOK (K : Frag) (gs : Globs) (fns : List (Str × Addr)) (a : Addr) (fb : FB) (fd : FuncData) (body : List Stmt) : Prop where
  there : ∃ oc od osl, K.lookup a = some ⟨oc, od, .func fd, osl⟩
  code : codeIn K fd.code fd.qualname = true
  glob : fd.globals = mainGlobals
  blt : fd.builtins = builtinsNs
  clo : fd.closure = []
  bd : fd.body = .stmts body
  co : fd.scope.isCoroutine = false
  gen : fd.scope.isGenerator = false
  kind : fd.scope.kind = .function
  nd : fb.xs.Nodup
  sc : scopeOk fb fd.scope.names = true
  chk : chkB gs fns (fun y => fd.scope.names.lookup y) fb.xs fb.body body = true
  binds : ∀ ds full vs (s : Shared), fill fb ds = some full → K.In s.heap → Reps s.heap vs ds → ∃ ws, BindsTo s fd ⟨vs, []⟩ ((fb.xs.take fb.np).zip ws) ∧ Reps s.heap ws full ∧ full.length = fb.np
theorem bindL_other {k : Str → Option NameKind} : ∀ (ns : List Str) (ws : List Value) (m : Str → Option Value) (x : Str), x ∉ ns → bindL k (ns.zip ws) m x = m x
  | [], _, _, _, _ => by simp [bindL]
  | _ :: _, [], _, _, _ => by simp [bindL]
  | n :: ns, w :: ws, m, x, h => by
    simp only [List.zip_cons_cons, bindL]
    rw [bindL_other ns ws _ x (fun q => h (.tail _ q))]
    split
    · exact if_neg (fun (q : x = n) => h (by rw [q]; exact .head _))
    · rfl
theorem bindL_at {k : Str → Option NameKind} : ∀ (ns : List Str) (ws : List Value) (m : Str → Option Value) (i : Nat) (x : Str) (w : Value), ns.Nodup → ns[i]? = some x → ws[i]? = some w → k x = some .local → bindL k (ns.zip ws) m x = some w
  | [], _, _, _, _, _, _, h, _, _ => by simp at h
  | _ :: _, [], _, _, _, _, _, _, h, _ => by simp at h
  | n :: ns, w' :: ws, m, 0, x, w, hn, h1, h2, hk => by
    simp at h1 h2
    subst h1; subst h2
    simp only [List.zip_cons_cons, bindL]
    rw [bindL_other ns ws _ _ (List.nodup_cons.mp hn).1, if_pos hk]
    simp
  | n :: ns, w' :: ws, m, i + 1, x, w, hn, h1, h2, hk => by
    simp at h1 h2
    simp only [List.zip_cons_cons, bindL]
    exact bindL_at ns ws _ i x w (List.nodup_cons.mp hn).2 h1 h2 hk
theorem bindC_other {k : Str → Option NameKind} : ∀ (ns : List Str) (ws : List Value) (m : Str → Option Value) (x : Str), x ∉ ns → bindC k (ns.zip ws) m x = m x
  | [], _, _, _, _ => by simp [bindC]
  | _ :: _, [], _, _, _ => by simp [bindC]
  | n :: ns, w :: ws, m, x, h => by
    simp only [List.zip_cons_cons, bindC]
    rw [bindC_other ns ws _ x (fun q => h (.tail _ q))]
    split
    · rfl
    · exact if_neg (fun (q : x = n) => h (by rw [q]; exact .head _))
theorem bindC_at {k : Str → Option NameKind} : ∀ (ns : List Str) (ws : List Value) (m : Str → Option Value) (i : Nat) (x : Str) (w : Value), ns.Nodup → ns[i]? = some x → ws[i]? = some w → k x = some .cell → bindC k (ns.zip ws) m x = some w
  | [], _, _, _, _, _, _, h, _, _ => by simp at h
  | _ :: _, [], _, _, _, _, _, _, h, _ => by simp at h
  | n :: ns, w' :: ws, m, 0, x, w, hn, h1, h2, hk => by
    simp at h1 h2
    subst h1; subst h2
    simp only [List.zip_cons_cons, bindC]
    rw [bindC_other ns ws _ _ (List.nodup_cons.mp hn).1, if_neg (by rw [hk]; decide)]
    simp
  | n :: ns, w' :: ws, m, i + 1, x, w, hn, h1, h2, hk => by
    simp at h1 h2
    simp only [List.zip_cons_cons, bindC]
    exact bindC_at ns ws _ i x w (List.nodup_cons.mp hn).2 h1 h2 hk
theorem cellsFrom_mem : ∀ (names : List (Str × NameKind)) (n : Nat) (acc : List (Str × Addr)) (y : Str) (c : Addr), (y, c) ∈ cellsFrom n names acc → (y, c) ∈ acc ∨ (y, NameKind.cell) ∈ names
  | [], _, _, _, _, h => .inl h
  | (x, k) :: r, n, acc, y, c, h => by
    unfold cellsFrom at h
    split at h
    · rename_i hk
      have hk : k = .cell := by simpa using hk
      rcases cellsFrom_mem r _ _ y c h with h | h
      · rcases List.mem_cons.mp h with h | h
        · cases h; subst hk; exact .inr (.head _)
        · exact .inl h
      · exact .inr (.tail _ h)
    · rcases cellsFrom_mem r _ _ y c h with h | h
      · exact .inl h
      · exact .inr (.tail _ h)
section
variable {prog : Program} {w : World} {K : Frag} {p : Program} {loose : List Str} {mg mb : Str → Option Value} {gs : Globs} {sd : Str → Option PyData} {fns : List (Str × Addr)}
variable {dep : Nat} {cf : Nat → List PyData → Option PyData} {N : Nat}
/-- one def's call -/
theorem fn_code {a : Addr} {fb : FB} {fd : FuncData} {body : List Stmt} (hT : Tops K w.params gs sd fns) (hC : CallOK prog w K p loose mg mb fns dep cf) (hF : FnOK K gs fns a fb fd body) {ds full : List PyData} {r : PyData}
    (hf : fill fb ds = some full) (hr : runS gs sd cf N fb.body (start fb full) = some (.ret r)) {A : Around} {R : Result → Shared → Prop} {s : Shared} {vs : List Value} (hA : AOK A (dep + 1)) (hB : Base K p loose mg mb s.heap) (hv : Reps s.heap vs ds)
    (h : ∀ v s', Ext s s' → Rep s'.heap v r → R (.ok (.ret v)) s') : codeAny (model prog w) A (.call (.ref a) ⟨vs, []⟩) R s := by
  obtain ⟨oc, od, osl, hl⟩ := hF.there
  obtain ⟨ws, hbind, hws, hfl⟩ := hF.binds ds full vs s hf hB.k hv
  have hroom : A.depth < recursionLimit := by have := hA.depth; omega
  have hsc := hF.sc
  unfold scopeOk at hsc
  simp only [Bool.and_eq_true, List.all_eq_true, decide_eq_true_eq, Bool.or_eq_true, bne_iff_ne, beq_iff_eq, List.contains_iff_mem] at hsc
  obtain ⟨⟨sc1, sc2⟩, sc3⟩ := hsc
  have hwl : ws.length = fb.np := by rw [hws.length, hfl]
  refine codeAny_call_function hroom (hB.k _ _ hl) rfl hF.co hF.gen hF.bd (codeRec_of hB.k hF.code) (hbind _ _ _ _ ?_)
  have memP : ∀ x ∈ (fb.xs.take fb.np).zip ws, x.1 ∈ fb.xs.take fb.np := fun x hx => (List.of_mem_zip hx).1
  rw [hF.clo]
  refine wpAny_newFunctionEnv_cells hF.kind (fun x hx => ?_) fun env' he s' x => ?_
  · rcases sc3 _ (memP x hx) with q | q
    · exact .inl q
    · exact .inr ⟨q, cellsFrom_some _ _ _ (.inl q)⟩
  subst he
  refine ⟨hB.top.nolimit.keeps x.toInCall.keep, codeAny_func ?_⟩
  generalize hen : newEnv fd.scope s.heap.objs.size fd.globals (cellsFrom (s.heap.objs.size + 1) fd.scope.names []) (fd.qualname ++ ".<locals>.") (some a) fd.code none fd.builtins = env at x ⊢
  have eL : env.locals = s.heap.objs.size := by rw [← hen]; rfl
  have eK : ∀ y, env.kindOf y = fd.scope.names.lookup y := fun y => by rw [← hen]; rfl
  have eC : env.cells = cellsFrom (s.heap.objs.size + 1) fd.scope.names [] := by rw [← hen]; rfl
  have eS : env.scope = fd.scope := by rw [← hen]; rfl
  have cellK : ∀ y c, env.cells.lookup y = some c → env.kindOf y = some .cell ∧ y ∈ fb.xs := fun y c e => by
    rw [eC] at e
    rcases cellsFrom_mem _ _ _ y c (PySem.mem_of_lookup e) with q | q
    · cases q
    · rcases sc1 _ q with z | z
      · exact absurd rfl z
      · exact ⟨by rw [eK]; exact z.1, z.2⟩
  have hE : EnvOK env := {
    kind := by rw [eS]; exact hF.kind
    glob := by rw [← hen]; exact hF.glob
    blt := by rw [← hen]; exact hF.blt
    inj := fun y z c e1 e2 => name_of_addr x.apart (PySem.mem_of_lookup e1) (PySem.mem_of_lookup e2)
    whole := fun y e => by
      rw [eK] at e
      rw [eC]
      exact Option.isSome_iff_exists.mp (cellsFrom_some _ _ _ (.inl e)) }
  have hFm : Fm K p loose mg mb env fb.xs (fun y => fd.scope.names.lookup y) s.heap := {
    e := hE
    kof := eK
    nd := hF.nd
    base := hB
    off := fun b f => by
      rcases f with f | ⟨y, f⟩
      · exact Heap.get?_none_of_le (by rw [f, eL]; exact Nat.le_refl _)
      · have := x.above y b (PySem.mem_of_lookup f)
        exact Heap.get?_none_of_le (by rw [eL] at this; exact Nat.le_of_lt this)
    cx := fun y c e => by
      obtain ⟨h1, h2⟩ := cellK y c e
      obtain ⟨i, hi, rfl⟩ := List.getElem_of_mem h2
      exact ⟨i, by simp [hi], h1⟩ }
  have take : ∀ (i : Nat) y d, fb.xs[i]? = some y → (start fb full)[i]? = some (some d) → ∃ u, (fb.xs.take fb.np)[i]? = some y ∧ ws[i]? = some u ∧ Rep s.heap u d := fun i y d e1 e2 => by
    unfold start at e2
    by_cases hi : i < full.length
    · rw [List.getElem?_append_left (by simpa using hi), List.getElem?_map] at e2
      obtain ⟨d', q, q2⟩ := Option.map_eq_some_iff.mp e2
      cases q2
      obtain ⟨u, hu, ru⟩ := hws.get q
      exact ⟨u, by rw [List.getElem?_take, if_pos (by omega)]; exact e1, hu, ru⟩
    · rw [List.getElem?_append_right (by simpa using hi), List.getElem?_replicate] at e2
      split at e2 <;> simp at e2
  have hndP : (fb.xs.take fb.np).Nodup := hF.nd.sublist (List.take_sublist _ _)
  have hV : Vars env fb.xs s'.heap (start fb full) := by
    refine ⟨⟨_, x.toInCall.ns, fun i y d e1 e2 e3 => ?_⟩, fun i y e1 e2 => ?_⟩
    · obtain ⟨u, q1, q2, q3⟩ := take i y d e1 e2
      exact ⟨u, bindL_at _ _ _ i y u hndP q1 q2 e3, q3.keeps x.toInCall.keep⟩
    · obtain ⟨c, hc⟩ := hE.whole y e2
      refine ⟨c, _, hc, x.cell y c hc, fun d e => ?_⟩
      obtain ⟨u, q1, q2, q3⟩ := take i y d e1 e
      exact ⟨u, bindC_at _ _ _ i y u hndP q1 q2 e2, q3.keeps x.toInCall.keep⟩
  have hA' : AOK (A.deeper env) dep := ⟨hA.hh, by have := hA.depth; show A.depth + 1 + dep < _; omega, by have := hA.units; rw [Around.deeper_units]; omega⟩
  obtain ⟨h', tk', e', k'⟩ := x.done
  have hx : Ext s s' := ⟨h', tk', e', k'⟩
  refine wpAny_mono ((soundS (N := N) hT hC hFm fb.body).2 body _ _ hF.chk hr (A.deeper env) (fun fl s2 => ∃ v, fl = .ret v ∧ R (.ok (.ret v)) s2) s' hA' x.toInCall.keep hV ?_) (fun fl s2 q => ?_) noE
  · intro v s2 x2 r2
    refine ⟨v, rfl, h v s2 ?_ r2⟩
    obtain ⟨g2, tk2, rfl, k2⟩ := x2
    obtain ⟨h', tk', rfl, k'⟩ := hx
    exact ⟨g2, tk2, rfl, fun b o e => k2 b o (fun f => by rw [hFm.off b f] at e; cases e) (k' b o e)⟩
  · obtain ⟨v, rfl, q⟩ := q
    exact q
theorem fn_call {a : Addr} {fb : FB} {fd : FuncData} {body : List Stmt} (hT : Tops K w.params gs sd fns) (hC : CallOK prog w K p loose mg mb fns dep cf) (hF : FnOK K gs fns a fb fd body) {ds full : List PyData} {r : PyData}
    (hf : fill fb ds = some full) (hr : runS gs sd cf N fb.body (start fb full) = some (.ret r)) {A : Around} {E Q : Value → Shared → Prop} {s : Shared} {vs : List Value} (hA : AOK A (dep + 1)) (hB : Base K p loose mg mb s.heap) (hv : Reps s.heap vs ds)
    (h : ∀ v s', Ext s s' → Rep s'.heap v r → Q v s') : wpAny (model prog w) A (call (.ref a) vs) Q E s := wpAny_call (fn_code hT hC hF hf hr hA hB hv h)
def cfS (gs : Globs) (sd : Str → Option PyData) (fbs : List FB) (N : Nat) (cf : Nat → List PyData → Option PyData) (f : Nat) (ds : List PyData) : Option PyData := match fbs[f]? with
  | some fb => match fill fb ds with
    | some full => match runS gs sd cf N fb.body (start fb full) with
      | some (.ret r) => some r
      | _ => none
    | none => none
  | none => none
def cfD (gs : Globs) (sd : Str → Option PyData) (fbs : List FB) (N : Nat) : Nat → Nat → List PyData → Option PyData
  | 0 => fun _ _ => none
  | d + 1 => cfS gs sd fbs N (cfD gs sd fbs N d)
theorem calls_ok {fbs : List FB} (hT : Tops K w.params gs sd fns) (hF : ∀ (f : Nat) x a, fns[f]? = some (x, a) → ∃ fb fd body, fbs[f]? = some fb ∧ FnOK K gs fns a fb fd body) : ∀ dep, CallOK prog w K p loose mg mb fns dep (cfD gs sd fbs N dep)
  | 0 => fun _ _ _ _ _ _ h => nomatch h
  | dep + 1 => by
    intro f x a ds r hf hr A E Q s vs hA hB hv h
    obtain ⟨fb, fd, body, hfb, hok⟩ := hF f x a hf
    unfold cfD cfS at hr
    rw [hfb] at hr
    dsimp only at hr
    split at hr
    · rename_i full hfull
      split at hr
      · rename_i r' hr'
        cases hr
        exact fn_call hT (calls_ok hT hF dep) hok hfull hr' hA hB hv h
      · cases hr
    · cases hr
end
end Mine
end
-- part AJIr
section
open PySem PySem.W PyProof.Rows
set_option maxRecDepth 100000
namespace Mine
/-- a text as the model has it -/
abbrev nm (s : String) : Str := Str.ofString s
def gs : Globs := [((nm "MPZ_ONE"), .int 1), ((nm "round_nearest"), .str (nm "n")), ((nm "round_floor"), .str (nm "f")), ((nm "fzero"), .tuple [.int 0, .int 0, .int 0, .int 0]), ((nm "fnan"), .tuple [.int 0, .int 0, .int (-123), .int (-1)]), ((nm "finf"), .tuple [.int 0, .int 0, .int (-456), .int (-2)]), ((nm "fninf"), .tuple [.int 1, .int 0, .int (-789), .int (-3)])]
def fns : List (Str × Addr) := [((nm "trailing"), 21), ((nm "isqrt_small"), 28), ((nm "sqrtrem"), 35), ((nm "isqrt"), 42), ((nm "_normalize"), 71), ((nm "normalize"), 78), ((nm "from_man_exp"), 86), ((nm "mpf_cmp"), 93), ((nm "mpf_le"), 100), ((nm "mpf_pos"), 108), ((nm "mpf_neg"), 116), ((nm "mpf_abs"), 124), ((nm "mpf_sign"), 131), ((nm "mpf_add"), 139), ((nm "mpf_sub"), 147), ((nm "mpf_mul"), 155), ((nm "mpf_shift"), 162), ((nm "mpf_div"), 170), ((nm "mpf_sqrt"), 178), ((nm "_law_mixed"), 185), ((nm "_law_raw"), 192), ((nm "_law_above"), 199), ((nm "_law_near"), 206), ((nm "_law_order_right"), 211), ((nm "_law_meeting_right"), 218), ((nm "_law_root_right"), 225), ((nm "law"), 232)]
/-- 0 n -/
def btrailing : FB := { xs := [(nm "n")], np := 1, dfl := [], ks := [1], body :=
    (.cons (.ite (.not (.var 0))
    (.cons (.ret (.litI 0))
    .nil)
    .nil)
    (.cons (.ret (.bin .sub (.bitlen (.bin .band (.var 0) (.neg (.var 0)))) (.litI 1)))
    .nil)) }
/-- 0 x, 1 r, 2 y -/
def bisqrt_small : FB := { xs := [(nm "x"), (nm "r"), (nm "y")], np := 1, dfl := [], ks := [1], body :=
    (.cons (.ite (.not (.var 0))
    (.cons (.ret (.var 0))
    .nil)
    .nil)
    (.cons (.asg 1 (.bin .shl (.litI 1) (.bin .shr (.bin .add (.bitlen (.var 0)) (.litI 1)) (.litI 1))))
    (.cons (.loop (.cons (.asg 2 (.bin .shr (.bin .add (.var 1) (.bin .div (.var 0) (.var 1))) (.litI 1)))
    (.cons (.ite (.cmp .ge (.var 2) (.var 1))
    (.cons (.ret (.var 1))
    .nil)
    .nil)
    (.cons (.asg 1 (.var 2))
    .nil))))
    .nil))) }
/-- 0 x, 1 y -/
def bsqrtrem : FB := { xs := [(nm "x"), (nm "y")], np := 1, dfl := [], ks := [1], body :=
    (.cons (.asg 1 (.call 1 (.cons (.var 0) .nil)))
    (.cons (.ret (.tup (.cons (.var 1) (.cons (.bin .sub (.var 0) (.bin .mul (.var 1) (.var 1))) .nil))))
    .nil)) }
/-- 0 x -/
def bisqrt : FB := { xs := [(nm "x")], np := 1, dfl := [], ks := [1], body :=
    (.cons (.ret (.idx (.call 2 (.cons (.var 0) .nil)) (.litI 0)))
    .nil) }
/-- 0 sign, 1 man, 2 exp, 3 bc, 4 prec, 5 rnd, 6 n, 7 t -/
def bnormalize0 : FB := { xs := [(nm "sign"), (nm "man"), (nm "exp"), (nm "bc"), (nm "prec"), (nm "rnd"), (nm "n"), (nm "t")], np := 6, dfl := [], ks := [6], body :=
    (.cons (.ite (.not (.var 1))
    (.cons (.ret (.glob 3))
    .nil)
    .nil)
    (.cons (.asg 6 (.bin .sub (.var 3) (.var 4)))
    (.cons (.ite (.cmp .gt (.var 6) (.litI 0))
    (.cons (.ite (.cmp .eq (.var 5) (.glob 1))
    (.cons (.asg 7 (.bin .shr (.var 1) (.bin .sub (.var 6) (.litI 1))))
    (.cons (.ite (.and (.bin .band (.var 7) (.litI 1)) (.or (.bin .band (.var 7) (.litI 2)) (.bin .band (.var 1) (.bin .sub (.bin .shl (.glob 0) (.bin .sub (.var 6) (.litI 1))) (.litI 1)))))
    (.cons (.asg 1 (.bin .add (.bin .shr (.var 7) (.litI 1)) (.litI 1)))
    .nil)
    (.cons (.asg 1 (.bin .shr (.var 7) (.litI 1)))
    .nil))
    .nil))
    (.cons (.ite (.idx (.down (.var 5)) (.var 0))
    (.cons (.aug 1 .ishr (.var 6))
    .nil)
    (.cons (.asg 1 (.neg (.bin .shr (.neg (.var 1)) (.var 6))))
    .nil))
    .nil))
    (.cons (.aug 2 .iadd (.var 6))
    (.cons (.asg 3 (.var 4))
    .nil)))
    .nil)
    (.cons (.ite (.not (.bin .band (.var 1) (.litI 1)))
    (.cons (.asg 7 (.call 0 (.cons (.var 1) .nil)))
    (.cons (.aug 1 .ishr (.var 7))
    (.cons (.aug 2 .iadd (.var 7))
    (.cons (.aug 3 .isub (.var 7))
    .nil))))
    .nil)
    (.cons (.ite (.cmp .eq (.var 1) (.litI 1))
    (.cons (.asg 3 (.litI 1))
    .nil)
    .nil)
    (.cons (.ret (.tup (.cons (.var 0) (.cons (.var 1) (.cons (.var 2) (.cons (.var 3) .nil))))))
    .nil)))))) }
/-- 0 sign, 1 man, 2 exp, 3 bc, 4 prec, 5 rnd -/
def bnormalize : FB := { xs := [(nm "sign"), (nm "man"), (nm "exp"), (nm "bc"), (nm "prec"), (nm "rnd")], np := 6, dfl := [], ks := [6], body :=
    (.cons (.asrt (.cmp .eq (.var 3) (.bitlen (.var 1))))
    (.cons (.asrt (.cmp .ge (.var 1) (.litI 0)))
    (.cons (.ret (.call 4 (.cons (.var 0) (.cons (.var 1) (.cons (.var 2) (.cons (.var 3) (.cons (.var 4) (.cons (.var 5) .nil))))))))
    .nil))) }
/-- 0 man, 1 exp, 2 prec, 3 rnd, 4 sign, 5 bc, 6 t -/
def bfrom_man_exp : FB := { xs := [(nm "man"), (nm "exp"), (nm "prec"), (nm "rnd"), (nm "sign"), (nm "bc"), (nm "t")], np := 4, dfl := [.int 0, .str (nm "d")], ks := [4], body :=
    (.cons (.ite (.not (.isint (.var 0)))
    (.cons .bad
    .nil)
    .nil)
    (.cons (.asg 4 (.litI 0))
    (.cons (.ite (.cmp .lt (.var 0) (.litI 0))
    (.cons (.asg 4 (.litI 1))
    (.cons (.asg 0 (.neg (.var 0)))
    .nil))
    .nil)
    (.cons (.asg 5 (.bitlen (.var 0)))
    (.cons (.ite (.not (.var 2))
    (.cons (.ite (.not (.var 0))
    (.cons (.ret (.glob 3))
    .nil)
    .nil)
    (.cons (.ite (.not (.bin .band (.var 0) (.litI 1)))
    (.cons (.ite (.bin .band (.var 0) (.litI 2))
    (.cons (.ret (.tup (.cons (.var 4) (.cons (.bin .shr (.var 0) (.litI 1)) (.cons (.bin .add (.var 1) (.litI 1)) (.cons (.bin .sub (.var 5) (.litI 1)) .nil))))))
    .nil)
    .nil)
    (.cons (.asg 6 (.call 0 (.cons (.var 0) .nil)))
    (.cons (.aug 0 .ishr (.var 6))
    (.cons (.aug 1 .iadd (.var 6))
    (.cons (.aug 5 .isub (.var 6))
    .nil)))))
    .nil)
    (.cons (.ret (.tup (.cons (.var 4) (.cons (.var 0) (.cons (.var 1) (.cons (.var 5) .nil))))))
    .nil)))
    .nil)
    (.cons (.ret (.call 5 (.cons (.var 4) (.cons (.var 0) (.cons (.var 1) (.cons (.var 5) (.cons (.var 2) (.cons (.var 3) .nil))))))))
    .nil)))))) }
/-- 0 s, 1 t, 2 ssign, 3 sman, 4 sexp, 5 sbc, 6 tsign, 7 tman, 8 texp, 9 tbc, 10 a, 11 b, 12 delta -/
def bmpf_cmp : FB := { xs := [(nm "s"), (nm "t"), (nm "ssign"), (nm "sman"), (nm "sexp"), (nm "sbc"), (nm "tsign"), (nm "tman"), (nm "texp"), (nm "tbc"), (nm "a"), (nm "b"), (nm "delta")], np := 2, dfl := [], ks := [2], body :=
    (.cons (.asgT [2, 3, 4, 5] false (.var 0))
    (.cons (.asgT [6, 7, 8, 9] false (.var 1))
    (.cons (.ite (.or (.not (.var 3)) (.not (.var 7)))
    (.cons (.ite (.cmp .eq (.var 0) (.glob 3))
    (.cons (.ret (.neg (.call 12 (.cons (.var 1) .nil))))
    .nil)
    .nil)
    (.cons (.ite (.cmp .eq (.var 1) (.glob 3))
    (.cons (.ret (.call 12 (.cons (.var 0) .nil)))
    .nil)
    .nil)
    (.cons (.ite (.cmp .eq (.var 0) (.var 1))
    (.cons (.ret (.litI 0))
    .nil)
    .nil)
    (.cons (.ite (.cmp .eq (.var 1) (.glob 4))
    (.cons (.ret (.litI 1))
    .nil)
    .nil)
    (.cons (.ite (.cmp .eq (.var 0) (.glob 5))
    (.cons (.ret (.litI 1))
    .nil)
    .nil)
    (.cons (.ite (.cmp .eq (.var 1) (.glob 6))
    (.cons (.ret (.litI 1))
    .nil)
    .nil)
    (.cons (.ret (.neg (.litI 1)))
    .nil)))))))
    .nil)
    (.cons (.ite (.cmp .ne (.var 2) (.var 6))
    (.cons (.ite (.not (.var 2))
    (.cons (.ret (.litI 1))
    .nil)
    .nil)
    (.cons (.ret (.neg (.litI 1)))
    .nil))
    .nil)
    (.cons (.ite (.cmp .eq (.var 4) (.var 8))
    (.cons (.ite (.cmp .eq (.var 3) (.var 7))
    (.cons (.ret (.litI 0))
    .nil)
    .nil)
    (.cons (.ite (.cmp .gt (.var 3) (.var 7))
    (.cons (.ite (.var 2)
    (.cons (.ret (.neg (.litI 1)))
    .nil)
    (.cons (.ret (.litI 1))
    .nil))
    .nil)
    (.cons (.ite (.var 2)
    (.cons (.ret (.litI 1))
    .nil)
    (.cons (.ret (.neg (.litI 1)))
    .nil))
    .nil))
    .nil))
    .nil)
    (.cons (.asg 10 (.bin .add (.var 5) (.var 4)))
    (.cons (.asg 11 (.bin .add (.var 9) (.var 8)))
    (.cons (.ite (.var 2)
    (.cons (.ite (.cmp .lt (.var 10) (.var 11))
    (.cons (.ret (.litI 1))
    .nil)
    .nil)
    (.cons (.ite (.cmp .gt (.var 10) (.var 11))
    (.cons (.ret (.neg (.litI 1)))
    .nil)
    .nil)
    .nil))
    (.cons (.ite (.cmp .lt (.var 10) (.var 11))
    (.cons (.ret (.neg (.litI 1)))
    .nil)
    .nil)
    (.cons (.ite (.cmp .gt (.var 10) (.var 11))
    (.cons (.ret (.litI 1))
    .nil)
    .nil)
    .nil)))
    (.cons (.asg 12 (.call 14 (.cons (.var 0) (.cons (.var 1) (.cons (.litI 5) (.cons (.glob 2) .nil))))))
    (.cons (.ite (.idx (.var 12) (.litI 0))
    (.cons (.ret (.neg (.litI 1)))
    .nil)
    .nil)
    (.cons (.ret (.litI 1))
    .nil))))))))))) }
/-- 0 s, 1 t -/
def bmpf_le : FB := { xs := [(nm "s"), (nm "t")], np := 2, dfl := [], ks := [2], body :=
    (.cons (.ite (.or (.cmp .eq (.var 0) (.glob 4)) (.cmp .eq (.var 1) (.glob 4)))
    (.cons (.ret (.litB false))
    .nil)
    .nil)
    (.cons (.ret (.cmp .le (.call 7 (.cons (.var 0) (.cons (.var 1) .nil))) (.litI 0)))
    .nil)) }
/-- 0 s, 1 prec, 2 rnd, 3 sign, 4 man, 5 exp, 6 bc -/
def bmpf_pos : FB := { xs := [(nm "s"), (nm "prec"), (nm "rnd"), (nm "sign"), (nm "man"), (nm "exp"), (nm "bc")], np := 3, dfl := [.int 0, .str (nm "d")], ks := [3], body :=
    (.cons (.ite (.var 1)
    (.cons (.asgT [3, 4, 5, 6] false (.var 0))
    (.cons (.ite (.and (.not (.var 4)) (.var 5))
    (.cons (.ret (.var 0))
    .nil)
    .nil)
    (.cons (.ret (.call 5 (.cons (.var 3) (.cons (.var 4) (.cons (.var 5) (.cons (.var 6) (.cons (.var 1) (.cons (.var 2) .nil))))))))
    .nil)))
    .nil)
    (.cons (.ret (.var 0))
    .nil)) }
/-- 0 s, 1 prec, 2 rnd, 3 sign, 4 man, 5 exp, 6 bc -/
def bmpf_neg : FB := { xs := [(nm "s"), (nm "prec"), (nm "rnd"), (nm "sign"), (nm "man"), (nm "exp"), (nm "bc")], np := 3, dfl := [.int 0, .str (nm "d")], ks := [], body :=
    (.cons (.asgT [3, 4, 5, 6] false (.var 0))
    (.cons (.ite (.not (.var 4))
    (.cons (.ite (.var 5)
    (.cons (.ite (.cmp .eq (.var 0) (.glob 5))
    (.cons (.ret (.glob 6))
    .nil)
    .nil)
    (.cons (.ite (.cmp .eq (.var 0) (.glob 6))
    (.cons (.ret (.glob 5))
    .nil)
    .nil)
    .nil))
    .nil)
    (.cons (.ret (.var 0))
    .nil))
    .nil)
    (.cons (.ite (.not (.var 1))
    (.cons (.ret (.tup (.cons (.bin .sub (.litI 1) (.var 3)) (.cons (.var 4) (.cons (.var 5) (.cons (.var 6) .nil))))))
    .nil)
    .nil)
    (.cons (.ret (.call 5 (.cons (.bin .sub (.litI 1) (.var 3)) (.cons (.var 4) (.cons (.var 5) (.cons (.var 6) (.cons (.var 1) (.cons (.var 2) .nil))))))))
    .nil)))) }
/-- 0 s, 1 prec, 2 rnd, 3 sign, 4 man, 5 exp, 6 bc -/
def bmpf_abs : FB := { xs := [(nm "s"), (nm "prec"), (nm "rnd"), (nm "sign"), (nm "man"), (nm "exp"), (nm "bc")], np := 3, dfl := [.int 0, .str (nm "d")], ks := [1], body :=
    (.cons (.asgT [3, 4, 5, 6] false (.var 0))
    (.cons (.ite (.and (.not (.var 4)) (.var 5))
    (.cons (.ite (.cmp .eq (.var 0) (.glob 6))
    (.cons (.ret (.glob 5))
    .nil)
    .nil)
    (.cons (.ret (.var 0))
    .nil))
    .nil)
    (.cons (.ite (.not (.var 1))
    (.cons (.ite (.var 3)
    (.cons (.ret (.tup (.cons (.litI 0) (.cons (.var 4) (.cons (.var 5) (.cons (.var 6) .nil))))))
    .nil)
    .nil)
    (.cons (.ret (.var 0))
    .nil))
    .nil)
    (.cons (.ret (.call 5 (.cons (.litI 0) (.cons (.var 4) (.cons (.var 5) (.cons (.var 6) (.cons (.var 1) (.cons (.var 2) .nil))))))))
    .nil)))) }
/-- 0 s, 1 sign, 2 man, 3 exp, 4 bc -/
def bmpf_sign : FB := { xs := [(nm "s"), (nm "sign"), (nm "man"), (nm "exp"), (nm "bc")], np := 1, dfl := [], ks := [1], body :=
    (.cons (.asgT [1, 2, 3, 4] false (.var 0))
    (.cons (.ite (.not (.var 2))
    (.cons (.ite (.cmp .eq (.var 0) (.glob 5))
    (.cons (.ret (.litI 1))
    .nil)
    .nil)
    (.cons (.ite (.cmp .eq (.var 0) (.glob 6))
    (.cons (.ret (.neg (.litI 1)))
    .nil)
    .nil)
    (.cons (.ret (.litI 0))
    .nil)))
    .nil)
    (.cons (.ret (.bin .pow (.neg (.litI 1)) (.var 1)))
    .nil))) }
/-- 0 s, 1 t, 2 prec, 3 rnd, 4 _sub, 5 ssign, 6 sman, 7 sexp, 8 sbc, 9 tsign, 10 tman, 11 texp, 12 tbc, 13 offset, 14 bc, 15 man, 16 delta -/
def bmpf_add : FB := { xs := [(nm "s"), (nm "t"), (nm "prec"), (nm "rnd"), (nm "_sub"), (nm "ssign"), (nm "sman"), (nm "sexp"), (nm "sbc"), (nm "tsign"), (nm "tman"), (nm "texp"), (nm "tbc"), (nm "offset"), (nm "bc"), (nm "man"), (nm "delta")], np := 5, dfl := [.int 0, .str (nm "d"), .int 0], ks := [2, 5], body :=
    (.cons (.asgT [5, 6, 7, 8] false (.var 0))
    (.cons (.asgT [9, 10, 11, 12] false (.var 1))
    (.cons (.aug 9 .ixor (.var 4))
    (.cons (.ite (.and (.var 6) (.var 10))
    (.cons (.asg 13 (.bin .sub (.var 7) (.var 11)))
    (.cons (.ite (.var 13)
    (.cons (.ite (.cmp .gt (.var 13) (.litI 0))
    (.cons (.ite (.and (.cmp .gt (.var 13) (.litI 100)) (.var 2))
    (.cons (.asg 16 (.bin .sub (.bin .sub (.bin .add (.var 8) (.var 7)) (.var 12)) (.var 11)))
    (.cons (.ite (.cmp .gt (.var 16) (.bin .add (.var 2) (.litI 4)))
    (.cons (.asg 13 (.bin .add (.var 2) (.litI 4)))
    (.cons (.aug 6 .ishl (.var 13))
    (.cons (.ite (.cmp .eq (.var 9) (.var 5))
    (.cons (.aug 6 .iadd (.litI 1))
    .nil)
    (.cons (.aug 6 .isub (.litI 1))
    .nil))
    (.cons (.ret (.call 5 (.cons (.var 5) (.cons (.var 6) (.cons (.bin .sub (.var 7) (.var 13)) (.cons (.bitlen (.var 6)) (.cons (.var 2) (.cons (.var 3) .nil))))))))
    .nil))))
    .nil)
    .nil))
    .nil)
    (.cons (.ite (.cmp .eq (.var 5) (.var 9))
    (.cons (.asg 15 (.bin .add (.var 10) (.bin .shl (.var 6) (.var 13))))
    .nil)
    (.cons (.ite (.var 5)
    (.cons (.asg 15 (.bin .sub (.var 10) (.bin .shl (.var 6) (.var 13))))
    .nil)
    (.cons (.asg 15 (.bin .sub (.bin .shl (.var 6) (.var 13)) (.var 10)))
    .nil))
    (.cons (.ite (.cmp .ge (.var 15) (.litI 0))
    (.cons (.asg 5 (.litI 0))
    .nil)
    (.cons (.asg 15 (.neg (.var 15)))
    (.cons (.asg 5 (.litI 1))
    .nil)))
    .nil)))
    (.cons (.asg 14 (.bitlen (.var 15)))
    (.cons (.ret (.call 5 (.cons (.var 5) (.cons (.var 15) (.cons (.var 11) (.cons (.var 14) (.cons (.or (.var 2) (.var 14)) (.cons (.var 3) .nil))))))))
    .nil))))
    (.cons (.ite (.cmp .lt (.var 13) (.litI 0))
    (.cons (.ite (.and (.cmp .lt (.var 13) (.neg (.litI 100))) (.var 2))
    (.cons (.asg 16 (.bin .sub (.bin .sub (.bin .add (.var 12) (.var 11)) (.var 8)) (.var 7)))
    (.cons (.ite (.cmp .gt (.var 16) (.bin .add (.var 2) (.litI 4)))
    (.cons (.asg 13 (.bin .add (.var 2) (.litI 4)))
    (.cons (.aug 10 .ishl (.var 13))
    (.cons (.ite (.cmp .eq (.var 5) (.var 9))
    (.cons (.aug 10 .iadd (.litI 1))
    .nil)
    (.cons (.aug 10 .isub (.litI 1))
    .nil))
    (.cons (.ret (.call 5 (.cons (.var 9) (.cons (.var 10) (.cons (.bin .sub (.var 11) (.var 13)) (.cons (.bitlen (.var 10)) (.cons (.var 2) (.cons (.var 3) .nil))))))))
    .nil))))
    .nil)
    .nil))
    .nil)
    (.cons (.ite (.cmp .eq (.var 5) (.var 9))
    (.cons (.asg 15 (.bin .add (.var 6) (.bin .shl (.var 10) (.neg (.var 13)))))
    .nil)
    (.cons (.ite (.var 9)
    (.cons (.asg 15 (.bin .sub (.var 6) (.bin .shl (.var 10) (.neg (.var 13)))))
    .nil)
    (.cons (.asg 15 (.bin .sub (.bin .shl (.var 10) (.neg (.var 13))) (.var 6)))
    .nil))
    (.cons (.ite (.cmp .ge (.var 15) (.litI 0))
    (.cons (.asg 5 (.litI 0))
    .nil)
    (.cons (.asg 15 (.neg (.var 15)))
    (.cons (.asg 5 (.litI 1))
    .nil)))
    .nil)))
    (.cons (.asg 14 (.bitlen (.var 15)))
    (.cons (.ret (.call 5 (.cons (.var 5) (.cons (.var 15) (.cons (.var 7) (.cons (.var 14) (.cons (.or (.var 2) (.var 14)) (.cons (.var 3) .nil))))))))
    .nil))))
    .nil)
    .nil))
    .nil)
    .nil)
    (.cons (.ite (.cmp .eq (.var 5) (.var 9))
    (.cons (.asg 15 (.bin .add (.var 10) (.var 6)))
    .nil)
    (.cons (.ite (.var 5)
    (.cons (.asg 15 (.bin .sub (.var 10) (.var 6)))
    .nil)
    (.cons (.asg 15 (.bin .sub (.var 6) (.var 10)))
    .nil))
    (.cons (.ite (.cmp .ge (.var 15) (.litI 0))
    (.cons (.asg 5 (.litI 0))
    .nil)
    (.cons (.asg 15 (.neg (.var 15)))
    (.cons (.asg 5 (.litI 1))
    .nil)))
    .nil)))
    (.cons (.asg 14 (.bitlen (.var 15)))
    (.cons (.ret (.call 5 (.cons (.var 5) (.cons (.var 15) (.cons (.var 11) (.cons (.var 14) (.cons (.or (.var 2) (.var 14)) (.cons (.var 3) .nil))))))))
    .nil)))))
    .nil)
    (.cons (.ite (.var 4)
    (.cons (.asg 1 (.call 10 (.cons (.var 1) .nil)))
    .nil)
    .nil)
    (.cons (.ite (.not (.var 6))
    (.cons (.ite (.var 7)
    (.cons (.ite (.or (.cmp .eq (.var 0) (.var 1)) (.or (.var 10) (.not (.var 11))))
    (.cons (.ret (.var 0))
    .nil)
    .nil)
    (.cons (.ret (.glob 4))
    .nil))
    .nil)
    (.cons (.ite (.var 10)
    (.cons (.ret (.call 5 (.cons (.var 9) (.cons (.var 10) (.cons (.var 11) (.cons (.var 12) (.cons (.or (.var 2) (.var 12)) (.cons (.var 3) .nil))))))))
    .nil)
    .nil)
    (.cons (.ret (.var 1))
    .nil)))
    .nil)
    (.cons (.ite (.var 11)
    (.cons (.ret (.var 1))
    .nil)
    .nil)
    (.cons (.ite (.var 6)
    (.cons (.ret (.call 5 (.cons (.var 5) (.cons (.var 6) (.cons (.var 7) (.cons (.var 8) (.cons (.or (.var 2) (.var 8)) (.cons (.var 3) .nil))))))))
    .nil)
    .nil)
    (.cons (.ret (.var 0))
    .nil))))))))) }
/-- 0 s, 1 t, 2 prec, 3 rnd -/
def bmpf_sub : FB := { xs := [(nm "s"), (nm "t"), (nm "prec"), (nm "rnd")], np := 4, dfl := [.int 0, .str (nm "d")], ks := [2, 4], body :=
    (.cons (.ret (.call 13 (.cons (.var 0) (.cons (.var 1) (.cons (.var 2) (.cons (.var 3) (.cons (.litI 1) .nil)))))))
    .nil) }
/-- 0 s, 1 t, 2 prec, 3 rnd, 4 ssign, 5 sman, 6 sexp, 7 sbc, 8 tsign, 9 tman, 10 texp, 11 tbc, 12 sign, 13 man, 14 s_special, 15 t_special, 16 bc -/
def bmpf_mul : FB := { xs := [(nm "s"), (nm "t"), (nm "prec"), (nm "rnd"), (nm "ssign"), (nm "sman"), (nm "sexp"), (nm "sbc"), (nm "tsign"), (nm "tman"), (nm "texp"), (nm "tbc"), (nm "sign"), (nm "man"), (nm "s_special"), (nm "t_special"), (nm "bc")], np := 4, dfl := [.int 0, .str (nm "d")], ks := [2], body :=
    (.cons (.asgT [4, 5, 6, 7] false (.var 0))
    (.cons (.asgT [8, 9, 10, 11] false (.var 1))
    (.cons (.asg 12 (.bin .bxor (.var 4) (.var 8)))
    (.cons (.asg 13 (.bin .mul (.var 5) (.var 9)))
    (.cons (.ite (.var 13)
    (.cons (.asg 16 (.bitlen (.var 13)))
    (.cons (.ite (.var 2)
    (.cons (.ret (.call 5 (.cons (.var 12) (.cons (.var 13) (.cons (.bin .add (.var 6) (.var 10)) (.cons (.var 16) (.cons (.var 2) (.cons (.var 3) .nil))))))))
    .nil)
    (.cons (.ret (.tup (.cons (.var 12) (.cons (.var 13) (.cons (.bin .add (.var 6) (.var 10)) (.cons (.var 16) .nil))))))
    .nil))
    .nil))
    .nil)
    (.cons (.asg 14 (.and (.not (.var 5)) (.var 6)))
    (.cons (.asg 15 (.and (.not (.var 9)) (.var 10)))
    (.cons (.ite (.and (.not (.var 14)) (.not (.var 15)))
    (.cons (.ret (.glob 3))
    .nil)
    .nil)
    (.cons (.ite (.cmp .isin (.glob 4) (.tup (.cons (.var 0) (.cons (.var 1) .nil))))
    (.cons (.ret (.glob 4))
    .nil)
    .nil)
    (.cons (.ite (.and (.not (.var 9)) (.var 10))
    (.cons (.asgT [0, 1] true (.tup (.cons (.var 1) (.cons (.var 0) .nil))))
    .nil)
    .nil)
    (.cons (.ite (.cmp .eq (.var 1) (.glob 3))
    (.cons (.ret (.glob 4))
    .nil)
    .nil)
    (.cons (.ret .bad)
    .nil)))))))))))) }
/-- 0 s, 1 n, 2 sign, 3 man, 4 exp, 5 bc -/
def bmpf_shift : FB := { xs := [(nm "s"), (nm "n"), (nm "sign"), (nm "man"), (nm "exp"), (nm "bc")], np := 2, dfl := [], ks := [2], body :=
    (.cons (.asgT [2, 3, 4, 5] false (.var 0))
    (.cons (.ite (.not (.var 3))
    (.cons (.ret (.var 0))
    .nil)
    .nil)
    (.cons (.ret (.tup (.cons (.var 2) (.cons (.var 3) (.cons (.bin .add (.var 4) (.var 1)) (.cons (.var 5) .nil))))))
    .nil))) }
/-- 0 s, 1 t, 2 prec, 3 rnd, 4 ssign, 5 sman, 6 sexp, 7 sbc, 8 tsign, 9 tman, 10 texp, 11 tbc, 12 sign, 13 quot, 14 rem, 15 bc, 16 s_special, 17 t_special, 18 extra -/
def bmpf_div : FB := { xs := [(nm "s"), (nm "t"), (nm "prec"), (nm "rnd"), (nm "ssign"), (nm "sman"), (nm "sexp"), (nm "sbc"), (nm "tsign"), (nm "tman"), (nm "texp"), (nm "tbc"), (nm "sign"), (nm "quot"), (nm "rem"), (nm "bc"), (nm "s_special"), (nm "t_special"), (nm "extra")], np := 4, dfl := [.str (nm "d")], ks := [4], body :=
    (.cons (.asgT [4, 5, 6, 7] false (.var 0))
    (.cons (.asgT [8, 9, 10, 11] false (.var 1))
    (.cons (.ite (.or (.not (.var 5)) (.not (.var 9)))
    (.cons (.ite (.cmp .eq (.var 0) (.glob 3))
    (.cons (.ite (.cmp .eq (.var 1) (.glob 3))
    (.cons .bad
    .nil)
    .nil)
    (.cons (.ite (.cmp .eq (.var 1) (.glob 4))
    (.cons (.ret (.glob 4))
    .nil)
    .nil)
    (.cons (.ret (.glob 3))
    .nil)))
    .nil)
    (.cons (.ite (.cmp .eq (.var 1) (.glob 3))
    (.cons .bad
    .nil)
    .nil)
    (.cons (.asg 16 (.and (.not (.var 5)) (.var 6)))
    (.cons (.asg 17 (.and (.not (.var 9)) (.var 10)))
    (.cons (.ite (.and (.var 16) (.var 17))
    (.cons (.ret (.glob 4))
    .nil)
    .nil)
    (.cons (.ite (.or (.cmp .eq (.var 0) (.glob 4)) (.cmp .eq (.var 1) (.glob 4)))
    (.cons (.ret (.glob 4))
    .nil)
    .nil)
    (.cons (.ite (.not (.var 17))
    (.cons (.ite (.cmp .eq (.var 1) (.glob 3))
    (.cons (.ret (.glob 4))
    .nil)
    .nil)
    (.cons (.ret .bad)
    .nil))
    .nil)
    (.cons (.ret (.glob 3))
    .nil))))))))
    .nil)
    (.cons (.asg 12 (.bin .bxor (.var 4) (.var 8)))
    (.cons (.ite (.cmp .eq (.var 9) (.litI 1))
    (.cons (.ret (.call 5 (.cons (.var 12) (.cons (.var 5) (.cons (.bin .sub (.var 6) (.var 10)) (.cons (.var 7) (.cons (.var 2) (.cons (.var 3) .nil))))))))
    .nil)
    .nil)
    (.cons (.ite (.not (.var 2))
    (.cons (.asg 18 (.bin .add (.bin .add (.bin .sub (.max (.var 7) (.var 11)) (.var 7)) (.var 11)) (.litI 5)))
    .nil)
    (.cons (.asg 18 (.bin .add (.bin .add (.bin .sub (.var 2) (.var 7)) (.var 11)) (.litI 5)))
    .nil))
    (.cons (.ite (.cmp .lt (.var 18) (.litI 5))
    (.cons (.asg 18 (.litI 5))
    .nil)
    .nil)
    (.cons (.asgT [13, 14] false (.divmod (.bin .shl (.var 5) (.var 18)) (.var 9)))
    (.cons (.ite (.var 14)
    (.cons (.asg 13 (.bin .add (.bin .shl (.var 13) (.litI 1)) (.litI 1)))
    (.cons (.aug 18 .iadd (.litI 1))
    .nil))
    .nil)
    (.cons (.asg 15 (.bitlen (.var 13)))
    (.cons (.ret (.call 5 (.cons (.var 12) (.cons (.var 13) (.cons (.bin .sub (.bin .sub (.var 6) (.var 10)) (.var 18)) (.cons (.var 15) (.cons (.or (.var 2) (.var 15)) (.cons (.var 3) .nil))))))))
    .nil))))))))))) }
/-- 0 s, 1 prec, 2 rnd, 3 sign, 4 man, 5 exp, 6 bc, 7 shift, 8 rem -/
def bmpf_sqrt : FB := { xs := [(nm "s"), (nm "prec"), (nm "rnd"), (nm "sign"), (nm "man"), (nm "exp"), (nm "bc"), (nm "shift"), (nm "rem")], np := 3, dfl := [.str (nm "d")], ks := [3], body :=
    (.cons (.asgT [3, 4, 5, 6] false (.var 0))
    (.cons (.ite (.var 3)
    (.cons .bad
    .nil)
    .nil)
    (.cons (.ite (.not (.var 4))
    (.cons (.ret (.var 0))
    .nil)
    .nil)
    (.cons (.ite (.bin .band (.var 5) (.litI 1))
    (.cons (.aug 5 .isub (.litI 1))
    (.cons (.aug 4 .ishl (.litI 1))
    (.cons (.aug 6 .iadd (.litI 1))
    .nil)))
    (.cons (.ite (.cmp .eq (.var 4) (.litI 1))
    (.cons (.ret (.call 5 (.cons (.var 3) (.cons (.var 4) (.cons (.bin .div (.var 5) (.litI 2)) (.cons (.var 6) (.cons (.var 1) (.cons (.var 2) .nil))))))))
    .nil)
    .nil)
    .nil))
    (.cons (.asg 7 (.max (.litI 4) (.bin .add (.bin .sub (.bin .mul (.litI 2) (.var 1)) (.var 6)) (.litI 4))))
    (.cons (.aug 7 .iadd (.bin .band (.var 7) (.litI 1)))
    (.cons (.ite (.cmp .isin (.var 2) (.litS (nm "fd")))
    (.cons (.asg 4 (.call 3 (.cons (.bin .shl (.var 4) (.var 7)) .nil)))
    .nil)
    (.cons (.asgT [4, 8] false (.call 2 (.cons (.bin .shl (.var 4) (.var 7)) .nil)))
    (.cons (.ite (.var 8)
    (.cons (.asg 4 (.bin .add (.bin .shl (.var 4) (.litI 1)) (.litI 1)))
    (.cons (.aug 7 .iadd (.litI 2))
    .nil))
    .nil)
    .nil)))
    (.cons (.ret (.call 6 (.cons (.var 4) (.cons (.bin .div (.bin .sub (.var 5) (.var 7)) (.litI 2)) (.cons (.var 1) (.cons (.var 2) .nil))))))
    .nil)))))))) }
/-- 0 script, 1 k, 2 n -/
def blaw_mixed : FB := { xs := [(nm "script"), (nm "k"), (nm "n")], np := 2, dfl := [], ks := [2], body :=
    (.cons (.asg 2 (.ite (.cmp .lt (.var 1) (.len (.var 0))) (.idxL (.var 0) (.var 1)) (.litI 0)))
    (.cons (.ite (.cmp .ge (.var 2) (.bin .pow (.litI 2) (.litI 64)))
    (.cons (.ret (.var 2))
    .nil)
    .nil)
    (.cons (.ret (.bin .mod (.bin .add (.bin .mul (.var 2) (.litI 6364136223846793005)) (.bin .mul (.bin .add (.var 1) (.litI 1)) (.litI 1442695040888963407))) (.bin .pow (.litI 2) (.litI 190))))
    .nil))) }
/-- 0 rich, 1 bits, 2 spread, 3 kind, 4 e, 5 m, 6 man -/
def blaw_raw : FB := { xs := [(nm "rich"), (nm "bits"), (nm "spread"), (nm "kind"), (nm "e"), (nm "m"), (nm "man")], np := 3, dfl := [], ks := [3], body :=
    (.cons (.asgT [3, 4, 5] true (.tup (.cons (.bin .mod (.bin .div (.var 0) (.litI 2)) (.litI 8)) (.cons (.bin .sub (.bin .mod (.bin .div (.var 0) (.litI 16)) (.bin .add (.bin .mul (.litI 2) (.var 2)) (.litI 1))) (.var 2)) (.cons (.bin .div (.var 0) (.bin .pow (.litI 2) (.litI 16))) .nil)))))
    (.cons (.ite (.cmp .eq (.var 3) (.litI 0))
    (.cons (.ret (.tup (.cons (.litI 0) (.cons (.litI 0) (.cons (.litI 0) (.cons (.litI 0) .nil))))))
    .nil)
    .nil)
    (.cons (.asg 6 (.bin .add (.bin .mul (.bin .div (.bin .mod (.var 5) (.bin .pow (.litI 2) (.bin .add (.litI 1) (.bin .mod (.var 5) (.var 1))))) (.litI 2)) (.litI 2)) (.litI 1)))
    (.cons (.ite (.cmp .eq (.var 3) (.litI 1))
    (.cons (.asg 6 (.litI 1))
    .nil)
    (.cons (.ite (.cmp .eq (.var 3) (.litI 2))
    (.cons (.asg 6 (.bin .sub (.bin .pow (.litI 2) (.bin .add (.litI 1) (.bin .mod (.var 5) (.var 1)))) (.litI 1)))
    .nil)
    (.cons (.ite (.and (.cmp .eq (.var 3) (.litI 3)) (.cmp .gt (.var 1) (.litI 1)))
    (.cons (.asg 6 (.bin .add (.bin .pow (.litI 2) (.bin .add (.litI 1) (.bin .mod (.var 5) (.bin .sub (.var 1) (.litI 1))))) (.litI 1)))
    .nil)
    .nil)
    .nil))
    .nil))
    (.cons (.ret (.tup (.cons (.bin .mod (.var 0) (.litI 2)) (.cons (.var 6) (.cons (.var 4) (.cons (.bitlen (.var 6)) .nil))))))
    .nil))))) }
/-- 0 rich, 1 s -/
def blaw_above : FB := { xs := [(nm "rich"), (nm "s")], np := 1, dfl := [], ks := [1], body :=
    (.cons (.asg 1 (.call 20 (.cons (.var 0) (.cons (.litI 30) (.cons (.litI 30) .nil)))))
    (.cons (.ret (.ite (.cmp .gt (.idx (.var 1) (.litI 1)) (.litI 0)) (.call 11 (.cons (.var 1) .nil)) (.tup (.cons (.litI 0) (.cons (.litI 5) (.cons (.neg (.litI 1)) (.cons (.litI 3) .nil)))))))
    .nil)) }
/-- 0 low, 1 high, 2 prec -/
def blaw_near : FB := { xs := [(nm "low"), (nm "high"), (nm "prec")], np := 3, dfl := [], ks := [3], body :=
    (.cons (.ret (.and (.call 8 (.cons (.var 0) (.cons (.var 1) .nil))) (.call 8 (.cons (.call 16 (.cons (.call 14 (.cons (.var 1) (.cons (.var 0) .nil))) (.cons (.bin .sub (.var 2) (.litI 1)) .nil))) (.cons (.var 1) .nil)))))
    .nil) }
/-- 0 a, 1 b, 2 prec, 3 product, 4 total, 5 squares, 6 rnd, 7 middle, 8 half, 9 down, 10 up, 11 low, 12 high, 13 means -/
def blaw_order_right : FB := { xs := [(nm "a"), (nm "b"), (nm "prec"), (nm "product"), (nm "total"), (nm "squares"), (nm "rnd"), (nm "middle"), (nm "half"), (nm "down"), (nm "up"), (nm "low"), (nm "high"), (nm "means")], np := 3, dfl := [], ks := [3], body :=
    (.cons (.asgT [3, 4] false (.tup (.cons (.call 15 (.cons (.var 0) (.cons (.var 1) .nil))) (.cons (.call 13 (.cons (.var 0) (.cons (.var 1) .nil))) .nil))))
    (.cons (.asg 5 (.call 13 (.cons (.call 15 (.cons (.var 0) (.cons (.var 0) .nil))) (.cons (.call 15 (.cons (.var 1) (.cons (.var 1) .nil))) .nil))))
    (.cons (.forr 6 (.chars (nm "nfcdu")) (.grow 13 (.cons (.call 17 (.cons (.call 16 (.cons (.var 3) (.cons (.litI 1) .nil))) (.cons (.var 4) (.cons (.var 2) (.cons (.var 6) .nil))))) (.cons (.call 18 (.cons (.var 3) (.cons (.var 2) (.cons (.var 6) .nil)))) .nil)) (.cons (.call 9 (.cons (.call 16 (.cons (.var 4) (.cons (.neg (.litI 1)) .nil))) (.cons (.var 2) (.cons (.var 6) .nil)))) (.cons (.call 18 (.cons (.call 16 (.cons (.var 5) (.cons (.neg (.litI 1)) .nil))) (.cons (.var 2) (.cons (.var 6) .nil)))) .nil)) (.cons (.ite (.not (.all (.comp (nm "k") [(nm "means")] [13] (.rng 3) (.call 8 (.cons (.idxL (.var 1) (.var 0)) (.cons (.idxL (.var 1) (.bin .add (.var 0) (.litI 1))) .nil))))))
    (.cons (.ret (.litB false))
    .nil)
    .nil)
    (.cons (.ite (.and (.cmp .eq (.var 0) (.var 1)) (.cmp .ne (.var 13) (.rep (.cons (.call 9 (.cons (.var 0) (.cons (.var 2) (.cons (.var 6) .nil)))) .nil) 4)))
    (.cons (.ret (.litB false))
    .nil)
    .nil)
    .nil))))
    (.cons (.asgT [7, 8] true (.tup (.cons (.call 16 (.cons (.var 4) (.cons (.neg (.litI 1)) .nil))) (.cons (.call 16 (.cons (.call 14 (.cons (.var 0) (.cons (.var 1) .nil))) (.cons (.neg (.litI 1)) .nil))) .nil))))
    (.cons (.ite (.cmp .ne (.call 14 (.cons (.call 15 (.cons (.var 7) (.cons (.var 7) .nil))) (.cons (.var 3) .nil))) (.call 15 (.cons (.var 8) (.cons (.var 8) .nil))))
    (.cons (.ret (.litB false))
    .nil)
    .nil)
    (.cons (.asgT [9, 10] false (.comp (nm "rnd") [(nm "total"), (nm "prec"), (nm "product")] [4, 2, 3] (.chars (nm "du")) (.call 15 (.cons (.call 17 (.cons (.call 16 (.cons (.var 3) (.cons (.litI 1) .nil))) (.cons (.var 1) (.cons (.var 2) (.cons (.var 0) .nil))))) (.cons (.var 1) .nil)))))
    (.cons (.ite (.or (.not (.call 8 (.cons (.var 9) (.cons (.call 16 (.cons (.var 3) (.cons (.litI 1) .nil))) .nil)))) (.not (.call 8 (.cons (.call 16 (.cons (.var 3) (.cons (.litI 1) .nil))) (.cons (.var 10) .nil)))))
    (.cons (.ret (.litB false))
    .nil)
    .nil)
    (.cons (.asgT [11, 12] false (.comp (nm "rnd") [(nm "product"), (nm "prec")] [3, 2] (.chars (nm "du")) (.call 18 (.cons (.var 1) (.cons (.var 2) (.cons (.var 0) .nil))))))
    (.cons (.ret (.and (.call 8 (.cons (.call 15 (.cons (.var 11) (.cons (.var 11) .nil))) (.cons (.var 3) .nil))) (.and (.call 8 (.cons (.var 3) (.cons (.call 15 (.cons (.var 12) (.cons (.var 12) .nil))) .nil))) (.call 22 (.cons (.var 11) (.cons (.var 12) (.cons (.var 2) .nil)))))))
    .nil))))))))) }
/-- 0 a, 1 b, 2 prec, 3 low, 4 high, 5 k, 6 less, 7 more -/
def blaw_meeting_right : FB := { xs := [(nm "a"), (nm "b"), (nm "prec"), (nm "low"), (nm "high"), (nm "k"), (nm "less"), (nm "more")], np := 3, dfl := [], ks := [3], body :=
    (.cons (.asgT [3, 4] false (.ite (.call 8 (.cons (.var 0) (.cons (.var 1) .nil))) (.tup (.cons (.var 0) (.cons (.var 1) .nil))) (.tup (.cons (.var 1) (.cons (.var 0) .nil)))))
    (.cons (.forr 5 (.rng 14) (.cons (.asgT [6, 7] true (.tup (.cons (.call 18 (.cons (.call 15 (.cons (.var 3) (.cons (.var 4) .nil))) (.cons (.var 2) (.cons (.litS (nm "d")) .nil)))) (.cons (.call 9 (.cons (.call 16 (.cons (.call 13 (.cons (.var 3) (.cons (.var 4) .nil))) (.cons (.neg (.litI 1)) .nil))) (.cons (.var 2) (.cons (.litS (nm "u")) .nil)))) .nil))))
    (.cons (.ite (.or (.not (.call 8 (.cons (.var 3) (.cons (.var 6) .nil)))) (.or (.not (.call 8 (.cons (.var 6) (.cons (.var 7) .nil)))) (.not (.call 8 (.cons (.var 7) (.cons (.var 4) .nil))))))
    (.cons (.ret (.litB false))
    .nil)
    .nil)
    (.cons (.asgT [3, 4] true (.tup (.cons (.var 6) (.cons (.var 7) .nil))))
    .nil))))
    (.cons (.ret (.call 22 (.cons (.var 3) (.cons (.var 4) (.cons (.var 2) .nil)))))
    .nil))) }
/-- 0 s, 1 prec, 2 due, 3 top, 4 x, 5 k, 6 more -/
def blaw_root_right : FB := { xs := [(nm "s"), (nm "prec"), (nm "due"), (nm "top"), (nm "x"), (nm "k"), (nm "more")], np := 2, dfl := [], ks := [2], body :=
    (.cons (.asgT [2, 3] true (.tup (.cons (.call 18 (.cons (.var 0) (.cons (.var 1) (.cons (.litS (nm "u")) .nil)))) (.cons (.bin .add (.idx (.var 0) (.litI 2)) (.idx (.var 0) (.litI 3))) .nil))))
    (.cons (.asg 4 (.call 16 (.cons (.tup (.cons (.litI 0) (.cons (.litI 1) (.cons (.litI 0) (.cons (.litI 1) .nil))))) (.cons (.bin .div (.bin .add (.var 3) (.litI 1)) (.litI 2)) .nil))))
    (.cons (.forr 5 (.rng 10) (.cons (.asg 6 (.call 9 (.cons (.call 16 (.cons (.call 13 (.cons (.var 4) (.cons (.call 17 (.cons (.var 0) (.cons (.var 4) (.cons (.bin .add (.var 1) (.litI 10)) (.cons (.litS (nm "u")) .nil))))) .nil))) (.cons (.neg (.litI 1)) .nil))) (.cons (.var 1) (.cons (.litS (nm "u")) .nil)))))
    (.cons (.ite (.or (.not (.call 8 (.cons (.var 2) (.cons (.var 6) .nil)))) (.not (.call 8 (.cons (.var 6) (.cons (.var 4) .nil)))))
    (.cons (.ret (.litB false))
    .nil)
    .nil)
    (.cons (.asg 4 (.var 6))
    .nil))))
    (.cons (.ret (.call 22 (.cons (.var 2) (.cons (.var 4) (.cons (.var 1) .nil)))))
    .nil)))) }
/-- 0 script, 1 first, 2 a, 3 b, 4 prec -/
def blaw : FB := { xs := [(nm "script"), (nm "first"), (nm "a"), (nm "b"), (nm "prec")], np := 1, dfl := [], ks := [1], body :=
    (.cons (.asg 1 (.call 19 (.cons (.var 0) (.cons (.litI 0) .nil))))
    (.cons (.asgT [2, 3] true (.tup (.cons (.call 21 (.cons (.call 19 (.cons (.var 0) (.cons (.litI 1) .nil))) .nil)) (.cons (.call 21 (.cons (.call 19 (.cons (.var 0) (.cons (.litI 2) .nil))) .nil)) .nil))))
    (.cons (.asg 4 (.bin .add (.litI 30) (.bin .mod (.var 1) (.litI 60))))
    (.cons (.ite (.cmp .eq (.bin .mod (.bin .div (.var 1) (.litI 60)) (.litI 5)) (.litI 0))
    (.cons (.asg 3 (.var 2))
    .nil)
    .nil)
    (.cons (.ite (.cmp .eq (.bin .mod (.bin .div (.var 1) (.litI 60)) (.litI 5)) (.litI 1))
    (.cons (.asg 3 (.call 9 (.cons (.call 13 (.cons (.var 2) (.cons (.tup (.cons (.litI 0) (.cons (.litI 1) (.cons (.idx (.var 2) (.litI 2)) (.cons (.litI 1) .nil))))) .nil))) (.cons (.litI 30) (.cons (.litS (nm "u")) .nil)))))
    .nil)
    .nil)
    (.cons (.ret (.and (.call 23 (.cons (.var 2) (.cons (.var 3) (.cons (.var 4) .nil)))) (.and (.call 24 (.cons (.var 2) (.cons (.var 3) (.cons (.var 4) .nil)))) (.and (.call 25 (.cons (.var 2) (.cons (.var 4) .nil))) (.call 25 (.cons (.call 15 (.cons (.var 3) (.cons (.var 3) .nil))) (.cons (.var 4) .nil)))))))
    .nil)))))) }
def fbs : List FB := [btrailing, bisqrt_small, bsqrtrem, bisqrt, bnormalize0, bnormalize, bfrom_man_exp, bmpf_cmp, bmpf_le, bmpf_pos, bmpf_neg, bmpf_abs, bmpf_sign, bmpf_add, bmpf_sub, bmpf_mul, bmpf_shift, bmpf_div, bmpf_sqrt, blaw_mixed, blaw_raw, blaw_above, blaw_near, blaw_order_right, blaw_meeting_right, blaw_root_right, blaw]
/-- shifts_down -/
def sd (s : Str) : Option PyData := if s = nm "f" then some (.tuple [.int 1, .int 0]) else if s = nm "c" then some (.tuple [.int 0, .int 1]) else if s = nm "d" then some (.tuple [.int 1, .int 1]) else if s = nm "u" then some (.tuple [.int 0, .int 0]) else none
end Mine
end
-- part AJR
section
open PySem PySem.W PyProof.Rows
set_option maxRecDepth 100000
set_option linter.unusedSimpArgs false
namespace Mine
def fdLook (K : Frag) (fd : FuncData) (fb : FB) : Bool := codeIn K fd.code fd.qualname && decide (fd.globals = mainGlobals) && decide (fd.builtins = builtinsNs) && fd.closure.isEmpty && !fd.scope.isCoroutine && !fd.scope.isGenerator && fd.scope.kind == .function
    && decide fb.xs.Nodup && scopeOk fb fd.scope.names && (match fd.body with
      | .stmts b => chkB gs fns (fun y => fd.scope.names.lookup y) fb.xs fb.body b
      | _ => false)
theorem fnOK_of {K : Frag} {a : Addr} {fb : FB} {oc : Value} {od : Option Addr} {osl : Array (Option Value)} {fd : FuncData} (h : K.lookup a = some ⟨oc, od, .func fd, osl⟩) (hl : fdLook K fd fb = true)
    (hb : ∀ ds full vs (s : Shared), fill fb ds = some full → K.In s.heap → Reps s.heap vs ds → ∃ ws, BindsTo s fd ⟨vs, []⟩ ((fb.xs.take fb.np).zip ws) ∧ Reps s.heap ws full ∧ full.length = fb.np) : ∃ fb' fd body, some fb = some fb' ∧ FnOK K gs fns a fb' fd body := by
  unfold fdLook at hl
  simp only [Bool.and_eq_true, decide_eq_true_eq, Bool.not_eq_true', beq_iff_eq, List.isEmpty_iff] at hl
  obtain ⟨⟨⟨⟨⟨⟨⟨⟨⟨h1, h2⟩, h3⟩, h4⟩, h5⟩, h6⟩, h7⟩, h8⟩, h9⟩, h10⟩ := hl
  split at h10
  · rename_i b hbd
    exact ⟨fb, fd, b, rfl, ⟨⟨_, _, _, h⟩, h1, h2, h3, h4, hbd, h5, h6, h7, h8, h9, h10, hb⟩⟩
  · cases h10
theorem reps1 {h : Heap} {vs : List Value} {ds : List PyData} (r : Reps h vs ds) (e : ds.length = 1) : ∃ v1 d1, vs = [v1] ∧ ds = [d1] ∧ Rep h v1 d1 := by
  match ds, e with
  | [d1], _ =>
    obtain ⟨v1, vs, rfl, r1, r⟩ := r.inv_cons
    rw [r.inv_nil]
    exact ⟨v1, d1, rfl, rfl, r1⟩
theorem repsS {h : Heap} {vs : List Value} {ds : List PyData} {n : Nat} (r : Reps h vs ds) (e : ds.length = n + 1) : ∃ v vs' d ds', vs = v :: vs' ∧ ds = d :: ds' ∧ Rep h v d ∧ Reps h vs' ds' ∧ ds'.length = n := by
  match ds, e with
  | d :: ds, e =>
    obtain ⟨v, vs', rfl, r1, r⟩ := r.inv_cons
    exact ⟨v, vs', d, ds, rfl, rfl, r1, r, by simpa using e⟩
theorem reps0 {h : Heap} {vs : List Value} {ds : List PyData} (r : Reps h vs ds) (e : ds.length = 0) : vs = [] ∧ ds = [] := by
  have := List.eq_nil_of_length_eq_zero e
  subst this
  exact ⟨r.inv_nil, rfl⟩
set_option maxHeartbeats 0 in
theorem ftrailing (P : Params) (_x : PySem.Challenge.rw_aj5005_01 = PySem.Challenge.rw_aj5005_01) : ∃ fb fd body, fbs[0]? = some fb ∧ FnOK (hd.heap_39 P) gs fns 21 fb fd body := by
  revert _x
  k_fill
  intro _
  refine fnOK_of (fb := btrailing) (by k_is) (by kernel_rfl) ?_
  intro ds full vs s hf X hv
  obtain ⟨h1, rfl⟩ := guardO_some hf
  simp only [btrailing, Bool.and_eq_true, List.contains_cons, List.contains_nil, Bool.or_false, Bool.or_eq_true, beq_iff_eq, Bool.false_eq_true, false_and] at h1
  have e := h1.1.1
  obtain ⟨v1, vs, d1, ds, rfl, rfl, r1, hv, e⟩ := repsS hv e
  obtain ⟨rfl, rfl⟩ := reps0 hv e
  exact ⟨[v1], BindsTo.of_eq rfl, (.cons r1 .nil), rfl⟩
set_option maxHeartbeats 0 in
theorem fisqrt_small (P : Params) (_x : PySem.Challenge.rw_aj5005_01 = PySem.Challenge.rw_aj5005_01) : ∃ fb fd body, fbs[1]? = some fb ∧ FnOK (hd.heap_39 P) gs fns 28 fb fd body := by
  revert _x
  k_fill
  intro _
  refine fnOK_of (fb := bisqrt_small) (by k_is) (by kernel_rfl) ?_
  intro ds full vs s hf X hv
  obtain ⟨h1, rfl⟩ := guardO_some hf
  simp only [bisqrt_small, Bool.and_eq_true, List.contains_cons, List.contains_nil, Bool.or_false, Bool.or_eq_true, beq_iff_eq, Bool.false_eq_true, false_and] at h1
  have e := h1.1.1
  obtain ⟨v1, vs, d1, ds, rfl, rfl, r1, hv, e⟩ := repsS hv e
  obtain ⟨rfl, rfl⟩ := reps0 hv e
  exact ⟨[v1], BindsTo.of_eq rfl, (.cons r1 .nil), rfl⟩
set_option maxHeartbeats 0 in
theorem fsqrtrem (P : Params) (_x : PySem.Challenge.rw_aj5005_01 = PySem.Challenge.rw_aj5005_01) : ∃ fb fd body, fbs[2]? = some fb ∧ FnOK (hd.heap_39 P) gs fns 35 fb fd body := by
  revert _x
  k_fill
  intro _
  refine fnOK_of (fb := bsqrtrem) (by k_is) (by kernel_rfl) ?_
  intro ds full vs s hf X hv
  obtain ⟨h1, rfl⟩ := guardO_some hf
  simp only [bsqrtrem, Bool.and_eq_true, List.contains_cons, List.contains_nil, Bool.or_false, Bool.or_eq_true, beq_iff_eq, Bool.false_eq_true, false_and] at h1
  have e := h1.1.1
  obtain ⟨v1, vs, d1, ds, rfl, rfl, r1, hv, e⟩ := repsS hv e
  obtain ⟨rfl, rfl⟩ := reps0 hv e
  exact ⟨[v1], BindsTo.of_eq rfl, (.cons r1 .nil), rfl⟩
set_option maxHeartbeats 0 in
theorem fisqrt (P : Params) (_x : PySem.Challenge.rw_aj5005_01 = PySem.Challenge.rw_aj5005_01) : ∃ fb fd body, fbs[3]? = some fb ∧ FnOK (hd.heap_39 P) gs fns 42 fb fd body := by
  revert _x
  k_fill
  intro _
  refine fnOK_of (fb := bisqrt) (by k_is) (by kernel_rfl) ?_
  intro ds full vs s hf X hv
  obtain ⟨h1, rfl⟩ := guardO_some hf
  simp only [bisqrt, Bool.and_eq_true, List.contains_cons, List.contains_nil, Bool.or_false, Bool.or_eq_true, beq_iff_eq, Bool.false_eq_true, false_and] at h1
  have e := h1.1.1
  obtain ⟨v1, vs, d1, ds, rfl, rfl, r1, hv, e⟩ := repsS hv e
  obtain ⟨rfl, rfl⟩ := reps0 hv e
  exact ⟨[v1], BindsTo.of_eq rfl, (.cons r1 .nil), rfl⟩
set_option maxHeartbeats 0 in
theorem fnormalize0 (P : Params) (_x : PySem.Challenge.rw_aj5005_01 = PySem.Challenge.rw_aj5005_01) : ∃ fb fd body, fbs[4]? = some fb ∧ FnOK (hd.heap_39 P) gs fns 71 fb fd body := by
  revert _x
  k_fill
  intro _
  refine fnOK_of (fb := bnormalize0) (by k_is) (by kernel_rfl) ?_
  intro ds full vs s hf X hv
  obtain ⟨h1, rfl⟩ := guardO_some hf
  simp only [bnormalize0, Bool.and_eq_true, List.contains_cons, List.contains_nil, Bool.or_false, Bool.or_eq_true, beq_iff_eq, Bool.false_eq_true, false_and] at h1
  have e := h1.1.1
  obtain ⟨v1, vs, d1, ds, rfl, rfl, r1, hv, e⟩ := repsS hv e
  obtain ⟨v2, vs, d2, ds, rfl, rfl, r2, hv, e⟩ := repsS hv e
  obtain ⟨v3, vs, d3, ds, rfl, rfl, r3, hv, e⟩ := repsS hv e
  obtain ⟨v4, vs, d4, ds, rfl, rfl, r4, hv, e⟩ := repsS hv e
  obtain ⟨v5, vs, d5, ds, rfl, rfl, r5, hv, e⟩ := repsS hv e
  obtain ⟨v6, vs, d6, ds, rfl, rfl, r6, hv, e⟩ := repsS hv e
  obtain ⟨rfl, rfl⟩ := reps0 hv e
  exact ⟨[v1, v2, v3, v4, v5, v6], BindsTo.of_eq rfl, (.cons r1 (.cons r2 (.cons r3 (.cons r4 (.cons r5 (.cons r6 .nil)))))), rfl⟩
set_option maxHeartbeats 0 in
theorem fnormalize (P : Params) (_x : PySem.Challenge.rw_aj5005_01 = PySem.Challenge.rw_aj5005_01) : ∃ fb fd body, fbs[5]? = some fb ∧ FnOK (hd.heap_39 P) gs fns 78 fb fd body := by
  revert _x
  k_fill
  intro _
  refine fnOK_of (fb := bnormalize) (by k_is) (by kernel_rfl) ?_
  intro ds full vs s hf X hv
  obtain ⟨h1, rfl⟩ := guardO_some hf
  simp only [bnormalize, Bool.and_eq_true, List.contains_cons, List.contains_nil, Bool.or_false, Bool.or_eq_true, beq_iff_eq, Bool.false_eq_true, false_and] at h1
  have e := h1.1.1
  obtain ⟨v1, vs, d1, ds, rfl, rfl, r1, hv, e⟩ := repsS hv e
  obtain ⟨v2, vs, d2, ds, rfl, rfl, r2, hv, e⟩ := repsS hv e
  obtain ⟨v3, vs, d3, ds, rfl, rfl, r3, hv, e⟩ := repsS hv e
  obtain ⟨v4, vs, d4, ds, rfl, rfl, r4, hv, e⟩ := repsS hv e
  obtain ⟨v5, vs, d5, ds, rfl, rfl, r5, hv, e⟩ := repsS hv e
  obtain ⟨v6, vs, d6, ds, rfl, rfl, r6, hv, e⟩ := repsS hv e
  obtain ⟨rfl, rfl⟩ := reps0 hv e
  exact ⟨[v1, v2, v3, v4, v5, v6], BindsTo.of_eq rfl, (.cons r1 (.cons r2 (.cons r3 (.cons r4 (.cons r5 (.cons r6 .nil)))))), rfl⟩
set_option maxHeartbeats 0 in
theorem ffrom_man_exp (P : Params) (_x : PySem.Challenge.rw_aj5005_01 = PySem.Challenge.rw_aj5005_01) : ∃ fb fd body, fbs[6]? = some fb ∧ FnOK (hd.heap_39 P) gs fns 86 fb fd body := by
  revert _x
  k_fill
  intro _
  refine fnOK_of (fb := bfrom_man_exp) (by k_is) (by kernel_rfl) ?_
  intro ds full vs s hf X hv
  obtain ⟨h1, rfl⟩ := guardO_some hf
  simp only [bfrom_man_exp, Bool.and_eq_true, List.contains_cons, List.contains_nil, Bool.or_false, Bool.or_eq_true, beq_iff_eq, Bool.false_eq_true, false_and] at h1
  have e := h1.1.1
  obtain ⟨v1, vs, d1, ds, rfl, rfl, r1, hv, e⟩ := repsS hv e
  obtain ⟨v2, vs, d2, ds, rfl, rfl, r2, hv, e⟩ := repsS hv e
  obtain ⟨v3, vs, d3, ds, rfl, rfl, r3, hv, e⟩ := repsS hv e
  obtain ⟨v4, vs, d4, ds, rfl, rfl, r4, hv, e⟩ := repsS hv e
  obtain ⟨rfl, rfl⟩ := reps0 hv e
  exact ⟨[v1, v2, v3, v4], binds_K X rfl (by k_is) rfl rfl rfl, (.cons r1 (.cons r2 (.cons r3 (.cons r4 .nil)))), rfl⟩
set_option maxHeartbeats 0 in
theorem fmpf_cmp (P : Params) (_x : PySem.Challenge.rw_aj5005_01 = PySem.Challenge.rw_aj5005_01) : ∃ fb fd body, fbs[7]? = some fb ∧ FnOK (hd.heap_39 P) gs fns 93 fb fd body := by
  revert _x
  k_fill
  intro _
  refine fnOK_of (fb := bmpf_cmp) (by k_is) (by kernel_rfl) ?_
  intro ds full vs s hf X hv
  obtain ⟨h1, rfl⟩ := guardO_some hf
  simp only [bmpf_cmp, Bool.and_eq_true, List.contains_cons, List.contains_nil, Bool.or_false, Bool.or_eq_true, beq_iff_eq, Bool.false_eq_true, false_and] at h1
  have e := h1.1.1
  obtain ⟨v1, vs, d1, ds, rfl, rfl, r1, hv, e⟩ := repsS hv e
  obtain ⟨v2, vs, d2, ds, rfl, rfl, r2, hv, e⟩ := repsS hv e
  obtain ⟨rfl, rfl⟩ := reps0 hv e
  exact ⟨[v1, v2], BindsTo.of_eq rfl, (.cons r1 (.cons r2 .nil)), rfl⟩
set_option maxHeartbeats 0 in
theorem fmpf_le (P : Params) (_x : PySem.Challenge.rw_aj5005_01 = PySem.Challenge.rw_aj5005_01) : ∃ fb fd body, fbs[8]? = some fb ∧ FnOK (hd.heap_39 P) gs fns 100 fb fd body := by
  revert _x
  k_fill
  intro _
  refine fnOK_of (fb := bmpf_le) (by k_is) (by kernel_rfl) ?_
  intro ds full vs s hf X hv
  obtain ⟨h1, rfl⟩ := guardO_some hf
  simp only [bmpf_le, Bool.and_eq_true, List.contains_cons, List.contains_nil, Bool.or_false, Bool.or_eq_true, beq_iff_eq, Bool.false_eq_true, false_and] at h1
  have e := h1.1.1
  obtain ⟨v1, vs, d1, ds, rfl, rfl, r1, hv, e⟩ := repsS hv e
  obtain ⟨v2, vs, d2, ds, rfl, rfl, r2, hv, e⟩ := repsS hv e
  obtain ⟨rfl, rfl⟩ := reps0 hv e
  exact ⟨[v1, v2], BindsTo.of_eq rfl, (.cons r1 (.cons r2 .nil)), rfl⟩
set_option maxHeartbeats 0 in
theorem fmpf_pos (P : Params) (_x : PySem.Challenge.rw_aj5005_01 = PySem.Challenge.rw_aj5005_01) : ∃ fb fd body, fbs[9]? = some fb ∧ FnOK (hd.heap_39 P) gs fns 108 fb fd body := by
  revert _x
  k_fill
  intro _
  refine fnOK_of (fb := bmpf_pos) (by k_is) (by kernel_rfl) ?_
  intro ds full vs s hf X hv
  obtain ⟨h1, rfl⟩ := guardO_some hf
  simp only [bmpf_pos, Bool.and_eq_true, List.contains_cons, List.contains_nil, Bool.or_false, Bool.or_eq_true, beq_iff_eq, Bool.false_eq_true, false_and] at h1
  have e := h1.1.1
  obtain ⟨v1, vs, d1, ds, rfl, rfl, r1, hv, e⟩ := repsS hv e
  obtain ⟨v2, vs, d2, ds, rfl, rfl, r2, hv, e⟩ := repsS hv e
  obtain ⟨v3, vs, d3, ds, rfl, rfl, r3, hv, e⟩ := repsS hv e
  obtain ⟨rfl, rfl⟩ := reps0 hv e
  exact ⟨[v1, v2, v3], binds_K X rfl (by k_is) rfl rfl rfl, (.cons r1 (.cons r2 (.cons r3 .nil))), rfl⟩
set_option maxHeartbeats 0 in
theorem fmpf_neg (P : Params) (_x : PySem.Challenge.rw_aj5005_01 = PySem.Challenge.rw_aj5005_01) : ∃ fb fd body, fbs[10]? = some fb ∧ FnOK (hd.heap_39 P) gs fns 116 fb fd body := by
  revert _x
  k_fill
  intro _
  refine fnOK_of (fb := bmpf_neg) (by k_is) (by kernel_rfl) ?_
  intro ds full vs s hf X hv
  obtain ⟨h1, rfl⟩ := guardO_some hf
  simp only [bmpf_neg, Bool.and_eq_true, List.contains_cons, List.contains_nil, Bool.or_false, Bool.or_eq_true, beq_iff_eq, Bool.false_eq_true, false_and] at h1
set_option maxHeartbeats 0 in
theorem fmpf_abs (P : Params) (_x : PySem.Challenge.rw_aj5005_01 = PySem.Challenge.rw_aj5005_01) : ∃ fb fd body, fbs[11]? = some fb ∧ FnOK (hd.heap_39 P) gs fns 124 fb fd body := by
  revert _x
  k_fill
  intro _
  refine fnOK_of (fb := bmpf_abs) (by k_is) (by kernel_rfl) ?_
  intro ds full vs s hf X hv
  obtain ⟨h1, rfl⟩ := guardO_some hf
  simp only [bmpf_abs, Bool.and_eq_true, List.contains_cons, List.contains_nil, Bool.or_false, Bool.or_eq_true, beq_iff_eq, Bool.false_eq_true, false_and] at h1
  have e := h1.1.1
  obtain ⟨v1, vs, d1, ds, rfl, rfl, r1, hv, e⟩ := repsS hv e
  obtain ⟨rfl, rfl⟩ := reps0 hv e
  exact ⟨[v1, _, _], binds_K X rfl (by k_is) rfl rfl rfl, (.cons r1 (.cons (.int _ _) (.cons (.str _ _) .nil))), rfl⟩
set_option maxHeartbeats 0 in
theorem fmpf_sign (P : Params) (_x : PySem.Challenge.rw_aj5005_01 = PySem.Challenge.rw_aj5005_01) : ∃ fb fd body, fbs[12]? = some fb ∧ FnOK (hd.heap_39 P) gs fns 131 fb fd body := by
  revert _x
  k_fill
  intro _
  refine fnOK_of (fb := bmpf_sign) (by k_is) (by kernel_rfl) ?_
  intro ds full vs s hf X hv
  obtain ⟨h1, rfl⟩ := guardO_some hf
  simp only [bmpf_sign, Bool.and_eq_true, List.contains_cons, List.contains_nil, Bool.or_false, Bool.or_eq_true, beq_iff_eq, Bool.false_eq_true, false_and] at h1
  have e := h1.1.1
  obtain ⟨v1, vs, d1, ds, rfl, rfl, r1, hv, e⟩ := repsS hv e
  obtain ⟨rfl, rfl⟩ := reps0 hv e
  exact ⟨[v1], BindsTo.of_eq rfl, (.cons r1 .nil), rfl⟩
set_option maxHeartbeats 0 in
theorem fmpf_add (P : Params) (_x : PySem.Challenge.rw_aj5005_01 = PySem.Challenge.rw_aj5005_01) : ∃ fb fd body, fbs[13]? = some fb ∧ FnOK (hd.heap_39 P) gs fns 139 fb fd body := by
  revert _x
  k_fill
  intro _
  refine fnOK_of (fb := bmpf_add) (by k_is) (by kernel_rfl) ?_
  intro ds full vs s hf X hv
  obtain ⟨h1, rfl⟩ := guardO_some hf
  simp only [bmpf_add, Bool.and_eq_true, List.contains_cons, List.contains_nil, Bool.or_false, Bool.or_eq_true, beq_iff_eq, Bool.false_eq_true, false_and] at h1
  rcases h1.1.1 with e | e
  · obtain ⟨v1, vs, d1, ds, rfl, rfl, r1, hv, e⟩ := repsS hv e
    obtain ⟨v2, vs, d2, ds, rfl, rfl, r2, hv, e⟩ := repsS hv e
    obtain ⟨rfl, rfl⟩ := reps0 hv e
    exact ⟨[v1, v2, _, _, _], binds_K X rfl (by k_is) rfl rfl rfl, (.cons r1 (.cons r2 (.cons (.int _ _) (.cons (.str _ _) (.cons (.int _ _) .nil))))), rfl⟩
  · obtain ⟨v1, vs, d1, ds, rfl, rfl, r1, hv, e⟩ := repsS hv e
    obtain ⟨v2, vs, d2, ds, rfl, rfl, r2, hv, e⟩ := repsS hv e
    obtain ⟨v3, vs, d3, ds, rfl, rfl, r3, hv, e⟩ := repsS hv e
    obtain ⟨v4, vs, d4, ds, rfl, rfl, r4, hv, e⟩ := repsS hv e
    obtain ⟨v5, vs, d5, ds, rfl, rfl, r5, hv, e⟩ := repsS hv e
    obtain ⟨rfl, rfl⟩ := reps0 hv e
    exact ⟨[v1, v2, v3, v4, v5], binds_K X rfl (by k_is) rfl rfl rfl, (.cons r1 (.cons r2 (.cons r3 (.cons r4 (.cons r5 .nil))))), rfl⟩
set_option maxHeartbeats 0 in
theorem fmpf_sub (P : Params) (_x : PySem.Challenge.rw_aj5005_01 = PySem.Challenge.rw_aj5005_01) : ∃ fb fd body, fbs[14]? = some fb ∧ FnOK (hd.heap_39 P) gs fns 147 fb fd body := by
  revert _x
  k_fill
  intro _
  refine fnOK_of (fb := bmpf_sub) (by k_is) (by kernel_rfl) ?_
  intro ds full vs s hf X hv
  obtain ⟨h1, rfl⟩ := guardO_some hf
  simp only [bmpf_sub, Bool.and_eq_true, List.contains_cons, List.contains_nil, Bool.or_false, Bool.or_eq_true, beq_iff_eq, Bool.false_eq_true, false_and] at h1
  rcases h1.1.1 with e | e
  · obtain ⟨v1, vs, d1, ds, rfl, rfl, r1, hv, e⟩ := repsS hv e
    obtain ⟨v2, vs, d2, ds, rfl, rfl, r2, hv, e⟩ := repsS hv e
    obtain ⟨rfl, rfl⟩ := reps0 hv e
    exact ⟨[v1, v2, _, _], binds_K X rfl (by k_is) rfl rfl rfl, (.cons r1 (.cons r2 (.cons (.int _ _) (.cons (.str _ _) .nil)))), rfl⟩
  · obtain ⟨v1, vs, d1, ds, rfl, rfl, r1, hv, e⟩ := repsS hv e
    obtain ⟨v2, vs, d2, ds, rfl, rfl, r2, hv, e⟩ := repsS hv e
    obtain ⟨v3, vs, d3, ds, rfl, rfl, r3, hv, e⟩ := repsS hv e
    obtain ⟨v4, vs, d4, ds, rfl, rfl, r4, hv, e⟩ := repsS hv e
    obtain ⟨rfl, rfl⟩ := reps0 hv e
    exact ⟨[v1, v2, v3, v4], binds_K X rfl (by k_is) rfl rfl rfl, (.cons r1 (.cons r2 (.cons r3 (.cons r4 .nil)))), rfl⟩
set_option maxHeartbeats 0 in
theorem fmpf_mul (P : Params) (_x : PySem.Challenge.rw_aj5005_01 = PySem.Challenge.rw_aj5005_01) : ∃ fb fd body, fbs[15]? = some fb ∧ FnOK (hd.heap_39 P) gs fns 155 fb fd body := by
  revert _x
  k_fill
  intro _
  refine fnOK_of (fb := bmpf_mul) (by k_is) (by kernel_rfl) ?_
  intro ds full vs s hf X hv
  obtain ⟨h1, rfl⟩ := guardO_some hf
  simp only [bmpf_mul, Bool.and_eq_true, List.contains_cons, List.contains_nil, Bool.or_false, Bool.or_eq_true, beq_iff_eq, Bool.false_eq_true, false_and] at h1
  have e := h1.1.1
  obtain ⟨v1, vs, d1, ds, rfl, rfl, r1, hv, e⟩ := repsS hv e
  obtain ⟨v2, vs, d2, ds, rfl, rfl, r2, hv, e⟩ := repsS hv e
  obtain ⟨rfl, rfl⟩ := reps0 hv e
  exact ⟨[v1, v2, _, _], binds_K X rfl (by k_is) rfl rfl rfl, (.cons r1 (.cons r2 (.cons (.int _ _) (.cons (.str _ _) .nil)))), rfl⟩
set_option maxHeartbeats 0 in
theorem fmpf_shift (P : Params) (_x : PySem.Challenge.rw_aj5005_01 = PySem.Challenge.rw_aj5005_01) : ∃ fb fd body, fbs[16]? = some fb ∧ FnOK (hd.heap_39 P) gs fns 162 fb fd body := by
  revert _x
  k_fill
  intro _
  refine fnOK_of (fb := bmpf_shift) (by k_is) (by kernel_rfl) ?_
  intro ds full vs s hf X hv
  obtain ⟨h1, rfl⟩ := guardO_some hf
  simp only [bmpf_shift, Bool.and_eq_true, List.contains_cons, List.contains_nil, Bool.or_false, Bool.or_eq_true, beq_iff_eq, Bool.false_eq_true, false_and] at h1
  have e := h1.1.1
  obtain ⟨v1, vs, d1, ds, rfl, rfl, r1, hv, e⟩ := repsS hv e
  obtain ⟨v2, vs, d2, ds, rfl, rfl, r2, hv, e⟩ := repsS hv e
  obtain ⟨rfl, rfl⟩ := reps0 hv e
  exact ⟨[v1, v2], BindsTo.of_eq rfl, (.cons r1 (.cons r2 .nil)), rfl⟩
set_option maxHeartbeats 0 in
theorem fmpf_div (P : Params) (_x : PySem.Challenge.rw_aj5005_01 = PySem.Challenge.rw_aj5005_01) : ∃ fb fd body, fbs[17]? = some fb ∧ FnOK (hd.heap_39 P) gs fns 170 fb fd body := by
  revert _x
  k_fill
  intro _
  refine fnOK_of (fb := bmpf_div) (by k_is) (by kernel_rfl) ?_
  intro ds full vs s hf X hv
  obtain ⟨h1, rfl⟩ := guardO_some hf
  simp only [bmpf_div, Bool.and_eq_true, List.contains_cons, List.contains_nil, Bool.or_false, Bool.or_eq_true, beq_iff_eq, Bool.false_eq_true, false_and] at h1
  have e := h1.1.1
  obtain ⟨v1, vs, d1, ds, rfl, rfl, r1, hv, e⟩ := repsS hv e
  obtain ⟨v2, vs, d2, ds, rfl, rfl, r2, hv, e⟩ := repsS hv e
  obtain ⟨v3, vs, d3, ds, rfl, rfl, r3, hv, e⟩ := repsS hv e
  obtain ⟨v4, vs, d4, ds, rfl, rfl, r4, hv, e⟩ := repsS hv e
  obtain ⟨rfl, rfl⟩ := reps0 hv e
  exact ⟨[v1, v2, v3, v4], binds_K X rfl (by k_is) rfl rfl rfl, (.cons r1 (.cons r2 (.cons r3 (.cons r4 .nil)))), rfl⟩
set_option maxHeartbeats 0 in
theorem fmpf_sqrt (P : Params) (_x : PySem.Challenge.rw_aj5005_01 = PySem.Challenge.rw_aj5005_01) : ∃ fb fd body, fbs[18]? = some fb ∧ FnOK (hd.heap_39 P) gs fns 178 fb fd body := by
  revert _x
  k_fill
  intro _
  refine fnOK_of (fb := bmpf_sqrt) (by k_is) (by kernel_rfl) ?_
  intro ds full vs s hf X hv
  obtain ⟨h1, rfl⟩ := guardO_some hf
  simp only [bmpf_sqrt, Bool.and_eq_true, List.contains_cons, List.contains_nil, Bool.or_false, Bool.or_eq_true, beq_iff_eq, Bool.false_eq_true, false_and] at h1
  have e := h1.1.1
  obtain ⟨v1, vs, d1, ds, rfl, rfl, r1, hv, e⟩ := repsS hv e
  obtain ⟨v2, vs, d2, ds, rfl, rfl, r2, hv, e⟩ := repsS hv e
  obtain ⟨v3, vs, d3, ds, rfl, rfl, r3, hv, e⟩ := repsS hv e
  obtain ⟨rfl, rfl⟩ := reps0 hv e
  exact ⟨[v1, v2, v3], binds_K X rfl (by k_is) rfl rfl rfl, (.cons r1 (.cons r2 (.cons r3 .nil))), rfl⟩
set_option maxHeartbeats 0 in
theorem flaw_mixed (P : Params) (_x : PySem.Challenge.rw_aj5005_01 = PySem.Challenge.rw_aj5005_01) : ∃ fb fd body, fbs[19]? = some fb ∧ FnOK (hd.heap_39 P) gs fns 185 fb fd body := by
  revert _x
  k_fill
  intro _
  refine fnOK_of (fb := blaw_mixed) (by k_is) (by kernel_rfl) ?_
  intro ds full vs s hf X hv
  obtain ⟨h1, rfl⟩ := guardO_some hf
  simp only [blaw_mixed, Bool.and_eq_true, List.contains_cons, List.contains_nil, Bool.or_false, Bool.or_eq_true, beq_iff_eq, Bool.false_eq_true, false_and] at h1
  have e := h1.1.1
  obtain ⟨v1, vs, d1, ds, rfl, rfl, r1, hv, e⟩ := repsS hv e
  obtain ⟨v2, vs, d2, ds, rfl, rfl, r2, hv, e⟩ := repsS hv e
  obtain ⟨rfl, rfl⟩ := reps0 hv e
  exact ⟨[v1, v2], BindsTo.of_eq rfl, (.cons r1 (.cons r2 .nil)), rfl⟩
set_option maxHeartbeats 0 in
theorem flaw_raw (P : Params) (_x : PySem.Challenge.rw_aj5005_01 = PySem.Challenge.rw_aj5005_01) : ∃ fb fd body, fbs[20]? = some fb ∧ FnOK (hd.heap_39 P) gs fns 192 fb fd body := by
  revert _x
  k_fill
  intro _
  refine fnOK_of (fb := blaw_raw) (by k_is) (by kernel_rfl) ?_
  intro ds full vs s hf X hv
  obtain ⟨h1, rfl⟩ := guardO_some hf
  simp only [blaw_raw, Bool.and_eq_true, List.contains_cons, List.contains_nil, Bool.or_false, Bool.or_eq_true, beq_iff_eq, Bool.false_eq_true, false_and] at h1
  have e := h1.1.1
  obtain ⟨v1, vs, d1, ds, rfl, rfl, r1, hv, e⟩ := repsS hv e
  obtain ⟨v2, vs, d2, ds, rfl, rfl, r2, hv, e⟩ := repsS hv e
  obtain ⟨v3, vs, d3, ds, rfl, rfl, r3, hv, e⟩ := repsS hv e
  obtain ⟨rfl, rfl⟩ := reps0 hv e
  exact ⟨[v1, v2, v3], BindsTo.of_eq rfl, (.cons r1 (.cons r2 (.cons r3 .nil))), rfl⟩
set_option maxHeartbeats 0 in
theorem flaw_above (P : Params) (_x : PySem.Challenge.rw_aj5005_01 = PySem.Challenge.rw_aj5005_01) : ∃ fb fd body, fbs[21]? = some fb ∧ FnOK (hd.heap_39 P) gs fns 199 fb fd body := by
  revert _x
  k_fill
  intro _
  refine fnOK_of (fb := blaw_above) (by k_is) (by kernel_rfl) ?_
  intro ds full vs s hf X hv
  obtain ⟨h1, rfl⟩ := guardO_some hf
  simp only [blaw_above, Bool.and_eq_true, List.contains_cons, List.contains_nil, Bool.or_false, Bool.or_eq_true, beq_iff_eq, Bool.false_eq_true, false_and] at h1
  have e := h1.1.1
  obtain ⟨v1, vs, d1, ds, rfl, rfl, r1, hv, e⟩ := repsS hv e
  obtain ⟨rfl, rfl⟩ := reps0 hv e
  exact ⟨[v1], BindsTo.of_eq rfl, (.cons r1 .nil), rfl⟩
set_option maxHeartbeats 0 in
theorem flaw_near (P : Params) (_x : PySem.Challenge.rw_aj5005_01 = PySem.Challenge.rw_aj5005_01) : ∃ fb fd body, fbs[22]? = some fb ∧ FnOK (hd.heap_39 P) gs fns 206 fb fd body := by
  revert _x
  k_fill
  intro _
  refine fnOK_of (fb := blaw_near) (by k_is) (by kernel_rfl) ?_
  intro ds full vs s hf X hv
  obtain ⟨h1, rfl⟩ := guardO_some hf
  simp only [blaw_near, Bool.and_eq_true, List.contains_cons, List.contains_nil, Bool.or_false, Bool.or_eq_true, beq_iff_eq, Bool.false_eq_true, false_and] at h1
  have e := h1.1.1
  obtain ⟨v1, vs, d1, ds, rfl, rfl, r1, hv, e⟩ := repsS hv e
  obtain ⟨v2, vs, d2, ds, rfl, rfl, r2, hv, e⟩ := repsS hv e
  obtain ⟨v3, vs, d3, ds, rfl, rfl, r3, hv, e⟩ := repsS hv e
  obtain ⟨rfl, rfl⟩ := reps0 hv e
  exact ⟨[v1, v2, v3], BindsTo.of_eq rfl, (.cons r1 (.cons r2 (.cons r3 .nil))), rfl⟩
set_option maxHeartbeats 0 in
theorem flaw_order_right (P : Params) (_x : PySem.Challenge.rw_aj5005_01 = PySem.Challenge.rw_aj5005_01) : ∃ fb fd body, fbs[23]? = some fb ∧ FnOK (hd.heap_39 P) gs fns 211 fb fd body := by
  revert _x
  k_fill
  intro _
  refine fnOK_of (fb := blaw_order_right) (by k_is) (by kernel_rfl) ?_
  intro ds full vs s hf X hv
  obtain ⟨h1, rfl⟩ := guardO_some hf
  simp only [blaw_order_right, Bool.and_eq_true, List.contains_cons, List.contains_nil, Bool.or_false, Bool.or_eq_true, beq_iff_eq, Bool.false_eq_true, false_and] at h1
  have e := h1.1.1
  obtain ⟨v1, vs, d1, ds, rfl, rfl, r1, hv, e⟩ := repsS hv e
  obtain ⟨v2, vs, d2, ds, rfl, rfl, r2, hv, e⟩ := repsS hv e
  obtain ⟨v3, vs, d3, ds, rfl, rfl, r3, hv, e⟩ := repsS hv e
  obtain ⟨rfl, rfl⟩ := reps0 hv e
  exact ⟨[v1, v2, v3], BindsTo.of_eq rfl, (.cons r1 (.cons r2 (.cons r3 .nil))), rfl⟩
set_option maxHeartbeats 0 in
theorem flaw_meeting_right (P : Params) (_x : PySem.Challenge.rw_aj5005_01 = PySem.Challenge.rw_aj5005_01) : ∃ fb fd body, fbs[24]? = some fb ∧ FnOK (hd.heap_39 P) gs fns 218 fb fd body := by
  revert _x
  k_fill
  intro _
  refine fnOK_of (fb := blaw_meeting_right) (by k_is) (by kernel_rfl) ?_
  intro ds full vs s hf X hv
  obtain ⟨h1, rfl⟩ := guardO_some hf
  simp only [blaw_meeting_right, Bool.and_eq_true, List.contains_cons, List.contains_nil, Bool.or_false, Bool.or_eq_true, beq_iff_eq, Bool.false_eq_true, false_and] at h1
  have e := h1.1.1
  obtain ⟨v1, vs, d1, ds, rfl, rfl, r1, hv, e⟩ := repsS hv e
  obtain ⟨v2, vs, d2, ds, rfl, rfl, r2, hv, e⟩ := repsS hv e
  obtain ⟨v3, vs, d3, ds, rfl, rfl, r3, hv, e⟩ := repsS hv e
  obtain ⟨rfl, rfl⟩ := reps0 hv e
  exact ⟨[v1, v2, v3], BindsTo.of_eq rfl, (.cons r1 (.cons r2 (.cons r3 .nil))), rfl⟩
set_option maxHeartbeats 0 in
theorem flaw_root_right (P : Params) (_x : PySem.Challenge.rw_aj5005_01 = PySem.Challenge.rw_aj5005_01) : ∃ fb fd body, fbs[25]? = some fb ∧ FnOK (hd.heap_39 P) gs fns 225 fb fd body := by
  revert _x
  k_fill
  intro _
  refine fnOK_of (fb := blaw_root_right) (by k_is) (by kernel_rfl) ?_
  intro ds full vs s hf X hv
  obtain ⟨h1, rfl⟩ := guardO_some hf
  simp only [blaw_root_right, Bool.and_eq_true, List.contains_cons, List.contains_nil, Bool.or_false, Bool.or_eq_true, beq_iff_eq, Bool.false_eq_true, false_and] at h1
  have e := h1.1.1
  obtain ⟨v1, vs, d1, ds, rfl, rfl, r1, hv, e⟩ := repsS hv e
  obtain ⟨v2, vs, d2, ds, rfl, rfl, r2, hv, e⟩ := repsS hv e
  obtain ⟨rfl, rfl⟩ := reps0 hv e
  exact ⟨[v1, v2], BindsTo.of_eq rfl, (.cons r1 (.cons r2 .nil)), rfl⟩
set_option maxHeartbeats 0 in
theorem flaw (P : Params) (_x : PySem.Challenge.rw_aj5005_01 = PySem.Challenge.rw_aj5005_01) : ∃ fb fd body, fbs[26]? = some fb ∧ FnOK (hd.heap_39 P) gs fns 232 fb fd body := by
  revert _x
  k_fill
  intro _
  refine fnOK_of (fb := blaw) (by k_is) (by kernel_rfl) ?_
  intro ds full vs s hf X hv
  obtain ⟨h1, rfl⟩ := guardO_some hf
  simp only [blaw, Bool.and_eq_true, List.contains_cons, List.contains_nil, Bool.or_false, Bool.or_eq_true, beq_iff_eq, Bool.false_eq_true, false_and] at h1
  have e := h1.1.1
  obtain ⟨v1, vs, d1, ds, rfl, rfl, r1, hv, e⟩ := repsS hv e
  obtain ⟨rfl, rfl⟩ := reps0 hv e
  exact ⟨[v1], BindsTo.of_eq rfl, (.cons r1 .nil), rfl⟩
theorem fn_all (P : Params) : ∀ (f : Nat) x a, fns[f]? = some (x, a) → ∃ fb fd body, fbs[f]? = some fb ∧ FnOK (hd.heap_39 P) gs fns a fb fd body := by
  intro f x a h
  have hf : f < 27 := by
    have := (List.getElem?_eq_some_iff.mp h).1
    simpa [fns] using this
  have key : ∀ {f : Nat} {y : Str} {b : Addr}, fns[f]? = some (y, b) → fns[f]? = some (x, a) → y = x ∧ b = a := fun e1 e2 => by
    rw [e1] at e2
    injection e2 with e3
    injection e3 with e4 e5
    exact ⟨e4, e5⟩
  match f, hf with
  | 0, _ => obtain ⟨rfl, rfl⟩ := key (f := 0) (y := nm "trailing") (b := 21) rfl h; exact ftrailing P rfl
  | 1, _ => obtain ⟨rfl, rfl⟩ := key (f := 1) (y := nm "isqrt_small") (b := 28) rfl h; exact fisqrt_small P rfl
  | 2, _ => obtain ⟨rfl, rfl⟩ := key (f := 2) (y := nm "sqrtrem") (b := 35) rfl h; exact fsqrtrem P rfl
  | 3, _ => obtain ⟨rfl, rfl⟩ := key (f := 3) (y := nm "isqrt") (b := 42) rfl h; exact fisqrt P rfl
  | 4, _ => obtain ⟨rfl, rfl⟩ := key (f := 4) (y := nm "_normalize") (b := 71) rfl h; exact fnormalize0 P rfl
  | 5, _ => obtain ⟨rfl, rfl⟩ := key (f := 5) (y := nm "normalize") (b := 78) rfl h; exact fnormalize P rfl
  | 6, _ => obtain ⟨rfl, rfl⟩ := key (f := 6) (y := nm "from_man_exp") (b := 86) rfl h; exact ffrom_man_exp P rfl
  | 7, _ => obtain ⟨rfl, rfl⟩ := key (f := 7) (y := nm "mpf_cmp") (b := 93) rfl h; exact fmpf_cmp P rfl
  | 8, _ => obtain ⟨rfl, rfl⟩ := key (f := 8) (y := nm "mpf_le") (b := 100) rfl h; exact fmpf_le P rfl
  | 9, _ => obtain ⟨rfl, rfl⟩ := key (f := 9) (y := nm "mpf_pos") (b := 108) rfl h; exact fmpf_pos P rfl
  | 10, _ => obtain ⟨rfl, rfl⟩ := key (f := 10) (y := nm "mpf_neg") (b := 116) rfl h; exact fmpf_neg P rfl
  | 11, _ => obtain ⟨rfl, rfl⟩ := key (f := 11) (y := nm "mpf_abs") (b := 124) rfl h; exact fmpf_abs P rfl
  | 12, _ => obtain ⟨rfl, rfl⟩ := key (f := 12) (y := nm "mpf_sign") (b := 131) rfl h; exact fmpf_sign P rfl
  | 13, _ => obtain ⟨rfl, rfl⟩ := key (f := 13) (y := nm "mpf_add") (b := 139) rfl h; exact fmpf_add P rfl
  | 14, _ => obtain ⟨rfl, rfl⟩ := key (f := 14) (y := nm "mpf_sub") (b := 147) rfl h; exact fmpf_sub P rfl
  | 15, _ => obtain ⟨rfl, rfl⟩ := key (f := 15) (y := nm "mpf_mul") (b := 155) rfl h; exact fmpf_mul P rfl
  | 16, _ => obtain ⟨rfl, rfl⟩ := key (f := 16) (y := nm "mpf_shift") (b := 162) rfl h; exact fmpf_shift P rfl
  | 17, _ => obtain ⟨rfl, rfl⟩ := key (f := 17) (y := nm "mpf_div") (b := 170) rfl h; exact fmpf_div P rfl
  | 18, _ => obtain ⟨rfl, rfl⟩ := key (f := 18) (y := nm "mpf_sqrt") (b := 178) rfl h; exact fmpf_sqrt P rfl
  | 19, _ => obtain ⟨rfl, rfl⟩ := key (f := 19) (y := nm "_law_mixed") (b := 185) rfl h; exact flaw_mixed P rfl
  | 20, _ => obtain ⟨rfl, rfl⟩ := key (f := 20) (y := nm "_law_raw") (b := 192) rfl h; exact flaw_raw P rfl
  | 21, _ => obtain ⟨rfl, rfl⟩ := key (f := 21) (y := nm "_law_above") (b := 199) rfl h; exact flaw_above P rfl
  | 22, _ => obtain ⟨rfl, rfl⟩ := key (f := 22) (y := nm "_law_near") (b := 206) rfl h; exact flaw_near P rfl
  | 23, _ => obtain ⟨rfl, rfl⟩ := key (f := 23) (y := nm "_law_order_right") (b := 211) rfl h; exact flaw_order_right P rfl
  | 24, _ => obtain ⟨rfl, rfl⟩ := key (f := 24) (y := nm "_law_meeting_right") (b := 218) rfl h; exact flaw_meeting_right P rfl
  | 25, _ => obtain ⟨rfl, rfl⟩ := key (f := 25) (y := nm "_law_root_right") (b := 225) rfl h; exact flaw_root_right P rfl
  | 26, _ => obtain ⟨rfl, rfl⟩ := key (f := 26) (y := nm "law") (b := 232) rfl h; exact flaw P rfl
end Mine
end
-- part AJT
section
open PySem PySem.W PyProof.Rows
set_option maxRecDepth 100000
set_option linter.unusedSimpArgs false
namespace Mine
set_option maxHeartbeats 0 in
theorem tops (P : Params) (_x : PySem.Challenge.rw_aj5005_01 = PySem.Challenge.rw_aj5005_01) : Tops (hd.heap_39 P) P gs sd fns := by
  revert _x
  k_fill
  intro _
  refine ⟨?_, ?_, by k_is, by k_is, by k_is, by k_is, by k_is, by k_is, by k_is, ?_⟩
  · intro i x d h
    have hf : i < 7 := by
      have := (List.getElem?_eq_some_iff.mp h).1
      simpa [gs] using this
    have key : ∀ {y : Str} {e : PyData}, gs[i]? = some (y, e) → y = x ∧ e = d := fun e1 => by
      rw [e1] at h
      injection h with e3
      injection e3 with e4 e5
      exact ⟨e4, e5⟩
    match i, hf with
    | 0, _ => obtain ⟨rfl, rfl⟩ := key (y := nm "MPZ_ONE") rfl; exact ⟨_, by k_is, fun h X => .int _ _⟩
    | 1, _ => obtain ⟨rfl, rfl⟩ := key (y := nm "round_nearest") rfl; exact ⟨_, by k_is, fun h X => .str _ _⟩
    | 2, _ => obtain ⟨rfl, rfl⟩ := key (y := nm "round_floor") rfl; exact ⟨_, by k_is, fun h X => .str _ _⟩
    | 3, _ => obtain ⟨rfl, rfl⟩ := key (y := nm "fzero") rfl; exact ⟨_, by k_is, fun h X => .tup0 (X _ _ (by k_is)) rfl rfl (.cons (.int _ _) (.cons (.int _ _) (.cons (.int _ _) (.cons (.int _ _) .nil))))⟩
    | 4, _ => obtain ⟨rfl, rfl⟩ := key (y := nm "fnan") rfl; exact ⟨_, by k_is, fun h X => .tup0 (X _ _ (by k_is)) rfl rfl (.cons (.int _ _) (.cons (.int _ _) (.cons (.int _ _) (.cons (.int _ _) .nil))))⟩
    | 5, _ => obtain ⟨rfl, rfl⟩ := key (y := nm "finf") rfl; exact ⟨_, by k_is, fun h X => .tup0 (X _ _ (by k_is)) rfl rfl (.cons (.int _ _) (.cons (.int _ _) (.cons (.int _ _) (.cons (.int _ _) .nil))))⟩
    | 6, _ => obtain ⟨rfl, rfl⟩ := key (y := nm "fninf") rfl; exact ⟨_, by k_is, fun h X => .tup0 (X _ _ (by k_is)) rfl rfl (.cons (.int _ _) (.cons (.int _ _) (.cons (.int _ _) (.cons (.int _ _) .nil))))⟩
  · intro i x d h
    have hf : i < 27 := by
      have := (List.getElem?_eq_some_iff.mp h).1
      simpa [fns] using this
    have key : ∀ {y : Str} {e : Addr}, fns[i]? = some (y, e) → y = x ∧ e = d := fun e1 => by
      rw [e1] at h
      injection h with e3
      injection e3 with e4 e5
      exact ⟨e4, e5⟩
    match i, hf with
    | 0, _ => obtain ⟨rfl, rfl⟩ := key (y := nm "trailing") (e := 21) rfl; exact ⟨by k_is, by k_is⟩
    | 1, _ => obtain ⟨rfl, rfl⟩ := key (y := nm "isqrt_small") (e := 28) rfl; exact ⟨by k_is, by k_is⟩
    | 2, _ => obtain ⟨rfl, rfl⟩ := key (y := nm "sqrtrem") (e := 35) rfl; exact ⟨by k_is, by k_is⟩
    | 3, _ => obtain ⟨rfl, rfl⟩ := key (y := nm "isqrt") (e := 42) rfl; exact ⟨by k_is, by k_is⟩
    | 4, _ => obtain ⟨rfl, rfl⟩ := key (y := nm "_normalize") (e := 71) rfl; exact ⟨by k_is, by k_is⟩
    | 5, _ => obtain ⟨rfl, rfl⟩ := key (y := nm "normalize") (e := 78) rfl; exact ⟨by k_is, by k_is⟩
    | 6, _ => obtain ⟨rfl, rfl⟩ := key (y := nm "from_man_exp") (e := 86) rfl; exact ⟨by k_is, by k_is⟩
    | 7, _ => obtain ⟨rfl, rfl⟩ := key (y := nm "mpf_cmp") (e := 93) rfl; exact ⟨by k_is, by k_is⟩
    | 8, _ => obtain ⟨rfl, rfl⟩ := key (y := nm "mpf_le") (e := 100) rfl; exact ⟨by k_is, by k_is⟩
    | 9, _ => obtain ⟨rfl, rfl⟩ := key (y := nm "mpf_pos") (e := 108) rfl; exact ⟨by k_is, by k_is⟩
    | 10, _ => obtain ⟨rfl, rfl⟩ := key (y := nm "mpf_neg") (e := 116) rfl; exact ⟨by k_is, by k_is⟩
    | 11, _ => obtain ⟨rfl, rfl⟩ := key (y := nm "mpf_abs") (e := 124) rfl; exact ⟨by k_is, by k_is⟩
    | 12, _ => obtain ⟨rfl, rfl⟩ := key (y := nm "mpf_sign") (e := 131) rfl; exact ⟨by k_is, by k_is⟩
    | 13, _ => obtain ⟨rfl, rfl⟩ := key (y := nm "mpf_add") (e := 139) rfl; exact ⟨by k_is, by k_is⟩
    | 14, _ => obtain ⟨rfl, rfl⟩ := key (y := nm "mpf_sub") (e := 147) rfl; exact ⟨by k_is, by k_is⟩
    | 15, _ => obtain ⟨rfl, rfl⟩ := key (y := nm "mpf_mul") (e := 155) rfl; exact ⟨by k_is, by k_is⟩
    | 16, _ => obtain ⟨rfl, rfl⟩ := key (y := nm "mpf_shift") (e := 162) rfl; exact ⟨by k_is, by k_is⟩
    | 17, _ => obtain ⟨rfl, rfl⟩ := key (y := nm "mpf_div") (e := 170) rfl; exact ⟨by k_is, by k_is⟩
    | 18, _ => obtain ⟨rfl, rfl⟩ := key (y := nm "mpf_sqrt") (e := 178) rfl; exact ⟨by k_is, by k_is⟩
    | 19, _ => obtain ⟨rfl, rfl⟩ := key (y := nm "_law_mixed") (e := 185) rfl; exact ⟨by k_is, by k_is⟩
    | 20, _ => obtain ⟨rfl, rfl⟩ := key (y := nm "_law_raw") (e := 192) rfl; exact ⟨by k_is, by k_is⟩
    | 21, _ => obtain ⟨rfl, rfl⟩ := key (y := nm "_law_above") (e := 199) rfl; exact ⟨by k_is, by k_is⟩
    | 22, _ => obtain ⟨rfl, rfl⟩ := key (y := nm "_law_near") (e := 206) rfl; exact ⟨by k_is, by k_is⟩
    | 23, _ => obtain ⟨rfl, rfl⟩ := key (y := nm "_law_order_right") (e := 211) rfl; exact ⟨by k_is, by k_is⟩
    | 24, _ => obtain ⟨rfl, rfl⟩ := key (y := nm "_law_meeting_right") (e := 218) rfl; exact ⟨by k_is, by k_is⟩
    | 25, _ => obtain ⟨rfl, rfl⟩ := key (y := nm "_law_root_right") (e := 225) rfl; exact ⟨by k_is, by k_is⟩
    | 26, _ => obtain ⟨rfl, rfl⟩ := key (y := nm "law") (e := 232) rfl; exact ⟨by k_is, by k_is⟩
  · refine ⟨_, _, _, by k_is, by k_is, by k_keys, fun s d h => ?_⟩
    unfold sd at h
    split at h
    · rename_i e; subst e; cases h; exact ⟨_, by k_is, fun h X => .tup0 (X _ _ (by k_is)) rfl rfl (.cons (.int _ _) (.cons (.int _ _) .nil))⟩
    · split at h
      · rename_i e; subst e; cases h; exact ⟨_, by k_is, fun h X => .tup0 (X _ _ (by k_is)) rfl rfl (.cons (.int _ _) (.cons (.int _ _) .nil))⟩
      · split at h
        · rename_i e; subst e; cases h; exact ⟨_, by k_is, fun h X => .tup0 (X _ _ (by k_is)) rfl rfl (.cons (.int _ _) (.cons (.int _ _) .nil))⟩
        · split at h
          · rename_i e; subst e; cases h; exact ⟨_, by k_is, fun h X => .tup0 (X _ _ (by k_is)) rfl rfl (.cons (.int _ _) (.cons (.int _ _) .nil))⟩
          · cases h
end Mine
end
-- part AJJ
section
open PySem PySem.W PyProof.Rows
set_option maxRecDepth 100000
namespace Mine
theorem reps_ints {h : Heap} : ∀ {vs : List Value} {ns : List Int}, IntsAre vs ns → Reps h vs (ns.map .int)
  | _, _, .nil => .nil
  | _, _, .cons n t r => .cons (.int n t) (reps_ints r)
theorem cfD_some {gs : Globs} {sd : Str → Option PyData} {fbs : List FB} {N d f : Nat} {ds : List PyData} {r : PyData} {fb : FB} (hf : fbs[f]? = some fb) (h : cfD gs sd fbs N (d + 1) f ds = some r) :
    ∃ full, fill fb ds = some full ∧ runS gs sd (cfD gs sd fbs N d) N fb.body (start fb full) = some (.ret r) := by
  unfold cfD cfS at h
  rw [hf] at h
  dsimp only at h
  split at h
  · rename_i full hfull
    split at h
    · rename_i r' hr'
      cases h
      exact ⟨full, hfull, hr'⟩
    · cases h
  · cases h
/-- the law's call, from the text's own run -/
theorem join {prog : Program} {w : World} {p : Program} {loose : List Str} {mg mb : Str → Option Value} {a fa : Addr} {vs : List Value} {ns : List Int} {s : Shared} {R : Result → Shared → Prop} {N : Nat}
    (X : (hd.heap_39 w.params).In s.heap) (T : TopRead p loose mg mb s.heap) (hL : s.heap.IsList a vs.toArray) (hI : IntsAre vs ns) (hfa : fa = 232)
    (hp : cfD gs sd fbs N 12 26 [.list (ns.map .int)] = some (.bool true)) (h : ∀ s', Ext s s' → R (.ok (.ret (.bool true))) s') :
    codeAny (model prog w) callerA (.call (.ref fa) ⟨[.ref a], []⟩) R s := by
  subst hfa
  obtain ⟨fb, fd, body, hfb, hF⟩ := fn_all w.params 26 (nm "law") 232 rfl
  obtain ⟨full, h1, h2⟩ := cfD_some hfb hp
  exact fn_code (tops w.params rfl) (calls_ok (tops w.params rfl) (fn_all w.params) 11) hF h1 h2 ⟨rfl, Nat.le_of_ble_eq_true rfl, Nat.le_of_ble_eq_true rfl⟩ ⟨X, T⟩ (.cons (.lst hL (reps_ints hI)) .nil)
    (fun v s' x r => by rw [r.bool_inv]; exact h s' x)
theorem fa_is {w : World} {h : Heap} {mg : Str → Option Value} {x : Str} {fa : Addr} (X : (hd.heap_39 w.params).In h) (G : h.Ns mainGlobals mg) (hx : x = nm "law") (hm : mg x = some (.ref fa)) : fa = 232 := by
  subst hx
  have e := mg_of X G ((tops w.params rfl).fns 26 (nm "law") 232 rfl).1
  rw [hm] at e
  cases e
  rfl
end Mine
end
-- part APa
section
namespace Mine
/-! rounding of naturals -/
def bl (n : Nat) : Nat := if n = 0 then 0 else n.log2 + 1
theorem bl_lo {n : Nat} (h : 0 < n) : 2 ^ (bl n - 1) ≤ n := by
  have : n ≠ 0 := by omega
  simp only [bl, if_neg this]
  exact Nat.log2_self_le this
theorem bl_hi (n : Nat) : n < 2 ^ bl n := by
  by_cases h : n = 0
  · subst h; simp [bl]
  · simp only [bl, if_neg h]; exact Nat.lt_log2_self
theorem bl_pos {n : Nat} (h : 0 < n) : 0 < bl n := by
  have : n ≠ 0 := by omega
  simp only [bl, if_neg this]; omega
theorem pow_lt_of {a b : Nat} (h : 2 ^ a < 2 ^ b) : a < b := (Nat.pow_lt_pow_iff_right (by decide)).mp h
theorem pow_le_of {a b : Nat} (h : a ≤ b) : 2 ^ a ≤ 2 ^ b := Nat.pow_le_pow_right (by decide) h
theorem bl_le {n k : Nat} (h : n < 2 ^ k) : bl n ≤ k := by
  by_cases h0 : n = 0
  · subst h0; simp [bl]
  · have := bl_lo (n := n) (by omega)
    have := pow_lt_of (Nat.lt_of_le_of_lt this h)
    omega
theorem lt_bl {n k : Nat} (h : 2 ^ k ≤ n) : k < bl n := pow_lt_of (Nat.lt_of_le_of_lt h (bl_hi n))
theorem bl_eq {n k : Nat} (h1 : 2 ^ k ≤ n) (h2 : n < 2 ^ (k + 1)) : bl n = k + 1 := Nat.le_antisymm (bl_le h2) (lt_bl h1)
theorem bl_mono {a b : Nat} (h : a ≤ b) : bl a ≤ bl b := bl_le (Nat.lt_of_le_of_lt h (bl_hi b))
theorem bl_mul {n : Nat} (h : 0 < n) (k : Nat) : bl (n * 2 ^ k) = bl n + k := by
  have h1 := bl_lo h
  have h2 := bl_hi n
  have h3 := bl_pos h
  have e : bl n + k = (bl n - 1 + k) + 1 := by omega
  rw [e]
  refine bl_eq ?_ ?_
  · rw [Nat.pow_add]; exact Nat.mul_le_mul_right _ h1
  · rw [← e, Nat.pow_add]; exact Nat.mul_lt_mul_of_pos_right h2 (Nat.two_pow_pos k)
theorem bl_pow (k : Nat) : bl (2 ^ k) = k + 1 := bl_eq (Nat.le_refl _) (Nat.pow_lt_pow_right (by decide) (by omega))
/-- twice the quotient, and one more if there is a rest -/
def str (N D : Nat) : Nat := 2 * (N / D) + if N % D = 0 then 0 else 1
theorem str_bounds (N : Nat) {D : Nat} (_h : 0 < D) : str N D / 2 = N / D := by unfold str; split <;> omega
theorem str_rest (N D : Nat) : str N D % 2 = 0 ↔ N % D = 0 := by unfold str; split <;> omega
theorem str_mono {N D N' D' : Nat} (hD : 0 < D) (hD' : 0 < D') (h : N * D' ≤ N' * D) : str N D ≤ str N' D' := by
  have hq : N / D ≤ N' / D' := by
    rw [Nat.le_div_iff_mul_le hD']
    have h1 : N / D * D ≤ N := Nat.div_mul_le_self N D
    have h2 : (N / D * D') * D ≤ N' * D := by
      calc (N / D * D') * D = (N / D * D) * D' := by rw [Nat.mul_right_comm]
        _ ≤ N * D' := Nat.mul_le_mul_right _ h1
        _ ≤ N' * D := h
    exact Nat.le_of_mul_le_mul_right h2 hD
  unfold str
  by_cases e : N' % D' = 0
  · by_cases e2 : N / D = N' / D'
    · have h3 : N' = N' / D' * D' := by
        have := Nat.div_add_mod N' D'
        rw [e] at this; rw [Nat.mul_comm]; omega
      have h4 : N * D' ≤ (N / D * D) * D' := by
        calc N * D' ≤ N' * D := h
          _ = (N' / D' * D') * D := by rw [← h3]
          _ = (N / D * D) * D' := by rw [e2, Nat.mul_right_comm]
      have h5 : N ≤ N / D * D := Nat.le_of_mul_le_mul_right h4 hD'
      have h6 : N % D = 0 := by
        have := Nat.div_add_mod N D
        rw [Nat.mul_comm] at this; omega
      rw [h6, e, e2]; simp
    · have : N / D < N' / D' := by omega
      split <;> (try split) <;> omega
  · rw [if_neg e]
    split <;> omega
theorem str_cancel (N D : Nat) {c : Nat} (hc : 0 < c) : str (N * c) (D * c) = str N D := by
  unfold str
  rw [Nat.mul_div_mul_right _ _ hc, Nat.mul_mod_mul_right]
  by_cases e : N % D = 0
  · rw [e]; simp
  · rw [if_neg e, if_neg]
    intro h
    rcases Nat.mul_eq_zero.mp h with h | h
    · exact e h
    · omega
theorem str_str (N D j : Nat) (hD : 0 < D) : str (str N D) (2 ^ (j + 1)) = str N (D * 2 ^ j) := by
  have hq : str N D / 2 ^ (j + 1) = N / (D * 2 ^ j) := by
    rw [Nat.pow_succ, Nat.mul_comm, ← Nat.div_div_eq_div_mul, str_bounds N hD, Nat.div_div_eq_div_mul]
  have hr : str N D % 2 ^ (j + 1) = 0 ↔ N % (D * 2 ^ j) = 0 := by
    rw [Nat.pow_succ, Nat.mul_comm (2 ^ j) 2, Nat.mod_mul, Nat.mod_mul, str_bounds N hD]
    have := str_rest N D
    have h2 : 0 < 2 ^ j := Nat.two_pow_pos j
    constructor
    · intro h
      have a : str N D % 2 = 0 := by omega
      have b : 2 * (N / D % 2 ^ j) = 0 := by omega
      rw [this.mp a]
      have : N / D % 2 ^ j = 0 := by omega
      rw [this]; simp
    · intro h
      have a : N % D = 0 := by omega
      have b : D * (N / D % 2 ^ j) = 0 := by omega
      rcases Nat.mul_eq_zero.mp b with b | b
      · omega
      · rw [this.mpr a, b]
  show 2 * (str N D / 2 ^ (j + 1)) + _ = 2 * (N / (D * 2 ^ j)) + _
  rw [hq]
  by_cases e : N % (D * 2 ^ j) = 0
  · rw [if_pos e, if_pos (hr.mpr e)]
  · rw [if_neg e, if_neg (fun h => e (hr.mp h))]
theorem str_exact (q : Nat) {D : Nat} (h : 0 < D) : str (q * D) D = 2 * q := by unfold str; rw [Nat.mul_div_cancel _ h, Nat.mul_mod_left]; simp
theorem str_one (N : Nat) : str N 1 = 2 * N := by unfold str; simp [Nat.mod_one]
inductive Rm where | n | d | u
def rq : Rm → Nat → Nat
  | .n, w => if w % 4 < 2 then w / 4 else if w % 4 = 3 then w / 4 + 1 else w / 4 + w / 4 % 2
  | .d, w => w / 4
  | .u, w => (w + 3) / 4
theorem rq_mono (r : Rm) {a b : Nat} (h : a ≤ b) : rq r a ≤ rq r b := by
  cases r <;> simp only [rq]
  · split <;> split <;> (try split) <;> (try split) <;> omega
  · omega
  · omega
theorem rq_exact (r : Rm) (q : Nat) : rq r (4 * q) = q := by
  cases r <;> simp only [rq]
  · rw [if_pos (by omega)]; omega
  · omega
  · omega
/-- A rounded to p binary digits -/
def R (r : Rm) (p A : Nat) : Nat := if bl A ≤ p then A else rq r (str A (2 ^ (bl A - p - 1))) * 2 ^ (bl A - p)
/-- A has no more than p binary digits that count -/
def Fp (p A : Nat) : Prop := 2 ^ (bl A - p) ∣ A
theorem fp_of {p c n : Nat} (hp : 1 ≤ p) (h : c ≤ 2 ^ p) : Fp p (c * 2 ^ n) := by
  unfold Fp
  by_cases h0 : c = 0
  · subst h0; simp
  · rw [bl_mul (by omega)]
    by_cases e : c = 2 ^ p
    · subst e
      rw [bl_pow, ← Nat.pow_add]
      exact Nat.pow_dvd_pow _ (by omega)
    · have : bl c ≤ p := bl_le (by omega)
      exact Nat.dvd_trans (Nat.pow_dvd_pow 2 (by omega : bl c + n - p ≤ n)) (Nat.dvd_mul_left _ _)
theorem Fp.R {p A : Nat} (h : Fp p A) (r : Rm) : R r p A = A := by
  unfold Mine.R
  split
  · rfl
  · rename_i hb
    obtain ⟨q, hq⟩ := h
    generalize hn : bl A - p = n at hq ⊢
    have e : A = 2 * q * 2 ^ (n - 1) := by
      have : n = (n - 1) + 1 := by omega
      rw [hq]
      conv => lhs; rw [this, Nat.pow_succ]
      rw [Nat.mul_comm 2 q, Nat.mul_comm (2 ^ (n - 1)) 2, Nat.mul_comm (2 * 2 ^ (n - 1)) q, Nat.mul_assoc]
    conv => lhs; rw [e]
    rw [str_exact _ (Nat.two_pow_pos _), show 2 * (2 * q) = 4 * q by omega, rq_exact, hq, Nat.mul_comm]
theorem Fp.more {p q A : Nat} (h : Fp p A) (hq : p ≤ q) : Fp q A := Nat.dvd_trans (Nat.pow_dvd_pow 2 (by omega)) h
/-- the bounds of what a rounding of n binary digits does -/
theorem rq_le (r : Rm) (w : Nat) : rq r w ≤ w / 4 + 1 := by
  cases r <;> simp only [rq]
  · split <;> (try split) <;> omega
  · omega
  · omega
theorem rq_ge (r : Rm) (w : Nat) : w / 4 ≤ rq r w := by
  cases r <;> simp only [rq]
  · split <;> (try split) <;> omega
  · omega
  · omega
theorem str_div4 (A n : Nat) (h : 1 ≤ n) : str A (2 ^ (n - 1)) / 4 = A / 2 ^ n := by
  rw [show (4 : Nat) = 2 * 2 by rfl, ← Nat.div_div_eq_div_mul, str_bounds _ (Nat.two_pow_pos _), Nat.div_div_eq_div_mul, ← Nat.pow_succ]
  congr 2; omega
theorem R_form (r : Rm) {p A : Nat} (hp : 1 ≤ p) (h : p < bl A) : ∃ q, R r p A = q * 2 ^ (bl A - p) ∧ 2 ^ (p - 1) ≤ q ∧ q ≤ 2 ^ p := by
  have hA : 0 < A := by
    rcases Nat.eq_zero_or_pos A with e | e
    · subst e; simp [bl] at h
    · exact e
  unfold R
  rw [if_neg (by omega)]
  refine ⟨_, rfl, ?_, ?_⟩
  · refine Nat.le_trans ?_ (rq_ge r _)
    rw [str_div4 _ _ (by omega), Nat.le_div_iff_mul_le (Nat.two_pow_pos _), ← Nat.pow_add]
    have := bl_lo hA
    rw [show p - 1 + (bl A - p) = bl A - 1 by omega]
    exact this
  · have h2 := rq_mono r (a := str A (2 ^ (bl A - p - 1))) (b := 4 * 2 ^ p) ?_
    · rw [rq_exact] at h2; exact h2
    · have := bl_hi A
      have e : 4 * 2 ^ p = str (2 ^ (bl A)) (2 ^ (bl A - p - 1)) := by
        have : 2 ^ (bl A) = 2 ^ (p + 1) * 2 ^ (bl A - p - 1) := by rw [← Nat.pow_add]; congr 1; omega
        rw [this, str_exact _ (Nat.two_pow_pos _), Nat.pow_succ]; omega
      rw [e]
      exact str_mono (Nat.two_pow_pos _) (Nat.two_pow_pos _) (Nat.mul_le_mul_right _ (by omega))
theorem R_fp (r : Rm) {p A : Nat} (hp : 1 ≤ p) : Fp p (R r p A) := by
  by_cases h : bl A ≤ p
  · unfold R; rw [if_pos h]; unfold Fp; rw [show bl A - p = 0 by omega]; simp
  · obtain ⟨q, e, _, h2⟩ := R_form r hp (by omega : p < bl A)
    rw [e]; exact fp_of hp h2
theorem R_lo (r : Rm) {p A : Nat} (hp : 1 ≤ p) (hA : 0 < A) : 2 ^ (bl A - 1) ≤ R r p A := by
  by_cases h : bl A ≤ p
  · unfold R; rw [if_pos h]; exact bl_lo hA
  · obtain ⟨q, e, h1, _⟩ := R_form r hp (by omega : p < bl A)
    rw [e, show bl A - 1 = (p - 1) + (bl A - p) by omega, Nat.pow_add]
    exact Nat.mul_le_mul_right _ h1
theorem R_hi (r : Rm) {p A : Nat} (hp : 1 ≤ p) : R r p A ≤ 2 ^ bl A := by
  by_cases h : bl A ≤ p
  · unfold R; rw [if_pos h]; exact Nat.le_of_lt (bl_hi A)
  · obtain ⟨q, e, _, h1⟩ := R_form r hp (by omega : p < bl A)
    rw [e]
    calc q * 2 ^ (bl A - p) ≤ 2 ^ p * 2 ^ (bl A - p) := Nat.mul_le_mul_right _ h1
      _ = 2 ^ bl A := by rw [← Nat.pow_add]; congr 1; omega
theorem R_mono (r : Rm) {p A B : Nat} (hp : 1 ≤ p) (h : A ≤ B) : R r p A ≤ R r p B := by
  rcases Nat.eq_zero_or_pos A with e | hA
  · subst e; simp [R, bl]
  have hb := bl_mono h
  by_cases e : bl A = bl B
  · unfold R
    rw [e]
    split
    · exact h
    · exact Nat.mul_le_mul_right _ (rq_mono r (str_mono (Nat.two_pow_pos _) (Nat.two_pow_pos _) (Nat.mul_le_mul_right _ h)))
  · exact Nat.le_trans (R_hi r hp) (Nat.le_trans (pow_le_of (by omega)) (R_lo r hp (by omega)))
theorem R_scale (r : Rm) {p A : Nat} (hA : 0 < A) (k : Nat) (hp : 1 ≤ p) : R r p (A * 2 ^ k) = R r p A * 2 ^ k := by
  by_cases h : bl A ≤ p
  · have h1 : R r p A = A := by unfold R; rw [if_pos h]
    rw [h1]
    refine Fp.R (fp_of hp ?_) r
    exact Nat.le_of_lt (Nat.lt_of_lt_of_le (bl_hi A) (pow_le_of h))
  · have hb := bl_mul hA k
    unfold R
    rw [if_neg h, if_neg (by omega), hb]
    have e1 : bl A + k - p - 1 = (bl A - p - 1) + k := by omega
    have e2 : bl A + k - p = (bl A - p) + k := by omega
    rw [e1, e2, Nat.pow_add, Nat.pow_add, str_cancel _ _ (Nat.two_pow_pos k), Nat.mul_assoc]
theorem R_sticky (r : Rm) {p W w j : Nat} (hw : p + 2 ≤ bl w) (e : w = str W (2 ^ (j + 1))) : R r p W = R r p w * 2 ^ j := by
  have hw0 : 0 < w := by
    rcases Nat.eq_zero_or_pos w with z | z
    · rw [z] at hw; simp [bl] at hw
    · exact z
  have hbW : bl W = bl w + j := by
    have h1 : w / 2 = W / 2 ^ (j + 1) := by rw [e]; exact str_bounds _ (Nat.two_pow_pos _)
    have h2 := bl_lo hw0
    have h3 := bl_hi w
    have e4 : bl w + j = (bl w - 1 + j) + 1 := by omega
    rw [e4]
    have e5 : 2 ^ (bl w - 1) = 2 * 2 ^ (bl w - 2) := by rw [show bl w - 1 = (bl w - 2) + 1 by omega, Nat.pow_succ, Nat.mul_comm]
    have e6 : 2 ^ (bl w) = 2 * 2 ^ (bl w - 1) := by rw [show bl w = (bl w - 1) + 1 by omega, Nat.pow_succ, Nat.mul_comm]; rfl
    refine bl_eq ?_ ?_
    · have : 2 ^ (bl w - 2) ≤ W / 2 ^ (j + 1) := by omega
      rw [Nat.le_div_iff_mul_le (Nat.two_pow_pos _), ← Nat.pow_add] at this
      rw [show bl w - 1 + j = bl w - 2 + (j + 1) by omega]; exact this
    · have : W / 2 ^ (j + 1) < 2 ^ (bl w - 1) := by omega
      rw [Nat.div_lt_iff_lt_mul (Nat.two_pow_pos _), ← Nat.pow_add] at this
      rw [show bl w - 1 + j + 1 = bl w - 1 + (j + 1) by omega]; exact this
  unfold R
  rw [if_neg (by omega), if_neg (by omega), hbW]
  have e1 : str w (2 ^ (bl w - p - 1)) = str W (2 ^ (bl w + j - p - 1)) := by
    have e2 : bl w - p - 1 = (bl w - p - 2) + 1 := by omega
    rw [e2, e]
    rw [str_str _ _ _ (Nat.two_pow_pos _), ← Nat.pow_add]
    rw [← e]; congr 2; omega
  rw [e1, Nat.mul_assoc, ← Nat.pow_add]
  congr 2; omega
theorem R_d_le {p A : Nat} : R .d p A ≤ A := by
  by_cases h : bl A ≤ p
  · unfold R; rw [if_pos h]; exact Nat.le_refl _
  · unfold R; rw [if_neg h]
    show str _ _ / 4 * _ ≤ _
    rw [str_div4 _ _ (by omega)]
    exact Nat.div_mul_le_self _ _
theorem R_u_ge {p A : Nat} : A ≤ R .u p A := by
  by_cases h : bl A ≤ p
  · unfold R; rw [if_pos h]; exact Nat.le_refl _
  · unfold R; rw [if_neg h]
    have hn : 1 ≤ bl A - p := by omega
    generalize hN : bl A - p = n at hn ⊢
    have h4 := str_div4 A n hn
    show _ ≤ (str A (2 ^ (n - 1)) + 3) / 4 * 2 ^ n
    have hdm := Nat.div_add_mod A (2 ^ n)
    have hlt := Nat.mod_lt A (Nat.two_pow_pos n)
    by_cases e : str A (2 ^ (n - 1)) % 4 = 0
    · have hr : A % 2 ^ n = 0 := by
        have e2 : str A (2 ^ (n - 1)) % 2 = 0 := by omega
        have e3 := (str_rest _ _).mp e2
        have e4 : str A (2 ^ (n - 1)) / 2 % 2 = 0 := by omega
        rw [str_bounds _ (Nat.two_pow_pos _)] at e4
        rw [show n = (n - 1) + 1 by omega, Nat.pow_succ, Nat.mod_mul, e3, e4]; simp
      have : (str A (2 ^ (n - 1)) + 3) / 4 = A / 2 ^ n := by omega
      rw [this, Nat.mul_comm]; omega
    · have : (str A (2 ^ (n - 1)) + 3) / 4 = A / 2 ^ n + 1 := by omega
      rw [this, Nat.add_mul, Nat.mul_comm]; omega
end Mine
end
-- part APb
section
namespace Mine
/-! roots -/
def sq : Nat → Nat
  | 0 => 0
  | n + 1 => if (sq n + 1) * (sq n + 1) ≤ n + 1 then sq n + 1 else sq n
theorem sq_spec : ∀ n, sq n * sq n ≤ n ∧ n < (sq n + 1) * (sq n + 1)
  | 0 => by simp [sq]
  | n + 1 => by
    obtain ⟨h1, h2⟩ := sq_spec n
    unfold sq
    split
    · rename_i h
      exact ⟨h, by grind⟩
    · rename_i h
      exact ⟨by omega, by omega⟩
theorem sq_lo (n : Nat) : sq n * sq n ≤ n := (sq_spec n).1
theorem sq_hi (n : Nat) : n < (sq n + 1) * (sq n + 1) := (sq_spec n).2
theorem lt_of_sq {a b : Nat} (h : a * a < b * b) : a < b := by
  rcases Nat.lt_or_ge a b with h1 | h1
  · exact h1
  · have := Nat.mul_le_mul h1 h1; omega
theorem le_of_sq {a b : Nat} (h : a * a ≤ b * b) : a ≤ b := by
  rcases Nat.lt_or_ge b a with h1 | h1
  · have := Nat.mul_lt_mul_of_lt_of_le h1 (Nat.le_of_lt h1) (by omega); omega
  · exact h1
theorem le_sq {r n : Nat} (h : r * r ≤ n) : r ≤ sq n := by
  have := lt_of_sq (Nat.lt_of_le_of_lt h (sq_hi n)); omega
theorem sq_le {r n : Nat} (h : n ≤ r * r) : sq n ≤ r := le_of_sq (Nat.le_trans (sq_lo n) h)
theorem sq_eq {r n : Nat} (h1 : r * r ≤ n) (h2 : n < (r + 1) * (r + 1)) : sq n = r := by
  have := le_sq h1
  have := lt_of_sq (Nat.lt_of_le_of_lt (sq_lo n) h2); omega
/-- twice the root, and one more if it is not whole -/
def sts (n : Nat) : Nat := 2 * sq n + if sq n * sq n = n then 0 else 1
theorem sts_ge {m n : Nat} (h : m * m ≤ n) : 2 * m ≤ sts n := by have := le_sq h; unfold sts; omega
theorem sts_le {m n : Nat} (h : n ≤ m * m) : sts n ≤ 2 * m := by
  have h1 := sq_le h
  unfold sts
  by_cases e : sq n = m
  · have := sq_lo n
    rw [e] at this
    rw [e, if_pos (by omega)]; omega
  · split <;> omega
theorem sts_sq (m : Nat) : sts (m * m) = 2 * m := Nat.le_antisymm (sts_le (Nat.le_refl _)) (sts_ge (Nat.le_refl _))
theorem sts_div (n : Nat) : sts n / 2 = sq n := by unfold sts; split <;> omega
theorem sts_rest (n : Nat) : sts n % 2 = 0 ↔ sq n * sq n = n := by unfold sts; split <;> omega
theorem sts_scale (y j : Nat) : str (sts (y * (2 ^ j * 2 ^ j))) (2 ^ (j + 1)) = sts y := by
  have hc := Nat.two_pow_pos j
  generalize hC : 2 ^ j = c at hc
  have hr : sq (y * (c * c)) / c = sq y := by
    symm
    refine sq_eq ?_ ?_ |>.symm ▸ rfl
    · have h1 := sq_lo (y * (c * c))
      have h2 := Nat.div_mul_le_self (sq (y * (c * c))) c
      generalize sq (y * (c * c)) / c = q at h2
      have h3 := Nat.mul_le_mul h2 h2
      have h4 : (q * q) * (c * c) ≤ y * (c * c) := by
        calc (q * q) * (c * c) = (q * c) * (q * c) := by grind
          _ ≤ _ := Nat.le_trans h3 h1
      exact Nat.le_of_mul_le_mul_right h4 (Nat.mul_pos hc hc)
    · have h1 := sq_hi (y * (c * c))
      have h2 : sq (y * (c * c)) + 1 ≤ (sq (y * (c * c)) / c + 1) * c := by
        have := Nat.lt_div_mul_add hc (a := sq (y * (c * c))); rw [Nat.add_mul]; omega
      generalize sq (y * (c * c)) / c = q at h2
      have h3 := Nat.mul_le_mul h2 h2
      have h4 : y * (c * c) < ((q + 1) * (q + 1)) * (c * c) := by
        calc y * (c * c) < (q + 1) * c * ((q + 1) * c) := Nat.lt_of_lt_of_le h1 h3
          _ = _ := by grind
      exact Nat.lt_of_mul_lt_mul_right h4
  have hq : sts (y * (c * c)) / 2 ^ (j + 1) = sq y := by
    rw [Nat.pow_succ, hC, Nat.mul_comm c 2, ← Nat.div_div_eq_div_mul, sts_div, hr]
  unfold str
  rw [hq]
  unfold sts
  congr 1
  by_cases e : sq y * sq y = y
  · rw [if_pos e, if_pos]
    have : y * (c * c) = (sq y * c) * (sq y * c) := by conv => lhs; rw [← e]
                                                       grind
    have h5 := sts_sq (sq y * c)
    rw [← this] at h5
    unfold sts at h5
    rw [h5, Nat.pow_succ, hC]
    rw [show 2 * (sq y * c) = sq y * (c * 2) by grind, Nat.mul_mod_left]
  · rw [if_neg e, if_neg]
    intro h
    have h5 : sts (y * (c * c)) % 2 ^ (j + 1) = 0 := h
    have h6 : sts (y * (c * c)) % 2 = 0 := by
      have : 2 ∣ 2 ^ (j + 1) := ⟨2 ^ j, by rw [Nat.pow_succ, Nat.mul_comm]⟩
      exact Nat.mod_eq_zero_of_dvd (Nat.dvd_trans this (Nat.dvd_of_mod_eq_zero h5))
    have h7 := (sts_rest _).mp h6
    have h8 : sts (y * (c * c)) = 2 * sq (y * (c * c)) := by have := sts_div (y * (c * c)); omega
    rw [h8, Nat.pow_succ, hC, Nat.mul_comm c 2, Nat.mul_mod_mul_left] at h5
    have h9 : sq (y * (c * c)) % c = 0 := by omega
    have h10 : sq (y * (c * c)) = sq y * c := by
      have := Nat.div_add_mod (sq (y * (c * c))) c; rw [h9, hr] at this; rw [Nat.mul_comm (sq y)]; omega
    rw [h10] at h7
    refine e (Nat.eq_of_mul_eq_mul_right (Nat.mul_pos hc hc) ?_)
    rw [← h7]; grind
/-- down, the rest counts for nothing -/
theorem R_d_rest {p r s : Nat} (hs : s ≤ 1) (hb : p ≤ bl r) (h0 : 0 < r) : R .d p (2 * r + s) = R .d p r * 2 := by
  have e : R .d p r * 2 = R .d p (r * 2) := by
    by_cases h : bl r ≤ p
    · have hb2 : bl (r * 2) = bl r + 1 := by have := bl_mul h0 1; simpa using this
      have h1 : R .d p r = r := by unfold R; rw [if_pos h]
      rw [h1]
      unfold R
      rw [if_neg (by omega), show bl (r * 2) - p = 1 by omega]
      show r * 2 = str (r * 2) (2 ^ 0) / 4 * 2 ^ 1
      rw [Nat.pow_zero, str_one]; omega
    · have hb2 : bl (r * 2) = bl r + 1 := by have := bl_mul h0 1; simpa using this
      unfold R
      rw [if_neg h, if_neg (by omega), hb2]
      show str r _ / 4 * _ * 2 = str _ _ / 4 * _
      rw [str_div4 _ _ (by omega), str_div4 _ _ (by omega), show bl r + 1 - p = (bl r - p) + 1 by omega, Nat.pow_succ, Nat.mul_div_mul_right _ _ (by decide)]
      grind
  rw [e]
  have hb2 : bl (2 * r) = bl r + 1 := by rw [Nat.mul_comm]; have := bl_mul h0 1; simpa using this
  have hb3 : bl (2 * r + s) = bl r + 1 := by
    refine bl_eq ?_ ?_
    · have := lt_bl (n := 2 * r) (k := bl r)
      have h1 := bl_lo h0
      have h2 : 2 ^ bl r = 2 * 2 ^ (bl r - 1) := by
        have := bl_pos h0
        rw [show bl r = (bl r - 1) + 1 by omega, Nat.pow_succ, Nat.mul_comm]; rfl
      omega
    · have := bl_hi r
      rw [Nat.pow_succ]; omega
  have hb4 : bl (r * 2) = bl r + 1 := by rw [Nat.mul_comm]; exact hb2
  unfold R
  rw [if_neg (by omega), if_neg (by omega), hb3, hb4]
  show str _ _ / 4 * _ = str _ _ / 4 * _
  rw [str_div4 _ _ (by omega), str_div4 _ _ (by omega)]
  congr 1
  have hn : bl r + 1 - p = (bl r - p) + 1 := by omega
  rw [hn, Nat.pow_succ, Nat.mul_comm (2 ^ (bl r - p)) 2, ← Nat.div_div_eq_div_mul, ← Nat.div_div_eq_div_mul]
  congr 1; omega
/-! the means -/
theorem har_le_geo {A B : Nat} (h : 0 < A + B) : str (2 * (A * B)) (A + B) ≤ sts (A * B) := by
  have hq := Nat.div_mul_le_self (2 * (A * B)) (A + B)
  have key : 4 * (A * B) ≤ (A + B) * (A + B) := by
    rcases Nat.le_total A B with h | h
    · obtain ⟨d, rfl⟩ := Nat.exists_eq_add_of_le h; grind
    · obtain ⟨d, rfl⟩ := Nat.exists_eq_add_of_le h; grind
  generalize hQ : 2 * (A * B) / (A + B) = q at hq
  have h1 : q * q ≤ A * B := by
    by_cases z : A * B = 0
    · rw [z] at hq
      have : q * (A + B) = 0 := by omega
      rcases Nat.mul_eq_zero.mp this with c | c
      · rw [c]; omega
      · omega
    · have h2 := Nat.mul_le_mul hq hq
      have h3 : (q * q) * ((A + B) * (A + B)) ≤ (A * B) * ((A + B) * (A + B)) := by
        calc (q * q) * ((A + B) * (A + B)) = (q * (A + B)) * (q * (A + B)) := by grind
          _ ≤ (2 * (A * B)) * (2 * (A * B)) := h2
          _ = (A * B) * (4 * (A * B)) := by grind
          _ ≤ _ := Nat.mul_le_mul_left _ key
      exact Nat.le_of_mul_le_mul_right h3 (Nat.mul_pos h h)
  have h4 := le_sq h1
  unfold str
  rw [hQ]
  unfold sts
  by_cases e : sq (A * B) * sq (A * B) = A * B
  · by_cases e2 : q = sq (A * B)
    · rw [← e2] at e
      have hT : 2 * q ≤ A + B := le_of_sq (by rw [show 2 * q * (2 * q) = 4 * (q * q) by grind, e]; exact key)
      have h5 : q * (2 * q) ≤ q * (A + B) := Nat.mul_le_mul_left _ hT
      have h6 : 2 * (A * B) = q * (A + B) := by
        have : q * (2 * q) = 2 * (q * q) := by grind
        omega
      rw [if_pos (by rw [h6]; exact Nat.mul_mod_left _ _)]; omega
    · split <;> (try split) <;> omega
  · split <;> (try split) <;> omega
theorem geo_le_ari {A B M : Nat} (h : A + B = 2 * M) : sts (A * B) ≤ 2 * M := by
  refine sts_le ?_
  have : 4 * (A * B) ≤ (A + B) * (A + B) := by
    rcases Nat.le_total A B with h | h
    · obtain ⟨d, rfl⟩ := Nat.exists_eq_add_of_le h; grind
    · obtain ⟨d, rfl⟩ := Nat.exists_eq_add_of_le h; grind
  rw [h] at this
  have e : 2 * M * (2 * M) = 4 * (M * M) := by grind
  omega
theorem ari_le_qua {A B M N : Nat} (h : A + B = 2 * M) (hN : A * A + B * B = 2 * N) : 2 * M ≤ sts N := by
  refine sts_ge ?_
  have : (A + B) * (A + B) ≤ 2 * (A * A + B * B) := by
    rcases Nat.le_total A B with h | h
    · obtain ⟨d, rfl⟩ := Nat.exists_eq_add_of_le h; grind
    · obtain ⟨d, rfl⟩ := Nat.exists_eq_add_of_le h; grind
  rw [h, hN] at this
  have e : 2 * M * (2 * M) = 4 * (M * M) := by grind
  omega
end Mine
end
-- part APc
section
namespace Mine
def Near (p L H : Nat) : Prop := L ≤ H ∧ (H - L) * 2 ^ (p - 1) ≤ H
theorem R_d_eq {p A : Nat} (h : p < bl A) : R .d p A = A / 2 ^ (bl A - p) * 2 ^ (bl A - p) := by
  unfold R; rw [if_neg (by omega)]
  show str _ _ / 4 * _ = _
  rw [str_div4 _ _ (by omega)]
theorem R_d_lt {p A : Nat} : A < R .d p A + 2 ^ (bl A - p) := by
  by_cases h : bl A ≤ p
  · have : R .d p A = A := by unfold R; rw [if_pos h]
    rw [this]; have := Nat.two_pow_pos (bl A - p); omega
  · rw [R_d_eq (by omega)]
    have := Nat.lt_div_mul_add (Nat.two_pow_pos (bl A - p)) (a := A)
    exact this
theorem R_u_lt {p A : Nat} : R .u p A < A + 2 ^ (bl A - p) := by
  by_cases h : bl A ≤ p
  · have : R .u p A = A := by unfold R; rw [if_pos h]
    rw [this]; have := Nat.two_pow_pos (bl A - p); omega
  · unfold R; rw [if_neg h]
    generalize hN : bl A - p = n
    have hn : 1 ≤ n := by omega
    show (str A (2 ^ (n - 1)) + 3) / 4 * 2 ^ n < _
    have h4 := str_div4 A n hn
    have hdm := Nat.div_add_mod A (2 ^ n)
    have hlt := Nat.mod_lt A (Nat.two_pow_pos n)
    by_cases e : str A (2 ^ (n - 1)) % 4 = 0
    · have : (str A (2 ^ (n - 1)) + 3) / 4 = A / 2 ^ n := by omega
      rw [this, Nat.mul_comm]; omega
    · have : (str A (2 ^ (n - 1)) + 3) / 4 = A / 2 ^ n + 1 := by omega
      rw [this, Nat.add_mul, Nat.mul_comm]
      have : A % 2 ^ n ≠ 0 := by
        intro h0
        apply e
        have h5 : A = 2 * (A / 2 ^ n) * 2 ^ (n - 1) := by
          have : 2 ^ n = 2 * 2 ^ (n - 1) := by rw [show n = (n - 1) + 1 by omega, Nat.pow_succ, Nat.mul_comm]; rfl
          have h6 : A = 2 ^ n * (A / 2 ^ n) := by omega
          calc A = 2 ^ n * (A / 2 ^ n) := h6
            _ = 2 * 2 ^ (n - 1) * (A / 2 ^ n) := by rw [← this]
            _ = _ := by grind
        rw [h5, str_exact _ (Nat.two_pow_pos _)]; omega
      omega
theorem near_round {p A : Nat} (hp : 1 ≤ p) : Near p (R .d p A) (R .u p A) := by
  refine ⟨Nat.le_trans R_d_le R_u_ge, ?_⟩
  by_cases h : bl A ≤ p
  · have h1 : R .d p A = A := by unfold R; rw [if_pos h]
    have h2 : R .u p A = A := by unfold R; rw [if_pos h]
    rw [h1, h2]; simp
  · have hA : 0 < A := by
      rcases Nat.eq_zero_or_pos A with z | z
      · rw [z] at h; simp [bl] at h
      · exact z
    have h1 := R_lo .u hp hA
    obtain ⟨a, ha, _⟩ := R_form .d hp (by omega : p < bl A)
    obtain ⟨b, hb, hb2, _⟩ := R_form .u hp (by omega : p < bl A)
    have h3 := R_d_lt (p := p) (A := A)
    have h4 := R_u_lt (p := p) (A := A)
    have hn := Nat.two_pow_pos (bl A - p)
    rw [ha] at h3 ⊢
    rw [hb] at h4 ⊢
    generalize 2 ^ (bl A - p) = c at *
    have h5 : b < a + 2 := by
      have : b * c < (a + 2) * c := by grind
      exact Nat.lt_of_mul_lt_mul_right this
    calc (b * c - a * c) * 2 ^ (p - 1) = ((b - a) * c) * 2 ^ (p - 1) := by rw [← Nat.sub_mul b a c]
      _ ≤ (1 * c) * 2 ^ (p - 1) := Nat.mul_le_mul_right _ (Nat.mul_le_mul_right _ (by omega))
      _ = 2 ^ (p - 1) * c := by grind
      _ ≤ _ := Nat.mul_le_mul_right _ hb2
theorem near_half {p L H : Nat} (h : Near p (2 * L) (2 * H)) : Near p L H := by
  obtain ⟨h1, h2⟩ := h
  refine ⟨by omega, ?_⟩
  rw [show 2 * H - 2 * L = 2 * (H - L) by omega, Nat.mul_assoc] at h2
  omega
theorem str_up {N D q : Nat} (hD : 0 < D) (h : str N D ≤ 2 * q) : N ≤ q * D := by
  unfold str at h
  have hdm := Nat.div_add_mod N D
  have hlt := Nat.mod_lt N hD
  split at h
  · have : N / D ≤ q := by omega
    have := Nat.mul_le_mul_left D this
    rw [Nat.mul_comm q]; omega
  · have : N / D + 1 ≤ q := by omega
    have := Nat.mul_le_mul_left D this
    rw [Nat.mul_comm q]; rw [Nat.mul_add] at this; omega
theorem str_dn {N D q : Nat} (h : 2 * q ≤ str N D) : q * D ≤ N := by
  unfold str at h
  have : q ≤ N / D := by split at h <;> omega
  exact Nat.le_trans (Nat.mul_le_mul_right _ this) (Nat.div_mul_le_self N D)
theorem sts_up {n q : Nat} (h : sts n ≤ 2 * q) : n ≤ q * q := by
  unfold sts at h
  have h1 := sq_hi n
  split at h
  · rename_i e
    have : sq n ≤ q := by omega
    rw [← e]; exact Nat.mul_le_mul this this
  · have : sq n + 1 ≤ q := by omega
    exact Nat.le_of_lt (Nat.lt_of_lt_of_le h1 (Nat.mul_le_mul this this))
theorem sts_dn {n q : Nat} (h : 2 * q ≤ sts n) : q * q ≤ n := by
  have : q ≤ sq n := by unfold sts at h; split at h <;> omega
  exact Nat.le_trans (Nat.mul_le_mul this this) (sq_lo n)
theorem fp_double {p L : Nat} : Fp p (2 * L) ↔ Fp p L := by
  unfold Fp
  rcases Nat.eq_zero_or_pos L with e | e
  · subst e; simp
  · have hb : bl (2 * L) = bl L + 1 := by rw [Nat.mul_comm]; have := bl_mul e 1; simpa using this
    rw [hb]
    by_cases h : p ≤ bl L
    · rw [show bl L + 1 - p = (bl L - p) + 1 by omega, Nat.pow_succ, Nat.mul_comm]
      exact Nat.mul_dvd_mul_iff_left (by decide)
    · rw [show bl L + 1 - p = 0 by omega, show bl L - p = 0 by omega]; simp
/-- what a rounding up does, as a ratio -/
theorem R_u_ratio {p A e : Nat} (hp : 1 ≤ p) (he : e ≤ 2 ^ (p - 1)) : R .u p A * e ≤ A * (e + 1) := by
  by_cases h : bl A ≤ p
  · have h2 : R .u p A = A := by unfold R; rw [if_pos h]
    rw [h2]; exact Nat.mul_le_mul_left _ (by omega)
  · have hA : 0 < A := by
      rcases Nat.eq_zero_or_pos A with z | z
      · rw [z] at h; simp [bl] at h
      · exact z
    have h1 := Nat.le_of_lt (R_u_lt (p := p) (A := A))
    have h2 := bl_lo hA
    rw [show bl A - 1 = (p - 1) + (bl A - p) by omega, Nat.pow_add] at h2
    calc R .u p A * e ≤ (A + 2 ^ (bl A - p)) * e := Nat.mul_le_mul_right _ h1
      _ = A * e + e * 2 ^ (bl A - p) := by grind
      _ ≤ A * e + 2 ^ (p - 1) * 2 ^ (bl A - p) := Nat.add_le_add_left (Nat.mul_le_mul_right _ he) _
      _ ≤ A * e + A := Nat.add_le_add_left h2 _
      _ = A * (e + 1) := by grind
theorem root_d_ratio {p n e L : Nat} (hp : 1 ≤ p) (he : e ≤ 2 ^ (p - 1)) (hb : p + 1 ≤ bl (sts n)) (hL : 2 * L = R .d p (sts n)) : n * (e * e) ≤ (L * (e + 1)) * (L * (e + 1)) := by
  obtain ⟨w, hw, hw1, _⟩ := R_form .d hp (by omega : p < bl (sts n))
  have h3 := R_d_lt (p := p) (A := sts n)
  rw [hw] at h3 hL
  have e1 : 2 ^ (bl (sts n) - p) = 2 * 2 ^ (bl (sts n) - p - 1) := by
    rw [show bl (sts n) - p = (bl (sts n) - p - 1) + 1 by omega, Nat.pow_succ, Nat.mul_comm]; rfl
  rw [e1] at h3 hL
  generalize 2 ^ (bl (sts n) - p - 1) = c at *
  have hL2 : L = w * c := by
    have : 2 * L = 2 * (w * c) := by rw [hL]; grind
    omega
  have h4 : sq n + 1 ≤ (w + 1) * c := by
    have h5 : 2 * sq n ≤ sts n := by unfold sts; omega
    have h6 : w * (2 * c) + 2 * c = 2 * ((w + 1) * c) := by grind
    omega
  have h7 := sq_hi n
  have h8 : n ≤ ((w + 1) * c) * ((w + 1) * c) := Nat.le_of_lt (Nat.lt_of_lt_of_le h7 (Nat.mul_le_mul h4 h4))
  have h9 : (w + 1) * e ≤ w * (e + 1) := by
    have : e ≤ w := Nat.le_trans he hw1
    grind
  have h10 : ((w + 1) * c) * e ≤ L * (e + 1) := by
    rw [hL2]
    calc (w + 1) * c * e = ((w + 1) * e) * c := by grind
      _ ≤ (w * (e + 1)) * c := Nat.mul_le_mul_right _ h9
      _ = _ := by grind
  calc n * (e * e) ≤ ((w + 1) * c) * ((w + 1) * c) * (e * e) := Nat.mul_le_mul_right _ h8
    _ = ((w + 1) * c * e) * ((w + 1) * c * e) := by grind
    _ ≤ _ := Nat.mul_le_mul h10 h10
/-- the ratio of the two means grows with the ratio of the numbers -/
theorem ratio_mono {L H N D : Nat} (h : L ≤ H) (hD : D ≤ N) (hr : H * D ≤ N * L) : (L + H) * (L + H) * (N * D) ≤ (N + D) * (N + D) * (L * H) := by
  obtain ⟨y, hy⟩ := Nat.exists_eq_add_of_le hr
  have h2 : D * L ≤ N * H := Nat.mul_le_mul hD h
  obtain ⟨x, hx⟩ := Nat.exists_eq_add_of_le h2
  have e : (N + D) * (N + D) * (L * H) = (L + H) * (L + H) * (N * D) + x * y := by grind
  omega
end Mine
end
-- part APd
section
namespace Mine
/-! the meeting -/
theorem meet_step {p L H L' H' : Nat} (hp : 1 ≤ p) (fL : Fp p L) (fH : Fp p H) (h : L ≤ H) (e1 : 2 * L' = R .d p (sts (L * H))) (e2 : 2 * H' = R .u p (L + H)) (ev : (L + H) % 2 = 0) :
    L ≤ L' ∧ L' ≤ H' ∧ H' ≤ H ∧ Fp p L' ∧ Fp p H' := by
  have a1 : 2 * L ≤ R .d p (sts (L * H)) := by
    rw [← Fp.R (fp_double.mpr fL) .d]
    exact R_mono .d hp (sts_ge (Nat.mul_le_mul_left _ h))
  have a2 : R .d p (sts (L * H)) ≤ R .u p (L + H) := by
    refine Nat.le_trans R_d_le (Nat.le_trans ?_ R_u_ge)
    have := geo_le_ari (A := L) (B := H) (M := (L + H) / 2) (by omega)
    omega
  have a3 : R .u p (L + H) ≤ 2 * H := by
    rw [← Fp.R (fp_double.mpr fH) .u]
    exact R_mono .u hp (by omega)
  refine ⟨by omega, by omega, by omega, fp_double.mp ?_, fp_double.mp ?_⟩
  · rw [e1]; exact R_fp .d hp
  · rw [e2]; exact R_fp .u hp
theorem le_of_sq_mul {a b c : Nat} (hc : 0 < c) (h : a * a * c ≤ b * b * c) : a ≤ b := le_of_sq (Nat.le_of_mul_le_mul_right h hc)
def okM (e N D N' D' : Nat) : Bool := decide (D ≤ N) && decide (0 < D) && decide (0 < e) && decide ((N + D) * (N + D) * ((e + 1) * (e + 1)) * ((e + 1) * (e + 1)) * (D' * D') ≤ 4 * (N * D) * (e * e) * (e * e) * (N' * N'))
theorem meet_ratio {p L H L' H' e N D N' D' : Nat} (hp : 1 ≤ p) (he : e ≤ 2 ^ (p - 1)) (hL : 0 < L) (h : L ≤ H) (hr : H * D ≤ N * L) (ok : okM e N D N' D' = true) (hb : p + 1 ≤ bl (sts (L * H)))
    (e1 : 2 * L' = R .d p (sts (L * H))) (e2 : 2 * H' = R .u p (L + H)) : H' * D' ≤ N' * L' := by
  simp only [okM, Bool.and_eq_true, decide_eq_true_eq] at ok
  obtain ⟨⟨⟨o1, o2⟩, o3⟩, o4⟩ := ok
  have h1 := root_d_ratio hp he hb e1
  have h2 := R_u_ratio (p := p) (A := L + H) hp he
  rw [← e2] at h2
  have h3 := ratio_mono h o1 hr
  have h2' := Nat.mul_le_mul h2 h2
  have hc : 0 < 4 * (N * D) * (e * e) * (e * e) * (L * H) := by
    have : 0 < N := by omega
    have : 0 < H := by omega
    have a1 : 0 < N * D := Nat.mul_pos ‹_› ‹_›
    have a2 : 0 < e * e := Nat.mul_pos ‹_› ‹_›
    have a3 : 0 < L * H := Nat.mul_pos ‹_› ‹_›
    exact Nat.mul_pos (Nat.mul_pos (Nat.mul_pos (by omega) a2) a2) a3
  refine le_of_sq_mul hc ?_
  generalize hT : L + H = T at *
  generalize L * H = G at *
  calc H' * D' * (H' * D') * (4 * (N * D) * (e * e) * (e * e) * G) = (2 * H' * e * (2 * H' * e)) * (D' * D') * (N * D) * (G * (e * e)) := by grind
    _ ≤ (T * (e + 1) * (T * (e + 1))) * (D' * D') * (N * D) * (L' * (e + 1) * (L' * (e + 1))) := Nat.mul_le_mul (Nat.mul_le_mul_right _ (Nat.mul_le_mul_right _ h2')) h1
    _ = (T * T * (N * D)) * ((e + 1) * (e + 1) * ((e + 1) * (e + 1)) * (D' * D') * (L' * L')) := by grind
    _ ≤ ((N + D) * (N + D) * G) * ((e + 1) * (e + 1) * ((e + 1) * (e + 1)) * (D' * D') * (L' * L')) := Nat.mul_le_mul_right _ h3
    _ = ((N + D) * (N + D) * ((e + 1) * (e + 1)) * ((e + 1) * (e + 1)) * (D' * D')) * (G * (L' * L')) := by grind
    _ ≤ (4 * (N * D) * (e * e) * (e * e) * (N' * N')) * (G * (L' * L')) := Nat.mul_le_mul_right _ o4
    _ = _ := by grind
theorem near_of_cell {p n c L H : Nat} (h1 : c * 2 ^ n ≤ L) (h2 : H ≤ (c + 1) * 2 ^ n) (h3 : 2 ^ (p - 1) ≤ c) (h : L ≤ H) : Near p L H := by
  refine ⟨h, ?_⟩
  have h4 : H - L ≤ 2 ^ n := by rw [Nat.add_mul, Nat.one_mul] at h2; omega
  calc (H - L) * 2 ^ (p - 1) ≤ 2 ^ n * 2 ^ (p - 1) := Nat.mul_le_mul_right _ h4
    _ = 2 ^ (p - 1) * 2 ^ n := Nat.mul_comm _ _
    _ ≤ c * 2 ^ n := Nat.mul_le_mul_right _ h3
    _ ≤ H := Nat.le_trans h1 h
theorem fp_mul {p L : Nat} (f : Fp p L) (hb : p ≤ bl L) (h0 : 0 < L) (hp : 1 ≤ p) : ∃ l, L = l * 2 ^ (bl L - p) ∧ 2 ^ (p - 1) ≤ l ∧ l < 2 ^ p := by
  obtain ⟨l, hl⟩ := f
  rw [Nat.mul_comm] at hl
  refine ⟨l, hl, ?_, ?_⟩
  · have h1 := bl_lo h0
    have h2 : 2 ^ (bl L - 1) = 2 ^ (p - 1) * 2 ^ (bl L - p) := by rw [← Nat.pow_add]; congr 1; omega
    rw [h2] at h1
    exact Nat.le_of_mul_le_mul_right (Nat.le_trans h1 (Nat.le_of_eq hl)) (Nat.two_pow_pos _)
  · have h1 := bl_hi L
    have h2 : 2 ^ (bl L) = 2 ^ p * 2 ^ (bl L - p) := by rw [← Nat.pow_add]; congr 1; omega
    rw [h2] at h1
    exact Nat.lt_of_mul_lt_mul_right (Nat.lt_of_le_of_lt (Nat.le_of_eq hl.symm) h1)
theorem gap_sq {l d D P : Nat} (h1 : d * D ≤ l) (h2 : l < P) (h3 : P ≤ D * D) (h0 : 0 < P) : d * d ≤ l := by
  have a := Nat.mul_le_mul h1 h1
  have b : l * l ≤ l * P := Nat.mul_le_mul_left _ (Nat.le_of_lt h2)
  have c : (d * d) * P ≤ l * P := by
    calc (d * d) * P ≤ (d * d) * (D * D) := Nat.mul_le_mul_left _ h3
      _ = d * D * (d * D) := by grind
      _ ≤ _ := Nat.le_trans a b
  exact Nat.le_of_mul_le_mul_right c h0
/-- half way between: the whole number just below the root, and just not below the half -/
theorem mid {l d : Nat} (h0 : 1 ≤ l) (h : d * d ≤ l) : ∃ c, c * c ≤ l * (l + d) ∧ l + (l + d) ≤ 2 * (c + 1) ∧ l ≤ c + 1 ∧ c ≤ l + d := by
  have hd : d ≤ l := Nat.le_trans (Nat.le_mul_self d) h
  by_cases e : d % 2 = 0
  · obtain ⟨x, hx⟩ : ∃ x, d = 2 * x := ⟨d / 2, by omega⟩
    obtain ⟨m, hm⟩ : ∃ m, l = m + 1 := ⟨l - 1, by omega⟩
    subst hx; subst hm
    refine ⟨m + x, ?_, by omega, by omega, by omega⟩
    have : (m + 1) * (m + 1 + 2 * x) = (m + x) * (m + x) + (2 * m + 1 + 2 * x) - x * x := by
      have e1 : (m + x) * (m + x) + (2 * m + 1 + 2 * x) = (m + 1) * (m + 1 + 2 * x) + x * x := by grind
      omega
    have : 2 * x * (2 * x) = 4 * (x * x) := by grind
    omega
  · obtain ⟨x, hx⟩ : ∃ x, d = 2 * x + 1 := ⟨d / 2, by omega⟩
    subst hx
    refine ⟨l + x, ?_, by omega, by omega, by omega⟩
    have e1 : (l + x) * (l + x) + l = l * (l + (2 * x + 1)) + x * x := by grind
    have e2 : (2 * x + 1) * (2 * x + 1) = 4 * (x * x) + 4 * x + 1 := by grind
    omega
theorem meet_last {p L H L' H' D : Nat} (hp : 2 ≤ p) (fL : Fp p L) (fH : Fp p H) (hL : 0 < L) (h : L ≤ H) (hb : p ≤ bl L) (hD : 2 ^ p ≤ D * D) (hr : H * D ≤ (D + 1) * L)
    (e1 : 2 * L' = R .d p (sts (L * H))) (e2 : 2 * H' = R .u p (L + H)) (ev : (L + H) % 2 = 0) : Near p L' H' := by
  obtain ⟨m1, m2, m3, m4, m5⟩ := meet_step (by omega) fL fH h e1 e2 ev
  obtain ⟨l, hl, l1, l2⟩ := fp_mul fL hb hL (by omega)
  have hH : ∃ h', H = h' * 2 ^ (bl L - p) := by
    obtain ⟨q, hq⟩ := fH
    have := bl_mono h
    refine ⟨q * 2 ^ (bl H - bl L), ?_⟩
    rw [Nat.mul_assoc, ← Nat.pow_add, show bl H - bl L + (bl L - p) = bl H - p by omega, Nat.mul_comm]; exact hq
  obtain ⟨k, hk⟩ := hH
  generalize bl L - p = n at *
  have hn := Nat.two_pow_pos n
  have hlk : l ≤ k := by rw [hl, hk] at h; exact Nat.le_of_mul_le_mul_right h hn
  obtain ⟨d, rfl⟩ := Nat.exists_eq_add_of_le hlk
  have hdD : d * D ≤ l := by
    rw [hl, hk] at hr
    have : ((l + d) * D) * 2 ^ n ≤ ((D + 1) * l) * 2 ^ n := by grind
    have := Nat.le_of_mul_le_mul_right this hn
    grind
  have hdd := gap_sq hdD l2 hD (Nat.two_pow_pos p)
  have hpp : 2 ^ p = 2 * 2 ^ (p - 1) := by rw [show p = (p - 1) + 1 by omega, Nat.pow_succ, Nat.mul_comm]; rfl
  obtain ⟨c, c1, c2, c3, c4⟩ := mid (by have := Nat.two_pow_pos (p - 1); omega) hdd
  have hd : d ≤ l := Nat.le_trans (Nat.le_mul_self d) hdd
  have gL : ∀ b, b ≤ c → b ≤ 2 ^ (p + 1) → (b ≤ 2 ^ p ∨ b % 2 = 0) → b * 2 ^ n ≤ L' := by
    intro b hb hb2 hb3
    have f : Fp p (2 * (b * 2 ^ n)) := by
      refine fp_double.mpr ?_
      rcases hb3 with z | z
      · exact fp_of (by omega) z
      · have : b * 2 ^ n = b / 2 * 2 ^ (n + 1) := by
          rw [Nat.pow_succ, Nat.mul_comm (2 ^ n) 2, ← Nat.mul_assoc]; congr 1; omega
        rw [this]; exact fp_of (by omega) (by rw [Nat.pow_succ] at hb2; omega)
    have : 2 * (b * 2 ^ n) ≤ 2 * L' := by
      rw [e1, ← Fp.R f .d]
      refine R_mono .d (by omega) (sts_ge ?_)
      rw [hl, hk]
      calc b * 2 ^ n * (b * 2 ^ n) = (b * b) * (2 ^ n * 2 ^ n) := by grind
        _ ≤ (l * (l + d)) * (2 ^ n * 2 ^ n) := Nat.mul_le_mul_right _ (Nat.le_trans (Nat.mul_le_mul hb hb) c1)
        _ = _ := by grind
    omega
  have gH : ∀ b, c + 1 ≤ b → b ≤ 2 ^ (p + 1) → (b ≤ 2 ^ p ∨ b % 2 = 0) → H' ≤ b * 2 ^ n := by
    intro b hb hb2 hb3
    have f : Fp p (2 * (b * 2 ^ n)) := by
      refine fp_double.mpr ?_
      rcases hb3 with z | z
      · exact fp_of (by omega) z
      · have : b * 2 ^ n = b / 2 * 2 ^ (n + 1) := by
          rw [Nat.pow_succ, Nat.mul_comm (2 ^ n) 2, ← Nat.mul_assoc]; congr 1; omega
        rw [this]; exact fp_of (by omega) (by rw [Nat.pow_succ] at hb2; omega)
    have : 2 * H' ≤ 2 * (b * 2 ^ n) := by
      rw [e2, ← Fp.R f .u]
      refine R_mono .u (by omega) ?_
      rw [hl, hk, ← Nat.add_mul, ← Nat.mul_assoc]
      exact Nat.mul_le_mul_right _ (by omega)
    omega
  have hp1 : 2 ^ (p + 1) = 2 * 2 ^ p := by rw [Nat.pow_succ, Nat.mul_comm]
  refine ⟨m2, ?_⟩
  by_cases hc : c + 1 ≤ 2 ^ p
  · have a := gL c (Nat.le_refl _) (by omega) (.inl (by omega))
    have b := gH (c + 1) (Nat.le_refl _) (by omega) (.inl hc)
    have h4 : H' - L' ≤ 2 ^ n := by rw [Nat.add_mul, Nat.one_mul] at b; omega
    calc (H' - L') * 2 ^ (p - 1) ≤ 2 ^ n * 2 ^ (p - 1) := Nat.mul_le_mul_right _ h4
      _ = 2 ^ (p - 1) * 2 ^ n := Nat.mul_comm _ _
      _ ≤ l * 2 ^ n := Nat.mul_le_mul_right _ l1
      _ ≤ H' := by omega
  · have q : 2 ^ p % 2 = 0 := by omega
    have a := gL (c / 2 * 2) (by omega) (by omega) (.inr (by omega))
    have b := gH (c / 2 * 2 + 2) (by omega) (by omega) (.inr (by omega))
    have h4 : H' - L' ≤ 2 * 2 ^ n := by rw [Nat.add_mul] at b; omega
    calc (H' - L') * 2 ^ (p - 1) ≤ (2 * 2 ^ n) * 2 ^ (p - 1) := Nat.mul_le_mul_right _ h4
      _ = 2 ^ p * 2 ^ n := by rw [hpp]; grind
      _ ≤ (c / 2 * 2) * 2 ^ n := Nat.mul_le_mul_right _ (by omega)
      _ ≤ H' := by omega
end Mine
end
-- part APe
section
namespace Mine
def mstep (p : Nat) (s : Nat × Nat) : Nat × Nat := (R .d p (sts (s.1 * s.2)) / 2, R .u p (s.1 + s.2) / 2)
def mIter (p : Nat) : Nat → Nat × Nat → Nat × Nat
  | 0, s => s
  | n + 1, s => mIter p n (mstep p s)
theorem mIter_last (p : Nat) : ∀ n s, mIter p (n + 1) s = mstep p (mIter p n s)
  | 0, _ => rfl
  | n + 1, s => by show mIter p (n + 1) (mstep p s) = _; rw [mIter_last p n]; rfl
structure MInv (p : Nat) (s : Nat × Nat) : Prop where
  fL : Fp p s.1
  fH : Fp p s.2
  big : 2 ^ 120 ≤ s.1
  le : s.1 ≤ s.2
structure PR (p : Nat) : Prop where
  lo : 30 ≤ p
  hi : p ≤ 99
theorem even_of_fp {p L : Nat} (f : Fp p L) (h : p < bl L) : L % 2 = 0 := by
  obtain ⟨q, hq⟩ := f
  rw [show bl L - p = (bl L - p - 1) + 1 by omega, Nat.pow_succ] at hq
  rw [hq, Nat.mul_comm _ 2, Nat.mul_assoc]; exact Nat.mul_mod_right _ _
theorem big_bl {L : Nat} (h : 2 ^ 120 ≤ L) : 120 < bl L := lt_bl h
theorem sts_big {N : Nat} (h : 2 ^ 240 ≤ N) : 2 ^ 120 ≤ sts N := by
  have : 2 ^ 120 * 2 ^ 120 ≤ N := by rw [← Nat.pow_add]; exact h
  have := sts_ge this
  omega
theorem R_even {r : Rm} {p W : Nat} (hp : 1 ≤ p) (h : p < bl W) : R r p W % 2 = 0 := by
  obtain ⟨q, hq, _⟩ := R_form r hp h
  rw [hq, show bl W - p = (bl W - p - 1) + 1 by omega, Nat.pow_succ, Nat.mul_comm _ 2, ← Nat.mul_assoc, Nat.mul_right_comm]
  exact Nat.mul_mod_left _ _
section
variable {p : Nat} (hp : PR p) {s : Nat × Nat} (I : MInv p s)
include hp I
theorem MInv.facts : 120 < bl s.1 ∧ 120 < bl s.2 ∧ (s.1 + s.2) % 2 = 0 ∧ 120 < bl (sts (s.1 * s.2)) ∧ 120 < bl (s.1 + s.2) ∧ 2 * (mstep p s).1 = R .d p (sts (s.1 * s.2)) ∧ 2 * (mstep p s).2 = R .u p (s.1 + s.2) := by
  have h1 := hp.lo
  have h2 := hp.hi
  have h3 := big_bl I.big
  have h4 := big_bl (Nat.le_trans I.big I.le)
  have h5 : 2 ^ 240 ≤ s.1 * s.2 := by
    have := Nat.mul_le_mul I.big (Nat.le_trans I.big I.le)
    rw [← Nat.pow_add] at this; exact this
  have h6 := big_bl (sts_big h5)
  have h7 := big_bl (Nat.le_trans I.big (Nat.le_add_right s.1 s.2))
  have h8 := even_of_fp I.fL (by omega)
  have h9 := even_of_fp I.fH (by omega)
  have h10 := R_even (r := .d) (p := p) (by omega) (by omega : p < bl (sts (s.1 * s.2)))
  have h11 := R_even (r := .u) (p := p) (by omega) (by omega : p < bl (s.1 + s.2))
  exact ⟨h3, h4, by omega, h6, h7, by show 2 * (_ / 2) = _; omega, by show 2 * (_ / 2) = _; omega⟩
theorem MInv.step : MInv p (mstep p s) ∧ s.1 ≤ (mstep p s).1 ∧ (mstep p s).2 ≤ s.2 := by
  have h1 := hp.lo
  obtain ⟨h3, h4, h5, h6, h7, e1, e2⟩ := I.facts hp
  obtain ⟨a, b, c, d, e⟩ := meet_step (by omega) I.fL I.fH I.le e1 e2 h5
  exact ⟨⟨d, e, Nat.le_trans I.big a, b⟩, a, c⟩
theorem MInv.ratio {e N D N' D' : Nat} (he : e ≤ 2 ^ (p - 1)) (hr : s.2 * D ≤ N * s.1) (ok : okM e N D N' D' = true) : (mstep p s).2 * D' ≤ N' * (mstep p s).1 := by
  have h1 := hp.lo
  have h2 := hp.hi
  obtain ⟨h3, h4, h5, h6, h7, e1, e2⟩ := I.facts hp
  exact meet_ratio (by omega) he (Nat.lt_of_lt_of_le (Nat.two_pow_pos 120) I.big) I.le hr ok (by omega) e1 e2
end
theorem MInv.iter {p : Nat} (hp : PR p) : ∀ n {s : Nat × Nat}, MInv p s → MInv p (mIter p n s)
  | 0, _, I => I
  | n + 1, _, I => MInv.iter hp n (I.step hp).1
def chM (e : Nat) : Nat × Nat → List (Nat × Nat) → Bool
  | _, [] => true
  | t, u :: ts => okM e t.1 t.2 u.1 u.2 && chM e u ts
theorem chM_run {p e : Nat} (hp : PR p) (he : e ≤ 2 ^ (p - 1)) : ∀ (ts : List (Nat × Nat)) (t s : Nat × Nat), chM e t ts = true → MInv p s → s.2 * t.2 ≤ t.1 * s.1 → (mIter p ts.length s).2 * (ts.getLastD t).2 ≤ (ts.getLastD t).1 * (mIter p ts.length s).1
  | [], _, _, _, _, h => h
  | u :: ts, t, s, hc, I, h => by
    simp only [chM, Bool.and_eq_true] at hc
    have := chM_run hp he ts u (mstep p s) hc.2 (I.step hp).1 (I.ratio hp he h hc.1)
    rw [List.getLastD_cons]
    exact this
def m1 : List (Nat × Nat) := [(2361183250230915637249, 134217728), (281474978283537, 134217728), (97184062974, 134217728), (1808305693, 134217728), (264609412, 134217728), (142022453, 134217728), (134271331, 134217728), (134217732, 134217728), (134217729, 134217728), (134217729, 134217728), (134217729, 134217728), (134217729, 134217728), (134217729, 134217728)]
def m2 : List (Nat × Nat) := [(618970019642690206169038849, 35184372088832), (73786976294842413057, 35184372088832), (25476218838105820, 35184372088832), (474036484031945, 35184372088832), (69365769009439, 35184372088832), (37230333570962, 35184372088832), (35198423543273, 35184372088832), (35184372790012, 35184372088832), (35184372088833, 35184372088832), (35184372088833, 35184372088832), (35184372088833, 35184372088832), (35184372088833, 35184372088832), (35184372088833, 35184372088832)]
theorem m1_ok : chM (2 ^ 29) (2 ^ 90, 1) m1 = true := by decide +kernel
theorem m2_ok : chM (2 ^ 54) (2 ^ 90, 1) m2 = true := by decide +kernel
theorem meeting_last {p D : Nat} (hp : PR p) {s : Nat × Nat} (I : MInv p s) (hD : 2 ^ p ≤ D * D) (hr : s.2 * D ≤ (D + 1) * s.1) : Near p (mstep p s).1 (mstep p s).2 := by
  have h1 := hp.lo
  have h2 := hp.hi
  obtain ⟨h3, h4, h5, h6, h7, e1, e2⟩ := I.facts hp
  exact meet_last (by omega) I.fL I.fH (Nat.lt_of_lt_of_le (Nat.two_pow_pos 120) I.big) I.le (by omega) hD hr e1 e2 h5
theorem meeting_near {p : Nat} (h1 : 30 ≤ p) (h2 : p ≤ 89) {s : Nat × Nat} (I : MInv p s) (h : s.2 ≤ 2 ^ 90 * s.1) : Near p (mIter p 14 s).1 (mIter p 14 s).2 := by
  have hp : PR p := ⟨h1, by omega⟩
  rw [mIter_last p 13]
  rcases Nat.lt_or_ge p 55 with c | c
  · refine meeting_last (D := 2 ^ 27) hp (I.iter hp 13) ?_ (chM_run hp (e := 2 ^ 29) (pow_le_of (by omega)) m1 (2 ^ 90, 1) s m1_ok I (by simpa using h))
    rw [← Nat.pow_add]; exact pow_le_of (by omega)
  · refine meeting_last (D := 2 ^ 45) hp (I.iter hp 13) ?_ (chM_run hp (e := 2 ^ 54) (pow_le_of (by omega)) m2 (2 ^ 90, 1) s m2_ok I (by simpa using h))
    rw [← Nat.pow_add]; exact pow_le_of (by omega)
end Mine
end
-- part APf
section
namespace Mine
/-! the root by halving -/
def rq1 (p N X : Nat) : Nat := R .u (p + 10) (str N X) / 2
def rstep (p N X : Nat) : Nat := R .u p (X + rq1 p N X) / 2
def rIter (p N : Nat) : Nat → Nat → Nat
  | 0, X => X
  | n + 1, X => rIter p N n (rstep p N X)
theorem rIter_last (p N : Nat) : ∀ n X, rIter p N (n + 1) X = rstep p N (rIter p N n X)
  | 0, _ => rfl
  | n + 1, X => by show rIter p N (n + 1) (rstep p N X) = _; rw [rIter_last p N n]; rfl
def due (p N : Nat) : Nat := R .u p (sts N) / 2
/-- what is kept: N the number, X not below its root -/
structure RInv (p N X : Nat) : Prop where
  f : Fp p X
  big : 2 ^ 240 ≤ N
  ge : N ≤ X * X
  le : X * X ≤ 4 * N
section
variable {p : Nat} (hp : PR p) {N X : Nat} (I : RInv p N X)
include I in
theorem RInv.bigX : 2 ^ 120 ≤ X := le_of_sq (Nat.le_trans (by rw [← Nat.pow_add]; exact I.big) I.ge)
include hp I
theorem RInv.facts : 120 < bl X ∧ X % 2 = 0 ∧ 115 < bl (str N X) ∧ 2 * rq1 p N X = R .u (p + 10) (str N X) ∧ N ≤ rq1 p N X * X ∧ rq1 p N X ≤ X ∧ Fp (p + 10) (rq1 p N X) ∧ 115 < bl (rq1 p N X) + 1 := by
  have h1 := hp.lo
  have h2 := hp.hi
  have h3 := big_bl I.bigX
  have h0 : 0 < X := Nat.lt_of_lt_of_le (Nat.two_pow_pos 120) I.bigX
  have h4 := even_of_fp I.f (by omega)
  have h5 : 2 ^ 115 ≤ str N X := by
    have : 2 ^ 118 ≤ N / X := by
      rw [Nat.le_div_iff_mul_le h0]
      have := Nat.mul_le_mul_right X I.bigX
      have := I.le
      omega
    have := str_bounds N h0
    omega
  have h6 : 115 < bl (str N X) := lt_bl h5
  have h7 := R_even (r := .u) (p := p + 10) (by omega) (by omega : p + 10 < bl (str N X))
  have h8 : 2 * rq1 p N X = R .u (p + 10) (str N X) := by show 2 * (_ / 2) = _; omega
  have h9 : Fp (p + 10) (2 * rq1 p N X) := by rw [h8]; exact R_fp .u (by omega)
  have h10 : str N X ≤ 2 * rq1 p N X := by rw [h8]; exact R_u_ge
  refine ⟨h3, h4, h6, h8, str_up h0 h10, ?_, fp_double.mp h9, ?_⟩
  · have : R .u (p + 10) (str N X) ≤ 2 * X := by
      rw [← Fp.R (fp_double.mpr (I.f.more (by omega : p ≤ p + 10))) .u]
      refine R_mono .u (by omega) ?_
      rw [← str_exact X h0]
      exact str_mono h0 h0 (Nat.mul_le_mul_right _ I.ge)
    omega
  · have a := bl_mono h10
    have b : bl (2 * rq1 p N X) ≤ bl (rq1 p N X) + 1 := bl_le (by rw [Nat.pow_succ]; have := bl_hi (rq1 p N X); omega)
    omega
theorem RInv.sum : (X + rq1 p N X) % 2 = 0 ∧ 120 < bl (X + rq1 p N X) ∧ 2 * rstep p N X = R .u p (X + rq1 p N X) := by
  have h1 := hp.lo
  have h2 := hp.hi
  obtain ⟨h3, h4, h5, h6, h7, h8, h9, h10⟩ := I.facts hp
  have h11 := even_of_fp h9 (by omega)
  have h12 := big_bl (Nat.le_trans I.bigX (Nat.le_add_right X (rq1 p N X)))
  have h13 := R_even (r := .u) (p := p) (by omega) (by omega : p < bl (X + rq1 p N X))
  exact ⟨by omega, h12, by show 2 * (_ / 2) = _; omega⟩
theorem RInv.step : RInv p N (rstep p N X) ∧ rstep p N X ≤ X ∧ due p N ≤ rstep p N X := by
  have h1 := hp.lo
  have h2 := hp.hi
  obtain ⟨h3, h4, h5, h6, h7, h8, h9, _⟩ := I.facts hp
  obtain ⟨h10, h11, h12⟩ := I.sum hp
  have f : Fp p (rstep p N X) := by rw [← fp_double, h12]; exact R_fp .u (by omega)
  have a1 : X + rq1 p N X ≤ 2 * rstep p N X := by rw [h12]; exact R_u_ge
  have a2 : 2 * rstep p N X ≤ 2 * X := by
    rw [h12, ← Fp.R (fp_double.mpr I.f) .u]
    exact R_mono .u (by omega) (by omega)
  have a3 : N ≤ rstep p N X * rstep p N X := by
    have b := Nat.mul_le_mul a1 a1
    have c : 4 * (rq1 p N X * X) ≤ (X + rq1 p N X) * (X + rq1 p N X) := by
      obtain ⟨d, hd⟩ := Nat.exists_eq_add_of_le h8
      generalize rq1 p N X = q at *
      subst hd; grind
    have e : 2 * rstep p N X * (2 * rstep p N X) = 4 * (rstep p N X * rstep p N X) := by grind
    omega
  have a4 : rstep p N X ≤ X := by omega
  refine ⟨⟨f, I.big, a3, Nat.le_trans (Nat.mul_le_mul a4 a4) I.le⟩, a4, ?_⟩
  · have : R .u p (sts N) ≤ 2 * rstep p N X := by
      rw [← Fp.R (fp_double.mpr f) .u]
      exact R_mono .u (by omega) (sts_le a3)
    show R .u p (sts N) / 2 ≤ _
    omega
theorem RInv.q_ratio {e : Nat} (he : e + 1 ≤ 2 ^ (p + 9)) : rq1 p N X * X * e ≤ N * (e + 1) := by
  have h1 := hp.lo
  have h2 := hp.hi
  obtain ⟨h3, h4, h5, h6, h7, h8, h9, _⟩ := I.facts hp
  have h0 : 0 < X := Nat.lt_of_lt_of_le (Nat.two_pow_pos 120) I.bigX
  obtain ⟨b, hb, hb1, _⟩ := R_form .u (by omega) (by omega : p + 10 < bl (str N X))
  have h10 := R_u_lt (p := p + 10) (A := str N X)
  have h11 := str_bounds N h0
  have e1 : 2 ^ (bl (str N X) - (p + 10)) = 2 * 2 ^ (bl (str N X) - (p + 10) - 1) := by
    rw [show bl (str N X) - (p + 10) = (bl (str N X) - (p + 10) - 1) + 1 by omega, Nat.pow_succ, Nat.mul_comm]; rfl
  rw [← h6] at hb h10
  rw [e1] at hb h10
  generalize 2 ^ (bl (str N X) - (p + 10) - 1) = u at *
  generalize rq1 p N X = q at *
  have hq : q = b * u := by
    have : 2 * q = 2 * (b * u) := by rw [hb]; grind
    omega
  obtain ⟨b', rfl⟩ : ∃ b', b = b' + 1 := ⟨b - 1, by have : 0 < 2 ^ (p + 10 - 1) := Nat.two_pow_pos _; omega⟩
  have h12 : b' * u ≤ N / X := by
    rw [Nat.add_mul, Nat.one_mul] at hq
    omega
  have h13 : b' * u * X ≤ N := (Nat.le_div_iff_mul_le h0).mp h12
  have h14 : (b' + 1) * e ≤ b' * (e + 1) := by
    have : e ≤ b' := by rw [show p + 10 - 1 = p + 9 by omega] at hb1; omega
    grind
  calc q * X * e = ((b' + 1) * e) * (u * X) := by rw [hq]; grind
    _ ≤ (b' * (e + 1)) * (u * X) := Nat.mul_le_mul_right _ h14
    _ = (b' * u * X) * (e + 1) := by grind
    _ ≤ _ := Nat.mul_le_mul_right _ h13
end
def okR (e N D N' D' : Nat) : Bool := decide (D ≤ N) && decide (0 < D) && decide (0 < e) && decide ((N + D) * (N + D) * ((e + 1) * (e + 1)) * ((e + 1) * (e + 1)) * D' ≤ 4 * (N * D) * (e * e) * (e * e) * N')
section
variable {p : Nat} (hp : PR p) {N X : Nat} (I : RInv p N X)
include hp I
theorem RInv.sum_ratio {e : Nat} (he : e + 1 ≤ 2 ^ (p + 9)) : (X + rq1 p N X) * X * e ≤ (N + X * X) * (e + 1) := by
  have := I.q_ratio hp he
  generalize rq1 p N X = q at *
  have a : (X + q) * X * e = X * X * e + q * X * e := by grind
  have b : (N + X * X) * (e + 1) = N * (e + 1) + X * X * e + X * X := by grind
  omega
theorem RInv.ratio {e M D M' D' : Nat} (he : e ≤ 2 ^ (p - 1)) (hr : X * X * D ≤ M * N) (ok : okR e M D M' D' = true) : rstep p N X * rstep p N X * D' ≤ M' * N := by
  simp only [okR, Bool.and_eq_true, decide_eq_true_eq] at ok
  obtain ⟨⟨⟨o1, o2⟩, o3⟩, o4⟩ := ok
  have h1 := hp.lo
  have h0 : 0 < X := Nat.lt_of_lt_of_le (Nat.two_pow_pos 120) I.bigX
  have he2 : e + 1 ≤ 2 ^ (p + 9) := by
    have : 2 ^ (p - 1) + 1 ≤ 2 ^ (p + 9) := by
      have : 2 ^ (p - 1) < 2 ^ (p + 9) := Nat.pow_lt_pow_right (by decide) (by omega)
      omega
    omega
  have h3 := I.sum_ratio hp he2
  obtain ⟨_, _, h4⟩ := I.sum hp
  have h5 := R_u_ratio (p := p) (A := X + rq1 p N X) (by omega) he
  rw [← h4] at h5
  have h6 := ratio_mono I.ge o1 hr
  generalize rstep p N X = Y at *
  generalize X + rq1 p N X = T at *
  have h7 : 2 * Y * e * (X * e) ≤ (N + X * X) * ((e + 1) * (e + 1)) := by
    calc 2 * Y * e * (X * e) ≤ T * (e + 1) * (X * e) := Nat.mul_le_mul_right _ h5
      _ = (T * X * e) * (e + 1) := by grind
      _ ≤ ((N + X * X) * (e + 1)) * (e + 1) := Nat.mul_le_mul_right _ h3
      _ = _ := by grind
  have h8 := Nat.mul_le_mul h7 h7
  have hc : 0 < 4 * (M * D) * (e * e) * (e * e) * (X * X) := by
    have : 0 < M := by omega
    have a1 : 0 < M * D := Nat.mul_pos ‹_› ‹_›
    have a2 : 0 < e * e := Nat.mul_pos ‹_› ‹_›
    have a3 : 0 < X * X := Nat.mul_pos ‹_› ‹_›
    exact Nat.mul_pos (Nat.mul_pos (Nat.mul_pos (by omega) a2) a2) a3
  refine Nat.le_of_mul_le_mul_right ?_ hc
  generalize N + X * X = S at *
  calc Y * Y * D' * (4 * (M * D) * (e * e) * (e * e) * (X * X)) = (2 * Y * e * (X * e) * (2 * Y * e * (X * e))) * (D' * (M * D)) := by grind
    _ ≤ (S * ((e + 1) * (e + 1)) * (S * ((e + 1) * (e + 1)))) * (D' * (M * D)) := Nat.mul_le_mul_right _ h8
    _ = (S * S * (M * D)) * ((e + 1) * (e + 1) * ((e + 1) * (e + 1)) * D') := by grind
    _ ≤ ((M + D) * (M + D) * (N * (X * X))) * ((e + 1) * (e + 1) * ((e + 1) * (e + 1)) * D') := Nat.mul_le_mul_right _ h6
    _ = ((M + D) * (M + D) * ((e + 1) * (e + 1)) * ((e + 1) * (e + 1)) * D') * (N * (X * X)) := by grind
    _ ≤ (4 * (M * D) * (e * e) * (e * e) * M') * (N * (X * X)) := Nat.mul_le_mul_right _ o4
    _ = _ := by grind
end
theorem numeric {P Z : Nat} (h0 : 0 < Z) (h : P ≤ 4 * Z) : (4 * Z + 1) * ((256 * P + 1) * (256 * P + 1)) * (P * P) ≤ 4 * ((P + 1) * (P + 1)) * ((256 * P) * (256 * P)) * Z := by
  have key : (4 * Z + 1) * ((256 * P + 1) * (256 * P + 1)) ≤ 4 * ((P + 1) * (P + 1)) * 65536 * Z := by
    have a : (4 * Z + 1) * ((256 * P + 1) * (256 * P + 1)) = 65536 * (4 * Z * (P * P)) + 512 * (4 * Z * P) + 4 * Z + 65536 * (P * P) + 512 * P + 1 := by grind
    have b : 4 * ((P + 1) * (P + 1)) * 65536 * Z = 65536 * (4 * Z * (P * P)) + 131072 * (4 * Z * P) + 65536 * (4 * Z) := by grind
    have c : P * P ≤ 4 * Z * P := Nat.mul_le_mul_right _ h
    omega
  calc (4 * Z + 1) * ((256 * P + 1) * (256 * P + 1)) * (P * P) ≤ 4 * ((P + 1) * (P + 1)) * 65536 * Z * (P * P) := Nat.mul_le_mul_right _ key
    _ = _ := by grind
section
variable {p : Nat} (hp : PR p) {N X : Nat} (I : RInv p N X)
include hp I
theorem root_last {D : Nat} (hr : X * X * D ≤ (D + 1) * N) (h0 : 0 < D) (hD : 2 ^ p ≤ 4 * (D * (D + 1))) : Near p (due p N) (rstep p N X) := by
  have h1 := hp.lo
  have h2 := hp.hi
  have hX : 0 < X := Nat.lt_of_lt_of_le (Nat.two_pow_pos 120) I.bigX
  obtain ⟨_, i2, i3⟩ := I.step hp
  obtain ⟨_, _, h4⟩ := I.sum hp
  have hS : 2 ^ 120 ≤ sts N := sts_big I.big
  have hb : p < bl (sts N) := by have := big_bl hS; omega
  have d2 : 2 * due p N = R .u p (sts N) := by have := R_even (r := .u) (p := p) (by omega) hb; show 2 * (_ / 2) = _; omega
  have dF : Fp p (due p N) := by rw [← fp_double, d2]; exact R_fp .u (by omega)
  have dN : N ≤ due p N * due p N := sts_up (by rw [d2]; exact R_u_ge)
  have dB : 2 ^ 119 ≤ due p N := by have : sts N ≤ 2 * due p N := by rw [d2]; exact R_u_ge
                                    omega
  have dbl : 119 < bl (due p N) := lt_bl dB
  obtain ⟨w, hw, w1, w2⟩ := fp_mul dF (by omega) (by omega) (by omega)
  generalize bl (due p N) - p = n at *
  have h3 := I.sum_ratio hp (e := 256 * 2 ^ p) (by
    have : 256 * 2 ^ p = 2 ^ (p + 8) := by rw [Nat.pow_add, Nat.mul_comm]
    rw [this]; exact Nat.pow_lt_pow_right (by decide) (by omega))
  have h6 := ratio_mono I.ge (N := D + 1) (D := D) (by omega) hr
  have hn := numeric (P := 2 ^ p) (Z := D * (D + 1)) (Nat.mul_pos h0 (by omega)) hD
  have hT : X + rq1 p N X ≤ 2 * ((w + 1) * 2 ^ n) := by
    have hP := Nat.two_pow_pos p
    have key : (X + rq1 p N X) * 2 ^ p ≤ 2 * due p N * (2 ^ p + 1) := by
      generalize rstep p N X = Y at *
      generalize X + rq1 p N X = T at *
      generalize due p N = u at *
      generalize 2 ^ p = P at *
      refine le_of_sq_mul (c := (256 * P) * (256 * P) * (D * (D + 1)) * (X * X)) ?_ ?_
      · exact Nat.mul_pos (Nat.mul_pos (Nat.mul_pos (by omega) (by omega)) (Nat.mul_pos h0 (by omega))) (Nat.mul_pos hX hX)
      · have h8 := Nat.mul_le_mul h3 h3
        calc T * P * (T * P) * ((256 * P) * (256 * P) * (D * (D + 1)) * (X * X)) = (T * X * (256 * P) * (T * X * (256 * P))) * (P * P * (D * (D + 1))) := by grind
          _ ≤ ((N + X * X) * (256 * P + 1) * ((N + X * X) * (256 * P + 1))) * (P * P * (D * (D + 1))) := Nat.mul_le_mul_right _ h8
          _ = ((N + X * X) * (N + X * X) * ((D + 1) * D)) * ((256 * P + 1) * (256 * P + 1) * (P * P)) := by grind
          _ ≤ ((D + 1 + D) * (D + 1 + D) * (N * (X * X))) * ((256 * P + 1) * (256 * P + 1) * (P * P)) := Nat.mul_le_mul_right _ h6
          _ = ((4 * (D * (D + 1)) + 1) * ((256 * P + 1) * (256 * P + 1)) * (P * P)) * (N * (X * X)) := by grind
          _ ≤ (4 * ((P + 1) * (P + 1)) * ((256 * P) * (256 * P)) * (D * (D + 1))) * (N * (X * X)) := Nat.mul_le_mul_right _ hn
          _ ≤ (4 * ((P + 1) * (P + 1)) * ((256 * P) * (256 * P)) * (D * (D + 1))) * (u * u * (X * X)) := Nat.mul_le_mul_left _ (Nat.mul_le_mul_right _ dN)
          _ = _ := by grind
    have h9 : due p N ≤ 2 ^ p * 2 ^ n := by rw [hw]; exact Nat.mul_le_mul_right _ (Nat.le_of_lt w2)
    generalize X + rq1 p N X = T at *
    rw [hw] at key h9
    generalize 2 ^ n = c at *
    generalize 2 ^ p = P at *
    refine Nat.le_of_mul_le_mul_right (c := P) ?_ hP
    calc T * P ≤ 2 * (w * c) * (P + 1) := key
      _ = 2 * (w * c) * P + 2 * (w * c) := by grind
      _ ≤ 2 * (w * c) * P + 2 * (P * c) := by omega
      _ = _ := by grind
  have hY : rstep p N X ≤ (w + 1) * 2 ^ n := by
    have : R .u p (X + rq1 p N X) ≤ 2 * ((w + 1) * 2 ^ n) := by
      rw [← Fp.R (fp_double.mpr (fp_of (by omega) (by omega : w + 1 ≤ 2 ^ p))) .u]
      exact R_mono .u (by omega) hT
    omega
  exact near_of_cell (Nat.le_of_eq hw.symm) hY w1 i3
end
theorem RInv.iter {p N : Nat} (hp : PR p) : ∀ n {X : Nat}, RInv p N X → RInv p N (rIter p N n X)
  | 0, _, I => I
  | n + 1, _, I => RInv.iter hp n (I.step hp).1
def chR (e : Nat) : Nat × Nat → List (Nat × Nat) → Bool
  | _, [] => true
  | t, u :: ts => okR e t.1 t.2 u.1 u.2 && chR e u ts
theorem chR_run {p N e : Nat} (hp : PR p) (he : e ≤ 2 ^ (p - 1)) : ∀ (ts : List (Nat × Nat)) (t : Nat × Nat) (X : Nat), chR e t ts = true → RInv p N X → X * X * t.2 ≤ t.1 * N → rIter p N ts.length X * rIter p N ts.length X * (ts.getLastD t).2 ≤ (ts.getLastD t).1 * N
  | [], _, _, _, _, h => h
  | u :: ts, t, X, hc, I, h => by
    simp only [chR, Bool.and_eq_true] at hc
    have := chR_run hp he ts u (rstep p N X) hc.2 (I.step hp).1 (I.ratio hp he h hc.1)
    rw [List.getLastD_cons]
    exact this
def r1 : List (Nat × Nat) := [(104857601, 67108864), (70506251, 67108864), (67149791, 67108864), (67108871, 67108864), (67108865, 67108864), (67108865, 67108864), (67108865, 67108864), (67108865, 67108864), (67108865, 67108864)]
def r2 : List (Nat × Nat) := [(54975581388801, 35184372088832), (36965580925830, 35184372088832), (35205829244662, 35184372088832), (35184375358245, 35184372088832), (35184372088833, 35184372088832), (35184372088833, 35184372088832), (35184372088833, 35184372088832), (35184372088833, 35184372088832), (35184372088833, 35184372088832)]
theorem r1_ok : chR (2 ^ 29) (4, 1) r1 = true := by decide +kernel
theorem r2_ok : chR (2 ^ 54) (4, 1) r2 = true := by decide +kernel
theorem root_near {p N X : Nat} (h1 : 30 ≤ p) (h2 : p ≤ 89) (I : RInv p N X) : Near p (due p N) (rIter p N 10 X) := by
  have hp : PR p := ⟨h1, by omega⟩
  rw [rIter_last p N 9]
  have hs : X * X * 1 ≤ 4 * N := by rw [Nat.mul_one]; exact I.le
  rcases Nat.lt_or_ge p 55 with c | c
  · refine root_last hp (I.iter hp 9) (D := 2 ^ 26) (chR_run hp (e := 2 ^ 29) (pow_le_of (by omega)) r1 (4, 1) X r1_ok I hs) (by decide) ?_
    exact Nat.le_trans (pow_le_of (by omega : p ≤ 54)) (by decide)
  · refine root_last hp (I.iter hp 9) (D := 2 ^ 45) (chR_run hp (e := 2 ^ 54) (pow_le_of (by omega)) r2 (4, 1) X r2_ok I hs) (by decide) ?_
    exact Nat.le_trans (pow_le_of (by omega : p ≤ 89)) (by decide)
end Mine
end
-- part APg
section
open PySem PySem.W PyProof.Rows
set_option maxRecDepth 100000
set_option linter.unusedSimpArgs false
namespace Mine
def od (n : Nat) : Nat := if h : n = 0 then 0 else if n % 2 = 1 then n else od (n / 2)
termination_by n
decreasing_by omega
def tz (n : Nat) : Nat := if h : n = 0 then 0 else if n % 2 = 1 then 0 else tz (n / 2) + 1
termination_by n
decreasing_by omega
theorem od_spec (n : Nat) : 0 < n → n = od n * 2 ^ tz n ∧ od n % 2 = 1 := by
  induction n using Nat.strongRecOn with
  | ind n ih =>
    intro h
    unfold od tz
    rw [dif_neg (by omega), dif_neg (by omega)]
    split
    · rename_i h1; simp [h1]
    · rename_i h1
      obtain ⟨a, b⟩ := ih (n / 2) (by omega) (by omega)
      refine ⟨?_, b⟩
      rw [Nat.pow_succ, ← Nat.mul_assoc, ← a]; omega
theorem od_mul {m : Nat} (hm : m % 2 = 1) : ∀ k, od (m * 2 ^ k) = m ∧ tz (m * 2 ^ k) = k
  | 0 => by
    unfold od tz
    simp only [Nat.pow_zero, Nat.mul_one]
    rw [dif_neg (by omega), dif_neg (by omega), if_pos hm, if_pos hm]; simp
  | k + 1 => by
    obtain ⟨a, b⟩ := od_mul hm k
    have h0 : 0 < m * 2 ^ k := Nat.mul_pos (by omega) (Nat.two_pow_pos k)
    have e : m * 2 ^ (k + 1) = 2 * (m * 2 ^ k) := by rw [Nat.pow_succ]; grind
    unfold od tz
    rw [e]
    rw [dif_neg (by omega), dif_neg (by omega), if_neg (by omega), if_neg (by omega)]
    rw [Nat.mul_div_cancel_left _ (by decide), a, b]; simp
/-- a number above 0, as the text has it -/
def mpf (m : Nat) (e : Int) : PyData := .tuple [.int 0, .int m, .int e, .int (bl m)]
def fz : PyData := .tuple [.int 0, .int 0, .int 0, .int 0]
def num (K V : Nat) : PyData := if V = 0 then fz else mpf (od V) ((tz V : Int) - K)
theorem num_of {K m k : Nat} (h : m % 2 = 1) : num K (m * 2 ^ k) = mpf m ((k : Int) - K) := by
  obtain ⟨a, b⟩ := od_mul h k
  unfold num
  rw [if_neg (by have := Nat.mul_pos (by omega : 0 < m) (Nat.two_pow_pos k); omega), a, b]
theorem num_zero (K : Nat) : num K 0 = fz := rfl
theorem num_cases {K V : Nat} (h : 0 < V) : ∃ m k : Nat, m % 2 = 1 ∧ V = m * 2 ^ k ∧ num K V = mpf m ((k : Int) - K) := by
  obtain ⟨a, b⟩ := od_spec V h
  exact ⟨od V, tz V, b, a, by unfold num; rw [if_neg (by omega)]⟩
abbrev cf (d : Nat) : Nat → List PyData → Option PyData := cfD gs sd fbs 1000 d
theorem cf_eq {d f : Nat} {ds full : List PyData} {fb : FB} {B : S} {ρ : Env'} {r : PyData} (hf : fbs[f]? = some fb) (hl : fill fb ds = some full) (hB : fb.body = B) (hρ : start fb full = ρ) (h : runS gs sd (cf d) 1000 B ρ = some (.ret r)) : cf (d + 1) f ds = some r := by
  show cfS gs sd fbs 1000 (cf d) f ds = _
  unfold cfS
  rw [hf]
  dsimp only
  rw [hl]
  dsimp only
  rw [hB, hρ, h]
theorem ib (n : Nat) : Builtin.Int.intBits (n : Int) = bl n := by
  unfold Builtin.Int.intBits bl
  by_cases h : n = 0
  · subst h; rfl
  · rw [if_neg h]
    have : ((n : Int) == 0) = false := by simpa using h
    rw [this]
    simp
theorem nz {n : Nat} (h : 0 < n) : ((n : Int) != 0) = true := by simp; omega
theorem z0 : ((0 : Int) != 0) = false := rfl
theorem i2n (n : Nat) : (n : Int).toNat = n := rfl
theorem bn1 (k : Nat) : ((k + 1 : Nat) : Int) - 1 = k := by omega
theorem g0 : gs[0]? = some (nm "MPZ_ONE", .int 1) := rfl
theorem g1 : gs[1]? = some (nm "round_nearest", .str (nm "n")) := rfl
theorem g2 : gs[2]? = some (nm "round_floor", .str (nm "f")) := rfl
theorem g3 : gs[3]? = some (nm "fzero", fz) := rfl
theorem g4 : gs[4]? = some (nm "fnan", .tuple [.int 0, .int 0, .int (-123), .int (-1)]) := rfl
theorem g5 : gs[5]? = some (nm "finf", .tuple [.int 0, .int 0, .int (-456), .int (-2)]) := rfl
theorem g6 : gs[6]? = some (nm "fninf", .tuple [.int 1, .int 0, .int (-789), .int (-3)]) := rfl
theorem nz1 : ((1 : Int) != 0) = true := rfl
theorem d01 : decide ((0 : Int) ≤ 1) = true := rfl
theorem t1 : Int.toNat 1 = 1 := rfl
theorem shI (a : Int) : SeqAt.shaped (.int a) = true := by simp [SeqAt.shaped, PyData.canLay0, PyData.depth]
theorem eqI (a b : Int) : COp.run .eq (.int a) (.int b) = some (decide (a = b)) := by
  show guardO (SeqAt.shaped (.int a) && SeqAt.shaped (.int b)) (PyData.eqv (.int a) (.int b)) = _
  rw [shI, shI]
  simp [PyData.eqv, guardO]
  rfl
theorem neI (a b : Int) : COp.run .ne (.int a) (.int b) = some (!decide (a = b)) := by
  show guardO (SeqAt.shaped (.int a) && SeqAt.shaped (.int b)) (!PyData.eqv (.int a) (.int b)) = _
  rw [shI, shI]
  simp [PyData.eqv, guardO]
  rfl
theorem ltI (a b : Int) : COp.run .lt (.int a) (.int b) = some (decide (a < b)) := rfl
theorem leI (a b : Int) : COp.run .le (.int a) (.int b) = some (decide (a ≤ b)) := rfl
theorem gtI (a b : Int) : COp.run .gt (.int a) (.int b) = some (decide (b < a)) := rfl
theorem geI (a b : Int) : COp.run .ge (.int a) (.int b) = some (decide (b ≤ a)) := rfl
theorem c_trailing (d : Nat) {m k : Nat} (hm : m % 2 = 1) : cf (d + 1) 0 [.int ((m * 2 ^ k : Nat) : Int)] = some (.int k) := by
  refine cf_eq (fb := btrailing) (ρ := [_]) rfl rfl rfl rfl ?_
  have h0 : 0 < m * 2 ^ k := Nat.mul_pos (by omega) (Nat.two_pow_pos k)
  have h2 : Builtin.bitAnd ((m * 2 ^ k : Nat) : Int) (-((m * 2 ^ k : Nat) : Int)) = ((2 ^ k : Nat) : Int) := by
    have := kbt_low k ((m / 2 : Nat) : Int)
    have e : (2 : Int) ^ k * (2 * ((m / 2 : Nat) : Int) + 1) = ((m * 2 ^ k : Nat) : Int) := by
      have : 2 * ((m / 2 : Nat) : Int) + 1 = (m : Int) := by omega
      rw [this]; push_cast; grind
    rw [e] at this
    rw [this]; push_cast; rfl
  simp -implicitDefEqProofs only [btrailing, nz h0, h2, ib, bl_pow, bn1, runS, run, BOp.run, IOp.b, eqI, neI, ltI, leI, gtI, geI, truth, start, sets, List.map_cons, List.map_nil, List.length_cons, List.length_nil, Nat.reduceAdd, Nat.reduceSub, List.replicate_succ, List.replicate_zero, List.cons_append, List.nil_append, List.append_nil, List.getElem?_cons_zero, List.getElem?_cons_succ, Option.join_some, Option.map_some, Option.bind_some, List.set_cons_zero, List.set_cons_succ, Bool.not_true, Bool.not_false, Bool.and_true, Bool.true_and, Bool.and_false, Bool.false_and, beq_self_eq_true, guardO, Nat.reduceLT, decide_true, d01, t1, nz1, Nat.reducePow, z0, i2n, g0, g1, g2, g3, g4, g5, g6]
end Mine
end
-- part APh
section
open PySem PySem.W PyProof.Rows
set_option maxRecDepth 100000
set_option linter.unusedSimpArgs false
namespace Mine
theorem shrN (a k : Nat) : ((a : Nat) : Int).fdiv ((2 : Int) ^ k) = ((a / 2 ^ k : Nat) : Int) := by
  have h : (0 : Int) ≤ (2 : Int) ^ k := Int.pow_nonneg (by decide)
  rw [Int.fdiv_eq_ediv_of_nonneg _ h]
  push_cast; rfl
theorem and1 (a : Nat) : Builtin.bitAnd (a : Int) 1 = ((a % 2 : Nat) : Int) := by rw [bitAnd_m1]; rfl
theorem m0 {a : Nat} (h : a % 2 = 0) : (((a % 2 : Nat) : Int) != 0) = false := by rw [h]; rfl
theorem m1' {a : Nat} (h : a % 2 = 1) : (((a % 2 : Nat) : Int) != 0) = true := by rw [h]; rfl
def ntail : S := match bnormalize0.body with
  | .cons _ (.cons _ (.cons _ t)) => t
  | _ => .nil
theorem dnn (k : Nat) : decide (0 ≤ (k : Int)) = true := by simp
theorem c_ntail (d : Nat) {q : Nat} {sg : PyData} {e bc : Int} {a4 a5 a6 x7 : Option PyData} (h0 : 0 < q) (hb : bc = (bl q : Int) ∨ ∃ p : Nat, q = 2 ^ p ∧ bc = p) :
    runS gs sd (cf (d + 1)) 1000 ntail [some sg, some (.int q), some (.int e), some (.int bc), a4, a5, a6, x7] = some (.ret (.tuple [sg, .int (od q), .int (e + tz q), .int (bl (od q))])) := by
  obtain ⟨hq, ho⟩ := od_spec q h0
  have hbq : bl q = bl (od q) + tz q := by conv => lhs; rw [hq]
                                           exact bl_mul (by omega) _
  have hbc : od q ≠ 1 → bc = (bl (od q) : Int) + tz q := by
    intro h
    rcases hb with z | ⟨p, z, _⟩
    · rw [z, hbq]; push_cast; rfl
    · have := (od_mul (m := 1) rfl p).1
      rw [Nat.one_mul, ← z] at this; exact absurd this h
  by_cases h2 : q % 2 = 1
  · have ht : tz q = 0 := by unfold tz; rw [dif_neg (by omega), if_pos h2]
    have hoq : od q = q := by unfold od; rw [dif_neg (by omega), if_pos h2]
    by_cases h1 : q = 1
    · have h1' : decide ((q : Int) = 1) = true := by simp; omega
      simp -implicitDefEqProofs only [ntail, bnormalize0, and1, m1' h2, eqI, h1', runS, run, BOp.run, IOp.b, eqI, neI, ltI, leI, gtI, geI, truth, start, sets, List.map_cons, List.map_nil, List.length_cons, List.length_nil, Nat.reduceAdd, Nat.reduceSub, List.replicate_succ, List.replicate_zero, List.cons_append, List.nil_append, List.append_nil, List.getElem?_cons_zero, List.getElem?_cons_succ, Option.join_some, Option.map_some, Option.bind_some, List.set_cons_zero, List.set_cons_succ, Bool.not_true, Bool.not_false, Bool.and_true, Bool.true_and, Bool.and_false, Bool.false_and, beq_self_eq_true, guardO, Nat.reduceLT, decide_true, d01, t1, nz1, Nat.reducePow, z0, i2n, g0, g1, g2, g3, g4, g5, g6]
      rw [hoq, ht, h1]; simp; rfl
    · have h1' : decide ((q : Int) = 1) = false := by simp; omega
      simp -implicitDefEqProofs only [ntail, bnormalize0, and1, m1' h2, eqI, h1', runS, run, BOp.run, IOp.b, eqI, neI, ltI, leI, gtI, geI, truth, start, sets, List.map_cons, List.map_nil, List.length_cons, List.length_nil, Nat.reduceAdd, Nat.reduceSub, List.replicate_succ, List.replicate_zero, List.cons_append, List.nil_append, List.append_nil, List.getElem?_cons_zero, List.getElem?_cons_succ, Option.join_some, Option.map_some, Option.bind_some, List.set_cons_zero, List.set_cons_succ, Bool.not_true, Bool.not_false, Bool.and_true, Bool.true_and, Bool.and_false, Bool.false_and, beq_self_eq_true, guardO, Nat.reduceLT, decide_true, d01, t1, nz1, Nat.reducePow, z0, i2n, g0, g1, g2, g3, g4, g5, g6]
      rw [hbc (by omega), hoq, ht]; simp
  · have h3 := c_trailing d (m := od q) (k := tz q) ho
    rw [← hq] at h3
    have h4 : q / 2 ^ tz q = od q := Nat.div_eq_of_eq_mul_left (Nat.two_pow_pos _) hq
    by_cases h1 : od q = 1
    · have h1' : decide ((od q : Int) = 1) = true := by simp; omega
      simp -implicitDefEqProofs only [ntail, bnormalize0, and1, m0 (by omega : q % 2 = 0), eqI, h3, dnn, shrN, h4, h1', runS, run, BOp.run, IOp.b, eqI, neI, ltI, leI, gtI, geI, truth, start, sets, List.map_cons, List.map_nil, List.length_cons, List.length_nil, Nat.reduceAdd, Nat.reduceSub, List.replicate_succ, List.replicate_zero, List.cons_append, List.nil_append, List.append_nil, List.getElem?_cons_zero, List.getElem?_cons_succ, Option.join_some, Option.map_some, Option.bind_some, List.set_cons_zero, List.set_cons_succ, Bool.not_true, Bool.not_false, Bool.and_true, Bool.true_and, Bool.and_false, Bool.false_and, beq_self_eq_true, guardO, Nat.reduceLT, decide_true, d01, t1, nz1, Nat.reducePow, z0, i2n, g0, g1, g2, g3, g4, g5, g6]
      rw [h1]; rfl
    · have h1' : decide ((od q : Int) = 1) = false := by simp; omega
      simp -implicitDefEqProofs only [ntail, bnormalize0, and1, m0 (by omega : q % 2 = 0), eqI, h3, dnn, shrN, h4, h1', runS, run, BOp.run, IOp.b, eqI, neI, ltI, leI, gtI, geI, truth, start, sets, List.map_cons, List.map_nil, List.length_cons, List.length_nil, Nat.reduceAdd, Nat.reduceSub, List.replicate_succ, List.replicate_zero, List.cons_append, List.nil_append, List.append_nil, List.getElem?_cons_zero, List.getElem?_cons_succ, Option.join_some, Option.map_some, Option.bind_some, List.set_cons_zero, List.set_cons_succ, Bool.not_true, Bool.not_false, Bool.and_true, Bool.true_and, Bool.and_false, Bool.false_and, beq_self_eq_true, guardO, Nat.reduceLT, decide_true, d01, t1, nz1, Nat.reducePow, z0, i2n, g0, g1, g2, g3, g4, g5, g6]
      rw [hbc h1, Int.add_sub_cancel]
/-- what a rounding's name says for a sign -/
def RnOk (rnd : Str) (sg : Int) (md : Rm) : Prop := (COp.run .eq (.str rnd) (.str (nm "n")) = some true ∧ md = .n) ∨
  (COp.run .eq (.str rnd) (.str (nm "n")) = some false ∧ ∃ l c, sd rnd = some (.tuple l) ∧ idxOf l sg = some (.int c) ∧ ((md = .d ∧ (c != 0) = true) ∨ (md = .u ∧ (c != 0) = false)))
theorem rn_n : RnOk (nm "n") 0 .n := .inl ⟨by decide +kernel, rfl⟩
theorem rn_f : RnOk (nm "f") 0 .d := .inr ⟨by decide +kernel, _, _, by rfl, by rfl, .inl ⟨rfl, rfl⟩⟩
theorem rn_c : RnOk (nm "c") 0 .u := .inr ⟨by decide +kernel, _, _, by rfl, by rfl, .inr ⟨rfl, rfl⟩⟩
theorem rn_d : RnOk (nm "d") 0 .d := .inr ⟨by decide +kernel, _, _, by rfl, by rfl, .inl ⟨rfl, rfl⟩⟩
theorem rn_u : RnOk (nm "u") 0 .u := .inr ⟨by decide +kernel, _, _, by rfl, by rfl, .inr ⟨rfl, rfl⟩⟩
theorem rn_f1 : RnOk (nm "f") 1 .u := .inr ⟨by decide +kernel, _, _, by rfl, by rfl, .inr ⟨rfl, rfl⟩⟩
theorem rn_d1 : RnOk (nm "d") 1 .d := .inr ⟨by decide +kernel, _, _, by rfl, by rfl, .inl ⟨rfl, rfl⟩⟩
/-- the rounded mantissa -/
def rm (md : Rm) (p m : Nat) : Nat := if bl m ≤ p then m else rq md (str m (2 ^ (bl m - p - 1)))
theorem and2 (a : Nat) : Builtin.bitAnd (a : Int) 2 = ((a / 2 % 2 * 2 : Nat) : Int) := by
  have := kbt_bit (a : Int) 1
  rw [show (2 : Int) ^ 1 = 2 by rfl] at this
  rw [this]; push_cast; rfl
theorem andM (a k : Nat) : Builtin.bitAnd (a : Int) ((2 : Int) ^ k - 1) = ((a % 2 ^ k : Nat) : Int) := by
  rw [kbt_mask]; push_cast; rfl
def nh0 : S := match bnormalize0.body with
  | .cons t _ => t
  | _ => .nil
def nh1 : S := match bnormalize0.body with
  | .cons _ (.cons t _) => t
  | _ => .nil
def nh2 : S := match bnormalize0.body with
  | .cons _ (.cons _ (.cons t _)) => t
  | _ => .nil
theorem zz {n : Nat} (h : n = 0) : ((n : Int) != 0) = false := by subst h; rfl
theorem rm_R (md : Rm) (p m : Nat) : R md p m = rm md p m * 2 ^ (bl m - p) := by
  unfold R rm
  split
  · rename_i h; rw [show bl m - p = 0 by omega]; simp
  · rfl
theorem rm_bounds (md : Rm) {p m : Nat} (hp : 1 ≤ p) (h : p < bl m) : 2 ^ (p - 1) ≤ rm md p m ∧ rm md p m ≤ 2 ^ p := by
  obtain ⟨q, e, h1, h2⟩ := R_form md hp h
  rw [rm_R] at e
  have := Nat.eq_of_mul_eq_mul_right (Nat.two_pow_pos _) e
  rw [this]; exact ⟨h1, h2⟩
theorem rm_pos (md : Rm) {p m : Nat} (hp : 1 ≤ p) (h : 0 < m) : 0 < rm md p m := by
  by_cases hb : p < bl m
  · have := (rm_bounds md hp hb).1; have := Nat.two_pow_pos (p - 1); omega
  · unfold rm; rw [if_pos (by omega)]; exact h
theorem neg_shr (m n : Nat) : -((-(m : Int)).fdiv ((2 : Int) ^ n)) = (((m + (2 ^ n - 1)) / 2 ^ n : Nat) : Int) := by
  have hp := Nat.two_pow_pos n
  have e : ((2 : Int) ^ n) = ((2 ^ n : Nat) : Int) := by push_cast; rfl
  rw [e]
  generalize 2 ^ n = c at *
  rw [Int.fdiv_eq_ediv_of_nonneg _ (by omega)]
  have h1 := Nat.div_add_mod (m + (c - 1)) c
  have h2 := Nat.mod_lt (m + (c - 1)) hp
  generalize (m + (c - 1)) / c = q at *
  have h3 : (-(m : Int)) / (c : Int) = -(q : Int) := by
    rw [Int.ediv_eq_iff_of_pos (by omega)]
    have h4 : (c : Int) * q + ((m + (c - 1)) % c : Nat) = m + (c - 1) := by
      have := congrArg (fun x : Nat => (x : Int)) h1
      simp only [Int.natCast_add, Int.natCast_mul] at this
      omega
    have h5 : -(q : Int) * c = -((c : Int) * q) := by grind
    constructor <;> (try rw [Int.add_mul]) <;> (try rw [h5]) <;> omega
  rw [h3]; omega
theorem shl1 {n : Nat} (h : n ≤ 100000) : shlOk 1 (n : Int) = true := by
  have : Builtin.Int.intBits 1 = 1 := by decide
  unfold shlOk; rw [this]; simp; omega
theorem str_n (m n : Nat) (t : Nat) (ht : t = m / 2 ^ n) : str m (2 ^ n) = 2 * t + if m % 2 ^ n = 0 then 0 else 1 := by subst ht; rfl
theorem up_div (m n : Nat) : (str m (2 ^ n) + 3) / 4 = (m + (2 ^ (n + 1) - 1)) / 2 ^ (n + 1) := by
  have hp := Nat.two_pow_pos n
  have e : 2 ^ (n + 1) = 2 * 2 ^ n := by rw [Nat.pow_succ, Nat.mul_comm]
  rw [e]
  unfold str
  generalize 2 ^ n = c at *
  have h1 := Nat.div_add_mod m c
  have h2 := Nat.mod_lt m hp
  generalize m / c = t at *
  generalize m % c = r at *
  have h3 : m + (2 * c - 1) = c * t + (r + (2 * c - 1)) := by omega
  symm
  rw [h3]
  refine Nat.div_eq_of_lt_le ?_ ?_
  · obtain ⟨u, hu⟩ : ∃ u, t = 2 * u ∨ t = 2 * u + 1 := ⟨t / 2, by omega⟩
    split
    · rcases hu with rfl | rfl
      · rw [show (2 * (2 * u) + 0 + 3) / 4 = u by omega]
        have : u * (2 * c) = c * (2 * u) := by grind
        omega
      · rw [show (2 * (2 * u + 1) + 0 + 3) / 4 = u + 1 by omega]
        have : (u + 1) * (2 * c) = c * (2 * u + 1) + c := by grind
        omega
    · rcases hu with rfl | rfl
      · rw [show (2 * (2 * u) + 1 + 3) / 4 = u + 1 by omega]
        have : (u + 1) * (2 * c) = c * (2 * u) + 2 * c := by grind
        omega
      · rw [show (2 * (2 * u + 1) + 1 + 3) / 4 = u + 1 by omega]
        have : (u + 1) * (2 * c) = c * (2 * u + 1) + c := by grind
        omega
  · obtain ⟨u, hu⟩ : ∃ u, t = 2 * u ∨ t = 2 * u + 1 := ⟨t / 2, by omega⟩
    split
    · rcases hu with rfl | rfl
      · rw [show (2 * (2 * u) + 0 + 3) / 4 = u by omega]
        have : (u + 1) * (2 * c) = c * (2 * u) + 2 * c := by grind
        omega
      · rw [show (2 * (2 * u + 1) + 0 + 3) / 4 = u + 1 by omega]
        have : (u + 1 + 1) * (2 * c) = c * (2 * u + 1) + 3 * c := by grind
        omega
    · rcases hu with rfl | rfl
      · rw [show (2 * (2 * u) + 1 + 3) / 4 = u + 1 by omega]
        have : (u + 1 + 1) * (2 * c) = c * (2 * u) + 4 * c := by grind
        omega
      · rw [show (2 * (2 * u + 1) + 1 + 3) / 4 = u + 1 by omega]
        have : (u + 1 + 1) * (2 * c) = c * (2 * u + 1) + 3 * c := by grind
        omega
theorem c_normalize0 (d : Nat) {rnd : Str} {sg : Int} {md : Rm} (hr : RnOk rnd sg md) {m p : Nat} {e : Int} (h0 : 0 < m) (hp : 1 ≤ p) (hs : bl m ≤ 100000) :
    cf (d + 2) 4 [.int sg, .int m, .int e, .int (bl m), .int p, .str rnd] = some (.tuple [.int sg, .int (od (rm md p m)), .int (e + (bl m - p : Nat) + tz (rm md p m)), .int (bl (od (rm md p m)))]) := by
  refine cf_eq (fb := bnormalize0) (B := .cons nh0 (.cons nh1 (.cons nh2 ntail))) (ρ := [_, _, _, _, _, _, _, _]) rfl rfl rfl rfl ?_
  have hT := @c_ntail d
  generalize ntail = tl at hT ⊢
  by_cases hn : bl m ≤ p
  · have h1 : decide ((0 : Int) < (bl m : Int) - p) = false := by simp; omega
    simp -implicitDefEqProofs only [nh0, nh1, nh2, bnormalize0, nz h0, h1, runS, run, BOp.run, IOp.b, eqI, neI, ltI, leI, gtI, geI, truth, start, sets, List.map_cons, List.map_nil, List.length_cons, List.length_nil, Nat.reduceAdd, Nat.reduceSub, List.replicate_succ, List.replicate_zero, List.cons_append, List.nil_append, List.append_nil, List.getElem?_cons_zero, List.getElem?_cons_succ, Option.join_some, Option.map_some, Option.bind_some, List.set_cons_zero, List.set_cons_succ, Bool.not_true, Bool.not_false, Bool.and_true, Bool.true_and, Bool.and_false, Bool.false_and, beq_self_eq_true, guardO, Nat.reduceLT, decide_true, d01, t1, nz1, Nat.reducePow, z0, i2n, g0, g1, g2, g3, g4, g5, g6]
    have h2 : rm md p m = m := by unfold rm; rw [if_pos hn]
    rw [h2, show bl m - p = 0 by omega, hT h0 (.inl rfl)]; simp
  · obtain ⟨n, hn'⟩ : ∃ n, bl m = p + (n + 1) := ⟨bl m - p - 1, by omega⟩
    have h1 : decide ((0 : Int) < ((n + 1 : Nat) : Int)) = true := by simp
    have e1 : (bl m : Int) - p = ((n + 1 : Nat) : Int) := by omega
    have hrm : ∀ md, rm md p m = rq md (str m (2 ^ n)) := fun md => by unfold rm; rw [if_neg hn, show bl m - p - 1 = n by omega]
    have hfin : ∀ md (x : Int), x = (rm md p m : Int) → ∀ a7, runS gs sd (cf (d + 1)) 1000 tl [some (.int sg), some (.int x), some (.int (e + ((n + 1 : Nat) : Int))), some (.int p), some (.int p), some (.str rnd), some (.int ((n + 1 : Nat) : Int)), a7]
        = some (.ret (.tuple [.int sg, .int (od (rm md p m)), .int (e + (bl m - p : Nat) + tz (rm md p m)), .int (bl (od (rm md p m)))])) := by
      intro md x hx a7
      subst hx
      obtain ⟨b1, b2⟩ := rm_bounds md hp (by omega : p < bl m)
      rw [hT (rm_pos md hp h0) ?_, show bl m - p = n + 1 by omega]
      by_cases c : rm md p m = 2 ^ p
      · exact .inr ⟨p, c, rfl⟩
      · left
        have := bl_eq (n := rm md p m) (k := p - 1) b1 (by rw [show p - 1 + 1 = p by omega]; omega)
        rw [this]; omega
    rcases hr with ⟨hr, rfl⟩ | ⟨hr, l, c, hl, hc, hr2⟩
    · have hst := str_n m n _ rfl
      have hq := hrm .n
      simp only [rq] at hq
      have h2 : (2 : Nat) ^ 1 = 2 := rfl
      generalize hw : str m (2 ^ n) = w at hst hq
      by_cases a : m / 2 ^ n % 2 = 0
      · simp -implicitDefEqProofs only [nh0, nh1, nh2, bnormalize0, nz h0, h1, hr, e1, bn1, dnn, shrN, and1, m0 a, runS, run, BOp.run, IOp.b, eqI, neI, ltI, leI, gtI, geI, truth, start, sets, List.map_cons, List.map_nil, List.length_cons, List.length_nil, Nat.reduceAdd, Nat.reduceSub, List.replicate_succ, List.replicate_zero, List.cons_append, List.nil_append, List.append_nil, List.getElem?_cons_zero, List.getElem?_cons_succ, Option.join_some, Option.map_some, Option.bind_some, List.set_cons_zero, List.set_cons_succ, Bool.not_true, Bool.not_false, Bool.and_true, Bool.true_and, Bool.and_false, Bool.false_and, beq_self_eq_true, guardO, Nat.reduceLT, decide_true, d01, t1, nz1, Nat.reducePow, z0, i2n, g0, g1, g2, g3, g4, g5, g6]
        refine hfin .n _ ?_ _
        have hw : w % 4 < 2 := by split at hst <;> omega
        rw [hq, if_pos hw]; split at hst <;> omega
      · by_cases b : m / 2 ^ n / 2 % 2 = 0
        · by_cases c : m % 2 ^ n = 0
          · rw [if_pos c] at hst
            simp -implicitDefEqProofs only [nh0, nh1, nh2, bnormalize0, nz h0, h1, hr, e1, bn1, dnn, shrN, and1, m1' (by omega : m / 2 ^ n % 2 = 1), and2, zz (by omega : m / 2 ^ n / 2 % 2 * 2 = 0), shl1 (by omega : n ≤ 100000), Int.one_mul, andM, zz c, runS, run, BOp.run, IOp.b, eqI, neI, ltI, leI, gtI, geI, truth, start, sets, List.map_cons, List.map_nil, List.length_cons, List.length_nil, Nat.reduceAdd, Nat.reduceSub, List.replicate_succ, List.replicate_zero, List.cons_append, List.nil_append, List.append_nil, List.getElem?_cons_zero, List.getElem?_cons_succ, Option.join_some, Option.map_some, Option.bind_some, List.set_cons_zero, List.set_cons_succ, Bool.not_true, Bool.not_false, Bool.and_true, Bool.true_and, Bool.and_false, Bool.false_and, beq_self_eq_true, guardO, Nat.reduceLT, decide_true, d01, t1, nz1, Nat.reducePow, z0, i2n, g0, g1, g2, g3, g4, g5, g6]
            refine hfin .n _ ?_ _
            rw [hq, if_neg (by omega), if_neg (by omega)]; omega
          · rw [if_neg c] at hst
            simp -implicitDefEqProofs only [nh0, nh1, nh2, bnormalize0, nz h0, h1, hr, e1, bn1, dnn, shrN, and1, m1' (by omega : m / 2 ^ n % 2 = 1), and2, zz (by omega : m / 2 ^ n / 2 % 2 * 2 = 0), shl1 (by omega : n ≤ 100000), Int.one_mul, andM, nz (by omega : 0 < m % 2 ^ n), runS, run, BOp.run, IOp.b, eqI, neI, ltI, leI, gtI, geI, truth, start, sets, List.map_cons, List.map_nil, List.length_cons, List.length_nil, Nat.reduceAdd, Nat.reduceSub, List.replicate_succ, List.replicate_zero, List.cons_append, List.nil_append, List.append_nil, List.getElem?_cons_zero, List.getElem?_cons_succ, Option.join_some, Option.map_some, Option.bind_some, List.set_cons_zero, List.set_cons_succ, Bool.not_true, Bool.not_false, Bool.and_true, Bool.true_and, Bool.and_false, Bool.false_and, beq_self_eq_true, guardO, Nat.reduceLT, decide_true, d01, t1, nz1, Nat.reducePow, z0, i2n, g0, g1, g2, g3, g4, g5, g6]
            refine hfin .n _ ?_ _
            rw [hq, if_neg (by omega), if_pos (by omega)]; omega
        · simp -implicitDefEqProofs only [nh0, nh1, nh2, bnormalize0, nz h0, h1, hr, e1, bn1, dnn, shrN, and1, m1' (by omega : m / 2 ^ n % 2 = 1), and2, nz (by omega : 0 < m / 2 ^ n / 2 % 2 * 2), runS, run, BOp.run, IOp.b, eqI, neI, ltI, leI, gtI, geI, truth, start, sets, List.map_cons, List.map_nil, List.length_cons, List.length_nil, Nat.reduceAdd, Nat.reduceSub, List.replicate_succ, List.replicate_zero, List.cons_append, List.nil_append, List.append_nil, List.getElem?_cons_zero, List.getElem?_cons_succ, Option.join_some, Option.map_some, Option.bind_some, List.set_cons_zero, List.set_cons_succ, Bool.not_true, Bool.not_false, Bool.and_true, Bool.true_and, Bool.and_false, Bool.false_and, beq_self_eq_true, guardO, Nat.reduceLT, decide_true, d01, t1, nz1, Nat.reducePow, z0, i2n, g0, g1, g2, g3, g4, g5, g6]
          refine hfin .n _ ?_ _
          by_cases c : m % 2 ^ n = 0
          · rw [if_pos c] at hst
            rw [hq, if_neg (by omega), if_neg (by omega)]; omega
          · rw [if_neg c] at hst
            rw [hq, if_neg (by omega), if_pos (by omega)]; omega
    · rcases hr2 with ⟨rfl, hr2⟩ | ⟨rfl, hr2⟩
      · simp -implicitDefEqProofs only [nh0, nh1, nh2, bnormalize0, nz h0, h1, hr, hl, hc, hr2, e1, dnn, shrN, runS, run, BOp.run, IOp.b, eqI, neI, ltI, leI, gtI, geI, truth, start, sets, List.map_cons, List.map_nil, List.length_cons, List.length_nil, Nat.reduceAdd, Nat.reduceSub, List.replicate_succ, List.replicate_zero, List.cons_append, List.nil_append, List.append_nil, List.getElem?_cons_zero, List.getElem?_cons_succ, Option.join_some, Option.map_some, Option.bind_some, List.set_cons_zero, List.set_cons_succ, Bool.not_true, Bool.not_false, Bool.and_true, Bool.true_and, Bool.and_false, Bool.false_and, beq_self_eq_true, guardO, Nat.reduceLT, decide_true, d01, t1, nz1, Nat.reducePow, z0, i2n, g0, g1, g2, g3, g4, g5, g6]
        refine hfin .d _ ?_ _
        rw [hrm]
        show _ = ((str m (2 ^ n) / 4 : Nat) : Int)
        have := str_div4 m (n + 1) (by omega)
        rw [Nat.add_sub_cancel] at this
        rw [this]
      · simp -implicitDefEqProofs only [nh0, nh1, nh2, bnormalize0, nz h0, h1, hr, hl, hc, hr2, e1, dnn, neg_shr, runS, run, BOp.run, IOp.b, eqI, neI, ltI, leI, gtI, geI, truth, start, sets, List.map_cons, List.map_nil, List.length_cons, List.length_nil, Nat.reduceAdd, Nat.reduceSub, List.replicate_succ, List.replicate_zero, List.cons_append, List.nil_append, List.append_nil, List.getElem?_cons_zero, List.getElem?_cons_succ, Option.join_some, Option.map_some, Option.bind_some, List.set_cons_zero, List.set_cons_succ, Bool.not_true, Bool.not_false, Bool.and_true, Bool.true_and, Bool.and_false, Bool.false_and, beq_self_eq_true, guardO, Nat.reduceLT, decide_true, d01, t1, nz1, Nat.reducePow, z0, i2n, g0, g1, g2, g3, g4, g5, g6]
        refine hfin .u _ ?_ _
        rw [hrm]
        show _ = (((str m (2 ^ n) + 3) / 4 : Nat) : Int)
        rw [up_div]
end Mine
end
-- part APi
section
open PySem PySem.W PyProof.Rows
set_option maxRecDepth 100000
set_option linter.unusedSimpArgs false
namespace Mine
theorem c_normalize (d : Nat) {rnd : Str} {sg : Int} {md : Rm} (hr : RnOk rnd sg md) {m p : Nat} {e : Int} (h0 : 0 < m) (hp : 1 ≤ p) (hs : bl m ≤ 100000) :
    cf (d + 3) 5 [.int sg, .int m, .int e, .int (bl m), .int p, .str rnd] = some (.tuple [.int sg, .int (od (rm md p m)), .int (e + (bl m - p : Nat) + tz (rm md p m)), .int (bl (od (rm md p m)))]) := by
  refine cf_eq (fb := bnormalize) (ρ := [_, _, _, _, _, _]) rfl rfl rfl rfl ?_
  simp -implicitDefEqProofs only [bnormalize, ib, dnn, c_normalize0 d hr h0 hp hs, runS, run, BOp.run, IOp.b, eqI, neI, ltI, leI, gtI, geI, truth, start, sets, List.map_cons, List.map_nil, List.length_cons, List.length_nil, Nat.reduceAdd, Nat.reduceSub, List.replicate_succ, List.replicate_zero, List.cons_append, List.nil_append, List.append_nil, List.getElem?_cons_zero, List.getElem?_cons_succ, Option.join_some, Option.map_some, Option.bind_some, List.set_cons_zero, List.set_cons_succ, Bool.not_true, Bool.not_false, Bool.and_true, Bool.true_and, Bool.and_false, Bool.false_and, beq_self_eq_true, guardO, Nat.reduceLT, decide_true, d01, t1, nz1, Nat.reducePow, z0, i2n, g0, g1, g2, g3, g4, g5, g6]
theorem c_normalize_zero (d : Nat) {rnd : Str} {sg e p : Int} :
    cf (d + 3) 5 [.int sg, .int 0, .int e, .int 0, .int p, .str rnd] = some fz := by
  have h : cf (d + 2) 4 [.int sg, .int 0, .int e, .int 0, .int p, .str rnd] = some fz := by
    refine cf_eq (fb := bnormalize0) (B := .cons nh0 (.cons nh1 (.cons nh2 ntail))) (ρ := [_, _, _, _, _, _, _, _]) rfl rfl rfl rfl ?_
    simp -implicitDefEqProofs only [nh0, bnormalize0, runS, run, BOp.run, IOp.b, eqI, neI, ltI, leI, gtI, geI, truth, start, sets, List.map_cons, List.map_nil, List.length_cons, List.length_nil, Nat.reduceAdd, Nat.reduceSub, List.replicate_succ, List.replicate_zero, List.cons_append, List.nil_append, List.append_nil, List.getElem?_cons_zero, List.getElem?_cons_succ, Option.join_some, Option.map_some, Option.bind_some, List.set_cons_zero, List.set_cons_succ, Bool.not_true, Bool.not_false, Bool.and_true, Bool.true_and, Bool.and_false, Bool.false_and, beq_self_eq_true, guardO, Nat.reduceLT, decide_true, d01, t1, nz1, Nat.reducePow, z0, i2n, g0, g1, g2, g3, g4, g5, g6]
  refine cf_eq (fb := bnormalize) (ρ := [_, _, _, _, _, _]) rfl rfl rfl rfl ?_
  have h2 : ((Builtin.Int.intBits 0 : Nat) : Int) = 0 := rfl
  have h3 : decide ((0 : Int) ≤ 0) = true := rfl
  simp -implicitDefEqProofs only [bnormalize, h2, h3, dnn, h, runS, run, BOp.run, IOp.b, eqI, neI, ltI, leI, gtI, geI, truth, start, sets, List.map_cons, List.map_nil, List.length_cons, List.length_nil, Nat.reduceAdd, Nat.reduceSub, List.replicate_succ, List.replicate_zero, List.cons_append, List.nil_append, List.append_nil, List.getElem?_cons_zero, List.getElem?_cons_succ, Option.join_some, Option.map_some, Option.bind_some, List.set_cons_zero, List.set_cons_succ, Bool.not_true, Bool.not_false, Bool.and_true, Bool.true_and, Bool.and_false, Bool.false_and, beq_self_eq_true, guardO, Nat.reduceLT, decide_true, d01, t1, nz1, Nat.reducePow, z0, i2n, g0, g1, g2, g3, g4, g5, g6]
/-- rounding, on naturals at the scale -/
theorem c_norm (d : Nat) {K : Nat} {rnd : Str} {md : Rm} (hr : RnOk rnd 0 md) {m k p : Nat} (h0 : 0 < m) (hp : 1 ≤ p) (hs : bl m ≤ 100000) :
    cf (d + 3) 5 [.int 0, .int m, .int ((k : Int) - K), .int (bl m), .int p, .str rnd] = some (num K (R md p (m * 2 ^ k))) := by
  rw [c_normalize d hr h0 hp hs, R_scale md h0 k hp, rm_R]
  obtain ⟨h1, h2⟩ := od_spec _ (rm_pos md hp h0)
  generalize rm md p m = q at *
  have e : q * 2 ^ (bl m - p) * 2 ^ k = od q * 2 ^ (tz q + (bl m - p) + k) := by
    conv => lhs; rw [h1]
    rw [Nat.pow_add, Nat.pow_add]; grind
  rw [e, num_of h2]
  unfold mpf
  have e2 : (k : Int) - K + ((bl m - p : Nat) : Int) + (tz q : Int) = ((tz q + (bl m - p) + k : Nat) : Int) - K := by omega
  rw [e2]
theorem c_from_man_exp (d : Nat) {K : Nat} {rnd : Str} {md : Rm} (hr : RnOk rnd 0 md) {m k p : Nat} {e : Int} (he : e = (k : Int) - K) (h0 : 0 < m) (hp : 1 ≤ p) (hs : bl m ≤ 100000) :
    cf (d + 4) 6 [.int m, .int e, .int p, .str rnd] = some (num K (R md p (m * 2 ^ k))) := by
  subst he
  refine cf_eq (fb := bfrom_man_exp) (ρ := [_, _, _, _, _, _, _]) rfl rfl rfl rfl ?_
  have h1 : decide ((m : Int) < 0) = false := by simp
  simp -implicitDefEqProofs only [bfrom_man_exp, ib, h1, nz (by omega : 0 < p), c_norm d hr h0 hp hs, runS, run, BOp.run, IOp.b, eqI, neI, ltI, leI, gtI, geI, truth, start, sets, List.map_cons, List.map_nil, List.length_cons, List.length_nil, Nat.reduceAdd, Nat.reduceSub, List.replicate_succ, List.replicate_zero, List.cons_append, List.nil_append, List.append_nil, List.getElem?_cons_zero, List.getElem?_cons_succ, Option.join_some, Option.map_some, Option.bind_some, List.set_cons_zero, List.set_cons_succ, Bool.not_true, Bool.not_false, Bool.and_true, Bool.true_and, Bool.and_false, Bool.false_and, beq_self_eq_true, guardO, Nat.reduceLT, decide_true, d01, t1, nz1, Nat.reducePow, z0, i2n, g0, g1, g2, g3, g4, g5, g6]
theorem c_pos (d : Nat) {K : Nat} {rnd : Str} {md : Rm} (hr : RnOk rnd 0 md) {V p : Nat} (h0 : 0 < V) (hp : 1 ≤ p) (hs : bl V ≤ 100000) :
    cf (d + 4) 9 [num K V, .int p, .str rnd] = some (num K (R md p V)) := by
  obtain ⟨m, k, h1, rfl, h2⟩ := num_cases (K := K) h0
  have hm : 0 < m := by omega
  rw [bl_mul hm] at hs
  rw [h2]
  refine cf_eq (fb := bmpf_pos) (ρ := [_, _, _, _, _, _, _]) rfl rfl rfl rfl ?_
  simp -implicitDefEqProofs only [bmpf_pos, mpf, nz (by omega : 0 < p), nz hm, c_norm d hr hm hp (by omega : bl m ≤ 100000), runS, run, BOp.run, IOp.b, eqI, neI, ltI, leI, gtI, geI, truth, start, sets, List.map_cons, List.map_nil, List.length_cons, List.length_nil, Nat.reduceAdd, Nat.reduceSub, List.replicate_succ, List.replicate_zero, List.cons_append, List.nil_append, List.append_nil, List.getElem?_cons_zero, List.getElem?_cons_succ, Option.join_some, Option.map_some, Option.bind_some, List.set_cons_zero, List.set_cons_succ, Bool.not_true, Bool.not_false, Bool.and_true, Bool.true_and, Bool.and_false, Bool.false_and, beq_self_eq_true, guardO, Nat.reduceLT, decide_true, d01, t1, nz1, Nat.reducePow, z0, i2n, g0, g1, g2, g3, g4, g5, g6]
theorem c_shift (d : Nat) {K : Nat} {V W : Nat} {n : Int} (h : ∃ k : Nat, (n = k ∧ W = V * 2 ^ k) ∨ (n = -(k : Int) ∧ V = W * 2 ^ k)) : cf (d + 1) 16 [num K V, .int n] = some (num K W) := by
  obtain ⟨j, h⟩ := h
  by_cases hV : V = 0
  · have hW : W = 0 := by
      rcases h with ⟨_, h⟩ | ⟨_, h⟩
      · rw [h, hV, Nat.zero_mul]
      · rw [hV] at h
        rcases Nat.mul_eq_zero.mp h.symm with c | c
        · exact c
        · have := Nat.two_pow_pos j; omega
    subst hV; subst hW
    refine cf_eq (fb := bmpf_shift) (ρ := [_, _, _, _, _, _]) rfl rfl rfl rfl ?_
    simp -implicitDefEqProofs only [bmpf_shift, num_zero, fz, runS, run, BOp.run, IOp.b, eqI, neI, ltI, leI, gtI, geI, truth, start, sets, List.map_cons, List.map_nil, List.length_cons, List.length_nil, Nat.reduceAdd, Nat.reduceSub, List.replicate_succ, List.replicate_zero, List.cons_append, List.nil_append, List.append_nil, List.getElem?_cons_zero, List.getElem?_cons_succ, Option.join_some, Option.map_some, Option.bind_some, List.set_cons_zero, List.set_cons_succ, Bool.not_true, Bool.not_false, Bool.and_true, Bool.true_and, Bool.and_false, Bool.false_and, beq_self_eq_true, guardO, Nat.reduceLT, decide_true, d01, t1, nz1, Nat.reducePow, z0, i2n, g0, g1, g2, g3, g4, g5, g6]
  · have hW : 0 < W := by
      rcases h with ⟨_, h⟩ | ⟨_, h⟩
      · rw [h]; exact Nat.mul_pos (by omega) (Nat.two_pow_pos j)
      · rcases Nat.eq_zero_or_pos W with c | c
        · rw [c, Nat.zero_mul] at h; omega
        · exact c
    obtain ⟨m, k, h1, rfl, h2⟩ := num_cases (K := K) (by omega : 0 < V)
    obtain ⟨m', k', h1', rfl, h2'⟩ := num_cases (K := K) hW
    have key : m = m' ∧ (k : Int) + n = k' := by
      rcases h with ⟨rfl, h⟩ | ⟨rfl, h⟩
      · rw [Nat.mul_assoc, ← Nat.pow_add] at h
        have a := od_mul h1' k'
        have b := od_mul h1 (k + j)
        rw [h] at a
        exact ⟨b.1.symm.trans a.1, by have := b.2.symm.trans a.2; omega⟩
      · rw [Nat.mul_assoc, ← Nat.pow_add] at h
        have a := od_mul h1 k
        have b := od_mul h1' (k' + j)
        rw [h] at a
        exact ⟨a.1.symm.trans b.1, by have := b.2.symm.trans a.2; omega⟩
    rw [h2, h2']
    refine cf_eq (fb := bmpf_shift) (ρ := [_, _, _, _, _, _]) rfl rfl rfl rfl ?_
    simp -implicitDefEqProofs only [bmpf_shift, mpf, nz (by omega : 0 < m), runS, run, BOp.run, IOp.b, eqI, neI, ltI, leI, gtI, geI, truth, start, sets, List.map_cons, List.map_nil, List.length_cons, List.length_nil, Nat.reduceAdd, Nat.reduceSub, List.replicate_succ, List.replicate_zero, List.cons_append, List.nil_append, List.append_nil, List.getElem?_cons_zero, List.getElem?_cons_succ, Option.join_some, Option.map_some, Option.bind_some, List.set_cons_zero, List.set_cons_succ, Bool.not_true, Bool.not_false, Bool.and_true, Bool.true_and, Bool.and_false, Bool.false_and, beq_self_eq_true, guardO, Nat.reduceLT, decide_true, d01, t1, nz1, Nat.reducePow, z0, i2n, g0, g1, g2, g3, g4, g5, g6]
    have e2 : (k : Int) - K + n = (k' : Int) - K := by omega
    rw [key.1, e2]
end Mine
end
-- part APj
section
open PySem PySem.W PyProof.Rows
set_option maxRecDepth 100000
set_option linter.unusedSimpArgs false
set_option maxHeartbeats 1000000
namespace Mine
theorem x00 : Builtin.bitXor 0 0 = 0 := by decide
theorem x01 : Builtin.bitXor 0 1 = 1 := by decide
theorem eq01 : decide ((0 : Int) = 1) = false := rfl
theorem d00 : decide ((0 : Int) ≤ 0) = true := rfl
theorem t00 : decide ((0 : Int) < 0) = false := rfl
theorem c_norm0 (d : Nat) {K : Nat} {rnd : Str} {md : Rm} (hr : RnOk rnd 0 md) {m k : Nat} (h0 : 0 < m) (hs : bl m ≤ 100000) :
    cf (d + 3) 5 [.int 0, .int m, .int ((k : Int) - K), .int (bl m), .int (bl m), .str rnd] = some (num K (m * 2 ^ k)) := by
  rw [c_norm d hr h0 (bl_pos h0) hs, Fp.R (fp_of (bl_pos h0) (Nat.le_of_lt (bl_hi m)))]
theorem shlN {m n : Nat} (h : bl m ≤ 100000) (hn : n ≤ 100000) : shlOk (m : Int) (n : Int) = true := by
  unfold shlOk; rw [ib]; simp; omega
theorem bl_add {m n c : Nat} (h1 : bl m ≤ c) (h2 : bl n ≤ c) : bl (m + n) ≤ c + 1 := by
  have x := Nat.lt_of_lt_of_le (bl_hi m) (pow_le_of h1)
  have y := Nat.lt_of_lt_of_le (bl_hi n) (pow_le_of h2)
  exact bl_le (by rw [Nat.pow_succ]; omega)
abbrev Cf := Nat → List PyData → Option PyData
section
variable {C : Cf} {r : PyData} {m1 m2 : Nat} {a b : Int} {o : Nat} (ho : 0 < o) (hm1 : 0 < m1) (hm2 : 0 < m2)
include hm1 hm2
abbrev adEnv (m1 m2 : Nat) (a b p0 : Int) (rnd : Str) (sub : Int) : Env' := [some (mpf m1 a), some (mpf m2 b), some (.int p0), some (.str rnd), some (.int sub), none, none, none, none, none, none, none, none, none, none, none, none]
include ho in
theorem w_add_p {M : Nat} (e1 : a - b = (o : Int)) (hM : m2 + m1 * 2 ^ o = M) (hs : shlOk (m1 : Int) (o : Int) = true) (hc : C 5 [.int 0, .int M, .int b, .int (bl M), .int (bl M), .str (nm "d")] = some r) :
    runS gs sd C 1000 bmpf_add.body (adEnv m1 m2 a b 0 (nm "d") 0) = some (.ret r) := by
  have e2 : (m2 : Int) + (m1 : Int) * 2 ^ o = (M : Int) := by rw [← hM]; push_cast; rfl
  have g1 : decide ((0 : Int) < (o : Int)) = true := decide_eq_true (by omega)
  cases hb : decide ((100 : Int) < (o : Int)) <;>
  simp -implicitDefEqProofs only [bmpf_add, mpf, nz hm1, nz hm2, x00, e1, nz ho, g1, hb, eq_self, hs, e2, ib, hc, runS, run, BOp.run, IOp.b, eqI, neI, ltI, leI, gtI, geI, truth, start, sets, List.map_cons, List.map_nil, List.length_cons, List.length_nil, Nat.reduceAdd, Nat.reduceSub, List.replicate_succ, List.replicate_zero, List.cons_append, List.nil_append, List.append_nil, List.getElem?_cons_zero, List.getElem?_cons_succ, Option.join_some, Option.map_some, Option.bind_some, List.set_cons_zero, List.set_cons_succ, Bool.not_true, Bool.not_false, Bool.and_true, Bool.true_and, Bool.and_false, Bool.false_and, beq_self_eq_true, guardO, Nat.reduceLT, decide_true, d01, t1, nz1, Nat.reducePow, z0, i2n, g0, g1, g2, g3, g4, g5, g6]
theorem w_add_z {M : Nat} (e1 : a - b = 0) (hM : m2 + m1 = M) (hc : C 5 [.int 0, .int M, .int b, .int (bl M), .int (bl M), .str (nm "d")] = some r) :
    runS gs sd C 1000 bmpf_add.body (adEnv m1 m2 a b 0 (nm "d") 0) = some (.ret r) := by
  have e2 : (m2 : Int) + (m1 : Int) = (M : Int) := by rw [← hM]; push_cast; rfl
  simp -implicitDefEqProofs only [bmpf_add, mpf, nz hm1, nz hm2, x00, e1, eq_self, e2, ib, hc, runS, run, BOp.run, IOp.b, eqI, neI, ltI, leI, gtI, geI, truth, start, sets, List.map_cons, List.map_nil, List.length_cons, List.length_nil, Nat.reduceAdd, Nat.reduceSub, List.replicate_succ, List.replicate_zero, List.cons_append, List.nil_append, List.append_nil, List.getElem?_cons_zero, List.getElem?_cons_succ, Option.join_some, Option.map_some, Option.bind_some, List.set_cons_zero, List.set_cons_succ, Bool.not_true, Bool.not_false, Bool.and_true, Bool.true_and, Bool.and_false, Bool.false_and, beq_self_eq_true, guardO, Nat.reduceLT, decide_true, d01, t1, nz1, Nat.reducePow, z0, i2n, g0, g1, g2, g3, g4, g5, g6]
include ho in
theorem w_add_n {M : Nat} (e1 : a - b = -(o : Int)) (hM : m1 + m2 * 2 ^ o = M) (hs : shlOk (m2 : Int) (o : Int) = true) (hc : C 5 [.int 0, .int M, .int a, .int (bl M), .int (bl M), .str (nm "d")] = some r) :
    runS gs sd C 1000 bmpf_add.body (adEnv m1 m2 a b 0 (nm "d") 0) = some (.ret r) := by
  have e2 : (m1 : Int) + (m2 : Int) * 2 ^ o = (M : Int) := by rw [← hM]; push_cast; rfl
  have g1 : decide ((0 : Int) < -(o : Int)) = false := decide_eq_false (by omega)
  have g2 : decide (-(o : Int) < 0) = true := decide_eq_true (by omega)
  have g3 : ((-(o : Int)) != 0) = true := by simp; omega
  cases hb : decide (-(o : Int) < -100) <;>
  simp -implicitDefEqProofs only [bmpf_add, mpf, nz hm1, nz hm2, x00, e1, g1, g2, g3, hb, eq_self, Int.neg_neg, hs, e2, ib, hc, runS, run, BOp.run, IOp.b, eqI, neI, ltI, leI, gtI, geI, truth, start, sets, List.map_cons, List.map_nil, List.length_cons, List.length_nil, Nat.reduceAdd, Nat.reduceSub, List.replicate_succ, List.replicate_zero, List.cons_append, List.nil_append, List.append_nil, List.getElem?_cons_zero, List.getElem?_cons_succ, Option.join_some, Option.map_some, Option.bind_some, List.set_cons_zero, List.set_cons_succ, Bool.not_true, Bool.not_false, Bool.and_true, Bool.true_and, Bool.and_false, Bool.false_and, beq_self_eq_true, guardO, Nat.reduceLT, decide_true, d01, t1, nz1, Nat.reducePow, z0, i2n, g0, g1, g2, g3, g4, g5, g6]
end
theorem c_add (d : Nat) {K A B : Nat} (hA : 0 < A) (hB : 0 < B) (sA : bl A ≤ 10000) (sB : bl B ≤ 10000) : cf (d + 4) 13 [num K A, num K B] = some (num K (A + B)) := by
  obtain ⟨m1, k1, h1, rfl, h2⟩ := num_cases (K := K) hA
  obtain ⟨m2, k2, h3, rfl, h4⟩ := num_cases (K := K) hB
  have hm1 : 0 < m1 := by omega
  have hm2 : 0 < m2 := by omega
  rw [bl_mul hm1] at sA
  rw [bl_mul hm2] at sB
  rw [h2, h4]
  have hsum : ∀ {m n : Nat}, bl m ≤ 10000 → bl n ≤ 20000 → bl (m + n) ≤ 100000 := fun {m n} a b => by
    have := bl_add (c := 20000) (by omega : bl m ≤ 20000) b
    omega
  refine cf_eq (fb := bmpf_add) (B := bmpf_add.body) (ρ := adEnv m1 m2 _ _ 0 (nm "d") 0) rfl rfl rfl rfl ?_
  rcases Nat.lt_trichotomy k2 k1 with c | c | c
  · obtain ⟨j, rfl⟩ : ∃ j, k1 = k2 + (j + 1) := ⟨k1 - k2 - 1, by omega⟩
    have e3 : m1 * 2 ^ (k2 + (j + 1)) + m2 * 2 ^ k2 = (m2 + m1 * 2 ^ (j + 1)) * 2 ^ k2 := by rw [Nat.pow_add]; grind
    rw [e3]
    exact w_add_p (by omega : 0 < j + 1) hm1 hm2 (by omega) rfl (shlN (by omega) (by omega)) (c_norm0 d rn_d (by omega) (hsum (by omega) (by rw [bl_mul hm1]; omega)))
  · subst c
    rw [← Nat.add_mul, Nat.add_comm m1 m2]
    exact w_add_z hm1 hm2 (by omega) rfl (c_norm0 d rn_d (by omega) (hsum (by omega) (by omega)))
  · obtain ⟨j, rfl⟩ : ∃ j, k2 = k1 + (j + 1) := ⟨k2 - k1 - 1, by omega⟩
    have e3 : m1 * 2 ^ k1 + m2 * 2 ^ (k1 + (j + 1)) = (m1 + m2 * 2 ^ (j + 1)) * 2 ^ k1 := by rw [Nat.pow_add]; grind
    rw [e3]
    exact w_add_n (by omega : 0 < j + 1) hm1 hm2 (by omega) rfl (shlN (by omega) (by omega)) (c_norm0 d rn_d (by omega) (hsum (by omega) (by rw [bl_mul hm2]; omega)))
end Mine
end
-- part APk
section
open PySem PySem.W PyProof.Rows
set_option maxRecDepth 100000
set_option linter.unusedSimpArgs false
set_option maxHeartbeats 1000000
namespace Mine
/-- what is given to the rounding for prec -/
def pOr (p0 : Int) (b : Nat) : Int := if p0 = 0 then b else p0
section
variable {C : Cf} {r : PyData} {m1 m2 M : Nat} {a b p0 sg : Int} {rnd : Str} {o : Nat} (ho : 0 < o) (hm1 : 0 < m1) (hm2 : 0 < m2)
include hm1 hm2
include ho in
theorem w_sub_p (e1 : a - b = (o : Int)) (hs : shlOk (m1 : Int) (o : Int) = true) (hD : (m1 : Int) * 2 ^ o - (m2 : Int) = (M : Int) ∧ sg = 0 ∨ (m1 : Int) * 2 ^ o - (m2 : Int) = -(M : Int) ∧ 0 < M ∧ sg = 1) (hdl : p0 = 0 ∨ decide (p0 + 4 < (bl m1 : Int) + a - (bl m2 : Int) - b) = false) (hc : C 5 [.int sg, .int M, .int b, .int (bl M), .int (pOr p0 (bl M)), .str rnd] = some r) :
    runS gs sd C 1000 bmpf_add.body (adEnv m1 m2 a b p0 rnd 1) = some (.ret r) := by
  have neg : 0 < M → decide (0 ≤ -(M : Int)) = false := fun h => decide_eq_false (by omega)
  have g1 : decide ((0 : Int) < (o : Int)) = true := decide_eq_true (by omega)
  unfold pOr at hc
  by_cases hp : p0 = 0
  · have hp' : (p0 != 0) = false := by rw [hp]; rfl
    rw [if_pos hp] at hc
    clear hp hdl
    rcases hD with ⟨s3, s2⟩ | ⟨s3, s1, s2⟩ <;> rw [s2] at hc
    · cases hb : decide ((100 : Int) < (o : Int)) <;>
      simp -implicitDefEqProofs only [bmpf_add, mpf, nz hm1, nz hm2, x01, e1, nz ho, g1, eq01, hs, hp', hc, ib, hb, s3, dnn, runS, run, BOp.run, IOp.b, eqI, neI, ltI, leI, gtI, geI, truth, start, sets, List.map_cons, List.map_nil, List.length_cons, List.length_nil, Nat.reduceAdd, Nat.reduceSub, List.replicate_succ, List.replicate_zero, List.cons_append, List.nil_append, List.append_nil, List.getElem?_cons_zero, List.getElem?_cons_succ, Option.join_some, Option.map_some, Option.bind_some, List.set_cons_zero, List.set_cons_succ, Bool.not_true, Bool.not_false, Bool.and_true, Bool.true_and, Bool.and_false, Bool.false_and, beq_self_eq_true, guardO, Nat.reduceLT, decide_true, d01, t1, nz1, Nat.reducePow, z0, i2n, g0, g1, g2, g3, g4, g5, g6]
    · cases hb : decide ((100 : Int) < (o : Int)) <;>
      simp -implicitDefEqProofs only [bmpf_add, mpf, nz hm1, nz hm2, x01, e1, nz ho, g1, eq01, hs, hp', hc, ib, hb, s3, neg s1, Int.neg_neg, runS, run, BOp.run, IOp.b, eqI, neI, ltI, leI, gtI, geI, truth, start, sets, List.map_cons, List.map_nil, List.length_cons, List.length_nil, Nat.reduceAdd, Nat.reduceSub, List.replicate_succ, List.replicate_zero, List.cons_append, List.nil_append, List.append_nil, List.getElem?_cons_zero, List.getElem?_cons_succ, Option.join_some, Option.map_some, Option.bind_some, List.set_cons_zero, List.set_cons_succ, Bool.not_true, Bool.not_false, Bool.and_true, Bool.true_and, Bool.and_false, Bool.false_and, beq_self_eq_true, guardO, Nat.reduceLT, decide_true, d01, t1, nz1, Nat.reducePow, z0, i2n, g0, g1, g2, g3, g4, g5, g6]
  · have hp' : (p0 != 0) = true := by simpa using hp
    rw [if_neg hp] at hc
    have hdl := hdl.resolve_left hp
    clear hp
    rcases hD with ⟨s3, s2⟩ | ⟨s3, s1, s2⟩ <;> rw [s2] at hc
    · cases hb : decide ((100 : Int) < (o : Int)) <;>
      simp -implicitDefEqProofs only [bmpf_add, mpf, nz hm1, nz hm2, x01, e1, nz ho, g1, eq01, hs, hp', hc, ib, hdl, hb, s3, dnn, runS, run, BOp.run, IOp.b, eqI, neI, ltI, leI, gtI, geI, truth, start, sets, List.map_cons, List.map_nil, List.length_cons, List.length_nil, Nat.reduceAdd, Nat.reduceSub, List.replicate_succ, List.replicate_zero, List.cons_append, List.nil_append, List.append_nil, List.getElem?_cons_zero, List.getElem?_cons_succ, Option.join_some, Option.map_some, Option.bind_some, List.set_cons_zero, List.set_cons_succ, Bool.not_true, Bool.not_false, Bool.and_true, Bool.true_and, Bool.and_false, Bool.false_and, beq_self_eq_true, guardO, Nat.reduceLT, decide_true, d01, t1, nz1, Nat.reducePow, z0, i2n, g0, g1, g2, g3, g4, g5, g6]
    · cases hb : decide ((100 : Int) < (o : Int)) <;>
      simp -implicitDefEqProofs only [bmpf_add, mpf, nz hm1, nz hm2, x01, e1, nz ho, g1, eq01, hs, hp', hc, ib, hdl, hb, s3, neg s1, Int.neg_neg, runS, run, BOp.run, IOp.b, eqI, neI, ltI, leI, gtI, geI, truth, start, sets, List.map_cons, List.map_nil, List.length_cons, List.length_nil, Nat.reduceAdd, Nat.reduceSub, List.replicate_succ, List.replicate_zero, List.cons_append, List.nil_append, List.append_nil, List.getElem?_cons_zero, List.getElem?_cons_succ, Option.join_some, Option.map_some, Option.bind_some, List.set_cons_zero, List.set_cons_succ, Bool.not_true, Bool.not_false, Bool.and_true, Bool.true_and, Bool.and_false, Bool.false_and, beq_self_eq_true, guardO, Nat.reduceLT, decide_true, d01, t1, nz1, Nat.reducePow, z0, i2n, g0, g1, g2, g3, g4, g5, g6]
theorem w_sub_z (e1 : a - b = 0) (hD : (m1 : Int) - (m2 : Int) = (M : Int) ∧ sg = 0 ∨ (m1 : Int) - (m2 : Int) = -(M : Int) ∧ 0 < M ∧ sg = 1) (hc : C 5 [.int sg, .int M, .int b, .int (bl M), .int (pOr p0 (bl M)), .str rnd] = some r) :
    runS gs sd C 1000 bmpf_add.body (adEnv m1 m2 a b p0 rnd 1) = some (.ret r) := by
  have neg : 0 < M → decide (0 ≤ -(M : Int)) = false := fun h => decide_eq_false (by omega)
  unfold pOr at hc
  by_cases hp : p0 = 0
  · have hp' : (p0 != 0) = false := by rw [hp]; rfl
    rw [if_pos hp] at hc
    clear hp
    rcases hD with ⟨s3, s2⟩ | ⟨s3, s1, s2⟩ <;> rw [s2] at hc
    · simp -implicitDefEqProofs only [bmpf_add, mpf, nz hm1, nz hm2, x01, e1, eq01, hp', hc, ib, s3, dnn, runS, run, BOp.run, IOp.b, eqI, neI, ltI, leI, gtI, geI, truth, start, sets, List.map_cons, List.map_nil, List.length_cons, List.length_nil, Nat.reduceAdd, Nat.reduceSub, List.replicate_succ, List.replicate_zero, List.cons_append, List.nil_append, List.append_nil, List.getElem?_cons_zero, List.getElem?_cons_succ, Option.join_some, Option.map_some, Option.bind_some, List.set_cons_zero, List.set_cons_succ, Bool.not_true, Bool.not_false, Bool.and_true, Bool.true_and, Bool.and_false, Bool.false_and, beq_self_eq_true, guardO, Nat.reduceLT, decide_true, d01, t1, nz1, Nat.reducePow, z0, i2n, g0, g1, g2, g3, g4, g5, g6]
    · simp -implicitDefEqProofs only [bmpf_add, mpf, nz hm1, nz hm2, x01, e1, eq01, hp', hc, ib, s3, neg s1, Int.neg_neg, runS, run, BOp.run, IOp.b, eqI, neI, ltI, leI, gtI, geI, truth, start, sets, List.map_cons, List.map_nil, List.length_cons, List.length_nil, Nat.reduceAdd, Nat.reduceSub, List.replicate_succ, List.replicate_zero, List.cons_append, List.nil_append, List.append_nil, List.getElem?_cons_zero, List.getElem?_cons_succ, Option.join_some, Option.map_some, Option.bind_some, List.set_cons_zero, List.set_cons_succ, Bool.not_true, Bool.not_false, Bool.and_true, Bool.true_and, Bool.and_false, Bool.false_and, beq_self_eq_true, guardO, Nat.reduceLT, decide_true, d01, t1, nz1, Nat.reducePow, z0, i2n, g0, g1, g2, g3, g4, g5, g6]
  · have hp' : (p0 != 0) = true := by simpa using hp
    rw [if_neg hp] at hc
    clear hp
    rcases hD with ⟨s3, s2⟩ | ⟨s3, s1, s2⟩ <;> rw [s2] at hc
    · simp -implicitDefEqProofs only [bmpf_add, mpf, nz hm1, nz hm2, x01, e1, eq01, hp', hc, ib, s3, dnn, runS, run, BOp.run, IOp.b, eqI, neI, ltI, leI, gtI, geI, truth, start, sets, List.map_cons, List.map_nil, List.length_cons, List.length_nil, Nat.reduceAdd, Nat.reduceSub, List.replicate_succ, List.replicate_zero, List.cons_append, List.nil_append, List.append_nil, List.getElem?_cons_zero, List.getElem?_cons_succ, Option.join_some, Option.map_some, Option.bind_some, List.set_cons_zero, List.set_cons_succ, Bool.not_true, Bool.not_false, Bool.and_true, Bool.true_and, Bool.and_false, Bool.false_and, beq_self_eq_true, guardO, Nat.reduceLT, decide_true, d01, t1, nz1, Nat.reducePow, z0, i2n, g0, g1, g2, g3, g4, g5, g6]
    · simp -implicitDefEqProofs only [bmpf_add, mpf, nz hm1, nz hm2, x01, e1, eq01, hp', hc, ib, s3, neg s1, Int.neg_neg, runS, run, BOp.run, IOp.b, eqI, neI, ltI, leI, gtI, geI, truth, start, sets, List.map_cons, List.map_nil, List.length_cons, List.length_nil, Nat.reduceAdd, Nat.reduceSub, List.replicate_succ, List.replicate_zero, List.cons_append, List.nil_append, List.append_nil, List.getElem?_cons_zero, List.getElem?_cons_succ, Option.join_some, Option.map_some, Option.bind_some, List.set_cons_zero, List.set_cons_succ, Bool.not_true, Bool.not_false, Bool.and_true, Bool.true_and, Bool.and_false, Bool.false_and, beq_self_eq_true, guardO, Nat.reduceLT, decide_true, d01, t1, nz1, Nat.reducePow, z0, i2n, g0, g1, g2, g3, g4, g5, g6]
include ho in
theorem w_sub_n (e1 : a - b = -(o : Int)) (hs : shlOk (m2 : Int) (o : Int) = true) (hD : (m1 : Int) - (m2 : Int) * 2 ^ o = (M : Int) ∧ sg = 0 ∨ (m1 : Int) - (m2 : Int) * 2 ^ o = -(M : Int) ∧ 0 < M ∧ sg = 1) (hdl : p0 = 0 ∨ decide (p0 + 4 < (bl m2 : Int) + b - (bl m1 : Int) - a) = false) (hc : C 5 [.int sg, .int M, .int a, .int (bl M), .int (pOr p0 (bl M)), .str rnd] = some r) :
    runS gs sd C 1000 bmpf_add.body (adEnv m1 m2 a b p0 rnd 1) = some (.ret r) := by
  have neg : 0 < M → decide (0 ≤ -(M : Int)) = false := fun h => decide_eq_false (by omega)
  have g1 : decide ((0 : Int) < -(o : Int)) = false := decide_eq_false (by omega)
  have g2 : decide (-(o : Int) < 0) = true := decide_eq_true (by omega)
  have g3 : ((-(o : Int)) != 0) = true := by simp; omega
  unfold pOr at hc
  by_cases hp : p0 = 0
  · have hp' : (p0 != 0) = false := by rw [hp]; rfl
    rw [if_pos hp] at hc
    clear hp hdl
    rcases hD with ⟨s3, s2⟩ | ⟨s3, s1, s2⟩ <;> rw [s2] at hc
    · cases hb : decide (-(o : Int) < -100) <;>
      simp -implicitDefEqProofs only [bmpf_add, mpf, nz hm1, nz hm2, x01, e1, g1, g2, g3, eq01, Int.neg_neg, hs, hp', hc, ib, hb, s3, dnn, runS, run, BOp.run, IOp.b, eqI, neI, ltI, leI, gtI, geI, truth, start, sets, List.map_cons, List.map_nil, List.length_cons, List.length_nil, Nat.reduceAdd, Nat.reduceSub, List.replicate_succ, List.replicate_zero, List.cons_append, List.nil_append, List.append_nil, List.getElem?_cons_zero, List.getElem?_cons_succ, Option.join_some, Option.map_some, Option.bind_some, List.set_cons_zero, List.set_cons_succ, Bool.not_true, Bool.not_false, Bool.and_true, Bool.true_and, Bool.and_false, Bool.false_and, beq_self_eq_true, guardO, Nat.reduceLT, decide_true, d01, t1, nz1, Nat.reducePow, z0, i2n, g0, g1, g2, g3, g4, g5, g6]
    · cases hb : decide (-(o : Int) < -100) <;>
      simp -implicitDefEqProofs only [bmpf_add, mpf, nz hm1, nz hm2, x01, e1, g1, g2, g3, eq01, Int.neg_neg, hs, hp', hc, ib, hb, s3, neg s1, Int.neg_neg, runS, run, BOp.run, IOp.b, eqI, neI, ltI, leI, gtI, geI, truth, start, sets, List.map_cons, List.map_nil, List.length_cons, List.length_nil, Nat.reduceAdd, Nat.reduceSub, List.replicate_succ, List.replicate_zero, List.cons_append, List.nil_append, List.append_nil, List.getElem?_cons_zero, List.getElem?_cons_succ, Option.join_some, Option.map_some, Option.bind_some, List.set_cons_zero, List.set_cons_succ, Bool.not_true, Bool.not_false, Bool.and_true, Bool.true_and, Bool.and_false, Bool.false_and, beq_self_eq_true, guardO, Nat.reduceLT, decide_true, d01, t1, nz1, Nat.reducePow, z0, i2n, g0, g1, g2, g3, g4, g5, g6]
  · have hp' : (p0 != 0) = true := by simpa using hp
    rw [if_neg hp] at hc
    have hdl := hdl.resolve_left hp
    clear hp
    rcases hD with ⟨s3, s2⟩ | ⟨s3, s1, s2⟩ <;> rw [s2] at hc
    · cases hb : decide (-(o : Int) < -100) <;>
      simp -implicitDefEqProofs only [bmpf_add, mpf, nz hm1, nz hm2, x01, e1, g1, g2, g3, eq01, Int.neg_neg, hs, hp', hc, ib, hdl, hb, s3, dnn, runS, run, BOp.run, IOp.b, eqI, neI, ltI, leI, gtI, geI, truth, start, sets, List.map_cons, List.map_nil, List.length_cons, List.length_nil, Nat.reduceAdd, Nat.reduceSub, List.replicate_succ, List.replicate_zero, List.cons_append, List.nil_append, List.append_nil, List.getElem?_cons_zero, List.getElem?_cons_succ, Option.join_some, Option.map_some, Option.bind_some, List.set_cons_zero, List.set_cons_succ, Bool.not_true, Bool.not_false, Bool.and_true, Bool.true_and, Bool.and_false, Bool.false_and, beq_self_eq_true, guardO, Nat.reduceLT, decide_true, d01, t1, nz1, Nat.reducePow, z0, i2n, g0, g1, g2, g3, g4, g5, g6]
    · cases hb : decide (-(o : Int) < -100) <;>
      simp -implicitDefEqProofs only [bmpf_add, mpf, nz hm1, nz hm2, x01, e1, g1, g2, g3, eq01, Int.neg_neg, hs, hp', hc, ib, hdl, hb, s3, neg s1, Int.neg_neg, runS, run, BOp.run, IOp.b, eqI, neI, ltI, leI, gtI, geI, truth, start, sets, List.map_cons, List.map_nil, List.length_cons, List.length_nil, Nat.reduceAdd, Nat.reduceSub, List.replicate_succ, List.replicate_zero, List.cons_append, List.nil_append, List.append_nil, List.getElem?_cons_zero, List.getElem?_cons_succ, Option.join_some, Option.map_some, Option.bind_some, List.set_cons_zero, List.set_cons_succ, Bool.not_true, Bool.not_false, Bool.and_true, Bool.true_and, Bool.and_false, Bool.false_and, beq_self_eq_true, guardO, Nat.reduceLT, decide_true, d01, t1, nz1, Nat.reducePow, z0, i2n, g0, g1, g2, g3, g4, g5, g6]
end
end Mine
end
-- part APl
section
open PySem PySem.W PyProof.Rows
set_option maxRecDepth 100000
set_option linter.unusedSimpArgs false
set_option maxHeartbeats 1000000
namespace Mine
theorem c_subraw (d : Nat) {K A B : Nat} {p0 : Int} (rnd : Str) (hA : 0 < A) (hB : 0 < B) (sA : bl A ≤ 10000) (sB : bl B ≤ 10000) (hp : p0 = 0 ∨ bl A = bl B ∧ 0 ≤ p0) :
    ∃ k M : Nat, ∃ sg : Int, (A = B + M * 2 ^ k ∧ sg = 0 ∨ B = A + M * 2 ^ k ∧ 0 < M ∧ sg = 1) ∧ bl M ≤ 100000 ∧
      ∀ r, cf d 5 [.int sg, .int M, .int ((k : Int) - K), .int (bl M), .int (pOr p0 (bl M)), .str rnd] = some r → cf (d + 1) 13 [num K A, num K B, .int p0, .str rnd, .int 1] = some r := by
  obtain ⟨m1, k1, h1, rfl, h2⟩ := num_cases (K := K) hA
  obtain ⟨m2, k2, h3, rfl, h4⟩ := num_cases (K := K) hB
  have hm1 : 0 < m1 := by omega
  have hm2 : 0 < m2 := by omega
  have hM : ∀ {M k n : Nat}, M * 2 ^ k ≤ n → bl n ≤ 10000 → bl M ≤ 100000 := fun {M k n} a b => by
    have := bl_mono (Nat.le_trans (Nat.le_mul_of_pos_right M (Nat.two_pow_pos k)) a)
    omega
  have tot : ∀ k : Nat, ∀ x y : Nat, x * 2 ^ k = m1 * 2 ^ k1 → y * 2 ^ k = m2 * 2 ^ k2 → ∃ M : Nat, ∃ sg : Int, ((x : Int) - (y : Int) = (M : Int) ∧ sg = 0 ∨ (x : Int) - (y : Int) = -(M : Int) ∧ 0 < M ∧ sg = 1) ∧
      (m1 * 2 ^ k1 = m2 * 2 ^ k2 + M * 2 ^ k ∧ sg = 0 ∨ m2 * 2 ^ k2 = m1 * 2 ^ k1 + M * 2 ^ k ∧ 0 < M ∧ sg = 1) ∧ bl M ≤ 100000 := by
    intro k x y hx hy
    rcases Nat.lt_or_ge x y with c | c
    · refine ⟨y - x, 1, .inr ⟨by omega, by omega, rfl⟩, ?_⟩
      have e : m2 * 2 ^ k2 = m1 * 2 ^ k1 + (y - x) * 2 ^ k := by rw [← hx, ← hy, ← Nat.add_mul]; congr 1; omega
      exact ⟨.inr ⟨e, by omega, rfl⟩, hM (k := k) (by omega) sB⟩
    · refine ⟨x - y, 0, .inl ⟨by omega, rfl⟩, ?_⟩
      have e : m1 * 2 ^ k1 = m2 * 2 ^ k2 + (x - y) * 2 ^ k := by rw [← hx, ← hy, ← Nat.add_mul]; congr 1; omega
      exact ⟨.inl ⟨e, rfl⟩, hM (k := k) (by omega) sA⟩
  rw [bl_mul hm1] at sA hp
  rw [bl_mul hm2] at sB hp
  rw [h2, h4]
  have go : ∀ r, runS gs sd (cf d) 1000 bmpf_add.body (adEnv m1 m2 ((k1 : Int) - K) ((k2 : Int) - K) p0 rnd 1) = some (.ret r) → cf (d + 1) 13 [mpf m1 ((k1 : Int) - K), mpf m2 ((k2 : Int) - K), .int p0, .str rnd, .int 1] = some r :=
    fun r h => cf_eq (fb := bmpf_add) (B := bmpf_add.body) (ρ := adEnv m1 m2 _ _ p0 rnd 1) rfl rfl rfl rfl h
  have hd1 : p0 = 0 ∨ decide (p0 + 4 < (bl m1 : Int) + ((k1 : Int) - K) - (bl m2 : Int) - ((k2 : Int) - K)) = false := by
    rcases hp with h | h
    · exact .inl h
    · exact .inr (decide_eq_false (by omega))
  have hd2 : p0 = 0 ∨ decide (p0 + 4 < (bl m2 : Int) + ((k2 : Int) - K) - (bl m1 : Int) - ((k1 : Int) - K)) = false := by
    rcases hp with h | h
    · exact .inl h
    · exact .inr (decide_eq_false (by omega))
  clear hp
  rcases Nat.lt_trichotomy k2 k1 with c | c | c
  · obtain ⟨o, rfl⟩ : ∃ o, k1 = k2 + o := ⟨k1 - k2, by omega⟩
    obtain ⟨M, sg, t1, t2, t3⟩ := tot k2 (m1 * 2 ^ o) m2 (by rw [Nat.mul_assoc, ← Nat.pow_add, Nat.add_comm]) rfl
    rw [Int.natCast_mul, Int.natCast_pow] at t1
    exact ⟨k2, M, sg, t2, t3, fun r hc => go r (w_sub_p (by omega) hm1 hm2 (by omega) (shlN (by omega) (by omega)) t1 hd1 hc)⟩
  · subst c
    obtain ⟨M, sg, t1, t2, t3⟩ := tot k2 m1 m2 rfl rfl
    exact ⟨k2, M, sg, t2, t3, fun r hc => go r (w_sub_z hm1 hm2 (by omega) t1 hc)⟩
  · obtain ⟨o, rfl⟩ : ∃ o, k2 = k1 + o := ⟨k2 - k1, by omega⟩
    obtain ⟨M, sg, t1, t2, t3⟩ := tot k1 m1 (m2 * 2 ^ o) rfl (by rw [Nat.mul_assoc, ← Nat.pow_add, Nat.add_comm])
    rw [Int.natCast_mul, Int.natCast_pow] at t1
    exact ⟨k1, M, sg, t2, t3, fun r hc => go r (w_sub_n (by omega) hm1 hm2 (by omega) (shlN (by omega) (by omega)) t1 hd2 hc)⟩
/-- below 0 -/
def numN (K V : Nat) : PyData := .tuple [.int 1, .int (od V), .int ((tz V : Int) - K), .int (bl (od V))]
theorem od_scale {q : Nat} (h : 0 < q) (k : Nat) : od (q * 2 ^ k) = od q ∧ tz (q * 2 ^ k) = tz q + k := by
  obtain ⟨h1, h2⟩ := od_spec q h
  have e : q * 2 ^ k = od q * 2 ^ (tz q + k) := by rw [Nat.pow_add, ← Nat.mul_assoc, ← h1]
  rw [e]; exact od_mul h2 _
theorem c_sub2 (d : Nat) {K A B : Nat} (hA : 0 < A) (hB : 0 < B) (sA : bl A ≤ 10000) (sB : bl B ≤ 10000) : cf (d + 5) 14 [num K A, num K B] = some (if B ≤ A then num K (A - B) else numN K (B - A)) := by
  obtain ⟨k, M, sg, h1, h2, h3⟩ := c_subraw (d + 3) (K := K) (p0 := 0) (nm "d") hA hB sA sB (.inl rfl)
  refine cf_eq (fb := bmpf_sub) (ρ := [_, _, _, _]) rfl rfl rfl rfl ?_
  have hr : cf (d + 4) 13 [num K A, num K B, .int 0, .str (nm "d"), .int 1] = some (if B ≤ A then num K (A - B) else numN K (B - A)) := by
    refine h3 _ ?_
    show cf (d + 3) 5 [.int sg, .int M, .int ((k : Int) - K), .int (bl M), .int (bl M), .str (nm "d")] = _
    rcases h1 with ⟨h, rfl⟩ | ⟨h, h0, rfl⟩
    · rw [if_pos (by omega), show A - B = M * 2 ^ k by omega]
      rcases Nat.eq_zero_or_pos M with z | z
      · subst z
        rw [Nat.zero_mul]
        exact c_normalize_zero d
      · exact c_norm0 d rn_d z h2
    · have hpos := Nat.mul_pos h0 (Nat.two_pow_pos k)
      rw [if_neg (by omega), show B - A = M * 2 ^ k by omega, c_normalize d rn_d1 h0 (bl_pos h0) h2]
      have e : rm .d (bl M) M = M := by unfold rm; rw [if_pos (Nat.le_refl _)]
      obtain ⟨a, b⟩ := od_scale h0 k
      unfold numN
      rw [e, a, b, Nat.sub_self, show (k : Int) - K + ((0 : Nat) : Int) + (tz M : Int) = ((tz M + k : Nat) : Int) - K by omega]
  simp -implicitDefEqProofs only [bmpf_sub, hr, runS, run, BOp.run, IOp.b, eqI, neI, ltI, leI, gtI, geI, truth, start, sets, List.map_cons, List.map_nil, List.length_cons, List.length_nil, Nat.reduceAdd, Nat.reduceSub, List.replicate_succ, List.replicate_zero, List.cons_append, List.nil_append, List.append_nil, List.getElem?_cons_zero, List.getElem?_cons_succ, Option.join_some, Option.map_some, Option.bind_some, List.set_cons_zero, List.set_cons_succ, Bool.not_true, Bool.not_false, Bool.and_true, Bool.true_and, Bool.and_false, Bool.false_and, beq_self_eq_true, guardO, Nat.reduceLT, decide_true, d01, t1, nz1, Nat.reducePow, z0, i2n, g0, g1, g2, g3, g4, g5, g6]
theorem c_sub5 (d : Nat) {K A B : Nat} (hA : 0 < A) (hB : 0 < B) (sA : bl A ≤ 10000) (sB : bl B ≤ 10000) (hb : bl A = bl B) (hne : A ≠ B) : ∃ x y z, cf (d + 5) 14 [num K A, num K B, .int 5, .str (nm "f")] = some (.tuple [.int (if B ≤ A then 0 else 1), x, y, z]) := by
  obtain ⟨k, M, sg, h1, h2, h3⟩ := c_subraw (d + 3) (K := K) (p0 := 5) (nm "f") hA hB sA sB (.inr ⟨hb, by decide⟩)
  have hr : ∃ x y z, cf (d + 4) 13 [num K A, num K B, .int 5, .str (nm "f"), .int 1] = some (.tuple [.int (if B ≤ A then 0 else 1), x, y, z]) := by
    have h4 : ∃ x y z, cf (d + 3) 5 [.int sg, .int M, .int ((k : Int) - K), .int (bl M), .int (pOr 5 (bl M)), .str (nm "f")] = some (.tuple [.int (if B ≤ A then 0 else 1), x, y, z]) := by
      show ∃ x y z, cf (d + 3) 5 [.int sg, .int M, .int ((k : Int) - K), .int (bl M), .int ((5 : Nat) : Int), .str (nm "f")] = _
      rcases h1 with ⟨h, rfl⟩ | ⟨h, h0, rfl⟩
      · have h0 : 0 < M := by
          rcases Nat.eq_zero_or_pos M with z | z
          · subst z; rw [Nat.zero_mul] at h; omega
          · exact z
        rw [if_pos (by omega), c_normalize d rn_f h0 (by decide) h2]
        exact ⟨_, _, _, rfl⟩
      · have hpos := Nat.mul_pos h0 (Nat.two_pow_pos k)
        rw [if_neg (by omega), c_normalize d rn_f1 h0 (by decide) h2]
        exact ⟨_, _, _, rfl⟩
    obtain ⟨x, y, z, h5⟩ := h4
    exact ⟨x, y, z, h3 _ h5⟩
  obtain ⟨x, y, z, hr⟩ := hr
  refine ⟨x, y, z, cf_eq (fb := bmpf_sub) (ρ := [_, _, _, _]) rfl rfl rfl rfl ?_⟩
  simp -implicitDefEqProofs only [bmpf_sub, hr, runS, run, BOp.run, IOp.b, eqI, neI, ltI, leI, gtI, geI, truth, start, sets, List.map_cons, List.map_nil, List.length_cons, List.length_nil, Nat.reduceAdd, Nat.reduceSub, List.replicate_succ, List.replicate_zero, List.cons_append, List.nil_append, List.append_nil, List.getElem?_cons_zero, List.getElem?_cons_succ, Option.join_some, Option.map_some, Option.bind_some, List.set_cons_zero, List.set_cons_succ, Bool.not_true, Bool.not_false, Bool.and_true, Bool.true_and, Bool.and_false, Bool.false_and, beq_self_eq_true, guardO, Nat.reduceLT, decide_true, d01, t1, nz1, Nat.reducePow, z0, i2n, g0, g1, g2, g3, g4, g5, g6]
end Mine
end
-- part APm
section
open PySem PySem.W PyProof.Rows
set_option maxRecDepth 100000
set_option linter.unusedSimpArgs false
set_option maxHeartbeats 1000000
namespace Mine
theorem sh4 (a b c d : Int) : SeqAt.shaped (.tuple [.int a, .int b, .int c, .int d]) = true := by
  simp [SeqAt.shaped, PyData.canLay0, PyData.canLayAll0, PyData.depth, PyData.depthAll]
def eq4b (a b c d a' b' c' d' : Int) : Bool := decide (a = a' ∧ b = b' ∧ c = c' ∧ d = d')
theorem eqv4 (a b c d a' b' c' d' : Int) : PyData.eqv (.tuple [.int a, .int b, .int c, .int d]) (.tuple [.int a', .int b', .int c', .int d']) = eq4b a b c d a' b' c' d' := by
  unfold eq4b
  rw [Bool.eq_iff_iff]
  simp [PyData.eqv, PyData.eqvAll]
theorem eqRun (x y : PyData) : COp.run .eq x y = guardO (SeqAt.shaped x && SeqAt.shaped y) (PyData.eqv x y) := by
  unfold COp.run; rfl
theorem neRun (x y : PyData) : COp.run .ne x y = guardO (SeqAt.shaped x && SeqAt.shaped y) (!PyData.eqv x y) := by
  unfold COp.run; rfl
theorem eq4 (a b c d a' b' c' d' : Int) : COp.run .eq (.tuple [.int a, .int b, .int c, .int d]) (.tuple [.int a', .int b', .int c', .int d']) = some (eq4b a b c d a' b' c' d') := by
  rw [eqRun, sh4, sh4, eqv4]; rfl
theorem ne4 (a b c d a' b' c' d' : Int) : COp.run .ne (.tuple [.int a, .int b, .int c, .int d]) (.tuple [.int a', .int b', .int c', .int d']) = some (!eq4b a b c d a' b' c' d') := by
  rw [neRun, sh4, sh4, eqv4]; rfl
theorem eq4_ne2 {a b c d a' b' c' d' : Int} (h : b ≠ b') : eq4b a b c d a' b' c' d' = false := by unfold eq4b; exact decide_eq_false (fun x => h x.2.1)
theorem pow0 : BOp.run .pow (-1) 0 = some 1 := by decide
theorem c_sign (d : Nat) {m : Nat} (hm : 0 < m) (e : Int) : cf (d + 1) 12 [mpf m e] = some (.int 1) := by
  refine cf_eq (fb := bmpf_sign) (ρ := [_, _, _, _, _]) rfl rfl rfl rfl ?_
  simp -implicitDefEqProofs only [bmpf_sign, mpf]
  have h : ∀ a b : T, ∀ ρ, run gs sd (cf d) (.bin .pow a b) ρ = (match run gs sd (cf d) a ρ, run gs sd (cf d) b ρ with | some (.int x), some (.int y) => (BOp.run .pow x y).map .int | _, _ => none) := fun _ _ _ => rfl
  have h2 : (PyData.int <$> BOp.run .pow (-1) 0) = some (.int 1) := by rw [pow0]; rfl
  simp -implicitDefEqProofs only [runS, run, truth, sets, List.length_cons, List.length_nil, Nat.reduceAdd, beq_self_eq_true, guardO, List.getElem?_cons_zero, List.getElem?_cons_succ, Option.join_some, List.set_cons_zero, List.set_cons_succ, nz hm, Bool.not_true, Option.map_some, pow0]
section
variable {C : Cf} {r : PyData} {m1 m2 : Nat} {a b : Int} (hm1 : 0 < m1) (hm2 : 0 < m2)
include hm1 hm2
abbrev cmEnv (m1 m2 : Nat) (a b : Int) : Env' := [some (mpf m1 a), some (mpf m2 b), none, none, none, none, none, none, none, none, none, none, none]
theorem w_cmp_e (h : a = b) : runS gs sd C 1000 bmpf_cmp.body (cmEnv m1 m2 a b) = some (.ret (.int (if m1 = m2 then 0 else if m2 < m1 then 1 else -1))) := by
  have h1 : decide (a = b) = true := decide_eq_true h
  by_cases c : m1 = m2
  · have h2 : decide ((m1 : Int) = (m2 : Int)) = true := decide_eq_true (by omega)
    rw [if_pos c]
    simp -implicitDefEqProofs only [bmpf_cmp, mpf, nz hm1, nz hm2, eq_self, h1, h2, runS, run, BOp.run, IOp.b, eqI, neI, ltI, leI, gtI, geI, truth, start, sets, List.map_cons, List.map_nil, List.length_cons, List.length_nil, Nat.reduceAdd, Nat.reduceSub, List.replicate_succ, List.replicate_zero, List.cons_append, List.nil_append, List.append_nil, List.getElem?_cons_zero, List.getElem?_cons_succ, Option.join_some, Option.map_some, Option.bind_some, List.set_cons_zero, List.set_cons_succ, Bool.not_true, Bool.not_false, Bool.and_true, Bool.true_and, Bool.and_false, Bool.false_and, beq_self_eq_true, guardO, Nat.reduceLT, decide_true, d01, t1, nz1, Nat.reducePow, z0, i2n, g0, g1, g2, g3, g4, g5, g6]
  · have h2 : decide ((m1 : Int) = (m2 : Int)) = false := decide_eq_false (by omega)
    rw [if_neg c]
    by_cases c2 : m2 < m1
    · have h3 : decide ((m2 : Int) < (m1 : Int)) = true := decide_eq_true (by omega)
      rw [if_pos c2]
      simp -implicitDefEqProofs only [bmpf_cmp, mpf, nz hm1, nz hm2, eq_self, h1, h2, h3, runS, run, BOp.run, IOp.b, eqI, neI, ltI, leI, gtI, geI, truth, start, sets, List.map_cons, List.map_nil, List.length_cons, List.length_nil, Nat.reduceAdd, Nat.reduceSub, List.replicate_succ, List.replicate_zero, List.cons_append, List.nil_append, List.append_nil, List.getElem?_cons_zero, List.getElem?_cons_succ, Option.join_some, Option.map_some, Option.bind_some, List.set_cons_zero, List.set_cons_succ, Bool.not_true, Bool.not_false, Bool.and_true, Bool.true_and, Bool.and_false, Bool.false_and, beq_self_eq_true, guardO, Nat.reduceLT, decide_true, d01, t1, nz1, Nat.reducePow, z0, i2n, g0, g1, g2, g3, g4, g5, g6]
    · have h3 : decide ((m2 : Int) < (m1 : Int)) = false := decide_eq_false (by omega)
      rw [if_neg c2]
      simp -implicitDefEqProofs only [bmpf_cmp, mpf, nz hm1, nz hm2, eq_self, h1, h2, h3, runS, run, BOp.run, IOp.b, eqI, neI, ltI, leI, gtI, geI, truth, start, sets, List.map_cons, List.map_nil, List.length_cons, List.length_nil, Nat.reduceAdd, Nat.reduceSub, List.replicate_succ, List.replicate_zero, List.cons_append, List.nil_append, List.append_nil, List.getElem?_cons_zero, List.getElem?_cons_succ, Option.join_some, Option.map_some, Option.bind_some, List.set_cons_zero, List.set_cons_succ, Bool.not_true, Bool.not_false, Bool.and_true, Bool.true_and, Bool.and_false, Bool.false_and, beq_self_eq_true, guardO, Nat.reduceLT, decide_true, d01, t1, nz1, Nat.reducePow, z0, i2n, g0, g1, g2, g3, g4, g5, g6]
theorem w_cmp_b (h : a ≠ b) (h2 : (bl m1 : Int) + a ≠ bl m2 + b) : runS gs sd C 1000 bmpf_cmp.body (cmEnv m1 m2 a b) = some (.ret (.int (if (bl m1 : Int) + a < bl m2 + b then -1 else 1))) := by
  have h1 : decide (a = b) = false := decide_eq_false h
  by_cases c : (bl m1 : Int) + a < bl m2 + b
  · have h3 : decide ((bl m1 : Int) + a < bl m2 + b) = true := decide_eq_true c
    rw [if_pos c]
    simp -implicitDefEqProofs only [bmpf_cmp, mpf, nz hm1, nz hm2, eq_self, h1, h3, runS, run, BOp.run, IOp.b, eqI, neI, ltI, leI, gtI, geI, truth, start, sets, List.map_cons, List.map_nil, List.length_cons, List.length_nil, Nat.reduceAdd, Nat.reduceSub, List.replicate_succ, List.replicate_zero, List.cons_append, List.nil_append, List.append_nil, List.getElem?_cons_zero, List.getElem?_cons_succ, Option.join_some, Option.map_some, Option.bind_some, List.set_cons_zero, List.set_cons_succ, Bool.not_true, Bool.not_false, Bool.and_true, Bool.true_and, Bool.and_false, Bool.false_and, beq_self_eq_true, guardO, Nat.reduceLT, decide_true, d01, t1, nz1, Nat.reducePow, z0, i2n, g0, g1, g2, g3, g4, g5, g6]
  · have h3 : decide ((bl m1 : Int) + a < bl m2 + b) = false := decide_eq_false c
    have h4 : decide ((bl m2 : Int) + b < bl m1 + a) = true := decide_eq_true (by omega)
    rw [if_neg c]
    simp -implicitDefEqProofs only [bmpf_cmp, mpf, nz hm1, nz hm2, eq_self, h1, h3, h4, runS, run, BOp.run, IOp.b, eqI, neI, ltI, leI, gtI, geI, truth, start, sets, List.map_cons, List.map_nil, List.length_cons, List.length_nil, Nat.reduceAdd, Nat.reduceSub, List.replicate_succ, List.replicate_zero, List.cons_append, List.nil_append, List.append_nil, List.getElem?_cons_zero, List.getElem?_cons_succ, Option.join_some, Option.map_some, Option.bind_some, List.set_cons_zero, List.set_cons_succ, Bool.not_true, Bool.not_false, Bool.and_true, Bool.true_and, Bool.and_false, Bool.false_and, beq_self_eq_true, guardO, Nat.reduceLT, decide_true, d01, t1, nz1, Nat.reducePow, z0, i2n, g0, g1, g2, g3, g4, g5, g6]
theorem w_cmp_d {g : Int} {x y z : PyData} (h : a ≠ b) (h2 : (bl m1 : Int) + a = bl m2 + b) (hg : g = 0 ∨ g = 1) (hc : C 14 [mpf m1 a, mpf m2 b, .int 5, .str (nm "f")] = some (.tuple [.int g, x, y, z])) :
    runS gs sd C 1000 bmpf_cmp.body (cmEnv m1 m2 a b) = some (.ret (.int (if g = 0 then 1 else -1))) := by
  have h1 : decide (a = b) = false := decide_eq_false h
  have h3 : decide ((bl m1 : Int) + a < bl m2 + b) = false := decide_eq_false (by omega)
  have h4 : decide ((bl m2 : Int) + b < bl m1 + a) = false := decide_eq_false (by omega)
  have h5 : ∀ u, idxOf [PyData.int u, x, y, z] 0 = some (.int u) := fun u => rfl
  unfold mpf at hc
  rcases hg with rfl | rfl
  · rw [if_pos rfl]
    simp -implicitDefEqProofs only [bmpf_cmp, mpf, nz hm1, nz hm2, eq_self, h1, h3, h4, hc, h5, runS, run, BOp.run, IOp.b, eqI, neI, ltI, leI, gtI, geI, truth, start, sets, List.map_cons, List.map_nil, List.length_cons, List.length_nil, Nat.reduceAdd, Nat.reduceSub, List.replicate_succ, List.replicate_zero, List.cons_append, List.nil_append, List.append_nil, List.getElem?_cons_zero, List.getElem?_cons_succ, Option.join_some, Option.map_some, Option.bind_some, List.set_cons_zero, List.set_cons_succ, Bool.not_true, Bool.not_false, Bool.and_true, Bool.true_and, Bool.and_false, Bool.false_and, beq_self_eq_true, guardO, Nat.reduceLT, decide_true, d01, t1, nz1, Nat.reducePow, z0, i2n, g0, g1, g2, g3, g4, g5, g6]
  · rw [if_neg (by decide)]
    simp -implicitDefEqProofs only [bmpf_cmp, mpf, nz hm1, nz hm2, eq_self, h1, h3, h4, hc, h5, runS, run, BOp.run, IOp.b, eqI, neI, ltI, leI, gtI, geI, truth, start, sets, List.map_cons, List.map_nil, List.length_cons, List.length_nil, Nat.reduceAdd, Nat.reduceSub, List.replicate_succ, List.replicate_zero, List.cons_append, List.nil_append, List.append_nil, List.getElem?_cons_zero, List.getElem?_cons_succ, Option.join_some, Option.map_some, Option.bind_some, List.set_cons_zero, List.set_cons_succ, Bool.not_true, Bool.not_false, Bool.and_true, Bool.true_and, Bool.and_false, Bool.false_and, beq_self_eq_true, guardO, Nat.reduceLT, decide_true, d01, t1, nz1, Nat.reducePow, z0, i2n, g0, g1, g2, g3, g4, g5, g6]
end
theorem c_cmp (d : Nat) {K A B : Nat} (hA : 0 < A) (hB : 0 < B) (sA : bl A ≤ 10000) (sB : bl B ≤ 10000) : ∃ v, cf (d + 6) 7 [num K A, num K B] = some (.int v) ∧ (v ≤ 0 ↔ A ≤ B) := by
  have hs := c_sub5 d (K := K) hA hB sA sB
  obtain ⟨m1, k1, h1, rfl, h2⟩ := num_cases (K := K) hA
  obtain ⟨m2, k2, h3, rfl, h4⟩ := num_cases (K := K) hB
  have hm1 : 0 < m1 := by omega
  have hm2 : 0 < m2 := by omega
  have go : ∀ r, runS gs sd (cf (d + 5)) 1000 bmpf_cmp.body (cmEnv m1 m2 ((k1 : Int) - K) ((k2 : Int) - K)) = some (.ret r) → cf (d + 6) 7 [mpf m1 ((k1 : Int) - K), mpf m2 ((k2 : Int) - K)] = some r :=
    fun r h => cf_eq (fb := bmpf_cmp) (B := bmpf_cmp.body) (ρ := cmEnv m1 m2 _ _) rfl rfl rfl rfl h
  rw [h2, h4] at hs ⊢
  by_cases c : k1 = k2
  · subst c
    refine ⟨_, go _ (w_cmp_e hm1 hm2 rfl), ?_⟩
    have hk := Nat.two_pow_pos k1
    split
    · rename_i e; subst e; simp
    · split
      · rename_i c
        have := Nat.mul_lt_mul_of_pos_right c hk
        constructor <;> omega
      · have := Nat.mul_le_mul_right (2 ^ k1) (by omega : m1 ≤ m2)
        constructor <;> omega
  · have b1 := bl_mul hm1 k1
    have b2 := bl_mul hm2 k2
    by_cases c2 : bl m1 + k1 = bl m2 + k2
    · have hne : m1 * 2 ^ k1 ≠ m2 * 2 ^ k2 := by
        intro e
        have x := od_mul h1 k1
        have y := od_mul h3 k2
        rw [e] at x
        exact c (x.2.symm.trans y.2)
      obtain ⟨x, y, z, h5⟩ := hs (by omega) hne
      refine ⟨_, go _ (w_cmp_d hm1 hm2 (by omega) (by omega) (by split <;> simp) h5), ?_⟩
      by_cases e : m2 * 2 ^ k2 ≤ m1 * 2 ^ k1
      · rw [if_pos e, if_pos rfl]
        constructor <;> omega
      · rw [if_neg e, if_neg (by decide)]
        constructor <;> omega
    · refine ⟨_, go _ (w_cmp_b hm1 hm2 (by omega) (by omega)), ?_⟩
      have m := @bl_mono (m1 * 2 ^ k1) (m2 * 2 ^ k2)
      have m' := @bl_mono (m2 * 2 ^ k2) (m1 * 2 ^ k1)
      split
      · constructor <;> omega
      · constructor <;> omega
theorem c_le (d : Nat) {K A B : Nat} (hB : 0 < B) (sA : bl A ≤ 10000) (sB : bl B ≤ 10000) : cf (d + 7) 8 [num K A, num K B] = some (.bool (decide (A ≤ B))) := by
  have nB : ∃ b c e : Int, num K B = .tuple [.int 0, .int b, .int c, .int e] ∧ b ≠ 0 := by
    obtain ⟨m, k, h1, rfl, h2⟩ := num_cases (K := K) hB
    exact ⟨_, _, _, h2, by omega⟩
  have nA : ∃ b c e : Int, num K A = .tuple [.int 0, .int b, .int c, .int e] ∧ (b ≠ 0 ∨ c = 0) := by
    rcases Nat.eq_zero_or_pos A with z | z
    · subst z; exact ⟨_, _, _, num_zero K, .inr rfl⟩
    · obtain ⟨m, k, h1, rfl, h2⟩ := num_cases (K := K) z
      exact ⟨_, _, _, h2, .inl (by omega)⟩
  have hc : ∃ v, cf (d + 6) 7 [num K A, num K B] = some (.int v) ∧ (v ≤ 0 ↔ A ≤ B) := by
    rcases Nat.eq_zero_or_pos A with z | z
    · subst z
      refine ⟨-1, ?_, by constructor <;> omega⟩
      obtain ⟨m, k, h1, rfl, h2⟩ := num_cases (K := K) hB
      have hm : 0 < m := by omega
      rw [h2, num_zero]
      refine cf_eq (fb := bmpf_cmp) (B := bmpf_cmp.body) (ρ := [_, _, _, _, _, _, _, _, _, _, _, _, _]) rfl rfl rfl rfl ?_
      have hs := c_sign (d + 4) hm ((k : Int) - K)
      unfold mpf at hs
      have h4 : eq4b 0 0 0 0 0 0 0 0 = true := rfl
      simp -implicitDefEqProofs only [bmpf_cmp, mpf, fz, nz hm, eq4, h4, hs, runS, run, BOp.run, IOp.b, eqI, neI, ltI, leI, gtI, geI, truth, start, sets, List.map_cons, List.map_nil, List.length_cons, List.length_nil, Nat.reduceAdd, Nat.reduceSub, List.replicate_succ, List.replicate_zero, List.cons_append, List.nil_append, List.append_nil, List.getElem?_cons_zero, List.getElem?_cons_succ, Option.join_some, Option.map_some, Option.bind_some, List.set_cons_zero, List.set_cons_succ, Bool.not_true, Bool.not_false, Bool.and_true, Bool.true_and, Bool.and_false, Bool.false_and, beq_self_eq_true, guardO, Nat.reduceLT, decide_true, d01, t1, nz1, Nat.reducePow, z0, i2n, g0, g1, g2, g3, g4, g5, g6]
    · exact c_cmp d z hB sA sB
  obtain ⟨b, c, e, h1, h2⟩ := nB
  obtain ⟨b', c', e', h3, h4⟩ := nA
  obtain ⟨v, hv, hv2⟩ := hc
  rw [h1, h3] at hv ⊢
  have hb : eq4b 0 b c e 0 0 (-123) (-1) = false := eq4_ne2 h2
  have ha : eq4b 0 b' c' e' 0 0 (-123) (-1) = false := by
    rcases h4 with h4 | h4
    · exact eq4_ne2 h4
    · unfold eq4b; exact decide_eq_false (fun x => by omega)
  refine cf_eq (fb := bmpf_le) (ρ := [_, _]) rfl rfl rfl rfl ?_
  simp -implicitDefEqProofs only [bmpf_le, eq4, ha, hb, hv, runS, run, BOp.run, IOp.b, eqI, neI, ltI, leI, gtI, geI, truth, start, sets, List.map_cons, List.map_nil, List.length_cons, List.length_nil, Nat.reduceAdd, Nat.reduceSub, List.replicate_succ, List.replicate_zero, List.cons_append, List.nil_append, List.append_nil, List.getElem?_cons_zero, List.getElem?_cons_succ, Option.join_some, Option.map_some, Option.bind_some, List.set_cons_zero, List.set_cons_succ, Bool.not_true, Bool.not_false, Bool.and_true, Bool.true_and, Bool.and_false, Bool.false_and, beq_self_eq_true, guardO, Nat.reduceLT, decide_true, d01, t1, nz1, Nat.reducePow, z0, i2n, g0, g1, g2, g3, g4, g5, g6]
  rw [decide_eq_decide.mpr hv2]
end Mine
end
-- part APn
section
open PySem PySem.W PyProof.Rows
set_option maxRecDepth 100000
set_option linter.unusedSimpArgs false
set_option maxHeartbeats 1000000
namespace Mine
theorem mulN {a b : Nat} (h1 : bl a ≤ 10000) (h2 : bl b ≤ 10000) : mulOk (a : Int) (b : Int) = true := by
  unfold mulOk
  rw [ib, ib]
  have : Builtin.Int.intTooBig ((bl a + bl b : Nat) : Int) = false := by
    unfold Builtin.Int.intTooBig
    exact decide_eq_false (by unfold bitsLine; omega)
  rw [Int.natCast_add] at this
  rw [this]; simp
theorem divN {a b : Nat} (hb : 0 < b) (h : bl b ≤ 8000) : divOk (a : Int) (b : Int) = true := by
  unfold divOk
  have h1 : decide ((b : Int) ≠ 0) = true := decide_eq_true (by omega)
  have h2 : Builtin.divisionGoesByPylong (a : Int) (b : Int) = false := by
    unfold Builtin.divisionGoesByPylong
    have hb0 : ((b : Int) == 0) = false := by simp; omega
    have : (b : Int).natAbs.log2 / 30 + 1 ≤ 300 := by
      unfold bl at h
      rw [if_neg (by omega)] at h
      rw [Int.natAbs_natCast]; omega
    simp only [hb0, Bool.false_eq_true, if_false, Bool.and_eq_false_iff]
    left
    exact decide_eq_false (by omega)
  rw [h1, h2]; rfl
section
variable {C : Cf} {m1 m2 : Nat} {a b s1 s2 : Int} (hm1 : 0 < m1) (hm2 : 0 < m2)
include hm1 hm2
theorem w_mul {M b1 b2 : Nat} (hx : Builtin.bitXor s1 s2 = 0) (hM : m1 * m2 = M) (hk : mulOk (m1 : Int) (m2 : Int) = true) :
    runS gs sd C 1000 bmpf_mul.body [some (.tuple [.int s1, .int m1, .int a, .int b1]), some (.tuple [.int s2, .int m2, .int b, .int b2]), some (.int 0), some (.str (nm "d")), none, none, none, none, none, none, none, none, none, none, none, none, none]
      = some (.ret (.tuple [.int 0, .int M, .int (a + b), .int (bl M)])) := by
  have h0 : 0 < M := by rw [← hM]; exact Nat.mul_pos hm1 hm2
  have hM' : (m1 : Int) * (m2 : Int) = (M : Int) := by rw [← hM]; push_cast; rfl
  simp -implicitDefEqProofs only [bmpf_mul, hx, hk, hM', nz h0, ib, runS, run, BOp.run, IOp.b, eqI, neI, ltI, leI, gtI, geI, truth, start, sets, List.map_cons, List.map_nil, List.length_cons, List.length_nil, Nat.reduceAdd, Nat.reduceSub, List.replicate_succ, List.replicate_zero, List.cons_append, List.nil_append, List.append_nil, List.getElem?_cons_zero, List.getElem?_cons_succ, Option.join_some, Option.map_some, Option.bind_some, List.set_cons_zero, List.set_cons_succ, Bool.not_true, Bool.not_false, Bool.and_true, Bool.true_and, Bool.and_false, Bool.false_and, beq_self_eq_true, guardO, Nat.reduceLT, decide_true, d01, t1, nz1, Nat.reducePow, z0, i2n, g0, g1, g2, g3, g4, g5, g6]
end
theorem num_mul {K m1 k1 m2 k2 Z : Nat} (h1 : m1 % 2 = 1) (h2 : m2 % 2 = 1) (h : m1 * 2 ^ k1 * (m2 * 2 ^ k2) = Z * 2 ^ K) : num K Z = mpf (m1 * m2) (((k1 : Int) - K) + ((k2 : Int) - K)) := by
  have hZ : 0 < Z := by
    rcases Nat.eq_zero_or_pos Z with z | z
    · have : 0 < m1 * 2 ^ k1 * (m2 * 2 ^ k2) := Nat.mul_pos (Nat.mul_pos (by omega) (Nat.two_pow_pos _)) (Nat.mul_pos (by omega) (Nat.two_pow_pos _))
      rw [h, z] at this; omega
    · exact z
  obtain ⟨m, k, h3, rfl, h4⟩ := num_cases (K := K) hZ
  have e : m1 * 2 ^ k1 * (m2 * 2 ^ k2) = m1 * m2 * 2 ^ (k1 + k2) := by rw [Nat.pow_add]; grind
  rw [e, Nat.mul_assoc m (2 ^ k) (2 ^ K), ← Nat.pow_add] at h
  have x := od_mul (m := m1 * m2) (by rw [Nat.mul_mod, h1, h2]) (k1 + k2)
  have y := od_mul h3 (k + K)
  rw [h] at x
  rw [h4, x.1.symm.trans y.1]
  have := x.2.symm.trans y.2
  rw [show (k : Int) - K = ((k1 : Int) - K) + ((k2 : Int) - K) by omega]
theorem c_mul (d : Nat) {K A B Z : Nat} (hA : 0 < A) (hB : 0 < B) (sA : bl A ≤ 10000) (sB : bl B ≤ 10000) (h : A * B = Z * 2 ^ K) : cf (d + 1) 15 [num K A, num K B] = some (num K Z) := by
  obtain ⟨m1, k1, h1, rfl, h2⟩ := num_cases (K := K) hA
  obtain ⟨m2, k2, h3, rfl, h4⟩ := num_cases (K := K) hB
  have hm1 : 0 < m1 := by omega
  have hm2 : 0 < m2 := by omega
  rw [bl_mul hm1] at sA
  rw [bl_mul hm2] at sB
  rw [h2, h4, num_mul h1 h3 h]
  exact cf_eq (fb := bmpf_mul) (B := bmpf_mul.body) (ρ := [_, _, _, _, _, _, _, _, _, _, _, _, _, _, _, _, _]) rfl rfl rfl rfl (w_mul hm1 hm2 x00 rfl (mulN (by omega) (by omega)))
theorem c_mulN (d : Nat) {K A Z : Nat} (hA : 0 < A) (sA : bl A ≤ 10000) (h : A * A = Z * 2 ^ K) : cf (d + 1) 15 [numN K A, numN K A] = some (num K Z) := by
  obtain ⟨h1, h2⟩ := od_spec A hA
  have hm : 0 < od A := by omega
  have hb : bl (od A) ≤ 10000 := by
    have : bl (od A * 2 ^ tz A) ≤ 10000 := by rw [← h1]; exact sA
    rw [bl_mul hm] at this; omega
  have hx : Builtin.bitXor 1 1 = 0 := by decide
  rw [num_mul (K := K) (k1 := tz A) (k2 := tz A) h2 h2 (by rw [← h1]; exact h)]
  exact cf_eq (fb := bmpf_mul) (B := bmpf_mul.body) (ρ := [_, _, _, _, _, _, _, _, _, _, _, _, _, _, _, _, _]) rfl rfl rfl rfl (w_mul hm hm hx rfl (mulN hb hb))
theorem c_mulZ (d : Nat) : cf (d + 1) 15 [fz, fz] = some fz := by
  refine cf_eq (fb := bmpf_mul) (B := bmpf_mul.body) (ρ := [_, _, _, _, _, _, _, _, _, _, _, _, _, _, _, _, _]) rfl rfl rfl rfl ?_
  have hk : mulOk 0 0 = true := by decide
  simp -implicitDefEqProofs only [bmpf_mul, fz, x00, hk, Int.mul_zero, runS, run, BOp.run, IOp.b, eqI, neI, ltI, leI, gtI, geI, truth, start, sets, List.map_cons, List.map_nil, List.length_cons, List.length_nil, Nat.reduceAdd, Nat.reduceSub, List.replicate_succ, List.replicate_zero, List.cons_append, List.nil_append, List.append_nil, List.getElem?_cons_zero, List.getElem?_cons_succ, Option.join_some, Option.map_some, Option.bind_some, List.set_cons_zero, List.set_cons_succ, Bool.not_true, Bool.not_false, Bool.and_true, Bool.true_and, Bool.and_false, Bool.false_and, beq_self_eq_true, guardO, Nat.reduceLT, decide_true, d01, t1, nz1, Nat.reducePow, z0, i2n, g0, g1, g2, g3, g4, g5, g6]
theorem c_shiftN (d : Nat) {K V W : Nat} (hW : 0 < W) (h : V = W * 2) : cf (d + 1) 16 [numN K V, .int (-1)] = some (numN K W) := by
  obtain ⟨h1, h2⟩ := od_spec W hW
  obtain ⟨x, y⟩ := od_scale hW 1
  rw [show W * 2 ^ 1 = V by omega] at x y
  have hm : 0 < od V := by rw [x]; omega
  unfold numN
  refine cf_eq (fb := bmpf_shift) (ρ := [_, _, _, _, _, _]) rfl rfl rfl rfl ?_
  simp -implicitDefEqProofs only [bmpf_shift, nz hm, runS, run, BOp.run, IOp.b, eqI, neI, ltI, leI, gtI, geI, truth, start, sets, List.map_cons, List.map_nil, List.length_cons, List.length_nil, Nat.reduceAdd, Nat.reduceSub, List.replicate_succ, List.replicate_zero, List.cons_append, List.nil_append, List.append_nil, List.getElem?_cons_zero, List.getElem?_cons_succ, Option.join_some, Option.map_some, Option.bind_some, List.set_cons_zero, List.set_cons_succ, Bool.not_true, Bool.not_false, Bool.and_true, Bool.true_and, Bool.and_false, Bool.false_and, beq_self_eq_true, guardO, Nat.reduceLT, decide_true, d01, t1, nz1, Nat.reducePow, z0, i2n, g0, g1, g2, g3, g4, g5, g6]
  rw [x, y, show ((tz W + 1 : Nat) : Int) - K + -1 = (tz W : Int) - K by omega]
theorem c_abs (d : Nat) {m : Nat} {sg e b : Int} (hm : 0 < m) (hs : sg = 0 ∨ sg = 1) : cf (d + 1) 11 [.tuple [.int sg, .int m, .int e, .int b]] = some (.tuple [.int 0, .int m, .int e, .int b]) := by
  refine cf_eq (fb := bmpf_abs) (ρ := [_, _, _, _, _, _, _]) rfl rfl rfl rfl ?_
  rcases hs with rfl | rfl <;> simp -implicitDefEqProofs only [bmpf_abs, nz hm, runS, run, BOp.run, IOp.b, eqI, neI, ltI, leI, gtI, geI, truth, start, sets, List.map_cons, List.map_nil, List.length_cons, List.length_nil, Nat.reduceAdd, Nat.reduceSub, List.replicate_succ, List.replicate_zero, List.cons_append, List.nil_append, List.append_nil, List.getElem?_cons_zero, List.getElem?_cons_succ, Option.join_some, Option.map_some, Option.bind_some, List.set_cons_zero, List.set_cons_succ, Bool.not_true, Bool.not_false, Bool.and_true, Bool.true_and, Bool.and_false, Bool.false_and, beq_self_eq_true, guardO, Nat.reduceLT, decide_true, d01, t1, nz1, Nat.reducePow, z0, i2n, g0, g1, g2, g3, g4, g5, g6]
end Mine
end
-- part APo
section
open PySem PySem.W PyProof.Rows
set_option maxRecDepth 100000
set_option linter.unusedSimpArgs false
set_option maxHeartbeats 1000000
namespace Mine
theorem fdivN (a b : Nat) : (a : Int).fdiv (b : Int) = ((a / b : Nat) : Int) := by
  rw [Int.fdiv_eq_ediv_of_nonneg _ (by omega)]; rfl
theorem fmodN (a b : Nat) : (a : Int).fmod (b : Int) = ((a % b : Nat) : Int) := by
  rw [Int.fmod_eq_emod_of_nonneg _ (by omega)]; rfl
section
variable {C : Cf} {r : PyData} {m1 m2 p : Nat} {a b : Int} {rnd : Str} (hm1 : 0 < m1) (hm2 : 0 < m2) (hp : 0 < p)
include hm1 hm2 hp
abbrev dvEnv (m1 m2 : Nat) (a b : Int) (p : Nat) (rnd : Str) : Env' := [some (mpf m1 a), some (mpf m2 b), some (.int p), some (.str rnd), none, none, none, none, none, none, none, none, none, none, none, none, none, none, none]
theorem w_div_1 (h : m2 = 1) (hc : C 5 [.int 0, .int m1, .int (a - b), .int (bl m1), .int p, .str rnd] = some r) : runS gs sd C 1000 bmpf_div.body (dvEnv m1 m2 a b p rnd) = some (.ret r) := by
  have h1 : decide ((m2 : Int) = 1) = true := decide_eq_true (by omega)
  simp -implicitDefEqProofs only [bmpf_div, mpf, nz hm1, nz hm2, x00, h1, hc, runS, run, BOp.run, IOp.b, eqI, neI, ltI, leI, gtI, geI, truth, start, sets, List.map_cons, List.map_nil, List.length_cons, List.length_nil, Nat.reduceAdd, Nat.reduceSub, List.replicate_succ, List.replicate_zero, List.cons_append, List.nil_append, List.append_nil, List.getElem?_cons_zero, List.getElem?_cons_succ, Option.join_some, Option.map_some, Option.bind_some, List.set_cons_zero, List.set_cons_succ, Bool.not_true, Bool.not_false, Bool.and_true, Bool.true_and, Bool.and_false, Bool.false_and, beq_self_eq_true, guardO, Nat.reduceLT, decide_true, d01, t1, nz1, Nat.reducePow, z0, i2n, g0, g1, g2, g3, g4, g5, g6]
theorem w_div_x {ex Q W : Nat} (h : m2 ≠ 1) (he : ((p : Int) - (bl m1 : Int) + (bl m2 : Int) + 5 < 5 ∧ ex = 5) ∨ (5 ≤ ex ∧ (p : Int) - (bl m1 : Int) + (bl m2 : Int) + 5 = (ex : Int)))
    (hs : shlOk (m1 : Int) (ex : Int) = true) (hd : divOk (W : Int) (m2 : Int) = true) (hW : m1 * 2 ^ ex = W) (hQ : W / m2 = Q) (hr : W % m2 = 0) (hc : C 5 [.int 0, .int Q, .int (a - b - (ex : Int)), .int (bl Q), .int p, .str rnd] = some r) :
    runS gs sd C 1000 bmpf_div.body (dvEnv m1 m2 a b p rnd) = some (.ret r) := by
  have h1 : decide ((m2 : Int) = 1) = false := decide_eq_false (by omega)
  have hW' : (m1 : Int) * 2 ^ ex = (W : Int) := by rw [← hW]; push_cast; rfl
  have hdm : divmodOf (W : Int) (m2 : Int) = some (.tuple [.int Q, .int 0]) := by
    unfold divmodOf
    rw [hd, fdivN, fmodN, hQ, hr]; rfl
  clear hW hQ hr hd
  rcases he with ⟨he, rfl⟩ | ⟨he0, he⟩
  · have h2 : decide ((p : Int) - (bl m1 : Int) + (bl m2 : Int) + 5 < 5) = true := decide_eq_true he
    have t5 : Int.toNat 5 = 5 := rfl
    have hs' : shlOk (m1 : Int) 5 = true := hs
    have hc' : C 5 [.int 0, .int Q, .int (a - b - 5), .int (bl Q), .int p, .str rnd] = some r := hc
    generalize hk : (2 : Int) ^ 5 = k5 at hW'
    have hk' : (2 : Int) ^ Int.toNat 5 = k5 := hk
    simp -implicitDefEqProofs only [bmpf_div, mpf, nz hm1, nz hm2, nz hp, x00, h1, h2, hs', hk', hW', hdm, hc', ib, runS, run, BOp.run, IOp.b, eqI, neI, ltI, leI, gtI, geI, truth, start, sets, List.map_cons, List.map_nil, List.length_cons, List.length_nil, Nat.reduceAdd, Nat.reduceSub, List.replicate_succ, List.replicate_zero, List.cons_append, List.nil_append, List.append_nil, List.getElem?_cons_zero, List.getElem?_cons_succ, Option.join_some, Option.map_some, Option.bind_some, List.set_cons_zero, List.set_cons_succ, Bool.not_true, Bool.not_false, Bool.and_true, Bool.true_and, Bool.and_false, Bool.false_and, beq_self_eq_true, guardO, Nat.reduceLT, decide_true, d01, t1, nz1, Nat.reducePow, z0, i2n, g0, g1, g2, g3, g4, g5, g6]
  · have h2 : decide ((ex : Int) < 5) = false := decide_eq_false (by omega)
    simp -implicitDefEqProofs only [bmpf_div, mpf, nz hm1, nz hm2, nz hp, x00, h1, he, h2, hs, hW', hdm, hc, ib, runS, run, BOp.run, IOp.b, eqI, neI, ltI, leI, gtI, geI, truth, start, sets, List.map_cons, List.map_nil, List.length_cons, List.length_nil, Nat.reduceAdd, Nat.reduceSub, List.replicate_succ, List.replicate_zero, List.cons_append, List.nil_append, List.append_nil, List.getElem?_cons_zero, List.getElem?_cons_succ, Option.join_some, Option.map_some, Option.bind_some, List.set_cons_zero, List.set_cons_succ, Bool.not_true, Bool.not_false, Bool.and_true, Bool.true_and, Bool.and_false, Bool.false_and, beq_self_eq_true, guardO, Nat.reduceLT, decide_true, d01, t1, nz1, Nat.reducePow, z0, i2n, g0, g1, g2, g3, g4, g5, g6]
theorem w_div_r {ex Q W R V : Nat} (h : m2 ≠ 1) (he : ((p : Int) - (bl m1 : Int) + (bl m2 : Int) + 5 < 5 ∧ ex = 5) ∨ (5 ≤ ex ∧ (p : Int) - (bl m1 : Int) + (bl m2 : Int) + 5 = (ex : Int)))
    (hs : shlOk (m1 : Int) (ex : Int) = true) (hd : divOk (W : Int) (m2 : Int) = true) (hW : m1 * 2 ^ ex = W) (hQ : W / m2 = Q) (hr : W % m2 = R) (hR : 0 < R) (hV : 2 * Q + 1 = V) (hq : shlOk (Q : Int) 1 = true)
    (hc : C 5 [.int 0, .int V, .int (a - b - ((ex : Int) + 1)), .int (bl V), .int p, .str rnd] = some r) :
    runS gs sd C 1000 bmpf_div.body (dvEnv m1 m2 a b p rnd) = some (.ret r) := by
  have h1 : decide ((m2 : Int) = 1) = false := decide_eq_false (by omega)
  have hW' : (m1 : Int) * 2 ^ ex = (W : Int) := by rw [← hW]; push_cast; rfl
  have hdm : divmodOf (W : Int) (m2 : Int) = some (.tuple [.int Q, .int R]) := by
    unfold divmodOf
    rw [hd, fdivN, fmodN, hQ, hr]; rfl
  have hV' : (Q : Int) * 2 ^ 1 + 1 = (V : Int) := by rw [← hV]; push_cast; omega
  clear hW hQ hr hd hV
  generalize hk1 : (2 : Int) ^ 1 = k1 at hV'
  have hk1' : (2 : Int) ^ Int.toNat 1 = k1 := hk1
  rcases he with ⟨he, rfl⟩ | ⟨he0, he⟩
  · have h2 : decide ((p : Int) - (bl m1 : Int) + (bl m2 : Int) + 5 < 5) = true := decide_eq_true he
    have hs' : shlOk (m1 : Int) 5 = true := hs
    have hc' : C 5 [.int 0, .int V, .int (a - b - (5 + 1)), .int (bl V), .int p, .str rnd] = some r := hc
    generalize hk : (2 : Int) ^ 5 = k5 at hW'
    have hk' : (2 : Int) ^ Int.toNat 5 = k5 := hk
    simp -implicitDefEqProofs only [bmpf_div, mpf, nz hm1, nz hm2, nz hp, nz hR, x00, h1, h2, hs', hk', hW', hdm, hq, hk1, hk1', hV', hc', ib, runS, run, BOp.run, IOp.b, eqI, neI, ltI, leI, gtI, geI, truth, start, sets, List.map_cons, List.map_nil, List.length_cons, List.length_nil, Nat.reduceAdd, Nat.reduceSub, List.replicate_succ, List.replicate_zero, List.cons_append, List.nil_append, List.append_nil, List.getElem?_cons_zero, List.getElem?_cons_succ, Option.join_some, Option.map_some, Option.bind_some, List.set_cons_zero, List.set_cons_succ, Bool.not_true, Bool.not_false, Bool.and_true, Bool.true_and, Bool.and_false, Bool.false_and, beq_self_eq_true, guardO, Nat.reduceLT, decide_true, d01, t1, nz1, Nat.reducePow, z0, i2n, g0, g1, g2, g3, g4, g5, g6]
  · have h2 : decide ((ex : Int) < 5) = false := decide_eq_false (by omega)
    simp -implicitDefEqProofs only [bmpf_div, mpf, nz hm1, nz hm2, nz hp, nz hR, x00, h1, he, h2, hs, hW', hdm, hq, hk1, hk1', hV', hc, ib, runS, run, BOp.run, IOp.b, eqI, neI, ltI, leI, gtI, geI, truth, start, sets, List.map_cons, List.map_nil, List.length_cons, List.length_nil, Nat.reduceAdd, Nat.reduceSub, List.replicate_succ, List.replicate_zero, List.cons_append, List.nil_append, List.append_nil, List.getElem?_cons_zero, List.getElem?_cons_succ, Option.join_some, Option.map_some, Option.bind_some, List.set_cons_zero, List.set_cons_succ, Bool.not_true, Bool.not_false, Bool.and_true, Bool.true_and, Bool.and_false, Bool.false_and, beq_self_eq_true, guardO, Nat.reduceLT, decide_true, d01, t1, nz1, Nat.reducePow, z0, i2n, g0, g1, g2, g3, g4, g5, g6]
end
end Mine
end
-- part APp
section
open PySem PySem.W PyProof.Rows
set_option maxRecDepth 100000
set_option linter.unusedSimpArgs false
set_option maxHeartbeats 1000000
namespace Mine
theorem tz_ge {g m k : Nat} (hm : m % 2 = 1) (h : 2 ^ g ∣ m * 2 ^ k) : g ≤ k := by
  rcases Nat.lt_or_ge k g with c | c
  · exfalso
    obtain ⟨q, hq⟩ := h
    have e : 2 ^ g = 2 ^ k * (2 * 2 ^ (g - k - 1)) := by
      rw [← Nat.mul_comm (2 ^ (g - k - 1)) 2, ← Nat.pow_succ, ← Nat.pow_add]; congr 1; omega
    rw [e, Nat.mul_comm m, Nat.mul_assoc] at hq
    have := Nat.eq_of_mul_eq_mul_left (Nat.two_pow_pos k) hq
    rw [this, Nat.mul_assoc] at hm
    omega
  · exact c
theorem half_of {V W : Nat} (h : 2 * V = W * 2) : V = W := by omega
theorem num_congr {K V W : Nat} (h : V = W) : num K V = num K W := by rw [h]
theorem c_div (d : Nat) {K A B V p : Nat} {rnd : Str} {md : Rm} (hr : RnOk rnd 0 md) (hK : 1000 ≤ K) (hK2 : K ≤ 2000) (hp : 1 ≤ p) (hp2 : p ≤ 110) (hA : 0 < A) (hB : 0 < B) (gA : 2 ^ (K - 400) ∣ A) (a1 : K ≤ bl A + 300) (a2 : bl A ≤ K + 300) (b1 : bl B ≤ K + 300)
    (h : 2 * V = R md p (str (A * 2 ^ K) B)) : cf (d + 4) 17 [num K A, num K B, .int p, .str rnd] = some (num K V) := by
  obtain ⟨m1, k1, h1, rfl, h2⟩ := num_cases (K := K) hA
  obtain ⟨m2, k2, h3, rfl, h4⟩ := num_cases (K := K) hB
  have hm1 : 0 < m1 := by omega
  have hm2 : 0 < m2 := by omega
  have hk1 := tz_ge h1 gA
  clear gA
  have p1 := bl_pos hm1
  have p2 := bl_pos hm2
  rw [bl_mul hm1] at a1 a2
  rw [bl_mul hm2] at b1
  rw [h2, h4]
  refine cf_eq (fb := bmpf_div) (B := bmpf_div.body) (ρ := dvEnv m1 m2 _ _ p rnd) rfl rfl rfl rfl ?_
  have eA : m1 * 2 ^ k1 * 2 ^ K = m1 * 2 ^ (k1 + K) := by rw [Nat.mul_assoc, ← Nat.pow_add]
  rw [eA] at h
  by_cases h5 : m2 = 1
  · refine w_div_1 hm1 hm2 (by omega) h5 ?_
    have e : ((k1 : Int) - K) - ((k2 : Int) - K) = ((k1 + K - k2 : Nat) : Int) - K := by omega
    rw [e, c_norm d hr hm1 hp (by omega)]
    refine congrArg some (num_congr ?_)
    have e2 : str (m1 * 2 ^ (k1 + K)) (m2 * 2 ^ k2) = m1 * 2 ^ (k1 + K - k2) * 2 ^ 1 := by
      have : m1 * 2 ^ (k1 + K) = (m1 * 2 ^ (k1 + K - k2)) * (m2 * 2 ^ k2) := by
        rw [h5, Nat.one_mul, Nat.mul_assoc, ← Nat.pow_add]; congr 2; omega
      rw [this, str_exact _ (Nat.mul_pos hm2 (Nat.two_pow_pos _))]; omega
    rw [e2, R_scale md (Nat.mul_pos hm1 (Nat.two_pow_pos _)) 1 hp] at h
    omega
  · obtain ⟨ex, he⟩ : ∃ ex : Nat, ((p : Int) - (bl m1 : Int) + (bl m2 : Int) + 5 < 5 ∧ ex = 5) ∨ (5 ≤ ex ∧ (p : Int) - (bl m1 : Int) + (bl m2 : Int) + 5 = (ex : Int)) := by
      rcases Nat.lt_or_ge (p + bl m2) (bl m1) with c | c
      · exact ⟨5, .inl ⟨by omega, rfl⟩⟩
      · exact ⟨p + bl m2 - bl m1 + 5, .inr ⟨by omega, by omega⟩⟩
    -- how far the quotient reaches
    have hex : ex ≤ 5000 := by omega
    have hJ : ex + k2 + 1 ≤ k1 + K := by omega
    obtain ⟨j, hj⟩ : ∃ j, k1 + K = ex + k2 + (j + 1) := ⟨k1 + K - (ex + k2) - 1, by omega⟩
    have hbits : p + bl m2 + 4 ≤ bl m1 + ex - 1 := by omega
    have hs : shlOk (m1 : Int) (ex : Int) = true := shlN (by omega) (by omega)
    have hd : divOk ((m1 * 2 ^ ex : Nat) : Int) (m2 : Int) = true := divN hm2 (by omega)
    -- the sticky number
    have hw : str (str (m1 * 2 ^ (k1 + K)) (m2 * 2 ^ k2)) (2 ^ (j + 1 + 1)) = str (m1 * 2 ^ ex) m2 := by
      rw [str_str _ _ _ (Nat.mul_pos hm2 (Nat.two_pow_pos _))]
      have e1 : m1 * 2 ^ (k1 + K) = (m1 * 2 ^ ex) * 2 ^ (k2 + (j + 1)) := by rw [Nat.mul_assoc, ← Nat.pow_add]; congr 2; omega
      have e2 : m2 * 2 ^ k2 * 2 ^ (j + 1) = m2 * 2 ^ (k2 + (j + 1)) := by rw [Nat.mul_assoc, ← Nat.pow_add]
      rw [e1, e2, str_cancel _ _ (Nat.two_pow_pos _)]
    have hQ : 2 ^ (p + 4) ≤ m1 * 2 ^ ex / m2 := by
      rw [Nat.le_div_iff_mul_le hm2]
      have q1 : 2 ^ (p + 4) * m2 ≤ 2 ^ (p + 4) * 2 ^ bl m2 := Nat.mul_le_mul_left _ (Nat.le_of_lt (bl_hi m2))
      have q2 : 2 ^ (bl m1 - 1) * 2 ^ ex ≤ m1 * 2 ^ ex := Nat.mul_le_mul_right _ (bl_lo hm1)
      rw [← Nat.pow_add] at q1 q2
      exact Nat.le_trans q1 (Nat.le_trans (pow_le_of (by omega)) q2)
    have hQ2 : bl (m1 * 2 ^ ex / m2) ≤ 20000 := by
      refine Nat.le_trans (bl_mono (Nat.div_le_self _ _)) ?_
      rw [bl_mul hm1]; omega
    generalize hW : m1 * 2 ^ ex = W at *
    have hbw : p + 2 ≤ bl (str W m2) := by
      have : 2 ^ (p + 4) ≤ str W m2 := by unfold str; omega
      have := lt_bl this; omega
    rw [R_sticky md hbw hw.symm, Nat.pow_succ, ← Nat.mul_assoc] at h
    have hV := half_of h
    have hw0 : 0 < str W m2 := by unfold str; have := Nat.two_pow_pos (p + 4); omega
    rw [← R_scale md hw0 j hp] at hV
    by_cases hrem : W % m2 = 0
    · refine w_div_x hm1 hm2 (by omega) h5 he hs hd hW rfl hrem ?_
      have e : ((k1 : Int) - K) - ((k2 : Int) - K) - (ex : Int) = ((j + 1 : Nat) : Int) - K := by omega
      rw [e, c_norm d hr (by have := Nat.two_pow_pos (p + 4); omega) hp (by omega), hV]
      refine congrArg some (num_congr ?_)
      congr 1
      unfold str
      rw [if_pos hrem, Nat.pow_succ]; grind
    · refine w_div_r hm1 hm2 (by omega) h5 he hs hd hW rfl rfl (by omega) rfl (shlN (n := 1) (by omega) (by decide)) ?_
      have e : ((k1 : Int) - K) - ((k2 : Int) - K) - ((ex : Int) + 1) = (j : Int) - K := by omega
      have hb3 : bl (2 * (W / m2) + 1) ≤ 100000 := by
        have := bl_add (m := 2 * (W / m2)) (n := 1) (c := 30000) (by
          have : bl (W / m2 * 2 ^ 1) = bl (W / m2) + 1 := bl_mul (by have := Nat.two_pow_pos (p + 4); omega) 1
          rw [Nat.mul_comm]; rw [Nat.pow_one] at this; omega) (by decide)
        omega
      rw [e, c_norm d hr (by omega) hp hb3, hV]
      unfold str
      rw [if_neg hrem]
end Mine
end
-- part APq
section
open PySem PySem.W PyProof.Rows
set_option maxRecDepth 100000
set_option linter.unusedSimpArgs false
set_option maxHeartbeats 1000000
namespace Mine
def isl : S := match bisqrt_small.body with
  | .cons _ (.cons _ (.cons (.loop b) _)) => b
  | _ => .nil
theorem newton {x r s : Nat} (hr : 0 < r) (hs : s * s ≤ x) (hs2 : x < (s + 1) * (s + 1)) (h : s ≤ r) : (r = s → r ≤ (r + x / r) / 2) ∧ (s < r → (r + x / r) / 2 < r ∧ s ≤ (r + x / r) / 2 ∧ 2 * ((r + x / r) / 2 - s) ≤ r - s) := by
  constructor
  · rintro rfl
    have : r ≤ x / r := (Nat.le_div_iff_mul_le hr).mpr hs
    omega
  · intro c
    have q1 : x / r ≤ s := by
      have : x / r < s + 1 := by
        rw [Nat.div_lt_iff_lt_mul hr]
        exact Nat.lt_of_lt_of_le hs2 (Nat.mul_le_mul_left _ c)
      omega
    have q2 : 2 * s ≤ r + x / r := by
      rcases Nat.lt_or_ge (2 * s) r with z | z
      · exact Nat.le_trans (Nat.le_of_lt z) (Nat.le_add_right _ _)
      · have : 2 * s - r ≤ x / r := by
          rw [Nat.le_div_iff_mul_le hr]
          refine Nat.le_trans ?_ hs
          obtain ⟨t, rfl⟩ := Nat.exists_eq_add_of_le h
          obtain ⟨u, rfl⟩ : ∃ u, s = t + u := ⟨s - t, by omega⟩
          have : 2 * (t + u) - (t + u + t) = u := by omega
          rw [this]
          have : (t + u) * (t + u) = u * (t + u + t) + t * t := by grind
          omega
        generalize x / r = q at *
        omega
    generalize x / r = q at *
    omega
theorem w_isl {C : Cf} {x r y : Nat} {z : Option PyData} (hd : divOk (x : Int) (r : Int) = true) (hy : (r + x / r) / 2 = y) :
    runS gs sd C 1000 isl [some (.int x), some (.int r), z] = some (if r ≤ y then .ret (.int r) else .next [some (.int x), some (.int y), some (.int y)]) := by
  have e : ((r : Int) + (x / r : Nat)) = ((r + x / r : Nat) : Int) := by push_cast; rfl
  have e2 : ((r + x / r) / 2 ^ 1 : Nat) = y := by rw [← hy]
  by_cases c : r ≤ y
  · have h1 : decide ((r : Int) ≤ (y : Int)) = true := decide_eq_true (by omega)
    rw [if_pos c]
    simp -implicitDefEqProofs only [isl, bisqrt_small, runS, run, BOp.run, guardO, hd, fdivN, e, d01, t1, shrN, hy, Nat.pow_one, truth, geI, h1, Option.map_some, List.getElem?_cons_zero, List.getElem?_cons_succ, Option.join_some, List.set_cons_zero, List.set_cons_succ]
  · have h1 : decide ((r : Int) ≤ (y : Int)) = false := decide_eq_false (by omega)
    rw [if_neg c]
    simp -implicitDefEqProofs only [isl, bisqrt_small, runS, run, BOp.run, guardO, hd, fdivN, e, d01, t1, shrN, hy, Nat.pow_one, truth, geI, h1, Option.map_some, List.getElem?_cons_zero, List.getElem?_cons_succ, Option.join_some, List.set_cons_zero, List.set_cons_succ]
theorem w_loop {C : Cf} {x : Nat} (hx : 0 < x) : ∀ (n N r : Nat) (z : Option PyData), n < N → sq x ≤ r → r - sq x < 2 ^ n → 0 < r → bl r ≤ 8000 →
    iterW (runS gs sd C 1000 isl) N [some (.int x), some (.int r), z] = some (.ret (.int (sq x))) := by
  intro n
  induction n with
  | zero =>
    intro N r z hN h1 h2 h3 h4
    obtain ⟨N, rfl⟩ : ∃ k, N = k + 1 := ⟨N - 1, by omega⟩
    have hrs : r = sq x := by simp at h2; omega
    have := (newton h3 (sq_lo x) (sq_hi x) h1).1 hrs
    unfold iterW
    rw [w_isl (divN h3 h4) rfl, if_pos this, hrs]
  | succ n ih =>
    intro N r z hN h1 h2 h3 h4
    obtain ⟨N, rfl⟩ : ∃ k, N = k + 1 := ⟨N - 1, by omega⟩
    obtain ⟨n1, n2⟩ := newton h3 (sq_lo x) (sq_hi x) h1
    unfold iterW
    rw [w_isl (divN h3 h4) rfl]
    by_cases c : r = sq x
    · rw [if_pos (n1 c), c]
    · obtain ⟨c1, c2, c3⟩ := n2 (by omega)
      rw [if_neg (by omega)]
      dsimp only
      generalize (r + x / r) / 2 = y at *
      refine ih N y _ (by omega) c2 ?_ ?_ ?_
      · rw [Nat.pow_succ] at h2; omega
      · rcases Nat.eq_zero_or_pos y with z | z
        · have := le_sq (r := 1) (n := x) (by omega)
          omega
        · exact z
      · exact Nat.le_trans (bl_mono (by omega)) h4
end Mine
end
-- part APr
section
open PySem PySem.W PyProof.Rows
set_option maxRecDepth 100000
set_option linter.unusedSimpArgs false
set_option maxHeartbeats 1000000
namespace Mine
theorem c_isqrt_small (d : Nat) {x : Nat} (hx : 0 < x) (hb : bl x ≤ 1900) : cf (d + 1) 1 [.int x] = some (.int (sq x)) := by
  refine cf_eq (fb := bisqrt_small) (B := bisqrt_small.body) (ρ := [_, _, _]) rfl rfl rfl rfl ?_
  obtain ⟨k, hk⟩ : ∃ k, (bl x + 1) / 2 ^ 1 = k := ⟨_, rfl⟩
  have hk' : k = (bl x + 1) / 2 := by rw [← hk]
  have h1 : sq x ≤ 2 ^ k := by
    refine sq_le (Nat.le_of_lt (Nat.lt_of_lt_of_le (bl_hi x) ?_))
    rw [← Nat.pow_add]; exact pow_le_of (by omega)
  have hL := w_loop (C := cf d) hx (k + 1) 1000 (2 ^ k) none (by omega) h1 (by rw [Nat.pow_succ]; have := Nat.two_pow_pos k; omega) (Nat.two_pow_pos k) (by rw [bl_pow]; omega)
  obtain ⟨r, hr⟩ : ∃ r, 2 ^ k = r := ⟨_, rfl⟩
  have hr' : (2 : Int) ^ k = (r : Int) := by rw [← hr]; push_cast; rfl
  rw [hr] at hL
  have e : (bl x : Int) + 1 = ((bl x + 1 : Nat) : Int) := by omega
  have hs : shlOk 1 (k : Int) = true := shl1 (by omega)
  have hB' : bisqrt_small.body = .cons (.ite (.not (.var 0)) (.cons (.ret (.var 0)) .nil) .nil) (.cons (.asg 1 (.bin .shl (.litI 1) (.bin .shr (.bin .add (.bitlen (.var 0)) (.litI 1)) (.litI 1)))) (.cons (.loop isl) .nil)) := rfl
  rw [hB']
  generalize isl = L at hL ⊢
  simp -implicitDefEqProofs only [nz hx, ib, e, shrN, hk, hs, hr', Int.one_mul, hL, runS, run, BOp.run, IOp.b, eqI, neI, ltI, leI, gtI, geI, truth, start, sets, List.map_cons, List.map_nil, List.length_cons, List.length_nil, Nat.reduceAdd, Nat.reduceSub, List.replicate_succ, List.replicate_zero, List.cons_append, List.nil_append, List.append_nil, List.getElem?_cons_zero, List.getElem?_cons_succ, Option.join_some, Option.map_some, Option.bind_some, List.set_cons_zero, List.set_cons_succ, Bool.not_true, Bool.not_false, Bool.and_true, Bool.true_and, Bool.and_false, Bool.false_and, beq_self_eq_true, guardO, Nat.reduceLT, decide_true, d01, t1, nz1, Nat.reducePow, z0, i2n, g0, g1, g2, g3, g4, g5, g6]
theorem c_sqrtrem (d : Nat) {x : Nat} (hx : 0 < x) (hb : bl x ≤ 1900) : cf (d + 2) 2 [.int x] = some (.tuple [.int (sq x), .int ((x - sq x * sq x : Nat) : Int)]) := by
  refine cf_eq (fb := bsqrtrem) (ρ := [_, _]) rfl rfl rfl rfl ?_
  have h := c_isqrt_small d hx hb
  have hs : bl (sq x) ≤ 10000 := Nat.le_trans (bl_mono (Nat.le_trans (Nat.le_mul_self _) (sq_lo x))) (by omega)
  have e : (x : Int) - (sq x : Int) * (sq x : Int) = ((x - sq x * sq x : Nat) : Int) := by
    have := sq_lo x
    rw [Int.natCast_sub this, Int.natCast_mul]
  simp -implicitDefEqProofs only [bsqrtrem, h, mulN hs hs, e, runS, run, BOp.run, IOp.b, eqI, neI, ltI, leI, gtI, geI, truth, start, sets, List.map_cons, List.map_nil, List.length_cons, List.length_nil, Nat.reduceAdd, Nat.reduceSub, List.replicate_succ, List.replicate_zero, List.cons_append, List.nil_append, List.append_nil, List.getElem?_cons_zero, List.getElem?_cons_succ, Option.join_some, Option.map_some, Option.bind_some, List.set_cons_zero, List.set_cons_succ, Bool.not_true, Bool.not_false, Bool.and_true, Bool.true_and, Bool.and_false, Bool.false_and, beq_self_eq_true, guardO, Nat.reduceLT, decide_true, d01, t1, nz1, Nat.reducePow, z0, i2n, g0, g1, g2, g3, g4, g5, g6]
theorem c_isqrt (d : Nat) {x : Nat} (hx : 0 < x) (hb : bl x ≤ 1900) : cf (d + 3) 3 [.int x] = some (.int (sq x)) := by
  refine cf_eq (fb := bisqrt) (ρ := [_]) rfl rfl rfl rfl ?_
  have h := c_sqrtrem d hx hb
  have h2 : ∀ a b : PyData, idxOf [a, b] 0 = some a := fun _ _ => rfl
  simp -implicitDefEqProofs only [bisqrt, h, h2, runS, run, BOp.run, IOp.b, eqI, neI, ltI, leI, gtI, geI, truth, start, sets, List.map_cons, List.map_nil, List.length_cons, List.length_nil, Nat.reduceAdd, Nat.reduceSub, List.replicate_succ, List.replicate_zero, List.cons_append, List.nil_append, List.append_nil, List.getElem?_cons_zero, List.getElem?_cons_succ, Option.join_some, Option.map_some, Option.bind_some, List.set_cons_zero, List.set_cons_succ, Bool.not_true, Bool.not_false, Bool.and_true, Bool.true_and, Bool.and_false, Bool.false_and, beq_self_eq_true, guardO, Nat.reduceLT, decide_true, d01, t1, nz1, Nat.reducePow, z0, i2n, g0, g1, g2, g3, g4, g5, g6]
theorem div2 (x : Int) : divOk x 2 = true := by
  unfold divOk
  have h2 : Builtin.divisionGoesByPylong x 2 = false := by
    unfold Builtin.divisionGoesByPylong
    have : ((2 : Int) == 0) = false := rfl
    simp only [this]
    rw [Bool.and_eq_false_iff]
    left
    decide
  rw [h2]; rfl
def stail : S := match bmpf_sqrt.body with
  | .cons _ (.cons _ (.cons _ (.cons _ t))) => t
  | _ => .nil
def sq0 : S := match bmpf_sqrt.body with
  | .cons t _ => t
  | _ => .nil
def sq1 : S := match bmpf_sqrt.body with
  | .cons _ (.cons t _) => t
  | _ => .nil
def sq2 : S := match bmpf_sqrt.body with
  | .cons _ (.cons _ (.cons t _)) => t
  | _ => .nil
def sq3 : S := match bmpf_sqrt.body with
  | .cons _ (.cons _ (.cons _ (.cons t _))) => t
  | _ => .nil
section
variable {C : Cf} {r : PyData} {m p s0 sh Y : Nat} {a E : Int} {rnd : Str} {x0 x3 : Option PyData} (h0 : (if 2 * (p : Int) - (bl m : Int) + 4 > 4 then 2 * (p : Int) - (bl m : Int) + 4 else 4) = (s0 : Int)) (h1 : s0 + s0 % 2 = sh)
  (hp : mulOk 2 (p : Int) = true) (hs : shlOk (m : Int) (sh : Int) = true) (hY : m * 2 ^ sh = Y)
include h0 h1 hp hs hY
theorem w_sqrt_d (hi : COp.run .isin (.str rnd) (.str (nm "fd")) = some true) (hE : (a - (sh : Int)).fdiv 2 = E) (hd : divOk (a - (sh : Int)) 2 = true) (hc : C 3 [.int Y] = some (.int (sq Y))) (hc2 : C 6 [.int (sq Y), .int E, .int p, .str rnd] = some r) :
    runS gs sd C 1000 stail [x0, some (.int p), some (.str rnd), x3, some (.int m), some (.int a), some (.int (bl m)), none, none] = some (.ret r) := by
  have hY' : (m : Int) * 2 ^ sh = (Y : Int) := by rw [← hY]; push_cast; rfl
  have e : (s0 : Int) + ((s0 % 2 : Nat) : Int) = (sh : Int) := by omega
  simp -implicitDefEqProofs only [stail, bmpf_sqrt, hp, h0, and1, e, hi, hs, hY', hc, hE, hd, hc2, runS, run, BOp.run, IOp.b, eqI, neI, ltI, leI, gtI, geI, truth, start, sets, List.map_cons, List.map_nil, List.length_cons, List.length_nil, Nat.reduceAdd, Nat.reduceSub, List.replicate_succ, List.replicate_zero, List.cons_append, List.nil_append, List.append_nil, List.getElem?_cons_zero, List.getElem?_cons_succ, Option.join_some, Option.map_some, Option.bind_some, List.set_cons_zero, List.set_cons_succ, Bool.not_true, Bool.not_false, Bool.and_true, Bool.true_and, Bool.and_false, Bool.false_and, beq_self_eq_true, guardO, Nat.reduceLT, decide_true, d01, t1, nz1, Nat.reducePow, z0, i2n, g0, g1, g2, g3, g4, g5, g6]
theorem w_sqrt_z (hi : COp.run .isin (.str rnd) (.str (nm "fd")) = some false) (hE : (a - (sh : Int)).fdiv 2 = E) (hd : divOk (a - (sh : Int)) 2 = true) (hc : C 2 [.int Y] = some (.tuple [.int (sq Y), .int 0])) (hc2 : C 6 [.int (sq Y), .int E, .int p, .str rnd] = some r) :
    runS gs sd C 1000 stail [x0, some (.int p), some (.str rnd), x3, some (.int m), some (.int a), some (.int (bl m)), none, none] = some (.ret r) := by
  have hY' : (m : Int) * 2 ^ sh = (Y : Int) := by rw [← hY]; push_cast; rfl
  have e : (s0 : Int) + ((s0 % 2 : Nat) : Int) = (sh : Int) := by omega
  simp -implicitDefEqProofs only [stail, bmpf_sqrt, hp, h0, and1, e, hi, hs, hY', hc, hE, hd, hc2, runS, run, BOp.run, IOp.b, eqI, neI, ltI, leI, gtI, geI, truth, start, sets, List.map_cons, List.map_nil, List.length_cons, List.length_nil, Nat.reduceAdd, Nat.reduceSub, List.replicate_succ, List.replicate_zero, List.cons_append, List.nil_append, List.append_nil, List.getElem?_cons_zero, List.getElem?_cons_succ, Option.join_some, Option.map_some, Option.bind_some, List.set_cons_zero, List.set_cons_succ, Bool.not_true, Bool.not_false, Bool.and_true, Bool.true_and, Bool.and_false, Bool.false_and, beq_self_eq_true, guardO, Nat.reduceLT, decide_true, d01, t1, nz1, Nat.reducePow, z0, i2n, g0, g1, g2, g3, g4, g5, g6]
theorem w_sqrt_r {R V : Nat} (hR : 0 < R) (hV : 2 * sq Y + 1 = V) (hq : shlOk (sq Y : Int) 1 = true) (hi : COp.run .isin (.str rnd) (.str (nm "fd")) = some false) (hE : (a - ((sh : Int) + 2)).fdiv 2 = E) (hd : divOk (a - ((sh : Int) + 2)) 2 = true)
    (hc : C 2 [.int Y] = some (.tuple [.int (sq Y), .int R])) (hc2 : C 6 [.int V, .int E, .int p, .str rnd] = some r) :
    runS gs sd C 1000 stail [x0, some (.int p), some (.str rnd), x3, some (.int m), some (.int a), some (.int (bl m)), none, none] = some (.ret r) := by
  have hY' : (m : Int) * 2 ^ sh = (Y : Int) := by rw [← hY]; push_cast; rfl
  have e : (s0 : Int) + ((s0 % 2 : Nat) : Int) = (sh : Int) := by omega
  have hV' : (sq Y : Int) * 2 ^ 1 + 1 = (V : Int) := by rw [← hV]; push_cast; omega
  simp -implicitDefEqProofs only [stail, bmpf_sqrt, hp, h0, and1, e, hi, hs, hY', hc, nz hR, hq, hV', hE, hd, hc2, runS, run, BOp.run, IOp.b, eqI, neI, ltI, leI, gtI, geI, truth, start, sets, List.map_cons, List.map_nil, List.length_cons, List.length_nil, Nat.reduceAdd, Nat.reduceSub, List.replicate_succ, List.replicate_zero, List.cons_append, List.nil_append, List.append_nil, List.getElem?_cons_zero, List.getElem?_cons_succ, Option.join_some, Option.map_some, Option.bind_some, List.set_cons_zero, List.set_cons_succ, Bool.not_true, Bool.not_false, Bool.and_true, Bool.true_and, Bool.and_false, Bool.false_and, beq_self_eq_true, guardO, Nat.reduceLT, decide_true, d01, t1, nz1, Nat.reducePow, z0, i2n, g0, g1, g2, g3, g4, g5, g6]
end
section
variable {C : Cf} {r : PyData} {m p : Nat} {a a' : Int} {rnd : Str} (hm : 0 < m)
include hm
abbrev sqEnv (m : Nat) (a : Int) (p : Nat) (rnd : Str) : Env' := [some (mpf m a), some (.int p), some (.str rnd), none, none, none, none, none, none]
theorem w_sqrt_1 (h : Builtin.bitAnd a 1 = 0) (h1 : m = 1) (hd : divOk a 2 = true) (hc : C 5 [.int 0, .int m, .int (a.fdiv 2), .int (bl m), .int p, .str rnd] = some r) : runS gs sd C 1000 bmpf_sqrt.body (sqEnv m a p rnd) = some (.ret r) := by
  have h2 : decide ((m : Int) = 1) = true := decide_eq_true (by omega)
  show runS gs sd C 1000 (.cons sq0 (.cons sq1 (.cons sq2 (.cons sq3 stail)))) _ = _
  simp -implicitDefEqProofs only [sq0, sq1, sq2, sq3, bmpf_sqrt, mpf, nz hm, h, h2, hd, hc, runS, run, BOp.run, IOp.b, eqI, neI, ltI, leI, gtI, geI, truth, start, sets, List.map_cons, List.map_nil, List.length_cons, List.length_nil, Nat.reduceAdd, Nat.reduceSub, List.replicate_succ, List.replicate_zero, List.cons_append, List.nil_append, List.append_nil, List.getElem?_cons_zero, List.getElem?_cons_succ, Option.join_some, Option.map_some, Option.bind_some, List.set_cons_zero, List.set_cons_succ, Bool.not_true, Bool.not_false, Bool.and_true, Bool.true_and, Bool.and_false, Bool.false_and, beq_self_eq_true, guardO, Nat.reduceLT, decide_true, d01, t1, nz1, Nat.reducePow, z0, i2n, g0, g1, g2, g3, g4, g5, g6]
theorem w_sqrt_e (h : Builtin.bitAnd a 1 = 0) (h1 : m ≠ 1) (hc : runS gs sd C 1000 stail [some (mpf m a), some (.int p), some (.str rnd), some (.int 0), some (.int m), some (.int a), some (.int (bl m)), none, none] = some (.ret r)) :
    runS gs sd C 1000 bmpf_sqrt.body (sqEnv m a p rnd) = some (.ret r) := by
  have h2 : decide ((m : Int) = 1) = false := decide_eq_false (by omega)
  show runS gs sd C 1000 (.cons sq0 (.cons sq1 (.cons sq2 (.cons sq3 stail)))) _ = _
  unfold mpf at hc
  generalize stail = tl at hc ⊢
  simp -implicitDefEqProofs only [sq0, sq1, sq2, sq3, bmpf_sqrt, mpf, nz hm, h, h2, hc, runS, run, BOp.run, IOp.b, eqI, neI, ltI, leI, gtI, geI, truth, start, sets, List.map_cons, List.map_nil, List.length_cons, List.length_nil, Nat.reduceAdd, Nat.reduceSub, List.replicate_succ, List.replicate_zero, List.cons_append, List.nil_append, List.append_nil, List.getElem?_cons_zero, List.getElem?_cons_succ, Option.join_some, Option.map_some, Option.bind_some, List.set_cons_zero, List.set_cons_succ, Bool.not_true, Bool.not_false, Bool.and_true, Bool.true_and, Bool.and_false, Bool.false_and, beq_self_eq_true, guardO, Nat.reduceLT, decide_true, d01, t1, nz1, Nat.reducePow, z0, i2n, g0, g1, g2, g3, g4, g5, g6]
theorem w_sqrt_o {M : Nat} (h : Builtin.bitAnd a 1 = 1) (hM : m * 2 = M) (hs : shlOk (m : Int) 1 = true) (hb : bl m + 1 = bl M) (hc : runS gs sd C 1000 stail [some (mpf m a), some (.int p), some (.str rnd), some (.int 0), some (.int M), some (.int (a - 1)), some (.int (bl M)), none, none] = some (.ret r)) :
    runS gs sd C 1000 bmpf_sqrt.body (sqEnv m a p rnd) = some (.ret r) := by
  show runS gs sd C 1000 (.cons sq0 (.cons sq1 (.cons sq2 (.cons sq3 stail)))) _ = _
  unfold mpf at hc
  have hM' : (m : Int) * 2 ^ 1 = (M : Int) := by rw [← hM]; push_cast; omega
  have hb' : (bl m : Int) + 1 = (bl M : Int) := by omega
  generalize stail = tl at hc ⊢
  simp -implicitDefEqProofs only [sq0, sq1, sq2, sq3, bmpf_sqrt, mpf, nz hm, h, hs, hM', hb', hc, runS, run, BOp.run, IOp.b, eqI, neI, ltI, leI, gtI, geI, truth, start, sets, List.map_cons, List.map_nil, List.length_cons, List.length_nil, Nat.reduceAdd, Nat.reduceSub, List.replicate_succ, List.replicate_zero, List.cons_append, List.nil_append, List.append_nil, List.getElem?_cons_zero, List.getElem?_cons_succ, Option.join_some, Option.map_some, Option.bind_some, List.set_cons_zero, List.set_cons_succ, Bool.not_true, Bool.not_false, Bool.and_true, Bool.true_and, Bool.and_false, Bool.false_and, beq_self_eq_true, guardO, Nat.reduceLT, decide_true, d01, t1, nz1, Nat.reducePow, z0, i2n, g0, g1, g2, g3, g4, g5, g6]
end
end Mine
end
-- part APs
section
open PySem PySem.W PyProof.Rows
set_option maxRecDepth 100000
set_option linter.unusedSimpArgs false
set_option maxHeartbeats 1000000
namespace Mine
theorem mul2p {p : Nat} : mulOk 2 (p : Int) = true := by
  unfold mulOk
  have : decide (Builtin.Int.intBits 2 > shortFactorBits) = false := by decide
  rw [this]; rfl
theorem sqrt_core (d : Nat) {K m k V p : Nat} {rnd : Str} {md : Rm} {bn : Bool} {x0 x3 : Option PyData} (hr : RnOk rnd 0 md) (hi : COp.run .isin (.str rnd) (.str (nm "fd")) = some bn) (hbn : bn = true → md = .d) (hK : 1000 ≤ K) (hK2 : K ≤ 2000) (hp : 1 ≤ p) (hp2 : p ≤ 110)
    (hm : 0 < m) (hk : K ≤ k + 401) (hb : bl m ≤ 701) (hpar : (k + K) % 2 = 0) (h : 2 * V = R md p (sts (m * 2 ^ (k + K)))) :
    runS gs sd (cf (d + 6)) 1000 stail [x0, some (.int p), some (.str rnd), x3, some (.int m), some (.int ((k : Int) - K)), some (.int (bl m)), none, none] = some (.ret (num K V)) := by
  have hbm := bl_pos hm
  obtain ⟨s0, h0, hs1, hs2, hs3⟩ : ∃ s0 : Nat, (if 2 * (p : Int) - (bl m : Int) + 4 > 4 then 2 * (p : Int) - (bl m : Int) + 4 else 4) = (s0 : Int) ∧ 4 ≤ s0 ∧ 2 * p + 4 ≤ s0 + bl m ∧ s0 ≤ 2 * p + 4 := by
    split
    · exact ⟨2 * p + 4 - bl m, by omega, by omega, by omega, by omega⟩
    · exact ⟨4, rfl, by omega, by omega, by omega⟩
  obtain ⟨sh, h1⟩ : ∃ sh, s0 + s0 % 2 = sh := ⟨_, rfl⟩
  have he : sh % 2 = 0 := by omega
  obtain ⟨J, hJ⟩ : ∃ J, k + K = sh + 2 * (J + 1) := ⟨(k + K - sh) / 2 - 1, by omega⟩
  have hs : shlOk (m : Int) (sh : Int) = true := shlN (by omega) (by omega)
  have hbY : bl (m * 2 ^ sh) = bl m + sh := bl_mul hm sh
  have hY0 : 0 < m * 2 ^ sh := Nat.mul_pos hm (Nat.two_pow_pos sh)
  have eY : m * 2 ^ (k + K) = (m * 2 ^ sh) * (2 ^ (J + 1) * 2 ^ (J + 1)) := by
    rw [← Nat.pow_add, Nat.mul_assoc, ← Nat.pow_add]; congr 2; omega
  rw [eY] at h
  obtain ⟨Y, hY⟩ : ∃ Y, m * 2 ^ sh = Y := ⟨_, rfl⟩
  rw [hY] at h hbY hY0
  clear eY
  have hsqY : 2 ^ (p + 1) ≤ sq Y := by
    refine le_sq ?_
    rw [← Nat.pow_add]
    exact Nat.le_trans (pow_le_of (by omega)) (bl_lo hY0)
  have hbs0 : bl (sq Y) ≤ 1900 := Nat.le_trans (bl_mono (Nat.le_trans (Nat.le_mul_self _) (sq_lo Y))) (by omega)
  have hbs : bl (sq Y) ≤ 100000 := by omega
  have hs0 : 0 < sq Y := by have := Nat.two_pow_pos (p + 1); omega
  have hbl2 : bl (sq Y * 2) = bl (sq Y) + 1 := by have := bl_mul hs0 1; rw [Nat.pow_one] at this; exact this
  have hp1 : p + 1 < bl (sq Y) := lt_bl hsqY
  have hbw : p + 2 ≤ bl (sts Y) := by
    have := bl_mono (a := sq Y * 2) (b := sts Y) (by unfold sts; omega)
    omega
  rw [R_sticky md (W := sts (Y * (2 ^ (J + 1) * 2 ^ (J + 1)))) (j := J + 1) hbw (sts_scale Y (J + 1)).symm, Nat.pow_succ, ← Nat.mul_assoc] at h
  have hV := half_of h
  have E1 : ((k : Int) - K - (sh : Int)).fdiv 2 = ((J + 1 : Nat) : Int) - K := by
    have : (k : Int) - K - (sh : Int) = (((J + 1 : Nat) : Int) - K) * 2 := by omega
    rw [this, Int.mul_fdiv_cancel _ (by decide)]
  have E2 : ((k : Int) - K - ((sh : Int) + 2)).fdiv 2 = (J : Int) - K := by
    have : (k : Int) - K - ((sh : Int) + 2) = ((J : Int) - K) * 2 := by omega
    rw [this, Int.mul_fdiv_cancel _ (by decide)]
  cases bn with
  | true =>
    have hmd := hbn rfl
    subst hmd
    refine w_sqrt_d h0 h1 mul2p hs hY hi E1 (div2 _) (c_isqrt (d + 3) hY0 (by omega)) ?_
    rw [c_from_man_exp (d + 2) hr rfl hs0 hp hbs, hV]
    refine congrArg some (num_congr ?_)
    rw [R_scale .d hs0 _ hp]
    have : sts Y = 2 * sq Y + (if sq Y * sq Y = Y then 0 else 1) := rfl
    rw [this, R_d_rest (by split <;> omega) (by omega) hs0, Nat.pow_succ]; grind
  | false =>
    have hsr := c_sqrtrem (d + 4) hY0 (by omega : bl Y ≤ 1900)
    by_cases hrem : sq Y * sq Y = Y
    · rw [hrem, Nat.sub_self] at hsr
      refine w_sqrt_z h0 h1 mul2p hs hY hi E1 (div2 _) hsr ?_
      rw [c_from_man_exp (d + 2) hr rfl hs0 hp hbs, hV]
      refine congrArg some (num_congr ?_)
      have : sts Y = sq Y * 2 ^ 1 := by unfold sts; rw [if_pos hrem]; omega
      rw [this, R_scale md hs0 1 hp, R_scale md hs0 _ hp, Nat.pow_succ]; grind
    · have hlt := sq_lo Y
      obtain ⟨v, hv⟩ : ∃ v, 2 * sq Y + 1 = v := ⟨_, rfl⟩
      have hbv : bl v ≤ 100000 := by
        have := bl_add (m := sq Y * 2) (n := 1) (c := 2000) (by omega) (by decide)
        rw [← hv, Nat.mul_comm 2]; omega
      refine w_sqrt_r h0 h1 mul2p hs hY (R := Y - sq Y * sq Y) (by omega) hv (shlN (n := 1) hbs (by decide)) hi E2 (div2 _) hsr ?_
      rw [c_from_man_exp (d + 2) hr rfl (by omega) hp hbv, hV]
      refine congrArg some (num_congr ?_)
      have : sts Y = v := by unfold sts; rw [if_neg hrem, hv]
      rw [this, R_scale md (by omega) _ hp]
theorem c_sqrt (d : Nat) {K A V p : Nat} {rnd : Str} {md : Rm} {bn : Bool} (hr : RnOk rnd 0 md) (hi : COp.run .isin (.str rnd) (.str (nm "fd")) = some bn) (hbn : bn = true → md = .d) (hK : 1000 ≤ K) (hK2 : K ≤ 2000) (hK3 : K % 2 = 0) (hp : 1 ≤ p) (hp2 : p ≤ 110)
    (hA : 0 < A) (gA : 2 ^ (K - 400) ∣ A) (a2 : bl A ≤ K + 300) (h : 2 * V = R md p (sts (A * 2 ^ K))) : cf (d + 7) 18 [num K A, .int p, .str rnd] = some (num K V) := by
  obtain ⟨m, k, h1, rfl, h2⟩ := num_cases (K := K) hA
  have hm : 0 < m := by omega
  have hk := tz_ge h1 gA
  clear gA
  rw [bl_mul hm] at a2
  have eA : m * 2 ^ k * 2 ^ K = m * 2 ^ (k + K) := by rw [Nat.mul_assoc, ← Nat.pow_add]
  rw [eA] at h
  rw [h2]
  refine cf_eq (fb := bmpf_sqrt) (B := bmpf_sqrt.body) (ρ := sqEnv m _ p rnd) rfl rfl rfl rfl ?_
  by_cases hpar : k % 2 = 0
  · have hb1 : Builtin.bitAnd ((k : Int) - K) 1 = 0 := by rw [bitAnd_m1]; omega
    by_cases hm1 : m = 1
    · subst hm1
      refine w_sqrt_1 hm hb1 rfl (div2 _) ?_
      obtain ⟨j, hj⟩ : ∃ j, k + K = 2 * j := ⟨(k + K) / 2, by omega⟩
      have E : ((k : Int) - K).fdiv 2 = (j : Int) - K := by
        have : (k : Int) - K = ((j : Int) - K) * 2 := by omega
        rw [this, Int.mul_fdiv_cancel _ (by decide)]
      rw [E, c_norm (d + 3) hr hm hp (by decide)]
      refine congrArg some (num_congr ?_)
      have e2 : 1 * 2 ^ (k + K) = 2 ^ j * 2 ^ j := by rw [Nat.one_mul, ← Nat.pow_add]; congr 1; omega
      rw [e2, sts_sq, Nat.mul_comm 2 (2 ^ j)] at h
      have f : Fp p (2 ^ j * 2 ^ 1) := by
        have := fp_of (p := p) (c := 1) (n := j + 1) hp (Nat.one_le_two_pow)
        rw [Nat.pow_succ, Nat.one_mul] at this; exact this
      have f2 : Fp p (1 * 2 ^ j) := fp_of hp Nat.one_le_two_pow
      rw [f2.R]
      have := f.R md
      rw [Nat.pow_one] at this
      rw [this] at h
      omega
    · exact w_sqrt_e hm hb1 hm1 (sqrt_core d hr hi hbn hK hK2 hp hp2 hm (by omega) (by omega) (by omega) h)
  · have hb1 : Builtin.bitAnd ((k : Int) - K) 1 = 1 := by rw [bitAnd_m1]; omega
    have hb : bl (m * 2) = bl m + 1 := by have := bl_mul hm 1; rw [Nat.pow_one] at this; exact this
    have e : (k : Int) - K - 1 = ((k - 1 : Nat) : Int) - K := by omega
    refine w_sqrt_o hm hb1 rfl (shlN (n := 1) (by omega) (by decide)) hb.symm ?_
    rw [e]
    refine sqrt_core d hr hi hbn hK hK2 hp hp2 (by omega) (by omega) (by omega) (by omega) ?_
    rw [h]
    congr 2
    rw [show k + K = (k - 1 + K) + 1 by omega, Nat.pow_succ]; grind
end Mine
end
-- part APt
section
open PySem PySem.W PyProof.Rows
set_option maxRecDepth 100000
set_option linter.unusedSimpArgs false
set_option maxHeartbeats 1000000
namespace Mine
theorem c_near (d : Nat) {K L H p : Nat} (hp : 1 ≤ p) (hL : 0 < L) (sH : bl H ≤ 10000) (h : Near p L H) : cf (d + 8) 22 [num K L, num K H, .int p] = some (.bool true) := by
  obtain ⟨h1, h2⟩ := h
  have hH : 0 < H := by omega
  have sL : bl L ≤ 10000 := Nat.le_trans (bl_mono h1) sH
  refine cf_eq (fb := blaw_near) (B := blaw_near.body) (ρ := [_, _, _]) rfl rfl rfl rfl ?_
  have q1 := c_le d (K := K) (A := L) hH sL sH
  rw [decide_eq_true h1] at q1
  have q2 := c_sub2 (d + 2) (K := K) hH hL sH sL
  rw [if_pos h1] at q2
  have e : (p : Int) - 1 = ((p - 1 : Nat) : Int) := by omega
  have q3 := c_shift (d + 6) (K := K) (V := H - L) (W := (H - L) * 2 ^ (p - 1)) (n := ((p - 1 : Nat) : Int)) ⟨p - 1, .inl ⟨rfl, rfl⟩⟩
  have q4 := c_le d (K := K) (A := (H - L) * 2 ^ (p - 1)) hH (Nat.le_trans (bl_mono h2) sH) sH
  rw [decide_eq_true h2] at q4
  change cf (d + 7) 14 _ = _ at q2
  change cf (d + 7) 16 _ = _ at q3
  generalize cf (d + 7) = C at *
  generalize num K L = nL at *
  generalize num K H = nH at *
  generalize num K (H - L) = nD at *
  generalize num K ((H - L) * 2 ^ (p - 1)) = nE at *
  generalize ((p - 1 : Nat) : Int) = p1 at *
  simp -implicitDefEqProofs only [blaw_near, q1, q2, e, q3, q4, runS, run, BOp.run, IOp.b, eqI, neI, ltI, leI, gtI, geI, truth, start, sets, List.map_cons, List.map_nil, List.length_cons, List.length_nil, Nat.reduceAdd, Nat.reduceSub, List.replicate_succ, List.replicate_zero, List.cons_append, List.nil_append, List.append_nil, List.getElem?_cons_zero, List.getElem?_cons_succ, Option.join_some, Option.map_some, Option.bind_some, List.set_cons_zero, List.set_cons_succ, Bool.not_true, Bool.not_false, Bool.and_true, Bool.true_and, Bool.and_false, Bool.false_and, beq_self_eq_true, guardO, Nat.reduceLT, decide_true, d01, t1, nz1, Nat.reducePow, z0, i2n, g0, g1, g2, g3, g4, g5, g6]
theorem mulSmall {a b : Int} (h : Builtin.Int.intBits b ≤ 64) : mulOk a b = true := by
  unfold mulOk
  have : decide (Builtin.Int.intBits b > shortFactorBits) = false := decide_eq_false (by unfold shortFactorBits; omega)
  rw [this]; simp
theorem c_mixed0 (d : Nat) (ns : List Int) (hl : ns.length ≤ 63) : ∃ v, cf (d + 1) 19 [.list (ns.map .int), .int 0] = some (.int v) := by
  have key : ∀ n : Int, run gs sd (cf d) (.ite (.cmp .lt (.var 1) (.len (.var 0))) (.idxL (.var 0) (.var 1)) (.litI 0)) [some (.list (ns.map .int)), some (.int 0), none] = some (.int n) → ∃ v, cf (d + 1) 19 [.list (ns.map .int), .int 0] = some (.int v) := by
    intro n hn
    have hm1 : mulOk n 6364136223846793005 = true := mulSmall (by decide)
    have hm2 : mulOk (0 + 1) 1442695040888963407 = true := by decide
    have hp1 : powOk 2 64 = true := by decide
    have hp2 : powOk 2 190 = true := by decide
    have ht1 : Int.toNat 64 = 64 := rfl
    have ht2 : Int.toNat 190 = 190 := rfl
    have hz : decide ((2 : Int) ^ 190 ≠ 0) = true := by decide
    generalize he : (2 : Int) ^ 64 = q1
    generalize he2 : (2 : Int) ^ 190 = q2 at hz
    have hB : blaw_mixed.body = .cons (.asg 2 (.ite (.cmp .lt (.var 1) (.len (.var 0))) (.idxL (.var 0) (.var 1)) (.litI 0))) (.cons (.ite (.cmp .ge (.var 2) (.bin .pow (.litI 2) (.litI 64)))
      (.cons (.ret (.var 2)) .nil) .nil) (.cons (.ret (.bin .mod (.bin .add (.bin .mul (.var 2) (.litI 6364136223846793005)) (.bin .mul (.bin .add (.var 1) (.litI 1)) (.litI 1442695040888963407))) (.bin .pow (.litI 2) (.litI 190)))) .nil)) := rfl
    generalize (T.ite (.cmp .lt (.var 1) (.len (.var 0))) (.idxL (.var 0) (.var 1)) (.litI 0)) = t at hn hB
    cases hc : decide (q1 ≤ n)
    · refine ⟨(n * 6364136223846793005 + (0 + 1) * 1442695040888963407).fmod q2, cf_eq (fb := blaw_mixed) (ρ := [_, _, _]) rfl rfl hB rfl ?_⟩
      simp -implicitDefEqProofs only [hn, hp1, ht1, he, hc, hm1, hm2, hp2, ht2, he2, hz, runS, run, BOp.run, IOp.b, eqI, neI, ltI, leI, gtI, geI, truth, start, sets, List.map_cons, List.map_nil, List.length_cons, List.length_nil, Nat.reduceAdd, Nat.reduceSub, List.replicate_succ, List.replicate_zero, List.cons_append, List.nil_append, List.append_nil, List.getElem?_cons_zero, List.getElem?_cons_succ, Option.join_some, Option.map_some, Option.bind_some, List.set_cons_zero, List.set_cons_succ, Bool.not_true, Bool.not_false, Bool.and_true, Bool.true_and, Bool.and_false, Bool.false_and, beq_self_eq_true, guardO, Nat.reduceLT, decide_true, d01, t1, nz1, Nat.reducePow, z0, i2n, g0, g1, g2, g3, g4, g5, g6]
    · refine ⟨n, cf_eq (fb := blaw_mixed) (ρ := [_, _, _]) rfl rfl hB rfl ?_⟩
      simp -implicitDefEqProofs only [hn, hp1, ht1, he, hc, hm1, hm2, hp2, ht2, he2, hz, runS, run, BOp.run, IOp.b, eqI, neI, ltI, leI, gtI, geI, truth, start, sets, List.map_cons, List.map_nil, List.length_cons, List.length_nil, Nat.reduceAdd, Nat.reduceSub, List.replicate_succ, List.replicate_zero, List.cons_append, List.nil_append, List.append_nil, List.getElem?_cons_zero, List.getElem?_cons_succ, Option.join_some, Option.map_some, Option.bind_some, List.set_cons_zero, List.set_cons_succ, Bool.not_true, Bool.not_false, Bool.and_true, Bool.true_and, Bool.and_false, Bool.false_and, beq_self_eq_true, guardO, Nat.reduceLT, decide_true, d01, t1, nz1, Nat.reducePow, z0, i2n, g0, g1, g2, g3, g4, g5, g6]
  have hg : decide ((ns.map PyData.int).length < 2 ^ 62) = true := decide_eq_true (by rw [List.length_map]; exact Nat.lt_of_le_of_lt hl (by decide))
  have tk : Int.toNat 0 = 0 := rfl
  have z1 : decide ((0 : Int) ≤ 0) = true := rfl
  have z2 : decide ((0 : Int) < 2 ^ 63) = true := by decide
  by_cases c : 0 < ns.length
  · have h1 : decide ((0 : Int) < ((ns.map PyData.int).length : Int)) = true := decide_eq_true (by rw [List.length_map]; omega)
    have h3 : (ns.map PyData.int)[0]? = some (.int ns[0]) := by rw [List.getElem?_map, List.getElem?_eq_getElem c]; rfl
    refine key ns[0] ?_
    generalize ns.map PyData.int = l at *
    simp -implicitDefEqProofs only [hg, h1, tk, z1, z2, h3, runS, run, BOp.run, IOp.b, eqI, neI, ltI, leI, gtI, geI, truth, start, sets, List.map_cons, List.map_nil, List.length_cons, List.length_nil, Nat.reduceAdd, Nat.reduceSub, List.replicate_succ, List.replicate_zero, List.cons_append, List.nil_append, List.append_nil, List.getElem?_cons_zero, List.getElem?_cons_succ, Option.join_some, Option.map_some, Option.bind_some, List.set_cons_zero, List.set_cons_succ, Bool.not_true, Bool.not_false, Bool.and_true, Bool.true_and, Bool.and_false, Bool.false_and, beq_self_eq_true, guardO, Nat.reduceLT, decide_true, d01, t1, nz1, Nat.reducePow, z0, i2n, g0, g1, g2, g3, g4, g5, g6]
  · have h1 : decide ((0 : Int) < ((ns.map PyData.int).length : Int)) = false := decide_eq_false (by rw [List.length_map]; omega)
    refine key 0 ?_
    generalize ns.map PyData.int = l at *
    simp -implicitDefEqProofs only [hg, h1, runS, run, BOp.run, IOp.b, eqI, neI, ltI, leI, gtI, geI, truth, start, sets, List.map_cons, List.map_nil, List.length_cons, List.length_nil, Nat.reduceAdd, Nat.reduceSub, List.replicate_succ, List.replicate_zero, List.cons_append, List.nil_append, List.append_nil, List.getElem?_cons_zero, List.getElem?_cons_succ, Option.join_some, Option.map_some, Option.bind_some, List.set_cons_zero, List.set_cons_succ, Bool.not_true, Bool.not_false, Bool.and_true, Bool.true_and, Bool.and_false, Bool.false_and, beq_self_eq_true, guardO, Nat.reduceLT, decide_true, d01, t1, nz1, Nat.reducePow, z0, i2n, g0, g1, g2, g3, g4, g5, g6]
theorem c_mixed1 (d : Nat) (ns : List Int) (hl : ns.length ≤ 63) : ∃ v, cf (d + 1) 19 [.list (ns.map .int), .int 1] = some (.int v) := by
  have key : ∀ n : Int, run gs sd (cf d) (.ite (.cmp .lt (.var 1) (.len (.var 0))) (.idxL (.var 0) (.var 1)) (.litI 0)) [some (.list (ns.map .int)), some (.int 1), none] = some (.int n) → ∃ v, cf (d + 1) 19 [.list (ns.map .int), .int 1] = some (.int v) := by
    intro n hn
    have hm1 : mulOk n 6364136223846793005 = true := mulSmall (by decide)
    have hm2 : mulOk (1 + 1) 1442695040888963407 = true := by decide
    have hp1 : powOk 2 64 = true := by decide
    have hp2 : powOk 2 190 = true := by decide
    have ht1 : Int.toNat 64 = 64 := rfl
    have ht2 : Int.toNat 190 = 190 := rfl
    have hz : decide ((2 : Int) ^ 190 ≠ 0) = true := by decide
    generalize he : (2 : Int) ^ 64 = q1
    generalize he2 : (2 : Int) ^ 190 = q2 at hz
    have hB : blaw_mixed.body = .cons (.asg 2 (.ite (.cmp .lt (.var 1) (.len (.var 0))) (.idxL (.var 0) (.var 1)) (.litI 0))) (.cons (.ite (.cmp .ge (.var 2) (.bin .pow (.litI 2) (.litI 64)))
      (.cons (.ret (.var 2)) .nil) .nil) (.cons (.ret (.bin .mod (.bin .add (.bin .mul (.var 2) (.litI 6364136223846793005)) (.bin .mul (.bin .add (.var 1) (.litI 1)) (.litI 1442695040888963407))) (.bin .pow (.litI 2) (.litI 190)))) .nil)) := rfl
    generalize (T.ite (.cmp .lt (.var 1) (.len (.var 0))) (.idxL (.var 0) (.var 1)) (.litI 0)) = t at hn hB
    cases hc : decide (q1 ≤ n)
    · refine ⟨(n * 6364136223846793005 + (1 + 1) * 1442695040888963407).fmod q2, cf_eq (fb := blaw_mixed) (ρ := [_, _, _]) rfl rfl hB rfl ?_⟩
      simp -implicitDefEqProofs only [hn, hp1, ht1, he, hc, hm1, hm2, hp2, ht2, he2, hz, runS, run, BOp.run, IOp.b, eqI, neI, ltI, leI, gtI, geI, truth, start, sets, List.map_cons, List.map_nil, List.length_cons, List.length_nil, Nat.reduceAdd, Nat.reduceSub, List.replicate_succ, List.replicate_zero, List.cons_append, List.nil_append, List.append_nil, List.getElem?_cons_zero, List.getElem?_cons_succ, Option.join_some, Option.map_some, Option.bind_some, List.set_cons_zero, List.set_cons_succ, Bool.not_true, Bool.not_false, Bool.and_true, Bool.true_and, Bool.and_false, Bool.false_and, beq_self_eq_true, guardO, Nat.reduceLT, decide_true, d01, t1, nz1, Nat.reducePow, z0, i2n, g0, g1, g2, g3, g4, g5, g6]
    · refine ⟨n, cf_eq (fb := blaw_mixed) (ρ := [_, _, _]) rfl rfl hB rfl ?_⟩
      simp -implicitDefEqProofs only [hn, hp1, ht1, he, hc, hm1, hm2, hp2, ht2, he2, hz, runS, run, BOp.run, IOp.b, eqI, neI, ltI, leI, gtI, geI, truth, start, sets, List.map_cons, List.map_nil, List.length_cons, List.length_nil, Nat.reduceAdd, Nat.reduceSub, List.replicate_succ, List.replicate_zero, List.cons_append, List.nil_append, List.append_nil, List.getElem?_cons_zero, List.getElem?_cons_succ, Option.join_some, Option.map_some, Option.bind_some, List.set_cons_zero, List.set_cons_succ, Bool.not_true, Bool.not_false, Bool.and_true, Bool.true_and, Bool.and_false, Bool.false_and, beq_self_eq_true, guardO, Nat.reduceLT, decide_true, d01, t1, nz1, Nat.reducePow, z0, i2n, g0, g1, g2, g3, g4, g5, g6]
  have hg : decide ((ns.map PyData.int).length < 2 ^ 62) = true := decide_eq_true (by rw [List.length_map]; exact Nat.lt_of_le_of_lt hl (by decide))
  have tk : Int.toNat 1 = 1 := rfl
  have z1 : decide ((0 : Int) ≤ 1) = true := rfl
  have z2 : decide ((1 : Int) < 2 ^ 63) = true := by decide
  by_cases c : 1 < ns.length
  · have h1 : decide ((1 : Int) < ((ns.map PyData.int).length : Int)) = true := decide_eq_true (by rw [List.length_map]; omega)
    have h3 : (ns.map PyData.int)[1]? = some (.int ns[1]) := by rw [List.getElem?_map, List.getElem?_eq_getElem c]; rfl
    refine key ns[1] ?_
    generalize ns.map PyData.int = l at *
    simp -implicitDefEqProofs only [hg, h1, tk, z1, z2, h3, runS, run, BOp.run, IOp.b, eqI, neI, ltI, leI, gtI, geI, truth, start, sets, List.map_cons, List.map_nil, List.length_cons, List.length_nil, Nat.reduceAdd, Nat.reduceSub, List.replicate_succ, List.replicate_zero, List.cons_append, List.nil_append, List.append_nil, List.getElem?_cons_zero, List.getElem?_cons_succ, Option.join_some, Option.map_some, Option.bind_some, List.set_cons_zero, List.set_cons_succ, Bool.not_true, Bool.not_false, Bool.and_true, Bool.true_and, Bool.and_false, Bool.false_and, beq_self_eq_true, guardO, Nat.reduceLT, decide_true, d01, t1, nz1, Nat.reducePow, z0, i2n, g0, g1, g2, g3, g4, g5, g6]
  · have h1 : decide ((1 : Int) < ((ns.map PyData.int).length : Int)) = false := decide_eq_false (by rw [List.length_map]; omega)
    refine key 0 ?_
    generalize ns.map PyData.int = l at *
    simp -implicitDefEqProofs only [hg, h1, runS, run, BOp.run, IOp.b, eqI, neI, ltI, leI, gtI, geI, truth, start, sets, List.map_cons, List.map_nil, List.length_cons, List.length_nil, Nat.reduceAdd, Nat.reduceSub, List.replicate_succ, List.replicate_zero, List.cons_append, List.nil_append, List.append_nil, List.getElem?_cons_zero, List.getElem?_cons_succ, Option.join_some, Option.map_some, Option.bind_some, List.set_cons_zero, List.set_cons_succ, Bool.not_true, Bool.not_false, Bool.and_true, Bool.true_and, Bool.and_false, Bool.false_and, beq_self_eq_true, guardO, Nat.reduceLT, decide_true, d01, t1, nz1, Nat.reducePow, z0, i2n, g0, g1, g2, g3, g4, g5, g6]
theorem c_mixed2 (d : Nat) (ns : List Int) (hl : ns.length ≤ 63) : ∃ v, cf (d + 1) 19 [.list (ns.map .int), .int 2] = some (.int v) := by
  have key : ∀ n : Int, run gs sd (cf d) (.ite (.cmp .lt (.var 1) (.len (.var 0))) (.idxL (.var 0) (.var 1)) (.litI 0)) [some (.list (ns.map .int)), some (.int 2), none] = some (.int n) → ∃ v, cf (d + 1) 19 [.list (ns.map .int), .int 2] = some (.int v) := by
    intro n hn
    have hm1 : mulOk n 6364136223846793005 = true := mulSmall (by decide)
    have hm2 : mulOk (2 + 1) 1442695040888963407 = true := by decide
    have hp1 : powOk 2 64 = true := by decide
    have hp2 : powOk 2 190 = true := by decide
    have ht1 : Int.toNat 64 = 64 := rfl
    have ht2 : Int.toNat 190 = 190 := rfl
    have hz : decide ((2 : Int) ^ 190 ≠ 0) = true := by decide
    generalize he : (2 : Int) ^ 64 = q1
    generalize he2 : (2 : Int) ^ 190 = q2 at hz
    have hB : blaw_mixed.body = .cons (.asg 2 (.ite (.cmp .lt (.var 1) (.len (.var 0))) (.idxL (.var 0) (.var 1)) (.litI 0))) (.cons (.ite (.cmp .ge (.var 2) (.bin .pow (.litI 2) (.litI 64)))
      (.cons (.ret (.var 2)) .nil) .nil) (.cons (.ret (.bin .mod (.bin .add (.bin .mul (.var 2) (.litI 6364136223846793005)) (.bin .mul (.bin .add (.var 1) (.litI 1)) (.litI 1442695040888963407))) (.bin .pow (.litI 2) (.litI 190)))) .nil)) := rfl
    generalize (T.ite (.cmp .lt (.var 1) (.len (.var 0))) (.idxL (.var 0) (.var 1)) (.litI 0)) = t at hn hB
    cases hc : decide (q1 ≤ n)
    · refine ⟨(n * 6364136223846793005 + (2 + 1) * 1442695040888963407).fmod q2, cf_eq (fb := blaw_mixed) (ρ := [_, _, _]) rfl rfl hB rfl ?_⟩
      simp -implicitDefEqProofs only [hn, hp1, ht1, he, hc, hm1, hm2, hp2, ht2, he2, hz, runS, run, BOp.run, IOp.b, eqI, neI, ltI, leI, gtI, geI, truth, start, sets, List.map_cons, List.map_nil, List.length_cons, List.length_nil, Nat.reduceAdd, Nat.reduceSub, List.replicate_succ, List.replicate_zero, List.cons_append, List.nil_append, List.append_nil, List.getElem?_cons_zero, List.getElem?_cons_succ, Option.join_some, Option.map_some, Option.bind_some, List.set_cons_zero, List.set_cons_succ, Bool.not_true, Bool.not_false, Bool.and_true, Bool.true_and, Bool.and_false, Bool.false_and, beq_self_eq_true, guardO, Nat.reduceLT, decide_true, d01, t1, nz1, Nat.reducePow, z0, i2n, g0, g1, g2, g3, g4, g5, g6]
    · refine ⟨n, cf_eq (fb := blaw_mixed) (ρ := [_, _, _]) rfl rfl hB rfl ?_⟩
      simp -implicitDefEqProofs only [hn, hp1, ht1, he, hc, hm1, hm2, hp2, ht2, he2, hz, runS, run, BOp.run, IOp.b, eqI, neI, ltI, leI, gtI, geI, truth, start, sets, List.map_cons, List.map_nil, List.length_cons, List.length_nil, Nat.reduceAdd, Nat.reduceSub, List.replicate_succ, List.replicate_zero, List.cons_append, List.nil_append, List.append_nil, List.getElem?_cons_zero, List.getElem?_cons_succ, Option.join_some, Option.map_some, Option.bind_some, List.set_cons_zero, List.set_cons_succ, Bool.not_true, Bool.not_false, Bool.and_true, Bool.true_and, Bool.and_false, Bool.false_and, beq_self_eq_true, guardO, Nat.reduceLT, decide_true, d01, t1, nz1, Nat.reducePow, z0, i2n, g0, g1, g2, g3, g4, g5, g6]
  have hg : decide ((ns.map PyData.int).length < 2 ^ 62) = true := decide_eq_true (by rw [List.length_map]; exact Nat.lt_of_le_of_lt hl (by decide))
  have tk : Int.toNat 2 = 2 := rfl
  have z1 : decide ((0 : Int) ≤ 2) = true := rfl
  have z2 : decide ((2 : Int) < 2 ^ 63) = true := by decide
  by_cases c : 2 < ns.length
  · have h1 : decide ((2 : Int) < ((ns.map PyData.int).length : Int)) = true := decide_eq_true (by rw [List.length_map]; omega)
    have h3 : (ns.map PyData.int)[2]? = some (.int ns[2]) := by rw [List.getElem?_map, List.getElem?_eq_getElem c]; rfl
    refine key ns[2] ?_
    generalize ns.map PyData.int = l at *
    simp -implicitDefEqProofs only [hg, h1, tk, z1, z2, h3, runS, run, BOp.run, IOp.b, eqI, neI, ltI, leI, gtI, geI, truth, start, sets, List.map_cons, List.map_nil, List.length_cons, List.length_nil, Nat.reduceAdd, Nat.reduceSub, List.replicate_succ, List.replicate_zero, List.cons_append, List.nil_append, List.append_nil, List.getElem?_cons_zero, List.getElem?_cons_succ, Option.join_some, Option.map_some, Option.bind_some, List.set_cons_zero, List.set_cons_succ, Bool.not_true, Bool.not_false, Bool.and_true, Bool.true_and, Bool.and_false, Bool.false_and, beq_self_eq_true, guardO, Nat.reduceLT, decide_true, d01, t1, nz1, Nat.reducePow, z0, i2n, g0, g1, g2, g3, g4, g5, g6]
  · have h1 : decide ((2 : Int) < ((ns.map PyData.int).length : Int)) = false := decide_eq_false (by rw [List.length_map]; omega)
    refine key 0 ?_
    generalize ns.map PyData.int = l at *
    simp -implicitDefEqProofs only [hg, h1, runS, run, BOp.run, IOp.b, eqI, neI, ltI, leI, gtI, geI, truth, start, sets, List.map_cons, List.map_nil, List.length_cons, List.length_nil, Nat.reduceAdd, Nat.reduceSub, List.replicate_succ, List.replicate_zero, List.cons_append, List.nil_append, List.append_nil, List.getElem?_cons_zero, List.getElem?_cons_succ, Option.join_some, Option.map_some, Option.bind_some, List.set_cons_zero, List.set_cons_succ, Bool.not_true, Bool.not_false, Bool.and_true, Bool.true_and, Bool.and_false, Bool.false_and, beq_self_eq_true, guardO, Nat.reduceLT, decide_true, d01, t1, nz1, Nat.reducePow, z0, i2n, g0, g1, g2, g3, g4, g5, g6]
end Mine
end
-- part APu
section
open PySem PySem.W PyProof.Rows
set_option maxRecDepth 100000
set_option linter.unusedSimpArgs false
set_option maxHeartbeats 1000000
namespace Mine
theorem fmod_nat (x : Int) {n : Nat} (h : 0 < n) : ∃ t : Nat, x.fmod (n : Int) = (t : Int) ∧ t < n := by
  have h1 := Int.fmod_nonneg_of_pos x (by omega : (0 : Int) < n)
  have h2 := Int.fmod_lt_of_pos x (by omega : (0 : Int) < n)
  exact ⟨(x.fmod n).toNat, by omega, by omega⟩
theorem divS (x : Int) {b : Int} (hb : b = 2 ∨ b = 16 ∨ b = 60 ∨ b = 65536) : divOk x b = true := by
  unfold divOk
  have h2 : Builtin.divisionGoesByPylong x b = false := by
    unfold Builtin.divisionGoesByPylong
    rcases hb with rfl | rfl | rfl | rfl <;> (rw [Bool.and_eq_false_iff]; left; decide)
  rw [h2]
  rcases hb with rfl | rfl | rfl | rfl <;> rfl
theorem bl_odd {m : Nat} (h : m < 2 ^ 30) : bl m ≤ 30 := bl_le h
/-- what _law_raw makes -/
def Raw (r : PyData) : Prop := r = fz ∨ ∃ sg : Int, ∃ m : Nat, ∃ e : Int, (sg = 0 ∨ sg = 1) ∧ r = .tuple [.int sg, .int m, .int e, .int (bl m)] ∧ m % 2 = 1 ∧ m < 2 ^ 30 ∧ -30 ≤ e ∧ e ≤ 30
theorem c_raw (d : Nat) (x : Int) : ∃ r, cf (d + 1) 20 [.int x, .int 30, .int 30] = some r ∧ Raw r := by
  obtain ⟨k1, hk1, _⟩ := fmod_nat (x.fdiv 2) (n := 8) (by decide)
  obtain ⟨k2, hk2, hk2'⟩ := fmod_nat (x.fdiv 16) (n := 61) (by decide)
  obtain ⟨sg, hsg, hsg'⟩ := fmod_nat x (n := 2) (by decide)
  obtain ⟨y, hy⟩ : ∃ y, x.fdiv 65536 = y := ⟨_, rfl⟩
  obtain ⟨t, ht, ht'⟩ := fmod_nat y (n := 30) (by decide)
  obtain ⟨t2, ht2, ht2'⟩ := fmod_nat y (n := 29) (by decide)
  obtain ⟨P, hP⟩ : ∃ P : Nat, 2 ^ (t + 1) = P := ⟨_, rfl⟩
  obtain ⟨P2, hP2⟩ : ∃ P : Nat, 2 ^ (t2 + 1) = P := ⟨_, rfl⟩
  have hP0 : 0 < P := by rw [← hP]; exact Nat.two_pow_pos _
  obtain ⟨z, hz, hz'⟩ := fmod_nat y hP0
  have hPb : P ≤ 2 ^ 30 ∧ P % 2 = 0 ∧ 2 ≤ P := by
    refine ⟨by rw [← hP]; exact pow_le_of (by omega), by rw [← hP, Nat.pow_succ]; omega, ?_⟩
    rw [← hP, Nat.pow_succ]; have := Nat.two_pow_pos t; omega
  have hP2b : P2 ≤ 2 ^ 29 ∧ P2 % 2 = 0 := by
    refine ⟨by rw [← hP2]; exact pow_le_of (by omega), by rw [← hP2, Nat.pow_succ]; omega⟩
  have e1 : ((1 : Int) + (t : Int)).toNat = t + 1 := by omega
  have e2 : (2 : Int) ^ (t + 1) = (P : Int) := by rw [← hP]; push_cast; rfl
  have e3 : powOk 2 ((1 : Int) + (t : Int)) = true := by unfold powOk; simp; omega
  have e1' : ((1 : Int) + (t2 : Int)).toNat = t2 + 1 := by omega
  have e2' : (2 : Int) ^ (t2 + 1) = (P2 : Int) := by rw [← hP2]; push_cast; rfl
  have e3' : powOk 2 ((1 : Int) + (t2 : Int)) = true := by unfold powOk; simp; omega
  have p16 : (2 : Int) ^ 16 = 65536 := by decide
  have w16 : powOk 2 16 = true := by decide
  have t16 : Int.toNat 16 = 16 := rfl
  have n8 : decide ((8 : Int) ≠ 0) = true := rfl
  have n61 : decide ((2 : Int) * 30 + 1 ≠ 0) = true := by decide
  have v61 : (2 : Int) * 30 + 1 = 61 := by decide
  have n61' : decide ((61 : Int) ≠ 0) = true := rfl
  have n30 : decide ((30 : Int) ≠ 0) = true := rfl
  have n2 : decide ((2 : Int) ≠ 0) = true := rfl
  have v29 : (30 : Int) - 1 = 29 := by decide
  have n29 : decide ((29 : Int) ≠ 0) = true := rfl
  have g30 : decide ((1 : Int) < 30) = true := rfl
  have m230 : mulOk 2 30 = true := by decide
  have nP : decide ((P : Int) ≠ 0) = true := decide_eq_true (by omega)
  have dz : (z : Int).fdiv 2 = ((z / 2 : Nat) : Int) := fdivN z 2
  have mz : mulOk ((z / 2 : Nat) : Int) 2 = true := mulSmall (by decide)
  have f3 : ((z / 2 : Nat) : Int) * 2 + 1 = ((z / 2 * 2 + 1 : Nat) : Int) := by omega
  have f2 : (P : Int) - 1 = ((P - 1 : Nat) : Int) := by omega
  have f4 : (P2 : Int) + 1 = ((P2 + 1 : Nat) : Int) := by omega
  have d2 := divS x (b := 2) (.inl rfl)
  have d16 := divS x (b := 16) (.inr (.inl rfl))
  have d65 := divS x (b := 65536) (.inr (.inr (.inr rfl)))
  have dz2 := divS (z : Int) (b := 2) (.inl rfl)
  change (x.fdiv 2).fmod 8 = (k1 : Int) at hk1
  change (x.fdiv 16).fmod 61 = (k2 : Int) at hk2
  change x.fmod 2 = (sg : Int) at hsg
  change y.fmod 30 = (t : Int) at ht
  change y.fmod 29 = (t2 : Int) at ht2
  have hsg2 : (sg : Int) = 0 ∨ (sg : Int) = 1 := by omega
  have ib1 : (Builtin.Int.intBits 1 : Nat) = 1 := by decide
  have bl1 : bl 1 = 1 := by decide
  generalize h2t : (2 : Int) ^ (t + 1) = q1 at *
  generalize h2t2 : (2 : Int) ^ (t2 + 1) = q2 at *
  by_cases c0 : k1 = 0
  · have g0 : decide ((k1 : Int) = 0) = true := decide_eq_true (by omega)
    refine ⟨fz, cf_eq (fb := blaw_raw) (ρ := [_, _, _, _, _, _, _]) rfl rfl rfl rfl ?_, .inl rfl⟩
    simp -implicitDefEqProofs only [blaw_raw, d2, n8, hk1, d16, m230, v61, n61', hk2, w16, t16, p16, d65, hy, g0, fz, runS, run, BOp.run, IOp.b, eqI, neI, ltI, leI, gtI, geI, truth, start, sets, List.map_cons, List.map_nil, List.length_cons, List.length_nil, Nat.reduceAdd, Nat.reduceSub, List.replicate_succ, List.replicate_zero, List.cons_append, List.nil_append, List.append_nil, List.reverse_cons, List.reverse_nil, List.getElem?_cons_zero, List.getElem?_cons_succ, Option.join_some, Option.map_some, Option.bind_some, List.set_cons_zero, List.set_cons_succ, Bool.not_true, Bool.not_false, Bool.and_true, Bool.true_and, Bool.and_false, Bool.false_and, beq_self_eq_true, guardO, Nat.reduceLT, decide_true, d01, t1, nz1, Nat.reducePow, z0, i2n, g0, g1, g2, g3, g4, g5, g6]
  · have g0 : decide ((k1 : Int) = 0) = false := decide_eq_false (by omega)
    by_cases c1 : k1 = 1
    · have g1 : decide ((k1 : Int) = 1) = true := decide_eq_true (by omega)
      refine ⟨.tuple [.int sg, .int (1 : Nat), .int ((k2 : Int) - 30), .int (bl 1)], cf_eq (fb := blaw_raw) (ρ := [_, _, _, _, _, _, _]) rfl rfl rfl rfl ?_, .inr ⟨sg, 1, _, hsg2, rfl, rfl, by decide, by omega, by omega⟩⟩
      simp -implicitDefEqProofs only [blaw_raw, d2, n8, hk1, d16, m230, v61, n61', hk2, w16, t16, p16, d65, hy, g0, n30, ht, e3, e1, h2t, e2, nP, hz, dz2, dz, mz, f3, g1, n2, hsg, ib1, bl1, runS, run, BOp.run, IOp.b, eqI, neI, ltI, leI, gtI, geI, truth, start, sets, List.map_cons, List.map_nil, List.length_cons, List.length_nil, Nat.reduceAdd, Nat.reduceSub, List.replicate_succ, List.replicate_zero, List.cons_append, List.nil_append, List.append_nil, List.reverse_cons, List.reverse_nil, List.getElem?_cons_zero, List.getElem?_cons_succ, Option.join_some, Option.map_some, Option.bind_some, List.set_cons_zero, List.set_cons_succ, Bool.not_true, Bool.not_false, Bool.and_true, Bool.true_and, Bool.and_false, Bool.false_and, beq_self_eq_true, guardO, Nat.reduceLT, decide_true, d01, t1, nz1, Nat.reducePow, z0, i2n, g0, g1, g2, g3, g4, g5, g6]
      rfl
    · have g1 : decide ((k1 : Int) = 1) = false := decide_eq_false (by omega)
      by_cases c2 : k1 = 2
      · have g2 : decide ((k1 : Int) = 2) = true := decide_eq_true (by omega)
        refine ⟨.tuple [.int sg, .int (P - 1 : Nat), .int ((k2 : Int) - 30), .int (bl (P - 1))], cf_eq (fb := blaw_raw) (ρ := [_, _, _, _, _, _, _]) rfl rfl rfl rfl ?_, .inr ⟨sg, P - 1, _, hsg2, rfl, by omega, by omega, by omega, by omega⟩⟩
        simp -implicitDefEqProofs only [blaw_raw, d2, n8, hk1, d16, m230, v61, n61', hk2, w16, t16, p16, d65, hy, g0, n30, ht, e3, e1, h2t, e2, nP, hz, dz2, dz, mz, f3, g1, g2, f2, n2, hsg, ib, runS, run, BOp.run, IOp.b, eqI, neI, ltI, leI, gtI, geI, truth, start, sets, List.map_cons, List.map_nil, List.length_cons, List.length_nil, Nat.reduceAdd, Nat.reduceSub, List.replicate_succ, List.replicate_zero, List.cons_append, List.nil_append, List.append_nil, List.reverse_cons, List.reverse_nil, List.getElem?_cons_zero, List.getElem?_cons_succ, Option.join_some, Option.map_some, Option.bind_some, List.set_cons_zero, List.set_cons_succ, Bool.not_true, Bool.not_false, Bool.and_true, Bool.true_and, Bool.and_false, Bool.false_and, beq_self_eq_true, guardO, Nat.reduceLT, decide_true, d01, t1, nz1, Nat.reducePow, z0, i2n, g0, g1, g2, g3, g4, g5, g6]
      · have g2 : decide ((k1 : Int) = 2) = false := decide_eq_false (by omega)
        by_cases c3 : k1 = 3
        · have g3 : decide ((k1 : Int) = 3) = true := decide_eq_true (by omega)
          refine ⟨.tuple [.int sg, .int (P2 + 1 : Nat), .int ((k2 : Int) - 30), .int (bl (P2 + 1))], cf_eq (fb := blaw_raw) (ρ := [_, _, _, _, _, _, _]) rfl rfl rfl rfl ?_, .inr ⟨sg, P2 + 1, _, hsg2, rfl, by omega, by omega, by omega, by omega⟩⟩
          simp -implicitDefEqProofs only [blaw_raw, d2, n8, hk1, d16, m230, v61, n61', hk2, w16, t16, p16, d65, hy, g0, n30, ht, e3, e1, h2t, e2, nP, hz, dz2, dz, mz, f3, g1, g2, g3, g30, v29, n29, ht2, e3', e1', h2t2, e2', f4, n2, hsg, ib, runS, run, BOp.run, IOp.b, eqI, neI, ltI, leI, gtI, geI, truth, start, sets, List.map_cons, List.map_nil, List.length_cons, List.length_nil, Nat.reduceAdd, Nat.reduceSub, List.replicate_succ, List.replicate_zero, List.cons_append, List.nil_append, List.append_nil, List.reverse_cons, List.reverse_nil, List.getElem?_cons_zero, List.getElem?_cons_succ, Option.join_some, Option.map_some, Option.bind_some, List.set_cons_zero, List.set_cons_succ, Bool.not_true, Bool.not_false, Bool.and_true, Bool.true_and, Bool.and_false, Bool.false_and, beq_self_eq_true, guardO, Nat.reduceLT, decide_true, d01, t1, nz1, Nat.reducePow, z0, i2n, g0, g1, g2, g3, g4, g5, g6]
        · have g3 : decide ((k1 : Int) = 3) = false := decide_eq_false (by omega)
          refine ⟨.tuple [.int sg, .int (z / 2 * 2 + 1 : Nat), .int ((k2 : Int) - 30), .int (bl (z / 2 * 2 + 1))], cf_eq (fb := blaw_raw) (ρ := [_, _, _, _, _, _, _]) rfl rfl rfl rfl ?_, .inr ⟨sg, z / 2 * 2 + 1, _, hsg2, rfl, by omega, by omega, by omega, by omega⟩⟩
          simp -implicitDefEqProofs only [blaw_raw, d2, n8, hk1, d16, m230, v61, n61', hk2, w16, t16, p16, d65, hy, g0, n30, ht, e3, e1, h2t, e2, nP, hz, dz2, dz, mz, f3, g1, g2, g3, n2, hsg, ib, runS, run, BOp.run, IOp.b, eqI, neI, ltI, leI, gtI, geI, truth, start, sets, List.map_cons, List.map_nil, List.length_cons, List.length_nil, Nat.reduceAdd, Nat.reduceSub, List.replicate_succ, List.replicate_zero, List.cons_append, List.nil_append, List.append_nil, List.reverse_cons, List.reverse_nil, List.getElem?_cons_zero, List.getElem?_cons_succ, Option.join_some, Option.map_some, Option.bind_some, List.set_cons_zero, List.set_cons_succ, Bool.not_true, Bool.not_false, Bool.and_true, Bool.true_and, Bool.and_false, Bool.false_and, beq_self_eq_true, guardO, Nat.reduceLT, decide_true, d01, t1, nz1, Nat.reducePow, z0, i2n, g0, g1, g2, g3, g4, g5, g6]
theorem c_above (d : Nat) (x : Int) : ∃ m : Nat, ∃ e : Int, cf (d + 2) 21 [.int x] = some (mpf m e) ∧ m % 2 = 1 ∧ m < 2 ^ 30 ∧ -30 ≤ e ∧ e ≤ 30 := by
  obtain ⟨r, h1, h2⟩ := c_raw d x
  rcases h2 with rfl | ⟨sg, m, e, hs, rfl, hm, hm2, he, he2⟩
  · refine ⟨5, -1, cf_eq (fb := blaw_above) (ρ := [_, _]) rfl rfl rfl rfl ?_, by decide, by decide, by decide, by decide⟩
    have hi : idxOf [PyData.int 0, .int 0, .int 0, .int 0] 1 = some (.int 0) := rfl
    have b5 : bl 5 = 3 := by decide
    simp -implicitDefEqProofs only [blaw_above, h1, fz, hi, t00, mpf, b5, runS, run, BOp.run, IOp.b, eqI, neI, ltI, leI, gtI, geI, truth, start, sets, List.map_cons, List.map_nil, List.length_cons, List.length_nil, Nat.reduceAdd, Nat.reduceSub, List.replicate_succ, List.replicate_zero, List.cons_append, List.nil_append, List.append_nil, List.reverse_cons, List.reverse_nil, List.getElem?_cons_zero, List.getElem?_cons_succ, Option.join_some, Option.map_some, Option.bind_some, List.set_cons_zero, List.set_cons_succ, Bool.not_true, Bool.not_false, Bool.and_true, Bool.true_and, Bool.and_false, Bool.false_and, beq_self_eq_true, guardO, Nat.reduceLT, decide_true, d01, t1, nz1, Nat.reducePow, z0, i2n, g0, g1, g2, g3, g4, g5, g6]
    rfl
  · refine ⟨m, e, cf_eq (fb := blaw_above) (ρ := [_, _]) rfl rfl rfl rfl ?_, hm, hm2, he, he2⟩
    have hi : idxOf [PyData.int sg, .int m, .int e, .int (bl m)] 1 = some (.int m) := rfl
    have g : decide ((0 : Int) < (m : Int)) = true := decide_eq_true (by omega)
    have ha := c_abs d (m := m) (e := e) (b := bl m) (by omega) hs
    simp -implicitDefEqProofs only [blaw_above, h1, hi, g, ha, mpf, runS, run, BOp.run, IOp.b, eqI, neI, ltI, leI, gtI, geI, truth, start, sets, List.map_cons, List.map_nil, List.length_cons, List.length_nil, Nat.reduceAdd, Nat.reduceSub, List.replicate_succ, List.replicate_zero, List.cons_append, List.nil_append, List.append_nil, List.reverse_cons, List.reverse_nil, List.getElem?_cons_zero, List.getElem?_cons_succ, Option.join_some, Option.map_some, Option.bind_some, List.set_cons_zero, List.set_cons_succ, Bool.not_true, Bool.not_false, Bool.and_true, Bool.true_and, Bool.and_false, Bool.false_and, beq_self_eq_true, guardO, Nat.reduceLT, decide_true, d01, t1, nz1, Nat.reducePow, z0, i2n, g0, g1, g2, g3, g4, g5, g6]
end Mine
end
-- part APv
section
open PySem PySem.W PyProof.Rows
set_option maxRecDepth 100000
set_option linter.unusedSimpArgs false
set_option maxHeartbeats 1000000
namespace Mine
/-- the scale -/
structure Sc (K p : Nat) : Prop where
  k1 : 1000 ≤ K
  k2 : K ≤ 2000
  k3 : K % 2 = 0
  p1 : 30 ≤ p
  p2 : p ≤ 89
theorem bl_scale {x n k : Nat} (h : 0 < x) (hx : x ≤ 2 ^ n) : k + 1 ≤ bl (x * 2 ^ k) ∧ bl (x * 2 ^ k) ≤ n + 1 + k := by
  rw [bl_mul h]
  have h1 := bl_pos h
  have h2 := bl_mono hx
  rw [bl_pow] at h2
  omega
theorem even_R {r : Rm} {p W : Nat} (hp : 1 ≤ p) (h : p < bl W) : 2 * (R r p W / 2) = R r p W := by have := R_even (r := r) hp h; omega
theorem flat_num (K V : Nat) : flat1 (num K V) = true := by
  rcases Nat.eq_zero_or_pos V with z | z
  · subst z; rfl
  · obtain ⟨m, k, _, _, h⟩ := num_cases (K := K) z
    rw [h]; rfl
theorem num_shape (K V : Nat) : ∃ b c e : Int, num K V = .tuple [.int 0, .int b, .int c, .int e] := by
  rcases Nat.eq_zero_or_pos V with z | z
  · subst z; exact ⟨0, 0, 0, rfl⟩
  · obtain ⟨m, k, _, _, h⟩ := num_cases (K := K) z
    exact ⟨_, _, _, h⟩
theorem num_inj {K A B : Nat} (hA : 0 < A) (hB : 0 < B) (h : num K A = num K B) : A = B := by
  obtain ⟨m1, k1, h1, rfl, h2⟩ := num_cases (K := K) hA
  obtain ⟨m2, k2, h3, rfl, h4⟩ := num_cases (K := K) hB
  rw [h2, h4] at h
  unfold mpf at h
  injection h with h
  injection h with _ h
  injection h with h5 h
  injection h with h6 _
  injection h5 with h5
  injection h6 with h6
  have : m1 = m2 := by omega
  have : k1 = k2 := by omega
  subst_vars; rfl
theorem eqNum {K A B : Nat} (hA : 0 < A) (hB : 0 < B) : COp.run .eq (num K A) (num K B) = some (decide (A = B)) := by
  have hinj := num_inj (K := K) hA hB
  by_cases e : A = B
  · subst e
    obtain ⟨b, c, e, h⟩ := num_shape K A
    rw [h, eq4, eq4b]; simp
  · have hne : num K A ≠ num K B := fun x => e (hinj x)
    obtain ⟨b, c, e1, h⟩ := num_shape K A
    obtain ⟨b', c', e', h'⟩ := num_shape K B
    rw [h, h'] at hne ⊢
    rw [eq4, eq4b, decide_eq_false e]
    congr 1
    refine decide_eq_false ?_
    rintro ⟨_, rfl, rfl, rfl⟩
    exact hne rfl
theorem neNum (K A : Nat) : COp.run .ne (num K A) (num K A) = some false := by
  obtain ⟨b, c, e, h⟩ := num_shape K A
  rw [h, ne4, eq4b]; simp
theorem shNum4 (K a b c d : Nat) : SeqAt.shaped (.list [num K a, num K b, num K c, num K d]) = true := by
  obtain ⟨_, _, _, h1⟩ := num_shape K a
  obtain ⟨_, _, _, h2⟩ := num_shape K b
  obtain ⟨_, _, _, h3⟩ := num_shape K c
  obtain ⟨_, _, _, h4⟩ := num_shape K d
  rw [h1, h2, h3, h4]
  simp [SeqAt.shaped, PyData.canLay0, PyData.canLayAll0, PyData.depth, PyData.depthAll]
theorem neNum4 (K a : Nat) : COp.run .ne (.list [num K a, num K a, num K a, num K a]) (.list [num K a, num K a, num K a, num K a]) = some false := by
  rw [neRun, shNum4]
  obtain ⟨_, _, _, h1⟩ := num_shape K a
  rw [h1]
  simp [PyData.eqv, PyData.eqvAll, guardO]
theorem it_n : (CSrc.chars (nm "nfcdu")).items = [.str (nm "n"), .str (nm "f"), .str (nm "c"), .str (nm "d"), .str (nm "u")] := by rfl
theorem it_du : (CSrc.chars (nm "du")).items = [.str (nm "d"), .str (nm "u")] := by rfl
theorem it_3 : (CSrc.rng 3).items = [.int 0, .int 1, .int 2] := by rfl
theorem in_n : COp.run .isin (.str (nm "n")) (.str (nm "fd")) = some false := by decide +kernel
theorem in_f : COp.run .isin (.str (nm "f")) (.str (nm "fd")) = some true := by decide +kernel
theorem in_c : COp.run .isin (.str (nm "c")) (.str (nm "fd")) = some false := by decide +kernel
theorem in_d : COp.run .isin (.str (nm "d")) (.str (nm "fd")) = some true := by decide +kernel
theorem in_u : COp.run .isin (.str (nm "u")) (.str (nm "fd")) = some false := by decide +kernel
end Mine
end
-- part APw
section
open PySem PySem.W PyProof.Rows
set_option maxRecDepth 100000
set_option linter.unusedSimpArgs false
set_option maxHeartbeats 1000000
namespace Mine
def vA (K a : Nat) : Nat := a * 2 ^ (K - 30)
def vC (K a b : Nat) : Nat := a * b * 2 ^ (K - 60)
def vT (K a b : Nat) : Nat := (a + b) * 2 ^ (K - 30)
def vM (K a b : Nat) : Nat := (a + b) * 2 ^ (K - 31)
def vN (K a b : Nat) : Nat := (a * a + b * b) * 2 ^ (K - 61)
section
variable {K p a b : Nat} (S : Sc K p)
include S
theorem vC_eq : vA K a * vA K b = vC K a b * 2 ^ K := by
  have := S.k1
  unfold vA vC
  have e : 2 ^ (K - 30) * 2 ^ (K - 30) = 2 ^ (K - 60) * 2 ^ K := by rw [← Nat.pow_add, ← Nat.pow_add]; congr 1; omega
  calc a * 2 ^ (K - 30) * (b * 2 ^ (K - 30)) = a * b * (2 ^ (K - 30) * 2 ^ (K - 30)) := by grind
    _ = _ := by rw [e, ← Nat.mul_assoc]
omit S in
theorem vT_eq : vA K a + vA K b = vT K a b := by unfold vA vT; rw [Nat.add_mul]
theorem vM_eq : vT K a b = 2 * vM K a b := by
  have := S.k1
  unfold vT vM
  rw [show K - 30 = (K - 31) + 1 by omega, Nat.pow_succ]; grind
theorem vN_eq : vC K a a + vC K b b = 2 * vN K a b := by
  have := S.k1
  unfold vC vN
  rw [show K - 60 = (K - 61) + 1 by omega, Nat.pow_succ]; grind
theorem vN_eq2 : vA K a * vA K a + vA K b * vA K b = 2 * (vN K a b * 2 ^ K) := by
  rw [vC_eq S, vC_eq S, ← Nat.add_mul, vN_eq S, Nat.mul_assoc]
end
section
variable {K p a b : Nat} (S : Sc K p) (a0 : 0 < a) (b0 : 0 < b) (a1 : a ≤ 2 ^ 90) (b1 : b ≤ 2 ^ 90)
include S a0 b0 a1 b1
theorem v_bls : (K ≤ bl (vA K a) + 40 ∧ bl (vA K a) ≤ K + 200) ∧ (K ≤ bl (vC K a b) + 70 ∧ bl (vC K a b) ≤ K + 200) ∧ (K ≤ bl (vT K a b) + 40 ∧ bl (vT K a b) ≤ K + 200) ∧ (K ≤ bl (vM K a b) + 40 ∧ bl (vM K a b) ≤ K + 200) ∧ (K ≤ bl (vN K a b) + 70 ∧ bl (vN K a b) ≤ K + 200) ∧ bl (2 * vC K a b) ≤ K + 200 ∧ bl (vC K a a + vC K b b) ≤ K + 200 ∧ bl (vC K a a) ≤ K + 200 ∧ bl (vC K b b) ≤ K + 200 := by
  have h1 := S.k1
  have m : ∀ x y : Nat, x ≤ 2 ^ 90 → y ≤ 2 ^ 90 → x * y ≤ 2 ^ 180 := fun x y hx hy => by
    have := Nat.mul_le_mul hx hy
    rw [← Nat.pow_add] at this; exact this
  have p181 : (2 : Nat) ^ 181 = 2 * 2 ^ 180 := by decide
  have p91 : (2 : Nat) ^ 91 = 2 * 2 ^ 90 := by decide
  have hA := bl_scale (x := a) (n := 90) (k := K - 30) a0 a1
  have hC := bl_scale (x := a * b) (n := 180) (k := K - 60) (Nat.mul_pos a0 b0) (m a b a1 b1)
  have hCa := bl_scale (x := a * a) (n := 180) (k := K - 60) (Nat.mul_pos a0 a0) (m a a a1 a1)
  have hCb := bl_scale (x := b * b) (n := 180) (k := K - 60) (Nat.mul_pos b0 b0) (m b b b1 b1)
  have hT := bl_scale (x := a + b) (n := 91) (k := K - 30) (by omega) (by omega)
  have hM := bl_scale (x := a + b) (n := 91) (k := K - 31) (by omega) (by omega)
  have hN := bl_scale (x := a * a + b * b) (n := 181) (k := K - 61) (by have := Nat.mul_pos a0 a0; omega) (by have := m a a a1 a1; have := m b b b1 b1; omega)
  have h2C : 2 * vC K a b = a * b * 2 ^ (K - 60 + 1) := by unfold vC; rw [Nat.pow_succ]; grind
  have hC2 := bl_scale (x := a * b) (n := 180) (k := K - 60 + 1) (Nat.mul_pos a0 b0) (m a b a1 b1)
  have hs := bl_add (m := vC K a a) (n := vC K b b) (c := K + 121) (by unfold vC; omega) (by unfold vC; omega)
  rw [h2C]
  refine ⟨?_, ?_, ?_, ?_, ?_, ?_, ?_, ?_, ?_⟩ <;> simp only [vA, vC, vT, vM, vN] at * <;> omega
theorem v_grain : 2 ^ (K - 400) ∣ vC K a b ∧ 2 ^ (K - 400) ∣ 2 * vC K a b ∧ 2 ^ (K - 400) ∣ vN K a b := by
  have h1 := S.k1
  have g : ∀ j, K - 61 ≤ j → ∀ x, 2 ^ (K - 400) ∣ x * 2 ^ j := fun j hj x => Nat.dvd_trans (Nat.pow_dvd_pow 2 (by omega)) (Nat.dvd_mul_left _ _)
  exact ⟨g _ (by omega) _, Nat.dvd_trans (g _ (by omega) _) (Nat.dvd_mul_left _ _), g _ (by omega) _⟩
theorem v_pos : 0 < vA K a ∧ 0 < vA K b ∧ 0 < vC K a b ∧ 0 < vT K a b ∧ 0 < vM K a b ∧ 0 < vN K a b ∧ 0 < vC K a a ∧ 0 < vC K b b := by
  have t := fun j => Nat.two_pow_pos j
  have := Nat.mul_pos a0 b0
  have := Nat.mul_pos a0 a0
  have := Nat.mul_pos b0 b0
  simp only [vA, vC, vT, vM, vN]
  refine ⟨?_, ?_, ?_, ?_, ?_, ?_, ?_, ?_⟩ <;> refine Nat.mul_pos ?_ (t _) <;> omega
theorem v_big : 2 ^ (K - 29) ≤ str (2 * vC K a b * 2 ^ K) (vT K a b) ∧ 2 ^ (K - 29) ≤ sts (vC K a b * 2 ^ K) ∧ 2 ^ (K - 31) ≤ vM K a b ∧ 2 ^ (K - 29) ≤ sts (vN K a b * 2 ^ K) ∧
    str (2 * vC K a b * 2 ^ K) (vT K a b) ≤ sts (vC K a b * 2 ^ K) ∧ sts (vC K a b * 2 ^ K) ≤ 2 * vM K a b ∧ 2 * vM K a b ≤ sts (vN K a b * 2 ^ K) := by
  have h1 := S.k1
  obtain ⟨pA, pB, pC, pT, pM, pN, _, _⟩ := v_pos S a0 b0 a1 b1
  have hA : 2 ^ (K - 30) ≤ vA K a := Nat.le_mul_of_pos_left _ a0
  have hB : 2 ^ (K - 30) ≤ vA K b := Nat.le_mul_of_pos_left _ b0
  have e2 : 2 ^ (K - 29) = 2 * 2 ^ (K - 30) := by rw [show K - 29 = (K - 30) + 1 by omega, Nat.pow_succ, Nat.mul_comm]
  have eC : vC K a b * 2 ^ K = vA K a * vA K b := (vC_eq S).symm
  have e2C : 2 * vC K a b * 2 ^ K = 2 * (vA K a * vA K b) := by rw [Nat.mul_assoc, eC]
  have eT : vT K a b = vA K a + vA K b := vT_eq.symm
  have eM : vA K a + vA K b = 2 * vM K a b := by rw [vT_eq, vM_eq S]
  have eN := vN_eq2 (a := a) (b := b) S
  have s1 : str (2 * vC K a b * 2 ^ K) (vT K a b) ≤ sts (vC K a b * 2 ^ K) := by rw [e2C, eC, eT]; exact har_le_geo (by omega)
  have s2 : sts (vC K a b * 2 ^ K) ≤ 2 * vM K a b := by rw [eC]; exact geo_le_ari eM
  have s3 : 2 * vM K a b ≤ sts (vN K a b * 2 ^ K) := ari_le_qua eM eN
  have s0 : 2 ^ (K - 29) ≤ str (2 * vC K a b * 2 ^ K) (vT K a b) := by
    rw [e2, ← str_exact (2 ^ (K - 30)) pT]
    refine str_mono pT pT (Nat.mul_le_mul_right _ ?_)
    rw [e2C, eT]
    generalize 2 ^ (K - 30) = u at *
    generalize vA K a = x at *
    generalize vA K b = y at *
    have z1 := Nat.mul_le_mul_right y hA
    have z2 := Nat.mul_le_mul_left x hB
    have z3 : u * (x + y) = x * u + u * y := by grind
    omega
  exact ⟨s0, by omega, by unfold vM; exact Nat.le_mul_of_pos_left _ (by omega), by omega, s1, s2, s3⟩
end
def mH (r : Rm) (p K a b : Nat) : Nat := R r p (str (2 * vC K a b * 2 ^ K) (vT K a b)) / 2
def mG (r : Rm) (p K a b : Nat) : Nat := R r p (sts (vC K a b * 2 ^ K)) / 2
def mA (r : Rm) (p K a b : Nat) : Nat := R r p (vM K a b)
def mQ (r : Rm) (p K a b : Nat) : Nat := R r p (sts (vN K a b * 2 ^ K)) / 2
section
variable {K p a b : Nat} (r : Rm) (S : Sc K p) (a0 : 0 < a) (b0 : 0 < b) (a1 : a ≤ 2 ^ 90) (b1 : b ≤ 2 ^ 90)
include S a0 b0 a1 b1
theorem m_facts : 2 * mH r p K a b = R r p (str (2 * vC K a b * 2 ^ K) (vT K a b)) ∧ 2 * mG r p K a b = R r p (sts (vC K a b * 2 ^ K)) ∧ 2 * mQ r p K a b = R r p (sts (vN K a b * 2 ^ K)) ∧
    0 < mH r p K a b ∧ mH r p K a b ≤ mG r p K a b ∧ mG r p K a b ≤ mA r p K a b ∧ mA r p K a b ≤ mQ r p K a b ∧ bl (mQ r p K a b) ≤ 4000 := by
  have h1 := S.k1
  have h2 := S.k2
  have hp1 := S.p1
  have hp2 := S.p2
  obtain ⟨b1', b2, b3, b4, s1, s2, s3⟩ := v_big S a0 b0 a1 b1
  have l1 := lt_bl b1'
  have l2 := lt_bl b2
  have l4 := lt_bl b4
  have pM : 0 < vM K a b := Nat.lt_of_lt_of_le (Nat.two_pow_pos _) b3
  have e1 := even_R (r := r) (p := p) (by omega) (by omega : p < bl (str (2 * vC K a b * 2 ^ K) (vT K a b)))
  have e2 := even_R (r := r) (p := p) (by omega) (by omega : p < bl (sts (vC K a b * 2 ^ K)))
  have e4 := even_R (r := r) (p := p) (by omega) (by omega : p < bl (sts (vN K a b * 2 ^ K)))
  have e3 : R r p (2 * vM K a b) = 2 * R r p (vM K a b) := by
    have := R_scale r pM 1 (p := p) (by omega)
    rw [Nat.pow_one] at this
    rw [Nat.mul_comm, this, Nat.mul_comm]
  have m1 := R_mono r (p := p) (by omega) s1
  have m2 := R_mono r (p := p) (by omega) s2
  have m3 := R_mono r (p := p) (by omega) s3
  have lo := R_lo r (p := p) (by omega) (Nat.lt_of_lt_of_le (Nat.two_pow_pos _) b1')
  have lo2 : 2 ≤ 2 ^ (bl (str (2 * vC K a b * 2 ^ K) (vT K a b)) - 1) := by
    have := pow_le_of (a := 1) (b := bl (str (2 * vC K a b * 2 ^ K) (vT K a b)) - 1) (by omega)
    exact this
  have hi := R_hi r (p := p) (A := sts (vN K a b * 2 ^ K)) (by omega)
  have hb : bl (sts (vN K a b * 2 ^ K)) ≤ K + 500 := by
    obtain ⟨_, _, _, _, ⟨_, bN⟩, _⟩ := v_bls S a0 b0 a1 b1
    obtain ⟨_, _, _, _, _, pN, _⟩ := v_pos S a0 b0 a1 b1
    have z : vN K a b * 2 ^ K ≤ 2 ^ (K + 100) * 2 ^ (K + 100) := by
      refine Nat.le_trans (Nat.mul_le_mul_right _ (Nat.le_of_lt (bl_hi _))) ?_
      rw [← Nat.pow_add, ← Nat.pow_add]; exact pow_le_of (by omega)
    have := bl_mono (sts_le z)
    have q : bl (2 * 2 ^ (K + 100)) = K + 102 := by
      have : 2 * 2 ^ (K + 100) = 2 ^ (K + 101) := by rw [Nat.pow_succ 2 (K + 100), Nat.mul_comm]
      rw [this, bl_pow]
    omega
  have hbQ : bl (mQ r p K a b) ≤ 4000 := by
    have z := bl_mono hi
    rw [bl_pow] at z
    have := bl_mono (a := mQ r p K a b) (b := R r p (sts (vN K a b * 2 ^ K))) (by unfold mQ; omega)
    omega
  refine ⟨e1, e2, e4, ?_, ?_, ?_, ?_, hbQ⟩ <;> simp only [mH, mG, mA, mQ] at * <;> omega
end
theorem m_same (r : Rm) {K p a : Nat} (S : Sc K p) (a0 : 0 < a) (a1 : a ≤ 2 ^ 90) : mH r p K a a = R r p (vA K a) ∧ mG r p K a a = R r p (vA K a) ∧ mA r p K a a = R r p (vA K a) ∧ mQ r p K a a = R r p (vA K a) := by
  have hp1 := S.p1
  obtain ⟨pA, _, _, pT, _, _, _, _⟩ := v_pos S a0 a0 a1 a1
  have eC : vC K a a * 2 ^ K = vA K a * vA K a := (vC_eq S).symm
  have eT : vT K a a = 2 * vA K a := by rw [← vT_eq]; omega
  have eM : vM K a a = vA K a := by have := vM_eq (a := a) (b := a) S; omega
  have eN : vN K a a * 2 ^ K = vA K a * vA K a := by have := vN_eq2 (a := a) (b := a) S; omega
  have e3 : R r p (2 * vA K a) = 2 * R r p (vA K a) := by
    have := R_scale r pA 1 (p := p) (by omega)
    rw [Nat.pow_one] at this
    rw [Nat.mul_comm, this, Nat.mul_comm]
  have q : R r p (2 * vA K a) / 2 = R r p (vA K a) := by omega
  have s : str (2 * vC K a a * 2 ^ K) (vT K a a) = 2 * vA K a := by
    rw [Nat.mul_assoc, eC, eT, show 2 * (vA K a * vA K a) = vA K a * (2 * vA K a) by grind, str_exact _ (by omega)]
  refine ⟨?_, ?_, ?_, ?_⟩
  · unfold mH; rw [s, q]
  · unfold mG; rw [eC, sts_sq, q]
  · unfold mA; rw [eM]
  · unfold mQ; rw [eN, sts_sq, q]
end Mine
end
-- part APx
section
open PySem PySem.W PyProof.Rows
set_option maxRecDepth 100000
set_option linter.unusedSimpArgs false
set_option maxHeartbeats 1000000
namespace Mine
def obody : S := match blaw_order_right.body with
  | .cons _ (.cons _ (.cons (.forr _ _ b) _)) => b
  | _ => .nil
theorem fO_n : flatO none = true := rfl
theorem fO_s (d : PyData) : flatO (some d) = flat1 d := rfl
theorem f_i (i : Int) : flat1 (.int i) = true := rfl
theorem f_b (i : Bool) : flat1 (.bool i) = true := rfl
theorem f_s (i : Str) : flat1 (.str i) = true := rfl
theorem w_obody {C : Cf} {na nb nP nT nS n2P nH nG nM nAm nN nQ : PyData} {p : Int} {rnd : Str} {eb : Bool} {x13 : Option PyData}
    (f1 : flat1 na = true) (f2 : flat1 nb = true) (f3 : flat1 nP = true) (f4 : flat1 nT = true) (f5 : flat1 nS = true) (f6 : flat1 nH = true) (f7 : flat1 nG = true) (f8 : flat1 nAm = true) (f9 : flat1 nQ = true)
    (c1 : C 16 [nP, .int 1] = some n2P) (c2 : C 17 [n2P, nT, .int p, .str rnd] = some nH) (c3 : C 18 [nP, .int p, .str rnd] = some nG) (c4 : C 16 [nT, .int (-1)] = some nM) (c5 : C 9 [nM, .int p, .str rnd] = some nAm)
    (c6 : C 16 [nS, .int (-1)] = some nN) (c7 : C 18 [nN, .int p, .str rnd] = some nQ) (d1 : C 8 [nH, nG] = some (.bool true)) (d2 : C 8 [nG, nAm] = some (.bool true)) (d3 : C 8 [nAm, nQ] = some (.bool true))
    (e1 : COp.run .eq na nb = some eb) (e2 : eb = true → ∃ nX, C 9 [na, .int p, .str rnd] = some nX ∧ COp.run .ne (.list [nH, nG, nAm, nQ]) (.list [nX, nX, nX, nX]) = some false) :
    runS gs sd C 1000 obody [some na, some nb, some (.int p), some nP, some nT, some nS, some (.str rnd), none, none, none, none, none, none, x13]
      = some (.next [some na, some nb, some (.int p), some nP, some nT, some nS, some (.str rnd), none, none, none, none, none, none, some (.list [nH, nG, nAm, nQ])]) := by
  have q1 : decide ((0 : Int) < 2 ^ 63) = true := by decide
  have q2 : decide ((1 : Int) < 2 ^ 63) = true := by decide
  have q3 : decide ((2 : Int) < 2 ^ 63) = true := by decide
  have q4 : decide ((3 : Int) < 2 ^ 63) = true := by decide
  have z1 : (0 : Int) + 1 = 1 := by decide
  have z2 : (1 : Int) + 1 = 2 := by decide
  have z3 : (2 : Int) + 1 = 3 := by decide
  have y0 : Int.toNat 0 = 0 := rfl
  have y2 : Int.toNat 2 = 2 := rfl
  have y3 : Int.toNat 3 = 3 := rfl
  have w2 : decide ((0 : Int) ≤ 2) = true := rfl
  have w3 : decide ((0 : Int) ≤ 3) = true := rfl
  have r2 : decide (2 < 1000) = true := rfl
  have r4 : decide (4 < 100) = true := rfl
  have rp : ∀ x : PyData, List.replicate 4 x = [x, x, x, x] := fun _ => rfl
  have m1 : (-(1 : Int)) = -1 := rfl
  cases eb
  · simp -implicitDefEqProofs only [obody, blaw_order_right, f1, f2, f3, f4, f5, f6, f7, f8, f9, fO_n, fO_s, f_i, f_b, f_s, List.all_cons, List.all_nil, c1, c2, c3, c4, c5, c6, c7, d1, d2, d3, e1, it_3, seqM, boolsOf, id, q1, q2, q3, q4, z1, z2, z3, y0, y2, y3, w2, w3, r2, d00, Bool.and_self, runS, run, BOp.run, IOp.b, eqI, neI, ltI, leI, gtI, geI, truth, start, sets, List.map_cons, List.map_nil, List.length_cons, List.length_nil, Nat.reduceAdd, Nat.reduceSub, List.replicate_succ, List.replicate_zero, List.cons_append, List.nil_append, List.append_nil, List.reverse_cons, List.reverse_nil, List.getElem?_cons_zero, List.getElem?_cons_succ, Option.join_some, Option.map_some, Option.bind_some, List.set_cons_zero, List.set_cons_succ, Bool.not_true, Bool.not_false, Bool.and_true, Bool.true_and, Bool.and_false, Bool.false_and, beq_self_eq_true, guardO, Nat.reduceLT, decide_true, d01, t1, nz1, Nat.reducePow, z0, i2n, g0, g1, g2, g3, g4, g5, g6]
  · obtain ⟨nX, g1, g2⟩ := e2 rfl
    simp -implicitDefEqProofs only [obody, blaw_order_right, f1, f2, f3, f4, f5, f6, f7, f8, f9, fO_n, fO_s, f_i, f_b, f_s, List.all_cons, List.all_nil, c1, c2, c3, c4, c5, c6, c7, d1, d2, d3, e1, g1, g2, it_3, seqM, boolsOf, id, q1, q2, q3, q4, z1, z2, z3, y0, y2, y3, w2, w3, r2, r4, rp, d00, Bool.and_self, runS, run, BOp.run, IOp.b, eqI, neI, ltI, leI, gtI, geI, truth, start, sets, List.map_cons, List.map_nil, List.length_cons, List.length_nil, Nat.reduceAdd, Nat.reduceSub, List.replicate_succ, List.replicate_zero, List.cons_append, List.nil_append, List.append_nil, List.reverse_cons, List.reverse_nil, List.getElem?_cons_zero, List.getElem?_cons_succ, Option.join_some, Option.map_some, Option.bind_some, List.set_cons_zero, List.set_cons_succ, Bool.not_true, Bool.not_false, Bool.and_true, Bool.true_and, Bool.and_false, Bool.false_and, beq_self_eq_true, guardO, Nat.reduceLT, decide_true, d01, t1, nz1, Nat.reducePow, z0, i2n, g0, g1, g2, g3, g4, g5, g6]
end Mine
end
-- part APy
section
open PySem PySem.W PyProof.Rows
set_option maxRecDepth 100000
set_option linter.unusedSimpArgs false
set_option maxHeartbeats 1000000
namespace Mine
def otail : S := match blaw_order_right.body with
  | .cons _ (.cons _ (.cons _ t)) => t
  | _ => .nil
theorem w_otail {C : Cf} {na nb nP nT nS n2P nM nD nh nMM nL nHH dn up Dn Up lo hi lo2 hi2 : PyData} {p : Int} {x6 x13 : Option PyData}
    (f1 : flat1 Dn = true) (f2 : flat1 Up = true) (f3 : flat1 lo = true) (f4 : flat1 hi = true)
    (c1 : C 16 [nT, .int (-1)] = some nM) (c2 : C 14 [na, nb] = some nD) (c3 : C 16 [nD, .int (-1)] = some nh) (c4 : C 15 [nM, nM] = some nMM) (c5 : C 14 [nMM, nP] = some nL) (c6 : C 15 [nh, nh] = some nHH) (c7 : COp.run .ne nL nHH = some false)
    (c8 : C 16 [nP, .int 1] = some n2P) (c9 : C 17 [n2P, nT, .int p, .str (nm "d")] = some dn) (c10 : C 17 [n2P, nT, .int p, .str (nm "u")] = some up) (c11 : C 15 [dn, nT] = some Dn) (c12 : C 15 [up, nT] = some Up)
    (c13 : C 8 [Dn, n2P] = some (.bool true)) (c14 : C 8 [n2P, Up] = some (.bool true)) (c15 : C 18 [nP, .int p, .str (nm "d")] = some lo) (c16 : C 18 [nP, .int p, .str (nm "u")] = some hi)
    (c17 : C 15 [lo, lo] = some lo2) (c18 : C 15 [hi, hi] = some hi2) (c19 : C 8 [lo2, nP] = some (.bool true)) (c20 : C 8 [nP, hi2] = some (.bool true)) (c21 : C 22 [lo, hi, .int p] = some (.bool true)) :
    runS gs sd C 1000 otail [some na, some nb, some (.int p), some nP, some nT, some nS, x6, none, none, none, none, none, none, x13] = some (.ret (.bool true)) := by
  have r2 : decide (2 < 1000) = true := rfl
  simp -implicitDefEqProofs only [otail, blaw_order_right, f1, f2, f3, f4, List.all_cons, List.all_nil, c1, c2, c3, c4, c5, c6, c7, c8, c9, c10, c11, c12, c13, c14, c15, c16, c17, c18, c19, c20, c21, it_du, seqM, r2, Bool.and_self, runS, run, BOp.run, IOp.b, eqI, neI, ltI, leI, gtI, geI, truth, start, sets, List.map_cons, List.map_nil, List.length_cons, List.length_nil, Nat.reduceAdd, Nat.reduceSub, List.replicate_succ, List.replicate_zero, List.cons_append, List.nil_append, List.append_nil, List.reverse_cons, List.reverse_nil, List.getElem?_cons_zero, List.getElem?_cons_succ, Option.join_some, Option.map_some, Option.bind_some, List.set_cons_zero, List.set_cons_succ, Bool.not_true, Bool.not_false, Bool.and_true, Bool.true_and, Bool.and_false, Bool.false_and, beq_self_eq_true, guardO, Nat.reduceLT, decide_true, d01, t1, nz1, Nat.reducePow, z0, i2n, g0, g1, g2, g3, g4, g5, g6]
def os0 : S := match blaw_order_right.body with
  | .cons t _ => t
  | _ => .nil
def os1 : S := match blaw_order_right.body with
  | .cons _ (.cons t _) => t
  | _ => .nil
theorem w_ohead {C : Cf} {na nb nP nT nA2 nB2 nS : PyData} {p : Int} {r : Res} {tl : S}
    (c1 : C 15 [na, nb] = some nP) (c2 : C 13 [na, nb] = some nT) (c3 : C 15 [na, na] = some nA2) (c4 : C 15 [nb, nb] = some nB2) (c5 : C 13 [nA2, nB2] = some nS)
    (h : runS gs sd C 1000 tl [some na, some nb, some (.int p), some nP, some nT, some nS, none, none, none, none, none, none, none, none] = some r) :
    runS gs sd C 1000 (.cons os0 (.cons os1 tl)) [some na, some nb, some (.int p), none, none, none, none, none, none, none, none, none, none, none] = some r := by
  simp -implicitDefEqProofs only [os0, os1, blaw_order_right, c1, c2, c3, c4, c5, h, runS, run, BOp.run, IOp.b, eqI, neI, ltI, leI, gtI, geI, truth, start, sets, List.map_cons, List.map_nil, List.length_cons, List.length_nil, Nat.reduceAdd, Nat.reduceSub, List.replicate_succ, List.replicate_zero, List.cons_append, List.nil_append, List.append_nil, List.reverse_cons, List.reverse_nil, List.getElem?_cons_zero, List.getElem?_cons_succ, Option.join_some, Option.map_some, Option.bind_some, List.set_cons_zero, List.set_cons_succ, Bool.not_true, Bool.not_false, Bool.and_true, Bool.true_and, Bool.and_false, Bool.false_and, beq_self_eq_true, guardO, Nat.reduceLT, decide_true, d01, t1, nz1, Nat.reducePow, z0, i2n, g0, g1, g2, g3, g4, g5, g6]
theorem w_oloop {C : Cf} {na nb nP nT nS : PyData} {p : Int} {r : Res} {tl : S}
    (hb : ∀ rnd, (rnd = nm "n" ∨ rnd = nm "f" ∨ rnd = nm "c" ∨ rnd = nm "d" ∨ rnd = nm "u") → ∃ l, ∀ x13, runS gs sd C 1000 obody [some na, some nb, some (.int p), some nP, some nT, some nS, some (.str rnd), none, none, none, none, none, none, x13]
      = some (.next [some na, some nb, some (.int p), some nP, some nT, some nS, some (.str rnd), none, none, none, none, none, none, some l]))
    (h : ∀ x6 x13, runS gs sd C 1000 tl [some na, some nb, some (.int p), some nP, some nT, some nS, x6, none, none, none, none, none, none, x13] = some r) :
    runS gs sd C 1000 (.cons (.forr 6 (.chars (nm "nfcdu")) obody) tl) [some na, some nb, some (.int p), some nP, some nT, some nS, none, none, none, none, none, none, none, none] = some r := by
  obtain ⟨l1, h1⟩ := hb (nm "n") (.inl rfl)
  obtain ⟨l2, h2⟩ := hb (nm "f") (.inr (.inl rfl))
  obtain ⟨l3, h3⟩ := hb (nm "c") (.inr (.inr (.inl rfl)))
  obtain ⟨l4, h4⟩ := hb (nm "d") (.inr (.inr (.inr (.inl rfl))))
  obtain ⟨l5, h5⟩ := hb (nm "u") (.inr (.inr (.inr (.inr rfl))))
  generalize obody = ob at *
  simp -implicitDefEqProofs only [forL, it_n, h1, h2, h3, h4, h5, h, runS, run, BOp.run, IOp.b, eqI, neI, ltI, leI, gtI, geI, truth, start, sets, List.map_cons, List.map_nil, List.length_cons, List.length_nil, Nat.reduceAdd, Nat.reduceSub, List.replicate_succ, List.replicate_zero, List.cons_append, List.nil_append, List.append_nil, List.reverse_cons, List.reverse_nil, List.getElem?_cons_zero, List.getElem?_cons_succ, Option.join_some, Option.map_some, Option.bind_some, List.set_cons_zero, List.set_cons_succ, Bool.not_true, Bool.not_false, Bool.and_true, Bool.true_and, Bool.and_false, Bool.false_and, beq_self_eq_true, guardO, Nat.reduceLT, decide_true, d01, t1, nz1, Nat.reducePow, z0, i2n, g0, g1, g2, g3, g4, g5, g6]
end Mine
end
-- part APz
section
open PySem PySem.W PyProof.Rows
set_option maxRecDepth 100000
set_option linter.unusedSimpArgs false
set_option maxHeartbeats 1000000
namespace Mine
theorem rnd_all {rnd : Str} (h : rnd = nm "n" ∨ rnd = nm "f" ∨ rnd = nm "c" ∨ rnd = nm "d" ∨ rnd = nm "u") : ∃ md bn, RnOk rnd 0 md ∧ COp.run .isin (.str rnd) (.str (nm "fd")) = some bn ∧ (bn = true → md = .d) := by
  rcases h with rfl | rfl | rfl | rfl | rfl
  · exact ⟨_, _, rn_n, in_n, fun h => by cases h⟩
  · exact ⟨_, _, rn_f, in_f, fun _ => rfl⟩
  · exact ⟨_, _, rn_c, in_c, fun h => by cases h⟩
  · exact ⟨_, _, rn_d, in_d, fun _ => rfl⟩
  · exact ⟨_, _, rn_u, in_u, fun h => by cases h⟩
section
variable {K p a b : Nat} (S : Sc K p) (a0 : 0 < a) (b0 : 0 < b) (a1 : a ≤ 2 ^ 90) (b1 : b ≤ 2 ^ 90) (d : Nat)
include S a0 b0 a1 b1
theorem o_rnd {rnd : Str} {md : Rm} {bn : Bool} (hr : RnOk rnd 0 md) (hi : COp.run .isin (.str rnd) (.str (nm "fd")) = some bn) (hbn : bn = true → md = .d) :
    cf (d + 8) 16 [num K (vC K a b), .int 1] = some (num K (2 * vC K a b)) ∧ cf (d + 8) 17 [num K (2 * vC K a b), num K (vT K a b), .int p, .str rnd] = some (num K (mH md p K a b)) ∧
    cf (d + 8) 18 [num K (vC K a b), .int p, .str rnd] = some (num K (mG md p K a b)) := by
  have h1 := S.k1
  have h2 := S.k2
  have h3 := S.p1
  have h4 := S.p2
  obtain ⟨⟨bA, bA'⟩, ⟨bC, bC'⟩, ⟨bT, bT'⟩, ⟨bM, bM'⟩, ⟨bN, bN'⟩, b2C, bS, bAA, bBB⟩ := v_bls S a0 b0 a1 b1
  obtain ⟨gC, g2C, gN⟩ := v_grain S a0 b0 a1 b1
  obtain ⟨pA, pB, pC, pT, pM, pN, pAA, pBB⟩ := v_pos S a0 b0 a1 b1
  obtain ⟨f1, f2, f3, f4, f5, f6, f7, f8⟩ := m_facts md S a0 b0 a1 b1
  have b2C' := bl_mono (a := vC K a b) (b := 2 * vC K a b) (by omega)
  refine ⟨c_shift (d + 7) ⟨1, .inl ⟨rfl, by rw [Nat.pow_one]; omega⟩⟩, ?_, ?_⟩
  · exact c_div (d + 4) hr h1 h2 (by omega) (by omega) (by omega) pT g2C (by omega) (by omega) (by omega) f1
  · exact c_sqrt (d + 1) hr hi hbn h1 h2 S.k3 (by omega) (by omega) pC gC (by omega) f2
theorem o_body {rnd : Str} (h : rnd = nm "n" ∨ rnd = nm "f" ∨ rnd = nm "c" ∨ rnd = nm "d" ∨ rnd = nm "u") : ∃ l, ∀ x13, runS gs sd (cf (d + 8)) 1000 obody [some (num K (vA K a)), some (num K (vA K b)), some (.int p), some (num K (vC K a b)), some (num K (vT K a b)), some (num K (vC K a a + vC K b b)), some (.str rnd), none, none, none, none, none, none, x13]
      = some (.next [some (num K (vA K a)), some (num K (vA K b)), some (.int p), some (num K (vC K a b)), some (num K (vT K a b)), some (num K (vC K a a + vC K b b)), some (.str rnd), none, none, none, none, none, none, some l]) := by
  obtain ⟨md, bn, hr, hi, hbn⟩ := rnd_all h
  have h1 := S.k1
  have h2 := S.k2
  have h3 := S.p1
  have h4 := S.p2
  obtain ⟨⟨bA, bA'⟩, ⟨bC, bC'⟩, ⟨bT, bT'⟩, ⟨bM, bM'⟩, ⟨bN, bN'⟩, b2C, bS, bAA, bBB⟩ := v_bls S a0 b0 a1 b1
  obtain ⟨gC, g2C, gN⟩ := v_grain S a0 b0 a1 b1
  obtain ⟨pA, pB, pC, pT, pM, pN, pAA, pBB⟩ := v_pos S a0 b0 a1 b1
  obtain ⟨f1, f2, f3, f4, f5, f6, f7, f8⟩ := m_facts md S a0 b0 a1 b1
  obtain ⟨c1, c2, c3⟩ := o_rnd S a0 b0 a1 b1 d hr hi hbn
  have l3 := bl_mono f7
  have l2 := bl_mono f6
  have l1 := bl_mono f5
  refine ⟨_, fun x13 => w_obody (flat_num _ _) (flat_num _ _) (flat_num _ _) (flat_num _ _) (flat_num _ _) (flat_num _ _) (flat_num _ _) (flat_num K (mA md p K a b)) (flat_num _ _) c1 c2 c3
    (c_shift (d + 7) (W := vM K a b) ⟨1, .inr ⟨rfl, by rw [Nat.pow_one, vM_eq S]; omega⟩⟩) (c_pos (d + 4) hr pM (by omega) (by omega)) (c_shift (d + 7) (W := vN K a b) ⟨1, .inr ⟨rfl, by rw [Nat.pow_one, vN_eq S]; omega⟩⟩)
    (c_sqrt (d + 1) hr hi hbn h1 h2 S.k3 (by omega) (by omega) pN gN (by omega) f3) ?_ ?_ ?_ (eqNum pA pB) ?_⟩
  · have := c_le (d + 1) (K := K) (A := mH md p K a b) (B := mG md p K a b) (by omega) (by omega) (by omega)
    rw [decide_eq_true f5] at this; exact this
  · have := c_le (d + 1) (K := K) (A := mG md p K a b) (B := mA md p K a b) (by omega) (by omega) (by omega)
    rw [decide_eq_true f6] at this; exact this
  · have := c_le (d + 1) (K := K) (A := mA md p K a b) (B := mQ md p K a b) (by omega) (by omega) (by omega)
    rw [decide_eq_true f7] at this; exact this
  · intro e
    have e := of_decide_eq_true e
    have hab : a = b := Nat.eq_of_mul_eq_mul_right (Nat.two_pow_pos _) e
    subst hab
    obtain ⟨s1, s2, s3, s4⟩ := m_same md S a0 a1
    have s3' : R md p (vM K a a) = R md p (vA K a) := s3
    rw [s1, s2, s3, s4]
    exact ⟨_, c_pos (d + 4) hr pA (by omega) (by omega), neNum4 K _⟩
end
end Mine
end
-- part AQa
section
open PySem PySem.W PyProof.Rows
set_option maxRecDepth 100000
set_option linter.unusedSimpArgs false
set_option maxHeartbeats 1000000
namespace Mine
def vMM (K a b : Nat) : Nat := (a + b) * (a + b) * 2 ^ (K - 62)
def vZ (K x : Nat) : Nat := x * x * 2 ^ (K - 62)
theorem sq_mul {K x : Nat} (h : 1000 ≤ K) : (x * 2 ^ (K - 31)) * (x * 2 ^ (K - 31)) = x * x * 2 ^ (K - 62) * 2 ^ K := by
  have e : 2 ^ (K - 31) * 2 ^ (K - 31) = 2 ^ (K - 62) * 2 ^ K := by rw [← Nat.pow_add, ← Nat.pow_add]; congr 1; omega
  calc x * 2 ^ (K - 31) * (x * 2 ^ (K - 31)) = x * x * (2 ^ (K - 31) * 2 ^ (K - 31)) := by grind
    _ = _ := by rw [e, ← Nat.mul_assoc]
theorem dbl {K x : Nat} (h : 1000 ≤ K) : x * 2 ^ (K - 30) = x * 2 ^ (K - 31) * 2 := by
  rw [show K - 30 = (K - 31) + 1 by omega, Nat.pow_succ, Nat.mul_assoc]
section
variable {K p a b : Nat} (S : Sc K p) (a0 : 0 < a) (b0 : 0 < b) (a1 : a ≤ 2 ^ 90) (b1 : b ≤ 2 ^ 90) (d : Nat)
include S a0 b0 a1 b1
theorem o_half : ∃ nD nh, ∃ x : Nat, cf (d + 8) 14 [num K (vA K a), num K (vA K b)] = some nD ∧ cf (d + 8) 16 [nD, .int (-1)] = some nh ∧ cf (d + 8) 15 [nh, nh] = some (num K (vZ K x)) ∧ (a + b) * (a + b) = 4 * (a * b) + x * x := by
  have h1 := S.k1
  have h2 := S.k2
  obtain ⟨⟨bA, bA'⟩, ⟨bC, bC'⟩, ⟨bT, bT'⟩, ⟨bM, bM'⟩, ⟨bN, bN'⟩, b2C, bS, bAA, bBB⟩ := v_bls S a0 b0 a1 b1
  obtain ⟨⟨bB, bB'⟩, _⟩ := v_bls S b0 a0 b1 a1
  obtain ⟨pA, pB, pC, pT, pM, pN, pAA, pBB⟩ := v_pos S a0 b0 a1 b1
  have hs := c_sub2 (d + 3) (K := K) pA pB (by omega) (by omega)
  have hx : ∀ x : Nat, x ≤ 2 ^ 90 → 0 < x → bl (x * 2 ^ (K - 31)) ≤ 10000 := fun x hx h0 => by
    have := (bl_scale (k := K - 31) h0 hx).2; omega
  by_cases c : b ≤ a
  · have hle : vA K b ≤ vA K a := Nat.mul_le_mul_right _ c
    rw [if_pos hle] at hs
    have e : vA K a - vA K b = (a - b) * 2 ^ (K - 31) * 2 := by
      unfold vA; rw [← Nat.sub_mul, dbl h1]
    refine ⟨_, num K ((a - b) * 2 ^ (K - 31)), a - b, hs, c_shift (d + 7) ⟨1, .inr ⟨rfl, by rw [e, Nat.pow_one]⟩⟩, ?_, ?_⟩
    · rcases Nat.eq_zero_or_pos (a - b) with z | z
      · rw [z, Nat.zero_mul]
        unfold vZ
        rw [show 0 * 0 * 2 ^ (K - 62) = 0 by simp]
        exact c_mulZ (d + 7)
      · exact c_mul (d + 7) (Nat.mul_pos z (Nat.two_pow_pos _)) (Nat.mul_pos z (Nat.two_pow_pos _)) (hx _ (by omega) z) (hx _ (by omega) z) (sq_mul h1)
    · obtain ⟨x, rfl⟩ := Nat.exists_eq_add_of_le c
      rw [Nat.add_sub_cancel_left]; grind
  · have hlt : ¬ vA K b ≤ vA K a := by
      have := Nat.mul_lt_mul_of_pos_right (by omega : a < b) (Nat.two_pow_pos (K - 30))
      unfold vA; omega
    rw [if_neg hlt] at hs
    have e : vA K b - vA K a = (b - a) * 2 ^ (K - 31) * 2 := by
      unfold vA; rw [← Nat.sub_mul, dbl h1]
    have z : 0 < b - a := by omega
    refine ⟨_, numN K ((b - a) * 2 ^ (K - 31)), b - a, hs, c_shiftN (d + 7) (Nat.mul_pos z (Nat.two_pow_pos _)) e, c_mulN (d + 7) (Nat.mul_pos z (Nat.two_pow_pos _)) (hx _ (by omega) z) (sq_mul h1), ?_⟩
    obtain ⟨x, rfl⟩ := Nat.exists_eq_add_of_le (by omega : a ≤ b)
    rw [Nat.add_sub_cancel_left]; grind
theorem vZ_sub {x : Nat} (h : (a + b) * (a + b) = 4 * (a * b) + x * x) : vC K a b ≤ vMM K a b ∧ vMM K a b - vC K a b = vZ K x := by
  have h1 := S.k1
  have e : vMM K a b = vC K a b + vZ K x := by
    unfold vMM vC vZ
    rw [h, show K - 60 = (K - 62) + 2 by omega, Nat.pow_add]; grind
  omega
/-- the products of the bounds -/
theorem o_grain {W : Nat} (r : Rm) (hW : 2 ^ (K - 29) ≤ W) : 2 ^ (K - 200) ∣ R r p W / 2 := by
  have h1 := S.k1
  have h3 := S.p1
  have h4 := S.p2
  have hb := lt_bl hW
  obtain ⟨q, hq, _⟩ := R_form r (by omega) (by omega : p < bl W)
  rw [hq, show bl W - p = (bl W - p - 1) + 1 by omega, Nat.pow_succ, ← Nat.mul_assoc, Nat.mul_div_cancel _ (by decide)]
  exact Nat.dvd_trans (Nat.pow_dvd_pow 2 (by omega)) (Nat.dvd_mul_left _ _)
end
theorem div_of {K i j x y : Nat} (h : K ≤ i + j) (hx : 2 ^ i ∣ x) (hy : 2 ^ j ∣ y) : ∃ z, x * y = z * 2 ^ K := by
  have := Nat.mul_dvd_mul hx hy
  rw [← Nat.pow_add] at this
  obtain ⟨z, hz⟩ := Nat.dvd_trans (Nat.pow_dvd_pow 2 h) this
  exact ⟨z, by rw [hz, Nat.mul_comm]⟩
end Mine
end
-- part AQb
section
open PySem PySem.W PyProof.Rows
set_option maxRecDepth 100000
set_option linter.unusedSimpArgs false
set_option linter.unusedSectionVars false
set_option maxHeartbeats 1000000
namespace Mine
theorem small {x y z K c : Nat} (h : x * y = z * 2 ^ K) (hx : bl x ≤ c) (hy : bl y ≤ c) : bl z ≤ c + c := by
  refine bl_le (Nat.lt_of_le_of_lt (Nat.le_mul_of_pos_right z (Nat.two_pow_pos K)) ?_)
  rw [← h, Nat.pow_add]
  exact Nat.mul_lt_mul'' (Nat.lt_of_lt_of_le (bl_hi x) (pow_le_of hx)) (Nat.lt_of_lt_of_le (bl_hi y) (pow_le_of hy))
section
variable {K p a b : Nat} (S : Sc K p) (a0 : 0 < a) (b0 : 0 < b) (a1 : a ≤ 2 ^ 90) (b1 : b ≤ 2 ^ 90) (d : Nat)
include S a0 b0 a1 b1
theorem o_tail (x6 x13 : Option PyData) : runS gs sd (cf (d + 8)) 1000 otail [some (num K (vA K a)), some (num K (vA K b)), some (.int p), some (num K (vC K a b)), some (num K (vT K a b)), some (num K (vC K a a + vC K b b)), x6, none, none, none, none, none, none, x13] = some (.ret (.bool true)) := by
  have h1 := S.k1
  have h2 := S.k2
  have h3 := S.p1
  have h4 := S.p2
  obtain ⟨⟨bA, bA'⟩, ⟨bC, bC'⟩, ⟨bT, bT'⟩, ⟨bM, bM'⟩, ⟨bN, bN'⟩, b2C, bS, bAA, bBB⟩ := v_bls S a0 b0 a1 b1
  obtain ⟨pA, pB, pC, pT, pM, pN, pAA, pBB⟩ := v_pos S a0 b0 a1 b1
  obtain ⟨q1, q2, q3, q4, q5, q6, q7⟩ := v_big S a0 b0 a1 b1
  obtain ⟨nD, nh, x, g1, g2, g3, g4⟩ := o_half S a0 b0 a1 b1 d
  obtain ⟨z1, z2⟩ := vZ_sub S a0 b0 a1 b1 g4
  obtain ⟨c1, c2, c3⟩ := o_rnd S a0 b0 a1 b1 d rn_d in_d (fun _ => rfl)
  obtain ⟨_, c2', c3'⟩ := o_rnd S a0 b0 a1 b1 d rn_u in_u (fun h => by cases h)
  obtain ⟨f1, f2, _, f4, f5, f6, f7, f8⟩ := m_facts .d S a0 b0 a1 b1
  obtain ⟨f1', f2', _, f4', f5', f6', f7', f8'⟩ := m_facts .u S a0 b0 a1 b1
  have lG := bl_mono (Nat.le_trans f6 f7)
  have lG' := bl_mono (Nat.le_trans f6' f7')
  have lH := bl_mono f5
  have lH' := bl_mono f5'
  have pG : 0 < mG .d p K a b := by omega
  have pG' : 0 < mG .u p K a b := by omega
  have gT : 2 ^ (K - 30) ∣ vT K a b := Nat.dvd_mul_left _ _
  obtain ⟨Dn, hDn⟩ := div_of (K := K) (x := mH .d p K a b) (y := vT K a b) (i := K - 200) (j := K - 30) (by omega) (o_grain S a0 b0 a1 b1 .d q1) gT
  obtain ⟨Up, hUp⟩ := div_of (K := K) (x := mH .u p K a b) (y := vT K a b) (i := K - 200) (j := K - 30) (by omega) (o_grain S a0 b0 a1 b1 .u q1) gT
  obtain ⟨Lo, hLo⟩ := div_of (K := K) (x := mG .d p K a b) (y := mG .d p K a b) (i := K - 200) (j := K - 200) (by omega) (o_grain S a0 b0 a1 b1 .d q2) (o_grain S a0 b0 a1 b1 .d q2)
  obtain ⟨Hi, hHi⟩ := div_of (K := K) (x := mG .u p K a b) (y := mG .u p K a b) (i := K - 200) (j := K - 200) (by omega) (o_grain S a0 b0 a1 b1 .u q2) (o_grain S a0 b0 a1 b1 .u q2)
  have hK0 := Nat.two_pow_pos K
  -- the bounds
  have k1 : Dn ≤ 2 * vC K a b := by
    refine Nat.le_of_mul_le_mul_right (c := 2 ^ K) ?_ hK0
    rw [← hDn]
    exact str_dn (by rw [f1]; exact R_d_le)
  have k2 : 2 * vC K a b ≤ Up := by
    refine Nat.le_of_mul_le_mul_right (c := 2 ^ K) ?_ hK0
    rw [← hUp]
    exact str_up pT (by rw [f1']; exact R_u_ge)
  have k3 : Lo ≤ vC K a b := by
    refine Nat.le_of_mul_le_mul_right (c := 2 ^ K) ?_ hK0
    rw [← hLo]
    exact sts_dn (by rw [f2]; exact R_d_le)
  have k4 : vC K a b ≤ Hi := by
    refine Nat.le_of_mul_le_mul_right (c := 2 ^ K) ?_ hK0
    rw [← hHi]
    exact sts_up (by rw [f2']; exact R_u_ge)
  have k5 : Near p (mG .d p K a b) (mG .u p K a b) := by
    refine near_half ?_
    rw [f2, f2']
    exact near_round (by omega)
  have sml : ∀ {x y z : Nat}, x * y = z * 2 ^ K → bl x ≤ 4000 → bl y ≤ 4000 → bl z ≤ 10000 := fun h hx hy => by have := small h hx hy; omega
  have hMM : vM K a b * vM K a b = vMM K a b * 2 ^ K := sq_mul h1
  have hsub := c_sub2 (d + 3) (K := K) (A := vMM K a b) (B := vC K a b) (by omega) pC (sml hMM (by omega) (by omega)) (by omega)
  rw [if_pos z1, z2] at hsub
  have pDn : ∀ {x y z : Nat}, x * y = z * 2 ^ K → 0 < x → 0 < y → 0 < z := fun {x y z} h hx hy => by
    rcases Nat.eq_zero_or_pos z with e | e
    · have := Nat.mul_pos hx hy
      rw [h, e, Nat.zero_mul] at this; omega
    · exact e
  have le : ∀ {x y : Nat}, x ≤ y → 0 < y → bl x ≤ 10000 → bl y ≤ 10000 → cf (d + 8) 8 [num K x, num K y] = some (.bool true) := fun {x y} h h0 hx hy => by
    have := c_le (d + 1) (K := K) (A := x) (B := y) h0 hx hy
    rw [decide_eq_true h] at this; exact this
  exact w_otail (flat_num K Dn) (flat_num K Up) (flat_num K (mG .d p K a b)) (flat_num K (mG .u p K a b)) (c_shift (d + 7) (W := vM K a b) ⟨1, .inr ⟨rfl, by rw [Nat.pow_one, vM_eq S]; omega⟩⟩) g1 g2 (c_mul (d + 7) pM pM (by omega) (by omega) hMM) hsub g3 (neNum K _)
    c1 c2 c2' (c_mul (d + 7) f4 pT (by omega) (by omega) hDn) (c_mul (d + 7) f4' pT (by omega) (by omega) hUp)
    (le k1 (by omega) (sml hDn (by omega) (by omega)) (by omega)) (le k2 (pDn hUp f4' pT) (by omega) (sml hUp (by omega) (by omega)))
    c3 c3' (c_mul (d + 7) pG pG (by omega) (by omega) hLo) (c_mul (d + 7) pG' pG' (by omega) (by omega) hHi)
    (le k3 pC (sml hLo (by omega) (by omega)) (by omega)) (le k4 (pDn hHi pG' pG') (by omega) (sml hHi (by omega) (by omega))) (c_near d (by omega) pG (by omega) k5)
theorem c_order : cf (d + 9) 23 [num K (vA K a), num K (vA K b), .int p] = some (.bool true) := by
  have h1 := S.k1
  have h2 := S.k2
  obtain ⟨⟨bA, bA'⟩, ⟨bC, bC'⟩, ⟨bT, bT'⟩, ⟨bM, bM'⟩, ⟨bN, bN'⟩, b2C, bS, bAA, bBB⟩ := v_bls S a0 b0 a1 b1
  obtain ⟨⟨bB, bB'⟩, _⟩ := v_bls S b0 a0 b1 a1
  obtain ⟨pA, pB, pC, pT, pM, pN, pAA, pBB⟩ := v_pos S a0 b0 a1 b1
  refine cf_eq (fb := blaw_order_right) (B := .cons os0 (.cons os1 (.cons (.forr 6 (.chars (nm "nfcdu")) obody) otail))) (ρ := [_, _, _, _, _, _, _, _, _, _, _, _, _, _]) rfl rfl rfl rfl ?_
  have ht := c_add (d + 4) (K := K) pA pB (by omega) (by omega)
  rw [vT_eq] at ht
  exact w_ohead (c_mul (d + 7) pA pB (by omega) (by omega) (vC_eq S)) ht (c_mul (d + 7) pA pA (by omega) (by omega) (vC_eq S)) (c_mul (d + 7) pB pB (by omega) (by omega) (vC_eq S)) (c_add (d + 4) pAA pBB (by omega) (by omega))
    (w_oloop (fun rnd h => o_body S a0 b0 a1 b1 d h) (fun x6 x13 => o_tail S a0 b0 a1 b1 d x6 x13))
end
end Mine
end
-- part AQc
section
open PySem PySem.W PyProof.Rows
set_option maxRecDepth 100000
set_option linter.unusedSimpArgs false
set_option linter.unusedSectionVars false
set_option maxHeartbeats 1000000
namespace Mine
def mbody : S := match blaw_meeting_right.body with
  | .cons _ (.cons (.forr _ _ b) _) => b
  | _ => .nil
def mtail : S := match blaw_meeting_right.body with
  | .cons _ (.cons _ t) => t
  | _ => .nil
def mhead : S := match blaw_meeting_right.body with
  | .cons t _ => t
  | _ => .nil
theorem w_mbody {C : Cf} {na nb L H LH sL T M L' H' : PyData} {p : Int} {x5 x6 x7 : Option PyData}
    (c1 : C 15 [L, H] = some LH) (c2 : C 18 [LH, .int p, .str (nm "d")] = some L') (c3 : C 13 [L, H] = some T) (c4 : C 16 [T, .int (-1)] = some M) (c5 : C 9 [M, .int p, .str (nm "u")] = some H')
    (c6 : C 8 [L, L'] = some (.bool true)) (c7 : C 8 [L', H'] = some (.bool true)) (c8 : C 8 [H', H] = some (.bool true)) :
    runS gs sd C 1000 mbody [some na, some nb, some (.int p), some L, some H, x5, x6, x7] = some (.next [some na, some nb, some (.int p), some L', some H', x5, some L', some H']) := by
  simp -implicitDefEqProofs only [mbody, blaw_meeting_right, c1, c2, c3, c4, c5, c6, c7, c8, runS, run, BOp.run, IOp.b, eqI, neI, ltI, leI, gtI, geI, truth, start, sets, List.map_cons, List.map_nil, List.length_cons, List.length_nil, Nat.reduceAdd, Nat.reduceSub, List.replicate_succ, List.replicate_zero, List.cons_append, List.nil_append, List.append_nil, List.reverse_cons, List.reverse_nil, List.getElem?_cons_zero, List.getElem?_cons_succ, Option.join_some, Option.map_some, Option.bind_some, List.set_cons_zero, List.set_cons_succ, Bool.not_true, Bool.not_false, Bool.and_true, Bool.true_and, Bool.and_false, Bool.false_and, beq_self_eq_true, guardO, Nat.reduceLT, decide_true, d01, t1, nz1, Nat.reducePow, z0, i2n, g0, g1, g2, g3, g4, g5, g6]
theorem w_mhead {C : Cf} {na nb L H : PyData} {p : Int} {v : Bool} {x3 x4 x5 x6 x7 : Option PyData} (c1 : C 8 [na, nb] = some (.bool v)) (h : (v = true ∧ L = na ∧ H = nb) ∨ (v = false ∧ L = nb ∧ H = na)) :
    runS gs sd C 1000 mhead [some na, some nb, some (.int p), x3, x4, x5, x6, x7] = some (.next [some na, some nb, some (.int p), some L, some H, x5, x6, x7]) := by
  have r2 : decide (2 < 1000) = true := rfl
  rcases h with ⟨rfl, rfl, rfl⟩ | ⟨rfl, rfl, rfl⟩ <;> simp -implicitDefEqProofs only [mhead, blaw_meeting_right, c1, r2, runS, run, BOp.run, IOp.b, eqI, neI, ltI, leI, gtI, geI, truth, start, sets, List.map_cons, List.map_nil, List.length_cons, List.length_nil, Nat.reduceAdd, Nat.reduceSub, List.replicate_succ, List.replicate_zero, List.cons_append, List.nil_append, List.append_nil, List.reverse_cons, List.reverse_nil, List.getElem?_cons_zero, List.getElem?_cons_succ, Option.join_some, Option.map_some, Option.bind_some, List.set_cons_zero, List.set_cons_succ, Bool.not_true, Bool.not_false, Bool.and_true, Bool.true_and, Bool.and_false, Bool.false_and, beq_self_eq_true, guardO, Nat.reduceLT, decide_true, d01, t1, nz1, Nat.reducePow, z0, i2n, g0, g1, g2, g3, g4, g5, g6]
theorem w_mtail {C : Cf} {na nb L H : PyData} {p : Int} {x5 x6 x7 : Option PyData} (c1 : C 22 [L, H, .int p] = some (.bool true)) :
    runS gs sd C 1000 mtail [some na, some nb, some (.int p), some L, some H, x5, x6, x7] = some (.ret (.bool true)) := by
  simp -implicitDefEqProofs only [mtail, blaw_meeting_right, c1, runS, run, BOp.run, IOp.b, eqI, neI, ltI, leI, gtI, geI, truth, start, sets, List.map_cons, List.map_nil, List.length_cons, List.length_nil, Nat.reduceAdd, Nat.reduceSub, List.replicate_succ, List.replicate_zero, List.cons_append, List.nil_append, List.append_nil, List.reverse_cons, List.reverse_nil, List.getElem?_cons_zero, List.getElem?_cons_succ, Option.join_some, Option.map_some, Option.bind_some, List.set_cons_zero, List.set_cons_succ, Bool.not_true, Bool.not_false, Bool.and_true, Bool.true_and, Bool.and_false, Bool.false_and, beq_self_eq_true, guardO, Nat.reduceLT, decide_true, d01, t1, nz1, Nat.reducePow, z0, i2n, g0, g1, g2, g3, g4, g5, g6]
end Mine
end
-- part AQd
section
open PySem PySem.W PyProof.Rows
set_option maxRecDepth 100000
set_option linter.unusedSimpArgs false
set_option linter.unusedSectionVars false
set_option maxHeartbeats 1000000
namespace Mine
structure MK (K p : Nat) (s : Nat × Nat) : Prop where
  I : MInv p s
  lo : 2 ^ (K - 30) ≤ s.1
  hi : s.2 ≤ 2 ^ (K + 61)
theorem fp_grain {K p L : Nat} (hp : p ≤ 89) (hK : 1000 ≤ K) (f : Fp p L) (lo : 2 ^ (K - 30) ≤ L) : 2 ^ (K - 200) ∣ L := by
  have := lt_bl lo
  exact Nat.dvd_trans (Nat.pow_dvd_pow 2 (by omega)) f
section
variable {K p : Nat} {s : Nat × Nat} (S : Sc K p) (M : MK K p s) (d : Nat)
include S M
theorem MK.step : MK K p (mstep p s) := by
  have hp : PR p := ⟨S.p1, by have := S.p2; omega⟩
  obtain ⟨a, b, c⟩ := M.I.step hp
  exact ⟨a, Nat.le_trans M.lo b, Nat.le_trans c M.hi⟩
theorem m_body (na nb : PyData) (x5 x6 x7 : Option PyData) : runS gs sd (cf (d + 8)) 1000 mbody [some na, some nb, some (.int p), some (num K s.1), some (num K s.2), x5, x6, x7]
    = some (.next [some na, some nb, some (.int p), some (num K (mstep p s).1), some (num K (mstep p s).2), x5, some (num K (mstep p s).1), some (num K (mstep p s).2)]) := by
  have h1 := S.k1
  have h2 := S.k2
  have h3 := S.p1
  have h4 := S.p2
  have hp : PR p := ⟨S.p1, by omega⟩
  obtain ⟨i1, i2, i3, i4, i5, e1, e2⟩ := M.I.facts hp
  obtain ⟨J, j1, j2⟩ := M.I.step hp
  have lo := M.lo
  have hi := M.hi
  have hle := M.I.le
  have p1 : 0 < s.1 := Nat.lt_of_lt_of_le (Nat.two_pow_pos _) lo
  have p2 : 0 < s.2 := by omega
  have pL : 0 < (mstep p s).1 := by omega
  have pH : 0 < (mstep p s).2 := by have := J.le; omega
  have bH : bl s.2 ≤ K + 62 := by have := bl_mono hi; rw [bl_pow] at this; omega
  have bL := bl_mono hle
  have bl1 := lt_bl lo
  have bH' := bl_mono j2
  have bL' := bl_mono J.le
  have gL := fp_grain h4 h1 M.I.fL lo
  have gH := fp_grain h4 h1 M.I.fH (Nat.le_trans lo hle)
  obtain ⟨LH, hLH⟩ := div_of (K := K) (by omega) gL gH
  have pLH : 0 < LH := by
    rcases Nat.eq_zero_or_pos LH with e | e
    · have := Nat.mul_pos p1 p2
      rw [hLH, e, Nat.zero_mul] at this; omega
    · exact e
  have gLH : 2 ^ (K - 400) ∣ LH := by
    have := Nat.mul_dvd_mul gL gH
    rw [hLH, ← Nat.pow_add, show K - 200 + (K - 200) = (K - 400) + K by omega, Nat.pow_add] at this
    exact Nat.dvd_of_mul_dvd_mul_right (Nat.two_pow_pos K) this
  have bLH : bl LH ≤ K + 300 := by
    have z : LH * 2 ^ K ≤ 2 ^ (K + 61 + 61) * 2 ^ K := by
      rw [← hLH]
      refine Nat.le_trans (Nat.mul_le_mul (Nat.le_trans hle hi) hi) ?_
      rw [← Nat.pow_add, ← Nat.pow_add]; exact pow_le_of (by omega)
    have := bl_mono (Nat.le_of_mul_le_mul_right z (Nat.two_pow_pos K))
    rw [bl_pow] at this; omega
  obtain ⟨m, hm⟩ : ∃ m, s.1 + s.2 = 2 * m := ⟨(s.1 + s.2) / 2, by omega⟩
  have hH' : R .u p m = (mstep p s).2 := by
    rw [hm] at e2
    have := R_scale .u (p := p) (A := m) (by omega) 1 (by omega)
    rw [Nat.pow_one, Nat.mul_comm m] at this
    omega
  rw [hLH] at e1
  have bm : bl m ≤ K + 62 := by have := bl_mono (a := m) (b := s.2) (by omega); omega
  have hpos := c_pos (d + 4) (K := K) rn_u (V := m) (p := p) (by omega) (by omega) (by omega)
  rw [hH'] at hpos
  have hadd := c_add (d + 4) (K := K) p1 p2 (by omega) (by omega)
  have le : ∀ {x y : Nat}, x ≤ y → 0 < y → bl x ≤ 10000 → bl y ≤ 10000 → cf (d + 8) 8 [num K x, num K y] = some (.bool true) := fun {x y} h h0 hx hy => by
    have := c_le (d + 1) (K := K) (A := x) (B := y) h0 hx hy
    rw [decide_eq_true h] at this; exact this
  exact w_mbody (sL := .none) (c_mul (d + 7) p1 p2 (by omega) (by omega) hLH) (c_sqrt (d + 1) rn_d in_d (fun _ => rfl) h1 h2 S.k3 (by omega) (by omega) pLH gLH bLH e1) hadd
    (c_shift (d + 7) (W := m) ⟨1, .inr ⟨rfl, by rw [Nat.pow_one]; omega⟩⟩) hpos (le j1 pL (by omega) (by omega)) (le J.le pH (by omega) (by omega)) (le j2 p2 (by omega) (by omega))
end
end Mine
end
-- part AQe
section
open PySem PySem.W PyProof.Rows
set_option maxRecDepth 100000
set_option linter.unusedSimpArgs false
set_option linter.unusedSectionVars false
set_option maxHeartbeats 1000000
namespace Mine
theorem m_loop {K p : Nat} (S : Sc K p) (d : Nat) (na nb : PyData) : ∀ (ds : List PyData) (s : Nat × Nat) (x5 x6 x7 : Option PyData), MK K p s → MK K p (mIter p ds.length s) ∧ ∃ y5 y6 y7,
    forL (runS gs sd (cf (d + 8)) 1000 mbody) 5 ds [some na, some nb, some (.int p), some (num K s.1), some (num K s.2), x5, x6, x7]
      = some (.next [some na, some nb, some (.int p), some (num K (mIter p ds.length s).1), some (num K (mIter p ds.length s).2), y5, y6, y7])
  | [], s, x5, x6, x7, M => ⟨M, x5, x6, x7, rfl⟩
  | e :: ds, s, x5, x6, x7, M => by
    obtain ⟨h1, y5, y6, y7, h2⟩ := m_loop S d na nb ds (mstep p s) (some e) (some (num K (mstep p s).1)) (some (num K (mstep p s).2)) (M.step S)
    refine ⟨h1, y5, y6, y7, ?_⟩
    have h3 := m_body S M d na nb (some e) x6 x7
    unfold forL
    show (match runS gs sd (cf (d + 8)) 1000 mbody [some na, some nb, some (.int p), some (num K s.1), some (num K s.2), some e, x6, x7] with
      | some (.next ρ') => forL (runS gs sd (cf (d + 8)) 1000 mbody) 5 ds ρ'
      | x => x) = _
    rw [h3]
    exact h2
theorem c_meeting {K p a b : Nat} (S : Sc K p) (a0 : 0 < a) (b0 : 0 < b) (a1 : a ≤ 2 ^ 90) (b1 : b ≤ 2 ^ 90) (fa : Fp p (vA K a)) (fb : Fp p (vA K b)) (d : Nat) : cf (d + 9) 24 [num K (vA K a), num K (vA K b), .int p] = some (.bool true) := by
  have h1 := S.k1
  have h2 := S.k2
  obtain ⟨⟨bA, bA'⟩, _⟩ := v_bls S a0 b0 a1 b1
  obtain ⟨⟨bB, bB'⟩, _⟩ := v_bls S b0 a0 b1 a1
  have lo : ∀ x, 0 < x → 2 ^ (K - 30) ≤ vA K x := fun x h => Nat.le_mul_of_pos_left _ h
  have hi : ∀ x, x ≤ 2 ^ 90 → vA K x ≤ 2 ^ 90 * 2 ^ (K - 30) := fun x h => Nat.mul_le_mul_right _ h
  have e90 : 2 ^ 90 * 2 ^ (K - 30) = 2 ^ (K + 60) := by rw [← Nat.pow_add]; congr 1; omega
  have big : 2 ^ 120 ≤ 2 ^ (K - 30) := pow_le_of (by omega)
  have h61 : 2 ^ (K + 60) ≤ 2 ^ (K + 61) := pow_le_of (by omega)
  have hle := c_le (d + 1) (K := K) (A := vA K a) (B := vA K b) (Nat.lt_of_lt_of_le (Nat.two_pow_pos _) (lo b b0)) (by omega) (by omega)
  have go : ∀ s : Nat × Nat, MK K p s → s.2 ≤ 2 ^ 90 * s.1 → runS gs sd (cf (d + 8)) 1000 mhead [some (num K (vA K a)), some (num K (vA K b)), some (.int p), none, none, none, none, none] = some (.next [some (num K (vA K a)), some (num K (vA K b)), some (.int p), some (num K s.1), some (num K s.2), none, none, none]) →
      cf (d + 9) 24 [num K (vA K a), num K (vA K b), .int p] = some (.bool true) := by
    intro s M hr hh
    refine cf_eq (fb := blaw_meeting_right) (B := .cons mhead (.cons (.forr 5 (.rng 14) mbody) mtail)) (ρ := [_, _, _, _, _, _, _, _]) rfl rfl rfl rfl ?_
    obtain ⟨M', y5, y6, y7, hl⟩ := m_loop S d (num K (vA K a)) (num K (vA K b)) (CSrc.rng 14).items s none none none M
    have hlen : (CSrc.rng 14).items.length = 14 := rfl
    rw [hlen] at hl M'
    have hn := meeting_near S.p1 S.p2 M.I hr
    have hb := bl_mono M'.hi
    rw [bl_pow] at hb
    have ht := w_mtail (C := cf (d + 8)) (na := num K (vA K a)) (nb := num K (vA K b)) (x5 := y5) (x6 := y6) (x7 := y7) (c_near d (K := K) (by have := S.p1; omega) (Nat.lt_of_lt_of_le (Nat.two_pow_pos _) M'.lo) (by omega) hn)
    generalize mIter p 14 s = t at *
    simp -implicitDefEqProofs only [runS, hh, hl, ht]
  by_cases c : vA K a ≤ vA K b
  · rw [decide_eq_true c] at hle
    exact go (vA K a, vA K b) ⟨⟨fa, fb, Nat.le_trans big (lo a a0), c⟩, lo a a0, Nat.le_trans (hi b b1) (by omega)⟩ (Nat.le_trans (hi b b1) (Nat.mul_le_mul_left _ (lo a a0))) (w_mhead hle (.inl ⟨rfl, rfl, rfl⟩))
  · rw [decide_eq_false c] at hle
    exact go (vA K b, vA K a) ⟨⟨fb, fa, Nat.le_trans big (lo b b0), by show vA K b ≤ vA K a; omega⟩, lo b b0, Nat.le_trans (hi a a1) (by omega)⟩ (Nat.le_trans (hi a a1) (Nat.mul_le_mul_left _ (lo b b0))) (w_mhead hle (.inr ⟨rfl, rfl, rfl⟩))
end Mine
end
-- part AQf
section
open PySem PySem.W PyProof.Rows
set_option maxRecDepth 100000
set_option linter.unusedSimpArgs false
set_option linter.unusedSectionVars false
set_option maxHeartbeats 1000000
namespace Mine
def rbody : S := match blaw_root_right.body with
  | .cons _ (.cons _ (.cons (.forr _ _ b) _)) => b
  | _ => .nil
def rtail : S := match blaw_root_right.body with
  | .cons _ (.cons _ (.cons _ t)) => t
  | _ => .nil
def rh0 : S := match blaw_root_right.body with
  | .cons t _ => t
  | _ => .nil
def rh1 : S := match blaw_root_right.body with
  | .cons _ (.cons t _) => t
  | _ => .nil
theorem w_rbody {C : Cf} {n du x q T M y : PyData} {p : Int} {x3 x5 x6 : Option PyData}
    (c1 : C 17 [n, x, .int (p + 10), .str (nm "u")] = some q) (c2 : C 13 [x, q] = some T) (c3 : C 16 [T, .int (-1)] = some M) (c4 : C 9 [M, .int p, .str (nm "u")] = some y) (c5 : C 8 [du, y] = some (.bool true)) (c6 : C 8 [y, x] = some (.bool true)) :
    runS gs sd C 1000 rbody [some n, some (.int p), some du, x3, some x, x5, x6] = some (.next [some n, some (.int p), some du, x3, some y, x5, some y]) := by
  simp -implicitDefEqProofs only [rbody, blaw_root_right, c1, c2, c3, c4, c5, c6, runS, run, BOp.run, IOp.b, eqI, neI, ltI, leI, gtI, geI, truth, start, sets, List.map_cons, List.map_nil, List.length_cons, List.length_nil, Nat.reduceAdd, Nat.reduceSub, List.replicate_succ, List.replicate_zero, List.cons_append, List.nil_append, List.append_nil, List.reverse_cons, List.reverse_nil, List.getElem?_cons_zero, List.getElem?_cons_succ, Option.join_some, Option.map_some, Option.bind_some, List.set_cons_zero, List.set_cons_succ, Bool.not_true, Bool.not_false, Bool.and_true, Bool.true_and, Bool.and_false, Bool.false_and, beq_self_eq_true, guardO, Nat.reduceLT, decide_true, d01, t1, nz1, Nat.reducePow, z0, i2n, g0, g1, g2, g3, g4, g5, g6]
theorem w_rhead {C : Cf} {m : Nat} {a h : Int} {du x : PyData} {p : Int} {tl : S} {r : Res} (c1 : C 18 [mpf m a, .int p, .str (nm "u")] = some du) (hh : (a + (bl m : Int) + 1).fdiv 2 = h) (c2 : C 16 [mpf 1 0, .int h] = some x)
    (ht : runS gs sd C 1000 tl [some (mpf m a), some (.int p), some du, some (.int (a + (bl m : Int))), some x, none, none] = some r) :
    runS gs sd C 1000 (.cons rh0 (.cons rh1 tl)) [some (mpf m a), some (.int p), none, none, none, none, none] = some r := by
  have r2 : decide (2 < 1000) = true := rfl
  have i2 : idxOf [.int 0, .int m, .int a, .int (bl m)] 2 = some (.int a) := rfl
  have i3 : idxOf [.int 0, .int m, .int a, .int (bl m)] 3 = some (.int (bl m)) := rfl
  have b1 : ((bl 1 : Nat) : Int) = 1 := by decide
  have o1 : ((1 : Nat) : Int) = 1 := rfl
  unfold mpf at c1 c2 ht
  rw [b1, o1] at c2
  simp -implicitDefEqProofs only [rh0, rh1, blaw_root_right, mpf, c1, r2, i2, i3, hh, div2, c2, ht, runS, run, BOp.run, IOp.b, eqI, neI, ltI, leI, gtI, geI, truth, start, sets, List.map_cons, List.map_nil, List.length_cons, List.length_nil, Nat.reduceAdd, Nat.reduceSub, List.replicate_succ, List.replicate_zero, List.cons_append, List.nil_append, List.append_nil, List.reverse_cons, List.reverse_nil, List.getElem?_cons_zero, List.getElem?_cons_succ, Option.join_some, Option.map_some, Option.bind_some, List.set_cons_zero, List.set_cons_succ, Bool.not_true, Bool.not_false, Bool.and_true, Bool.true_and, Bool.and_false, Bool.false_and, beq_self_eq_true, guardO, Nat.reduceLT, decide_true, d01, t1, nz1, Nat.reducePow, z0, i2n, g0, g1, g2, g3, g4, g5, g6]
theorem w_rtail {C : Cf} {n du x : PyData} {p : Int} {x3 x5 x6 : Option PyData} (c1 : C 22 [du, x, .int p] = some (.bool true)) : runS gs sd C 1000 rtail [some n, some (.int p), some du, x3, some x, x5, x6] = some (.ret (.bool true)) := by
  simp -implicitDefEqProofs only [rtail, blaw_root_right, c1, runS, run, BOp.run, IOp.b, eqI, neI, ltI, leI, gtI, geI, truth, start, sets, List.map_cons, List.map_nil, List.length_cons, List.length_nil, Nat.reduceAdd, Nat.reduceSub, List.replicate_succ, List.replicate_zero, List.cons_append, List.nil_append, List.append_nil, List.reverse_cons, List.reverse_nil, List.getElem?_cons_zero, List.getElem?_cons_succ, Option.join_some, Option.map_some, Option.bind_some, List.set_cons_zero, List.set_cons_succ, Bool.not_true, Bool.not_false, Bool.and_true, Bool.true_and, Bool.and_false, Bool.false_and, beq_self_eq_true, guardO, Nat.reduceLT, decide_true, d01, t1, nz1, Nat.reducePow, z0, i2n, g0, g1, g2, g3, g4, g5, g6]
end Mine
end
-- part AQg
section
open PySem PySem.W PyProof.Rows
set_option maxRecDepth 100000
set_option linter.unusedSimpArgs false
set_option linter.unusedSectionVars false
set_option maxHeartbeats 1000000
namespace Mine
structure RK (K p V : Nat) : Prop where
  g : 2 ^ (K - 200) ∣ V
  lo : K ≤ bl V + 70
  hi : bl V ≤ K + 200
  pos : 0 < V
section
variable {K p V X : Nat} (S : Sc K p) (Q : RK K p V) (I : RInv p (V * 2 ^ K) X) (d : Nat)
include S Q I
theorem r_size : K ≤ bl X + 50 ∧ bl X ≤ K + 150 := by
  have h1 := S.k1
  have l := Q.lo
  have h := Q.hi
  have hb : bl (V * 2 ^ K) = bl V + K := bl_mul Q.pos K
  have hX : 0 < X := Nat.lt_of_lt_of_le (Nat.two_pow_pos 120) I.bigX
  have a := bl_mono I.ge
  have c := bl_mono I.le
  have x1 : bl (X * X) ≤ bl X + bl X := bl_le (by rw [Nat.pow_add]; exact Nat.mul_lt_mul'' (bl_hi X) (bl_hi X))
  have x2 : bl X - 1 + (bl X - 1) < bl (X * X) := lt_bl (by rw [Nat.pow_add]; exact Nat.mul_le_mul (bl_lo hX) (bl_lo hX))
  have x3 : bl (4 * (V * 2 ^ K)) = bl V + K + 2 := by
    rw [Nat.mul_comm 4]
    have := bl_mul (n := V * 2 ^ K) (Nat.mul_pos Q.pos (Nat.two_pow_pos K)) 2
    rw [show (2 : Nat) ^ 2 = 4 by rfl] at this
    omega
  omega
theorem r_body (du : Nat) (hdu : du = due p (V * 2 ^ K)) (x3 x5 x6 : Option PyData) : runS gs sd (cf (d + 8)) 1000 rbody [some (num K V), some (.int p), some (num K du), x3, some (num K X), x5, x6]
    = some (.next [some (num K V), some (.int p), some (num K du), x3, some (num K (rstep p (V * 2 ^ K) X)), x5, some (num K (rstep p (V * 2 ^ K) X))]) := by
  have h1 := S.k1
  have h2 := S.k2
  have h3 := S.p1
  have h4 := S.p2
  have hp : PR p := ⟨S.p1, by omega⟩
  obtain ⟨b1, b2⟩ := r_size S Q I
  obtain ⟨f1, f2, f3, f4, f5, f6, f7, f8⟩ := I.facts hp
  obtain ⟨s1, s2, s3⟩ := I.sum hp
  obtain ⟨J, j1, j2⟩ := I.step hp
  obtain ⟨b3, b4⟩ := r_size S Q J
  have l := Q.lo
  have h := Q.hi
  have hX : 0 < X := Nat.lt_of_lt_of_le (Nat.two_pow_pos 120) I.bigX
  have hY : 0 < rstep p (V * 2 ^ K) X := Nat.lt_of_lt_of_le (Nat.two_pow_pos 120) J.bigX
  have hq : 0 < rq1 p (V * 2 ^ K) X := by
    rcases Nat.eq_zero_or_pos (rq1 p (V * 2 ^ K) X) with z | z
    · rw [z] at f8
      have : bl 0 = 0 := by decide
      omega
    · exact z
  have bq := bl_mono f6
  obtain ⟨m, hm⟩ : ∃ m, X + rq1 p (V * 2 ^ K) X = 2 * m := ⟨(X + rq1 p (V * 2 ^ K) X) / 2, by omega⟩
  have bm : bl m ≤ K + 150 := by have := bl_mono (a := m) (b := X) (by omega); omega
  have hpos := c_pos (d + 4) (K := K) rn_u (V := m) (p := p) (by omega) (by omega) (by omega)
  have hY' : R .u p m = rstep p (V * 2 ^ K) X := by
    rw [hm] at s3
    have := R_scale .u (p := p) (A := m) (by omega) 1 (by omega)
    rw [Nat.pow_one, Nat.mul_comm m] at this
    omega
  rw [hY'] at hpos
  have gV : 2 ^ (K - 400) ∣ V := Nat.dvd_trans (Nat.pow_dvd_pow 2 (by omega)) Q.g
  have hdiv := c_div (d + 4) (K := K) (V := rq1 p (V * 2 ^ K) X) (p := p + 10) rn_u h1 h2 (by omega) (by omega) Q.pos hX gV (by omega) (by omega) (by omega) f4
  rw [Int.natCast_add] at hdiv
  have le : ∀ {x y : Nat}, x ≤ y → 0 < y → bl x ≤ 10000 → bl y ≤ 10000 → cf (d + 8) 8 [num K x, num K y] = some (.bool true) := fun {x y} h h0 hx hy => by
    have := c_le (d + 1) (K := K) (A := x) (B := y) h0 hx hy
    rw [decide_eq_true h] at this; exact this
  have bd := bl_mono j2
  subst hdu
  exact w_rbody hdiv (c_add (d + 4) hX hq (by omega) (by omega)) (c_shift (d + 7) (W := m) ⟨1, .inr ⟨rfl, by rw [Nat.pow_one]; omega⟩⟩) hpos (le j2 hY (by omega) (by omega)) (le j1 hX (by omega) (by omega))
end
end Mine
end
-- part AQh
section
open PySem PySem.W PyProof.Rows
set_option maxRecDepth 100000
set_option linter.unusedSimpArgs false
set_option linter.unusedSectionVars false
set_option maxHeartbeats 1000000
namespace Mine
theorem r_loop {K p V : Nat} (S : Sc K p) (Q : RK K p V) (d : Nat) (x3 : Option PyData) : ∀ (ds : List PyData) (X : Nat) (x5 x6 : Option PyData), RInv p (V * 2 ^ K) X → RInv p (V * 2 ^ K) (rIter p (V * 2 ^ K) ds.length X) ∧ ∃ y5 y6,
    forL (runS gs sd (cf (d + 8)) 1000 rbody) 5 ds [some (num K V), some (.int p), some (num K (due p (V * 2 ^ K))), x3, some (num K X), x5, x6]
      = some (.next [some (num K V), some (.int p), some (num K (due p (V * 2 ^ K))), x3, some (num K (rIter p (V * 2 ^ K) ds.length X)), y5, y6])
  | [], X, x5, x6, I => ⟨I, x5, x6, rfl⟩
  | e :: ds, X, x5, x6, I => by
    have hp : PR p := ⟨S.p1, by have := S.p2; omega⟩
    obtain ⟨h1, y5, y6, h2⟩ := r_loop S Q d x3 ds (rstep p (V * 2 ^ K) X) (some e) (some (num K (rstep p (V * 2 ^ K) X))) (I.step hp).1
    refine ⟨h1, y5, y6, ?_⟩
    have h3 := r_body S Q I d (due p (V * 2 ^ K)) rfl x3 (some e) x6
    unfold forL
    show (match runS gs sd (cf (d + 8)) 1000 rbody [some (num K V), some (.int p), some (num K (due p (V * 2 ^ K))), x3, some (num K X), some e, x6] with
      | some (.next ρ') => forL (runS gs sd (cf (d + 8)) 1000 rbody) 5 ds ρ'
      | x => x) = _
    rw [h3]
    exact h2
theorem c_root {K p V : Nat} (S : Sc K p) (Q : RK K p V) (d : Nat) : cf (d + 9) 25 [num K V, .int p] = some (.bool true) := by
  have h1 := S.k1
  have h2 := S.k2
  have h3 := S.k3
  have h4 := S.p1
  have h5 := S.p2
  have hp : PR p := ⟨S.p1, by omega⟩
  have l := Q.lo
  have h := Q.hi
  have hN0 : 0 < V * 2 ^ K := Nat.mul_pos Q.pos (Nat.two_pow_pos K)
  have hb : bl (V * 2 ^ K) = bl V + K := bl_mul Q.pos K
  obtain ⟨j, hj⟩ : ∃ j, (bl V + K + 1) / 2 = j := ⟨_, rfl⟩
  have I0 : RInv p (V * 2 ^ K) (2 ^ j) := by
    have n1 := bl_lo hN0
    have n2 := bl_hi (V * 2 ^ K)
    rw [hb] at n1 n2
    refine ⟨?_, Nat.le_trans (pow_le_of (by omega)) n1, ?_, ?_⟩
    · have := fp_of (p := p) (c := 1) (n := j) (by omega) Nat.one_le_two_pow
      rw [Nat.one_mul] at this; exact this
    · rw [← Nat.pow_add]; exact Nat.le_trans (Nat.le_of_lt n2) (pow_le_of (by omega))
    · rw [← Nat.pow_add]
      refine Nat.le_trans (pow_le_of (by omega : j + j ≤ bl V + K - 1 + 2)) ?_
      rw [Nat.pow_add, Nat.mul_comm]; exact Nat.mul_le_mul_left _ n1
  obtain ⟨I, y5, y6, hl⟩ := r_loop S Q d (some (.int ((bl V : Int) - K))) (CSrc.rng 10).items (2 ^ j) none none I0
  have hlen : (CSrc.rng 10).items.length = 10 := rfl
  rw [hlen] at hl I
  have hn := root_near S.p1 S.p2 I0
  obtain ⟨b3, b4⟩ := r_size S Q I
  have hS : 2 ^ 120 ≤ sts (V * 2 ^ K) := sts_big I0.big
  have hbS : p < bl (sts (V * 2 ^ K)) := by have := big_bl hS; omega
  have d2 : 2 * due p (V * 2 ^ K) = R .u p (sts (V * 2 ^ K)) := even_R (by omega) hbS
  have dpos : 0 < due p (V * 2 ^ K) := by have : sts (V * 2 ^ K) ≤ 2 * due p (V * 2 ^ K) := by rw [d2]; exact R_u_ge
                                          have := Nat.two_pow_pos 120; omega
  have gV : 2 ^ (K - 400) ∣ V := Nat.dvd_trans (Nat.pow_dvd_pow 2 (by omega)) Q.g
  have hsq := c_sqrt (d + 1) rn_u in_u (fun h => by cases h) h1 h2 S.k3 (by omega) (by omega) Q.pos gV (by omega) d2
  have hx : cf (d + 8) 16 [mpf 1 0, .int ((j : Int) - K)] = some (num K (2 ^ j)) := by
    have e : num K (2 ^ K) = mpf 1 0 := by
      have := num_of (K := K) (m := 1) (k := K) rfl
      rw [Nat.one_mul, Int.sub_self] at this; exact this
    rw [← e]
    rcases Nat.lt_or_ge j K with c | c
    · exact c_shift (d + 7) ⟨K - j, .inr ⟨by omega, by rw [← Nat.pow_add]; congr 1; omega⟩⟩
    · exact c_shift (d + 7) ⟨j - K, .inl ⟨by omega, by rw [← Nat.pow_add]; congr 1; omega⟩⟩
  have ht := w_rtail (C := cf (d + 8)) (n := num K V) (x3 := some (.int ((bl V : Int) - K))) (x5 := y5) (x6 := y6) (c_near d (K := K) (by omega) dpos (by omega) hn)
  obtain ⟨m, k, hm, hV, hnum⟩ := num_cases (K := K) Q.pos
  have hm0 : 0 < m := by omega
  have hbV : bl V = bl m + k := by rw [hV]; exact bl_mul hm0 k
  have etop : ((k : Int) - K) + (bl m : Int) = (bl V : Int) - K := by omega
  have eh : (((k : Int) - K) + (bl m : Int) + 1).fdiv 2 = (j : Int) - K := by
    rw [Int.fdiv_eq_ediv_of_nonneg _ (by decide)]; omega
  rw [hnum] at hsq hl ht ⊢
  refine cf_eq (fb := blaw_root_right) (B := .cons rh0 (.cons rh1 (.cons (.forr 5 (.rng 10) rbody) rtail))) (ρ := [_, _, _, _, _, _, _]) rfl rfl rfl rfl ?_
  refine w_rhead hsq eh hx ?_
  rw [etop]
  generalize rIter p (V * 2 ^ K) 10 (2 ^ j) = t at *
  simp -implicitDefEqProofs only [runS, hl, ht]
end Mine
end
-- part AQi
section
open PySem PySem.W PyProof.Rows
set_option maxRecDepth 100000
set_option linter.unusedSimpArgs false
set_option linter.unusedSectionVars false
set_option maxHeartbeats 1000000
namespace Mine
def ltail : S := match blaw.body with
  | .cons _ (.cons _ (.cons _ (.cons _ (.cons _ t)))) => t
  | _ => .nil
def lh : Nat → S
  | 0 => match blaw.body with | .cons t _ => t | _ => .nil
  | 1 => match blaw.body with | .cons _ (.cons t _) => t | _ => .nil
  | 2 => match blaw.body with | .cons _ (.cons _ (.cons t _)) => t | _ => .nil
  | 3 => match blaw.body with | .cons _ (.cons _ (.cons _ (.cons t _))) => t | _ => .nil
  | _ => match blaw.body with | .cons _ (.cons _ (.cons _ (.cons _ (.cons t _)))) => t | _ => .nil
theorem w_ltail {C : Cf} {na nb nb2 : PyData} {p : Int} {x0 x1 : Option PyData} (c1 : C 23 [na, nb, .int p] = some (.bool true)) (c2 : C 24 [na, nb, .int p] = some (.bool true)) (c3 : C 25 [na, .int p] = some (.bool true))
    (c4 : C 15 [nb, nb] = some nb2) (c5 : C 25 [nb2, .int p] = some (.bool true)) : runS gs sd C 1000 ltail [x0, x1, some na, some nb, some (.int p)] = some (.ret (.bool true)) := by
  simp -implicitDefEqProofs only [ltail, blaw, c1, c2, c3, c4, c5, runS, run, BOp.run, IOp.b, eqI, neI, ltI, leI, gtI, geI, truth, start, sets, List.map_cons, List.map_nil, List.length_cons, List.length_nil, Nat.reduceAdd, Nat.reduceSub, List.replicate_succ, List.replicate_zero, List.cons_append, List.nil_append, List.append_nil, List.reverse_cons, List.reverse_nil, List.getElem?_cons_zero, List.getElem?_cons_succ, Option.join_some, Option.map_some, Option.bind_some, List.set_cons_zero, List.set_cons_succ, Bool.not_true, Bool.not_false, Bool.and_true, Bool.true_and, Bool.and_false, Bool.false_and, beq_self_eq_true, guardO, Nat.reduceLT, decide_true, d01, t1, nz1, Nat.reducePow, z0, i2n, g0, g1, g2, g3, g4, g5, g6]
end Mine
end
-- part AQj
section
open PySem PySem.W PyProof.Rows
set_option maxRecDepth 100000
set_option linter.unusedSimpArgs false
set_option linter.unusedSectionVars false
set_option maxHeartbeats 1000000
namespace Mine
/-- a number of the law: c * 2^(j-30) -/
structure Gd (c j : Nat) : Prop where
  c0 : 0 < c
  c1 : c ≤ 2 ^ 30
  j1 : j ≤ 60
theorem Gd.a {c j : Nat} (G : Gd c j) : 0 < c * 2 ^ j ∧ c * 2 ^ j ≤ 2 ^ 90 := by
  refine ⟨Nat.mul_pos G.c0 (Nat.two_pow_pos j), ?_⟩
  have := Nat.mul_le_mul G.c1 (pow_le_of G.j1)
  rw [← Nat.pow_add] at this; exact this
theorem vA_is {K c j : Nat} (h : 1000 ≤ K) : vA K (c * 2 ^ j) = c * 2 ^ (j + (K - 30)) := by unfold vA; rw [Nat.mul_assoc, ← Nat.pow_add]
theorem Gd.fp {K p c j : Nat} (G : Gd c j) (h : 1000 ≤ K) (hp : 30 ≤ p) : Fp p (vA K (c * 2 ^ j)) := by
  rw [vA_is h]
  exact fp_of (by omega) (Nat.le_trans G.c1 (pow_le_of hp))
theorem l_tail {K p c j c' j' : Nat} (S : Sc K p) (G : Gd c j) (G' : Gd c' j') (d : Nat) (x0 x1 : Option PyData) :
    runS gs sd (cf (d + 9)) 1000 ltail [x0, x1, some (num K (vA K (c * 2 ^ j))), some (num K (vA K (c' * 2 ^ j'))), some (.int p)] = some (.ret (.bool true)) := by
  have h1 := S.k1
  have h2 := S.k2
  obtain ⟨a0, a1⟩ := G.a
  obtain ⟨b0, b1⟩ := G'.a
  have fa := G.fp h1 S.p1
  have fb := G'.fp h1 S.p1
  generalize c * 2 ^ j = a at *
  generalize c' * 2 ^ j' = b at *
  obtain ⟨⟨bA, bA'⟩, _⟩ := v_bls S a0 a0 a1 a1
  obtain ⟨⟨bB, bB'⟩, ⟨bC, bC'⟩, _⟩ := v_bls S b0 b0 b1 b1
  obtain ⟨pA, _⟩ := v_pos S a0 a0 a1 a1
  obtain ⟨pB, _, pC, _⟩ := v_pos S b0 b0 b1 b1
  refine w_ltail (c_order S a0 b0 a1 b1 d) (c_meeting S a0 b0 a1 b1 fa fb d) (c_root S ⟨?_, by omega, by omega, pA⟩ d) (c_mul (d + 8) pB pB (by omega) (by omega) (vC_eq S)) (c_root S ⟨?_, by omega, by omega, pC⟩ d)
  · exact Nat.dvd_trans (Nat.pow_dvd_pow 2 (by omega)) (Nat.dvd_mul_left _ _)
  · exact Nat.dvd_trans (Nat.pow_dvd_pow 2 (by omega)) (Nat.dvd_mul_left _ _)
end Mine
end
-- part AQk
section
open PySem PySem.W PyProof.Rows
set_option maxRecDepth 100000
set_option linter.unusedSimpArgs false
set_option linter.unusedSectionVars false
set_option maxHeartbeats 1000000
namespace Mine
theorem num_gd {K m : Nat} {e : Int} (h : 1000 ≤ K) (hm : m % 2 = 1) (he : -30 ≤ e) : mpf m e = num K (vA K (m * 2 ^ (e + 30).toNat)) := by
  rw [vA_is h, num_of hm, show (((e + 30).toNat + (K - 30) : Nat) : Int) - K = e by omega]
theorem div60 (x : Int) : divOk x 60 = true := divS x (.inr (.inr (.inl rfl)))
section
variable {C : Cf} {ns : List PyData} {f v1 v2 y : Int} {na nb nc ns1 : PyData} {p1 k5 : Nat} {tl : S} {r : Res}
theorem w_law (c0 : C 19 [.list ns, .int 0] = some (.int f)) (c1 : C 19 [.list ns, .int 1] = some (.int v1)) (c2 : C 19 [.list ns, .int 2] = some (.int v2)) (c3 : C 21 [.int v1] = some na) (c4 : C 21 [.int v2] = some nb)
    (hp : f.fmod 60 = (p1 : Int)) (hk : (f.fdiv 60).fmod 5 = (k5 : Int))
    (h : runS gs sd C 1000 (.cons (lh 3) (.cons (lh 4) tl)) [some (.list ns), some (.int f), some na, some nb, some (.int ((30 + p1 : Nat) : Int))] = some r) :
    runS gs sd C 1000 (.cons (lh 0) (.cons (lh 1) (.cons (lh 2) (.cons (lh 3) (.cons (lh 4) tl))))) [some (.list ns), none, none, none, none] = some r := by
  have r2 : decide (2 < 1000) = true := rfl
  have n60 : decide ((60 : Int) ≠ 0) = true := rfl
  have e : (30 : Int) + (p1 : Int) = ((30 + p1 : Nat) : Int) := by omega
  generalize (S.cons (lh 3) (.cons (lh 4) tl)) = t at *
  simp -implicitDefEqProofs only [lh, blaw, c0, c1, c2, c3, c4, r2, n60, hp, e, h, runS, run, BOp.run, IOp.b, eqI, neI, ltI, leI, gtI, geI, truth, start, sets, List.map_cons, List.map_nil, List.length_cons, List.length_nil, Nat.reduceAdd, Nat.reduceSub, List.replicate_succ, List.replicate_zero, List.cons_append, List.nil_append, List.append_nil, List.reverse_cons, List.reverse_nil, List.getElem?_cons_zero, List.getElem?_cons_succ, Option.join_some, Option.map_some, Option.bind_some, List.set_cons_zero, List.set_cons_succ, Bool.not_true, Bool.not_false, Bool.and_true, Bool.true_and, Bool.and_false, Bool.false_and, beq_self_eq_true, guardO, Nat.reduceLT, decide_true, d01, t1, nz1, Nat.reducePow, z0, i2n, g0, g1, g2, g3, g4, g5, g6]
end
end Mine
end
-- part AQl
section
open PySem PySem.W PyProof.Rows
set_option maxRecDepth 100000
set_option linter.unusedSimpArgs false
set_option linter.unusedSectionVars false
set_option maxHeartbeats 1000000
namespace Mine
section
variable {C : Cf} {x0 : PyData} {f : Int} {na nb ns1 nc : PyData} {x4 : Option PyData} {k5 : Nat}
theorem w_lh3 (hk : (f.fdiv 60).fmod 5 = (k5 : Int)) : runS gs sd C 1000 (lh 3) [some x0, some (.int f), some na, some nb, x4] = some (.next [some x0, some (.int f), some na, some (if k5 = 0 then na else nb), x4]) := by
  have n5 : decide ((5 : Int) ≠ 0) = true := rfl
  by_cases c : k5 = 0
  · have h1 : decide ((k5 : Int) = 0) = true := decide_eq_true (by omega)
    rw [if_pos c]
    simp -implicitDefEqProofs only [lh, blaw, div60, n5, hk, h1, runS, run, BOp.run, IOp.b, eqI, neI, ltI, leI, gtI, geI, truth, start, sets, List.map_cons, List.map_nil, List.length_cons, List.length_nil, Nat.reduceAdd, Nat.reduceSub, List.replicate_succ, List.replicate_zero, List.cons_append, List.nil_append, List.append_nil, List.reverse_cons, List.reverse_nil, List.getElem?_cons_zero, List.getElem?_cons_succ, Option.join_some, Option.map_some, Option.bind_some, List.set_cons_zero, List.set_cons_succ, Bool.not_true, Bool.not_false, Bool.and_true, Bool.true_and, Bool.and_false, Bool.false_and, beq_self_eq_true, guardO, Nat.reduceLT, decide_true, d01, t1, nz1, Nat.reducePow, z0, i2n, g0, g1, g2, g3, g4, g5, g6]
  · have h1 : decide ((k5 : Int) = 0) = false := decide_eq_false (by omega)
    rw [if_neg c]
    simp -implicitDefEqProofs only [lh, blaw, div60, n5, hk, h1, runS, run, BOp.run, IOp.b, eqI, neI, ltI, leI, gtI, geI, truth, start, sets, List.map_cons, List.map_nil, List.length_cons, List.length_nil, Nat.reduceAdd, Nat.reduceSub, List.replicate_succ, List.replicate_zero, List.cons_append, List.nil_append, List.append_nil, List.reverse_cons, List.reverse_nil, List.getElem?_cons_zero, List.getElem?_cons_succ, Option.join_some, Option.map_some, Option.bind_some, List.set_cons_zero, List.set_cons_succ, Bool.not_true, Bool.not_false, Bool.and_true, Bool.true_and, Bool.and_false, Bool.false_and, beq_self_eq_true, guardO, Nat.reduceLT, decide_true, d01, t1, nz1, Nat.reducePow, z0, i2n, g0, g1, g2, g3, g4, g5, g6]
theorem w_lh4 {m : Nat} {e : Int} (hk : (f.fdiv 60).fmod 5 = (k5 : Int)) (c1 : C 13 [mpf m e, mpf 1 e] = some ns1) (c2 : C 9 [ns1, .int 30, .str (nm "u")] = some nc) :
    runS gs sd C 1000 (lh 4) [some x0, some (.int f), some (mpf m e), some nb, x4] = some (.next [some x0, some (.int f), some (mpf m e), some (if k5 = 1 then nc else nb), x4]) := by
  have n5 : decide ((5 : Int) ≠ 0) = true := rfl
  have i2 : idxOf [.int 0, .int m, .int e, .int (bl m)] 2 = some (.int e) := rfl
  have b1 : ((bl 1 : Nat) : Int) = 1 := by decide
  have o1 : ((1 : Nat) : Int) = 1 := rfl
  unfold mpf at c1
  rw [b1, o1] at c1
  by_cases c : k5 = 1
  · have h1 : decide ((k5 : Int) = 1) = true := decide_eq_true (by omega)
    rw [if_pos c]
    simp -implicitDefEqProofs only [lh, blaw, mpf, div60, n5, hk, h1, i2, c1, c2, runS, run, BOp.run, IOp.b, eqI, neI, ltI, leI, gtI, geI, truth, start, sets, List.map_cons, List.map_nil, List.length_cons, List.length_nil, Nat.reduceAdd, Nat.reduceSub, List.replicate_succ, List.replicate_zero, List.cons_append, List.nil_append, List.append_nil, List.reverse_cons, List.reverse_nil, List.getElem?_cons_zero, List.getElem?_cons_succ, Option.join_some, Option.map_some, Option.bind_some, List.set_cons_zero, List.set_cons_succ, Bool.not_true, Bool.not_false, Bool.and_true, Bool.true_and, Bool.and_false, Bool.false_and, beq_self_eq_true, guardO, Nat.reduceLT, decide_true, d01, t1, nz1, Nat.reducePow, z0, i2n, g0, g1, g2, g3, g4, g5, g6]
  · have h1 : decide ((k5 : Int) = 1) = false := decide_eq_false (by omega)
    rw [if_neg c]
    simp -implicitDefEqProofs only [lh, blaw, mpf, div60, n5, hk, h1, i2, c1, c2, runS, run, BOp.run, IOp.b, eqI, neI, ltI, leI, gtI, geI, truth, start, sets, List.map_cons, List.map_nil, List.length_cons, List.length_nil, Nat.reduceAdd, Nat.reduceSub, List.replicate_succ, List.replicate_zero, List.cons_append, List.nil_append, List.append_nil, List.reverse_cons, List.reverse_nil, List.getElem?_cons_zero, List.getElem?_cons_succ, Option.join_some, Option.map_some, Option.bind_some, List.set_cons_zero, List.set_cons_succ, Bool.not_true, Bool.not_false, Bool.and_true, Bool.true_and, Bool.and_false, Bool.false_and, beq_self_eq_true, guardO, Nat.reduceLT, decide_true, d01, t1, nz1, Nat.reducePow, z0, i2n, g0, g1, g2, g3, g4, g5, g6]
end
end Mine
end
-- part AQm
section
open PySem PySem.W PyProof.Rows
set_option maxRecDepth 100000
set_option linter.unusedSimpArgs false
set_option linter.unusedSectionVars false
set_option maxHeartbeats 1000000
namespace Mine
theorem bl30 {m n : Nat} (h : m ≤ 2 ^ 30) (hn : n ≤ 4000) : bl (m * 2 ^ n) ≤ 10000 := by
  rcases Nat.eq_zero_or_pos m with z | z
  · subst z; rw [Nat.zero_mul]; decide
  · have := (bl_scale (k := n) z h).2; omega
theorem c_law {K : Nat} (h1 : 1000 ≤ K) (h2 : K ≤ 2000) (h3 : K % 2 = 0) (d : Nat) (ns : List Int) (hl : ns.length ≤ 63) : cf (d + 10) 26 [.list (ns.map .int)] = some (.bool true) := by
  obtain ⟨f, c0⟩ := c_mixed0 (d + 8) ns hl
  obtain ⟨v1, c1⟩ := c_mixed1 (d + 8) ns hl
  obtain ⟨v2, c2⟩ := c_mixed2 (d + 8) ns hl
  obtain ⟨m, e, c3, m1, m2, m3, m4⟩ := c_above (d + 7) v1
  obtain ⟨m', e', c4, m1', m2', m3', m4'⟩ := c_above (d + 7) v2
  obtain ⟨p1, hp, hp'⟩ := fmod_nat f (n := 60) (by decide)
  obtain ⟨k5, hk, hk'⟩ := fmod_nat (f.fdiv 60) (n := 5) (by decide)
  have S : Sc K (30 + p1) := ⟨h1, h2, h3, by omega, by omega⟩
  have eA := num_gd (K := K) h1 m1 m3
  have eB := num_gd (K := K) h1 m1' m3'
  have eU : mpf 1 e = num K (vA K (1 * 2 ^ (e + 30).toNat)) := num_gd (K := K) h1 rfl m3
  have G : Gd m (e + 30).toNat := ⟨by omega, by omega, by omega⟩
  have G' : Gd m' (e' + 30).toNat := ⟨by omega, by omega, by omega⟩
  have G1 : Gd (m + 1) (e + 30).toNat := ⟨by omega, by omega, by omega⟩
  have hs : vA K (m * 2 ^ (e + 30).toNat) + vA K (1 * 2 ^ (e + 30).toNat) = vA K ((m + 1) * 2 ^ (e + 30).toNat) := by
    rw [vA_is h1, vA_is h1, vA_is h1, ← Nat.add_mul]
  have hadd := c_add (d + 5) (K := K) (A := vA K (m * 2 ^ (e + 30).toNat)) (B := vA K (1 * 2 ^ (e + 30).toNat)) (by rw [vA_is h1]; exact Nat.mul_pos (by omega) (Nat.two_pow_pos _)) (by rw [vA_is h1]; exact Nat.mul_pos (by omega) (Nat.two_pow_pos _))
    (by rw [vA_is h1]; exact bl30 (by omega) (by omega)) (by rw [vA_is h1]; exact bl30 (by decide) (by omega))
  rw [hs, ← eA, ← eU] at hadd
  have hpos := c_pos (d + 5) (K := K) rn_u (V := vA K ((m + 1) * 2 ^ (e + 30).toNat)) (p := 30) (by rw [vA_is h1]; exact Nat.mul_pos (by omega) (Nat.two_pow_pos _)) (by decide) (by rw [vA_is h1]; exact Nat.le_trans (bl30 (by omega) (by omega)) (by decide))
  rw [(G1.fp h1 (Nat.le_refl 30)).R] at hpos
  refine cf_eq (fb := blaw) (B := .cons (lh 0) (.cons (lh 1) (.cons (lh 2) (.cons (lh 3) (.cons (lh 4) ltail))))) (ρ := [_, _, _, _, _]) rfl rfl rfl rfl ?_
  refine w_law c0 c1 c2 c3 c4 hp hk ?_
  have w3 := w_lh3 (C := cf (d + 9)) (x0 := .list (ns.map .int)) (na := mpf m e) (nb := mpf m' e') (x4 := some (.int ((30 + p1 : Nat) : Int))) hk
  have w4 := w_lh4 (C := cf (d + 9)) (x0 := .list (ns.map .int)) (nb := if k5 = 0 then mpf m e else mpf m' e') (x4 := some (.int ((30 + p1 : Nat) : Int))) hk hadd hpos
  have t : ∃ c j, Gd c j ∧ (if k5 = 1 then num K (vA K ((m + 1) * 2 ^ (e + 30).toNat)) else if k5 = 0 then mpf m e else mpf m' e') = num K (vA K (c * 2 ^ j)) := by
    split
    · exact ⟨_, _, G1, rfl⟩
    · split
      · exact ⟨_, _, G, eA⟩
      · exact ⟨_, _, G', eB⟩
  obtain ⟨c, j, Gc, hc⟩ := t
  rw [hc, eA] at w4
  rw [eA] at w3 ⊢
  have w5 := l_tail S G Gc d (some (.list (ns.map .int))) (some (.int f))
  generalize lh 3 = s3 at *
  generalize lh 4 = s4 at *
  simp -implicitDefEqProofs only [runS, w3, w4, w5]
end Mine
end
-- part AJZ
open PySem PySem.W PyProof.Rows
set_option maxRecDepth 100000
namespace Mine
theorem pure_main (ns : List Int) (h : ns.length ≤ 63) : cfD gs sd fbs 1000 12 26 [.list (ns.map .int)] = some (.bool true) :=
  c_law (K := 1000) (by decide) (by decide) rfl 2 ns h
theorem end_bool {c : ClaimW} {cl : Str → Option Addr} {mean : ExcName → Option Value} {args : List WData} {s₁ s' : Shared} {b : Bool} (x : Ext s₁ s') (hg : s₁.gens = #[]) (hn : ∀ cls, c.raises args cls = false) (hp : c.post args (.bool b) args = true) :
    GoodW c cl mean args s₁ (.ok (.ret (.bool b))) s' := by
  obtain ⟨h, tk, rfl, k⟩ := x
  exact ⟨.inl ⟨_, _, _, rfl, hn, .bool b, hp, unshared_nil⟩, k, rfl, hg⟩
end Mine
set_option maxRecDepth 100000 in
set_option maxHeartbeats 8000000 in
theorem PySem.Challenge.cw_aj5005_01_holds : PySem.Challenge.rw_aj5005_01.Holds := by
  refine Mine.hd ?_
  k_fill
  intro w s₀ s₁ mg mb G Y fa o pm cd doc dV kV ho hd hcd hD hmg hg args vals as hpre hlay hrd hwl hlo
  have KX := kIn_of Y
  refine Ground.open G ?_
  intro T B D TE TW
  try (refine guard_noD D (by decide +kernel) ?_; clear D)
  have hfa := Mine.fa_is KX T.g rfl hmg
  clear hd hcd hD
  wrow_args hpre hlay hrd hwl hlo
  rename_i hc _
  refine enter_call ?_
  refine codeAny_mono ?_ (fun _ _ g => GoodW.toG g)
  refine Mine.join KX (topRead_of T) (by assumption) (by assumption) hfa (Mine.pure_main _ (by omega)) (fun s' x => Mine.end_bool x hg ?_ ?_)
  · refine raisesW_false ?_
    wrow_none_raised
  · wrow_post

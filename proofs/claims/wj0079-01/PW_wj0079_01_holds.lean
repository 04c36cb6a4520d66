import PyProof.Rows.All
import Wide.All
import OpenK.AllK
import Wide.FinOn
import PyProof.EnumStmt
import PyProof.EnumMake
import PySem.Challenge.RW_wj0079_01
open PySem PySem.W PyProof.Rows
set_option Elab.async false
set_option maxRecDepth 100000
set_option linter.all false
set_option maxHeartbeats 8000000
namespace Mine
section
/-- what stands written out of the text's own objects, as the kit's head lays it -/
local macro_rules | `(tactic| o_head (kHook $K $_ $_)) => `(tactic| (rotate_left; exact $K; rename_i g; exact g _ rfl))
noncomputable def frag : Params → Frag := by
  refine' (fun (K : Params → Frag) (_ : (∀ k : Params → Frag, K = k → PySem.Challenge.rw_wj0079_01.row.Holds) → PySem.Challenge.rw_wj0079_01.row.Holds) => K) _ _
  rotate_left
  intro _
  k_head
end
end Mine
set_option maxHeartbeats 1000000
namespace Mine
open PySem PySem.W PyProof.Rows PySem.Calls

/-- a text as its signs' numbers -/
abbrev S := List Nat
def tx (l : S) : Str := ⟨l.toArray⟩
theorem tx_cps (x : Str) : tx x.cps.toList = x := by simp [tx]
theorem tx_of {x : Str} {l : S} (h : x.cps.toList = l) : x = tx l := by rw [← h, tx_cps]
theorem tx_inj {l m : S} (h : tx l = tx m) : l = m := by
  have : (tx l).cps.toList = (tx m).cps.toList := by rw [h]
  simpa [tx] using this
theorem tx_app (l m : S) : tx l ++ tx m = tx (l ++ m) := by
  show Str.mk (l.toArray ++ m.toArray) = Str.mk (l ++ m).toArray
  simp
theorem tx_len (l : S) : (tx l).length = l.length := by simp [tx, Str.length]
theorem tx_toList (l : S) : (tx l).cps.toList = l := by simp [tx]

/-- plain data; «own x» is a str x whose token was drawn -/
inductive D where
  | none
  | bool (b : Bool)
  | int (i : Int)
  | str (s : S)
  | own (s : S)
  | old (t : Nat) (s : S)
  | young (t : Nat) (s : S)
  | bytes (b : Array UInt8)
  | list (l : List D)
  | tuple (l : List D)
  | dict (l : List (S × D))
  | inst (C : Addr) (l : List (Str × D))
  | val (v : Value)
  | both (a b : D)


def Keep (h h' : Heap) : Prop := ∀ b o, h.get? b = some o → h'.get? b = some o
theorem Keep.refl (h : Heap) : Keep h h := fun _ _ e => e
theorem Keep.trans {a b c : Heap} (x : Keep a b) (y : Keep b c) : Keep a c := fun p o e => y p o (x p o e)
theorem Keep.push (h : Heap) (o : Obj) : Keep h (h.push o) := fun b o' e => Heap.get?_push_of_some o e

/-- what a statement leaves: all off X stands -/
def Went (X : Addr → Prop) (s s' : Shared) : Prop :=
  ∃ h' tk, s' = { s with heap := h', drawn := s'.drawn, toks := tk } ∧ s.toks ≤ tk ∧ ∀ b o, ¬ X b → s.heap.get? b = some o → h'.get? b = some o
/-- what an evaluation leaves: all stands -/
def Gone (s s' : Shared) : Prop :=
  ∃ h' tk, s' = { s with heap := h', drawn := s'.drawn, toks := tk } ∧ s.toks ≤ tk ∧ Keep s.heap h'
theorem Went.out {X} {a b : Shared} (x : Went X a b) : ∃ h' dr tk, b = { a with heap := h', drawn := dr, toks := tk } ∧ a.toks ≤ tk ∧ ∀ p o, ¬ X p → a.heap.get? p = some o → h'.get? p = some o :=
  let ⟨h, t, e, l, k⟩ := x; ⟨h, b.drawn, t, e, l, k⟩
theorem Gone.out {a b : Shared} (x : Gone a b) : ∃ h' dr tk, b = { a with heap := h', drawn := dr, toks := tk } ∧ a.toks ≤ tk ∧ Keep a.heap h' :=
  let ⟨h, t, e, l, k⟩ := x; ⟨h, b.drawn, t, e, l, k⟩
theorem Went.refl (X) (s : Shared) : Went X s s := ⟨s.heap, s.toks, rfl, Nat.le_refl _, fun _ _ _ e => e⟩
theorem Went.trans {X} {a b c : Shared} (x : Went X a b) (y : Went X b c) : Went X a c := by
  obtain ⟨h, dr, t, rfl, l, k⟩ := x.out
  obtain ⟨h', dr', t', rfl, l', k'⟩ := y.out
  exact ⟨h', t', rfl, Nat.le_trans l l', fun p o q e => k' p o q (k p o q e)⟩
theorem Went.le {X} {a b : Shared} (x : Went X a b) : a.toks ≤ b.toks := by obtain ⟨h, dr, t, rfl, l, k⟩ := x.out; exact l
theorem Went.ext {X} {a b : Shared} (x : Went X a b) : ∀ p o, ¬ X p → a.heap.get? p = some o → b.heap.get? p = some o := by obtain ⟨h, dr, t, rfl, l, k⟩ := x.out; exact k
theorem Went.on {X Y : Addr → Prop} {a b : Shared} (x : Went X a b) (k : ∀ p, X p → Y p ∨ a.heap.get? p = Option.none) : Went Y a b := by
  obtain ⟨h, dr, t, rfl, l, k'⟩ := x.out
  exact ⟨h, t, rfl, l, fun p o q e => k' p o (fun xp => (k p xp).elim q fun n => absurd (n.symm.trans e) (by intro z; cases z)) e⟩
theorem Gone.refl (s : Shared) : Gone s s := ⟨s.heap, s.toks, rfl, Nat.le_refl _, Keep.refl _⟩
theorem Gone.trans {a b c : Shared} (x : Gone a b) (y : Gone b c) : Gone a c := by
  obtain ⟨h, dr, t, rfl, l, k⟩ := x.out
  obtain ⟨h', dr', t', rfl, l', k'⟩ := y.out
  exact ⟨h', t', rfl, Nat.le_trans l l', k.trans k'⟩
theorem Gone.keep {a b : Shared} (x : Gone a b) : Keep a.heap b.heap := by obtain ⟨h, dr, t, rfl, l, k⟩ := x.out; exact k
theorem Gone.le {a b : Shared} (x : Gone a b) : a.toks ≤ b.toks := by obtain ⟨h, dr, t, rfl, l, k⟩ := x.out; exact l
theorem Gone.tok (s : Shared) (t : Nat) (h : s.toks ≤ t) : Gone s { s with toks := t } := ⟨s.heap, t, rfl, h, Keep.refl _⟩
theorem Gone.push (s : Shared) (o : Obj) : Gone s { s with heap := s.heap.push o } := ⟨_, s.toks, rfl, Nat.le_refl _, Keep.push _ _⟩
theorem Gone.mk' {s : Shared} {h' : Heap} {t : Nat} (l : s.toks ≤ t) (k : Keep s.heap h') : Gone s { s with heap := h', toks := t } := ⟨h', t, rfl, l, k⟩
theorem Gone.mkd {s : Shared} {h' : Heap} {dr : Drawn} {t : Nat} (l : s.toks ≤ t) (k : Keep s.heap h') : Gone s { s with heap := h', drawn := dr, toks := t } := ⟨h', t, rfl, l, k⟩
theorem Gone.mkh {s : Shared} {h' : Heap} (k : Keep s.heap h') : Gone s { s with heap := h' } := ⟨h', s.toks, rfl, Nat.le_refl _, k⟩
theorem Gone.went {X} {a b : Shared} (x : Gone a b) : Went X a b := by
  obtain ⟨h, dr, t, rfl, l, k⟩ := x.out
  exact ⟨h, t, rfl, l, fun p o _ e => k p o e⟩
theorem Went.gone {X} {a b : Shared} (x : Went X a b) (k : ∀ p, X p → a.heap.get? p = Option.none) : Gone a b := by
  obtain ⟨h, dr, t, rfl, l, k'⟩ := x.out
  exact ⟨h, t, rfl, l, fun p o e => k' p o (fun xp => absurd ((k p xp).symm.trans e) (by intro z; cases z)) e⟩

/-- the value v reads as d in s, along objects off X -/
inductive Rd (prog : Program) (w : World) (X : Addr → Prop) (s : Shared) : Value → D → Prop
  | none : Rd prog w X s .none .none
  | bool (b) : Rd prog w X s (.bool b) (.bool b)
  | int (i t) : Rd prog w X s (.int i t) (.int i)
  | str (x t) : Rd prog w X s (.str (tx x) t) (.str x)
  | own (x t) (h0 : 0 < t) (h1 : t < s.toks) : Rd prog w X s (.str (tx x) t) (.own x)
  | old (x t hi) (h0 : 0 < t) (h1 : t < hi) : Rd prog w X s (.str (tx x) t) (.old hi x)
  | young (x t lo) (h0 : 0 < t) (h1 : lo ≤ t) (h2 : t < s.toks) : Rd prog w X s (.str (tx x) t) (.young lo x)
  | bytes (x t) : Rd prog w X s (.bytes x t) (.bytes x)
  | val (v) : Rd prog w X s v (.val v)
  | both {v a b} (h1 : Rd prog w X s v a) (h2 : Rd prog w X s v b) : Rd prog w X s v (.both a b)
  | list {a vs n ds} (hx : ¬ X a) (ho : s.heap.get? a = some (listOf (List.toArray vs) n)) (hl : vs.length = ds.length)
      (hi : ∀ (i : Nat) v d, vs[i]? = some v → ds[i]? = some d → Rd prog w X s v d) : Rd prog w X s (.ref a) (.list ds)
  | tuple {a vs n ds} (hx : ¬ X a) (ho : s.heap.get? a = some { cls := .type "tuple", data := .seq (List.toArray vs) n }) (hl : vs.length = ds.length)
      (hi : ∀ (i : Nat) v d, vs[i]? = some v → ds[i]? = some d → Rd prog w X s v d) : Rd prog w X s (.ref a) (.tuple ds)
  | dict {a} {vals : List Value} {kvs : List (S × D)} (hx : ¬ X a) (ho : s.heap.DictOf (strKind prog w) a ((kvs.map fun p => tx p.1).zip vals)) (hl : vals.length = kvs.length)
      (hi : ∀ (i : Nat) v p, vals[i]? = some v → kvs[i]? = some p → Rd prog w X s v p.2) : Rd prog w X s (.ref a) (.dict kvs)
  | inst {x C dx} {es : List DictEntry} {n} {kvs : List (Str × D)} (hx : ¬ X x) (hdx : ¬ X dx) (hx' : s.heap.get? x = some (instObj C dx)) (ho : s.heap.get? dx = some (dictOf es n)) (hl : es.length = kvs.length)
      (hk : ∀ (i : Nat) e p, es[i]? = some e → kvs[i]? = some p → (∃ t, e.key = .str p.1 t) ∧ e.hash = PyData.keyHash w.params p.1)
      (hi : ∀ (i : Nat) e p, es[i]? = some e → kvs[i]? = some p → Rd prog w X s e.val p.2) : Rd prog w X s (.ref x) (.inst C kvs)

theorem Rd.mono' {prog : Program} {w : World} {X Y : Addr → Prop} {s s' : Shared} {v : Value} {d : D} (r : Rd prog w X s v d) (ht : s.toks ≤ s'.toks) :
    (∀ a o, ¬ X a → s.heap.get? a = some o → (∀ vs, o.data ≠ .fields vs) → ¬ Y a ∧ s'.heap.get? a = some o) → Rd prog w Y s' v d := by
  intro k
  induction r with
  | none => exact .none
  | bool b => exact .bool b
  | int i t => exact .int i t
  | str x t => exact .str x t
  | own x t h0 h1 => exact .own x t h0 (Nat.lt_of_lt_of_le h1 ht)
  | old x t hi h0 h1 => exact .old x t hi h0 h1
  | young x t lo h0 h1 h2 => exact .young x t lo h0 h1 (Nat.lt_of_lt_of_le h2 ht)
  | bytes x t => exact .bytes x t
  | val v => exact .val v
  | both h1 h2 i1 i2 => exact .both i1 i2
  | list hx ho hl hi ih => exact .list (k _ _ hx ho (fun _ z => nomatch z)).1 (k _ _ hx ho (fun _ z => nomatch z)).2 hl ih
  | tuple hx ho hl hi ih => exact .tuple (k _ _ hx ho (fun _ z => nomatch z)).1 (k _ _ hx ho (fun _ z => nomatch z)).2 hl ih
  | dict hx ho hl hi ih =>
    obtain ⟨o, es, ep, h1, h2, h3, h4⟩ := ho
    have q := k _ _ hx h1 (fun _ z => by rw [h3] at z; cases z)
    exact .dict q.1 ⟨o, es, ep, q.2, h2, h3, h4⟩ hl ih
  | inst hx hdx hx' ho hl hk hi ih => exact .inst (k _ _ hx hx' (fun _ z => nomatch z)).1 (k _ _ hdx ho (fun _ z => nomatch z)).1 (k _ _ hx hx' (fun _ z => nomatch z)).2 (k _ _ hdx ho (fun _ z => nomatch z)).2 hl hk ih
theorem Rd.mono {prog : Program} {w : World} {X Y : Addr → Prop} {s s' : Shared} {v : Value} {d : D} (r : Rd prog w X s v d) (ht : s.toks ≤ s'.toks)
    (k : ∀ a o, ¬ X a → s.heap.get? a = some o → ¬ Y a ∧ s'.heap.get? a = some o) : Rd prog w Y s' v d := r.mono' ht fun a o h1 h2 _ => k a o h1 h2

theorem Rd.went {prog : Program} {w : World} {X : Addr → Prop} {s s' : Shared} {v : Value} {d : D} (r : Rd prog w X s v d) (k : Went X s s') : Rd prog w X s' v d :=
  r.mono k.le fun a o hx e => ⟨hx, k.ext a o hx e⟩
theorem Rd.keep {prog : Program} {w : World} {X : Addr → Prop} {s s' : Shared} {v : Value} {d : D} (r : Rd prog w X s v d) (k : Gone s s') : Rd prog w X s' v d := r.went k.went
/-- fewer places to avoid -/
theorem Rd.off {prog : Program} {w : World} {X Y : Addr → Prop} {s : Shared} {v : Value} {d : D} (r : Rd prog w X s v d) (k : ∀ a, Y a → X a) : Rd prog w Y s v d :=
  r.mono (Nat.le_refl _) fun a o hx e => ⟨fun y => hx (k a y), e⟩
/-- more places to avoid, none of them standing -/
theorem Rd.on {prog : Program} {w : World} {X Y : Addr → Prop} {s : Shared} {v : Value} {d : D} (r : Rd prog w X s v d) (k : ∀ a, Y a → X a ∨ s.heap.get? a = Option.none) : Rd prog w Y s v d :=
  r.mono (Nat.le_refl _) fun a o hx e => ⟨fun y => (k a y).elim hx fun n => absurd (n.symm.trans e) (by intro q; cases q), e⟩
theorem Rd.plain {prog : Program} {w : World} {X : Addr → Prop} {s : Shared} {v : Value} {x : S} (r : Rd prog w X s v (.own x)) : Rd prog w X s v (.str x) := by
  cases r; exact .str _ _

/-- lists of values -/
def RdL (prog : Program) (w : World) (X : Addr → Prop) (s : Shared) (vs : List Value) (ds : List D) : Prop :=
  vs.length = ds.length ∧ ∀ (i : Nat) v d, vs[i]? = some v → ds[i]? = some d → Rd prog w X s v d
theorem RdL.nil {prog : Program} {w : World} { X s} : RdL prog w X s [] [] := ⟨rfl, fun i v d e => by simp at e⟩
theorem RdL.cons {prog : Program} {w : World} { X s v d vs ds} (r : Rd prog w X s v d) (q : RdL prog w X s vs ds) : RdL prog w X s (v :: vs) (d :: ds) :=
  ⟨by simp [q.1], fun i v' d' e e' => by
    cases i with
    | zero => simp at e e'; subst e; subst e'; exact r
    | succ i => simp at e e'; exact q.2 i v' d' e e'⟩
theorem RdL.went {prog : Program} {w : World} { X s s' vs ds} (r : RdL prog w X s vs ds) (k : Went X s s') : RdL prog w X s' vs ds := ⟨r.1, fun i v d e e' => (r.2 i v d e e').went k⟩
theorem RdL.keep {prog : Program} {w : World} { X s s' vs ds} (r : RdL prog w X s vs ds) (k : Gone s s') : RdL prog w X s' vs ds := r.went k.went
theorem RdL.on {prog : Program} {w : World} {X Y : Addr → Prop} {s vs ds} (r : RdL prog w X s vs ds) (k : ∀ a, Y a → X a ∨ s.heap.get? a = Option.none) : RdL prog w Y s vs ds := ⟨r.1, fun i v d e e' => (r.2 i v d e e').on k⟩
theorem RdL.off {prog : Program} {w : World} {X Y : Addr → Prop} {s vs ds} (r : RdL prog w X s vs ds) (k : ∀ a, Y a → X a) : RdL prog w Y s vs ds := ⟨r.1, fun i v d e e' => (r.2 i v d e e').off k⟩
theorem RdL.snoc {prog : Program} {w : World} { X s v d vs ds} (q : RdL prog w X s vs ds) (r : Rd prog w X s v d) : RdL prog w X s (vs ++ [v]) (ds ++ [d]) := by
  refine ⟨by simp [q.1], fun i v' d' e e' => ?_⟩
  rcases Nat.lt_trichotomy i vs.length with hi | hi | hi
  · rw [List.getElem?_append_left hi] at e
    rw [List.getElem?_append_left (q.1 ▸ hi)] at e'
    exact q.2 i v' d' e e'
  · rw [List.getElem?_append_right (by omega)] at e
    rw [List.getElem?_append_right (by rw [← q.1]; omega)] at e'
    have h1 : i - vs.length = 0 := by omega
    have h2 : i - ds.length = 0 := by rw [← q.1]; omega
    rw [h1] at e; rw [h2] at e'
    simp at e e'; subst e; subst e'; exact r
  · rw [List.getElem?_append_right (by omega)] at e
    have h1 : 0 < i - vs.length := by omega
    obtain ⟨k, hk⟩ : ∃ k, i - vs.length = k + 1 := ⟨i - vs.length - 1, by omega⟩
    rw [hk] at e; simp at e
theorem RdL.append {prog : Program} {w : World} { X s vs ds vs' ds'} (q : RdL prog w X s vs ds) (r : RdL prog w X s vs' ds') : RdL prog w X s (vs ++ vs') (ds ++ ds') := by
  induction vs' generalizing vs ds ds' with
  | nil =>
    have : ds' = [] := by have := r.1; simp at this; exact List.eq_nil_of_length_eq_zero this.symm
    subst this; simpa using q
  | cons v r' ih =>
    cases ds' with
    | nil => exact absurd r.1 (by simp)
    | cons d dr =>
      have h1 : Rd prog w X s v d := r.2 0 v d rfl rfl
      have h2 : RdL prog w X s r' dr := ⟨by simpa using r.1, fun i v' d' e e' => r.2 (i + 1) v' d' (by simpa using e) (by simpa using e')⟩
      have := ih (q.snoc h1) h2
      simpa using this
theorem RdL.head {prog : Program} {w : World} { X s v d vs ds} (q : RdL prog w X s (v :: vs) (d :: ds)) : Rd prog w X s v d := q.2 0 v d rfl rfl
theorem RdL.tail {prog : Program} {w : World} { X s v d vs ds} (q : RdL prog w X s (v :: vs) (d :: ds)) : RdL prog w X s vs ds :=
  ⟨by simpa using q.1, fun i v' d' e e' => q.2 (i + 1) v' d' (by simpa using e) (by simpa using e')⟩
theorem RdL.cons_inv {prog : Program} {w : World} { X s vs d ds} (q : RdL prog w X s vs (d :: ds)) : ∃ v vs', vs = v :: vs' ∧ Rd prog w X s v d ∧ RdL prog w X s vs' ds := by
  cases vs with
  | nil => exact absurd q.1 (by simp)
  | cons v vs' => exact ⟨v, vs', rfl, q.head, q.tail⟩
theorem RdL.nil_inv {prog : Program} {w : World} { X s vs} (q : RdL prog w X s vs []) : vs = [] := List.eq_nil_of_length_eq_zero (by simpa using q.1)

/-- inversions -/
theorem Rd.none_inv {prog : Program} {w : World} { X s v} (r : Rd prog w X s v .none) : v = .none := by cases r; rfl
theorem Rd.bool_inv {prog : Program} {w : World} { X s v b} (r : Rd prog w X s v (.bool b)) : v = .bool b := by cases r; rfl
theorem Rd.int_inv {prog : Program} {w : World} { X s v i} (r : Rd prog w X s v (.int i)) : ∃ t, v = .int i t := by cases r; exact ⟨_, rfl⟩
theorem Rd.str_inv {prog : Program} {w : World} { X s v x} (r : Rd prog w X s v (.str x)) : ∃ t, v = .str (tx x) t := by cases r; exact ⟨_, rfl⟩
theorem Rd.own_inv {prog : Program} {w : World} { X s v x} (r : Rd prog w X s v (.own x)) : ∃ t, v = .str (tx x) t ∧ 0 < t ∧ t < s.toks := by cases r; exact ⟨_, rfl, by assumption, by assumption⟩
theorem Rd.bytes_inv {prog : Program} {w : World} { X s v x} (r : Rd prog w X s v (.bytes x)) : ∃ t, v = .bytes x t := by cases r; exact ⟨_, rfl⟩
theorem Rd.list_inv {prog : Program} {w : World} { X s v ds} (r : Rd prog w X s v (.list ds)) : ∃ a vs n, v = .ref a ∧ ¬ X a ∧ s.heap.get? a = some (listOf (List.toArray vs) n) ∧ RdL prog w X s vs ds := by
  cases r with
  | list hx ho hl hi => exact ⟨_, _, _, rfl, hx, ho, hl, hi⟩
theorem Rd.tuple_inv {prog : Program} {w : World} { X s v ds} (r : Rd prog w X s v (.tuple ds)) : ∃ a vs n, v = .ref a ∧ ¬ X a ∧ s.heap.get? a = some { cls := .type "tuple", data := .seq (List.toArray vs) n } ∧ RdL prog w X s vs ds := by
  cases r with
  | tuple hx ho hl hi => exact ⟨_, _, _, rfl, hx, ho, hl, hi⟩
theorem Rd.mkList {prog : Program} {w : World} { X s a vs n ds} (hx : ¬ X a) (ho : s.heap.get? a = some (listOf (List.toArray vs) n)) (r : RdL prog w X s vs ds) : Rd prog w X s (.ref a) (.list ds) := .list hx ho r.1 r.2
theorem Rd.mkTuple {prog : Program} {w : World} { X s a vs n ds} (hx : ¬ X a) (ho : s.heap.get? a = some { cls := .type "tuple", data := .seq (List.toArray vs) n }) (r : RdL prog w X s vs ds) : Rd prog w X s (.ref a) (.tuple ds) := .tuple hx ho r.1 r.2

def Room (n : Nat) (A : Around) : Prop := A.handled = none ∧ A.depth + 3 * n + 10 ≤ recursionLimit ∧ A.units + 10 * n + 100 ≤ cLine
theorem Room.deeper {n : Nat} {A : Around} (r : Room (n + 1) A) (env : Env) : Room n (A.deeper env) :=
  ⟨r.1, by have := r.2.1; simp only [Around.deeper]; omega, by have := r.2.2; simp only [Around.deeper]; omega⟩
theorem Room.in1 {n : Nat} {A : Around} (r : Room (n + 1) A) : Room n A.in1 :=
  ⟨r.1, by have := r.2.1; simp only [Around.in1]; omega, by have := r.2.2; simp only [Around.in1]; omega⟩
theorem Room.hd {n : Nat} {A : Around} (r : Room n A) : A.handled = none := r.1
theorem Room.units {n : Nat} {A : Around} (r : Room n A) : A.units < cLine := by have := r.2.2; omega
theorem Room.depth {n : Nat} {A : Around} (r : Room n A) : A.depth < recursionLimit := by have := r.2.1; omega

/-- a name stands for a value -/
def NameIs (h : Heap) (env : Env) (x : Str) (v : Value) : Prop :=
  (env.kindOf x = some .local ∧ ∃ m, h.Ns env.locals m ∧ m x = some v) ∨
  ((env.kindOf x = some .cell ∨ env.kindOf x = some .free) ∧ ∃ c, env.cells.lookup x = some c ∧ h.IsCell c (some v))
theorem NameIs.keep {h h' env x v} (r : NameIs h env x v) (k : Keep h h') : NameIs h' env x v := by
  rcases r with ⟨hk, m, hn, hm⟩ | ⟨hk, c, hc, hi⟩
  · exact .inl ⟨hk, m, hn.keeps k, hm⟩
  · exact .inr ⟨hk, c, hc, hi.keeps k⟩

/-- what stands at the bottom: a heap, and tokens that are gone -/
structure Bs where
  h : Heap
  lo : Nat

/-- where a built-in step stands -/
structure Sit (hB : Bs) (X : Addr → Prop) (s : Shared) : Prop where
  base : Keep hB.h s.heap
  live : ∀ a, X a → ∃ o, s.heap.get? a = some o
  off : ∀ a, X a → hB.h.get? a = Option.none
  tlo : hB.lo < s.toks
theorem Sit.tpos {hB X s} (r : Sit hB X s) : 0 < s.toks := Nat.lt_of_le_of_lt (Nat.zero_le _) r.tlo
theorem Sit.keep {hB X s s'} (r : Sit hB X s) (k : Gone s s') : Sit hB X s' :=
  ⟨r.base.trans k.keep, fun a x => let ⟨o, e⟩ := r.live a x; ⟨o, k.keep _ _ e⟩, r.off, Nat.lt_of_lt_of_le r.tlo k.le⟩
theorem Sit.fresh {hB X s} (r : Sit hB X s) : ¬ X s.heap.objs.size := fun x => by
  obtain ⟨o, e⟩ := r.live _ x
  exact Nat.lt_irrefl _ (Heap.lt_size e)
def Apart (cs : List (Str × Addr)) : Prop := ∀ x y c, cs.lookup x = some c → cs.lookup y = some c → x = y

/-- the state behind a frame: base stands; names read -/
structure SOk (prog : Program) (w : World) (hB : Bs) (X : Addr → Prop) (env : Env) (ρ : List (Str × D)) (s : Shared) : Prop where
  sit : Sit hB X s
  apart : Apart env.cells
  names : ∀ x d, ρ.lookup x = some d → ∃ v, NameIs s.heap env x v ∧ Rd prog w X s v d
theorem SOk.keep {prog : Program} {w : World} { hB X env ρ s s'} (r : SOk prog w hB X env ρ s) (k : Gone s s') : SOk prog w hB X env ρ s' :=
  ⟨r.sit.keep k, r.apart, fun x d e => let ⟨v, a, b⟩ := r.names x d e; ⟨v, a.keep k.keep, b.keep k⟩⟩
theorem SOk.fresh {prog : Program} {w : World} { hB X env ρ s} (r : SOk prog w hB X env ρ s) : ¬ X s.heap.objs.size := r.sit.fresh

section
variable (prog : Program) (w : World) (hB : Bs) (n : Nat) (env : Env)

/-- the expression's value -/
def Ev (ρ : List (Str × D)) (e : PySem.Expr) (d : D) : Prop :=
  ∀ A X s E, Room n A → SOk prog w hB X env ρ s →
    wpAny (model prog w) A (eval e env) (fun v s' => Gone s s' ∧ Rd prog w X s' v d) E s
/-- its truth -/
def Tr (ρ : List (Str × D)) (e : PySem.Expr) (b : Bool) : Prop :=
  ∀ A X s E, Room n A → SOk prog w hB X env ρ s →
    wpAny (model prog w) A (isTrue e env (eval e env)) (fun c s' => Gone s s' ∧ c = b) E s
end
end Mine

set_option maxHeartbeats 1000000
namespace Mine
open PySem PySem.W PyProof.Rows PySem.Calls

section
variable (prog : Program) (w : World) (hB : Bs) (n : Nat)
def Giv1 (f : Value → Sem Value) (a d : D) : Prop :=
  ∀ A X s E v, Room n A → Sit hB X s → Rd prog w X s v a → wpAny (model prog w) A (f v) (fun r s' => Gone s s' ∧ Rd prog w X s' r d) E s
def Giv2 (f : Value → Value → Sem Value) (a b d : D) : Prop :=
  ∀ A X s E v u, Room n A → Sit hB X s → Rd prog w X s v a → Rd prog w X s u b → wpAny (model prog w) A (f v u) (fun r s' => Gone s s' ∧ Rd prog w X s' r d) E s
def GivL (f : List Value → Sem Value) (ds : List D) (d : D) : Prop :=
  ∀ A X s E vs, Room n A → Sit hB X s → RdL prog w X s vs ds → wpAny (model prog w) A (f vs) (fun r s' => Gone s s' ∧ Rd prog w X s' r d) E s
def GivB (a : D) (b : Bool) : Prop :=
  ∀ A X s E v, Room n A → Sit hB X s → Rd prog w X s v a → wpAny (model prog w) A (truthy v) (fun c s' => Gone s s' ∧ c = b) E s
end

section
variable {prog : Program} {w : World} {hB : Bs} {n : Nat} {env : Env} {ρ : List (Str × D)}

theorem Ev.name {x : Str} {pos : Pos} {d : D} (hd : ρ.lookup x = some d) (hk : env.scope.kind = .function) (hx : (x == ("__debug__" : Str)) = false := by decide)
    (hn : (x == ("__classdict__" : Str)) = false := by decide) : Ev prog w hB n env ρ (.Name x pos) d := by
  intro A X s E hr hs
  obtain ⟨v, hv, hrd⟩ := hs.names x d hd
  rcases hv with ⟨hk', m, hm, hmx⟩ | ⟨hk', c, hc, hi⟩
  · exact wpAny_Name (wpAny_loadName_local hk hk' hm hmx ⟨Gone.refl _, hrd⟩) hx
  · rcases hk' with hk' | hk'
    · exact wpAny_Name (wpAny_loadName_cell hk hk' hc hi ⟨Gone.refl _, hrd⟩) hx
    · exact wpAny_Name (wpAny_loadName_free hk hk' hc hi ⟨Gone.refl _, hrd⟩ hn) hx

theorem Ev.const_int {i : Int} {k pos} : Ev prog w hB n env ρ (.Constant (.int i) k pos) (.int i) :=
  fun A X s E hr hs => wpAny_Constant_int ⟨Gone.tok _ _ (Nat.le_succ _), .int _ _⟩
theorem Ev.const_str {x : Str} {l : S} {k pos} (h : x.cps.toList = l := by rfl) : Ev prog w hB n env ρ (.Constant (.str x) k pos) (.str l) := by
  have := tx_of h; subst this
  exact fun A X s E hr hs => wpAny_Constant_str ⟨Gone.tok _ _ (Nat.le_succ _), .str _ _⟩
theorem Ev.const_own {x : Str} {l : S} {k pos} (h : x.cps.toList = l := by rfl) : Ev prog w hB n env ρ (.Constant (.str x) k pos) (.own l) := by
  have := tx_of h; subst this
  exact fun A X s E hr hs => wpAny_Constant_str ⟨Gone.tok _ _ (Nat.le_succ _), .own _ _ hs.sit.tpos (Nat.lt_succ_self _)⟩
theorem Ev.plain {e : PySem.Expr} {l : S} (h : Ev prog w hB n env ρ e (.own l)) : Ev prog w hB n env ρ e (.str l) :=
  fun A X s E hr hs => wpAny_mono (h A X s E hr hs) (fun v s' q => ⟨q.1, q.2.plain⟩) fun _ _ e => e
theorem Ev.const_none {k pos} : Ev prog w hB n env ρ (.Constant .none k pos) .none :=
  fun A X s E hr hs => wpAny_Constant_none ⟨Gone.refl _, .none⟩
theorem Ev.const_bool {b : Bool} {k pos} : Ev prog w hB n env ρ (.Constant (.bool b) k pos) (.bool b) :=
  fun A X s E hr hs => wpAny_Constant_bool ⟨Gone.refl _, .bool _⟩
theorem Ev.bin {l r : PySem.Expr} {op : Operator} {pos : Pos} {a b d : D} (hl : Ev prog w hB n env ρ l a) (hr : Ev prog w hB n env ρ r b) (ho : Giv2 prog w hB n (binaryOp op) a b d) :
    Ev prog w hB n env ρ (.BinOp l op r pos) d := by
  intro A X s E hrm hs
  refine wpAny_BinOp (wpAny_mono (hl A X s E hrm hs) (fun v s₁ h₁ => ?_) fun _ _ e => e)
  obtain ⟨g₁, r₁⟩ := h₁
  refine wpAny_mono (hr A X s₁ E hrm (hs.keep g₁)) (fun u s₂ h₂ => ?_) fun _ _ e => e
  obtain ⟨g₂, r₂⟩ := h₂
  refine wpAny_mono (ho A X s₂ E v u hrm ((hs.keep g₁).keep g₂).sit (r₁.keep g₂) r₂) (fun c s₃ h₃ => ?_) fun _ _ e => e
  exact ⟨(g₁.trans g₂).trans h₃.1, h₃.2⟩

theorem Ev.cmp {l r : PySem.Expr} {op : CmpOp} {pos : Pos} {a b d : D} (hl : Ev prog w hB n env ρ l a) (hr : Ev prog w hB n env ρ r b) (ho : Giv2 prog w hB n (compareOp op) a b d)
    (hm : behindInMarks op r = false := by with_unfolding_all rfl) : Ev prog w hB n env ρ (.Compare l [op] [r] pos) d := by
  intro A X s E hrm hs
  refine wpAny_Compare1 (wpAny_mono (hl A X s E hrm hs) (fun v s₁ h₁ => ?_) fun _ _ e => e) hm
  obtain ⟨g₁, r₁⟩ := h₁
  refine wpAny_mono (hr A X s₁ E hrm (hs.keep g₁)) (fun u s₂ h₂ => ?_) fun _ _ e => e
  obtain ⟨g₂, r₂⟩ := h₂
  refine wpAny_mono (ho A X s₂ E v u hrm ((hs.keep g₁).keep g₂).sit (r₁.keep g₂) r₂) (fun c s₃ h₃ => ?_) fun _ _ e => e
  exact ⟨(g₁.trans g₂).trans h₃.1, h₃.2⟩

theorem Tr.cmp {l r : PySem.Expr} {op : CmpOp} {pos : Pos} {a b : D} {c : Bool} (hl : Ev prog w hB n env ρ l a) (hr : Ev prog w hB n env ρ r b) (ho : Giv2 prog w hB n (compareOp op) a b (.bool c))
    (hm : behindInMarks op r = false := by with_unfolding_all rfl) : Tr prog w hB n env ρ (.Compare l [op] [r] pos) c := by
  intro A X s E hrm hs
  refine wpAny_isTrue_Compare1 (wpAny_mono (hl A X s E hrm hs) (fun v s₁ h₁ => ?_) fun _ _ e => e) hm
  obtain ⟨g₁, r₁⟩ := h₁
  refine wpAny_mono (hr A X s₁ E hrm (hs.keep g₁)) (fun u s₂ h₂ => ?_) fun _ _ e => e
  obtain ⟨g₂, r₂⟩ := h₂
  refine wpAny_mono (ho A X s₂ E v u hrm ((hs.keep g₁).keep g₂).sit (r₁.keep g₂) r₂) (fun c' s₃ h₃ => ?_) fun _ _ e => e
  have := h₃.2.bool_inv; subst this
  exact wpAny_truthy_bool ⟨(g₁.trans g₂).trans h₃.1, rfl⟩

theorem Tr.value {e : PySem.Expr} {d : D} {b : Bool} (he : Ev prog w hB n env ρ e d) (ht : GivB prog w hB n d b)
    (hi : isTrue e env (eval e env) = (do let v ← eval e env; standAt e.pos; holding [v] (truthy v)) := by rfl) : Tr prog w hB n env ρ e b := by
  intro A X s E hrm hs
  refine wpAny_isTrue_value (wpAny_mono (he A X s E hrm hs) (fun v s₁ h₁ => ?_) fun _ _ e => e) hi
  obtain ⟨g₁, r₁⟩ := h₁
  refine wpAny_mono (ht A X s₁ E v hrm (hs.keep g₁).sit r₁) (fun c s₂ h₂ => ?_) fun _ _ e => e
  exact ⟨g₁.trans h₂.1, h₂.2⟩

theorem Tr.not {e : PySem.Expr} {pos} {b : Bool} (he : Tr prog w hB n env ρ e b) : Tr prog w hB n env ρ (.UnaryOp .Not e pos) (!b) := by
  intro A X s E hrm hs
  exact wpAny_isTrue_Not (wpAny_mono (he A X s E hrm hs) (fun c s₁ h₁ => ⟨h₁.1, by rw [h₁.2]⟩) fun _ _ e => e)

theorem Tr.and {x y : PySem.Expr} {pos} {b c : Bool} (hx : Tr prog w hB n env ρ x b) (hy : b = true → Tr prog w hB n env ρ y c) : Tr prog w hB n env ρ (.BoolOp .And [x, y] pos) (b && c) := by
  intro A X s E hrm hs
  refine wpAny_isTrue_BoolOp (wpAny_allTrue_And_cons (wpAny_mono (hx A X s E hrm hs) (fun c' s₁ h₁ => ?_) fun _ _ e => e))
  obtain ⟨g, rfl⟩ := h₁
  cases c' with
  | false => exact ⟨g, rfl⟩
  | true =>
    refine wpAny_allTrue_And_cons (wpAny_mono (hy rfl A X s₁ E hrm (hs.keep g)) (fun c' s₂ h₂ => ?_) fun _ _ e => e)
    obtain ⟨g₂, rfl⟩ := h₂
    cases c' with
    | false => exact ⟨g.trans g₂, rfl⟩
    | true => exact wpAny_allTrue_And_nil ⟨g.trans g₂, rfl⟩
theorem Tr.or {x y : PySem.Expr} {pos} {b c : Bool} (hx : Tr prog w hB n env ρ x b) (hy : b = false → Tr prog w hB n env ρ y c) : Tr prog w hB n env ρ (.BoolOp .Or [x, y] pos) (b || c) := by
  intro A X s E hrm hs
  refine wpAny_isTrue_BoolOp (wpAny_allTrue_Or_cons (wpAny_mono (hx A X s E hrm hs) (fun c' s₁ h₁ => ?_) fun _ _ e => e))
  obtain ⟨g, rfl⟩ := h₁
  cases c' with
  | true => exact ⟨g, rfl⟩
  | false =>
    refine wpAny_allTrue_Or_cons (wpAny_mono (hy rfl A X s₁ E hrm (hs.keep g)) (fun c' s₂ h₂ => ?_) fun _ _ e => e)
    obtain ⟨g₂, rfl⟩ := h₂
    cases c' with
    | true => exact ⟨g.trans g₂, rfl⟩
    | false => exact wpAny_allTrue_Or_nil ⟨g.trans g₂, rfl⟩
/-- the value of a two-armed «and» over bools -/
theorem Ev.and {x y : PySem.Expr} {pos} {b c : Bool} (hx : Ev prog w hB n env ρ x (.bool b)) (hy : b = true → Ev prog w hB n env ρ y (.bool c)) : Ev prog w hB n env ρ (.BoolOp .And [x, y] pos) (.bool (b && c)) := by
  intro A X s E hrm hs
  rw [arm_eval_BoolOp]
  show wpAny _ _ (do let v ← eval x env; standAt pos; let t ← holding [v] (truthy v); match BoolOp.And, t with | .And, false | .Or, true => pure v | _, _ => boolOp pos .And [eval y env]) _ _ s
  refine wpAny_bind (wpAny_mono (hx A X s E hrm hs) (fun v s₁ h₁ => ?_) fun _ _ e => e)
  obtain ⟨g, r⟩ := h₁
  have := r.bool_inv; subst this
  refine wpAny_bind (wpAny_standAt (wpAny_bind (wpAny_holding (wpAny_truthy_bool ?_))))
  cases b with
  | false => exact wpAny_pure ⟨g, r⟩
  | true =>
    show wpAny _ _ (eval y env) _ _ s₁
    exact wpAny_mono (hy rfl A X s₁ E hrm (hs.keep g)) (fun v s₂ h₂ => ⟨g.trans h₂.1, h₂.2⟩) fun _ _ e => e

theorem Ev.ifexp {t x y : PySem.Expr} {pos} {b : Bool} {d : D} (ht : Tr prog w hB n env ρ t b) (hx : b = true → Ev prog w hB n env ρ x d) (hy : b = false → Ev prog w hB n env ρ y d) :
    Ev prog w hB n env ρ (.IfExp t x y pos) d := by
  intro A X s E hrm hs
  rw [arm_eval_IfExp]
  refine wpAny_bind (wpAny_mono (ht A X s E hrm hs) (fun c s₁ h₁ => ?_) fun _ _ e => e)
  obtain ⟨g, rfl⟩ := h₁
  cases c with
  | true => exact wpAny_mono (hx rfl A X s₁ E hrm (hs.keep g)) (fun v s₂ h₂ => ⟨g.trans h₂.1, h₂.2⟩) fun _ _ e => e
  | false => exact wpAny_mono (hy rfl A X s₁ E hrm (hs.keep g)) (fun v s₂ h₂ => ⟨g.trans h₂.1, h₂.2⟩) fun _ _ e => e

/-- a list of expressions, left to right -/
def EvL (prog : Program) (w : World) (hB : Bs) (n : Nat) (env : Env) (ρ : List (Str × D)) (pos : Pos) (es : List PySem.Expr) (ds : List D) : Prop :=
  ∀ A X s E, Room n A → SOk prog w hB X env ρ s →
    wpAny (model prog w) A (spliced (backTo pos (starEach es env))) (fun vs s' => Gone s s' ∧ RdL prog w X s' vs ds) E s
theorem EvL.nil {pos} : EvL prog w hB n env ρ pos [] [] := fun A X s E hr hs => spliced_nil ⟨Gone.refl _, RdL.nil⟩
theorem EvL.cons {pos} {e : PySem.Expr} {es : List PySem.Expr} {d : D} {ds : List D} (he : Ev prog w hB n env ρ e d) (hes : EvL prog w hB n env ρ pos es ds)
    (hst : starEach (e :: es) env = (false, eval e env) :: starEach es env := by rfl) : EvL prog w hB n env ρ pos (e :: es) (d :: ds) := by
  intro A X s E hr hs
  rw [hst]
  show wpAny _ _ (spliced ((false, if false = true then (do let v ← eval e env; standAt pos; pure v) else eval e env) :: backTo pos (starEach es env))) _ _ s
  refine spliced_cons (wpAny_mono (he A X s E hr hs) (fun v s₁ h₁ => ?_) fun _ _ e => e)
  obtain ⟨g, r⟩ := h₁
  refine wpAny_mono (hes A X s₁ E hr (hs.keep g)) (fun vs s₂ h₂ => ?_) fun _ _ e => e
  exact ⟨g.trans h₂.1, RdL.cons (r.keep h₂.1) h₂.2⟩

theorem Ev.list {es : List PySem.Expr} {pos} {ds : List D} (h : EvL prog w hB n env ρ pos es ds) (hsz : ds.length ≤ sizeLine := by size_fits) : Ev prog w hB n env ρ (.List es pos) (.list ds) := by
  intro A X s E hr hs
  rw [arm_eval_List]
  refine wpAny_bind (wpAny_standAt (wpAny_bind (wpAny_mono (h A X s E hr hs) (fun vs s₁ h₁ => ?_) fun _ _ e => e)))
  obtain ⟨g, r⟩ := h₁
  refine wpAny_newObj_type ⟨g.trans (Gone.push _ _), ?_⟩ (by show vs.toArray.size ≤ sizeLine; rw [List.size_toArray, r.1]; exact hsz)
  exact Rd.mkList (fun x => (hs.keep g).fresh x) (Heap.get?_push_size _ rfl) (r.keep (Gone.push _ _))
theorem Ev.tuple {es : List PySem.Expr} {k pos} {ds : List D} (h : EvL prog w hB n env ρ pos es ds) (hsz : ds.length ≤ sizeLine := by size_fits) : Ev prog w hB n env ρ (.Tuple es k pos) (.tuple ds) := by
  intro A X s E hr hs
  rw [arm_eval_Tuple]
  refine wpAny_bind (wpAny_standAt (wpAny_bind (wpAny_mono (h A X s E hr hs) (fun vs s₁ h₁ => ?_) fun _ _ e => e)))
  obtain ⟨g, r⟩ := h₁
  refine wpAny_newObj_type ⟨g.trans (Gone.push _ _), ?_⟩ (by show vs.toArray.size ≤ sizeLine; rw [List.size_toArray, r.1]; exact hsz)
  exact Rd.mkTuple (fun x => (hs.keep g).fresh x) (Heap.get?_push_size _ rfl) (r.keep (Gone.push _ _))
end
end Mine

set_option maxHeartbeats 1000000
namespace Mine
open PySem PySem.W PyProof.Rows PySem.Calls

/-- a datum that is the text l -/
inductive IsS : D → S → Prop
  | str (l) : IsS (.str l) l
  | own (l) : IsS (.own l) l
  | old (hi l) : IsS (.old hi l) l
  | young (lo l) : IsS (.young lo l) l
theorem IsS.rd {prog : Program} {w : World} { X s v d l} (h : IsS d l) (r : Rd prog w X s v d) : ∃ t, v = .str (tx l) t := by
  cases h with
  | str => exact r.str_inv
  | own => obtain ⟨t, e, _⟩ := r.own_inv; exact ⟨t, e⟩
  | old => cases r; exact ⟨_, rfl⟩
  | young => cases r; exact ⟨_, rfl⟩
inductive AreS : List D → List S → Prop
  | nil : AreS [] []
  | cons {d l ds ls} : IsS d l → AreS ds ls → AreS (d :: ds) (l :: ls)
theorem AreS.strs : ∀ l : List S, AreS (l.map .str) l
  | [] => .nil
  | _ :: r => .cons (.str _) (AreS.strs r)
theorem AreS.length {ds ls} (h : AreS ds ls) : ds.length = ls.length := by
  induction h with
  | nil => rfl
  | cons _ _ ih => simp [ih]
theorem AreS.vals {prog : Program} {w : World} { X s vs ds ls} (h : AreS ds ls) (r : RdL prog w X s vs ds) : ∃ ts : List Tok, ts.length = ls.length ∧ vs = List.zipWith (fun l t => Value.str (tx l) t) ls ts := by
  induction h generalizing vs with
  | nil => exact ⟨[], rfl, r.nil_inv⟩
  | cons hd _ ih =>
    obtain ⟨v, vs', rfl, r1, r2⟩ := r.cons_inv
    obtain ⟨t, rfl⟩ := hd.rd r1
    obtain ⟨ts, e, rfl⟩ := ih r2
    exact ⟨t :: ts, by simp [e], rfl⟩

section
variable {prog : Program} {w : World} {hB : Bs} {n : Nat}

theorem wt {M : Model} {A : Around} {α : Type} {t : Sem α} {Q : α → Shared → Prop} {E : Value → Shared → Prop} {s : Shared}
    (h : wpAny M A t (fun v s' => s.toks ≤ s'.toks → Q v s') E s) : wpAny M A t Q E s :=
  wpAny_with_toks (Nat.le_refl _) (wpAny_mono h (fun _ _ x => x) fun _ _ e _ => e)

theorem Giv2.add_int {a b : Int} : Giv2 prog w hB n (binaryOp .Add) (.int a) (.int b) (.int (a + b)) := by
  intro A X s E v u hr hs r₁ r₂
  obtain ⟨t, rfl⟩ := r₁.int_inv
  obtain ⟨t', rfl⟩ := r₂.int_inv
  with_reducible refine wpAny_add_int ?_
  exact ⟨Gone.tok _ _ (Nat.le_succ _), .int _ _⟩
theorem Giv2.sub_int {a b : Int} : Giv2 prog w hB n (binaryOp .Sub) (.int a) (.int b) (.int (a - b)) := by
  intro A X s E v u hr hs r₁ r₂
  obtain ⟨t, rfl⟩ := r₁.int_inv
  obtain ⟨t', rfl⟩ := r₂.int_inv
  with_reducible refine PyProof.Rows.sub_int ?_
  exact ⟨Gone.tok _ _ (Nat.le_succ _), .int _ _⟩
theorem Giv2.mod_int {a b : Int} (hb : b ≠ 0) : Giv2 prog w hB n (binaryOp .Mod) (.int a) (.int b) (.int (a.fmod b)) := by
  intro A X s E v u hr hs r₁ r₂
  obtain ⟨t, rfl⟩ := r₁.int_inv
  obtain ⟨t', rfl⟩ := r₂.int_inv
  with_reducible refine PyProof.Rows.mod_int' hb ?_
  exact ⟨Gone.tok _ _ (Nat.le_succ _), .int _ _⟩
theorem Giv2.div_int {a b : Int} (hb : b ≠ 0) (hs : b.natAbs < 1073741824) : Giv2 prog w hB n (binaryOp .FloorDiv) (.int a) (.int b) (.int (a.fdiv b)) := by
  intro A X s E v u hr hs' r₁ r₂
  obtain ⟨t, rfl⟩ := r₁.int_inv
  obtain ⟨t', rfl⟩ := r₂.int_inv
  exact PyProof.Rows.floordiv_int hb ⟨Gone.tok _ _ (Nat.le_succ _), .int _ _⟩ (.inl (PyProof.noPylong_small hs))
theorem Giv2.add_str {a b : D} {x y : S} (h1 : IsS a x) (h2 : IsS b y) (hsz : x.length + y.length ≤ sizeLine) : Giv2 prog w hB n (binaryOp .Add) a b (.str (x ++ y)) := by
  intro A X s E v u hr hs r₁ r₂
  obtain ⟨t, rfl⟩ := h1.rd r₁
  obtain ⟨t', rfl⟩ := h2.rd r₂
  refine wt (PyProof.Rows.add_str (fun t' tk hle => ⟨Gone.tok _ _ hle, ?_⟩) (by rw [tx_len, tx_len]; exact hsz))
  rw [tx_app]; exact .str _ _

theorem Giv2.le_int {a b : Int} : Giv2 prog w hB n (compareOp .LtE) (.int a) (.int b) (.bool (decide (a ≤ b))) := by
  intro A X s E v u hr hs r₁ r₂
  obtain ⟨t, rfl⟩ := r₁.int_inv
  obtain ⟨t', rfl⟩ := r₂.int_inv
  with_reducible refine PySem.P.le_int ?_
  exact ⟨Gone.refl _, .bool _⟩
theorem Giv2.lt_int {a b : Int} : Giv2 prog w hB n (compareOp .Lt) (.int a) (.int b) (.bool (decide (a < b))) := by
  intro A X s E v u hr hs r₁ r₂
  obtain ⟨t, rfl⟩ := r₁.int_inv
  obtain ⟨t', rfl⟩ := r₂.int_inv
  with_reducible refine PySem.P.lt_int ?_
  exact ⟨Gone.refl _, .bool _⟩
theorem Giv2.ge_int {a b : Int} : Giv2 prog w hB n (compareOp .GtE) (.int a) (.int b) (.bool (decide (a ≥ b))) := by
  intro A X s E v u hr hs r₁ r₂
  obtain ⟨t, rfl⟩ := r₁.int_inv
  obtain ⟨t', rfl⟩ := r₂.int_inv
  with_reducible refine PySem.P.ge_int ?_
  exact ⟨Gone.refl _, .bool _⟩
theorem Giv2.gt_int {a b : Int} : Giv2 prog w hB n (compareOp .Gt) (.int a) (.int b) (.bool (decide (a > b))) := by
  intro A X s E v u hr hs r₁ r₂
  obtain ⟨t, rfl⟩ := r₁.int_inv
  obtain ⟨t', rfl⟩ := r₂.int_inv
  with_reducible refine PySem.P.gt_int ?_
  exact ⟨Gone.refl _, .bool _⟩
theorem Giv2.eq_int {a b : Int} : Giv2 prog w hB n (compareOp .Eq) (.int a) (.int b) (.bool (a == b)) := by
  intro A X s E v u hr hs r₁ r₂
  obtain ⟨t, rfl⟩ := r₁.int_inv
  obtain ⟨t', rfl⟩ := r₂.int_inv
  with_reducible refine PySem.P.eq_int ?_
  exact ⟨Gone.refl _, .bool _⟩
theorem Giv2.ne_bool {a b : Bool} : Giv2 prog w hB n (compareOp .NotEq) (.bool a) (.bool b) (.bool (!(a == b))) := by
  intro A X s E v u hr hs r₁ r₂
  have := r₁.bool_inv; subst this
  have := r₂.bool_inv; subst this
  exact PySem.SeqAt.RcNeAt.bool_bool a b prog w E _ ⟨Gone.refl _, .bool _⟩
theorem str_eq_tx (x y : S) : ((tx x).cps.toList == (tx y).cps.toList) = (x == y) := by rw [tx_toList, tx_toList]
theorem Giv2.eq_str {a b : D} {x y : S} (h1 : IsS a x) (h2 : IsS b y) : Giv2 prog w hB n (compareOp .Eq) a b (.bool (x == y)) := by
  intro A X s E v u hr hs r₁ r₂
  obtain ⟨t, rfl⟩ := h1.rd r₁
  obtain ⟨t', rfl⟩ := h2.rd r₂
  exact PySem.P.eq_str (by rw [str_eq_tx]; exact ⟨Gone.refl _, .bool _⟩)

/-- a sign in a text -/
theorem Giv2.in_str {a b : D} {c : Nat} {x : S} (h1 : IsS a [c]) (h2 : IsS b x) : Giv2 prog w hB n (compareOp .In) a b (.bool (decide (c ∈ x))) := by
  intro A X s E v u hr hs r₁ r₂
  obtain ⟨t, rfl⟩ := h1.rd r₁
  obtain ⟨t', rfl⟩ := h2.rd r₂
  have e := PySem.StrLaws.found_one (tx x) c
  rw [tx_toList] at e
  exact PySem.P.in_str (by show Gone s s ∧ Rd prog w X s (Value.bool (!(Builtin.Str.occurrences (tx x) ⟨#[c]⟩ 0 (tx x).length 1).isEmpty)) _; rw [e]; exact ⟨Gone.refl _, .bool _⟩)
theorem Giv2.notIn_str {a b : D} {c : Nat} {x : S} (h1 : IsS a [c]) (h2 : IsS b x) : Giv2 prog w hB n (compareOp .NotIn) a b (.bool (!decide (c ∈ x))) := by
  intro A X s E v u hr hs r₁ r₂
  obtain ⟨t, rfl⟩ := h1.rd r₁
  obtain ⟨t', rfl⟩ := h2.rd r₂
  have e := PySem.StrLaws.found_one (tx x) c
  rw [tx_toList] at e
  exact PySem.P.notIn_str (by show Gone s s ∧ Rd prog w X s (Value.bool (!(!(Builtin.Str.occurrences (tx x) ⟨#[c]⟩ 0 (tx x).length 1).isEmpty))) _; rw [e]; exact ⟨Gone.refl _, .bool _⟩)

/-- a text in a list of texts -/
theorem Giv2.in_strs {a : D} {x : S} {ds : List D} {ls : List S} (h1 : IsS a x) (h2 : AreS ds ls) : Giv2 prog w hB n (compareOp .In) a (.list ds) (.bool (ls.contains x)) := by
  intro A X s E v u hr hs r₁ r₂
  obtain ⟨t, rfl⟩ := h1.rd r₁
  obtain ⟨l, vs, k, rfl, hx, ho, rl⟩ := r₂.list_inv
  have hl : s.heap.IsList l vs.toArray := ⟨_, ho, rfl, _, rfl⟩
  obtain ⟨ts, he, rfl⟩ := h2.vals rl
  refine PySem.SeqAt.in_listAt (fun y => match y with | .str z _ => z == tx x | _ => false) hl (fun y hy => ?_) ?_
  · rw [List.mem_toArray] at hy
    obtain ⟨i, hi⟩ := List.mem_iff_getElem?.mp hy
    rw [List.getElem?_zipWith] at hi
    split at hi
    · cases hi; exact PySem.SeqAt.EqAt.str_str _ _ _ _
    · cases hi
  · refine ⟨Gone.refl _, ?_⟩
    have : (List.zipWith (fun l t => Value.str (tx l) t) ls ts).toArray.any (fun y => match y with | .str z _ => z == tx x | _ => false) = ls.contains x := by
      rw [List.any_toArray]
      clear r₂ ho rl hl h2 r₁
      induction ls generalizing ts with
      | nil => simp
      | cons l r ih =>
        cases ts with
        | nil => simp at he
        | cons t ts =>
          simp only [List.zipWith_cons_cons, List.any_cons, List.contains_cons]
          rw [ih ts (by simpa using he)]
          congr 1
          rw [Bool.eq_iff_iff, beq_iff_eq, beq_iff_eq]
          exact ⟨fun e => (tx_inj e).symm, fun e => by rw [e]⟩
    rw [this]; exact .bool _

theorem zip_get {ls : List S} {ts : List Tok} {i : Nat} (h : i < (List.zipWith (fun l t => Value.str (tx l) t) ls ts).toArray.size) (he : ts.length = ls.length) :
    ∃ l t, ls[i]? = some l ∧ (List.zipWith (fun l t => Value.str (tx l) t) ls ts).toArray[i] = Value.str (tx l) t := by
  simp at h
  refine ⟨ls[i], ts[i], by simp [h], by simp⟩

theorem all_eq_list {ls ms : List S} (h : ls.length = ms.length) : ((List.range ls.length).all fun i => ls[i]? == ms[i]?) = (ls == ms) := by
  rw [Bool.eq_iff_iff, List.all_eq_true, beq_iff_eq]
  constructor
  · intro q
    apply List.ext_getElem? 
    intro i
    by_cases hi : i < ls.length
    · exact beq_iff_eq.mp (q i (List.mem_range.mpr hi))
    · rw [List.getElem?_eq_none (by omega), List.getElem?_eq_none (by omega)]
  · rintro rfl i _
    simp

/-- two lists of texts -/
theorem Giv2.eq_strs {ds es : List D} {ls ms : List S} (h1 : AreS ds ls) (h2 : AreS es ms) : Giv2 prog w hB n (compareOp .Eq) (.list ds) (.list es) (.bool (ls == ms)) := by
  intro A X s E v u hr hs r₁ r₂
  obtain ⟨l, vs, k, rfl, hx, ho, rl⟩ := r₁.list_inv
  obtain ⟨l', vs', k', rfl, hx', ho', rl'⟩ := r₂.list_inv
  have hl : s.heap.IsList l vs.toArray := ⟨_, ho, rfl, _, rfl⟩
  have hl' : s.heap.IsList l' vs'.toArray := ⟨_, ho', rfl, _, rfl⟩
  obtain ⟨ts, he, rfl⟩ := h1.vals rl
  obtain ⟨ts', he', rfl⟩ := h2.vals rl'
  have z1 : (List.zipWith (fun l t => Value.str (tx l) t) ls ts).toArray.size = ls.length := by simp [he]
  have z2 : (List.zipWith (fun l t => Value.str (tx l) t) ms ts').toArray.size = ms.length := by simp [he']
  show wpAny _ _ (richCompare .Eq _ _) _ _ s
  by_cases hlen : ls.length = ms.length
  · refine PySem.SeqAt.RcAt.lists (e := fun i => ls[i]? == ms[i]?) hl hl' (by rw [z1, z2, hlen]) hr.units (fun j h1 h2 => ?_) prog w E _ ⟨Gone.refl _, ?_⟩
    · obtain ⟨a, t, e1, e2⟩ := zip_get h1 he
      obtain ⟨b, t', e3, e4⟩ := zip_get h2 he'
      rw [e2, e4, e1, e3]
      have := PySem.SeqAt.EqAt.str_str (A := A.in1) (s := s) (tx a) t (tx b) t'
      have q : (some a == some b) = (tx a == tx b) := by
        rw [Bool.eq_iff_iff, beq_iff_eq, beq_iff_eq]
        exact ⟨fun e => by rw [Option.some.inj e], fun e => by rw [tx_inj e]⟩
      rw [q]; exact this
    · rw [z1, all_eq_list hlen]; exact .bool _
  · have hne : (ls == ms) = false := by
      rw [beq_eq_false_iff_ne]; intro e; exact hlen (by rw [e])
    rw [hne]
    exact PySem.SeqAt.RcAt.lists_lengths hl hl' (by rw [z1, z2]; simpa using hlen) hr.units prog w E _ ⟨Gone.refl _, .bool _⟩
theorem Giv2.ne_strs {ds es : List D} {ls ms : List S} (h1 : AreS ds ls) (h2 : AreS es ms) : Giv2 prog w hB n (compareOp .NotEq) (.list ds) (.list es) (.bool (!(ls == ms))) := by
  intro A X s E v u hr hs r₁ r₂
  obtain ⟨l, vs, k, rfl, hx, ho, rl⟩ := r₁.list_inv
  obtain ⟨l', vs', k', rfl, hx', ho', rl'⟩ := r₂.list_inv
  have hl : s.heap.IsList l vs.toArray := ⟨_, ho, rfl, _, rfl⟩
  have hl' : s.heap.IsList l' vs'.toArray := ⟨_, ho', rfl, _, rfl⟩
  obtain ⟨ts, he, rfl⟩ := h1.vals rl
  obtain ⟨ts', he', rfl⟩ := h2.vals rl'
  have z1 : (List.zipWith (fun l t => Value.str (tx l) t) ls ts).toArray.size = ls.length := by simp [he]
  have z2 : (List.zipWith (fun l t => Value.str (tx l) t) ms ts').toArray.size = ms.length := by simp [he']
  show wpAny _ _ (richCompare .NotEq _ _) _ _ s
  by_cases hlen : ls.length = ms.length
  · refine PySem.SeqAt.RcNeAt.lists (e := fun i => ls[i]? == ms[i]?) hl hl' (by rw [z1, z2, hlen]) hr.units (fun j h1 h2 => ?_) prog w E _ ⟨Gone.refl _, ?_⟩
    · obtain ⟨a, t, e1, e2⟩ := zip_get h1 he
      obtain ⟨b, t', e3, e4⟩ := zip_get h2 he'
      rw [e2, e4, e1, e3]
      have := PySem.SeqAt.EqAt.str_str (A := A.in1) (s := s) (tx a) t (tx b) t'
      have q : (some a == some b) = (tx a == tx b) := by
        rw [Bool.eq_iff_iff, beq_iff_eq, beq_iff_eq]
        exact ⟨fun e => by rw [Option.some.inj e], fun e => by rw [tx_inj e]⟩
      rw [q]; exact this
    · rw [z1, all_eq_list hlen]; exact .bool _
  · have hne : (ls == ms) = false := by
      rw [beq_eq_false_iff_ne]; intro e; exact hlen (by rw [e])
    rw [hne]
    exact PySem.SeqAt.RcNeAt.lists_lengths hl hl' (by rw [z1, z2]; simpa using hlen) hr.units prog w E _ ⟨Gone.refl _, .bool _⟩

/-- the sum of two lists -/
theorem Giv2.add_list {ds es : List D} (hsz : ds.length + es.length ≤ sizeLine) : Giv2 prog w hB n (binaryOp .Add) (.list ds) (.list es) (.list (ds ++ es)) := by
  intro A X s E v u hr hs r₁ r₂
  obtain ⟨l, vs, k, rfl, hx, ho, rl⟩ := r₁.list_inv
  obtain ⟨l', vs', k', rfl, hx', ho', rl'⟩ := r₂.list_inv
  have e : vs.toArray ++ vs'.toArray = (vs ++ vs').toArray := by simp
  refine concat_meets ⟨_, ho, rfl⟩ ⟨_, ho', rfl⟩ noFill_list_add seq_list_add PySem.F.slot_list_add PySem.F.entry_list_add (PySem.F.args_list_add_2 _ _)
    (list_addW l l' vs.toArray vs'.toArray k k' Option.none Option.none #[] #[] (by simp [rl.1, rl'.1]; exact hsz)) ⟨ho, ho', ?_⟩
  rw [e]
  exact ⟨Gone.push _ _, Rd.mkList hs.fresh (Heap.get?_push_size _ rfl) ((rl.append rl').keep (Gone.push _ _))⟩
theorem Giv2.mul_str {a : D} {x : S} {i : Int} (h1 : IsS a x) (hok : MulOk (tx x) i) : Giv2 prog w hB n (binaryOp .Mult) a (.int i) (.str (Txt.mul (tx x) i).cps.toList) := by
  intro A X s E v u hr hs r₁ r₂
  obtain ⟨t, rfl⟩ := h1.rd r₁
  obtain ⟨t', rfl⟩ := r₂.int_inv
  refine wt (PySem.SB.mul hok fun t' k hle => ⟨Gone.tok _ _ hle, ?_⟩)
  have := Rd.str (prog := prog) (w := w) (X := X) (s := { s with toks := k }) (Txt.mul (tx x) i).cps.toList t'
  rwa [tx_cps] at this
/-- truth -/
theorem GivB.bool {b : Bool} : GivB prog w hB n (.bool b) b := by
  intro A X s E v hr hs r
  have := r.bool_inv; subst this
  with_reducible refine wpAny_truthy_bool ?_
  exact ⟨Gone.refl _, rfl⟩
theorem GivB.none : GivB prog w hB n .none false := by
  intro A X s E v hr hs r
  have := r.none_inv; subst this
  with_reducible refine PyProof.Rows.truthy_none ?_
  exact ⟨Gone.refl _, rfl⟩

/-- items -/
theorem Giv2.item_list {ds : List D} {i : Int} {d : D} (h0 : 0 ≤ i) (hi : i < 2 ^ 63) (hd : ds[i.toNat]? = some d) : Giv2 prog w hB n getItem (.list ds) (.int i) d := by
  intro A X s E v u hr hs r₁ r₂
  obtain ⟨l, vs, k, rfl, hx, ho, rl⟩ := r₁.list_inv
  obtain ⟨t', rfl⟩ := r₂.int_inv
  have hl : s.heap.IsList l vs.toArray := ⟨_, ho, rfl, _, rfl⟩
  have hlt : i.toNat < vs.length := by
    have := List.getElem?_eq_some_iff.mp hd
    rw [rl.1]; exact this.1
  have hv : vs[i.toNat]? = some vs[i.toNat] := by simp [hlt]
  have hv' : vs.toArray[i.toNat]? = some vs[i.toNat] := by simp [hlt]
  with_reducible refine wpAny_getItem_list hl h0 hi hv' ?_
  exact ⟨Gone.refl _, rl.2 _ _ _ hv hd⟩
theorem Giv2.item_str {a : D} {x : S} {i : Int} {c : Nat} (h1 : IsS a x) (hlo : -(2 ^ 63 : Int) ≤ i) (hhi : i < 2 ^ 63) (hc : (seqIndex? i x.length).bind (x[·]?) = some c) : Giv2 prog w hB n getItem a (.int i) (.own [c]) := by
  intro A X s E v u hr hs r₁ r₂
  obtain ⟨t, rfl⟩ := h1.rd r₁
  obtain ⟨t', rfl⟩ := r₂.int_inv
  refine PySem.P.getItem_str (c := c) (by simp; omega) ?_ ⟨Gone.tok _ _ (Nat.le_succ _), .own _ _ hs.tpos (Nat.lt_succ_self _)⟩
  rw [tx_len]
  rw [← hc]
  congr 1
  funext j
  simp [tx]
end
end Mine

set_option maxHeartbeats 1000000
namespace Mine
open PySem PySem.W PyProof.Rows PySem.Calls

theorem went_of_sameBut {s : Shared} {h' : Heap} {t : Nat} {a : Addr} {X : Addr → Prop} (hl : s.toks ≤ t) (hs : Heap.SameBut a s.heap h') (hx : X a) : Went X s { s with heap := h', toks := t } :=
  ⟨h', t, rfl, hl, fun b o hb e => hs.extBut b o (fun h => hb (h ▸ hx)) e⟩
theorem went_of_extBut {s : Shared} {h' : Heap} {t : Nat} {a : Addr} {X : Addr → Prop} (hl : s.toks ≤ t) (hs : Heap.ExtBut a s.heap h') (hx : X a) : Went X s { s with heap := h', toks := t } :=
  ⟨h', t, rfl, hl, fun b o hb e => hs b o (fun h => hb (h ▸ hx)) e⟩

/-- a walk along an iterator I that hands its; Z may turn meanwhile -/
structure Wk (prog : Program) (w : World) (lo : Nat) (A : Around) (Z : Addr → Prop) (I : Addr) (its : List D) (St : Nat → Shared → Prop) : Prop where
  off : ¬ Z I
  stay : ∀ i s s', St i s → Went Z s s' → St i s'
  item : ∀ i d (s : Shared) (Q : Option Value → Shared → Prop) (E : Value → Shared → Prop), its[i]? = some d → St i s → lo < s.toks →
    (∀ v s', Went (· = I) s s' → St (i + 1) s' → Rd prog w (fun a => Z a ∨ a = I) s' v d → Q (some v) s') → wpAny (model prog w) A (pyNext (.ref I)) Q E s
  iso : ∀ i s, St i s → ∃ o vs, s.heap.get? I = some o ∧ o.data = .fields vs
  done : ∀ (s : Shared) (Q : Option Value → Shared → Prop) (E : Value → Shared → Prop), St its.length s →
    (∀ s', Went (· = I) s s' → Q Option.none s') → wpAny (model prog w) A (pyNext (.ref I)) Q E s
  self : ∀ i (s : Shared) (Q : Value → Shared → Prop) (E : Value → Shared → Prop), St i s → Q (.ref I) s → wpAny (model prog w) A (pyIter (.ref I)) Q E s
  quiet : ∀ i (s : Shared) tg v (Q : Unit → Shared → Prop) (E : Value → Shared → Prop), St i s → Q () s → wpAny (model prog w) A (letOwnedTupleGo tg (.ref I) v) Q E s

theorem quiet_of {M : Model} {A : Around} {s : Shared} {tg : PySem.Expr} {I : Addr} {v : Value} {Q : Unit → Shared → Prop} {E : Value → Shared → Prop} {o : Obj} {T : String} {vs : Array Value} (ho : s.heap.get? I = some o) (hc : o.cls = .type T) (hd : o.data = .fields vs)
    (hT : (["enumerate", "zip", "dict_itemiterator", "dict_reverseitemiterator", "odict_iterator", "itertools.zip_longest", "itertools.pairwise"].contains T) = false) (h : Q () s) : wpAny M A (letOwnedTupleGo tg (.ref I) v) Q E s := by
  have key : ∀ a : Addr, wpAny M A (do
      let o ← load I
      match o.cls, o.data with
      | .type n, .fields vs =>
        if ["enumerate", "zip", "dict_itemiterator", "dict_reverseitemiterator", "odict_iterator", "itertools.zip_longest", "itertools.pairwise"].contains n && vs[0]? == some (rawInt a) then
          rule "for.unpacks-the-owned-tuple"
          updateField I 0 .none
      | _, _ => pure () : Sem Unit) Q E s := by
    intro a
    refine wpAny_bind (wpAny_load ho ?_)
    rw [hc, hd]
    simp only [hT, Bool.false_and, Bool.false_eq_true, if_false]
    exact wpAny_pure h
  cases tg <;> first
    | exact wpAny_pure h
    | (cases v <;> first
      | exact wpAny_pure h
      | exact key _)

/-- «for .. in v» over a datum hands its -/
def Runs (prog : Program) (w : World) (hB : Bs) (n : Nat) (d : D) (its : List D) : Prop :=
  ∀ A X s v (Q : Value → Shared → Prop) (E : Value → Shared → Prop), Room n A → Sit hB X s → Rd prog w X s v d →
    (∀ I s₁, Gone s s₁ → s.heap.get? I = Option.none → (∃ o, s₁.heap.get? I = some o) →
      (∀ Z : Addr → Prop, (∀ a, Z a → X a ∨ s.heap.get? a = Option.none) → ¬ Z I → ∃ St, (∀ A', A'.handled = Option.none → Wk prog w hB.lo A' Z I its St) ∧ St 0 s₁) → Q (.ref I) s₁) →
    wpAny (model prog w) A (pyIter v) Q E s

section
variable {prog : Program} {w : World} {hB : Bs} {n : Nat}

theorem get?_size_none (h : Heap) : h.get? h.objs.size = Option.none := by
  cases e : h.get? h.objs.size with
  | none => rfl
  | some o => exact absurd (Heap.lt_size e) (Nat.lt_irrefl _)
theorem ne_of_get {h : Heap} {a b : Addr} {o : Obj} (ha : h.get? a = some o) (hb : h.get? b = Option.none) : a ≠ b := fun e => by rw [e, hb] at ha; cases ha

theorem Runs.list {ds : List D} : Runs prog w hB n (.list ds) ds := by
  intro A X s v Q E hr hs r k
  obtain ⟨l, vs, c, rfl, hx, ho, rl⟩ := r.list_inv
  have hl : s.heap.IsList l vs.toArray := ⟨_, ho, rfl, _, rfl⟩
  refine wpAny_pyIter_list hl ?_
  refine k s.heap.objs.size _ (Gone.push _ _) (get?_size_none _) ⟨_, Heap.get?_push_size _ rfl⟩ fun Z hZ hZI => ?_
  have hlZ : ¬ Z l := fun z => (hZ l z).elim hx fun e => by rw [e] at ho; cases ho
  have hlI : l ≠ s.heap.objs.size := ne_of_get ho (get?_size_none _)
  refine ⟨fun i s' => s'.heap.IsListIter s.heap.objs.size l i ∧ s'.heap.get? l = some (listOf vs.toArray c) ∧ RdL prog w (fun a => Z a ∨ a = s.heap.objs.size) s' vs ds, fun A' hh => ⟨hZI, ?_, ?_, ?_, ?_, ?_, ?_⟩, ?_⟩
  · rintro i s₁ s₂ ⟨⟨oi, h1, h1'⟩, h2, h3⟩ g
    exact ⟨⟨oi, g.ext _ _ hZI h1, h1'⟩, g.ext _ _ hlZ h2, h3.went (g.on fun p hp => .inl (.inl hp))⟩
  · rintro i d s₁ Q' E' hd ⟨h1, h2, h3⟩ _ kk
    have hlt : i < vs.length := by rw [h3.1]; exact (List.getElem?_eq_some_iff.mp hd).1
    have hv : vs[i]? = some vs[i] := by simp [hlt]
    refine wpAny_pyNext_list_item h1 ⟨_, h2, rfl, _, rfl⟩ (x := vs[i]) (by simp [hlt]) fun h' hit hsb => ?_
    have g : Went (· = s.heap.objs.size) s₁ { s₁ with heap := h' } := went_of_sameBut (t := s₁.toks) (Nat.le_refl _) hsb rfl
    have h3' := h3.went (g.on fun p hp => .inl (.inr hp))
    exact kk _ _ g ⟨hit, (hsb.2 l hlI).trans h2, h3'⟩ (h3'.2 i _ _ hv hd)
  · rintro i s₁ ⟨⟨oi, h1, _, h1d⟩, h2, h3⟩
    exact ⟨oi, _, h1, h1d⟩
  · rintro s₁ Q' E' ⟨h1, h2, h3⟩ kk
    exact wpAny_pyNext_list_end hh h1 ⟨_, h2, rfl, _, rfl⟩ (by rw [← h3.1]; simp) fun h' he => kk _ (went_of_extBut (t := s₁.toks) (Nat.le_refl _) he rfl)
  · rintro i s₁ Q' E' ⟨h1, h2, h3⟩ kk
    exact wpAny_pyIter_listiter h1 kk
  · rintro i s₁ tg v' Q' E' ⟨⟨oi, h1, h1c, h1d⟩, h2, h3⟩ kk
    exact quiet_of h1 h1c h1d (by decide) kk
  · refine ⟨⟨_, Heap.get?_push_size _ rfl, rfl, rfl⟩, Heap.get?_push_of_some _ ho, (rl.on fun a ha => ?_).keep (Gone.push _ _)⟩
    rcases ha with ha | rfl
    · exact hZ a ha
    · exact .inr (get?_size_none _)

theorem Runs.tuple {ds : List D} : Runs prog w hB n (.tuple ds) ds := by
  intro A X s v Q E hr hs r k
  obtain ⟨l, vs, c, rfl, hx, ho, rl⟩ := r.tuple_inv
  have hl : s.heap.IsTuple l vs.toArray := ⟨_, ho, rfl, _, rfl⟩
  refine wpAny_pyIter_tuple hl ?_
  refine k s.heap.objs.size _ (Gone.push _ _) (get?_size_none _) ⟨_, Heap.get?_push_size _ rfl⟩ fun Z hZ hZI => ?_
  have hlZ : ¬ Z l := fun z => (hZ l z).elim hx fun e => by rw [e] at ho; cases ho
  have hlI : l ≠ s.heap.objs.size := ne_of_get ho (get?_size_none _)
  refine ⟨fun i s' => s'.heap.IsTupleIter s.heap.objs.size l i ∧ s'.heap.get? l = some { cls := .type "tuple", data := .seq vs.toArray c } ∧ RdL prog w (fun a => Z a ∨ a = s.heap.objs.size) s' vs ds, fun A' hh => ⟨hZI, ?_, ?_, ?_, ?_, ?_, ?_⟩, ?_⟩
  · rintro i s₁ s₂ ⟨⟨oi, h1, h1'⟩, h2, h3⟩ g
    exact ⟨⟨oi, g.ext _ _ hZI h1, h1'⟩, g.ext _ _ hlZ h2, h3.went (g.on fun p hp => .inl (.inl hp))⟩
  · rintro i d s₁ Q' E' hd ⟨h1, h2, h3⟩ _ kk
    have hlt : i < vs.length := by rw [h3.1]; exact (List.getElem?_eq_some_iff.mp hd).1
    have hv : vs[i]? = some vs[i] := by simp [hlt]
    refine wpAny_pyNext_tuple_item h1 ⟨_, h2, rfl, _, rfl⟩ (x := vs[i]) (by simp [hlt]) fun h' hit hsb => ?_
    have g : Went (· = s.heap.objs.size) s₁ { s₁ with heap := h' } := went_of_sameBut (t := s₁.toks) (Nat.le_refl _) hsb rfl
    have h3' := h3.went (g.on fun p hp => .inl (.inr hp))
    exact kk _ _ g ⟨hit, (hsb.2 l hlI).trans h2, h3'⟩ (h3'.2 i _ _ hv hd)
  · rintro i s₁ ⟨⟨oi, h1, _, h1d⟩, h2, h3⟩
    exact ⟨oi, _, h1, h1d⟩
  · rintro s₁ Q' E' ⟨h1, h2, h3⟩ kk
    exact wpAny_pyNext_tuple_end hh h1 ⟨_, h2, rfl, _, rfl⟩ (by rw [← h3.1]; simp) fun h' he => kk _ (went_of_extBut (t := s₁.toks) (Nat.le_refl _) he rfl)
  · rintro i s₁ Q' E' ⟨h1, h2, h3⟩ kk
    exact wpAny_pyIter_tupleiter h1 kk
  · rintro i s₁ tg v' Q' E' ⟨⟨oi, h1, h1c, h1d⟩, h2, h3⟩ kk
    exact quiet_of h1 h1c h1d (by decide) kk
  · refine ⟨⟨_, Heap.get?_push_size _ rfl, rfl, rfl⟩, Heap.get?_push_of_some _ ho, (rl.on fun a ha => ?_).keep (Gone.push _ _)⟩
    rcases ha with ha | rfl
    · exact hZ a ha
    · exact .inr (get?_size_none _)

/-- the signs of an ASCII text -/
theorem Runs.strOf {d : D} {x : S} {mk : Nat → D} (hd : IsS d x) (ha : x.all (· < 128) = true) (hmk : ∀ X s c t, hB.lo < t → t < Shared.toks s → Rd prog w X s (.str (tx [c]) t) (mk c)) : Runs prog w hB n d (x.map mk) := by
  intro A X s v Q E hr hs r k
  obtain ⟨t, rfl⟩ := hd.rd r
  refine wpAny_pyIter_strU ?_
  have hty : strIterType (tx x) = "str_ascii_iterator" := by
    unfold strIterType
    rw [if_pos]
    rw [← Array.all_toList, tx_toList]; exact ha
  rw [hty]
  refine k s.heap.objs.size _ (Gone.push _ _) (get?_size_none _) ⟨_, Heap.get?_push_size _ rfl⟩ fun Z hZ hZI => ?_
  refine ⟨fun i s' => s'.heap.IsStrIter s.heap.objs.size "str_ascii_iterator" (tx x) t i, fun A' hh => ⟨hZI, ?_, ?_, ?_, ?_, ?_, ?_⟩, ?_⟩
  · rintro i s₁ s₂ ⟨oi, h1, h1'⟩ g
    exact ⟨oi, g.ext _ _ hZI h1, h1'⟩
  · rintro i d' s₁ Q' E' hd' h1 h0 kk
    rw [List.getElem?_map] at hd'
    obtain ⟨c, hc, rfl⟩ := Option.map_eq_some_iff.mp hd'
    refine wpAny_pyNext_ascii_item h1 (c := c) (by simpa [tx] using hc) fun h' hit hsb => ?_
    exact kk _ _ (went_of_sameBut (Nat.le_succ _) hsb rfl) hit (hmk _ _ c _ h0 (Nat.lt_succ_self _))
  · rintro i s₁ ⟨oi, h1, _, h1d⟩
    exact ⟨oi, _, h1, h1d⟩
  · rintro s₁ Q' E' h1 kk
    rw [List.length_map] at h1
    exact wpAny_pyNext_ascii_end hh h1 (by simp [tx]) fun h' he => kk _ (went_of_extBut (t := s₁.toks) (Nat.le_refl _) he rfl)
  · rintro i s₁ Q' E' h1 kk
    exact wpAny_pyIter_striter_ascii h1 kk
  · rintro i s₁ tg v' Q' E' ⟨oi, h1, h1c, h1d⟩ kk
    exact quiet_of h1 h1c h1d (by decide) kk
  · exact ⟨_, Heap.get?_push_size _ rfl, rfl, rfl⟩
theorem Runs.str {d : D} {x : S} (hd : IsS d x) (ha : x.all (· < 128) = true) : Runs prog w hB n d (x.map fun c => .own [c]) :=
  Runs.strOf hd ha fun X s c t h0 h1 => .own [c] t (Nat.lt_of_le_of_lt (Nat.zero_le _) h0) h1
theorem Runs.strY {d : D} {x : S} (hd : IsS d x) (ha : x.all (· < 128) = true) : Runs prog w hB n d (x.map fun c => .young (hB.lo + 1) [c]) :=
  Runs.strOf hd ha fun X s c t h0 h1 => .young [c] t _ (Nat.lt_of_le_of_lt (Nat.zero_le _) h0) h0 h1
end

/-- what a frame owns and turns in place -/
inductive Ow where
  | lst (ds : List D)
  | ins (C : Addr) (kvs : List (Str × D))

/-- the places to avoid: those of others, and the frame's own M -/
abbrev YM (Y M : Addr → Prop) : Addr → Prop := fun a => Y a ∨ M a

def OwIs (prog : Program) (w : World) (Y M : Addr → Prop) (env : Env) (s : Shared) (a : Addr) : Ow → Prop
  | .lst ds => (M a ∧ ¬ Y a) ∧ ∃ vs n, s.heap.get? a = some (listOf (List.toArray vs) n) ∧ RdL prog w (YM Y M) s vs ds
  | .ins C kvs => ¬ YM Y M a ∧ ∃ dx es n, (M dx ∧ ¬ Y dx) ∧ dx ≠ env.locals ∧ s.heap.get? a = some (instObj C dx) ∧ s.heap.get? dx = some (dictOf es n) ∧ List.length es = kvs.length ∧
      (∀ (i : Nat) e p, es[i]? = some e → kvs[i]? = some p → (∃ t, e.key = .str p.1 t) ∧ e.hash = PyData.keyHash w.params p.1) ∧
      (∀ (i : Nat) e p, es[i]? = some e → kvs[i]? = some p → Rd prog w (YM Y M) s e.val p.2)

/-- B: the names that the frame may bind -/
structure Frm (Y M : Addr → Prop) (B : List Str) (env : Env) (s : Shared) : Prop where
  kind : env.scope.kind = .function
  loc : M env.locals
  ns : ∃ m, s.heap.Ns env.locals m
  cel : ∀ x c, env.cells.lookup x = some c → ∃ v, s.heap.IsCell c v
  bd : ∀ x, x ∈ B → env.kindOf x = some .local ∨ (env.kindOf x = some .cell ∧ ∃ c, env.cells.lookup x = some c ∧ M c)

structure Sta (prog : Program) (w : World) (hB : Bs) (Y M : Addr → Prop) (B : List Str) (env : Env) (ρ : List (Str × D)) (μ : List (Str × Ow)) (s : Shared) : Prop where
  ok : SOk prog w hB (YM Y M) env ρ s
  frm : Frm Y M B env s
  own : ∀ x o, μ.lookup x = some o → ∃ a, NameIs s.heap env x (.ref a) ∧ OwIs prog w Y M env s a o

theorem Frm.keep {Y M B env s s'} (r : Frm Y M B env s) (g : Gone s s') : Frm Y M B env s' :=
  ⟨r.kind, r.loc, let ⟨m, h⟩ := r.ns; ⟨m, h.keeps g.keep⟩, fun x c h1 => let ⟨v, b⟩ := r.cel x c h1; ⟨v, b.keeps g.keep⟩, r.bd⟩
theorem OwIs.keep {prog : Program} {w : World} { Y M env s s' a o} (r : OwIs prog w Y M env s a o) (g : Gone s s') : OwIs prog w Y M env s' a o := by
  cases o with
  | lst ds => obtain ⟨h1, vs, n, h2, h3⟩ := r; exact ⟨h1, vs, n, g.keep _ _ h2, h3.keep g⟩
  | ins C kvs =>
    obtain ⟨h1, dx, es, n, h2, h3, h4, h5, h6, h7, h8⟩ := r
    exact ⟨h1, dx, es, n, h2, h3, g.keep _ _ h4, g.keep _ _ h5, h6, h7, fun i e p e1 e2 => (h8 i e p e1 e2).keep g⟩
theorem Sta.keep {prog : Program} {w : World} { hB Y M B env ρ μ s s'} (r : Sta prog w hB Y M B env ρ μ s) (g : Gone s s') : Sta prog w hB Y M B env ρ μ s' :=
  ⟨r.ok.keep g, r.frm.keep g, fun x o e => let ⟨a, h1, h2⟩ := r.own x o e; ⟨a, h1.keep g.keep, h2.keep g⟩⟩
end Mine

set_option maxHeartbeats 1000000
namespace Mine
open PySem PySem.W PyProof.Rows PySem.Calls

theorem ns_inj {h : Heap} {a : Addr} {m m' : Str → Option Value} (x : h.Ns a m) (y : h.Ns a m') : m = m' := by
  obtain ⟨o, es, ep, h1, h2, _, h3⟩ := x
  obtain ⟨o', es', ep', h1', h2', _, h3'⟩ := y
  rw [h1] at h1'; cases h1'
  rw [h2] at h2'; cases h2'
  funext z; rw [← h3, ← h3']
theorem ns_ne_cell {h : Heap} {a c : Addr} {m : Str → Option Value} {v} (x : h.Ns a m) (y : h.IsCell c v) : c ≠ a := by
  rintro rfl
  obtain ⟨o, es, ep, h1, h2, _⟩ := x
  obtain ⟨o', h1', h2'⟩ := y
  rw [h1] at h1'; cases h1'
  rw [h2] at h2'; cases h2'
theorem ns_ne_of {h : Heap} {a c : Addr} {m : Str → Option Value} {o : Obj} (x : h.Ns a m) (y : h.get? c = some o) (hd : ∀ es n, o.data ≠ .dict es n) : c ≠ a := by
  rintro rfl
  obtain ⟨o', es, ep, h1, h2, _⟩ := x
  rw [h1] at y; cases y
  exact hd _ _ h2
theorem cell_ne_of {h : Heap} {a c : Addr} {v} {o : Obj} (x : h.IsCell a v) (y : h.get? c = some o) (hd : ∀ u, o.data ≠ .cell u) : c ≠ a := by
  rintro rfl
  obtain ⟨o', h1, h2⟩ := x
  rw [h1] at y; cases y
  exact hd _ h2

def dropO (x : Str) (μ : List (Str × Ow)) : List (Str × Ow) := μ.filter fun p => !(p.1 == x)
theorem lookup_dropO {x y : Str} {o : Ow} : ∀ {μ : List (Str × Ow)}, (dropO x μ).lookup y = some o → y ≠ x ∧ μ.lookup y = some o
  | [], h => by simp [dropO] at h
  | (z, p) :: r, h => by
    unfold dropO at h
    rw [List.filter_cons] at h
    by_cases hz : z = x
    · subst hz
      simp only [beq_self_eq_true, Bool.not_true, Bool.false_eq_true, if_false] at h
      have ih := lookup_dropO (μ := r) h
      refine ⟨ih.1, ?_⟩
      rw [List.lookup_cons]
      have : (y == z) = false := by simpa using ih.1
      rw [this]; exact ih.2
    · have hz' : (z == x) = false := by simpa using hz
      simp only [hz', Bool.not_false, if_true] at h
      rw [List.lookup_cons] at h ⊢
      by_cases hy : y = z
      · subst hy
        simp only [beq_self_eq_true] at h ⊢
        exact ⟨hz, h⟩
      · have : (y == z) = false := by simpa using hy
        simp only [this] at h ⊢
        exact lookup_dropO (μ := r) h

section
variable {prog : Program} {w : World} {hB : Bs} {n : Nat} {env : Env} {Y M : Addr → Prop} {B : List Str} {ρ : List (Str × D)} {μ : List (Str × Ow)}

theorem plainScope {env : Env} (hk : env.scope.kind = .function) : (env.scope.kind == .class || (env.scope.kind == .module && env.locals != env.globals)) = false := by rw [hk]; rfl

/-- one place b of the frame turns; x stands for v behind it -/
theorem Sta.turn {prog : Program} {w : World} {s : Shared} {h' : Heap} {tk : Nat} {b : Addr} {x : Str} {v : Value} {d : D} (S : Sta prog w hB Y M B env ρ μ s) (r : Rd prog w (YM Y M) s v d) (hb : M b) (hsb : Heap.SameBut b s.heap h') (ht : s.toks ≤ tk)
    (hb' : ∃ o, h'.get? b = some o) (hlst : ∀ a o, s.heap.get? a = some o → (∀ es n, o.data ≠ .dict es n) → (∀ u, o.data ≠ .cell u) → a ≠ b)
    (hdx : ∀ dx es n, s.heap.get? dx = some (dictOf es n) → dx ≠ env.locals → dx ≠ b)
    (hns : ∃ m, h'.Ns env.locals m) (hcl : ∀ c u, c = b → s.heap.IsCell c u → ∃ u, h'.IsCell c u)
    (hx : NameIs h' env x v) (hy : ∀ y u, y ≠ x → NameIs s.heap env y u → NameIs h' env y u) :
    Went M s { s with heap := h', toks := tk } ∧ Sta prog w hB Y M B env ((x, d) :: ρ) (dropO x μ) { s with heap := h', toks := tk } := by
  have g : Went M s { s with heap := h', toks := tk } := went_of_sameBut ht hsb hb
  have gX : Went (YM Y M) s { s with heap := h', toks := tk } := g.on fun _ q => .inl (.inr q)
  refine ⟨g, ⟨⟨⟨?_, ?_, S.ok.sit.off, Nat.lt_of_lt_of_le S.ok.sit.tlo ht⟩, S.ok.apart, ?_⟩, ⟨S.frm.kind, S.frm.loc, hns, ?_, S.frm.bd⟩, ?_⟩⟩
  · intro a o e
    by_cases hab : a = b
    · subst hab; rw [S.ok.sit.off _ (.inr hb)] at e; cases e
    · exact (hsb.2 a hab).trans (S.ok.sit.base a o e)
  · intro a ha
    obtain ⟨o, e⟩ := S.ok.sit.live a ha
    by_cases hab : a = b
    · subst hab; exact hb'
    · exact ⟨o, (hsb.2 a hab).trans e⟩
  · intro y d' e
    rw [List.lookup_cons] at e
    by_cases hyx : y = x
    · subst hyx
      simp only [beq_self_eq_true] at e
      cases e
      exact ⟨v, hx, r.went gX⟩
    · have : (y == x) = false := by simpa using hyx
      simp only [this] at e
      obtain ⟨u, h1, h2⟩ := S.ok.names y d' e
      exact ⟨u, hy y u hyx h1, h2.went gX⟩
  · intro y c h1
    obtain ⟨u, h4⟩ := S.frm.cel y c h1
    by_cases hcb : c = b
    · exact hcl c _ hcb h4
    · exact ⟨u, h4.sameBut hsb hcb⟩
  · intro y o e
    obtain ⟨hyx, e'⟩ := lookup_dropO e
    obtain ⟨a, h1, h2⟩ := S.own y o e'
    refine ⟨a, hy y _ hyx h1, ?_⟩
    cases o with
    | lst ds =>
      obtain ⟨h3, vs, k, h4, h5⟩ := h2
      exact ⟨h3, vs, k, (hsb.2 a (hlst a _ h4 (fun _ _ z => nomatch z) (fun _ z => nomatch z))).trans h4, h5.went gX⟩
    | ins C kvs =>
      obtain ⟨h3, dx, es, k, h4, h5, h6, h7, h8, h9, h10⟩ := h2
      exact ⟨h3, dx, es, k, h4, h5, (hsb.2 a (hlst a _ h6 (fun _ _ z => nomatch z) (fun _ z => nomatch z))).trans h6, (hsb.2 dx (hdx dx es k h7 h5)).trans h7, h8, h9, fun i e p e1 e2 => (h10 i e p e1 e2).went gX⟩

theorem Sta.bindN {s : Shared} {A : Around} {E : Value → Shared → Prop} {x : Str} {v : Value} {d : D} {Q : Unit → Shared → Prop} (S : Sta prog w hB Y M B env ρ μ s) (r : Rd prog w (YM Y M) s v d) (hx : x ∈ B)
    (h : ∀ s', Went M s s' → NameIs s'.heap env x v → (∀ a o, s.heap.get? a = some o → (∀ es n, o.data ≠ .dict es n) → (∀ u, o.data ≠ .cell u) → s'.heap.get? a = some o) → Sta prog w hB Y M B env ((x, d) :: ρ) (dropO x μ) s' → Q () s') :
    wpAny (model prog w) A (storeName env x v) Q E s := by
  obtain ⟨m, hm⟩ := S.frm.ns
  rcases S.frm.bd x hx with hl | ⟨hl, c, hc, hX⟩
  · refine wpAny_storeName_local hl hm (fun h' hn' hsb => ?_) (plainScope S.frm.kind)
    have key := S.turn (h' := h') (tk := s.toks + 1) r S.frm.loc hsb (Nat.le_succ _) (let ⟨o, _, _, e, _⟩ := hn'; ⟨o, e⟩)
      (fun a o e hd _ => ns_ne_of hm e hd) (fun dx es k e hne => hne) ⟨_, hn'⟩ (fun c u e hcu => absurd e (ns_ne_cell hm hcu))
      (.inl ⟨hl, _, hn', by simp⟩) (fun y u hyx hn => ?_)
    · exact h _ key.1 (.inl ⟨hl, _, hn', by simp⟩) (fun a o e hd _ => (hsb.2 a (ns_ne_of hm e hd)).trans e) key.2
    · rcases hn with ⟨h1, m', h2, h3⟩ | ⟨h1, c, h2, h3⟩
      · have := ns_inj h2 hm; subst this
        exact .inl ⟨h1, _, hn', by simp [hyx, h3]⟩
      · exact .inr ⟨h1, c, h2, h3.sameBut hsb (ns_ne_cell hm h3)⟩
  · obtain ⟨u, hu⟩ := S.frm.cel x c hc
    refine wpAny_storeName_cell S.frm.kind hl hc hu fun h' hc' hsb => ?_
    have key := S.turn (h' := h') (tk := s.toks) r hX hsb (Nat.le_refl _) (let ⟨o, e, _⟩ := hc'; ⟨o, e⟩)
      (fun a o e _ hd => cell_ne_of hu e hd) (fun dx es k e _ => cell_ne_of hu e (fun _ z => nomatch z)) ⟨m, hm.sameBut hsb (Ne.symm (ns_ne_cell hm hu))⟩ (fun c' u' e _ => by subst e; exact ⟨_, hc'⟩)
      (.inr ⟨.inl hl, c, hc, hc'⟩) (fun y u' hyx hn => ?_)
    · exact h _ key.1 (.inr ⟨.inl hl, c, hc, hc'⟩) (fun a o e _ hd => (hsb.2 a (cell_ne_of hu e hd)).trans e) key.2
    · rcases hn with ⟨h1, m', h2, h3⟩ | ⟨h1, c', h2, h3⟩
      · exact .inl ⟨h1, m', h2.sameBut hsb (Ne.symm (ns_ne_cell hm hu)), h3⟩
      · refine .inr ⟨h1, c', h2, h3.sameBut hsb fun e => ?_⟩
        subst e
        exact hyx (S.ok.apart y x c' h2 hc)
theorem Sta.bind {s : Shared} {A : Around} {E : Value → Shared → Prop} {x : Str} {v : Value} {d : D} {Q : Unit → Shared → Prop} (S : Sta prog w hB Y M B env ρ μ s) (r : Rd prog w (YM Y M) s v d) (hx : x ∈ B)
    (h : ∀ s', Went M s s' → Sta prog w hB Y M B env ((x, d) :: ρ) (dropO x μ) s' → Q () s') : wpAny (model prog w) A (storeName env x v) Q E s := S.bindN r hx fun s' g _ _ S' => h s' g S'
/-- an iterator turns: the frame's facts stand -/
theorem Sta.other {prog : Program} {w : World} {s s' : Shared} {I : Addr} {o : Obj} {vs : Array Value} (S : Sta prog w hB Y M B env ρ μ s) (g : Went (· = I) s s') (hXI : ¬ YM Y M I) (hIB : hB.h.get? I = Option.none) (ho : s.heap.get? I = some o) (hd : o.data = .fields vs) :
    Sta prog w hB Y M B env ρ μ s' := by
  have ne : ∀ a o', s.heap.get? a = some o' → (∀ vs, o'.data ≠ .fields vs) → a ≠ I := fun a o' e hn q => by
    subst q; rw [ho] at e; cases e; exact hn _ hd
  have xne : ∀ a, YM Y M a → a ≠ I := fun a x q => hXI (q ▸ x)
  have rd : ∀ v d, Rd prog w (YM Y M) s v d → Rd prog w (YM Y M) s' v d := fun v d r => r.mono' g.le fun a o' hx e hn => ⟨hx, g.ext a o' (ne a o' e hn) e⟩
  have nm : ∀ y u, NameIs s.heap env y u → NameIs s'.heap env y u := by
    rintro y u (⟨h1, m, ⟨o', es, ep, h2, h3⟩, h4⟩ | ⟨h1, c, h2, o', h3, h4⟩)
    · exact .inl ⟨h1, m, ⟨o', es, ep, g.ext _ _ (xne _ (.inr S.frm.loc)) h2, h3⟩, h4⟩
    · exact .inr ⟨h1, c, h2, o', g.ext _ _ (ne _ _ h3 (fun _ q => by rw [h4] at q; cases q)) h3, h4⟩
  refine ⟨⟨⟨fun a o' e => g.ext a o' (fun q => by subst q; rw [hIB] at e; cases e) (S.ok.sit.base a o' e), fun a x => ?_, S.ok.sit.off, Nat.lt_of_lt_of_le S.ok.sit.tlo g.le⟩, S.ok.apart, fun x d e => ?_⟩,
    ⟨S.frm.kind, S.frm.loc, ?_, fun x c h1 => ?_, S.frm.bd⟩, fun x o' e => ?_⟩
  · obtain ⟨o', e⟩ := S.ok.sit.live a x
    exact ⟨o', g.ext a o' (xne a x) e⟩
  · obtain ⟨v, h1, h2⟩ := S.ok.names x d e
    exact ⟨v, nm _ _ h1, rd _ _ h2⟩
  · obtain ⟨m, o', es, ep, h2, h3⟩ := S.frm.ns
    exact ⟨m, o', es, ep, g.ext _ _ (xne _ (.inr S.frm.loc)) h2, h3⟩
  · obtain ⟨v, o', h4, h5⟩ := S.frm.cel x c h1
    exact ⟨v, o', g.ext _ _ (ne _ _ h4 (fun _ q => by rw [h5] at q; cases q)) h4, h5⟩
  · obtain ⟨a, h1, h2⟩ := S.own x o' e
    refine ⟨a, nm _ _ h1, ?_⟩
    cases o' with
    | lst ds =>
      obtain ⟨h3, vs', k, h4, h5⟩ := h2
      exact ⟨h3, vs', k, g.ext _ _ (xne _ (.inr h3.1)) h4, h5.1, fun i v d e1 e2 => rd _ _ (h5.2 i v d e1 e2)⟩
    | ins C kvs =>
      obtain ⟨h3, dx, es, k, h4, h5, h6, h7, h8, h9, h10⟩ := h2
      exact ⟨h3, dx, es, k, h4, h5, g.ext _ _ (ne _ _ h6 (fun _ z => nomatch z)) h6, g.ext _ _ (xne _ (.inr h4.1)) h7, h8, h9, fun i e p e1 e2 => rd _ _ (h10 i e p e1 e2)⟩
/-- a list of the frame's own that no name stands for turns -/
theorem Sta.acc {s s' : Shared} {a : Addr} {vs : Array Value} {k : Nat} (S : Sta prog w hB Y M B env ρ [] s) (g : Went (· = a) s s') (ha : YM Y M a) (ho : s.heap.get? a = some (listOf vs k)) (ho' : ∃ o, s'.heap.get? a = some o) :
    Sta prog w hB Y M B env ρ [] s' := by
  have ne : ∀ b o', s.heap.get? b = some o' → (∀ vs k, o'.data ≠ .seq vs k) → b ≠ a := fun b o' e hn q => by
    subst q; rw [ho] at e; cases e; exact hn _ _ rfl
  have gX : Went (YM Y M) s s' := g.on fun p q => .inl (by subst q; exact ha)
  have nm : ∀ y u, NameIs s.heap env y u → NameIs s'.heap env y u := by
    rintro y u (⟨h1, m, ⟨o', es, ep, h2, h3, h3'⟩, h4⟩ | ⟨h1, c, h2, o', h3, h4⟩)
    · exact .inl ⟨h1, m, ⟨o', es, ep, g.ext _ _ (ne _ _ h2 (fun _ _ q => by rw [h3] at q; cases q)) h2, h3, h3'⟩, h4⟩
    · exact .inr ⟨h1, c, h2, o', g.ext _ _ (ne _ _ h3 (fun _ _ q => by rw [h4] at q; cases q)) h3, h4⟩
  refine ⟨⟨⟨fun b o' e => ?_, fun b x => ?_, S.ok.sit.off, Nat.lt_of_lt_of_le S.ok.sit.tlo g.le⟩, S.ok.apart, fun x d e => ?_⟩,
    ⟨S.frm.kind, S.frm.loc, ?_, fun x c h1 => ?_, S.frm.bd⟩, fun x o' e => nomatch e⟩
  · exact g.ext b o' (fun q => by subst q; rw [S.ok.sit.off _ ha] at e; cases e) (S.ok.sit.base b o' e)
  · by_cases q : b = a
    · subst q; exact ho'
    · obtain ⟨o', e⟩ := S.ok.sit.live b x
      exact ⟨o', g.ext b o' q e⟩
  · obtain ⟨v, h1, h2⟩ := S.ok.names x d e
    exact ⟨v, nm _ _ h1, h2.went gX⟩
  · obtain ⟨m, o', es, ep, h2, h3, h3'⟩ := S.frm.ns
    exact ⟨m, o', es, ep, g.ext _ _ (ne _ _ h2 (fun _ _ q => by rw [h3] at q; cases q)) h2, h3, h3'⟩
  · obtain ⟨v, o', h4, h5⟩ := S.frm.cel x c h1
    exact ⟨v, o', g.ext _ _ (ne _ _ h4 (fun _ _ q => by rw [h5] at q; cases q)) h4, h5⟩
end
end Mine

set_option maxHeartbeats 1000000
namespace Mine
open PySem PySem.W PyProof.Rows PySem.Calls

inductive Fl where
  | next | brk | cont
  | ret (d : D)

def FlIs (prog : Program) (w : World) (X : Addr → Prop) (s : Shared) : Flow → Fl → Prop
  | .next, .next => True
  | .brk, .brk => True
  | .cont, .cont => True
  | .ret v, .ret d => Rd prog w X s v d
  | _, _ => False

abbrev Po := Fl → List (Str × D) → List (Str × Ow) → Prop

/-- X' has no more of the old places than X -/
def Sub (X X' : Addr → Prop) (s : Shared) : Prop := ∀ a, X' a → X a ∨ s.heap.get? a = Option.none
theorem Sub.refl (X) (s : Shared) : Sub X X s := fun _ h => .inl h
theorem none_back {X : Addr → Prop} {s s' : Shared} (g : Went X s s') {a : Addr} (h : s'.heap.get? a = Option.none) : X a ∨ s.heap.get? a = Option.none := by
  cases e : s.heap.get? a with
  | none => exact .inr rfl
  | some o =>
    refine .inl (Classical.byContradiction fun hx => ?_)
    rw [g.ext a o hx e] at h; cases h
theorem Sub.trans {X X' X'' : Addr → Prop} {s s' : Shared} (a : Sub X X' s) (g : Went X s s') (b : Sub X' X'' s') : Sub X X'' s := fun p h =>
  (b p h).elim (a p) fun e => none_back g e
theorem Went.step {X X' : Addr → Prop} {s s' s'' : Shared} (g : Went X s s') (a : Sub X X' s) (g' : Went X' s' s'') : Went X s s'' := by
  obtain ⟨h, dr, t, rfl, l, k⟩ := g.out
  obtain ⟨h', dr', t', rfl, l', k'⟩ := g'.out
  refine ⟨h', t', rfl, Nat.le_trans l l', fun p o q e => k' p o (fun x => (a p x).elim q fun n => ?_) (k p o q e)⟩
  rw [n] at e; cases e

section
variable (prog : Program) (w : World) (hB : Bs) (n : Nat) (B : List Str) (env : Env)

def Post (prog : Program) (w : World) (Y M : Addr → Prop) (Q : Po) (s : Shared) (f : Flow) (s' : Shared) : Prop :=
  Went M s s' ∧ ∃ fl M' ρ' μ', FlIs prog w (YM Y M') s' f fl ∧ Sub M M' s ∧ Sta prog w hB Y M' B env ρ' μ' s' ∧ Q fl ρ' μ'

def Ex (ρ : List (Str × D)) (μ : List (Str × Ow)) (ss : List Stmt) (Q : Po) : Prop :=
  ∀ A Y M s E, Room n A → Sta prog w hB Y M B env ρ μ s → wpAny (model prog w) A (execs ss env) (Post hB B env prog w Y M Q s) E s
def Ex1 (ρ : List (Str × D)) (μ : List (Str × Ow)) (st : Stmt) (Q : Po) : Prop :=
  ∀ A Y M s E, Room n A → Sta prog w hB Y M B env ρ μ s → wpAny (model prog w) A (exec st env) (Post hB B env prog w Y M Q s) E s
end

section
variable {prog : Program} {w : World} {hB : Bs} {n : Nat} {B : List Str} {env : Env} {ρ : List (Str × D)} {μ : List (Str × Ow)} {Q : Po}

theorem Post.step {prog : Program} {w : World} {Y X X' : Addr → Prop} {s s' : Shared} {f s''} (g : Went X s s') (a : Sub X X' s) (h : Post hB B env prog w Y X' Q s' f s'') : Post hB B env prog w Y X Q s f s'' := by
  obtain ⟨g', fl, X'', ρ', μ', h1, h2, h3, h4⟩ := h
  exact ⟨g.step a g', fl, X'', ρ', μ', h1, a.trans g h2, h3, h4⟩

theorem Ex.nil (h : Q .next ρ μ) : Ex prog w hB n B env ρ μ [] Q := fun A Y X s E hr S =>
  wpAny_execs_nil ⟨Went.refl _ _, .next, X, ρ, μ, trivial, Sub.refl _ _, S, h⟩

/-- what follows a statement -/
def andThen (K : List (Str × D) → List (Str × Ow) → Prop) (Q : Po) : Po := fun fl ρ μ => match fl with
  | .next => K ρ μ
  | fl => Q fl ρ μ

theorem Ex.cons {st : Stmt} {rest : List Stmt} (h : Ex1 prog w hB n B env ρ μ st (andThen (fun ρ' μ' => Ex prog w hB n B env ρ' μ' rest Q) Q)) : Ex prog w hB n B env ρ μ (st :: rest) Q := by
  intro A Y X s E hr S
  refine wpAny_execs_cons (wpAny_mono (h A Y X s E hr S) (fun f s₁ h₁ => ?_) fun _ _ e => e)
  obtain ⟨g, fl, X', ρ', μ', h1, h2, h3, h4⟩ := h₁
  cases f <;> cases fl <;> try exact h1.elim
  · exact wpAny_mono (h4 A Y X' s₁ E hr h3) (fun f s₂ h₂ => h₂.step g h2) fun _ _ e => e
  · exact ⟨g, .brk, X', ρ', μ', h1, h2, h3, h4⟩
  · exact ⟨g, .cont, X', ρ', μ', h1, h2, h3, h4⟩
  · exact ⟨g, .ret _, X', ρ', μ', h1, h2, h3, h4⟩

theorem Ex.mono {ss : List Stmt} {Q' : Po} (h : Ex prog w hB n B env ρ μ ss Q') (hq : ∀ fl ρ' μ', Q' fl ρ' μ' → Q fl ρ' μ') : Ex prog w hB n B env ρ μ ss Q := by
  intro A Y X s E hr S
  refine wpAny_mono (h A Y X s E hr S) (fun f s' h₁ => ?_) fun _ _ e => e
  obtain ⟨g, fl, X', ρ', μ', h1, h2, h3, h4⟩ := h₁
  exact ⟨g, fl, X', ρ', μ', h1, h2, h3, hq _ _ _ h4⟩
theorem Sta.weaken {prog : Program} {w : World} { Y X s} {ρ' : List (Str × D)} {μ' : List (Str × Ow)} (S : Sta prog w hB Y X B env ρ μ s) (h : ∀ x d, ρ'.lookup x = some d → ρ.lookup x = some d) (h' : ∀ x o, μ'.lookup x = some o → μ.lookup x = some o) :
    Sta prog w hB Y X B env ρ' μ' s := ⟨⟨S.ok.sit, S.ok.apart, fun x d e => S.ok.names x d (h x d e)⟩, S.frm, fun x o e => S.own x o (h' x o e)⟩
theorem Ex.weaken {ss : List Stmt} {ρ' : List (Str × D)} {μ' : List (Str × Ow)} (h : Ex prog w hB n B env ρ' μ' ss Q) (h1 : ∀ x d, ρ'.lookup x = some d → ρ.lookup x = some d) (h2 : ∀ x o, μ'.lookup x = some o → μ.lookup x = some o) :
    Ex prog w hB n B env ρ μ ss Q := fun A Y X s E hr S => h A Y X s E hr (S.weaken h1 h2)

theorem Ex1.assign {x : Str} {pos' pos : Pos} {e : PySem.Expr} {d : D} (he : Ev prog w hB n env ρ e d) (hx : x ∈ B) (hq : Q .next ((x, d) :: ρ) (dropO x μ))
    (hs : swapsWith e (some (.Name x pos')) pos.line env = pure false := by rfl) : Ex1 prog w hB n B env ρ μ (.Assign [.Name x pos'] e pos) Q := by
  intro A Y X s E hr S
  refine wpAny_Assign_Name (wpAny_mono (he A _ s E hr S.ok) (fun v s₁ h₁ => ?_) fun _ _ e => e) hs
  obtain ⟨g, r⟩ := h₁
  refine (S.keep g).bind r hx fun s₂ g₂ S₂ => ?_
  exact ⟨(g.went).trans g₂, .next, X, _, _, trivial, Sub.refl _ _, S₂, hq⟩

theorem Ex1.aug {x : Str} {pos' pos : Pos} {op : Operator} {e : PySem.Expr} {a b d : D} (ha : ρ.lookup x = some a) (he : Ev prog w hB n env ρ e b) (hx : x ∈ B)
    (ho : Giv2 prog w hB n (inplaceOp op) a b d) (hq : Q .next ((x, d) :: ρ) (dropO x μ)) (hk : env.scope.kind = .function) (hn : (x == ("__classdict__" : Str)) = false := by decide) :
    Ex1 prog w hB n B env ρ μ (.AugAssign (.Name x pos') op e pos) Q := by
  intro A Y X s E hr S
  obtain ⟨v, hv, rv⟩ := S.ok.names x a ha
  refine wpAny_AugAssign_Name ?_
  have fin : wpAny (model prog w) A (eval e env) (fun u s₂ => wpAny (model prog w) A (inplaceOp op v u) (fun r s₃ => wpAny (model prog w) A (storeName env x r) (fun _ => Post hB B env prog w Y X Q s .next) E s₃) E s₂) E s := by
    refine wpAny_mono (he A _ s E hr S.ok) (fun u s₁ h₁ => ?_) fun _ _ e => e
    obtain ⟨g, r⟩ := h₁
    refine wpAny_mono (ho A _ s₁ E v u hr (S.keep g).ok.sit (rv.keep g) r) (fun c s₂ h₂ => ?_) fun _ _ e => e
    refine ((S.keep g).keep h₂.1).bind h₂.2 hx fun s₃ g₃ S₃ => ?_
    exact ⟨((g.trans h₂.1).went).trans g₃, .next, X, _, _, trivial, Sub.refl _ _, S₃, hq⟩
  rcases hv with ⟨hk', m, hm, hmx⟩ | ⟨hk', c, hc, hi⟩
  · exact wpAny_loadName_local hk hk' hm hmx fin
  · rcases hk' with hk' | hk'
    · exact wpAny_loadName_cell hk hk' hc hi fin
    · exact wpAny_loadName_free hk hk' hc hi fin hn

theorem Ex1.ret {pos : Pos} {e : PySem.Expr} {d : D} (he : Ev prog w hB n env ρ e d) (hq : Q (.ret d) ρ μ) : Ex1 prog w hB n B env ρ μ (.Return (some e) pos) Q := by
  intro A Y X s E hr S
  refine wpAny_Return_some (wpAny_mono (he A _ s E hr S.ok) (fun v s₁ h₁ => ?_) fun _ _ e => e)
  obtain ⟨g, r⟩ := h₁
  exact ⟨g.went, .ret d, X, ρ, μ, r, Sub.refl _ _, S.keep g, hq⟩

theorem Ex1.brk {pos : Pos} (hq : Q .brk ρ μ) : Ex1 prog w hB n B env ρ μ (.Break pos) Q := fun A Y X s E hr S =>
  wpAny_Break ⟨Went.refl _ _, .brk, X, ρ, μ, trivial, Sub.refl _ _, S, hq⟩

theorem Ex1.ite {t : PySem.Expr} {body orelse : List Stmt} {pos : Pos} {b : Bool} (ht : Tr prog w hB n env ρ t b) (h1 : b = true → Ex prog w hB n B env ρ μ body Q) (h2 : b = false → Ex prog w hB n B env ρ μ orelse Q) :
    Ex1 prog w hB n B env ρ μ (.If t body orelse pos) Q := by
  intro A Y X s E hr S
  refine wpAny_If (wpAny_mono (ht A _ s E hr S.ok) (fun c s₁ h₁ => ?_) fun _ _ e => e)
  obtain ⟨g, rfl⟩ := h₁
  cases c with
  | true => exact wpAny_mono (h1 rfl A Y X s₁ E hr (S.keep g)) (fun f s₂ h₂ => h₂.step g.went (Sub.refl _ _)) fun _ _ e => e
  | false => exact wpAny_mono (h2 rfl A Y X s₁ E hr (S.keep g)) (fun f s₂ h₂ => h₂.step g.went (Sub.refl _ _)) fun _ _ e => e

/-- a target and what is bound by it -/
inductive Tg : PySem.Expr → D → List (Str × D) → Prop
  | name {x pos d} : Tg (.Name x pos) d [(x, d)]
  | pair {x y k p1 p2 pos a b} : Tg (.Tuple [.Name x p1, .Name y p2] k pos) (.tuple [a, b]) [(x, a), (y, b)]

def bindAll : List (Str × D) → List (Str × D) → List (Str × D)
  | [], ρ => ρ
  | p :: r, ρ => bindAll r (p :: ρ)
def dropAll : List (Str × D) → List (Str × Ow) → List (Str × Ow)
  | [], μ => μ
  | p :: r, μ => dropAll r (dropO p.1 μ)

theorem Gone.extBut {s : Shared} {h' : Heap} (he : Heap.ExtBut s.heap.objs.size s.heap h') : Gone s { s with heap := h' } :=
  Gone.mkh fun b o e => he b o (fun q => by rw [q, get?_size_none] at e; cases e) e

theorem Sta.assign {tg : PySem.Expr} {d : D} {bs : List (Str × D)} {A : Around} {Y X : Addr → Prop} {s : Shared} {E : Value → Shared → Prop} {v : Value} {R : Unit → Shared → Prop} (S : Sta prog w hB Y X B env ρ μ s) (hh : A.handled = Option.none)
    (ht : Tg tg d bs) (hb : ∀ p ∈ bs, p.1 ∈ B) (r : Rd prog w (YM Y X) s v d)
    (h : ∀ s', Went X s s' → Sta prog w hB Y X B env (bindAll bs ρ) (dropAll bs μ) s' → R () s') : wpAny (model prog w) A (assign tg env v) R E s := by
  cases ht with
  | name =>
    exact wpAny_assign_Name (S.bind r (hb _ (.head _)) fun s' g S' => h s' g S')
  | @pair x y k p1 p2 pos a b =>
    obtain ⟨l, vs, c, rfl, hx, ho, rl⟩ := r.tuple_inv
    obtain ⟨v1, vs1, rfl, r1, rl1⟩ := rl.cons_inv
    obtain ⟨v2, vs2, rfl, r2, rl2⟩ := rl1.cons_inv
    have := rl2.nil_inv; subst this
    refine wpAny_assign_Tuple (items := [v1, v2].toArray) hh ⟨_, ho, rfl, _, rfl⟩ rfl rfl fun h' he => ?_
    have g := Gone.extBut he
    show wpAny _ _ (assignInOrder [PySem.assign (.Name x p1) env, PySem.assign (.Name y p2) env] [v1, v2]) _ _ _
    refine wpAny_bind (wpAny_holding (wpAny_assign_Name ((S.keep g).bind (r1.keep g) (hb _ (.head _)) fun s₁ g₁ S₁ => ?_)))
    refine wpAny_bind (wpAny_holding (wpAny_assign_Name (S₁.bind ((r2.keep g).went (g₁.on fun _ q => .inl (.inr q))) (hb _ (.tail _ (.head _))) fun s₂ g₂ S₂ => ?_)))
    exact wpAny_pure (h s₂ ((g.went.trans g₁).trans g₂) S₂)

/-- the turns of a for, one after the other -/
def ForR (prog : Program) (w : World) (hB : Bs) (n : Nat) (B : List Str) (env : Env) (tg : PySem.Expr) (body : List Stmt) (Q : Po) : List D → List (Str × D) → List (Str × Ow) → Prop
  | [], ρ, μ => Q .next ρ μ
  | it :: its, ρ, μ => ∃ bs, Tg tg it bs ∧ (∀ p ∈ bs, p.1 ∈ B) ∧ Ex prog w hB n B env (bindAll bs ρ) (dropAll bs μ) body fun fl ρ' μ' => match fl with
    | .next | .cont => ForR prog w hB n B env tg body Q its ρ' μ'
    | .brk => Q .next ρ' μ'
    | .ret d => Q (.ret d) ρ' μ'

/-- the value, where what the frame owns may be read too -/
def EvM (prog : Program) (w : World) (hB : Bs) (n : Nat) (B : List Str) (env : Env) (ρ : List (Str × D)) (μ : List (Str × Ow)) (e : PySem.Expr) (d : D) : Prop :=
  ∀ A Y M s E, Room n A → Sta prog w hB Y M B env ρ μ s → wpAny (model prog w) A (eval e env) (fun v s' => Gone s s' ∧ Rd prog w (YM Y M) s' v d) E s
theorem Ev.m {e : PySem.Expr} {d : D} (h : Ev prog w hB n env ρ e d) : EvM prog w hB n B env ρ μ e d := fun A Y M s E hr S => h A _ s E hr S.ok

/-- «for .. in e» hands its -/
def Its (prog : Program) (w : World) (hB : Bs) (n : Nat) (env : Env) (ρ : List (Str × D)) (e : PySem.Expr) (its : List D) : Prop :=
  ∀ A X s (E : Value → Shared → Prop) (Q : Value → Shared → Prop), Room n A → SOk prog w hB X env ρ s →
    (∀ I s₂, Gone s s₂ → s.heap.get? I = Option.none → (∃ o, s₂.heap.get? I = some o) →
      (∀ Z : Addr → Prop, (∀ a, Z a → X a ∨ s₂.heap.get? a = Option.none) → ¬ Z I → ∃ St, (∀ A', A'.handled = Option.none → Wk prog w hB.lo A' Z I its St) ∧ St 0 s₂) → Q (.ref I) s₂) →
    wpAny (model prog w) A (eval e env) (fun v s₁ => wpAny (model prog w) A (pyIter v) Q E s₁) E s
def ItsM (prog : Program) (w : World) (hB : Bs) (n : Nat) (B : List Str) (env : Env) (ρ : List (Str × D)) (μ : List (Str × Ow)) (e : PySem.Expr) (its : List D) : Prop :=
  ∀ A Y M s (E : Value → Shared → Prop) (Q : Value → Shared → Prop), Room n A → Sta prog w hB Y M B env ρ μ s →
    (∀ I s₂, Gone s s₂ → s.heap.get? I = Option.none → (∃ o, s₂.heap.get? I = some o) →
      (∀ Z : Addr → Prop, (∀ a, Z a → YM Y M a ∨ s₂.heap.get? a = Option.none) → ¬ Z I → ∃ St, (∀ A', A'.handled = Option.none → Wk prog w hB.lo A' Z I its St) ∧ St 0 s₂) → Q (.ref I) s₂) →
    wpAny (model prog w) A (eval e env) (fun v s₁ => wpAny (model prog w) A (pyIter v) Q E s₁) E s
theorem Its.m {e : PySem.Expr} {its : List D} (h : Its prog w hB n env ρ e its) : ItsM prog w hB n B env ρ μ e its := fun A Y M s E Q hr S => h A _ s E Q hr S.ok
theorem gone_none {s s' : Shared} (g : Gone s s') {a : Addr} (h : s'.heap.get? a = Option.none) : s.heap.get? a = Option.none := by
  cases e : s.heap.get? a with
  | none => rfl
  | some o => rw [g.keep a o e] at h; cases h
theorem ItsM.of {e : PySem.Expr} {d : D} {its : List D} (hi : EvM prog w hB n B env ρ μ e d) (hr : Runs prog w hB n d its) : ItsM prog w hB n B env ρ μ e its := by
  intro A Y M s E Q hrm S k
  refine wpAny_mono (hi A Y M s E hrm S) (fun v s₁ h₁ => ?_) fun _ _ e => e
  obtain ⟨g, r⟩ := h₁
  exact hr A _ s₁ v _ E hrm (S.keep g).ok.sit r fun I s₂ g₂ hI hI' hZ => k I s₂ (g.trans g₂) (gone_none g hI) hI' fun Z h1 h2 => hZ Z (fun a ha => (h1 a ha).imp id fun e => gone_none g₂ e) h2
theorem Its.of {e : PySem.Expr} {d : D} {its : List D} (hi : Ev prog w hB n env ρ e d) (hr : Runs prog w hB n d its) : Its prog w hB n env ρ e its := by
  intro A X s E Q hrm S k
  refine wpAny_mono (hi A X s E hrm S) (fun v s₁ h₁ => ?_) fun _ _ e => e
  obtain ⟨g, r⟩ := h₁
  exact hr A _ s₁ v _ E hrm (S.keep g).sit r fun I s₂ g₂ hI hI' hZ => k I s₂ (g.trans g₂) (gone_none g hI) hI' fun Z h1 h2 => hZ Z (fun a ha => (h1 a ha).imp id fun e => gone_none g₂ e) h2

theorem Ex1.forI {tg iter : PySem.Expr} {body : List Stmt} {pos : Pos} {its : List D} (hi : ItsM prog w hB n B env ρ μ iter its)
    (h : ForR prog w hB n B env tg body Q its ρ μ) (hs : ∀ x, foldedSetIterable iter env x = pure x := by intro _; rfl) : Ex1 prog w hB n B env ρ μ (.For tg iter body [] pos) Q := by
  intro A Y X s E hrm S
  refine wpAny_For (hi A Y X s E _ hrm S fun I s₂ G hIs hI' hZ => ?_) hs
  have S₂ := S.keep G
  have hXI : ¬ YM Y X I := fun x => by
    obtain ⟨o, e⟩ := S.ok.sit.live I x
    rw [hIs] at e; cases e
  -- what may turn meanwhile
  obtain ⟨St, hW, hSt⟩ := hZ (fun a => YM Y X a ∨ s₂.heap.get? a = Option.none) (fun a ha => ha) (fun z => z.elim hXI fun e => by obtain ⟨o, eo⟩ := hI'; rw [eo] at e; cases e)
  have W := hW A hrm.1
  have hIB : hB.h.get? I = Option.none := by
    cases q : hB.h.get? I with
    | none => rfl
    | some o => rw [S.ok.sit.base I o q] at hIs; cases hIs
  -- from a place behind to the start
  have back : ∀ {s' f fl X'' ρ'' μ''}, Went (fun a => X a ∨ a = I) s₂ s' → Sub X X'' s₂ → FlIs prog w (YM Y X'') s' f fl → Sta prog w hB Y X'' B env ρ'' μ'' s' → Q fl ρ'' μ'' → Post hB B env prog w Y X Q s f s' := by
    intro s' f fl X'' ρ'' μ'' h1 h2 h3 h4 h5
    refine ⟨(G.went (X := X)).step (fun a ha => ha.elim .inl fun e => .inr (e ▸ hIs)) h1, fl, X'', ρ'', μ'', h3, fun a ha => (h2 a ha).elim .inl fun e => .inr ?_, h4, h5⟩
    cases q : s.heap.get? a with
    | none => rfl
    | some o => rw [G.keep a o q] at e; cases e
  refine codeAny_forLoop_any (fun k s => ∃ i X' ρ' μ', i + k = its.length ∧ St i s ∧ Went (fun a => X a ∨ a = I) s₂ s ∧ Sub X X' s₂ ∧ ¬ YM Y X' I ∧ Sta prog w hB Y X' B env ρ' μ' s ∧ ForR prog w hB n B env tg body Q (its.drop i) ρ' μ') ?_ its.length
    ⟨0, X, ρ, μ, Nat.zero_add _, hSt, Went.refl _ _, Sub.refl _ _, hXI, S₂, h⟩
  rintro k s₄ ⟨i, X', ρ', μ', hik, hst, hw4, hsub, hXI', S4, hF⟩
  obtain ⟨oI, vsI, heI, hdI⟩ := W.iso i s₄ hst
  by_cases hlt : i < its.length
  · have hd : its[i]? = some its[i] := by simp [hlt]
    have hdrop : its.drop i = its[i] :: its.drop (i + 1) := List.drop_eq_getElem_cons hlt
    rw [hdrop] at hF
    obtain ⟨bs, htg, hbs, hex⟩ := hF
    refine W.item i its[i] s₄ _ _ hd hst S4.ok.sit.tlo fun v' s₅ g5 hst5 r5 => ?_
    have hZ' : ∀ a, YM Y X' a → YM Y X a ∨ s₂.heap.get? a = Option.none := fun a ha => ha.elim (fun y => .inl (.inl y)) fun m => (hsub a m).elim (fun x => .inl (.inr x)) .inr
    have r5' : Rd prog w (YM Y X') s₅ v' its[i] := r5.off fun a ha => .inl (hZ' a ha)
    have S5 : Sta prog w hB Y X' B env ρ' μ' s₅ := S4.other g5 hXI' hIB heI hdI
    refine W.quiet (i + 1) s₅ tg v' _ _ hst5 ?_
    refine S5.assign hrm.1 htg hbs r5' fun s₆ g6 S6 => ?_
    refine wpAny_mono (hex A Y X' s₆ _ hrm S6) (fun f s₇ h₇ => ?_) fun _ _ e => e
    obtain ⟨g7, fl, X'', ρ'', μ'', h1, h2, h3, h4⟩ := h₇
    have hst7 : St (i + 1) s₇ := W.stay _ _ _ hst5 ((g6.trans g7).on fun p hp => .inl (hZ' p (.inr hp)))
    obtain ⟨oI7, _, heI7, _⟩ := W.iso _ _ hst7
    have hst6 : St (i + 1) s₆ := W.stay _ _ _ hst5 (g6.on fun p hp => .inl (hZ' p (.inr hp)))
    obtain ⟨oI6, _, heI6, _⟩ := W.iso _ _ hst6
    have hw5 : Went (fun a => X a ∨ a = I) s₂ s₅ := hw4.trans (g5.on fun p hp => .inl (.inr hp))
    have hsubI : Sub (fun a => X a ∨ a = I) X' s₂ := fun a ha => (hsub a ha).elim (fun x => .inl (.inl x)) .inr
    have hw6 : Went (fun a => X a ∨ a = I) s₂ s₆ := hw5.step hsubI g6
    have hw7 : Went (fun a => X a ∨ a = I) s₂ s₇ := hw6.step hsubI g7
    have hX''I : ¬ YM Y X'' I := fun x => x.elim (fun y => hXI' (.inl y)) fun m => (h2 I m).elim (fun q => hXI' (.inr q)) fun e => by rw [heI6] at e; cases e
    have hsub7 : Sub X X'' s₂ := fun a ha => (h2 a ha).elim (hsub a) fun e => (none_back hw6 e).elim (fun q => q.elim .inl fun q => by subst q; exact absurd (.inr ha) hX''I) .inr
    cases f <;> cases fl <;> try exact h1.elim
    · exact ⟨k - 1, by omega, i + 1, X'', ρ'', μ'', by omega, hst7, hw7, hsub7, hX''I, h3, h4⟩
    · exact back (f := .next) (fl := .next) hw7 hsub7 trivial h3 h4
    · exact ⟨k - 1, by omega, i + 1, X'', ρ'', μ'', by omega, hst7, hw7, hsub7, hX''I, h3, h4⟩
    · exact back (f := .ret _) (fl := .ret _) hw7 hsub7 h1 h3 h4
  · have hi : i = its.length := by omega
    subst hi
    rw [List.drop_length] at hF
    refine W.done s₄ _ _ hst fun s₅ g5 => ?_
    have S5 : Sta prog w hB Y X' B env ρ' μ' s₅ := S4.other g5 hXI' hIB heI hdI
    exact wpAny_execs_nil (back (f := .next) (fl := .next) (hw4.trans (g5.on fun p hp => .inl (.inr hp))) hsub trivial S5 hF)
theorem Ex1.forM {tg iter : PySem.Expr} {body : List Stmt} {pos : Pos} {d : D} {its : List D} (hi : EvM prog w hB n B env ρ μ iter d) (hr : Runs prog w hB n d its)
    (h : ForR prog w hB n B env tg body Q its ρ μ) (hs : ∀ x, foldedSetIterable iter env x = pure x := by intro _; rfl) : Ex1 prog w hB n B env ρ μ (.For tg iter body [] pos) Q := Ex1.forI (.of hi hr) h hs
theorem Ex1.for {tg iter : PySem.Expr} {body : List Stmt} {pos : Pos} {d : D} {its : List D} (hi : Ev prog w hB n env ρ iter d) (hr : Runs prog w hB n d its)
    (h : ForR prog w hB n B env tg body Q its ρ μ) (hs : ∀ x, foldedSetIterable iter env x = pure x := by intro _; rfl) : Ex1 prog w hB n B env ρ μ (.For tg iter body [] pos) Q := Ex1.forM hi.m hr h hs
end
end Mine

set_option maxHeartbeats 1000000
namespace Mine
open PySem PySem.W PyProof.Rows PySem.Calls

theorem get?_ge {h : Heap} {a : Addr} (ha : h.objs.size ≤ a) : h.get? a = Option.none := by
  cases e : h.get? a with
  | none => rfl
  | some o => exact absurd (Heap.lt_size e) (Nat.not_lt.mpr ha)
theorem lt_of_cell {h : Heap} {a : Addr} {v} (x : h.IsCell a v) : a < h.objs.size := let ⟨_, e, _⟩ := x; Heap.lt_size e

/-- the captured cells -/
def closeOf (cells : List (Str × Addr)) : List (Str × NameKind) → List (Str × Addr) → List (Str × Addr)
  | [], acc => acc
  | (y, k) :: r, acc => if k == .free then closeOf cells r ((y, (cells.lookup y).getD 0) :: acc) else closeOf cells r acc

theorem closure_of {scope : Scope} {env : Env} (h : ∀ p ∈ scope.names, p.2 = .free → (env.cells.lookup p.1).isSome = true) : closureFor scope env = pure (closeOf env.cells scope.names []) := by
  have key : ∀ (names : List (Str × NameKind)) (acc : List (Str × Addr)), (∀ p ∈ names, p.2 = .free → (env.cells.lookup p.1).isSome = true) →
      (forIn names acc fun (x : Str × NameKind) (r : List (Str × Addr)) => (if (x.2 == NameKind.free) = true then do let a ← cellOf env x.1; pure (ForInStep.yield ((x.1, a) :: r)) else pure (ForInStep.yield r) : Sem (ForInStep (List (Str × Addr))))) = pure (closeOf env.cells names acc) := by
    intro names
    induction names with
    | nil => intro acc _; rfl
    | cons p r ih =>
      intro acc hp
      obtain ⟨y, k⟩ := p
      rw [List.forIn_cons]
      by_cases hk : (k == NameKind.free) = true
      · have hk' : k = .free := by simpa using hk
        have hc := hp (y, k) (.head _) hk'
        obtain ⟨c, hc⟩ := Option.isSome_iff_exists.mp hc
        have e1 : cellOf env y = pure c := by unfold cellOf; rw [hc]
        have ih' := ih ((y, c) :: acc) fun q hq => hp q (.tail _ hq)
        simp only [hk, if_true, e1, pure_bind]
        rw [closeOf, if_pos hk, hc]
        exact ih'
      · simp only [hk, if_false, pure_bind, Bool.false_eq_true]
        rw [closeOf, if_neg hk]
        exact ih acc fun q hq => hp q (.tail _ hq)
  have := key scope.names [] h
  unfold closureFor
  dsimp only
  refine Eq.trans (bind_pure _) (Eq.trans ?_ this)
  congr 1

theorem closeOf_spec {cells : List (Str × Addr)} : ∀ {names : List (Str × NameKind)} {acc : List (Str × Addr)} {x : Str} {c : Addr}, (∀ p ∈ names, p.2 = .free → (cells.lookup p.1).isSome = true) → (closeOf cells names acc).lookup x = some c →
    acc.lookup x = some c ∨ cells.lookup x = some c
  | [], acc, x, c, _, h => .inl h
  | (y, k) :: r, acc, x, c, hp, h => by
    unfold closeOf at h
    have hr : ∀ p ∈ r, p.2 = .free → (cells.lookup p.1).isSome = true := fun q hq => hp q (.tail _ hq)
    split at h
    · rename_i hk
      rcases closeOf_spec hr h with q | q
      · rw [List.lookup_cons] at q
        by_cases hy : x = y
        · subst hy
          simp only [beq_self_eq_true] at q
          obtain ⟨c', hc⟩ := Option.isSome_iff_exists.mp (hp (x, k) (.head _) (by simpa using hk))
          rw [hc] at q; simp at q; subst q
          exact .inr hc
        · have : (x == y) = false := by simpa using hy
          simp only [this] at q
          exact .inl q
      · exact .inr q
    · exact closeOf_spec hr h
theorem closeOf_has {cells : List (Str × Addr)} : ∀ {names : List (Str × NameKind)} {acc : List (Str × Addr)} {x : Str} {c : Addr}, cells.lookup x = some c → ((x, NameKind.free) ∈ names ∨ acc.lookup x = some c) → (closeOf cells names acc).lookup x = some c
  | [], acc, x, c, hc, h => h.elim (fun q => nomatch q) id
  | (y, k) :: r, acc, x, c, hc, h => by
    unfold closeOf
    split
    · rename_i hk
      refine closeOf_has hc ?_
      by_cases hy : x = y
      · subst hy; exact .inr (by simp [List.lookup_cons, hc])
      · have e : (x == y) = false := by simpa using hy
        rcases h with h | h
        · rcases List.mem_cons.mp h with q | q
          · cases q; exact absurd rfl hy
          · exact .inl q
        · exact .inr (by rw [List.lookup_cons]; simp only [e]; exact h)
    · rename_i hk
      refine closeOf_has hc ?_
      rcases h with h | h
      · rcases List.mem_cons.mp h with q | q
        · cases q; exact absurd rfl hk
        · exact .inl q
      · exact .inr h

/-- own cells -/
theorem cells_old : ∀ {names : List (Str × NameKind)} {n : Nat} {acc : List (Str × Addr)} {x : Str}, (∀ p ∈ names, p.1 = x → p.2 ≠ .cell) → (cellsFrom n names acc).lookup x = acc.lookup x
  | [], _, _, _, _ => rfl
  | (y, k) :: r, n, acc, x, h => by
    unfold cellsFrom
    have hr : ∀ p ∈ r, p.1 = x → p.2 ≠ .cell := fun p hp => h p (.tail _ hp)
    split
    · rename_i hk
      rw [cells_old hr, List.lookup_cons]
      have : (x == y) = false := by
        cases q : x == y with
        | false => rfl
        | true => exact absurd (by simpa using hk) (h (y, k) (.head _) (by simpa using q : x = y).symm)
      simp only [this]
    · exact cells_old hr
theorem cells_spec : ∀ {names : List (Str × NameKind)} {h : Heap} {acc : List (Str × Addr)}, (∀ x c, acc.lookup x = some c → c < h.objs.size) → Apart acc →
    Apart (cellsFrom h.objs.size names acc) ∧ ∀ x c, (cellsFrom h.objs.size names acc).lookup x = some c → acc.lookup x = some c ∨ (h.objs.size ≤ c ∧ (pushCells h names).IsCell c Option.none)
  | [], h, acc, _, ha => ⟨ha, fun x c e => .inl e⟩
  | (y, k) :: r, h, acc, hlt, ha => by
    unfold cellsFrom pushCells
    split
    · rename_i hk
      have ih := cells_spec (names := r) (h := h.push { cls := .type "cell", data := .cell Option.none }) (acc := (y, h.objs.size) :: acc)
        (fun x c e => by
          rw [List.lookup_cons] at e
          rw [Heap.size_push]
          split at e
          · cases e; exact Nat.lt_succ_self _
          · exact Nat.lt_succ_of_lt (hlt x c e))
        (fun x z c e1 e2 => by
          rw [List.lookup_cons] at e1 e2
          by_cases h1 : x = y
          · by_cases h2 : z = y
            · rw [h1, h2]
            · have q2 : (z == y) = false := by simpa using h2
              subst h1
              simp only [beq_self_eq_true] at e1
              simp only [q2] at e2
              cases e1
              exact absurd (hlt _ _ e2) (Nat.lt_irrefl _)
          · have q1 : (x == y) = false := by simpa using h1
            simp only [q1] at e1
            by_cases h2 : z = y
            · subst h2
              simp only [beq_self_eq_true] at e2
              cases e2
              exact absurd (hlt _ _ e1) (Nat.lt_irrefl _)
            · have q2 : (z == y) = false := by simpa using h2
              simp only [q2] at e2
              exact ha x z c e1 e2)
      rw [Heap.size_push] at ih
      refine ⟨ih.1, fun x c e => ?_⟩
      rcases ih.2 x c e with q | ⟨q1, q2⟩
      · rw [List.lookup_cons] at q
        split at q
        · cases q
          refine .inr ⟨Nat.le_refl _, _, pushCells_keeps r _ _ _ (Heap.get?_push_size _ rfl), rfl⟩
        · exact .inl q
      · exact .inr ⟨Nat.le_of_succ_le q1, q2⟩
    · exact cells_spec hlt ha
theorem cells_own : ∀ {names : List (Str × NameKind)} {h : Heap} {acc : List (Str × Addr)} {x : Str}, (x, NameKind.cell) ∈ names → ∃ c, (cellsFrom h.objs.size names acc).lookup x = some c ∧ h.objs.size ≤ c
  | (y, k) :: r, h, acc, x, hm => by
    unfold cellsFrom
    split
    · rename_i hk
      by_cases hr : (x, NameKind.cell) ∈ r
      · obtain ⟨c, h1, h2⟩ := cells_own (h := h.push { cls := .type "cell", data := .cell Option.none }) (acc := (y, h.objs.size) :: acc) hr
        rw [Heap.size_push] at h1 h2
        exact ⟨c, h1, Nat.le_of_succ_le h2⟩
      · rcases List.mem_cons.mp hm with q | q
        · cases q
          refine ⟨h.objs.size, ?_, Nat.le_refl _⟩
          rw [cells_old (fun p hp e => fun e2 => hr (by rw [← e, ← e2]; exact hp)), List.lookup_cons]
          simp
        · exact absurd q hr
    · rename_i hk
      rcases List.mem_cons.mp hm with q | q
      · cases q; exact absurd rfl hk
      · exact cells_own q

theorem lookup_relabel {env : Env} : ∀ {names : List (Str × NameKind)} {x : Str} {k : NameKind}, names.lookup x = some k →
    (names.map fun (n, k) => if (k == NameKind.free && env.scope.kind == .function && env.kindOf n == some .cell) then (n, NameKind.cell) else (n, k)).lookup x = some k ∨
    (k = .free ∧ (names.map fun (n, k) => if (k == NameKind.free && env.scope.kind == .function && env.kindOf n == some .cell) then (n, NameKind.cell) else (n, k)).lookup x = some .cell)
  | [], _, _, h => by simp at h
  | (n, k') :: r, x, k, h => by
    have ih := @lookup_relabel env r x k
    show List.lookup x ((if (k' == NameKind.free && env.scope.kind == .function && env.kindOf n == some .cell) = true then (n, NameKind.cell) else (n, k')) :: _) = _ ∨ (_ ∧ List.lookup x ((if (k' == NameKind.free && env.scope.kind == .function && env.kindOf n == some .cell) = true then (n, NameKind.cell) else (n, k')) :: _) = _)
    cases hx : x == n with
    | true =>
      simp only [List.lookup_cons, hx] at h
      cases h
      by_cases hc : (k' == NameKind.free && env.scope.kind == .function && env.kindOf n == some .cell) = true
      · rw [if_pos hc]
        right
        refine ⟨?_, by simp [List.lookup_cons, hx]⟩
        simp only [Bool.and_eq_true, beq_iff_eq] at hc
        exact hc.1.1
      · rw [if_neg hc]; left; simp [List.lookup_cons, hx]
    | false =>
      simp only [List.lookup_cons, hx] at h
      by_cases hc : (k' == NameKind.free && env.scope.kind == .function && env.kindOf n == some .cell) = true
      · rw [if_pos hc]; simp only [List.lookup_cons, hx]; exact ih h
      · rw [if_neg hc]; simp only [List.lookup_cons, hx]; exact ih h
end Mine

set_option maxHeartbeats 1000000
namespace Mine
open PySem PySem.W PyProof.Rows PySem.Calls

section
variable {prog : Program} {w : World} {hB : Bs} {n : Nat} {env : Env} {ρ ρc : List (Str × D)} {X : Addr → Prop} {B : List Str} {scope : Scope}

theorem lookup_mem {α : Type} {l : List (Str × α)} {x : Str} {a : α} (h : l.lookup x = some a) : (x, a) ∈ l := mem_of_lookup h
theorem lookup_nodup {names : List (Str × NameKind)} (hnd : (names.map (·.1)).Nodup) {x : Str} {k : NameKind} (h : (x, k) ∈ names) : names.lookup x = some k := by
  induction names with
  | nil => cases h
  | cons p r ih =>
    obtain ⟨y, k'⟩ := p
    rw [List.map_cons, List.nodup_cons] at hnd
    rw [List.lookup_cons]
    rcases List.mem_cons.mp h with q | q
    · cases q; simp
    · have : (x == y) = false := by
        cases e : x == y with
        | false => rfl
        | true =>
          have : x = y := by simpa using e
          subst this
          exact absurd (List.mem_map.mpr ⟨_, q, rfl⟩) hnd.1
      simp only [this]
      exact ih hnd.2 q

/-- what a comprehension asks of its names -/
structure Caps (env : Env) (ρ : List (Str × D)) (scope : Scope) (ρc : List (Str × D)) (B : List Str) : Prop where
  kind : scope.kind = .function
  nodup : (scope.names.map (·.1)).Nodup
  caps : ∀ p ∈ ρc, ρ.lookup p.1 = some p.2 ∧ scope.names.lookup p.1 = some .free ∧ env.kindOf p.1 ≠ some .local
  free : ∀ p ∈ scope.names, p.2 = .free → (ρc.lookup p.1).isSome = true
  bd : ∀ x ∈ B, scope.names.lookup x = some .local ∨ scope.names.lookup x = some .cell

def ownM (s₂ s₄ : Shared) : Addr → Prop := fun a => s₂.heap.get? a = Option.none ∧ ∃ o, s₄.heap.get? a = some o

theorem newFunctionEnv_comp {M : Model} {A : Around} {E : Value → Shared → Prop} {s : Shared} {cl : List (Str × Addr)} {Q : Env → Shared → Prop}
    (h : Q { scope, locals := s.heap.objs.size, globals := env.globals, cells := cellsFrom (s.heap.objs.size + 1) scope.names cl, qual := env.qual, func := Option.none, code := env.code, frame := env.frame, builtins := env.builtins }
      { s with heap := pushCells (s.heap.push { cls := .type "dict", data := .dict #[] }) scope.names }) :
    wpAny M A (newFunctionEnv scope env.globals cl [] env.qual Option.none .none (some env)) Q E s := by
  simp only [newFunctionEnv, Option.isSome_some, if_true]
  refine wpAny_bind (wpAny_alloc ?_)
  refine wpAny_bind (wpAny_layCells _ (fun name kind cells => by cases hkc : kind == NameKind.cell <;> simp [hkc]) _ _ _ _ ?_)
  rw [show ({ s with heap := s.heap.push { cls := .type "dict", data := .dict #[] } } : Shared).heap.objs.size = s.heap.objs.size + 1 from Heap.size_push ..]
  rw [List.forIn_nil]
  exact wpAny_bind (wpAny_pure (wpAny_pure h))

theorem Caps.closure (c : Caps env ρ scope ρc B) {s : Shared} (S : SOk prog w hB X env ρ s) : closureFor scope env = pure (closeOf env.cells scope.names []) ∧ ∀ p ∈ scope.names, p.2 = .free → (env.cells.lookup p.1).isSome = true := by
  have h : ∀ p ∈ scope.names, p.2 = .free → (env.cells.lookup p.1).isSome = true := by
    intro p hp hf
    obtain ⟨d, hd⟩ := Option.isSome_iff_exists.mp (c.free p hp hf)
    obtain ⟨h1, h2, h3⟩ := c.caps _ (lookup_mem hd)
    obtain ⟨v, hv, _⟩ := S.names _ _ h1
    rcases hv with ⟨hk, _⟩ | ⟨_, c', hc, _⟩
    · exact absurd hk h3
    · exact Option.isSome_iff_exists.mpr ⟨c', hc⟩
  exact ⟨closure_of h, h⟩

theorem SOk.grow {s₂ s₃ : Shared} {a : Addr} (S : SOk prog w hB X env ρ s₂) (g : Gone s₂ s₃) (h0 : s₂.heap.get? a = Option.none) (h1 : ∃ o, s₃.heap.get? a = some o) : SOk prog w hB (fun b => X b ∨ b = a) env ρ s₃ := by
  refine ⟨⟨S.sit.base.trans g.keep, ?_, ?_, Nat.lt_of_lt_of_le S.sit.tlo g.le⟩, S.apart, fun x d e => ?_⟩
  · rintro b (hb | rfl)
    · obtain ⟨o, e⟩ := S.sit.live b hb
      exact ⟨o, g.keep _ _ e⟩
    · exact h1
  · rintro b (hb | rfl)
    · exact S.sit.off b hb
    · cases q : hB.h.get? b with
      | none => rfl
      | some o => exact absurd (h0.symm.trans (S.sit.base b o q)) (by intro z; cases z)
  · obtain ⟨v, hv, r⟩ := S.names x d e
    exact ⟨v, hv.keep g.keep, (r.on fun b hb => hb.elim .inl fun q => .inr (q ▸ h0)).keep g⟩

/-- the frame of a comprehension, made -/
theorem comp_sta (c : Caps env ρ scope ρc B) {s₃ : Shared} (S : SOk prog w hB X env ρ s₃) :
    let s₄ : Shared := { s₃ with heap := pushCells (s₃.heap.push { cls := .type "dict", data := .dict #[] }) scope.names }
    Gone s₃ s₄ ∧ (Sta prog w hB X (ownM s₃ s₄) B (compEnvC scope (cellsFrom (s₃.heap.objs.size + 1) scope.names (closeOf env.cells scope.names [])) s₃.heap.objs.size env) ρc [] s₄) := by
  intro s₄
  have hcl := (c.closure S).2
  have k34 : Keep s₃.heap s₄.heap := fun b o' e => pushCells_keeps _ _ b o' (Heap.get?_push_of_some _ e)
  have g34 : Gone s₃ s₄ := Gone.mkh k34
  refine ⟨g34, ?_⟩
  have hsz : (s₃.heap.push { cls := .type "dict", data := .dict #[] }).objs.size = s₃.heap.objs.size + 1 := Heap.size_push ..
  have hlt : ∀ x a, (closeOf env.cells scope.names []).lookup x = some a → a < s₃.heap.objs.size := by
    intro x a e
    rcases closeOf_spec hcl e with q | q
    · cases q
    · -- captured by name
      have hx : ∃ p ∈ scope.names, p.1 = x ∧ p.2 = .free := by
        apply Classical.byContradiction
        intro hn
        have : ∀ (names : List (Str × NameKind)) (acc : List (Str × Addr)), (∀ p ∈ names, ¬ (p.1 = x ∧ p.2 = .free)) → (closeOf env.cells names acc).lookup x = acc.lookup x := by
          intro names
          induction names with
          | nil => intro acc _; rfl
          | cons p r ih =>
            intro acc hp
            obtain ⟨y, k⟩ := p
            unfold closeOf
            have hr := fun q hq => hp q (List.mem_cons_of_mem _ hq)
            split
            · rename_i hk
              rw [ih _ hr, List.lookup_cons]
              have : (x == y) = false := by
                cases e : x == y with
                | false => rfl
                | true => exact absurd ⟨(by simpa using e : x = y).symm, by simpa using hk⟩ (hp (y, k) (.head _))
              simp only [this]
            · exact ih _ hr
        rw [this scope.names [] (fun p hp q => hn ⟨p, hp, q⟩)] at e
        cases e
      obtain ⟨p, hp, rfl, hpf⟩ := hx
      obtain ⟨d, hd⟩ := Option.isSome_iff_exists.mp (c.free p hp hpf)
      obtain ⟨h1, h2, h3⟩ := c.caps _ (lookup_mem hd)
      obtain ⟨v, hv, _⟩ := S.names _ _ h1
      rcases hv with ⟨hk, _⟩ | ⟨_, c', hc, hi⟩
      · exact absurd hk h3
      · rw [q] at hc; cases hc; exact lt_of_cell hi
  have hap : Apart (closeOf env.cells scope.names []) := fun x y a e1 e2 => by
    rcases closeOf_spec hcl e1 with q1 | q1
    · cases q1
    rcases closeOf_spec hcl e2 with q2 | q2
    · cases q2
    exact S.apart x y a q1 q2
  have spec := cells_spec (names := scope.names) (h := s₃.heap.push { cls := .type "dict", data := .dict #[] }) (acc := closeOf env.cells scope.names [])
    (fun x a e => Nat.lt_of_lt_of_le (hlt x a e) (by rw [hsz]; exact Nat.le_succ _)) hap
  rw [hsz] at spec
  have hM : ∀ a, s₃.heap.objs.size ≤ a → (∃ o, s₄.heap.get? a = some o) → ownM s₃ s₄ a := fun a ha ho =>
    ⟨get?_ge ha, ho⟩
  have hNs : s₄.heap.Ns s₃.heap.objs.size fun _ => Option.none := (Heap.Ns.new s₃.heap (.type "dict")).keeps (pushCells_keeps _ _)
  refine ⟨⟨⟨S.sit.base.trans g34.keep, ?_, ?_, S.sit.tlo⟩, spec.1, ?_⟩, ⟨?_, ?_, ⟨_, hNs⟩, ?_, ?_⟩, fun x o' e => nomatch e⟩
  · rintro a (ha | ha)
    · obtain ⟨o', e⟩ := S.sit.live a ha
      exact ⟨o', g34.keep _ _ e⟩
    · exact ha.2
  · rintro a (ha | ha)
    · exact S.sit.off a ha
    · cases q : hB.h.get? a with
      | none => rfl
      | some o' => exact absurd (ha.1.symm.trans (S.sit.base a o' q)) (by intro z; cases z)
  · intro y d e
    obtain ⟨h1, h2, h3⟩ := c.caps _ (lookup_mem e)
    obtain ⟨v, hv, r⟩ := S.names _ _ h1
    refine ⟨v, .inr ?_, (r.on fun a ha => ha.elim .inl fun m => .inr m.1).keep g34⟩
    rcases hv with ⟨hk, _⟩ | ⟨_, c', hc, hi⟩
    · exact absurd hk h3
    refine ⟨?_, c', ?_, hi.keeps g34.keep⟩
    · rcases lookup_relabel (env := env) h2 with q | ⟨_, q⟩
      · exact .inr q
      · exact .inl q
    · show (cellsFrom (s₃.heap.objs.size + 1) scope.names (closeOf env.cells scope.names [])).lookup y = some c'
      rw [cells_old]
      · exact closeOf_has hc (.inl (lookup_mem h2))
      · intro p hp e1 e2
        have := lookup_nodup c.nodup hp
        rw [e1, h2] at this
        rw [e2] at this; cases this
  · exact c.kind
  · exact hM _ (Nat.le_refl _) (let ⟨o', _, _, e, _⟩ := hNs; ⟨o', e⟩)
  · intro x a e
    rcases spec.2 x a e with q | ⟨_, q⟩
    · rcases closeOf_spec hcl q with q' | q'
      · cases q'
      · have := hlt x a q
        -- a cell that is captured stands
        have hx : ∃ p ∈ scope.names, p.1 = x ∧ p.2 = .free := by
          apply Classical.byContradiction
          intro hn
          have : ∀ (names : List (Str × NameKind)) (acc : List (Str × Addr)), (∀ p ∈ names, ¬ (p.1 = x ∧ p.2 = .free)) → (closeOf env.cells names acc).lookup x = acc.lookup x := by
            intro names
            induction names with
            | nil => intro acc _; rfl
            | cons p r ih =>
              intro acc hp
              obtain ⟨y, k⟩ := p
              unfold closeOf
              have hr := fun q hq => hp q (List.mem_cons_of_mem _ hq)
              split
              · rename_i hk
                rw [ih _ hr, List.lookup_cons]
                have : (x == y) = false := by
                  cases e : x == y with
                  | false => rfl
                  | true => exact absurd ⟨(by simpa using e : x = y).symm, by simpa using hk⟩ (hp (y, k) (.head _))
                simp only [this]
              · exact ih _ hr
          rw [this scope.names [] (fun p hp q => hn ⟨p, hp, q⟩)] at q
          cases q
        obtain ⟨p, hp, rfl, hpf⟩ := hx
        obtain ⟨d, hd⟩ := Option.isSome_iff_exists.mp (c.free p hp hpf)
        obtain ⟨h1, h2, h3⟩ := c.caps _ (lookup_mem hd)
        obtain ⟨v, hv, _⟩ := S.names _ _ h1
        rcases hv with ⟨hk, _⟩ | ⟨_, c', hc, hi⟩
        · exact absurd hk h3
        · rw [q'] at hc; cases hc; exact ⟨_, hi.keeps g34.keep⟩
    · exact ⟨_, q⟩
  · intro x hx
    rcases c.bd x hx with q | q
    · exact .inl (lookup_relabel_local q)
    · right
      refine ⟨?_, ?_⟩
      · rcases lookup_relabel (env := env) q with q' | ⟨q', _⟩
        · exact q'
        · cases q'
      · obtain ⟨a, h1, h2⟩ := cells_own (names := scope.names) (h := s₃.heap.push { cls := .type "dict", data := .dict #[] }) (acc := closeOf env.cells scope.names []) (lookup_mem q)
        rw [hsz] at h1 h2
        refine ⟨a, h1, hM a (by omega) ?_⟩
        rcases spec.2 x a h1 with q' | ⟨_, o', q', _⟩
        · exact absurd (Nat.lt_of_lt_of_le (hlt x a q') (Nat.le_trans (Nat.le_succ _) h2)) (Nat.lt_irrefl _)
        · exact ⟨o', q'⟩
end
end Mine

set_option maxHeartbeats 1000000
namespace Mine
open PySem PySem.W PyProof.Rows PySem.Calls

/-- the tests of a clause -/
def TrIfs (prog : Program) (w : World) (hB : Bs) (n : Nat) (env : Env) (ρ : List (Str × D)) : List PySem.Expr → Bool → Prop
  | [], b => b = true
  | [c], b => Tr prog w hB n env ρ c b
  | _, _ => False
/-- names bound by a clause are no captured ones -/
theorem lookup_bindAll_one {p : Str × D} {ρ : List (Str × D)} {x : Str} {d : D} (hp : ρ.lookup p.1 = Option.none) (h : ρ.lookup x = some d) : (p :: ρ).lookup x = some d := by
  obtain ⟨y, e⟩ := p
  rw [List.lookup_cons]
  have : (x == y) = false := by
    cases q : x == y with
    | false => rfl
    | true =>
      have : x = y := by simpa using q
      subst this
      rw [hp] at h; cases h
  simp only [this]; exact h
theorem lookup_bindAll {tg dd bs} {ρ : List (Str × D)} (ht : Tg tg dd bs) (hq : ∀ q ∈ bs, ρ.lookup q.1 = Option.none) {x : Str} {d : D} (h : ρ.lookup x = some d) : (bindAll bs ρ).lookup x = some d := by
  cases ht with
  | name => exact lookup_bindAll_one (hq _ (.head _)) h
  | @pair x1 y1 k p1 p2 pos a b =>
    show ((y1, b) :: (x1, a) :: ρ).lookup x = some d
    have h1 := lookup_bindAll_one (p := (x1, a)) (hq _ (.head _)) h
    rw [List.lookup_cons]
    have : (x == y1) = false := by
      cases q : x == y1 with
      | false => rfl
      | true =>
        have : x = y1 := by simpa using q
        subst this
        rw [hq (x, b) (.tail _ (.head _))] at h; cases h
    simp only [this]; exact h1

theorem dropAll_nil : ∀ bs : List (Str × D), dropAll bs [] = []
  | [] => rfl
  | _ :: r => by show dropAll r (dropO _ []) = []; exact dropAll_nil r

section
variable {prog : Program} {w : World} {hB : Bs} {n : Nat} {env : Env} {ρ ρc : List (Str × D)} {X M : Addr → Prop} {B : List Str} {scope : Scope}

theorem TrIfs.go {A : Around} {Y : Addr → Prop} {s : Shared} {E : Value → Shared → Prop} {ifs : List PySem.Expr} {b : Bool} (h : TrIfs prog w hB n env ρ ifs b) (hr : Room n A) (S : SOk prog w hB Y env ρ s) :
    wpAny (model prog w) A (forIn ifs true fun c r => if r = true then do let ok ← PySem.isTrue c env (eval c env); pure (ForInStep.yield ok) else pure (ForInStep.yield r))
      (fun ok s' => Gone s s' ∧ ok = b) E s := by
  match ifs, h with
  | [], h => subst h; rw [List.forIn_nil]; exact wpAny_pure ⟨Gone.refl _, rfl⟩
  | [c], h =>
    rw [List.forIn_cons]
    simp only [if_true]
    refine wpAny_bind (wpAny_bind (wpAny_mono (h A Y s E hr S) (fun ok s₁ h₁ => ?_) fun _ _ e => e))
    refine wpAny_pure ?_
    show wpAny _ _ (forIn [] ok _) _ _ _
    rw [List.forIn_nil]
    exact wpAny_pure h₁

/-- a clause's turns, by what holds between them -/
theorem compLoop_any {A : Around} {k : Nat} {e elt tg : PySem.Expr} {ifs : List PySem.Expr} {it acc : Value} {s : Shared} {R : Result → Shared → Prop} {pos : Pos} (J : Nat → Shared → Prop)
    (hT : compTurn e k it acc env = (do
      standAt pos
      match ← pyNext it with
      | none => pure (.done .next)
      | some v =>
        letOwnedTupleGo tg it v
        PySem.assign tg env v
        let mut ok := true
        for c in ifs do
          if ok then ok ← PySem.isTrue c env (eval c env)
        if ok then
          (do let _ ← call (.builtin "list.append") [acc, ← eval elt env])
        again (.compLoop e k it acc env)))
    (hden : (model prog w).den (.compLoop e k it acc env) = ((compTurn e k it acc env).onRaise (fun x => do noteFrame x env; theTreesLotGoes x)))
    (hq : (Code.compLoop e k it acc env).quiet = true) (hA : A.under (.compLoop e k it acc env) = A)
    (turn : ∀ m s E, J m s → wpAny (model prog w) A (pyNext it) (fun r s₁ => match r with
      | none => R (.ok .next) s₁
      | some v => wpAny (model prog w) A (letOwnedTupleGo tg it v) (fun _ s₁' => wpAny (model prog w) A (PySem.assign tg env v) (fun _ s₂ =>
          wpAny (model prog w) A (forIn ifs true fun c r => if r = true then do let ok ← PySem.isTrue c env (eval c env); pure (ForInStep.yield ok) else pure (ForInStep.yield r)) (fun ok s₃ =>
            if ok = true then wpAny (model prog w) A (eval elt env) (fun x s₄ =>
              wpAny (model prog w) A (call (.builtin "list.append") [acc, x]) (fun _ s₅ => ∃ m', m' < m ∧ J m' s₅) E s₄) E s₃
            else ∃ m', m' < m ∧ J m' s₃) E s₂) E s₁') E s₁) E s)
    (m : Nat) (h : J m s) : codeAny (model prog w) A (.compLoop e k it acc env) R s := by
  refine codeAny_loop hq J (fun m s hJ => ?_) m h
  rw [hA, hden]
  refine wpAny_noted ?_
  rw [hT]
  clear hT hden
  refine wpAny_bind (wpAny_standAt (wpAny_bind (wpAny_mono (turn m s _ hJ) (fun r s₁ h₁ => ?_) fun _ _ h' => h')))
  cases r with
  | none => exact wpAny_pure h₁
  | some v =>
    refine wpAny_bind (wpAny_mono h₁ (fun _ s₁' h₁' => ?_) fun _ _ h' => h')
    refine wpAny_bind (wpAny_mono h₁' (fun _ s₂ h₂ => wpAny_bind (wpAny_mono h₂ (fun ok s₃ h₃ => ?_) fun _ _ h' => h')) fun _ _ h' => h')
    cases ok with
    | false => exact wpAny_pure ⟨rfl, h₃⟩
    | true =>
      exact wpAny_bind (wpAny_bind (wpAny_mono h₃ (fun x s₄ h₄ => wpAny_bind (wpAny_mono h₄ (fun _ s₅ h₅ => wpAny_pure (wpAny_pure ⟨rfl, h₅⟩)) fun _ _ h' => h')) fun _ _ h' => h'))

/-- the last clause's loop -/
theorem compLast {A : Around} {k : Nat} {e elt iter tg : PySem.Expr} {ifs : List PySem.Expr} {I Dd : Addr} {s₀ : Shared} {R : Result → Shared → Prop} {Z : Addr → Prop} {its outs0 : List D} {St : Nat → Shared → Prop} {p : D → Bool} {g : D → D} {vs₀ : List Value} {c₀ : Nat} {pos : Pos}
    (hT : compTurn e k (.ref I) (.ref Dd) env = (do
      standAt pos
      match ← pyNext (.ref I) with
      | none => pure (.done .next)
      | some v =>
        letOwnedTupleGo tg (.ref I) v
        PySem.assign tg env v
        let mut ok := true
        for c in ifs do
          if ok then ok ← PySem.isTrue c env (eval c env)
        if ok then
          (do let _ ← call (.builtin "list.append") [.ref Dd, ← eval elt env])
        again (.compLoop e k (.ref I) (.ref Dd) env)))
    (hden : (model prog w).den (.compLoop e k (.ref I) (.ref Dd) env) = ((compTurn e k (.ref I) (.ref Dd) env).onRaise (fun x => do noteFrame x env; theTreesLotGoes x)))
    (hq : (Code.compLoop e k (.ref I) (.ref Dd) env).quiet = true) (hA : A.under (.compLoop e k (.ref I) (.ref Dd) env) = A)
    (hrm : Room n A) (W : Wk prog w hB.lo A Z I its St) (hZ : ∀ a, YM X M a → Z a) (hIB : hB.h.get? I = Option.none) (hDX : X Dd)
    (S0 : Sta prog w hB X M B env ρc [] s₀) (hst0 : St 0 s₀) (hMD : ¬ M Dd) (hD0 : s₀.heap.get? Dd = some (listOf (List.toArray vs₀) c₀)) (hr0 : RdL prog w (YM X M) s₀ vs₀ outs0)
    (hturn : ∀ it ∈ its, ∃ bs, Tg tg it bs ∧ (∀ q ∈ bs, q.1 ∈ B ∧ ρc.lookup q.1 = Option.none) ∧ TrIfs prog w hB n env (bindAll bs ρc) ifs (p it) ∧ (p it = true → Ev prog w hB n env (bindAll bs ρc) elt (g it)))
    (hsz : outs0.length + its.length ≤ sizeLine)
    (hR : ∀ s' vs c, Went (fun a => M a ∨ a = I ∨ a = Dd) s₀ s' → Sta prog w hB X M B env ρc [] s' → s'.heap.get? Dd = some (listOf (List.toArray vs) c) → RdL prog w (YM X M) s' vs (outs0 ++ (its.filter p).map g) → R (.ok .next) s') :
    codeAny (model prog w) A (.compLoop e k (.ref I) (.ref Dd) env) R s₀ := by
  have hXI : ¬ YM X M I := fun x => W.off (hZ _ x)
  refine compLoop_any (fun m s => ∃ i vs c, i + m = its.length ∧ St i s ∧ Went (fun a => M a ∨ a = I ∨ a = Dd) s₀ s ∧ Sta prog w hB X M B env ρc [] s ∧ s.heap.get? Dd = some (listOf (List.toArray vs) c) ∧ RdL prog w (YM X M) s vs (outs0 ++ ((its.take i).filter p).map g))
    hT hden hq hA ?_ its.length ⟨0, vs₀, c₀, Nat.zero_add _, hst0, Went.refl _ _, S0, hD0, by simpa using hr0⟩
  clear hT hden hq hA
  rintro m s E ⟨i, vs, c, him, hst, hw, S, hD, hrd⟩
  obtain ⟨oI, vsI, heI, hdI⟩ := W.iso i s hst
  have hDI : Dd ≠ I := fun q => by rw [q, heI] at hD; cases hD; cases hdI
  by_cases hlt : i < its.length
  · have hd : its[i]? = some its[i] := by simp [hlt]
    have htake : its.take (i + 1) = its.take i ++ [its[i]] := by rw [List.take_add_one, hd]; rfl
    obtain ⟨bs, htg, hbs, hifs, helt⟩ := hturn its[i] (List.getElem_mem hlt)
    refine W.item i its[i] s _ _ hd hst S.ok.sit.tlo fun v s₁ g1 hst1 r1 => ?_
    have S1 : Sta prog w hB X M B env ρc [] s₁ := S.other g1 hXI hIB heI hdI
    have hD1 : s₁.heap.get? Dd = some (listOf (List.toArray vs) c) := g1.ext _ _ hDI hD
    have r1' : Rd prog w (YM X M) s₁ v its[i] := r1.off fun a ha => .inl (hZ a ha)
    have hrd1 : RdL prog w (YM X M) s₁ vs (outs0 ++ ((its.take i).filter p).map g) := ⟨hrd.1, fun j v d e1 e2 => (hrd.2 j v d e1 e2).mono' g1.le fun a o hx ea hn => ⟨hx, g1.ext a o (fun q => by subst q; rw [heI] at ea; cases ea; exact hn _ hdI) ea⟩⟩
    have w1 : Went (fun a => M a ∨ a = I ∨ a = Dd) s₀ s₁ := hw.trans (g1.on fun a q => .inl (.inr (.inl q)))
    refine W.quiet (i + 1) s₁ tg v _ _ hst1 ?_
    refine (S1.assign hrm.1 htg (fun q hq => (hbs q hq).1) r1' fun s₂ g2 S2 => ?_)
    have gX2 : Went (YM X M) s₁ s₂ := g2.on fun a ha => .inl (.inr ha)
    have hD2 : s₂.heap.get? Dd = some (listOf (List.toArray vs) c) := g2.ext _ _ hMD hD1
    have w2 : Went (fun a => M a ∨ a = I ∨ a = Dd) s₀ s₂ := w1.trans (g2.on fun a q => .inl (.inl q))
    have hst2 : St (i + 1) s₂ := W.stay _ _ _ hst1 (gX2.on fun a q => .inl (hZ a q))
    refine (wpAny_mono (hifs.go hrm S2.ok) (fun ok s₃ h₃ => ?_) fun _ _ e => e)
    obtain ⟨g3, rfl⟩ := h₃
    have S3 := S2.keep g3
    have back : Sta prog w hB X M B env ρc [] s₃ := S3.weaken (fun x d h => lookup_bindAll htg (fun q hq => (hbs q hq).2) h) (fun _ _ h => nomatch h)
    have w3 : Went (fun a => M a ∨ a = I ∨ a = Dd) s₀ s₃ := w2.trans g3.went
    have hst3 : St (i + 1) s₃ := W.stay _ _ _ hst2 g3.went
    have hrd3 := (hrd1.went gX2).keep g3
    have hD3 := g3.keep _ _ hD2
    cases hp : p its[i] with
    | false =>
      simp only [Bool.false_eq_true, if_false]
      refine ⟨m - 1, by omega, i + 1, vs, c, by omega, hst3, w3, back, hD3, ?_⟩
      rw [htake, List.filter_append]
      simpa [hp] using hrd3
    | true =>
      simp only [if_true]
      refine wpAny_mono (helt hp A _ s₃ _ hrm S3.ok) (fun u s₄ h₄ => ?_) fun _ _ e => e
      obtain ⟨g4, r4⟩ := h₄
      have hD4 := g4.keep _ _ hD3
      have hlen : vs.length ≤ sizeLine := by
        have e1 := hrd.1
        have e2 : ((its.take i).filter p).length ≤ (its.take i).length := List.length_filter_le _ _
        have e3 : (its.take i).length ≤ its.length := by rw [List.length_take]; exact Nat.min_le_right _ _
        rw [e1, List.length_append, List.length_map]; omega
      refine (wpAny_list_append_plain (hsz := by simpa using hlen) ⟨c, hD4⟩ fun h' hl' hs' => ?_)
      obtain ⟨c', hl'⟩ := hl'
      have g5 : Went (· = Dd) s₄ { s₄ with heap := h' } := went_of_sameBut (t := s₄.toks) (Nat.le_refl _) hs' rfl
      have gX5 : Went (YM X M) s₄ { s₄ with heap := h' } := g5.on fun a q => .inl (by subst q; exact .inl hDX)
      refine ⟨m - 1, by omega, i + 1, vs ++ [u], c', by omega, ?_, ?_, ?_, by simpa using hl', ?_⟩
      · exact W.stay _ _ _ (W.stay _ _ _ hst3 g4.went) (gX5.on fun a q => .inl (hZ a q))
      · exact (w3.trans g4.went).trans (g5.on fun a q => .inl (.inr (.inr q)))
      · exact (back.keep g4).acc g5 (.inl hDX) hD4 ⟨_, hl'⟩
      · rw [htake, List.filter_append]
        have := ((hrd3.keep g4).went gX5).snoc (r4.went gX5)
        simpa [hp, List.append_assoc] using this
  · have hi : i = its.length := by omega
    subst hi
    rw [List.take_length] at hrd
    refine W.done s _ _ hst fun s₁ g1 => ?_
    have S1 : Sta prog w hB X M B env ρc [] s₁ := S.other g1 hXI hIB heI hdI
    refine (hR s₁ vs c (hw.trans (g1.on fun a q => .inl (.inr (.inl q)))) S1 (g1.ext _ _ hDI hD) ⟨hrd.1, fun j v d e1 e2 => (hrd.2 j v d e1 e2).mono' g1.le fun a o hx ea hn => ⟨hx, g1.ext a o (fun q => by subst q; rw [heI] at ea; cases ea; exact hn _ hdI) ea⟩⟩)
end
end Mine

set_option maxHeartbeats 1000000
namespace Mine
open PySem PySem.W PyProof.Rows PySem.Calls

section
variable {prog : Program} {w : World} {hB : Bs} {n : Nat} {env : Env} {ρ ρc : List (Str × D)} {μ : List (Str × Ow)} {X Y M : Addr → Prop} {B Bc : List Str} {scope : Scope}

/-- a place of others turns, and is let go -/
theorem Sta.elsewhere {s s' : Shared} {a : Addr} (S : Sta prog w hB (fun b => Y b ∨ b = a) M B env ρ μ s) (g : Went (· = a) s s') (hy : ¬ Y a) (hnm : ¬ M a) (hc : ∀ x c, env.cells.lookup x = some c → c ≠ a) :
    Sta prog w hB Y M B env ρ μ s' := by
  have gX : Went (YM (fun b => Y b ∨ b = a) M) s s' := g.on fun p q => .inl (by subst q; exact .inl (.inr rfl))
  have hh : ∀ b, YM Y M b → YM (fun b => Y b ∨ b = a) M b := fun b q => q.elim (fun y => .inl (.inl y)) .inr
  have hne : ∀ b, YM Y M b → b ≠ a := fun b q e => q.elim (fun y => hy (e ▸ y)) fun m => hnm (e ▸ m)
  have rd : ∀ v d, Rd prog w (YM (fun b => Y b ∨ b = a) M) s v d → Rd prog w (YM Y M) s' v d := fun v d r => (r.went gX).off hh
  have nm : ∀ y u, NameIs s.heap env y u → NameIs s'.heap env y u := by
    rintro y u (⟨h1, m, ⟨o', es, ep, h2, h3⟩, h4⟩ | ⟨h1, c, h2, o', h3, h4⟩)
    · exact .inl ⟨h1, m, ⟨o', es, ep, g.ext _ _ (fun q => hnm (q ▸ S.frm.loc)) h2, h3⟩, h4⟩
    · exact .inr ⟨h1, c, h2, o', g.ext _ _ (hc _ _ h2) h3, h4⟩
  refine ⟨⟨⟨fun b o' e => ?_, fun b x => ?_, fun b x => S.ok.sit.off b (hh b x), Nat.lt_of_lt_of_le S.ok.sit.tlo g.le⟩, S.ok.apart, fun x d e => ?_⟩,
    ⟨S.frm.kind, S.frm.loc, ?_, fun x c h1 => ?_, S.frm.bd⟩, fun x o' e => ?_⟩
  · exact g.ext b o' (fun q => by subst q; rw [S.ok.sit.off _ (.inl (.inr rfl))] at e; cases e) (S.ok.sit.base b o' e)
  · obtain ⟨o', e⟩ := S.ok.sit.live b (hh b x)
    exact ⟨o', g.ext b o' (hne b x) e⟩
  · obtain ⟨v, h1, h2⟩ := S.ok.names x d e
    exact ⟨v, nm _ _ h1, rd _ _ h2⟩
  · obtain ⟨m, o', es, ep, h2, h3⟩ := S.frm.ns
    exact ⟨m, o', es, ep, g.ext _ _ (fun q => hnm (q ▸ S.frm.loc)) h2, h3⟩
  · obtain ⟨v, o', h4, h5⟩ := S.frm.cel x c h1
    exact ⟨v, o', g.ext _ _ (hc _ _ h1) h4, h5⟩
  · obtain ⟨b, h1, h2⟩ := S.own x o' e
    refine ⟨b, nm _ _ h1, ?_⟩
    cases o' with
    | lst ds =>
      obtain ⟨h3, vs', k, h4, h5⟩ := h2
      exact ⟨⟨h3.1, fun y => h3.2 (.inl y)⟩, vs', k, g.ext _ _ (fun q => hnm (q ▸ h3.1)) h4, h5.1, fun i v d e1 e2 => rd _ _ (h5.2 i v d e1 e2)⟩
    | ins C kvs =>
      obtain ⟨h3, dx, es, k, h4, h5, h6, h7, h8, h9, h10⟩ := h2
      exact ⟨fun q => h3 (hh _ q), dx, es, k, ⟨h4.1, fun y => h4.2 (.inl y)⟩, h5, g.ext _ _ (fun q => h3 (.inl (.inr q))) h6, g.ext _ _ (fun q => hnm (q ▸ h4.1)) h7, h8, h9, fun i e p e1 e2 => rd _ _ (h10 i e p e1 e2)⟩

/-- one more place of others, that is new -/
theorem Sta.grow {s₂ s₃ : Shared} {a : Addr} (S : Sta prog w hB Y M B env ρ μ s₂) (g : Gone s₂ s₃) (h0 : s₂.heap.get? a = Option.none) (h1 : ∃ o, s₃.heap.get? a = some o) :
    Sta prog w hB (fun b => Y b ∨ b = a) M B env ρ μ s₃ := by
  have rd : ∀ v d, Rd prog w (YM Y M) s₂ v d → Rd prog w (YM (fun b => Y b ∨ b = a) M) s₃ v d := fun v d r =>
    (r.on fun b hb => hb.elim (fun q => q.elim (fun y => .inl (.inl y)) fun q => .inr (q ▸ h0)) fun m => .inl (.inr m)).keep g
  refine ⟨⟨⟨S.ok.sit.base.trans g.keep, ?_, ?_, Nat.lt_of_lt_of_le S.ok.sit.tlo g.le⟩, S.ok.apart, fun x d e => ?_⟩,
    ⟨S.frm.kind, S.frm.loc, let ⟨m, h⟩ := S.frm.ns; ⟨m, h.keeps g.keep⟩, fun x c h => let ⟨v, q⟩ := S.frm.cel x c h; ⟨v, q.keeps g.keep⟩, S.frm.bd⟩, fun x o e => ?_⟩
  · rintro b ((hb | rfl) | hb)
    · obtain ⟨o, e⟩ := S.ok.sit.live b (.inl hb); exact ⟨o, g.keep _ _ e⟩
    · exact h1
    · obtain ⟨o, e⟩ := S.ok.sit.live b (.inr hb); exact ⟨o, g.keep _ _ e⟩
  · rintro b ((hb | rfl) | hb)
    · exact S.ok.sit.off b (.inl hb)
    · cases q : hB.h.get? b with
      | none => rfl
      | some o => exact absurd (h0.symm.trans (S.ok.sit.base b o q)) (by intro z; cases z)
    · exact S.ok.sit.off b (.inr hb)
  · obtain ⟨v, hv, r⟩ := S.ok.names x d e
    exact ⟨v, hv.keep g.keep, rd _ _ r⟩
  · obtain ⟨b, hv, r⟩ := S.own x o e
    refine ⟨b, hv.keep g.keep, ?_⟩
    cases o with
    | lst ds =>
      obtain ⟨h3, vs', k, h4, h5⟩ := r
      exact ⟨⟨h3.1, fun q => q.elim h3.2 fun q => by subst q; rw [h0] at h4; cases h4⟩, vs', k, g.keep _ _ h4, h5.1, fun i v d e1 e2 => rd _ _ (h5.2 i v d e1 e2)⟩
    | ins C kvs =>
      obtain ⟨h3, dx, es, k, h4, h5, h6, h7, h8, h9, h10⟩ := r
      refine ⟨fun q => ?_, dx, es, k, ⟨h4.1, fun q => q.elim h4.2 fun q => by subst q; rw [h0] at h7; cases h7⟩, h5, g.keep _ _ h6, g.keep _ _ h7, h8, h9, fun i e p e1 e2 => rd _ _ (h10 i e p e1 e2)⟩
      rcases q with (q | rfl) | q
      · exact h3 (.inl q)
      · rw [h0] at h6; cases h6
      · exact h3 (.inr q)
/-- the block of a comprehension gives outs -/
def CompBlock (prog : Program) (w : World) (hB : Bs) (n : Nat) (env : Env) (scope : Scope) (ρc : List (Str × D)) (Bc : List Str) (e : PySem.Expr) (its outs : List D) : Prop :=
  ∀ (A : Around) (X M : Addr → Prop) (cells : List (Str × Addr)) (C Dd I : Addr) (s : Shared) (R : Result → Shared → Prop) (Z : Addr → Prop) (St : Nat → Shared → Prop), Room n A →
    (∀ A', A'.handled = Option.none → Wk prog w hB.lo A' Z I its St) → (∀ a, YM X M a → Z a) → (∀ a, s.heap.get? a = Option.none → Z a) → hB.h.get? I = Option.none → X Dd → ¬ M Dd → s.heap.get? Dd = some (listOf #[] 0) → St 0 s →
    Sta prog w hB X M Bc (compEnvC scope cells C env) ρc [] s →
    (∀ s' vs c, Went (fun a => M a ∨ a = I ∨ a = Dd) s s' → Sta prog w hB X M Bc (compEnvC scope cells C env) ρc [] s' → s'.heap.get? Dd = some (listOf (List.toArray vs) c) → RdL prog w (YM X M) s' vs outs → R (.ok .next) s') →
    codeAny (model prog w) A (.compStart e 0 (.ref I) (.ref Dd) (compEnvC scope cells C env)) R s

theorem none_of_keep {s s' : Shared} (g : Gone s s') {a : Addr} (h : s'.heap.get? a = Option.none) : s.heap.get? a = Option.none := by
  cases e : s.heap.get? a with
  | none => rfl
  | some o => rw [g.keep a o e] at h; cases h

theorem comp_run {elt : PySem.Expr} {g0 : Comprehension} {gs : List Comprehension} {pos cpos : Pos} {its outs : List D} {A : Around} {s : Shared} {E : Value → Shared → Prop} {use : Option (Value → Sem Unit)} {Q : Value → Shared → Prop}
    (c : Caps env ρ scope ρc Bc) (hi : Its prog w hB n env ρ g0.iter its) (hb : CompBlock prog w hB n env scope ρc Bc (.ListComp elt (g0 :: gs) scope cpos) its outs)
    (hrm : Room n A) (S : SOk prog w hB X env ρ s) (hs : ∀ x, foldedSetIterable g0.iter env x = pure x)
    (hQ : ∀ C Dd s', s.heap.get? C = Option.none → s.heap.get? Dd = Option.none → Gone s s' → (∃ m, s'.heap.Ns C m) → Rd prog w (fun a => X a ∨ a = C) s' (.ref Dd) (.list outs) → Dd ≠ C →
      compPost (model prog w) A E use Q (.ref Dd) C (.ok .next) s') :
    wpAny (model prog w) A (comprehension (.ListComp elt (g0 :: gs) scope cpos) scope env pos (newList []) false (eval g0.iter env) use) Q E s := by
  have hnames : ∀ x ∈ scope.names, x.2 = .local → scope.names.lookup x.1 = some .local := fun x hx e => by
    have := lookup_nodup c.nodup hx
    rw [e] at this; exact this
  refine wpAny_comprehension_free rfl hs (c.closure S).1 c.kind hnames ?_
  refine hi A X s E _ hrm S fun I s₂ g2 hIs hI' hZ => ?_
  refine wpAny_newObj_type ?_
  let s₃ : Shared := { s₂ with heap := s₂.heap.push { cls := .type "list", dict := Option.none, data := .seq ([] : List Value).toArray } }
  show wpAny _ _ (newFunctionEnv scope env.globals (closeOf env.cells scope.names []) [] env.qual Option.none .none (some env)) _ _ s₃
  refine newFunctionEnv_comp ?_
  have g3 : Gone s₂ s₃ := Gone.push _ _
  have hD0 : s₂.heap.get? s₂.heap.objs.size = Option.none := get?_size_none _
  have hD3 : s₃.heap.get? s₂.heap.objs.size = some (listOf #[] 0) := Heap.get?_push_size _ rfl
  have S3 : SOk prog w hB (fun b => X b ∨ b = s₂.heap.objs.size) env ρ s₃ := (S.keep g2).grow g3 hD0 ⟨_, hD3⟩
  obtain ⟨g4, S4⟩ := comp_sta c S3
  generalize hs4 : ({ s₃ with heap := pushCells (s₃.heap.push { cls := .type "dict", data := .dict #[] }) scope.names } : Shared) = s₄ at g4 S4
  have G4 : Gone s s₄ := (g2.trans g3).trans g4
  have hXI : ∀ x, X x → x ≠ I := fun x hx q => by
    obtain ⟨o, e⟩ := S.sit.live x hx
    rw [q, hIs] at e; cases e
  obtain ⟨o2, hI2⟩ := hI'
  obtain ⟨St, hW, hst⟩ := hZ (fun a => X a ∨ s₂.heap.get? a = Option.none) (fun a ha => ha) (fun z => z.elim (fun x => hXI _ x rfl) fun e => by rw [hI2] at e; cases e)
  have hst4 : St 0 s₄ := (hW A hrm.1).stay _ _ _ hst (g3.trans g4).went
  have hfresh : ∀ a, ownM s₃ s₄ a → s.heap.get? a = Option.none := fun a ha => none_of_keep (g2.trans g3) ha.1
  have hDs : s.heap.get? s₂.heap.objs.size = Option.none := none_of_keep g2 hD0
  have hIB : hB.h.get? I = Option.none := by
    cases q : hB.h.get? I with
    | none => rfl
    | some o => exact absurd (hIs.symm.trans (S.sit.base I o q)) (by intro z; cases z)
  show codeAny _ _ (.compStart _ 0 (.ref I) (.ref s₂.heap.objs.size) (compEnvC scope (cellsFrom (s₃.heap.objs.size + 1) scope.names (closeOf env.cells scope.names [])) s₃.heap.objs.size env)) _ _
  refine hb A _ _ _ _ _ I s₄ _ _ St hrm hW ?_ (fun a h => .inr (none_of_keep (g3.trans g4) h)) hIB (.inr rfl) (fun m => absurd (hD3.symm.trans m.1) (by intro z; cases z)) (g4.keep _ _ hD3) hst4 S4 ?_
  · rintro a ((ha | rfl) | ha)
    · exact .inl ha
    · exact .inr hD0
    · exact .inr (none_of_keep g3 ha.1)
  · intro s' vs c' hw S' hD' hrl
    have G : Gone s s' := (G4.went.trans (hw.on fun a ha => .inl ha)).gone (by
      rintro a (ha | rfl | rfl)
      · exact hfresh a ha
      · exact hIs
      · exact hDs)
    have hC : s.heap.get? s₃.heap.objs.size = Option.none := none_of_keep (g2.trans g3) (get?_size_none _)
    have hne : s₂.heap.objs.size ≠ s₃.heap.objs.size := by rw [show s₃.heap.objs.size = s₂.heap.objs.size + 1 from Heap.size_push ..]; exact Nat.ne_of_lt (Nat.lt_succ_self _)
    refine hQ s₃.heap.objs.size s₂.heap.objs.size s' hC hDs G S'.frm.ns ?_ hne
    refine Rd.mkList ?_ hD' (hrl.off ?_)
    · rintro (x | q)
      · obtain ⟨o, e⟩ := S.sit.live _ x
        rw [hDs] at e; cases e
      · exact hne q
    · rintro a (x | rfl)
      · exact .inl (.inl x)
      · exact .inr S'.frm.loc
end
end Mine

set_option maxHeartbeats 1000000
namespace Mine
open PySem PySem.W PyProof.Rows PySem.Calls

section
variable {prog : Program} {w : World} {hB : Bs} {n : Nat} {env : Env} {ρ ρc : List (Str × D)} {μ : List (Str × Ow)} {X Y M : Addr → Prop} {B Bc : List Str} {scope : Scope}

theorem gone_but {s s' : Shared} {C : Addr} {h' : Heap} (g : Gone s s') (hC : s.heap.get? C = Option.none) (hs : Heap.SameBut C s'.heap h') : Gone s { s' with heap := h' } := by
  obtain ⟨h1, dr, t, rfl, l, k⟩ := g.out
  exact ⟨h', t, rfl, l, fun b o e => hs.extBut b o (fun q => by rw [q, hC] at e; cases e) (k b o e)⟩

theorem Ev.listcomp {elt : PySem.Expr} {g0 : Comprehension} {gs : List Comprehension} {cpos : Pos} {its outs : List D}
    (c : Caps env ρ scope ρc Bc) (hi : Its prog w hB n env ρ g0.iter its) (hb : CompBlock prog w hB n env scope ρc Bc (.ListComp elt (g0 :: gs) scope cpos) its outs)
    (hs : ∀ x, foldedSetIterable g0.iter env x = pure x := by intro _; rfl) (ha : g0.is_async = 0 := by rfl) : Ev prog w hB n env ρ (.ListComp elt (g0 :: gs) scope cpos) (.list outs) := by
  intro A X s E hrm S
  rw [arm_eval_ListComp]
  have e1 : firstAsync (g0 :: gs) = false := by obtain ⟨a, b, c, d⟩ := g0; simp only at ha; subst ha; rfl
  show wpAny _ _ (comprehension (.ListComp elt (g0 :: gs) scope cpos) scope env (firstIterPos (g0 :: gs) cpos) (newList []) (firstAsync (g0 :: gs)) (firstIter (g0 :: gs) env)) _ _ s
  rw [e1]
  have e2 : firstIter (g0 :: gs) env = eval g0.iter env := by obtain ⟨a, b, c, d⟩ := g0; rfl
  rw [e2]
  refine comp_run (use := Option.none) c hi hb hrm S hs fun C Dd s' hC hD g hns r hne => ?_
  obtain ⟨m, hm⟩ := hns
  refine ⟨m, hm, fun h' hs' => ⟨gone_but g hC hs', ?_⟩⟩
  have gw : Went (fun a => X a ∨ a = C) s' { s' with heap := h' } := went_of_sameBut (t := s'.toks) (Nat.le_refl _) hs' (.inr rfl)
  exact (r.went gw).off fun a x => .inl x

theorem Ex1.assignComp {Q : Po} {x : Str} {pos' pos : Pos} {elt : PySem.Expr} {g0 : Comprehension} {gs : List Comprehension} {cpos : Pos} {its outs : List D}
    (c : Caps env ρ scope ρc Bc) (hi : Its prog w hB n env ρ g0.iter its) (hb : CompBlock prog w hB n env scope ρc Bc (.ListComp elt (g0 :: gs) scope cpos) its outs)
    (hx : x ∈ B) (hq : Q .next ((x, .list outs) :: ρ) (dropO x μ))
    (hsw : swapsWith (.ListComp elt (g0 :: gs) scope cpos) (some (.Name x pos')) pos.line env = pure true)
    (hs : ∀ x, foldedSetIterable g0.iter env x = pure x := by intro _; rfl) (ha : g0.is_async = 0 := by rfl) : Ex1 prog w hB n B env ρ μ (.Assign [.Name x pos'] (.ListComp elt (g0 :: gs) scope cpos) pos) Q := by
  intro A Y M s E hrm S
  rw [exec_Assign_Name_used _ _ _ _ hsw]
  refine wpAny_bind (wpAny_standAt (wpAny_bind ?_))
  have e1 : firstAsync (g0 :: gs) = false := by obtain ⟨a, b, c, d⟩ := g0; simp only at ha; subst ha; rfl
  have e2 : firstIter (g0 :: gs) env = eval g0.iter env := by obtain ⟨a, b, c, d⟩ := g0; rfl
  show wpAny _ A (do let _ ← comprehension (.ListComp elt (g0 :: gs) scope cpos) scope env (firstIterPos (g0 :: gs) cpos) (newList []) (firstAsync (g0 :: gs)) (firstIter (g0 :: gs) env) (some (PySem.assign (.Name x pos') env))) _ _ s
  rw [e1, e2]
  refine wpAny_bind (wpAny_mono (comp_run (Q := fun _ s' => Post hB B env prog w Y M Q s .next s') (use := some (PySem.assign (.Name x pos') env)) c hi hb hrm S.ok hs fun C Dd s' hC hD g hns r hne => ?_) (fun _ s' h' => wpAny_pure (wpAny_pure h')) fun _ _ e => e)
  obtain ⟨m, hm⟩ := hns
  -- the frame, with the block's place among the others'
  have S' : Sta prog w hB (fun b => Y b ∨ b = C) M B env ρ μ s' := S.grow g hC (let ⟨o, _, _, e, _⟩ := hm; ⟨o, e⟩)
  have r' : Rd prog w (YM (fun b => Y b ∨ b = C) M) s' (.ref Dd) (.list outs) := r.off fun a ha => by
    rcases ha with (h | h) | h
    · exact .inl (.inl h)
    · exact .inr h
    · exact .inl (.inr h)
  show wpAny _ _ (PySem.assign (.Name x pos') env (.ref Dd)) _ _ _
  refine wpAny_assign_Name (S'.bind r' hx fun s₂ g₂ S₂ => ?_)
  have hCM : ¬ M C := fun q => by obtain ⟨o, e⟩ := S.ok.sit.live C (.inr q); rw [hC] at e; cases e
  have hm2 : s₂.heap.Ns C m := by
    obtain ⟨o, es, ep, e, r⟩ := hm
    exact ⟨o, es, ep, g₂.ext _ _ hCM e, r⟩
  refine ⟨m, hm2, fun h' hs' => ?_⟩
  have gC : Went (· = C) s₂ { s₂ with heap := h' } := went_of_sameBut (t := s₂.toks) (Nat.le_refl _) hs' rfl
  have hcell : ∀ y c', env.cells.lookup y = some c' → c' ≠ C := fun y c' h q => by
    obtain ⟨v, o, e, _⟩ := S.frm.cel y c' h
    rw [q, hC] at e; cases e
  have hCY : ¬ Y C := fun q => by obtain ⟨o, e⟩ := S.ok.sit.live C (.inl q); rw [hC] at e; cases e
  refine ⟨(g.went.trans g₂).step (fun a (q : a = C) => .inr (by rw [q]; exact hC)) gC, .next, M, _, _, trivial, Sub.refl _ _, S₂.elsewhere gC hCY hCM hcell, hq⟩

theorem under_comp {A : Around} {e : PySem.Expr} {k : Nat} {it acc : Value} (he : (Code.compLoop e k it acc env).weight = 0) (hu : (Code.compLoop e k it acc env).cUnits = 0 := by rfl) : A.under (.compLoop e k it acc env) = A := Around.under_of_weight he hu

/-- one clause -/
theorem CompBlock.one {elt iter tg : PySem.Expr} {ifs : List PySem.Expr} {pos : Pos} {its : List D} (p : D → Bool) (g : D → D)
    (hturn : ∀ cells C, ∀ it ∈ its, ∃ bs, Tg tg it bs ∧ (∀ q ∈ bs, q.1 ∈ Bc ∧ ρc.lookup q.1 = Option.none) ∧ TrIfs prog w hB n (compEnvC scope cells C env) (bindAll bs ρc) ifs (p it) ∧
      (p it = true → Ev prog w hB n (compEnvC scope cells C env) (bindAll bs ρc) elt (g it)))
    (hsz : its.length ≤ sizeLine) : CompBlock prog w hB n env scope ρc Bc (.ListComp elt [⟨tg, iter, ifs, 0⟩] scope pos) its ((its.filter p).map g) := by
  intro A X M cells C Dd I s R Z St hrm hW hZ hZ' hIB hDX hMD hD hst S hR
  have loop : codeAny (model prog w) A (.compLoop (.ListComp elt [⟨tg, iter, ifs, 0⟩] scope pos) 0 (.ref I) (.ref Dd) (compEnvC scope cells C env)) R s :=
    compLast (iter := iter) (compTurn_list ..) rfl rfl (under_comp rfl) hrm (hW A hrm.1) hZ hIB hDX S hst hMD (vs₀ := []) (c₀ := 0) hD RdL.nil (hturn cells C) (by simpa using hsz) hR
  exact codeAny_compStart_list loop ((hW A hrm.1).self 0 _ _ _ hst loop)
end
end Mine

set_option maxHeartbeats 1000000
namespace Mine
open PySem PySem.W PyProof.Rows PySem.Calls

section
variable {prog : Program} {w : World} {hB : Bs} {n : Nat} {env : Env} {ρ ρc : List (Str × D)} {μ : List (Str × Ow)} {X Y M : Addr → Prop} {B Bc : List Str} {scope : Scope}

theorem compTurn_two (elt tg iter tg2 iter2 : PySem.Expr) (ifs2 : List PySem.Expr) (scope : Scope) (pos : Pos) (it acc : Value) (env : Env) :
    compTurn (.ListComp elt [⟨tg, iter, [], 0⟩, ⟨tg2, iter2, ifs2, 0⟩] scope pos) 0 it acc env = (do
      standAt iter.pos
      match ← pyNext it with
      | none => pure (.done .next)
      | some v =>
        letOwnedTupleGo tg it v
        PySem.assign tg env v
        let x ← eval iter2 env
        standAt iter2.pos
        let x ← foldedSetIterable iter2 env x
        let y ← holding [x] (pyIter x)
        let _ ← runOwn (.compStart (.ListComp elt [⟨tg, iter, [], 0⟩, ⟨tg2, iter2, ifs2, 0⟩] scope pos) 1 y acc env) env
        again (.compLoop (.ListComp elt [⟨tg, iter, [], 0⟩, ⟨tg2, iter2, ifs2, 0⟩] scope pos) 0 it acc env)) := by rfl

theorem compTurn_two1 (elt tg iter tg2 iter2 : PySem.Expr) (ifs2 : List PySem.Expr) (scope : Scope) (pos : Pos) (it acc : Value) (env : Env) :
    compTurn (.ListComp elt [⟨tg, iter, [], 0⟩, ⟨tg2, iter2, ifs2, 0⟩] scope pos) 1 it acc env = (do
      standAt iter2.pos
      match ← pyNext it with
      | none => pure (.done .next)
      | some v =>
        letOwnedTupleGo tg2 it v
        PySem.assign tg2 env v
        let mut ok := true
        for c in ifs2 do
          if ok then ok ← PySem.isTrue c env (eval c env)
        if ok then
          (do let _ ← call (.builtin "list.append") [acc, ← eval elt env])
        again (.compLoop (.ListComp elt [⟨tg, iter, [], 0⟩, ⟨tg2, iter2, ifs2, 0⟩] scope pos) 1 it acc env)) := by rfl

theorem codeAny_compStart_two1 {A : Around} {R : Result → Shared → Prop} {s : Shared} {elt target iter tg2 iter2 : PySem.Expr} {ifs ifs2 rest scope pos it acc env}
    (h0 : codeAny (model prog w) A (.compLoop (.ListComp elt (⟨target, iter, ifs, 0⟩ :: ⟨tg2, iter2, ifs2, 0⟩ :: rest) scope pos) 1 it acc env) R s)
    (h : wpAny (model prog w) A (pyIter it) (fun it' s' => codeAny (model prog w) A (.compLoop (.ListComp elt (⟨target, iter, ifs, 0⟩ :: ⟨tg2, iter2, ifs2, 0⟩ :: rest) scope pos) 1 it' acc env) R s')
      (notedBy (model prog w) A env fun x s' => R (.error x) s') s) :
    codeAny (model prog w) A (.compStart (.ListComp elt (⟨target, iter, ifs, 0⟩ :: ⟨tg2, iter2, ifs2, 0⟩ :: rest) scope pos) 1 it acc env) R s := by
  refine codeAny_of_tree ?_
  show wpAny _ A ((compStart (.ListComp elt (⟨target, iter, ifs, 0⟩ :: ⟨tg2, iter2, ifs2, 0⟩ :: rest) scope pos) 1 it acc env).onRaise (fun x => do noteFrame x env; standAt theWindowsPlace)) _ _ s
  refine wpAny_notedAt ?_
  unfold compStart
  show wpAny _ _ (ask >>= _) _ _ s
  refine wpAny_bind (wpAny_askSetting (wpAny_ite ?_))
  split
  · first
      | exact wpAny_bind (wpAny_pure (wpAny_pure (And.intro rfl h0)))
      | exact wpAny_pure (And.intro rfl h0)
  · first
      | exact wpAny_bind (wpAny_rule (wpAny_bind (wpAny_standAt (wpAny_bind (wpAny_mono h (fun it' s' h' => wpAny_pure (And.intro rfl h')) fun _ _ x => x)))))
      | (refine wpAny_bind (wpAny_rule ?_); show wpAny _ _ (standAt iter2.pos >>= _) _ _ s; exact wpAny_bind (wpAny_standAt (wpAny_bind (wpAny_mono h (fun it' s' h' => wpAny_pure (And.intro rfl h')) fun _ _ x => x))))
/-- two clauses, the first without a test -/
theorem CompBlock.two {elt iter tg iter2 tg2 : PySem.Expr} {ifs2 : List PySem.Expr} {pos : Pos} {its : List D} (its2 : D → List D) (p : D → D → Bool) (g : D → D → D)
    (hturn : ∀ cells C, ∀ it ∈ its, ∃ bs, Tg tg it bs ∧ (∀ q ∈ bs, q.1 ∈ Bc ∧ ρc.lookup q.1 = Option.none) ∧ ∃ d2, Ev prog w hB n (compEnvC scope cells C env) (bindAll bs ρc) iter2 d2 ∧ Runs prog w hB n d2 (its2 it) ∧
      ∀ it2 ∈ its2 it, ∃ bs2, Tg tg2 it2 bs2 ∧ (∀ q ∈ bs2, q.1 ∈ Bc ∧ (bindAll bs ρc).lookup q.1 = Option.none) ∧ TrIfs prog w hB n (compEnvC scope cells C env) (bindAll bs2 (bindAll bs ρc)) ifs2 (p it it2) ∧
      (p it it2 = true → Ev prog w hB n (compEnvC scope cells C env) (bindAll bs2 (bindAll bs ρc)) elt (g it it2)))
    (hsz : (its.flatMap its2).length ≤ sizeLine) (hs : ∀ env' x, foldedSetIterable iter2 env' x = pure x := by intro _ _; rfl) :
    CompBlock prog w hB n env scope ρc Bc (.ListComp elt [⟨tg, iter, [], 0⟩, ⟨tg2, iter2, ifs2, 0⟩] scope pos) its (its.flatMap fun it => ((its2 it).filter (p it)).map (g it)) := by
  intro A X M cells C Dd I s R Z St hrm hW hZ hZ' hIB hDX hMD hD hst S hR
  have W := hW A hrm.1
  have hXI : ¬ YM X M I := fun x => W.off (hZ _ x)
  generalize hEv : compEnvC scope cells C env = env' at *
  have hlenle : ∀ it : D, (((its2 it).filter (p it)).map (g it)).length ≤ (its2 it).length := fun it => by rw [List.length_map]; exact List.length_filter_le _ _
  have hflat : ∀ l : List D, (l.flatMap fun it => ((its2 it).filter (p it)).map (g it)).length ≤ (l.flatMap its2).length := by
    intro l
    induction l with
    | nil => exact Nat.le_refl _
    | cons a l ih => rw [List.flatMap_cons, List.flatMap_cons, List.length_append, List.length_append]; exact Nat.add_le_add (hlenle a) ih
  have loop : codeAny (model prog w) A (.compLoop (.ListComp elt [⟨tg, iter, [], 0⟩, ⟨tg2, iter2, ifs2, 0⟩] scope pos) 0 (.ref I) (.ref Dd) env') R s := by
    refine codeAny_loop rfl (fun m s' => ∃ i vs c, i + m = its.length ∧ St i s' ∧ Went (fun a => M a ∨ a = I ∨ a = Dd) s s' ∧ Sta prog w hB X M Bc env' ρc [] s' ∧ s'.heap.get? Dd = some (listOf (List.toArray vs) c) ∧
      RdL prog w (YM X M) s' vs ((its.take i).flatMap fun it => ((its2 it).filter (p it)).map (g it))) (fun m s₁ hJ => ?_) its.length ⟨0, [], 0, Nat.zero_add _, hst, Went.refl _ _, S, hD, RdL.nil⟩
    obtain ⟨i, vs, c, him, hst1, hw1, S1, hD1, hrd1⟩ := hJ
    obtain ⟨oI, vsI, heI, hdI⟩ := W.iso i s₁ hst1
    have hDI : Dd ≠ I := fun q => by rw [q, heI] at hD1; cases hD1; cases hdI
    have hA : A.under (.compLoop (.ListComp elt [⟨tg, iter, [], 0⟩, ⟨tg2, iter2, ifs2, 0⟩] scope pos) 0 (.ref I) (.ref Dd) env') = A := under_comp rfl
    rw [hA]
    show wpAny _ A ((compTurn (.ListComp elt [⟨tg, iter, [], 0⟩, ⟨tg2, iter2, ifs2, 0⟩] scope pos) 0 (.ref I) (.ref Dd) env').onRaise (fun x => do noteFrame x env'; theTreesLotGoes x)) _ _ s₁
    refine wpAny_noted ?_
    rw [compTurn_two]
    refine wpAny_bind (wpAny_standAt (wpAny_bind ?_))
    by_cases hlt : i < its.length
    · have hd : its[i]? = some its[i] := by simp [hlt]
      have htake : its.take (i + 1) = its.take i ++ [its[i]] := by rw [List.take_add_one, hd]; rfl
      obtain ⟨bs, htg, hbs, d2, hev2, hr2, hin⟩ := hturn cells C its[i] (List.getElem_mem hlt)
      rw [hEv] at hev2
      refine W.item i its[i] s₁ _ _ hd hst1 S1.ok.sit.tlo fun v s₂ g2 hst2 r2 => ?_
      have S2 : Sta prog w hB X M Bc env' ρc [] s₂ := S1.other g2 hXI hIB heI hdI
      have hD2 : s₂.heap.get? Dd = some (listOf (List.toArray vs) c) := g2.ext _ _ hDI hD1
      have r2' : Rd prog w (YM X M) s₂ v its[i] := r2.off fun a ha => .inl (hZ a ha)
      have hrd2 : RdL prog w (YM X M) s₂ vs ((its.take i).flatMap fun it => ((its2 it).filter (p it)).map (g it)) := ⟨hrd1.1, fun j v d e1 e2 => (hrd1.2 j v d e1 e2).mono' g2.le fun a o hx ea hn => ⟨hx, g2.ext a o (fun q => by subst q; rw [heI] at ea; cases ea; exact hn _ hdI) ea⟩⟩
      have w2 : Went (fun a => M a ∨ a = I ∨ a = Dd) s s₂ := hw1.trans (g2.on fun a q => .inl (.inr (.inl q)))
      refine wpAny_bind (W.quiet (i + 1) s₂ tg v _ _ hst2 ?_)
      refine wpAny_bind (S2.assign hrm.1 htg (fun q hq => (hbs q hq).1) r2' fun s₃ g3 S3 => ?_)
      have gX3 : Went (YM X M) s₂ s₃ := g3.on fun a ha => .inl (.inr ha)
      have hD3 : s₃.heap.get? Dd = some (listOf (List.toArray vs) c) := g3.ext _ _ hMD hD2
      have w3 : Went (fun a => M a ∨ a = I ∨ a = Dd) s s₃ := w2.trans (g3.on fun a q => .inl (.inl q))
      have hst3 : St (i + 1) s₃ := W.stay _ _ _ hst2 (gX3.on fun a q => .inl (hZ a q))
      refine wpAny_bind (wpAny_mono (hev2 A _ s₃ _ hrm S3.ok) (fun u s₄ h₄ => ?_) fun _ _ e => e)
      obtain ⟨g4, r4⟩ := h₄
      have S4 := S3.keep g4
      refine wpAny_bind (wpAny_standAt (wpAny_bind (wpAny_of_eq (hs env' u) ?_)))
      refine wpAny_bind (wpAny_holding (hr2 A _ s₄ u _ _ hrm S4.ok.sit r4 fun I2 s₅ g5 hI2 hI2' hZ2 => ?_))
      have S5 : Sta prog w hB X M Bc env' (bindAll bs ρc) [] s₅ := by have := S4.keep g5; rwa [dropAll_nil] at this
      have hD5 := g5.keep _ _ (g4.keep _ _ hD3)
      have hrd5 := ((hrd2.went gX3).keep g4).keep g5
      have w5 : Went (fun a => M a ∨ a = I ∨ a = Dd) s s₅ := (w3.trans g4.went).trans g5.went
      have hst5 : St (i + 1) s₅ := W.stay _ _ _ hst3 (g4.trans g5).went
      obtain ⟨o2, hI2s⟩ := hI2'
      have hXI2 : ¬ YM X M I2 := fun x => by obtain ⟨o, e⟩ := S4.ok.sit.live _ x; rw [hI2] at e; cases e
      have hsI2 : s.heap.get? I2 = Option.none := by
        cases q : s.heap.get? I2 with
        | none => rfl
        | some o =>
          have e4 : s₄.heap.get? I2 = Option.none := hI2
          have k : ∀ s' : Shared, Went (fun a => M a ∨ a = I ∨ a = Dd) s s' → s'.heap.get? I2 = Option.none → False := fun s' ww en => by
            rcases none_back ww en with x | x
            · rcases x with x | x | x
              · exact hXI2 (.inr x)
              · subst x
                obtain ⟨o', vs', e', _⟩ := W.iso _ _ (W.stay _ _ _ hst3 g4.went)
                rw [e4] at e'; cases e'
              · subst x; exact hXI2 (.inl hDX)
            · rw [q] at x; cases x
          exact (k s₄ (w3.trans g4.went) e4).elim
      have hI2B : hB.h.get? I2 = Option.none := by
        cases q : hB.h.get? I2 with
        | none => rfl
        | some o => exact absurd (hsI2.symm.trans (S.ok.sit.base I2 o q)) (by intro z; cases z)
      obtain ⟨St2, hW2, hst20⟩ := hZ2 (fun a => YM X M a ∨ s₅.heap.get? a = Option.none) (fun a ha => ha.imp id fun e => none_of_keep g5 e) (fun z => z.elim hXI2 fun e => by rw [hI2s] at e; cases e)
      have hsz2 : ((its.take i).flatMap fun it => ((its2 it).filter (p it)).map (g it)).length + (its2 its[i]).length ≤ sizeLine := by
        have e1 := hflat (its.take i)
        have e2 : (its.flatMap its2).length = ((its.take (i + 1)).flatMap its2).length + ((its.drop (i + 1)).flatMap its2).length := by
          rw [← List.length_append, ← List.flatMap_append, List.take_append_drop]
        rw [htake, List.flatMap_append, List.length_append] at e2
        have e3 : ([its[i]].flatMap its2).length = (its2 its[i]).length := by simp
        omega
      have inner : ∀ R' : Result → Shared → Prop, (∀ s₆ vs' c', Went (fun a => M a ∨ a = I2 ∨ a = Dd) s₅ s₆ → Sta prog w hB X M Bc env' (bindAll bs ρc) [] s₆ → s₆.heap.get? Dd = some (listOf (List.toArray vs') c') →
          RdL prog w (YM X M) s₆ vs' (((its.take i).flatMap fun it => ((its2 it).filter (p it)).map (g it)) ++ ((its2 its[i]).filter (p its[i])).map (g its[i])) → R' (.ok .next) s₆) →
          codeAny (model prog w) A (.compLoop (.ListComp elt [⟨tg, iter, [], 0⟩, ⟨tg2, iter2, ifs2, 0⟩] scope pos) 1 (.ref I2) (.ref Dd) env') R' s₅ := fun R' kk =>
        compLast (p := p its[i]) (g := g its[i]) (tg := tg2) (iter := iter2) (compTurn_two1 ..) rfl rfl (under_comp rfl) hrm (hW2 A hrm.1) (fun a ha => .inl ha) hI2B hDX S5 hst20 hMD hD5 hrd5
          (fun it2 h2 => by have := hin it2 h2; rw [hEv] at this; exact this) hsz2 kk
      refine wpAny_bind (wpAny_runOwn (h := Option.none) ?_)
      refine codeAny_compStart_two1 (inner _ ?_) ((hW2 A hrm.1).self 0 _ _ _ hst20 (inner _ ?_)) <;> intro s₆ vs' c' gw S6 hD6 hrd6
      all_goals
        have S7 : Sta prog w hB X M Bc env' ρc [] s₆ := S6.weaken (fun x d h => lookup_bindAll htg (fun q hq => (hbs q hq).2) h) (fun _ _ h => nomatch h)
        refine wpAny_pure ⟨rfl, m - 1, by omega, i + 1, vs', c', by omega, ?_, ?_, S7, hD6, ?_⟩
        · exact W.stay _ _ _ hst5 (gw.on fun a q => .inl (by
            rcases q with q | q | q
            · exact hZ a (.inr q)
            · subst q; exact hZ' _ hsI2
            · subst q; exact hZ _ (.inl hDX)))
        · exact (w5.step (X' := fun a => M a ∨ a = I2 ∨ a = Dd) (fun a q => by
            rcases q with q | q | q
            · exact .inl (.inl q)
            · subst q; exact .inr hsI2
            · exact .inl (.inr (.inr q))) gw)
        · rw [htake, List.flatMap_append]
          simpa using hrd6
    · have hi : i = its.length := by omega
      subst hi
      rw [List.take_length] at hrd1
      refine W.done s₁ _ _ hst1 fun s₂ g2 => ?_
      have S2 : Sta prog w hB X M Bc env' ρc [] s₂ := S1.other g2 hXI hIB heI hdI
      refine wpAny_pure (hR s₂ vs c (hw1.trans (g2.on fun a q => .inl (.inr (.inl q)))) S2 (g2.ext _ _ hDI hD1) ⟨hrd1.1, fun j v d e1 e2 => (hrd1.2 j v d e1 e2).mono' g2.le fun a o hx ea hn => ⟨hx, g2.ext a o (fun q => by subst q; rw [heI] at ea; cases ea; exact hn _ hdI) ea⟩⟩)
  exact codeAny_compStart_list loop ((hW A hrm.1).self 0 _ _ _ hst loop)
end
end Mine

set_option maxHeartbeats 1000000
namespace Mine
open PySem PySem.W PyProof.Rows PySem.Calls

section
variable {prog : Program} {w : World} {hB : Bs} {n : Nat} {env : Env} {ρ ρc : List (Str × D)} {μ : List (Str × Ow)} {X Y M : Addr → Prop} {B Bc : List Str} {scope : Scope}

/-- a place of others turns, and stays one -/
theorem Sta.yacc {s s' : Shared} {a : Addr} {o : Obj} (S : Sta prog w hB Y M B env ρ [] s) (g : Went (· = a) s s') (hy : Y a) (hnm : ¬ M a) (ho : s.heap.get? a = some o) (hoc : ∀ u, o.data ≠ .cell u) (ho' : ∃ o, s'.heap.get? a = some o) :
    Sta prog w hB Y M B env ρ [] s' := by
  have hc : ∀ x c, env.cells.lookup x = some c → c ≠ a := fun x c e q => by
    obtain ⟨v, h⟩ := S.frm.cel x c e
    exact cell_ne_of h ho hoc q.symm
  have gX : Went (YM Y M) s s' := g.on fun p q => .inl (by subst q; exact .inl hy)
  have nm : ∀ y u, NameIs s.heap env y u → NameIs s'.heap env y u := by
    rintro y u (⟨h1, m, ⟨o', es, ep, h2, h3⟩, h4⟩ | ⟨h1, c, h2, o', h3, h4⟩)
    · exact .inl ⟨h1, m, ⟨o', es, ep, g.ext _ _ (fun q => hnm (q ▸ S.frm.loc)) h2, h3⟩, h4⟩
    · exact .inr ⟨h1, c, h2, o', g.ext _ _ (hc _ _ h2) h3, h4⟩
  refine ⟨⟨⟨fun b o' e => ?_, fun b x => ?_, S.ok.sit.off, Nat.lt_of_lt_of_le S.ok.sit.tlo g.le⟩, S.ok.apart, fun x d e => ?_⟩,
    ⟨S.frm.kind, S.frm.loc, ?_, fun x c h1 => ?_, S.frm.bd⟩, fun x o' e => nomatch e⟩
  · exact g.ext b o' (fun q => by subst q; rw [S.ok.sit.off _ (.inl hy)] at e; cases e) (S.ok.sit.base b o' e)
  · by_cases q : b = a
    · subst q; exact ho'
    · obtain ⟨o', e⟩ := S.ok.sit.live b x
      exact ⟨o', g.ext b o' q e⟩
  · obtain ⟨v, h1, h2⟩ := S.ok.names x d e
    exact ⟨v, nm _ _ h1, h2.went gX⟩
  · obtain ⟨m, o', es, ep, h2, h3⟩ := S.frm.ns
    exact ⟨m, o', es, ep, g.ext _ _ (fun q => hnm (q ▸ S.frm.loc)) h2, h3⟩
  · obtain ⟨v, o', h4, h5⟩ := S.frm.cel x c h1
    exact ⟨v, o', g.ext _ _ (hc _ _ h1) h4, h5⟩

abbrev DOf (prog : Program) (w : World) (h : Heap) (a : Addr) (vals : List Value) (kvs : List (S × D)) : Prop := h.DictOf (strKind prog w) a ((kvs.map fun p => tx p.1).zip vals)

def CompBlockD (prog : Program) (w : World) (hB : Bs) (n : Nat) (env : Env) (scope : Scope) (ρc : List (Str × D)) (Bc : List Str) (e : PySem.Expr) (its : List D) (outs : List (S × D)) : Prop :=
  ∀ (A : Around) (X M : Addr → Prop) (cells : List (Str × Addr)) (C Dd I : Addr) (s : Shared) (R : Result → Shared → Prop) (Z : Addr → Prop) (St : Nat → Shared → Prop), Room n A →
    (∀ A', A'.handled = Option.none → Wk prog w hB.lo A' Z I its St) → (∀ a, YM X M a → Z a) → hB.h.get? I = Option.none → X Dd → ¬ M Dd → DOf prog w s.heap Dd [] [] → St 0 s →
    Sta prog w hB X M Bc (compEnvC scope cells C env) ρc [] s →
    (∀ s' vs, Went (fun a => M a ∨ a = I ∨ a = Dd) s s' → Sta prog w hB X M Bc (compEnvC scope cells C env) ρc [] s' → DOf prog w s'.heap Dd vs outs → RdL prog w (YM X M) s' vs (outs.map (·.2)) → R (.ok .next) s') →
    codeAny (model prog w) A (.compStart e 0 (.ref I) (.ref Dd) (compEnvC scope cells C env)) R s

theorem wpAny_newDict {A : Around} {s : Shared} {E : Value → Shared → Prop} {Q : Value → Shared → Prop}
    (h : Q (.ref s.heap.objs.size) { s with heap := s.heap.push { cls := .type "dict", data := .dict #[] } }) : wpAny (model prog w) A newDict Q E s :=
  wpAny_newObj_type h

theorem compD_run {kx vx : PySem.Expr} {g0 : Comprehension} {gs : List Comprehension} {pos cpos : Pos} {its : List D} {outs : List (S × D)} {A : Around} {s : Shared} {E : Value → Shared → Prop} {use : Option (Value → Sem Unit)} {Q : Value → Shared → Prop}
    (c : Caps env ρ scope ρc Bc) (hi : Its prog w hB n env ρ g0.iter its) (hb : CompBlockD prog w hB n env scope ρc Bc (.DictComp kx vx (g0 :: gs) scope cpos) its outs)
    (hrm : Room n A) (S : SOk prog w hB X env ρ s) (hs : ∀ x, foldedSetIterable g0.iter env x = pure x)
    (hQ : ∀ C Dd s', s.heap.get? C = Option.none → s.heap.get? Dd = Option.none → Gone s s' → (∃ m, s'.heap.Ns C m) → Rd prog w (fun a => X a ∨ a = C) s' (.ref Dd) (.dict outs) → Dd ≠ C →
      compPost (model prog w) A E use Q (.ref Dd) C (.ok .next) s') :
    wpAny (model prog w) A (comprehension (.DictComp kx vx (g0 :: gs) scope cpos) scope env pos newDict false (eval g0.iter env) use) Q E s := by
  have hnames : ∀ x ∈ scope.names, x.2 = .local → scope.names.lookup x.1 = some .local := fun x hx e => by
    have := lookup_nodup c.nodup hx
    rw [e] at this; exact this
  refine wpAny_comprehension_free rfl hs (c.closure S).1 c.kind hnames ?_
  refine hi A X s E _ hrm S fun I s₂ g2 hIs hI' hZ => ?_
  refine wpAny_newDict ?_
  let s₃ : Shared := { s₂ with heap := s₂.heap.push { cls := .type "dict", data := .dict #[] } }
  show wpAny _ _ (newFunctionEnv scope env.globals (closeOf env.cells scope.names []) [] env.qual Option.none .none (some env)) _ _ s₃
  refine newFunctionEnv_comp ?_
  have g3 : Gone s₂ s₃ := Gone.push _ _
  have hD0 : s₂.heap.get? s₂.heap.objs.size = Option.none := get?_size_none _
  have hD3 : DOf prog w s₃.heap s₂.heap.objs.size [] [] := Heap.DictOf.new _
  have S3 : SOk prog w hB (fun b => X b ∨ b = s₂.heap.objs.size) env ρ s₃ := (S.keep g2).grow g3 hD0 ⟨_, Heap.get?_push_size _ rfl⟩
  obtain ⟨g4, S4⟩ := comp_sta c S3
  generalize hs4 : ({ s₃ with heap := pushCells (s₃.heap.push { cls := .type "dict", data := .dict #[] }) scope.names } : Shared) = s₄ at g4 S4
  have G4 : Gone s s₄ := (g2.trans g3).trans g4
  have hXI : ∀ x, X x → x ≠ I := fun x hx q => by
    obtain ⟨o, e⟩ := S.sit.live x hx
    rw [q, hIs] at e; cases e
  obtain ⟨o2, hI2⟩ := hI'
  obtain ⟨St, hW, hst⟩ := hZ (fun a => X a ∨ s₂.heap.get? a = Option.none) (fun a ha => ha) (fun z => z.elim (fun x => hXI _ x rfl) fun e => by rw [hI2] at e; cases e)
  have hst4 : St 0 s₄ := (hW A hrm.1).stay _ _ _ hst (g3.trans g4).went
  have hfresh : ∀ a, ownM s₃ s₄ a → s.heap.get? a = Option.none := fun a ha => none_of_keep (g2.trans g3) ha.1
  have hDs : s.heap.get? s₂.heap.objs.size = Option.none := none_of_keep g2 hD0
  have hIB : hB.h.get? I = Option.none := by
    cases q : hB.h.get? I with
    | none => rfl
    | some o => exact absurd (hIs.symm.trans (S.sit.base I o q)) (by intro z; cases z)
  have hD3' : ∃ o, s₃.heap.get? s₂.heap.objs.size = some o := ⟨_, Heap.get?_push_size _ rfl⟩
  show codeAny _ _ (.compStart _ 0 (.ref I) (.ref s₂.heap.objs.size) (compEnvC scope (cellsFrom (s₃.heap.objs.size + 1) scope.names (closeOf env.cells scope.names [])) s₃.heap.objs.size env)) _ _
  refine hb A _ _ _ _ _ I s₄ _ _ St hrm hW ?_ hIB (.inr rfl) (fun m => by obtain ⟨o, e⟩ := hD3'; exact absurd (e.symm.trans m.1) (by intro z; cases z)) (hD3.at fun o e => g4.keep _ _ e) hst4 S4 ?_
  · rintro a ((ha | rfl) | ha)
    · exact .inl ha
    · exact .inr hD0
    · exact .inr (none_of_keep g3 ha.1)
  · intro s' vs hw S' hD' hrl
    have G : Gone s s' := (G4.went.trans (hw.on fun a ha => .inl ha)).gone (by
      rintro a (ha | rfl | rfl)
      · exact hfresh a ha
      · exact hIs
      · exact hDs)
    have hC : s.heap.get? s₃.heap.objs.size = Option.none := none_of_keep (g2.trans g3) (get?_size_none _)
    have hne : s₂.heap.objs.size ≠ s₃.heap.objs.size := by rw [show s₃.heap.objs.size = s₂.heap.objs.size + 1 from Heap.size_push ..]; exact Nat.ne_of_lt (Nat.lt_succ_self _)
    refine hQ s₃.heap.objs.size s₂.heap.objs.size s' hC hDs G S'.frm.ns ?_ hne
    have hrl' := hrl.off (Y := fun a => X a ∨ a = s₃.heap.objs.size) (by
      rintro a (x | rfl)
      · exact .inl (.inl x)
      · exact .inr S'.frm.loc)
    refine Rd.dict ?_ hD' (by rw [hrl'.1, List.length_map]) fun i v p e1 e2 => hrl'.2 i v p.2 e1 (by rw [List.getElem?_map, e2]; rfl)
    rintro (x | q)
    · obtain ⟨o, e⟩ := S.sit.live _ x
      rw [hDs] at e; cases e
    · exact hne q

theorem Ev.dictcomp {kx vx : PySem.Expr} {g0 : Comprehension} {gs : List Comprehension} {cpos : Pos} {its : List D} {outs : List (S × D)}
    (c : Caps env ρ scope ρc Bc) (hi : Its prog w hB n env ρ g0.iter its) (hb : CompBlockD prog w hB n env scope ρc Bc (.DictComp kx vx (g0 :: gs) scope cpos) its outs)
    (hs : ∀ x, foldedSetIterable g0.iter env x = pure x := by intro _; rfl) (ha : g0.is_async = 0 := by rfl) : Ev prog w hB n env ρ (.DictComp kx vx (g0 :: gs) scope cpos) (.dict outs) := by
  intro A X s E hrm S
  rw [arm_eval_DictComp]
  have e1 : firstAsync (g0 :: gs) = false := by obtain ⟨a, b, c, d⟩ := g0; simp only at ha; subst ha; rfl
  show wpAny _ _ (comprehension (.DictComp kx vx (g0 :: gs) scope cpos) scope env (firstIterPos (g0 :: gs) cpos) newDict (firstAsync (g0 :: gs)) (firstIter (g0 :: gs) env)) _ _ s
  rw [e1]
  have e2 : firstIter (g0 :: gs) env = eval g0.iter env := by obtain ⟨a, b, c, d⟩ := g0; rfl
  rw [e2]
  refine compD_run (use := Option.none) c hi hb hrm S hs fun C Dd s' hC hD g hns r hne => ?_
  obtain ⟨m, hm⟩ := hns
  refine ⟨m, hm, fun h' hs' => ⟨gone_but g hC hs', ?_⟩⟩
  have gw : Went (fun a => X a ∨ a = C) s' { s' with heap := h' } := went_of_sameBut (t := s'.toks) (Nat.le_refl _) hs' (.inr rfl)
  exact (r.went gw).off fun a x => .inl x
theorem valueAt_none {kvs : List (S × D)} {vs : List Value} {k : S} (h : k ∉ kvs.map (·.1)) : valueAt ((kvs.map fun p => tx p.1).zip vs) (tx k) = Option.none := by
  induction kvs generalizing vs with
  | nil => rfl
  | cons p kvs ih =>
    cases vs with
    | nil => rfl
    | cons v vs =>
      rw [List.map_cons, List.mem_cons, not_or] at h
      have hne : ¬ (tx k = tx p.1) := fun e => h.1 (tx_inj e)
      have := ih (vs := vs) h.2
      simp only [valueAt] at this ⊢
      simp only [List.map_cons, List.zip_cons_cons]
      first
        | (rw [List.find?_cons_of_neg (by simpa using fun e => hne e.symm)]; exact this)
        | (simp [hne, Ne.symm hne, eq_comm]; simpa using this)

/-- one clause, no test, keys that differ -/
theorem CompBlockD.one {kx vx iter tg : PySem.Expr} {pos : Pos} {its : List D} (k : D → S) (g : D → D)
    (hturn : ∀ cells C, ∀ it ∈ its, ∃ bs, Tg tg it bs ∧ (∀ q ∈ bs, q.1 ∈ Bc ∧ ρc.lookup q.1 = Option.none) ∧ Ev prog w hB n (compEnvC scope cells C env) (bindAll bs ρc) kx (.str (k it)) ∧
      Ev prog w hB n (compEnvC scope cells C env) (bindAll bs ρc) vx (g it))
    (hnd : (its.map k).Nodup) (hsz : its.length ≤ sizeLine) : CompBlockD prog w hB n env scope ρc Bc (.DictComp kx vx [⟨tg, iter, [], 0⟩] scope pos) its (its.map fun it => (k it, g it)) := by
  intro A X M cells C Dd I s R Z St hrm hW hZ hIB hDX hMD hD hst S hR
  have W := hW A hrm.1
  have hXI : ¬ YM X M I := fun x => W.off (hZ _ x)
  have hturn' := hturn cells C
  clear hturn
  generalize hEv : compEnvC scope cells C env = env' at *
  have loop : codeAny (model prog w) A (.compLoop (.DictComp kx vx [⟨tg, iter, [], 0⟩] scope pos) 0 (.ref I) (.ref Dd) env') R s := by
    refine codeAny_loop rfl (fun m s' => ∃ i vs, i + m = its.length ∧ St i s' ∧ Went (fun a => M a ∨ a = I ∨ a = Dd) s s' ∧ Sta prog w hB X M Bc env' ρc [] s' ∧ DOf prog w s'.heap Dd vs ((its.take i).map fun it => (k it, g it)) ∧
      RdL prog w (YM X M) s' vs ((its.take i).map g)) (fun m s₁ hJ => ?_) its.length ⟨0, [], Nat.zero_add _, hst, Went.refl _ _, S, hD, RdL.nil⟩
    obtain ⟨i, vs, him, hst1, hw1, S1, hD1, hrd1⟩ := hJ
    obtain ⟨oI, vsI, heI, hdI⟩ := W.iso i s₁ hst1
    obtain ⟨oD, heD, -⟩ := Heap.dictOf_iff.mp hD1
    obtain ⟨oD', es, ep, heD', hdD⟩ := hD1
    have hDI : Dd ≠ I := fun q => by rw [q, heI] at heD'; cases heD'; rw [hdI] at hdD; cases hdD.2.1
    have hD1 : DOf prog w s₁.heap Dd vs ((its.take i).map fun it => (k it, g it)) := ⟨oD', es, ep, heD', hdD⟩
    have hA : A.under (.compLoop (.DictComp kx vx [⟨tg, iter, [], 0⟩] scope pos) 0 (.ref I) (.ref Dd) env') = A := under_comp rfl
    rw [hA]
    show wpAny _ A ((compTurn (.DictComp kx vx [⟨tg, iter, [], 0⟩] scope pos) 0 (.ref I) (.ref Dd) env').onRaise (fun x => do noteFrame x env'; theTreesLotGoes x)) _ _ s₁
    refine wpAny_noted ?_
    rw [compTurn_dict]
    refine wpAny_bind (wpAny_standAt (wpAny_bind ?_))
    by_cases hlt : i < its.length
    · have hd : its[i]? = some its[i] := by simp [hlt]
      have htake : its.take (i + 1) = its.take i ++ [its[i]] := by rw [List.take_add_one, hd]; rfl
      obtain ⟨bs, htg, hbs, hkx, hvx⟩ := hturn' its[i] (List.getElem_mem hlt)
      refine W.item i its[i] s₁ _ _ hd hst1 S1.ok.sit.tlo fun v s₂ g2 hst2 r2 => ?_
      have S2 : Sta prog w hB X M Bc env' ρc [] s₂ := S1.other g2 hXI hIB heI hdI
      have hD2 : DOf prog w s₂.heap Dd vs ((its.take i).map fun it => (k it, g it)) := hD1.at fun o e => g2.ext _ _ hDI e
      have r2' : Rd prog w (YM X M) s₂ v its[i] := r2.off fun a ha => .inl (hZ a ha)
      have hrd2 : RdL prog w (YM X M) s₂ vs ((its.take i).map g) := ⟨hrd1.1, fun j v d e1 e2 => (hrd1.2 j v d e1 e2).mono' g2.le fun a o hx ea hn => ⟨hx, g2.ext a o (fun q => by subst q; rw [heI] at ea; cases ea; exact hn _ hdI) ea⟩⟩
      have w2 : Went (fun a => M a ∨ a = I ∨ a = Dd) s s₂ := hw1.trans (g2.on fun a q => .inl (.inr (.inl q)))
      refine wpAny_bind (W.quiet (i + 1) s₂ tg v _ _ hst2 ?_)
      refine wpAny_bind (S2.assign hrm.1 htg (fun q hq => (hbs q hq).1) r2' fun s₃ g3 S3 => ?_)
      have gX3 : Went (YM X M) s₂ s₃ := g3.on fun a ha => .inl (.inr ha)
      have hD3 : DOf prog w s₃.heap Dd vs ((its.take i).map fun it => (k it, g it)) := hD2.at fun o e => g3.ext _ _ hMD e
      have w3 : Went (fun a => M a ∨ a = I ∨ a = Dd) s s₃ := w2.trans (g3.on fun a q => .inl (.inl q))
      have hst3 : St (i + 1) s₃ := W.stay _ _ _ hst2 (gX3.on fun a q => .inl (hZ a q))
      refine wpAny_bind ?_
      rw [List.forIn_nil]
      refine wpAny_pure ?_
      simp only [if_true]
      refine wpAny_bind (wpAny_bind (wpAny_mono (hkx A _ s₃ _ hrm S3.ok) (fun kv s₄ h₄ => ?_) fun _ _ e => e))
      obtain ⟨g4, r4⟩ := h₄
      have S4 := S3.keep g4
      refine wpAny_bind (wpAny_holding (wpAny_mono (hvx A _ s₄ _ hrm S4.ok) (fun vv s₅ h₅ => ?_) fun _ _ e => e))
      obtain ⟨g5, r5⟩ := h₅
      have S5 := S4.keep g5
      have hD5 : DOf prog w s₅.heap Dd vs ((its.take i).map fun it => (k it, g it)) := hD3.at fun o e => g5.keep _ _ (g4.keep _ _ e)
      obtain ⟨oD5, es5, ep5, heD5, hdD5⟩ := id hD5
      obtain ⟨tk, rfl⟩ : ∃ t, kv = .str (tx (k its[i])) t := by cases r4; exact ⟨_, rfl⟩
      have hlenv : vs.length = i := by rw [hrd1.1, List.length_map, List.length_take]; omega
      refine wpAny_bind (wpAny_standAt (wpAny_holding (wpAny_dictSet_pairs (knd := strKind prog w) (k := tx (k its[i])) (by simp [PySem.strKind, Value.isStrOf]) hD5 (fun h' hl' hs' => ?_) (hsz := ?_))))
      · have hnot : k its[i] ∉ ((its.take i).map fun it => (k it, g it)).map (·.1) := by
          rw [List.map_map]
          intro hm
          have e1 : its.map k = (its.take i).map k ++ (its.drop i).map k := by rw [← List.map_append, List.take_append_drop]
          rw [e1] at hnd
          have := (List.nodup_append.mp hnd).2.2 _ hm (k its[i]) (by rw [List.drop_eq_getElem_cons hlt, List.map_cons]; exact List.mem_cons_self)
          exact this rfl
        rw [stored_absent (valueAt_none hnot)] at hl'
        have g6 : Went (· = Dd) s₅ { s₅ with heap := h', toks := s₅.toks + 1 } := went_of_sameBut (Nat.le_succ _) hs' rfl
        have gX6 : Went (YM X M) s₅ { s₅ with heap := h', toks := s₅.toks + 1 } := g6.on fun a q => .inl (by subst q; exact .inl hDX)
        have back : Sta prog w hB X M Bc env' ρc [] s₅ := by rw [dropAll_nil] at S5; exact S5.weaken (fun x d h => lookup_bindAll htg (fun q hq => (hbs q hq).2) h) (fun _ _ h => nomatch h)
        have hl2 : DOf prog w h' Dd (vs ++ [vv]) ((its.take (i + 1)).map fun it => (k it, g it)) := by
          show h'.DictOf _ _ _
          have el : (((its.take i).map fun it => (k it, g it)).map fun p => tx p.1).length = vs.length := by rw [List.length_map, List.length_map, List.length_take]; omega
          rw [htake, List.map_append, List.map_append, List.zip_append el]
          exact hl'
        refine wpAny_pure ⟨rfl, m - 1, by omega, i + 1, vs ++ [vv], by omega, ?_, ?_, ?_, hl2, ?_⟩
        · exact W.stay _ _ _ (W.stay _ _ _ hst3 (g4.trans g5).went) (gX6.on fun a q => .inl (hZ a q))
        · exact ((w3.trans g4.went).trans g5.went).trans (g6.on fun a q => .inl (.inr (.inr q)))
        · refine back.yacc g6 hDX hMD heD5 (fun u z => ?_) (let ⟨o, _, _, e, _⟩ := hl2; ⟨o, e⟩)
          rw [hdD5.2.1] at z; cases z
        · rw [htake, List.map_append]
          exact ((((hrd2.went gX3).keep g4).keep g5).went gX6).snoc (r5.went gX6)
      · rw [List.length_zip]
        have := Nat.min_le_right (((its.take i).map fun it => (k it, g it)).map fun p => tx p.1).length vs.length
        omega
    · have hi : i = its.length := by omega
      subst hi
      rw [List.take_length] at hrd1 hD1
      refine W.done s₁ _ _ hst1 fun s₂ g2 => ?_
      have S2 : Sta prog w hB X M Bc env' ρc [] s₂ := S1.other g2 hXI hIB heI hdI
      have hrd2 : RdL prog w (YM X M) s₂ vs (its.map g) := ⟨hrd1.1, fun j v d e1 e2 => (hrd1.2 j v d e1 e2).mono' g2.le fun a o hx ea hn => ⟨hx, g2.ext a o (fun q => by subst q; rw [heI] at ea; cases ea; exact hn _ hdI) ea⟩⟩
      refine wpAny_pure (hR s₂ vs (hw1.trans (g2.on fun a q => .inl (.inr (.inl q)))) S2 (hD1.at fun o e => g2.ext _ _ hDI e) ?_)
      rw [List.map_map]; exact hrd2
  exact codeAny_compStart_dict loop ((hW A hrm.1).self 0 _ _ _ hst loop)
end
end Mine

set_option maxHeartbeats 1000000
namespace Mine
open PySem PySem.W PyProof.Rows PySem.Calls

theorem args1 {P : List Value → Prop} (h : ∀ a, P [a]) : ∀ vs : List Value, vs.length = 1 → P vs := fun vs e => by
  cases vs with
  | nil => cases e
  | cons a r => cases r with
    | nil => exact h a
    | cons b r => cases e
theorem args2 {P : List Value → Prop} (h : ∀ a b, P [a, b]) : ∀ vs : List Value, vs.length = 2 → P vs := fun vs e => by
  cases vs with
  | nil => cases e
  | cons a r => exact args1 (P := fun r => P (a :: r)) (h a) r (Nat.succ.inj e)
theorem args3 {P : List Value → Prop} (h : ∀ a b c, P [a, b, c]) : ∀ vs : List Value, vs.length = 3 → P vs := fun vs e => by
  cases vs with
  | nil => cases e
  | cons a r => exact args2 (P := fun r => P (a :: r)) (h a) r (Nat.succ.inj e)
theorem len0 {α : Type} {vs : List α} (h : vs.length = 0) : vs = [] := List.eq_nil_of_length_eq_zero h
theorem len1 {α : Type} {vs : List α} (h : vs.length = 1) : ∃ a, vs = [a] := by
  cases vs with
  | nil => cases h
  | cons a r => exact ⟨a, by rw [len0 (Nat.succ.inj h)]⟩
theorem len2 {α : Type} {vs : List α} (h : vs.length = 2) : ∃ a b, vs = [a, b] := by
  cases vs with
  | nil => cases h
  | cons a r => obtain ⟨b, e⟩ := len1 (Nat.succ.inj h); exact ⟨a, b, by rw [e]⟩
theorem len3 {α : Type} {vs : List α} (h : vs.length = 3) : ∃ a b c, vs = [a, b, c] := by
  cases vs with
  | nil => cases h
  | cons a r => obtain ⟨b, c, e⟩ := len2 (Nat.succ.inj h); exact ⟨a, b, c, by rw [e]⟩

/-- what stands below all -/
structure Wd (hB : Bs) (K : Frag) : Prop where
  X : K.In hB.h
  g : ∃ mg, hB.h.Ns mainGlobals mg
  b : ∃ mb, hB.h.Ns builtinsNs mb ∧ ∀ x : Str, x ≠ "__name__" → mb x = bootBuiltins x
  nolimit : hB.h.NoLimit
  nb : NoneBooked hB.h

section
variable {prog : Program} {w : World} {hB : Bs} {n : Nat} {K : Frag} {env : Env} {ρ ρc : List (Str × D)} {μ : List (Str × Ow)} {X Y M : Addr → Prop} {B Bc : List Str} {scope : Scope}

theorem Ev.global {x : Str} {pos : Pos} {v : Value} (W : Wd hB K) (hk : env.scope.kind = .function) (hx : env.kindOf x = some .globalImplicit) (hg : env.globals = mainGlobals) (e : nsIn K mainGlobals x = some (some v))
    (hd : (x == ("__debug__" : Str)) = false := by decide) : Ev prog w hB n env ρ (.Name x pos) (.val v) := by
  intro A X s E hr S
  obtain ⟨mg, hG⟩ := W.g
  have hv := mg_of W.X hG e
  exact Name_function_global hk hx (loadGlobal_global (mg := mg) (by rw [hg]; exact hG.keeps S.sit.base) hv ⟨Gone.refl _, .val v⟩) hd
theorem Ev.builtin {x : Str} {pos : Pos} {v : Value} (W : Wd hB K) (hk : env.scope.kind = .function) (hx : env.kindOf x = some .globalImplicit) (hg : env.globals = mainGlobals) (hb : env.builtins = builtinsNs) (e : nsIn K mainGlobals x = some none)
    (hv : bootBuiltins x = some v) (hn : x ≠ "__name__" := by decide) (hd : (x == ("__debug__" : Str)) = false := by decide) : Ev prog w hB n env ρ (.Name x pos) (.val v) := by
  intro A X s E hr S
  obtain ⟨mg, hG⟩ := W.g
  obtain ⟨mb, hBn, hbb⟩ := W.b
  have hm := mg_none_of W.X hG e
  exact Name_function_global hk hx (loadGlobal_builtin (mg := mg) (mb := mb) (by rw [hg]; exact hG.keeps S.sit.base) hm (by rw [hb]; exact hBn.keeps S.sit.base) (by rw [hbb x hn]; exact hv) ⟨Gone.refl _, .val v⟩) hd

/-- a call of f with ds and kw gives d, and leaves all as it was -/
def FnK (prog : Program) (w : World) (hB : Bs) (n : Nat) (f : Value) (ds : List D) (kw : List (Str × D)) (d : D) : Prop :=
  ∀ A X s vs ks R, Room n A → Sit hB X s → RdL prog w X s vs ds → RdL prog w X s ks (kw.map (·.2)) → (∀ v s', Gone s s' → Rd prog w X s' v d → R (.ok (.ret v)) s') →
    codeAny (model prog w) A (.call f ⟨vs, (kw.map (·.1)).zip ks⟩) R s
abbrev Fn (prog : Program) (w : World) (hB : Bs) (n : Nat) (f : Value) (ds : List D) (d : D) : Prop := FnK prog w hB n f ds [] d
theorem bindL_not {k : Str → Option NameKind} {x : Str} : ∀ {l : List (Str × Value)} {m : Str → Option Value}, x ∉ l.map (·.1) → bindL k l m x = m x
  | [], _, _ => rfl
  | (y, v) :: r, m, h => by
    rw [List.map_cons, List.mem_cons, not_or] at h
    rw [bindL, bindL_not h.2]
    split
    · exact if_neg h.1
    · rfl
theorem bindC_not {k : Str → Option NameKind} {x : Str} : ∀ {l : List (Str × Value)} {m : Str → Option Value}, x ∉ l.map (·.1) → bindC k l m x = m x
  | [], _, _ => rfl
  | (y, v) :: r, m, h => by
    rw [List.map_cons, List.mem_cons, not_or] at h
    rw [bindC, bindC_not h.2]
    split
    · rfl
    · exact if_neg h.1
theorem bindL_lookup {k : Str → Option NameKind} {x : Str} {v : Value} (hk : k x = some .local) : ∀ {l : List (Str × Value)} {m : Str → Option Value}, (l.map (·.1)).Nodup → l.lookup x = some v → bindL k l m x = some v
  | [], _, _, e => nomatch e
  | (y, u) :: r, m, hnd, e => by
    rw [List.map_cons, List.nodup_cons] at hnd
    rw [List.lookup_cons] at e
    cases q : x == y with
    | true =>
      have hxy : x = y := by simpa using q
      subst hxy
      rw [q] at e
      rw [bindL, bindL_not hnd.1, if_pos hk]; simpa using e
    | false =>
      rw [q] at e
      rw [bindL]; exact bindL_lookup hk hnd.2 e
theorem bindC_lookup {k : Str → Option NameKind} {x : Str} {v : Value} (hk : k x ≠ some .local) : ∀ {l : List (Str × Value)} {m : Str → Option Value}, (l.map (·.1)).Nodup → l.lookup x = some v → bindC k l m x = some v
  | [], _, _, e => nomatch e
  | (y, u) :: r, m, hnd, e => by
    rw [List.map_cons, List.nodup_cons] at hnd
    rw [List.lookup_cons] at e
    cases q : x == y with
    | true =>
      have hxy : x = y := by simpa using q
      subst hxy
      rw [q] at e
      rw [bindC, bindC_not hnd.1, if_neg hk]; simpa using e
    | false =>
      rw [q] at e
      rw [bindC]; exact bindC_lookup hk hnd.2 e
theorem zip_look {x : Str} {d : D} : ∀ {names : List Str} {vs : List Value} {ds : List D}, vs.length = ds.length → (names.zip ds).lookup x = some d → ∃ (i : Nat) (v : Value), vs[i]? = some v ∧ ds[i]? = some d ∧ (names.zip vs).lookup x = some v
  | [], _, _, _, e => by simp at e
  | y :: names, [], [], _, e => by simp at e
  | y :: names, [], d' :: ds, h, e => by simp at h
  | y :: names, v' :: vs, [], h, e => by simp at h
  | y :: names, v' :: vs, d' :: ds, h, e => by
    rw [List.zip_cons_cons, List.lookup_cons] at e
    cases q : x == y with
    | true =>
      rw [q] at e
      refine ⟨0, v', rfl, by simpa using e, ?_⟩
      rw [List.zip_cons_cons, List.lookup_cons, q]
    | false =>
      rw [q] at e
      obtain ⟨i, v, h1, h2, h3⟩ := zip_look (by simpa using h) e
      exact ⟨i + 1, v, h1, h2, by rw [List.zip_cons_cons, List.lookup_cons, q]; exact h3⟩

/-- a frame, begun -/
theorem start_sta {s s₁ : Shared} (S : Sit hB X s) (g : Gone s s₁) (hk : env.scope.kind = .function) (hns : ∃ m, s₁.heap.Ns env.locals m) (hf : s.heap.get? env.locals = Option.none)
    (hcel : ∀ x c, env.cells.lookup x = some c → s.heap.get? c = Option.none ∧ ∃ v, s₁.heap.IsCell c v) (hap : Apart env.cells)
    (hbd : ∀ x ∈ B, env.kindOf x = some .local ∨ (env.kindOf x = some .cell ∧ ∃ c, env.cells.lookup x = some c))
    (hn : ∀ x d, ρ.lookup x = some d → ∃ v, NameIs s₁.heap env x v ∧ Rd prog w X s v d) : Sta prog w hB X (ownM s s₁) B env ρ [] s₁ := by
  refine ⟨⟨⟨S.base.trans g.keep, ?_, ?_, Nat.lt_of_lt_of_le S.tlo g.le⟩, hap, fun x d e => ?_⟩, ⟨hk, ⟨hf, ?_⟩, hns, fun x c e => (hcel x c e).2, fun x hx => ?_⟩, fun x o e => nomatch e⟩
  · rintro a (ha | ha)
    · obtain ⟨o', e⟩ := S.live a ha
      exact ⟨o', g.keep _ _ e⟩
    · exact ha.2
  · rintro a (ha | ha)
    · exact S.off a ha
    · cases q : hB.h.get? a with
      | none => rfl
      | some o' => exact absurd (ha.1.symm.trans (S.base a o' q)) (by intro z; cases z)
  · obtain ⟨v, h1, h2⟩ := hn x d e
    exact ⟨v, h1, (h2.on fun a ha => ha.elim .inl fun m => .inr m.1).keep g⟩
  · obtain ⟨m, o, _, _, e, _⟩ := hns; exact ⟨o, e⟩
  · rcases hbd x hx with q | ⟨q, c, e⟩
    · exact .inl q
    · exact .inr ⟨q, c, e, (hcel x c e).1, let ⟨_, o, h, _⟩ := (hcel x c e).2; ⟨o, h⟩⟩

theorem post_fn {s s₁ s' : Shared} {f : Flow} {Q : Po} {d : D} {R : Result → Shared → Prop} (g : Gone s s₁) (h : Post hB B env prog w X (ownM s s₁) Q s₁ f s')
    (hQ : ∀ fl ρ μ, Q fl ρ μ → fl = .ret d ∨ (fl = .next ∧ d = .none)) (hR : ∀ v s', Gone s s' → Rd prog w X s' v d → R (.ok (.ret v)) s') : R (.ok (.ret (match f with | .ret v => v | _ => .none))) s' := by
  obtain ⟨g', fl, M', ρ', μ', h1, h2, h3, h4⟩ := h
  have G : Gone s s' := (g.went.trans g').gone fun a ha => ha.1
  rcases hQ _ _ _ h4 with rfl | ⟨rfl, rfl⟩
  · cases f <;> try exact h1.elim
    exact hR _ _ G (h1.off fun a ha => .inl ha)
  · cases f <;> try exact h1.elim
    exact hR _ _ G .none

/-- a def of the text's, its locals caught by what stands in it or not -/
theorem FnK.of_def {a : Addr} {o : Obj} {fd : FuncData} {body : List Stmt} {names : List Str} {ds ds' : List D} {kw : List (Str × D)} {d : D} {Q : Po} {bnd : List Value → List Value → List Value}
    (W : Wd hB K) (ho : K.lookup a = some o) (hdata : o.data = .func fd) (hcd : codeIn K fd.code fd.qualname = true) (hbody : fd.body = .stmts body)
    (hbind : ∀ s vs ks, Keep hB.h s.heap → vs.length = ds.length → ks.length = kw.length → BindsTo s fd ⟨vs, (kw.map (·.1)).zip ks⟩ (names.zip (bnd vs ks)))
    (hrd : ∀ X s vs ks, RdL prog w X s vs ds → RdL prog w X s ks (kw.map (·.2)) → RdL prog w X s (bnd vs ks) ds') (hlen : ds'.length = names.length) (hclo : fd.closure = [])
    (hnd : names.Nodup) (hpar : ∀ x ∈ names, fd.scope.names.lookup x = some .local ∨ fd.scope.names.lookup x = some .cell)
    (hbd : ∀ x ∈ B, fd.scope.names.lookup x = some .local ∨ fd.scope.names.lookup x = some .cell)
    (hex : ∀ L, Ex prog w hB n B (callEnvC fd L a) (names.zip ds') [] body Q) (hQ : ∀ fl ρ μ, Q fl ρ μ → fl = .ret d ∨ (fl = .next ∧ d = .none))
    (hco : fd.scope.isCoroutine = false := by rfl) (hgen : fd.scope.isGenerator = false := by rfl) (hk : fd.scope.kind = .function := by rfl) : FnK prog w hB (n + 1) (.ref a) ds kw d := by
  intro A X s vs ks R hrm S hvs hks hR
  have hb := hrd X s vs ks hvs hks
  have hlv : (bnd vs ks).length = names.length := hb.1.trans hlen
  have hzk : (names.zip (bnd vs ks)).map (·.1) = names := List.map_fst_zip (Nat.le_of_eq hlv.symm)
  have hcs : ∀ x, fd.scope.names.lookup x = some .cell → ∃ c, (cellsFrom (s.heap.objs.size + 1) fd.scope.names []).lookup x = some c := fun x e => by
    obtain ⟨c, h1, _⟩ := cells_own (h := s.heap.push { cls := .type "dict", data := .dict #[] }) (acc := []) (lookup_mem e)
    rw [Heap.size_push] at h1
    exact ⟨c, h1⟩
  have spec := cells_spec (names := fd.scope.names) (h := s.heap.push { cls := .type "dict", data := .dict #[] }) (acc := []) (fun x c e => nomatch e) (fun x y c e => nomatch e)
  rw [Heap.size_push] at spec
  refine codeAny_call_function hrm.depth (S.base _ _ (W.X _ _ ho)) hdata hco hgen hbody (codeRec_of (W.X.keeps S.base) hcd) (hbind s vs ks S.base hvs.1 (by rw [hks.1, List.length_map]) _ _ _ _ ?_)
  rw [hclo]
  refine wt (wpAny_newFunctionEnv_cells hk (fun x hx => ?_) fun env' he s₁ x => ?_)
  · have hxm : x.1 ∈ names := hzk ▸ List.mem_map.mpr ⟨x, hx, rfl⟩
    rcases hpar _ hxm with q | q
    · exact .inl q
    · exact .inr ⟨q, let ⟨c, e⟩ := hcs _ q; by rw [e]; rfl⟩
  · intro hle
    subst he
    have g : Gone s s₁ := by
      obtain ⟨h, tk, rfl⟩ := x.toInCall.same
      exact ⟨h, tk, rfl, hle, x.toInCall.keep⟩
    refine ⟨W.nolimit.keeps (S.base.trans g.keep), codeAny_func ?_⟩
    have St : Sta prog w hB X (ownM s s₁) B (callEnvC fd s.heap.objs.size a) (names.zip ds') [] s₁ := by
      refine start_sta S g hk ⟨_, x.toInCall.ns⟩ (get?_size_none _) (fun y c e => ?_) spec.1 (fun y hy => ?_) (fun y d' e => ?_)
      · rcases spec.2 y c e with q | ⟨q, -⟩
        · cases q
        · exact ⟨get?_ge (Nat.le_trans (Nat.le_succ _) q), _, x.cell y c e⟩
      · rcases hbd y hy with q | q
        · exact .inl q
        · exact .inr ⟨q, hcs _ q⟩
      · obtain ⟨i, v, h1, h2, h3⟩ := zip_look hb.1 e
        have hym : y ∈ names := by
          have := lookup_mem h3
          exact (List.of_mem_zip this).1
        have hndz : ((names.zip (bnd vs ks)).map (·.1)).Nodup := by rw [hzk]; exact hnd
        refine ⟨v, ?_, hb.2 i v d' h1 h2⟩
        rcases hpar y hym with q | q
        · exact .inl ⟨q, _, x.toInCall.ns, bindL_lookup q hndz h3⟩
        · obtain ⟨c, e'⟩ := hcs _ q
          refine .inr ⟨.inl q, c, e', ?_⟩
          have := x.cell y c e'
          rw [bindC_lookup (by intro z; rw [show (newEnv fd.scope s.heap.objs.size fd.globals (cellsFrom (s.heap.objs.size + 1) fd.scope.names []) (fd.qualname ++ ".<locals>.") (some a) fd.code none fd.builtins).kindOf y = fd.scope.names.lookup y from rfl, q] at z; cases z) hndz h3] at this
          exact this
    exact wpAny_mono (hex s.heap.objs.size _ _ _ _ _ (hrm.deeper _) St) (fun f s' h => by have := post_fn g h hQ hR; cases f <;> exact this) fun _ _ e => e

/-- no keywords, all names given -/
theorem Fn.of_def {a : Addr} {o : Obj} {fd : FuncData} {body : List Stmt} {names : List Str} {ds : List D} {d : D} {Q : Po}
    (W : Wd hB K) (ho : K.lookup a = some o) (hdata : o.data = .func fd) (hcd : codeIn K fd.code fd.qualname = true) (hbody : fd.body = .stmts body)
    (hbind : ∀ vs : List Value, vs.length = names.length → bindArgs fd ⟨vs, []⟩ = pure (names.zip vs)) (hlen : ds.length = names.length) (hclo : fd.closure = [])
    (hnd : names.Nodup) (hpar : ∀ x ∈ names, fd.scope.names.lookup x = some .local ∨ fd.scope.names.lookup x = some .cell)
    (hbd : ∀ x ∈ B, fd.scope.names.lookup x = some .local ∨ fd.scope.names.lookup x = some .cell)
    (hex : ∀ L, Ex prog w hB n B (callEnvC fd L a) (names.zip ds) [] body Q) (hQ : ∀ fl ρ μ, Q fl ρ μ → fl = .ret d ∨ (fl = .next ∧ d = .none))
    (hco : fd.scope.isCoroutine = false := by rfl) (hgen : fd.scope.isGenerator = false := by rfl) (hk : fd.scope.kind = .function := by rfl) : Fn prog w hB (n + 1) (.ref a) ds d :=
  FnK.of_def (bnd := fun vs _ => vs) W ho hdata hcd hbody (fun s vs ks _ h1 h2 => BindsTo.of_eq (hbind vs (h1.trans hlen))) (fun X s vs ks h1 _ => h1) hlen hclo hnd hpar hbd hex hQ hco hgen hk

/-- a def or a class of the text's is called by its name -/
theorem Ev.call {x : Str} {p : Pos} {a : Addr} {e : PySem.Expr} {es : List PySem.Expr} {pos : Pos} {ds : List D} {d : D} (W : Wd hB K) (hf : Ev prog w hB n env ρ (.Name x p) (.val (.ref a))) (hk : keepIn K (.ref a) = true)
    (hes : EvL prog w hB n env ρ pos (e :: es) ds) (hfn : Fn prog w hB n (.ref a) ds d) (he : starEach (e :: es) env = (false, eval e env) :: starEach es env := by rfl) (hplain : (backTo pos (starEach es env)).any (·.1) = false := by rfl) :
    Ev prog w hB n env ρ (.Call (.Name x p) (e :: es) [] pos) d := by
  intro A X s E hr S
  refine wpAny_Call_NameR (wpAny_mono (hf A X s _ hr S) (fun v s₁ h₁ => ?_) fun _ _ e => e)
  obtain ⟨g1, r1⟩ := h₁
  cases r1
  have S1 := S.keep g1
  refine callWith_K (K := K) (W.X.keeps S1.sit.base) hk (wpAny_mono (hes A X s₁ _ hr S1) (fun vs s₂ h₂ => ?_) fun _ _ e => e) he hplain
  obtain ⟨g2, r2⟩ := h₂
  have S2 := S1.keep g2
  exact ⟨W.X.keeps S2.sit.base, wpAny_call (hfn A X s₂ vs [] _ hr S2.sit r2 RdL.nil fun v s' g r => ⟨(g1.trans g2).trans g, r⟩)⟩
end
end Mine

set_option maxHeartbeats 1000000
namespace Mine
open PySem PySem.W PyProof.Rows PySem.Calls

section
variable {prog : Program} {w : World} {hB : Bs} {n : Nat} {K : Frag} {env : Env} {ρ ρc : List (Str × D)} {μ : List (Str × Ow)} {X Y M : Addr → Prop} {B Bc : List Str} {scope : Scope}

/-- truths that may be several -/
def TrP (prog : Program) (w : World) (hB : Bs) (n : Nat) (env : Env) (ρ : List (Str × D)) (e : PySem.Expr) (P : Bool → Prop) : Prop :=
  ∀ A X s E, Room n A → SOk prog w hB X env ρ s → wpAny (model prog w) A (isTrue e env (eval e env)) (fun c s' => Gone s s' ∧ P c) E s

theorem Tr.orP {x y : PySem.Expr} {pos} {c : Bool} {P : Bool → Prop} (hx : TrP prog w hB n env ρ x P) (h1 : P true → c = true) (hy : P false → Tr prog w hB n env ρ y c) : Tr prog w hB n env ρ (.BoolOp .Or [x, y] pos) c := by
  intro A X s E hrm hs
  refine wpAny_isTrue_BoolOp (wpAny_allTrue_Or_cons (wpAny_mono (hx A X s E hrm hs) (fun c' s₁ h₁ => ?_) fun _ _ e => e))
  obtain ⟨g, hp⟩ := h₁
  cases c' with
  | true => exact ⟨g, (h1 hp).symm⟩
  | false =>
    refine wpAny_allTrue_Or_cons (wpAny_mono (hy hp A X s₁ E hrm (hs.keep g)) (fun c' s₂ h₂ => ?_) fun _ _ e => e)
    obtain ⟨g₂, rfl⟩ := h₂
    cases c' with
    | true => exact ⟨g.trans g₂, rfl⟩
    | false => exact wpAny_allTrue_Or_nil ⟨g.trans g₂, rfl⟩

/-- one text older than the other: «is» is no wider than «==» -/
theorem TrP.is_strs {l r : PySem.Expr} {pos : Pos} {x y : S} {hi lo : Nat} (hnb : NoneBooked hB.h) (hl : Ev prog w hB n env ρ l (.old hi x)) (hr : Ev prog w hB n env ρ r (.young lo y)) (hle : hi ≤ lo)
    (hm : behindInMarks .Is r = false := by with_unfolding_all rfl) : TrP prog w hB n env ρ (.Compare l [.Is] [r] pos) (fun c => c = true → x = y) := by
  intro A X s E hrm hs
  refine wpAny_isTrue_Compare1 (wpAny_mono (hl A X s E hrm hs) (fun v s₁ h₁ => ?_) fun _ _ e => e) hm
  obtain ⟨g₁, r₁⟩ := h₁
  refine wpAny_mono (hr A X s₁ E hrm (hs.keep g₁)) (fun u s₂ h₂ => ?_) fun _ _ e => e
  obtain ⟨g₂, r₂⟩ := h₂
  have hS := ((hs.keep g₁).keep g₂).sit
  cases r₁ with
  | old _ t _ h0 h1 =>
    cases r₂ with
    | young _ t' _ h0' h1' h2' =>
      have hne : ¬ (t = t') := fun e => by subst e; exact absurd (Nat.lt_of_lt_of_le h1 (Nat.le_trans hle h1')) (Nat.lt_irrefl _)
      have h00 : (t == 0 || t' == 0) = false := by
        rw [Bool.or_eq_false_iff]; exact ⟨by simpa using Nat.pos_iff_ne_zero.mp h0, by simpa using Nat.pos_iff_ne_zero.mp h0'⟩
      show wpAny _ _ (isSame (.str (tx x) t) (.str (tx y) t') >>= _) _ _ _
      by_cases hxy : x = y
      · obtain ⟨mc, hmc, hk⟩ := hnb
        exact wpAny_bind (wpAny_isSame_str h00 ⟨mc, hmc.keeps hS.base, hk⟩ fun b => wpAny_pure (wpAny_truthy_bool ⟨g₁.trans g₂, fun _ => hxy⟩))
      · have : ((tx x) == (tx y)) = false := by
          cases q : (tx x) == (tx y) with
          | false => rfl
          | true => exact absurd (tx_inj (by simpa using q)) hxy
        rw [isSame_str_other _ _ _ _ h00 (by simpa using hne) this]
        exact wpAny_bind (wpAny_pure (wpAny_pure (wpAny_truthy_bool ⟨g₁.trans g₂, fun z => nomatch z⟩)))

theorem Giv2.isnot_none {a : D} {b : Bool} (hv : ∀ prog w X s u, Rd prog w X s u a → plainIs u .none = true ∧ (u == Value.none) = b) : Giv2 prog w hB n (compareOp .IsNot) a .none (.bool (!b)) := by
  intro A X s E u u' hr hs r₁ r₂
  have := r₂.none_inv; subst this
  have := hv _ _ _ _ _ r₁
  with_reducible refine wpAny_isNot_plain this.1 ?_
  exact ⟨Gone.refl _, by rw [this.2]; exact .bool _⟩

/-- of what type a datum's values are -/
def HasT (d : D) (T : String) : Prop := ∀ (prog : Program) (w : World) (X : Addr → Prop) (s : Shared) (v : Value), Rd prog w X s v d → s.TypeIs v T
theorem HasT.list {ds : List D} : HasT (.list ds) "list" := fun prog w X s v r => by
  obtain ⟨l, vs, k, rfl, hx, ho, rl⟩ := r.list_inv
  exact ⟨_, ho, rfl⟩
theorem HasT.strs {d : D} {x : S} (h : IsS d x) : HasT d "str" := fun prog w X s v r => by
  obtain ⟨t, rfl⟩ := h.rd r
  exact typeIs_str _ _ _
theorem HasT.dict {ds : List (S × D)} : HasT (.dict ds) "dict" := fun prog w X s v r => by
  cases r with
  | dict hx ho hl hi =>
    obtain ⟨o, es, ep, e, q⟩ := ho
    exact ⟨o, e, q.1.1⟩

/-- an item by an index that is no slice -/
theorem Ev.sub {value slice : PySem.Expr} {pos : Pos} {a i d : D} {T id : String} (hv : Ev prog w hB n env ρ value a) (hi : Ev prog w hB n env ρ slice i) (ho : Giv2 prog w hB n getItem a i d) (hT : HasT a T)
    (hl : typeLookup (.type T) "__getitem__" = pure (some (.builtin id))) (hs : ∀ o i, ∃ ops, subscripted slice false o i = operate ops (getItem o i) := by intro o i; exact ⟨_, rfl⟩) : Ev prog w hB n env ρ (.Subscript value slice pos) d := by
  intro A X s E hrm S
  refine Subscript_ (wpAny_mono (hv A X s E hrm S) (fun v s₁ h₁ => ?_) fun _ _ e => e)
  obtain ⟨g₁, r₁⟩ := h₁
  refine wpAny_mono (hi A X s₁ E hrm (S.keep g₁)) (fun u s₂ h₂ => ?_) fun _ _ e => e
  obtain ⟨g₂, r₂⟩ := h₂
  obtain ⟨ops, he⟩ := hs v u
  refine tail_any (hT _ _ _ _ _ (r₁.keep g₂)) hl (wpAny_mono (ho A X s₂ E v u hrm ((S.keep g₁).keep g₂).sit (r₁.keep g₂) r₂) (fun c s₃ h₃ => ?_) fun _ _ e => e) he
  exact ⟨(g₁.trans g₂).trans h₃.1, h₃.2⟩
theorem Ev.sub_list {value slice : PySem.Expr} {pos : Pos} {ds : List D} {i : Int} {d : D} (hv : Ev prog w hB n env ρ value (.list ds)) (hi : Ev prog w hB n env ρ slice (.int i)) (h0 : 0 ≤ i) (h1 : i < 2 ^ 63) (hd : ds[i.toNat]? = some d)
    (hs : ∀ o i, ∃ ops, subscripted slice false o i = operate ops (getItem o i) := by intro o i; exact ⟨_, rfl⟩) : Ev prog w hB n env ρ (.Subscript value slice pos) d :=
  Ev.sub hv hi (Giv2.item_list h0 h1 hd) HasT.list PySem.F.slot_list_getitem.lookup hs
theorem Ev.sub_str {value slice : PySem.Expr} {pos : Pos} {a : D} {x : S} {i : Int} {c : Nat} (hv : Ev prog w hB n env ρ value a) (hx : IsS a x) (hi : Ev prog w hB n env ρ slice (.int i)) (hlo : -(2 ^ 63 : Int) ≤ i) (hhi : i < 2 ^ 63)
    (hc : (seqIndex? i x.length).bind (x[·]?) = some c) (hs : ∀ o i, ∃ ops, subscripted slice false o i = operate ops (getItem o i) := by intro o i; exact ⟨_, rfl⟩) : Ev prog w hB n env ρ (.Subscript value slice pos) (.own [c]) :=
  Ev.sub hv hi (Giv2.item_str hx hlo hhi hc) (HasT.strs hx) PySem.F.slot_str_getitem.lookup hs

theorem Ev.sub_tuple {value slice : PySem.Expr} {pos : Pos} {ds : List D} {i : Int} {d : D} (hv : Ev prog w hB n env ρ value (.tuple ds)) (hi : Ev prog w hB n env ρ slice (.int i)) (h0 : 0 ≤ i) (h1 : i < 2 ^ 63) (hd : ds[i.toNat]? = some d)
    (hs : ∀ t k u, subscripted slice false (.ref t) (.int k u) = operate [.ref t, .int k u] (getItem (.ref t) (.int k u)) := by intro t k u; with_unfolding_all rfl) : Ev prog w hB n env ρ (.Subscript value slice pos) d := by
  intro A X s E hrm S
  refine Subscript_ (wpAny_mono (hv A X s E hrm S) (fun v s₁ h₁ => ?_) fun _ _ e => e)
  obtain ⟨g₁, r₁⟩ := h₁
  refine wpAny_mono (hi A X s₁ E hrm (S.keep g₁)) (fun u s₂ h₂ => ?_) fun _ _ e => e
  obtain ⟨g₂, r₂⟩ := h₂
  obtain ⟨l, vs, k, rfl, hx, ho, rl⟩ := (r₁.keep g₂).tuple_inv
  obtain ⟨t', rfl⟩ := r₂.int_inv
  have hlt : i.toNat < vs.length := by rw [rl.1]; exact (List.getElem?_eq_some_iff.mp hd).1
  have hv : vs[i.toNat]? = some vs[i.toNat] := by simp [hlt]
  refine item_tupleT ⟨_, ho, rfl, _, rfl⟩ (by omega) h1 (j := i.toNat) ?_ hv ⟨g₁.trans g₂, rl.2 _ _ _ hv hd⟩ (hs l i t')
  unfold seqIndex?
  have h2 : ¬ i < 0 := by omega
  have h3 : i < vs.length := by omega
  simp [h2, h0, h3]

theorem valueAt_some {k : S} {d : D} : ∀ {kvs : List (S × D)} {vs : List Value}, vs.length = kvs.length → (kvs.lookup k) = some d →
    ∃ (i : Nat) (v : Value), vs[i]? = some v ∧ (∃ p, kvs[i]? = some p ∧ p.2 = d) ∧ valueAt ((kvs.map fun p => tx p.1).zip vs) (tx k) = some v
  | [], _, _, e => nomatch e
  | (y, d') :: kvs, [], h, e => by simp at h
  | (y, d') :: kvs, v :: vs, h, e => by
    rw [List.lookup_cons] at e
    cases q : k == y with
    | true =>
      have hky : k = y := by simpa using q
      subst hky
      rw [q] at e
      refine ⟨0, v, rfl, ⟨_, rfl, by simpa using e⟩, ?_⟩
      simp [valueAt]
    | false =>
      rw [q] at e
      obtain ⟨i, u, h1, h2, h3⟩ := valueAt_some (by simpa using h) e
      refine ⟨i + 1, u, h1, h2, ?_⟩
      have hne : ¬ (tx y = tx k) := fun z => by rw [tx_inj z] at q; simp at q
      rw [← h3]
      simp [valueAt, hne]
theorem Giv2.item_dict {kvs : List (S × D)} {a : D} {k : S} {d : D} (ha : IsS a k) (hd : kvs.lookup k = some d) : Giv2 prog w hB n getItem (.dict kvs) a d := by
  intro A X s E v u hr hs r₁ r₂
  obtain ⟨t, rfl⟩ := ha.rd r₂
  cases r₁ with
  | dict hx ho hl hi =>
    obtain ⟨i, u, h1, ⟨p, h2, rfl⟩, h3⟩ := valueAt_some hl hd
    refine wpAny_getItem_of (knd := PySem.strKind prog w) (k := tx k) (by simp [PySem.strKind, Value.isStrOf]) ho.mapOf h3 ⟨Gone.tok _ _ (Nat.le_succ _), (hi i u p h1 h2).keep (Gone.tok _ _ (Nat.le_succ _))⟩
theorem Ev.sub_dict {value slice : PySem.Expr} {pos : Pos} {kvs : List (S × D)} {a : D} {k : S} {d : D} (hv : Ev prog w hB n env ρ value (.dict kvs)) (hi : Ev prog w hB n env ρ slice a) (ha : IsS a k) (hd : kvs.lookup k = some d)
    (hs : ∀ o i, ∃ ops, subscripted slice false o i = operate ops (getItem o i) := by intro o i; exact ⟨_, rfl⟩) : Ev prog w hB n env ρ (.Subscript value slice pos) d :=
  Ev.sub hv hi (Giv2.item_dict ha hd) HasT.dict PySem.F.slot_dict_getitem.lookup hs

/-- an end of a slice -/
inductive EvP (prog : Program) (w : World) (hB : Bs) (n : Nat) (env : Env) (ρ : List (Str × D)) : Option PySem.Expr → Option Int → Prop
  | none : EvP prog w hB n env ρ Option.none Option.none
  | some {e : PySem.Expr} {i : Int} (h : Ev prog w hB n env ρ e (.int i)) : EvP prog w hB n env ρ (some e) (some i)
theorem EvP.go {A : Around} {s : Shared} {E : Value → Shared → Prop} {e : Option PySem.Expr} {i : Option Int} (h : EvP prog w hB n env ρ e i) (hr : Room n A) (S : SOk prog w hB X env ρ s) :
    wpAny (model prog w) A (evalPart e env) (fun v s' => Gone s s' ∧ ∃ p, v = partValue p ∧ p.map (·.1) = i ∧ IsPart v i) E s := by
  cases h with
  | none => exact wpAny_evalPart_none ⟨Gone.refl _, Option.none, rfl, rfl, .none⟩
  | some h =>
    refine wpAny_evalPart_some (wpAny_mono (h A X s E hr S) (fun v s₁ h₁ => ?_) fun _ _ e => e)
    obtain ⟨g, r⟩ := h₁
    obtain ⟨t, rfl⟩ := r.int_inv
    exact ⟨g, Option.some (_, t), rfl, rfl, .int _ _⟩

def sl (x : S) (l u : Option Int) : S := (Txt.slice (tx x) l u).cps.toList
theorem Ev.slice_str {value : PySem.Expr} {lower upper : Option PySem.Expr} {p pos : Pos} {a : D} {x : S} {l u : Option Int} (hv : Ev prog w hB n env ρ value a) (hx : IsS a x) (hl : EvP prog w hB n env ρ lower l) (hu : EvP prog w hB n env ρ upper u)
    (hsz : x.length ≤ sizeLine) (ht : ∀ o r, letTemporaryGo value o r = pure () := by intro _ _; rfl) : Ev prog w hB n env ρ (.Subscript value (.Slice lower upper Option.none p) pos) (.str (sl x l u)) := by
  intro A X s E hrm S
  refine wt (wpAny_Subscript_str_slice (wpAny_mono (hv A X s E hrm S) (fun v s₁ h₁ => ?_) fun _ _ e => e) ht)
  obtain ⟨g₁, r₁⟩ := h₁
  obtain ⟨t, rfl⟩ := hx.rd r₁
  refine wpAny_mono (hl.go hrm (S.keep g₁)) (fun vl s₂ h₂ => ?_) fun _ _ e => e
  obtain ⟨g₂, pl, rfl, el, -⟩ := h₂
  refine wpAny_mono (hu.go hrm ((S.keep g₁).keep g₂)) (fun vu s₃ h₃ => ?_) fun _ _ e => e
  obtain ⟨g₃, pu, rfl, eu, -⟩ := h₃
  refine ⟨tx x, t, pl, pu, rfl, rfl, rfl, ?_⟩
  have e1 : (sliceMade (tx x) t pl pu Option.none).post (fun v s' => s.toks ≤ s'.toks → Gone s s' ∧ Rd prog w X s' v (.str (sl x l u))) { s₃ with heap := s₃.heap.push { cls := .type "slice", data := .fields #[partValue pl, partValue pu, .none] } } := by
    refine post_val_or_str (z := ⟨((slicePicked (tx x) pl pu Option.none).filterMap ((tx x).cps[·]?)).toArray⟩) ?_
    have e2 : (if (((Option.none : Option (Int × Tok)).map (·.1)).getD 1 == 1 && (slicePicked (tx x) pl pu Option.none).length == (tx x).length) = true then tx x else (⟨((slicePicked (tx x) pl pu Option.none).filterMap ((tx x).cps[·]?)).toArray⟩ : Str)) = Txt.slice (tx x) l u := by
      unfold Txt.slice slicePicked
      rw [el, eu]; rfl
    rw [e2]
    refine ⟨Nat.le_trans (Txt.slice_le _ _ _) (by rw [tx_len]; exact hsz), fun t' k hle => ?_⟩
    have G : Gone s { s₃ with heap := s₃.heap.push { cls := .type "slice", data := .fields #[partValue pl, partValue pu, .none] }, toks := k } := by
      obtain ⟨h3, dr3, t3, e3, l3, k3⟩ := ((g₁.trans g₂).trans g₃).out
      subst e3
      exact ⟨_, k, rfl, hle, k3.trans (Keep.push _ _)⟩
    refine ⟨G, ?_⟩
    have := Rd.str (prog := prog) (w := w) (X := X) (s := { s₃ with heap := s₃.heap.push { cls := .type "slice", data := .fields #[partValue pl, partValue pu, .none] }, toks := k }) (sl x l u) t'
    rwa [show tx (sl x l u) = Txt.slice (tx x) l u from tx_cps _] at this
  exact e1

theorem Ev.slice_list {value : PySem.Expr} {lower upper : Option PySem.Expr} {p pos : Pos} {ds : List D} {l u : Option Int} (hv : Ev prog w hB n env ρ value (.list ds)) (hl : EvP prog w hB n env ρ lower l) (hu : EvP prog w hB n env ρ upper u)
    (hsz : ds.length ≤ sizeLine) (ht : ∀ o r, letTemporaryGo value o r = pure () := by intro _ _; rfl) :
    Ev prog w hB n env ρ (.Subscript value (.Slice lower upper Option.none p) pos) (.list ((sliceRange (sliceBounds l u Option.none ds.length).1 (sliceBounds l u Option.none ds.length).2.1 (sliceBounds l u Option.none ds.length).2.2).filterMap (ds[·]?))) := by
  intro A X s E hrm S
  refine wpAny_Subscript_list_slice (wpAny_mono (hv A X s E hrm S) (fun v s₁ h₁ => ?_) fun _ _ e => e) ht
  obtain ⟨g₁, r₁⟩ := h₁
  refine wpAny_mono (hl.go hrm (S.keep g₁)) (fun vl s₂ h₂ => ?_) fun _ _ e => e
  obtain ⟨g₂, pl, rfl, el, pl'⟩ := h₂
  refine wpAny_mono (hu.go hrm ((S.keep g₁).keep g₂)) (fun vu s₃ h₃ => ?_) fun _ _ e => e
  obtain ⟨g₃, pu, rfl, eu, pu'⟩ := h₃
  obtain ⟨a, vs, k, rfl, hx, ho, rl⟩ := ((r₁.keep g₂).keep g₃).list_inv
  refine ⟨a, vs.toArray, l, u, rfl, ⟨_, ho, rfl, _, rfl⟩, by simpa [rl.1] using hsz, pl', pu', ?_⟩
  have S3 := ((S.keep g₁).keep g₂).keep g₃
  have g4 : Gone s₃ { s₃ with heap := (s₃.heap.push { cls := .type "slice", data := .fields #[partValue pl, partValue pu, .none] }).push { cls := .type "list", data := .seq (slicePick vs.toArray l u Option.none) } } := (Gone.push s₃ _).trans (Gone.push _ _)
  have hsz1 : (s₃.heap.push { cls := .type "slice", data := .fields #[partValue pl, partValue pu, .none] }).objs.size = s₃.heap.objs.size + 1 := Heap.size_push ..
  refine ⟨((g₁.trans g₂).trans g₃).trans g4, ?_⟩
  refine Rd.mkList (vs := (sliceRange (sliceBounds l u Option.none ds.length).1 (sliceBounds l u Option.none ds.length).2.1 (sliceBounds l u Option.none ds.length).2.2).filterMap (vs[·]?)) (n := 0) ?_ ?_ ?_
  · intro x
    obtain ⟨o, e⟩ := S3.sit.live _ x
    exact Nat.not_succ_le_self _ (Nat.le_of_succ_le (Heap.lt_size e))
  · have e0 : slicePick vs.toArray l u Option.none = ((sliceRange (sliceBounds l u Option.none ds.length).1 (sliceBounds l u Option.none ds.length).2.1 (sliceBounds l u Option.none ds.length).2.2).filterMap (vs[·]?)).toArray := by
      unfold slicePick
      simp [rl.1]
    rw [← e0]
    show Heap.get? _ (s₃.heap.objs.size + 1) = _
    rw [← hsz1]
    exact Heap.get?_push_size _ rfl
  · refine RdL.keep (s := s₃) ?_ g4
    generalize sliceRange _ _ _ = is
    induction is with
    | nil => exact RdL.nil
    | cons i is ih =>
      rw [List.filterMap_cons, List.filterMap_cons]
      cases hv : vs[i]? with
      | none =>
        have : ds[i]? = Option.none := by
          rw [List.getElem?_eq_none_iff] at hv ⊢; rw [← rl.1]; exact hv
        rw [this]; exact ih
      | some v =>
        have hlt : i < ds.length := by rw [← rl.1]; exact (List.getElem?_eq_some_iff.mp hv).1
        have hd : ds[i]? = some ds[i] := by simp [hlt]
        rw [hd]
        exact RdL.cons (rl.2 i _ _ hv hd) ih
end
end Mine

set_option maxHeartbeats 1000000
namespace Mine
open PySem PySem.W PyProof.Rows PySem.Calls

section
variable {prog : Program} {w : World} {hB : Bs} {n : Nat} {K : Frag} {env : Env} {ρ ρc : List (Str × D)} {μ : List (Str × Ow)} {X Y M : Addr → Prop} {B Bc : List Str} {scope : Scope} {Q : Po}

def Has {α : Type} (r ρ : List (Str × α)) : Prop := ∀ x d, r.lookup x = some d → ρ.lookup x = some d
theorem Has.nil {α : Type} {ρ : List (Str × α)} : Has [] ρ := fun _ _ h => nomatch h
theorem Has.cons {α : Type} {x : Str} {d : α} {r ρ : List (Str × α)} (h : ρ.lookup x = some d) (hr : Has r ρ) : Has ((x, d) :: r) ρ := fun y e hy => by
  rw [List.lookup_cons] at hy
  cases q : y == x with
  | true =>
    have : y = x := by simpa using q
    subst this
    rw [q] at hy
    rw [h]; exact hy
  | false => rw [q] at hy; exact hr y e hy
theorem Has.push {α : Type} {x : Str} {d : α} {r ρ : List (Str × α)} (hr : Has r ρ) : Has ((x, d) :: r) ((x, d) :: ρ) := fun y e hy => by
  rw [List.lookup_cons] at hy ⊢
  cases q : y == x with
  | true => rw [q] at hy; exact hy
  | false => rw [q] at hy; exact hr y e hy
theorem Has.bindAll {r ρ : List (Str × D)} (hr : Has r ρ) : ∀ bs : List (Str × D), Has (bindAll bs r) (bindAll bs ρ) := fun bs => by
  induction bs generalizing r ρ with
  | nil => exact hr
  | cons p bs ih => exact ih hr.push
theorem lookup_dropO_ne {x y : Str} {o : Ow} {μ : List (Str × Ow)} (hne : y ≠ x) (h : μ.lookup y = some o) : (dropO x μ).lookup y = some o := by
  induction μ with
  | nil => exact h
  | cons p μ ih =>
    obtain ⟨z, o'⟩ := p
    rw [List.lookup_cons] at h
    unfold dropO
    rw [List.filter_cons]
    cases q : y == z with
    | true =>
      have : y = z := by simpa using q
      subst this
      have hx : (!(y == x)) = true := by simpa using hne
      rw [if_pos hx, List.lookup_cons, q]
      rw [q] at h; exact h
    | false =>
      rw [q] at h
      split
      · rw [List.lookup_cons, q]; exact ih h
      · exact ih h
theorem Has.dropO {x : Str} {r μ : List (Str × Ow)} (hr : Has r μ) : Has (dropO x r) (dropO x μ) := fun y e hy => by
  obtain ⟨h1, h2⟩ := lookup_dropO hy
  exact lookup_dropO_ne h1 (hr y e h2)
theorem Has.dropAll {r μ : List (Str × Ow)} (hr : Has r μ) : ∀ bs : List (Str × D), Has (dropAll bs r) (dropAll bs μ) := fun bs => by
  induction bs generalizing r μ with
  | nil => exact hr
  | cons p bs ih => exact ih hr.dropO

theorem Ex.has {ss : List Stmt} {r : List (Str × D)} {m : List (Str × Ow)} (h : Ex prog w hB n B env r m ss Q) (h1 : Has r ρ) (h2 : Has m μ) : Ex prog w hB n B env ρ μ ss Q := Ex.weaken h h1 h2

/-- a for over what holds between its turns -/
theorem ForR.inv {σ : Type} {tg : PySem.Expr} {body : List Stmt} (r : σ → List (Str × D)) (m : σ → List (Str × Ow)) (J : List D → σ → Prop)
    (h1 : ∀ it its st, J (it :: its) st → ∃ bs, Tg tg it bs ∧ (∀ p ∈ bs, p.1 ∈ B) ∧ Ex prog w hB n B env (bindAll bs (r st)) (dropAll bs (m st)) body fun fl ρ' μ' => match fl with
      | .next | .cont => ∃ st', J its st' ∧ Has (r st') ρ' ∧ Has (m st') μ'
      | .brk => Q .next ρ' μ'
      | .ret d => Q (.ret d) ρ' μ')
    (h0 : ∀ st ρ μ, J [] st → Has (r st) ρ → Has (m st) μ → Q .next ρ μ) :
    ∀ (its : List D) (st : σ) (ρ : List (Str × D)) (μ : List (Str × Ow)), J its st → Has (r st) ρ → Has (m st) μ → ForR prog w hB n B env tg body Q its ρ μ
  | [], st, ρ, μ, hJ, hr, hm => h0 st ρ μ hJ hr hm
  | it :: its, st, ρ, μ, hJ, hr, hm => by
    obtain ⟨bs, htg, hb, hex⟩ := h1 it its st hJ
    refine ⟨bs, htg, hb, Ex.mono (Ex.has hex (hr.bindAll bs) (hm.dropAll bs)) fun fl ρ' μ' h => ?_⟩
    cases fl with
    | next => obtain ⟨st', a, b, c⟩ := h; exact ForR.inv r m J h1 h0 its st' ρ' μ' a b c
    | cont => obtain ⟨st', a, b, c⟩ := h; exact ForR.inv r m J h1 h0 its st' ρ' μ' a b c
    | brk => exact h
    | ret d => exact h

theorem Giv2.iadd_int {a b : Int} : Giv2 prog w hB n (inplaceOp .Add) (.int a) (.int b) (.int (a + b)) := by
  intro A X s E v u hr hs r₁ r₂
  obtain ⟨t, rfl⟩ := r₁.int_inv
  obtain ⟨t', rfl⟩ := r₂.int_inv
  with_reducible refine wpAny_iadd_int ?_
  exact ⟨Gone.tok _ _ (Nat.le_succ _), .int _ _⟩
theorem In0 : ∀ p ∈ ([] : List (Str × D)), p.1 ∈ B := fun p h => nomatch h
theorem In1 {x : Str} {d : D} {r : List (Str × D)} (h : x ∈ B) (hr : ∀ p ∈ r, p.1 ∈ B) : ∀ p ∈ (x, d) :: r, p.1 ∈ B := fun p hp => by
  rcases List.mem_cons.mp hp with rfl | q
  · exact h
  · exact hr p q
/-- the rest of a block, from what it needs -/
theorem Ex.from {ss : List Stmt} (r : List (Str × D)) (m : List (Str × Ow)) (h : Ex prog w hB n B env r m ss Q) (h1 : Has r ρ) (h2 : Has m μ) : Ex prog w hB n B env ρ μ ss Q := Ex.weaken h h1 h2
end
end Mine

set_option maxHeartbeats 1000000
namespace Mine
open PySem PySem.W PyProof.Rows PySem.Calls

section
variable {prog : Program} {w : World} {hB : Bs} {n : Nat} {K : Frag} {env : Env} {ρ ρc : List (Str × D)} {μ μ' : List (Str × Ow)} {X Y M : Addr → Prop} {B Bc : List Str} {scope : Scope} {Q : Po}

def OnlyIns (μ : List (Str × Ow)) : Prop := ∀ x o, μ.lookup x = some o → ∃ C kvs, o = .ins C kvs
theorem OnlyIns.nil : OnlyIns [] := fun _ _ h => nomatch h
theorem OnlyIns.drop {x : Str} (h : OnlyIns μ) : OnlyIns (dropO x μ) := fun y o e => h y o (lookup_dropO e).2

/-- the value is a list just made -/
def EvN (prog : Program) (w : World) (hB : Bs) (n : Nat) (env : Env) (ρ : List (Str × D)) (e : PySem.Expr) (ds : List D) : Prop :=
  ∀ A X s E, Room n A → SOk prog w hB X env ρ s → wpAny (model prog w) A (eval e env) (fun v s' => Gone s s' ∧ ∃ a vs k, v = .ref a ∧ s.heap.get? a = Option.none ∧ s'.heap.get? a = some (listOf (List.toArray vs) k) ∧ RdL prog w (fun b => X b ∨ b = a) s' vs ds) E s
theorem EvN.list {es : List PySem.Expr} {pos} {ds : List D} (h : EvL prog w hB n env ρ pos es ds) (hsz : ds.length ≤ sizeLine := by size_fits) : EvN prog w hB n env ρ (.List es pos) ds := by
  intro A X s E hr hs
  rw [arm_eval_List]
  refine wpAny_bind (wpAny_standAt (wpAny_bind (wpAny_mono (h A X s E hr hs) (fun vs s₁ h₁ => ?_) fun _ _ e => e)))
  obtain ⟨g, r⟩ := h₁
  refine wpAny_newObj_type ⟨g.trans (Gone.push _ _), s₁.heap.objs.size, vs, 0, rfl, none_of_keep g (get?_size_none _), Heap.get?_push_size _ rfl, ?_⟩ (by show vs.toArray.size ≤ sizeLine; rw [List.size_toArray, r.1]; exact hsz)
  exact (r.on fun b hb => hb.imp id fun (q : b = _) => by rw [q]; exact get?_size_none _).keep (Gone.push _ _)
theorem EvN.add {l r : PySem.Expr} {pos : Pos} {ds es : List D} (hl : Ev prog w hB n env ρ l (.list ds)) (hr : Ev prog w hB n env ρ r (.list es)) (hsz : ds.length + es.length ≤ sizeLine) : EvN prog w hB n env ρ (.BinOp l .Add r pos) (ds ++ es) := by
  intro A X s E hrm hs
  refine wpAny_BinOp (wpAny_mono (hl A X s E hrm hs) (fun v s₁ h₁ => ?_) fun _ _ e => e)
  obtain ⟨g₁, r₁⟩ := h₁
  refine wpAny_mono (hr A X s₁ E hrm (hs.keep g₁)) (fun u s₂ h₂ => ?_) fun _ _ e => e
  obtain ⟨g₂, r₂⟩ := h₂
  obtain ⟨l, vs, k, rfl, hx, ho, rl⟩ := (r₁.keep g₂).list_inv
  obtain ⟨l', vs', k', rfl, hx', ho', rl'⟩ := r₂.list_inv
  have e : vs.toArray ++ vs'.toArray = (vs ++ vs').toArray := by simp
  refine concat_meets ⟨_, ho, rfl⟩ ⟨_, ho', rfl⟩ noFill_list_add seq_list_add PySem.F.slot_list_add PySem.F.entry_list_add (PySem.F.args_list_add_2 _ _)
    (list_addW l l' vs.toArray vs'.toArray k k' Option.none Option.none #[] #[] (by simp [rl.1, rl'.1]; exact hsz)) ⟨ho, ho', ?_⟩
  rw [e]
  refine ⟨(g₁.trans g₂).trans (Gone.push _ _), s₂.heap.objs.size, vs ++ vs', 0, rfl, none_of_keep (g₁.trans g₂) (get?_size_none _), Heap.get?_push_size _ rfl, ?_⟩
  exact ((rl.append rl').on fun b hb => hb.imp id fun (q : b = _) => by rw [q]; exact get?_size_none _).keep (Gone.push _ _)

/-- one more place of the frame's own, that is new -/
theorem Sta.growM {s₂ s₃ : Shared} {a : Addr} (S : Sta prog w hB Y M B env ρ μ s₂) (g : Gone s₂ s₃) (h0 : s₂.heap.get? a = Option.none) (h1 : ∃ o, s₃.heap.get? a = some o) :
    Sta prog w hB Y (fun b => M b ∨ b = a) B env ρ μ s₃ := by
  have rd : ∀ v d, Rd prog w (YM Y M) s₂ v d → Rd prog w (YM Y (fun b => M b ∨ b = a)) s₃ v d := fun v d r =>
    (r.on fun b hb => hb.elim (fun y => .inl (.inl y)) fun q => q.elim (fun m => .inl (.inr m)) fun q => .inr (q ▸ h0)).keep g
  refine ⟨⟨⟨S.ok.sit.base.trans g.keep, ?_, ?_, Nat.lt_of_lt_of_le S.ok.sit.tlo g.le⟩, S.ok.apart, fun x d e => ?_⟩,
    ⟨S.frm.kind, .inl S.frm.loc, let ⟨m, h⟩ := S.frm.ns; ⟨m, h.keeps g.keep⟩, fun x c h => let ⟨v, q⟩ := S.frm.cel x c h; ⟨v, q.keeps g.keep⟩, fun x hx => (S.frm.bd x hx).imp id fun ⟨k, c, e, m⟩ => ⟨k, c, e, .inl m⟩⟩, fun x o e => ?_⟩
  · rintro b (hb | hb | rfl)
    · obtain ⟨o, e⟩ := S.ok.sit.live b (.inl hb); exact ⟨o, g.keep _ _ e⟩
    · obtain ⟨o, e⟩ := S.ok.sit.live b (.inr hb); exact ⟨o, g.keep _ _ e⟩
    · exact h1
  · rintro b (hb | hb | rfl)
    · exact S.ok.sit.off b (.inl hb)
    · exact S.ok.sit.off b (.inr hb)
    · cases q : hB.h.get? b with
      | none => rfl
      | some o => exact absurd (h0.symm.trans (S.ok.sit.base b o q)) (by intro z; cases z)
  · obtain ⟨v, hv, r⟩ := S.ok.names x d e
    exact ⟨v, hv.keep g.keep, rd _ _ r⟩
  · obtain ⟨b, hv, r⟩ := S.own x o e
    refine ⟨b, hv.keep g.keep, ?_⟩
    cases o with
    | lst ds =>
      obtain ⟨h3, vs', k, h4, h5⟩ := r
      exact ⟨⟨.inl h3.1, h3.2⟩, vs', k, g.keep _ _ h4, h5.1, fun i v d e1 e2 => rd _ _ (h5.2 i v d e1 e2)⟩
    | ins C kvs =>
      obtain ⟨h3, dx, es, k, h4, h5, h6, h7, h8, h9, h10⟩ := r
      refine ⟨fun q => ?_, dx, es, k, ⟨.inl h4.1, h4.2⟩, h5, g.keep _ _ h6, g.keep _ _ h7, h8, h9, fun i e p e1 e2 => rd _ _ (h10 i e p e1 e2)⟩
      rcases q with q | q | rfl
      · exact h3 (.inl q)
      · exact h3 (.inr q)
      · rw [h0] at h6; cases h6

/-- x = a list just made: the frame owns it -/
theorem Ex1.own {x : Str} {pos' pos : Pos} {e : PySem.Expr} {ds : List D} (he : EvN prog w hB n env ρ e ds) (hx : x ∈ B) (hq : ∀ a, Q .next ((x, .val (.ref a)) :: ρ) ((x, .lst ds) :: dropO x μ))
    (hs : swapsWith e (some (.Name x pos')) pos.line env = pure false := by rfl) : Ex1 prog w hB n B env ρ μ (.Assign [.Name x pos'] e pos) Q := by
  intro A Y X s E hr S
  refine wpAny_Assign_Name (wpAny_mono (he A _ s E hr S.ok) (fun v s₁ h₁ => ?_) fun _ _ e => e) hs
  obtain ⟨g, a, vs, k, rfl, ha, ha', r⟩ := h₁
  have S₁ := S.growM g ha ⟨_, ha'⟩
  refine S₁.bindN (.val _) hx fun s₂ g₂ hn hk S₂ => ?_
  have g₂' : Went (YM Y fun b => X b ∨ b = a) s₁ s₂ := g₂.on fun b q => .inl (.inr q)
  have hnY : ¬ Y a := fun y => by obtain ⟨o, e⟩ := S.ok.sit.live a (.inl y); rw [ha] at e; cases e
  refine ⟨(g.went (X := X)).step (X' := fun b => X b ∨ b = a) (fun b q => q.imp id fun (q : b = a) => by rw [q]; exact ha) g₂, .next, fun b => X b ∨ b = a, _, _, trivial, fun b q => q.imp id fun (q : b = a) => by rw [q]; exact ha, ⟨S₂.ok, S₂.frm, fun y o e => ?_⟩, hq a⟩
  rw [List.lookup_cons] at e
  cases q : y == x with
  | true =>
    rw [q] at e; cases e
    have : y = x := by simpa using q
    subst this
    refine ⟨a, hn, ⟨.inr rfl, hnY⟩, vs, k, hk a _ ha' (fun _ _ z => nomatch z) (fun _ z => nomatch z), ?_⟩
    refine RdL.went (RdL.off r ?_) g₂'
    rintro b (y | m | q)
    · exact .inl (.inl y)
    · exact .inl (.inr m)
    · exact .inr q
  | false => rw [q] at e; exact S₂.own y o e

/-- an owned list turns -/
theorem Sta.poke {s s' : Shared} {x : Str} {a : Addr} {ds ds' : List D} {vs vs' : List Value} {k k' : Nat} (S : Sta prog w hB Y M B env ρ ((x, .lst ds) :: μ) s) (hμ : OnlyIns μ) (ha : M a ∧ ¬ Y a) (hn : NameIs s.heap env x (.ref a))
    (ho : s.heap.get? a = some (listOf (List.toArray vs) k)) (g : Went (· = a) s s') (ho' : s'.heap.get? a = some (listOf (List.toArray vs') k')) (r : RdL prog w (YM Y M) s' vs' ds') :
    Sta prog w hB Y M B env ρ ((x, .lst ds') :: μ) s' := by
  have ne : ∀ b o', s.heap.get? b = some o' → (∀ vs k, o'.data ≠ .seq vs k) → b ≠ a := fun b o' e hn q => by
    subst q; rw [ho] at e; cases e; exact hn _ _ rfl
  have gX : Went (YM Y M) s s' := g.on fun p q => .inl (by subst q; exact .inr ha.1)
  have nm : ∀ y u, NameIs s.heap env y u → NameIs s'.heap env y u := by
    rintro y u (⟨h1, m, ⟨o', es, ep, h2, h3, h3'⟩, h4⟩ | ⟨h1, c, h2, o', h3, h4⟩)
    · exact .inl ⟨h1, m, ⟨o', es, ep, g.ext _ _ (ne _ _ h2 (fun _ _ q => by rw [h3] at q; cases q)) h2, h3, h3'⟩, h4⟩
    · exact .inr ⟨h1, c, h2, o', g.ext _ _ (ne _ _ h3 (fun _ _ q => by rw [h4] at q; cases q)) h3, h4⟩
  refine ⟨⟨⟨fun b o' e => ?_, fun b x => ?_, S.ok.sit.off, Nat.lt_of_lt_of_le S.ok.sit.tlo g.le⟩, S.ok.apart, fun x d e => ?_⟩,
    ⟨S.frm.kind, S.frm.loc, ?_, fun x c h1 => ?_, S.frm.bd⟩, fun y o' e => ?_⟩
  · exact g.ext b o' (fun q => by subst q; rw [S.ok.sit.off _ (.inr ha.1)] at e; cases e) (S.ok.sit.base b o' e)
  · by_cases q : b = a
    · subst q; exact ⟨_, ho'⟩
    · obtain ⟨o', e⟩ := S.ok.sit.live b x
      exact ⟨o', g.ext b o' q e⟩
  · obtain ⟨v, h1, h2⟩ := S.ok.names x d e
    exact ⟨v, nm _ _ h1, h2.went gX⟩
  · obtain ⟨m, o', es, ep, h2, h3, h3'⟩ := S.frm.ns
    exact ⟨m, o', es, ep, g.ext _ _ (ne _ _ h2 (fun _ _ q => by rw [h3] at q; cases q)) h2, h3, h3'⟩
  · obtain ⟨v, o', h4, h5⟩ := S.frm.cel x c h1
    exact ⟨v, o', g.ext _ _ (ne _ _ h4 (fun _ _ q => by rw [h5] at q; cases q)) h4, h5⟩
  · rw [List.lookup_cons] at e
    cases q : y == x with
    | true =>
      rw [q] at e; cases e
      have : y = x := by simpa using q
      subst this
      exact ⟨a, nm _ _ hn, ha, vs', k', ho', r⟩
    | false =>
      rw [q] at e
      obtain ⟨C, kvs, rfl⟩ := hμ y o' e
      obtain ⟨b, h1, h2⟩ := S.own y _ (by rw [List.lookup_cons, q]; exact e)
      obtain ⟨h3, dx, es, k, h4, h5, h6, h7, h8, h9, h10⟩ := h2
      exact ⟨b, nm _ _ h1, h3, dx, es, k, h4, h5, g.ext _ _ (ne _ _ h6 (fun _ _ z => nomatch z)) h6, g.ext _ _ (ne _ _ h7 (fun _ _ z => nomatch z)) h7, h8, h9, fun i e p e1 e2 => (h10 i e p e1 e2).went gX⟩

/-- an owned list is owned no more: it is read -/
theorem Sta.release {s : Shared} {x : Str} {ds : List D} (S : Sta prog w hB Y M B env ρ ((x, .lst ds) :: μ) s) (hμ : OnlyIns μ) (hxμ : μ.lookup x = Option.none) :
    ∃ a, M a ∧ Sta prog w hB Y (fun b => M b ∧ b ≠ a) B env ((x, .list ds) :: ρ) μ s := by
  obtain ⟨a, hn, ha, vs, k, ho, r⟩ := S.own x (.lst ds) (by rw [List.lookup_cons, beq_self_eq_true])
  have ne : ∀ b o', s.heap.get? b = some o' → (∀ vs k, o'.data ≠ .seq vs k) → b ≠ a := fun b o' e hn q => by
    subst q; rw [ho] at e; cases e; exact hn _ _ rfl
  have hh : ∀ b, YM Y (fun b => M b ∧ b ≠ a) b → YM Y M b := fun b q => q.imp id fun m => m.1
  have hloc : env.locals ≠ a := by
    obtain ⟨m, o', es, ep, h2, h3, h3'⟩ := S.frm.ns
    exact ne _ _ h2 (fun _ _ q => by rw [h3] at q; cases q)
  refine ⟨a, ha.1, ⟨⟨S.ok.sit.base, fun b q => S.ok.sit.live b (hh b q), fun b q => S.ok.sit.off b (hh b q), S.ok.sit.tlo⟩, S.ok.apart, fun y d e => ?_⟩,
    ⟨S.frm.kind, ⟨S.frm.loc, hloc⟩, S.frm.ns, S.frm.cel, fun y hy => (S.frm.bd y hy).imp id fun ⟨k, c, e, m⟩ => ⟨k, c, e, m, let ⟨v, o', h4, h5⟩ := S.frm.cel y c e; ne _ _ h4 (fun _ _ q => by rw [h5] at q; cases q)⟩⟩, fun y o e => ?_⟩
  · rw [List.lookup_cons] at e
    cases q : y == x with
    | true =>
      rw [q] at e; cases e
      have : y = x := by simpa using q
      subst this
      exact ⟨_, hn, Rd.mkList (fun q => q.elim ha.2 fun m => m.2 rfl) ho (r.off hh)⟩
    | false =>
      rw [q] at e
      obtain ⟨v, h1, h2⟩ := S.ok.names y d e
      exact ⟨v, h1, h2.off hh⟩
  · obtain ⟨C, kvs, rfl⟩ := hμ y o e
    have hyx : (y == x) = false := by
      cases q : y == x with
      | false => rfl
      | true =>
        have : y = x := by simpa using q
        subst this
        rw [hxμ] at e; cases e
    obtain ⟨b, h1, h2⟩ := S.own y _ (by rw [List.lookup_cons, hyx]; exact e)
    obtain ⟨h3, dx, es, k, h4, h5, h6, h7, h8, h9, h10⟩ := h2
    exact ⟨b, h1, fun q => h3 (hh _ q), dx, es, k, ⟨⟨h4.1, ne _ _ h7 (fun _ _ z => nomatch z)⟩, h4.2⟩, h5, h6, h7, h8, h9, fun i e p e1 e2 => (h10 i e p e1 e2).off hh⟩

theorem Ex.release {x : Str} {ds : List D} {ss : List Stmt} (h : Ex prog w hB n B env ((x, .list ds) :: ρ) μ ss Q) (hμ : OnlyIns μ) (hxμ : μ.lookup x = Option.none) : Ex prog w hB n B env ρ ((x, .lst ds) :: μ) ss Q := by
  intro A Y M s E hr S
  obtain ⟨a, ha, S'⟩ := S.release hμ hxμ
  refine wpAny_mono (h A Y _ s E hr S') (fun f s' hp => ?_) fun _ _ e => e
  obtain ⟨g, fl, M', ρ', μ', h1, h2, h3, h4⟩ := hp
  exact ⟨g.on fun b q => .inl q.1, fl, M', ρ', μ', h1, fun b q => (h2 b q).imp (fun m => m.1) id, h3, h4⟩

/-- data that no place bears -/
inductive Atom : D → Prop
  | none : Atom .none
  | bool (b) : Atom (.bool b)
  | int (i) : Atom (.int i)
  | str (x) : Atom (.str x)
  | own (x) : Atom (.own x)
theorem Atom.any {X X' : Addr → Prop} {s : Shared} {v : Value} {d : D} (h : Atom d) (r : Rd prog w X s v d) : Rd prog w X' s v d := by
  cases h with
  | none => cases r; exact .none
  | bool => cases r; exact .bool _
  | int => cases r; exact .int _ _
  | str => cases r; exact .str _ _
  | own => cases r; exact .own _ _ ‹_› ‹_›
/-- an owned list is read in an expression -/
theorem EvM.read {x : Str} {ds : List D} {e : PySem.Expr} {d : D} (h : Ev prog w hB n env ((x, .list ds) :: ρ) e d) (hd : Atom d) (hμ : OnlyIns μ) (hxμ : μ.lookup x = Option.none) : EvM prog w hB n B env ρ ((x, .lst ds) :: μ) e d := by
  intro A Y M s E hr S
  obtain ⟨a, ha, S'⟩ := S.release hμ hxμ
  exact wpAny_mono (h A _ s E hr S'.ok) (fun v s' q => ⟨q.1, hd.any q.2⟩) fun _ _ e => e

theorem setItem_plain {A : Around} {E : Value → Shared → Prop} {s : Shared} {l : Addr} {vs : List Value} {c : Nat} {k : Int} {t : Tok} {v : Value} {Q : Unit → Shared → Prop} (ho : s.heap.get? l = some (listOf vs.toArray c))
    (h0 : 0 ≤ k) (hfit : k < 2 ^ 63) (hn : k.toNat < vs.length)
    (hQ : ∀ h' c', h'.get? l = some (listOf (vs.set k.toNat v).toArray c') → Heap.SameBut l s.heap h' → Q () { s with heap := h' }) :
    wpAny (model prog w) A (setItem (.ref l) (.int k t) v) Q E s := by
  have hT : s.TypeIs (.ref l) "list" := ⟨_, ho, rfl⟩
  unfold setItem
  try with_reducible refine wpAny_holding ?_
  try (refine wpAny_bind (wpAny_pure ?_))
  refine (wpAny_bind (wpAny_sequenceKey hT (by decide) (wpAny_bind (wpAny_callSpecial?_slot (name := Str.ofString "__setitem__") hT PySem.F.slot_list_setitem
    (wpAny_call_entry PySem.F.slot_list_setitem hT PySem.F.entry_list_setitem ?_ (PySem.F.args_list_setitem_3 _ _ _))))))
  show wpAny _ _ (Builtin.List.listSubscript? (.int k t) >>= _) _ _ s
  refine wpAny_bind (wpAny_listSubscript_int (fitsIndex_of h0 hfit) ?_)
  clear hfit
  obtain ⟨j, rfl⟩ := Int.eq_ofNat_of_zero_le h0
  have hj : j < vs.toArray.size := by simpa using hn
  show wpAny _ _ ((seqItemAt l j >>= fun r => pure (r.map (j, ·))) >>= _) _ _ s
  refine wpAny_bind (wpAny_bind (wpAny_seqItemAt ho rfl (wpAny_pure ?_)))
  rw [Array.getElem?_eq_getElem hj]
  show wpAny _ _ (setSeqItemAt l j v >>= _) _ _ s
  refine wpAny_bind (wpAny_setSeqItemAt ho rfl ?_)
  have e1 : (s.heap.update l (Obj.mapSeq (·.setIfInBounds j v))).get? l = some (Obj.mapSeq (·.setIfInBounds j v) (listOf vs.toArray c)) := Heap.get?_update_self _ ho rfl
  have e2 : Obj.mapSeq (·.setIfInBounds j v) (listOf vs.toArray c) = listOf (vs.set j v).toArray c := by
    show ({ cls := .type "list", dict := Option.none, data := .seq (vs.toArray.setIfInBounds j v) (if (vs.toArray.setIfInBounds j v).size == vs.toArray.size then c else c + 1), slots := #[] } : Obj) = _
    simp [PySem.W.listOf]
  rw [e2] at e1
  have fin := hQ _ c e1 (Heap.SameBut.update ..)
  first
    | exact wpAny_bind (wpAny_pure (wpAny_pure ⟨.none, rfl, wpAny_pure fin⟩))
    | exact wpAny_pure ⟨.none, rfl, wpAny_pure fin⟩

theorem went_poke {s : Shared} {h' : Heap} {a : Addr} (hs : Heap.SameBut a s.heap h') : Went (· = a) s { s with heap := h' } := went_of_sameBut (t := s.toks) (Nat.le_refl _) hs rfl

/-- x[i] = e on a list that the frame owns -/
theorem Ex1.setItem {x : Str} {p pos' pos : Pos} {i e : PySem.Expr} {ds : List D} {k : Int} {d : D} (he : EvM prog w hB n B env ρ ((x, .lst ds) :: μ) e d) (hi : Ev prog w hB n env ρ i (.int k)) (hd : Atom d) (hμ : OnlyIns μ)
    (h0 : 0 ≤ k) (h1 : k.toNat < ds.length) (hf : k < 2 ^ 63) (hq : Q .next ρ ((x, .lst (ds.set k.toNat d)) :: μ)) (hk : env.scope.kind = .function)
    (hx : (x == ("__debug__" : Str)) = false := by decide) (hcd : (x == ("__classdict__" : Str)) = false := by decide) (hs : swapsWith e (some (.Subscript (.Name x p) i pos')) pos.line env = pure false := by rfl) :
    Ex1 prog w hB n B env ρ ((x, .lst ds) :: μ) (.Assign [.Subscript (.Name x p) i pos'] e pos) Q := by
  intro A Y M s E hr S
  refine wpAny_Assign_Subscript (wpAny_mono (he A Y M s E hr S) (fun v s₁ h₁ => ?_) fun _ _ e => e) hs
  obtain ⟨g₁, r₁⟩ := h₁
  have S₁ := S.keep g₁
  obtain ⟨a, hn, ha, vs, c, ho, r⟩ := S₁.own x (.lst ds) (by rw [List.lookup_cons, beq_self_eq_true])
  have go : wpAny (model prog w) A (eval (.Name x p) env) (fun ov s₂ => wpAny (model prog w) A (eval i env) (fun iv s₃ => wpAny (model prog w) A (PySem.setItem ov iv v) (fun _ => Post hB B env prog w Y M Q s .next) E s₃) E s₂) E s₁ := by
    have fin : wpAny (model prog w) A (eval i env) (fun iv s₃ => wpAny (model prog w) A (PySem.setItem (.ref a) iv v) (fun _ => Post hB B env prog w Y M Q s .next) E s₃) E s₁ := by
      refine wpAny_mono (hi A _ s₁ E hr S₁.ok) (fun iv s₂ h₂ => ?_) fun _ _ e => e
      obtain ⟨g₂, r₂⟩ := h₂
      obtain ⟨t, rfl⟩ := r₂.int_inv
      have S₂ := S₁.keep g₂
      refine setItem_plain (g₂.keep _ _ ho) h0 hf (by rw [r.1]; exact h1) fun h' c' e' hsb => ?_
      have gp := went_poke hsb
      have gX : Went (YM Y M) s₂ { s₂ with heap := h' } := gp.on fun b q => .inl (.inr (by rw [q]; exact ha.1))
      have r₂' := (r.keep g₂).went gX
      have hset : RdL prog w (YM Y M) { s₂ with heap := h' } (vs.set k.toNat v) (ds.set k.toNat d) := by
        refine ⟨by rw [List.length_set, List.length_set]; exact r₂'.1, fun j u e₁ h₁ h₂ => ?_⟩
        by_cases hj : k.toNat = j
        · subst hj
          rw [List.getElem?_set_self (by rw [r₂'.1]; exact h1)] at h₁
          rw [List.getElem?_set_self h1] at h₂
          cases h₁; cases h₂
          exact (r₁.keep g₂).went gX
        · rw [List.getElem?_set_ne hj] at h₁ h₂
          exact r₂'.2 j u e₁ h₁ h₂
      refine ⟨(g₁.trans g₂).went.trans (gp.on fun b q => .inl (by rw [q]; exact ha.1)), .next, M, _, _, trivial, Sub.refl _ _, S₂.poke hμ ha (hn.keep g₂.keep) (g₂.keep _ _ ho) gp e' hset, hq⟩
    rcases hn with ⟨hk', m, hm, hmx⟩ | ⟨hk', c', hc, hi'⟩
    · exact wpAny_Name (wpAny_loadName_local hk hk' hm hmx fin) hx
    · rcases hk' with hk' | hk'
      · exact wpAny_Name (wpAny_loadName_cell hk hk' hc hi' fin) hx
      · exact wpAny_Name (wpAny_loadName_free hk hk' hc hi' fin hcd) hx
  exact go

/-- x.append(e) on a list that the frame owns -/
theorem Ex1.append {x : Str} {p apos cpos pos : Pos} {e : PySem.Expr} {ds : List D} {d : D} (he : Ev prog w hB n env ρ e d) (hμ : OnlyIns μ)
    (hq : Q .next ρ ((x, .lst (ds ++ [d])) :: μ)) (hk : env.scope.kind = .function) (hsz : ds.length ≤ sizeLine) (hline : (apos.endLine == cpos.line) = true := by rfl) (htrees : backTo cpos (starEach [e] env) = [(false, eval e env)] := by rfl)
    (hx : (x == ("__debug__" : Str)) = false := by decide) (hcd : (x == ("__classdict__" : Str)) = false := by decide) (hi : interactive env = false := by rfl) :
    Ex1 prog w hB n B env ρ ((x, .lst ds) :: μ) (.Expr (.Call (.Attribute (.Name x p) "append" apos) [e] [] cpos) pos) Q := by
  intro A Y M s E hr S
  obtain ⟨a, hn, ha, vs, c, ho, r⟩ := S.own x (.lst ds) (by rw [List.lookup_cons, beq_self_eq_true])
  refine wpAny_Expr_any (wpAny_Call_append rfl (by rw [htrees]; rfl) hline htrees ?_) hi rfl
  have fin : ∃ Dd its, Value.ref a = .ref Dd ∧ PlainL s.heap Dd its ∧ wpAny (model prog w) A (eval e env) (fun y s₂ => wpAny (model prog w) A (call (.builtin "list.append") [.ref Dd, y]) (fun _ => Post hB B env prog w Y M Q s .next) E s₂) E s := by
    refine ⟨a, vs.toArray, rfl, ⟨_, c, ho, rfl, rfl, rfl⟩, ?_⟩
    refine wpAny_mono (he A _ s E hr S.ok) (fun u s₁ h₁ => ?_) fun _ _ e => e
    obtain ⟨g₁, r₁⟩ := h₁
    have S₁ := S.keep g₁
    refine wpAny_list_append_plain (hsz := by simpa [r.1] using hsz) ⟨c, g₁.keep _ _ ho⟩ fun h' hl' hs' => ?_
    obtain ⟨c', hl'⟩ := hl'
    have gp := went_poke hs'
    have gX : Went (YM Y M) s₁ { s₁ with heap := h' } := gp.on fun b q => .inl (.inr (by rw [q]; exact ha.1))
    refine ⟨g₁.went.trans (gp.on fun b q => .inl (by rw [q]; exact ha.1)), .next, M, _, _, trivial, Sub.refl _ _, S₁.poke (vs' := vs ++ [u]) hμ ha (hn.keep g₁.keep) (g₁.keep _ _ ho) gp (by simpa using hl') (((r.keep g₁).went gX).snoc (r₁.went gX)), hq⟩
  rcases hn with ⟨hk', m, hm, hmx⟩ | ⟨hk', c', hc, hi'⟩
  · exact wpAny_Name (wpAny_loadName_local hk hk' hm hmx fin) hx
  · rcases hk' with hk' | hk'
    · exact wpAny_Name (wpAny_loadName_cell hk hk' hc hi' fin) hx
    · exact wpAny_Name (wpAny_loadName_free hk hk' hc hi' fin hcd) hx
end
end Mine

set_option maxHeartbeats 1000000
namespace Mine
open PySem PySem.W PyProof.Rows PySem.Calls

def D.seen : D → Bool
  | .val _ => false
  | .both _ _ => false
  | _ => true
/-- the entries bear the names and no other keys -/
def KeysAre (w : World) (es : List DictEntry) (kvs : List (Str × D)) : Prop :=
  es.length = kvs.length ∧ ∀ (i : Nat) e p, es[i]? = some e → kvs[i]? = some p → (∃ t, e.key = .str p.1 t) ∧ e.hash = PyData.keyHash w.params p.1

theorem KeysAre.tail {w : World} {e : DictEntry} {p : Str × D} {es kvs} (h : KeysAre w (e :: es) (p :: kvs)) : KeysAre w es kvs :=
  ⟨by simpa using h.1, fun i a b h1 h2 => h.2 (i + 1) a b h1 h2⟩
theorem isStr_eq {y name : Str} {t : Tok} : (Value.str y t).isStr name = (y == name) := rfl
theorem getL_none {w : World} {name : Str} : ∀ {es : List DictEntry} {kvs : List (Str × D)}, KeysAre w es kvs → kvs.lookup name = Option.none →
    es.find? (·.key.isStr name) = Option.none ∧ es.any (·.refKey) = false
  | [], _, _, _ => ⟨rfl, rfl⟩
  | e :: es, [], h, _ => by have := h.1; simp at this
  | e :: es, (y, d) :: kvs, h, hl => by
    obtain ⟨⟨t, ht⟩, _⟩ := h.2 0 e (y, d) rfl rfl
    rw [List.lookup_cons] at hl
    cases q : name == y with
    | true => rw [q] at hl; cases hl
    | false =>
      rw [q] at hl
      obtain ⟨a, b⟩ := getL_none h.tail hl
      have hyn : (y == name) = false := by
        cases z : y == name with
        | false => rfl
        | true =>
          have : y = name := by simpa using z
          subst this; simp at q
      refine ⟨?_, ?_⟩
      · rw [List.find?_cons_of_neg (by rw [ht, isStr_eq, hyn]; decide)]; exact a
      · rw [List.any_cons, b, Bool.or_false]
        show DictEntry.refKey e = false
        unfold DictEntry.refKey
        rw [ht]
theorem getL_some {w : World} {name : Str} {d : D} : ∀ {es : List DictEntry} {kvs : List (Str × D)}, KeysAre w es kvs → kvs.lookup name = some d →
    ∃ (i : Nat) (e : DictEntry) (p : Str × D), es[i]? = some e ∧ kvs[i]? = some p ∧ p.2 = d ∧ es.find? (·.key.isStr name) = some e
  | [], [], _, hl => nomatch hl
  | [], _ :: _, h, _ => by have := h.1; simp at this
  | e :: es, [], h, _ => by have := h.1; simp at this
  | e :: es, (y, d') :: kvs, h, hl => by
    obtain ⟨⟨t, ht⟩, _⟩ := h.2 0 e (y, d') rfl rfl
    rw [List.lookup_cons] at hl
    cases q : name == y with
    | true =>
      rw [q] at hl
      have : name = y := by simpa using q
      subst this
      refine ⟨0, e, (name, d'), rfl, rfl, by simpa using hl, ?_⟩
      rw [List.find?_cons_of_pos (by rw [ht, isStr_eq]; simp)]
    | false =>
      rw [q] at hl
      obtain ⟨i, e', p, h1, h2, h3, h4⟩ := getL_some h.tail hl
      refine ⟨i + 1, e', p, h1, h2, h3, ?_⟩
      have hyn : (y == name) = false := by
        cases z : y == name with
        | false => rfl
        | true =>
          have : y = name := by simpa using z
          subst this; simp at q
      rw [List.find?_cons_of_neg (by rw [ht, isStr_eq, hyn]; decide)]; exact h4

section
variable {prog : Program} {w : World} {hB : Bs} {n : Nat} {K : Frag} {env : Env} {ρ ρc : List (Str × D)} {μ μ' : List (Str × Ow)} {X Y M : Addr → Prop} {B Bc : List Str} {scope : Scope} {Q : Po}

/-- a value that no «#data» entry is -/
theorem Rd.handed {s : Shared} {v : Value} {d : D} (r : Rd prog w X s v d) (hd : d.seen = true) : handedIn v = true := by
  cases r <;> first | rfl | cases hd

theorem Rd.instAt {s : Shared} {v : Value} {C : Addr} {kvs : List (Str × D)} (r : Rd prog w X s v (.inst C kvs)) :
    ∃ x dx es k, v = .ref x ∧ PySem.W.InstAt s.heap x (instObj C dx) C (some (dictOf es k)) ∧ KeysAre w es kvs ∧ ∀ (i : Nat) e p, es[i]? = some e → kvs[i]? = some p → Rd prog w X s e.val p.2 := by
  cases r with
  | inst hx hdx hx' ho hl hk hi => exact ⟨_, _, _, _, rfl, ⟨hx', rfl, rfl, ho⟩, ⟨hl, hk⟩, hi⟩

/-- of a class of the text's: its attributes are looked up in the common way -/
structure Cls (K : Frag) (C : Addr) : Prop where
  ga : findIn K (.ref C) "__getattribute__" = some (some (.builtin "object.__getattribute__"))
  gt : findIn K (.ref C) "__getattr__" = some Option.none
  dict : hasDictIn K C = true

theorem getAttr_inst {A : Around} {E : Value → Shared → Prop} {s : Shared} {x C dx : Addr} {es : List DictEntry} {k : Nat} {kvs : List (Str × D)} {name : Str} {d : D} {expr : Bool} {attr : Option Value} {Q : Value → Shared → Prop} (X : K.In s.heap) (hc : Cls K C)
    (I : PySem.W.InstAt s.heap x (instObj C dx) C (some (dictOf es k))) (hk : KeysAre w es kvs) (hl : kvs.lookup name = some d) (ha : findIn K (.ref C) name = some attr) (hn : noGet K attr = true) (hd : d.seen = true)
    (h : ∀ (i : Nat) e p, es[i]? = some e → kvs[i]? = some p → p.2 = d → Rd prog w Y s e.val d ∧ (Rd prog w Y s e.val d → Q e.val { s with toks := s.toks + 1 })) : wpAny (model prog w) A (getAttr (.ref x) name expr) Q E s := by
  obtain ⟨i, e, p, h1, h2, h3, h4⟩ := getL_some hk hl
  obtain ⟨r, q⟩ := h i e p h1 h2 h3
  exact get_value X I hc.ga (findObj_own hc.dict ha hn (by rw [lookIn_dict]; unfold getL; rw [h4])) (r.handed hd) (q r)

/-- o.name of an object of a class -/
theorem Ev.attr {o : PySem.Expr} {name : Str} {pos : Pos} {C : Addr} {kvs : List (Str × D)} {d : D} {attr : Option Value} (W : Wd hB K) (hc : Cls K C) (ho : Ev prog w hB n env ρ o (.inst C kvs)) (hl : kvs.lookup name = some d)
    (ha : findIn K (.ref C) name = some attr) (hn : noGet K attr = true) (hd : d.seen = true) (hbase : attributeBase o name env (eval o env) = eval o env := by rfl) : Ev prog w hB n env ρ (.Attribute o name pos) d := by
  intro A X s E hr S
  rw [arm_eval_Attribute]
  rw [hbase]
  refine wpAny_bind (wpAny_mono (ho A X s E hr S) (fun v s₁ h₁ => ?_) fun _ _ e => e)
  obtain ⟨g, r⟩ := h₁
  obtain ⟨x, dx, es, k, rfl, I, hk, hi⟩ := r.instAt
  refine wpAny_bind (wpAny_standAt (wpAny_bind (wpAny_holding (getAttr_inst (Y := X) (W.X.keeps (S.keep g).sit.base) hc I hk hl ha hn hd fun i e p h1 h2 h3 => ⟨h3 ▸ hi i e p h1 h2, fun r => ?_⟩))))
  exact wpAny_bind (wpAny_letTemporaryGo (wpAny_pure ⟨g.trans (Gone.tok _ _ (Nat.le_succ _)), r.keep (Gone.tok _ _ (Nat.le_succ _))⟩))

/-- self.name, of the object that the frame owns -/
theorem EvM.attr {x name : Str} {p pos : Pos} {C : Addr} {kvs : List (Str × D)} {d : D} {attr : Option Value} (W : Wd hB K) (hc : Cls K C) (hμ : μ.lookup x = some (.ins C kvs)) (hl : kvs.lookup name = some d)
    (ha : findIn K (.ref C) name = some attr) (hn : noGet K attr = true) (hd : d.seen = true) (hk : env.scope.kind = .function)
    (hx : (x == ("__debug__" : Str)) = false := by decide) (hcd : (x == ("__classdict__" : Str)) = false := by decide) : EvM prog w hB n B env ρ μ (.Attribute (.Name x p) name pos) d := by
  intro A Y M s E hr S
  rw [arm_eval_Attribute]
  obtain ⟨a, hn', -, dx, es, k, hM, hne, ho, hdx, hlen, hkk, hi⟩ := S.own x _ hμ
  show wpAny _ _ (eval (.Name x p) env >>= _) _ _ s
  refine wpAny_bind ?_
  have fin : wpAny (model prog w) A (do
      standAt pos.atName
      let r ← holding [.ref a] (getAttr (.ref a) name true)
      letTemporaryGo (.Name x p) (.ref a) r
      pure r) (fun v s' => Gone s s' ∧ Rd prog w (YM Y M) s' v d) E s := by
    refine wpAny_bind (wpAny_standAt (wpAny_bind (wpAny_holding (getAttr_inst (Y := YM Y M) (W.X.keeps S.ok.sit.base) hc (⟨ho, rfl, rfl, hdx⟩ : PySem.W.InstAt s.heap a (instObj C dx) C (some (dictOf es k))) ⟨hlen, hkk⟩ hl ha hn hd fun i e p h1 h2 h3 => ⟨h3 ▸ hi i e p h1 h2, fun r => ?_⟩))))
    exact wpAny_bind (wpAny_letTemporaryGo (wpAny_pure ⟨Gone.tok _ _ (Nat.le_succ _), r.keep (Gone.tok _ _ (Nat.le_succ _))⟩))
  rcases hn' with ⟨hk', m, hm, hmx⟩ | ⟨hk', c', hc', hi'⟩
  · exact wpAny_Name (wpAny_loadName_local hk hk' hm hmx fin) hx
  · rcases hk' with hk' | hk'
    · exact wpAny_Name (wpAny_loadName_cell hk hk' hc' hi' fin) hx
    · exact wpAny_Name (wpAny_loadName_free hk hk' hc' hi' fin hcd) hx

/-- one new entry in the dict of an object -/
theorem nsSet_own {A : Around} {E : Value → Shared → Prop} {s : Shared} {dx : Addr} {es : List DictEntry} {k : Nat} {kvs : List (Str × D)} {name : Str} {v : Value} {Q : Unit → Shared → Prop} (hd : s.heap.get? dx = some (dictOf es k)) (hk : KeysAre w es kvs) (hl : kvs.lookup name = Option.none)
    (h : ∀ h', h'.get? dx = some (dictOf (es ++ [⟨PyData.keyHash w.params name, .str name s.toks, v⟩]) (k + 1)) → Heap.SameBut dx s.heap h' → Q () { s with heap := h', toks := s.toks + 1 }) :
    wpAny (model prog w) A (nsSet dx name v) Q E s := by
  obtain ⟨h1, h2⟩ := getL_none hk hl
  unfold nsSet
  refine wpAny_bind (wpAny_bind (wpAny_askSetting (wpAny_pure (wpAny_bind (wpAny_mkText (wpAny_bind (wpAny_loadPart hd ?_)))))))
  show wpAny _ _ (if aRefKeyMayBeTheName name es.toArray = true then _ else _) _ _ _
  have c : (!es.toArray.any (·.key.isStr name) && es.toArray.any (·.refKey)) = false := by
    rw [← Array.any_toList, ← Array.any_toList]
    show (!es.any _ && es.any _) = false
    rw [h2, Bool.and_false]
  rw [aRefKeyMayBeTheName_at, c]
  refine wpAny_updatePart hd ?_
  have e1 : Obj.putName name (PyData.keyHash w.params name) (.str name s.toks) v (dictOf es k) = dictOf (es ++ [⟨PyData.keyHash w.params name, .str name s.toks, v⟩]) (k + 1) := by
    rw [putName_dict]
    have f1 : es.findIdx? (fun x => x.key.isStr name) = Option.none := by
      have := any_of_findIdx name es
      cases q : es.findIdx? (fun x => x.key.isStr name) with
      | none => rfl
      | some i =>
        rw [q] at this
        have : es.any (·.key.isStr name) = true := this.symm
        obtain ⟨e, he, hp⟩ := List.any_eq_true.mp this
        rw [List.find?_eq_none] at h1
        exact absurd hp (h1 e he)
    have f2 : es.any (·.key.isStr name) = false := by rw [← any_of_findIdx, f1]; rfl
    rw [← putL_find, f1, putN, f2]
    rfl
  have e2 := Heap.get?_update_self (Obj.putName name (PyData.keyHash w.params name) (.str name s.toks) v) hd (by rw [e1]; rfl)
  rw [e1] at e2
  exact h _ e2 (Heap.SameBut.update ..)
end
end Mine

set_option maxHeartbeats 1000000
namespace Mine
open PySem PySem.W PyProof.Rows PySem.Calls

section
variable {prog : Program} {w : World} {hB : Bs} {n : Nat} {K : Frag} {env : Env} {ρ ρc : List (Str × D)} {μ μ' : List (Str × Ow)} {X Y M : Addr → Prop} {B Bc : List Str} {scope : Scope} {Q : Po}

/-- where a class's instances take a new attribute into their dict -/
structure ClsSet (K : Frag) (C : Addr) (name : Str) : Prop where
  sa : findIn K (.ref C) "__setattr__" = some (some (.builtin "object.__setattr__"))
  over : plainOver K C = true
  taker : takerIn K C name = some Option.none
  dict : hasDictIn K C = true

theorem osa_inst {A : Around} {s : Shared} {x C dx : Addr} {es : List DictEntry} {k : Nat} {kvs : List (Str × D)} {name : Str} {v : Value} {tk : Tok} {R : Result → Shared → Prop} (X : K.In s.heap) (hc : ClsSet K C name)
    (I : PySem.W.InstAt s.heap x (instObj C dx) C (some (dictOf es k))) (hdx : s.heap.get? dx = some (dictOf es k)) (hk : KeysAre w es kvs) (hl : kvs.lookup name = Option.none) (hsz : es.length ≤ 100)
    (h : ∀ h' es' k', es' = es ++ [⟨PyData.keyHash w.params name, .str name s.toks, v⟩] → h'.get? dx = some (dictOf es' k') → Heap.SameBut dx s.heap h' → R (.ok (.ret .none)) { s with heap := h', toks := s.toks + 1 }) :
    codeAny (model prog w) A (.call (.builtin "object.__setattr__") ⟨[.ref x, .str name tk, v], []⟩) R s := by
  refine osa_open X I hc.over hc.taker fun b => ?_
  obtain ⟨cd, hcd, hd'⟩ := any_some hc.dict
  obtain ⟨hx, -, -, -⟩ := I
  refine wpAny_bind (wpAny_pure (wpAny_bind (wpAny_bind (wpAny_loadPart hx (wpAny_bind ((looks_clsIn X hcd).here ?_))))))
  rw [hd']
  refine wpAny_pure (a := some dx) (wpAny_bind (wpAny_pure (wpAny_bind ?_)))
  refine nsSet_own hdx hk hl fun h' e' hs => ?_
  refine wpAny_bind (wpAny_lookBehind e' (pastItsLine_dict (by rw [List.size_toArray, List.length_append, sizeLine_eq]; simp only [List.length_cons, List.length_nil]; omega)) ?_)
  exact wpAny_pure (h h' _ _ rfl e' hs)
theorem setAttr_inst {A : Around} {E : Value → Shared → Prop} {s : Shared} {x C dx : Addr} {es : List DictEntry} {k : Nat} {kvs : List (Str × D)} {name : Str} {v : Value} {R : Unit → Shared → Prop} (X : K.In s.heap) (hc : ClsSet K C name)
    (I : PySem.W.InstAt s.heap x (instObj C dx) C (some (dictOf es k))) (hdx : s.heap.get? dx = some (dictOf es k)) (hk : KeysAre w es kvs) (hl : kvs.lookup name = Option.none) (hsz : es.length ≤ 100)
    (h : ∀ h' es' k' t, es' = es ++ [⟨PyData.keyHash w.params name, .str name t, v⟩] → h'.get? dx = some (dictOf es' k') → Heap.SameBut dx s.heap h' → R () { s with heap := h', toks := s.toks + 2 }) :
    wpAny (model prog w) A (setAttr (.ref x) name v) R E s :=
  set_plain X I hc.sa (osa_inst (s := { s with toks := s.toks + 1 }) X hc I hdx hk hl hsz fun h' es' k' e1 e2 e3 => h h' es' k' _ e1 e2 e3)

/-- self.name = e -/
theorem Ex1.setattr {x name : Str} {p pos' pos : Pos} {e : PySem.Expr} {C : Addr} {kvs : List (Str × D)} {d : D} (W : Wd hB K) (hc : ClsSet K C name) (he : EvM prog w hB n B env ρ ((x, .ins C kvs) :: μ) e d) (hl : kvs.lookup name = Option.none) (hsz : kvs.length ≤ 100) (hμ : ∀ y o, μ.lookup y = some o → ∃ ds, o = .lst ds)
    (hq : Q .next ρ ((x, .ins C (kvs ++ [(name, d)])) :: μ)) (hk : env.scope.kind = .function)
    (hx : (x == ("__debug__" : Str)) = false := by decide) (hcd : (x == ("__classdict__" : Str)) = false := by decide) (hs : swapsWith e (some (.Attribute (.Name x p) name pos')) pos.line env = pure false := by rfl) :
    Ex1 prog w hB n B env ρ ((x, .ins C kvs) :: μ) (.Assign [.Attribute (.Name x p) name pos'] e pos) Q := by
  intro A Y M s E hr S
  refine plainObj_wpAny_Assign_Attribute (wpAny_mono (he A Y M s E hr S) (fun v s₁ h₁ => ?_) fun _ _ e => e) hs
  obtain ⟨g₁, r₁⟩ := h₁
  have S₁ := S.keep g₁
  obtain ⟨a, hn, hnX, dx, es, k, hM, hne, ho, hdx, hlen, hkk, hi⟩ := S₁.own x (.ins C kvs) (by rw [List.lookup_cons, beq_self_eq_true])
  have fin : wpAny (model prog w) A (setAttr (.ref a) name v) (fun _ => Post hB B env prog w Y M Q s .next) E s₁ := by
    refine setAttr_inst (W.X.keeps S₁.ok.sit.base) hc (⟨ho, rfl, rfl, hdx⟩ : PySem.W.InstAt s₁.heap a (instObj C dx) C (some (dictOf es k))) hdx ⟨hlen, hkk⟩ hl (by rw [hlen]; exact hsz) fun h' es' k' t hes e' hsb => ?_
    have gp : Went (· = dx) s₁ { s₁ with heap := h', toks := s₁.toks + 2 } := went_of_sameBut (Nat.le_add_right _ _) hsb rfl
    have gX : Went (YM Y M) s₁ { s₁ with heap := h', toks := s₁.toks + 2 } := gp.on fun b q => .inl (.inr (by rw [q]; exact hM.1))
    have gM : Went M s₁ { s₁ with heap := h', toks := s₁.toks + 2 } := gp.on fun b q => .inl (by rw [q]; exact hM.1)
    -- what is no plain dict is another place
    have ne : ∀ b o', s₁.heap.get? b = some o' → (∀ es n, o'.data ≠ .dict es n) → b ≠ dx := fun b o' e hn q => by
      subst q; rw [hdx] at e; cases e; exact hn _ _ rfl
    have hns : ∃ m, s₁.heap.Ns env.locals m := S₁.frm.ns
    have nm : ∀ y u, NameIs s₁.heap env y u → NameIs h' env y u := by
      rintro y u (⟨h1, m, ⟨o', es, ep, h2, h3⟩, h4⟩ | ⟨h1, c, h2, o', h3, h4⟩)
      · exact .inl ⟨h1, m, ⟨o', es, ep, (hsb.2 _ (Ne.symm hne)).trans h2, h3⟩, h4⟩
      · exact .inr ⟨h1, c, h2, o', (hsb.2 _ (ne _ _ h3 (fun _ _ q => by rw [h4] at q; cases q))).trans h3, h4⟩
    have hnew : KeysAre w es' (kvs ++ [(name, d)]) := by
      subst hes
      refine ⟨by simp [hlen], fun i e q h1 h2 => ?_⟩
      rcases Nat.lt_trichotomy i es.length with q' | q' | q'
      · rw [List.getElem?_append_left q'] at h1
        rw [List.getElem?_append_left (hlen ▸ q')] at h2
        exact hkk i e q h1 h2
      · subst q'
        rw [List.getElem?_append_right (Nat.le_refl _), Nat.sub_self] at h1
        rw [hlen, List.getElem?_append_right (Nat.le_refl _), Nat.sub_self] at h2
        cases h1; cases h2
        exact ⟨⟨_, rfl⟩, rfl⟩
      · rw [List.getElem?_eq_none (by simp; omega)] at h1; cases h1
    have hread : ∀ (i : Nat) e q, es'[i]? = some e → (kvs ++ [(name, d)])[i]? = some q → Rd prog w (YM Y M) { s₁ with heap := h', toks := s₁.toks + 2 } e.val q.2 := by
      subst hes
      intro i e q h1 h2
      rcases Nat.lt_trichotomy i es.length with q' | q' | q'
      · rw [List.getElem?_append_left q'] at h1
        rw [List.getElem?_append_left (hlen ▸ q')] at h2
        exact (hi i e q h1 h2).went gX
      · subst q'
        rw [List.getElem?_append_right (Nat.le_refl _), Nat.sub_self] at h1
        rw [hlen, List.getElem?_append_right (Nat.le_refl _), Nat.sub_self] at h2
        cases h1; cases h2
        exact r₁.went gX
      · rw [List.getElem?_eq_none (by simp; omega)] at h1; cases h1
    refine ⟨g₁.went.trans gM, .next, M, _, _, trivial, Sub.refl _ _, ⟨⟨⟨fun b o' e => ?_, fun b q => ?_, S₁.ok.sit.off, Nat.lt_of_lt_of_le S₁.ok.sit.tlo gp.le⟩, S₁.ok.apart, fun y d e => ?_⟩,
      ⟨S₁.frm.kind, S₁.frm.loc, ?_, fun y c e => ?_, S₁.frm.bd⟩, fun y o e => ?_⟩, hq⟩
    · exact gp.ext b o' (fun q => by subst q; rw [S₁.ok.sit.off _ (.inr hM.1)] at e; cases e) (S₁.ok.sit.base b o' e)
    · by_cases q' : b = dx
      · subst q'; exact ⟨_, e'⟩
      · obtain ⟨o', e⟩ := S₁.ok.sit.live b q
        exact ⟨o', gp.ext b o' q' e⟩
    · obtain ⟨v, h1, h2⟩ := S₁.ok.names y d e
      exact ⟨v, nm _ _ h1, h2.went gX⟩
    · obtain ⟨m, o', es, ep, h2, h3⟩ := hns
      exact ⟨m, o', es, ep, (hsb.2 _ (Ne.symm hne)).trans h2, h3⟩
    · obtain ⟨v, o', h4, h5⟩ := S₁.frm.cel y c e
      exact ⟨v, o', (hsb.2 _ (ne _ _ h4 (fun _ _ q => by rw [h5] at q; cases q))).trans h4, h5⟩
    · rw [List.lookup_cons] at e
      cases q : y == x with
      | true =>
        rw [q] at e; cases e
        have : y = x := by simpa using q
        subst this
        exact ⟨a, nm _ _ hn, hnX, dx, es', k', hM, hne, (hsb.2 _ (ne _ _ ho (fun _ _ z => nomatch z))).trans ho, e', hnew.1, hnew.2, hread⟩
      | false =>
        rw [q] at e
        obtain ⟨ds, rfl⟩ := hμ y o e
        obtain ⟨b, h1, h3, vs', k2, h4, h5⟩ := S₁.own y _ (by rw [List.lookup_cons, q]; exact e)
        exact ⟨b, nm _ _ h1, h3, vs', k2, (hsb.2 _ (ne _ _ h4 (fun _ _ z => nomatch z))).trans h4, h5.went gX⟩
  rcases hn with ⟨hk', m, hm, hmx⟩ | ⟨hk', c', hc', hi'⟩
  · exact wpAny_Name (wpAny_loadName_local hk hk' hm hmx fin) hx
  · rcases hk' with hk' | hk'
    · exact wpAny_Name (wpAny_loadName_cell hk hk' hc' hi' fin) hx
    · exact wpAny_Name (wpAny_loadName_free hk hk' hc' hi' fin hcd) hx

theorem NameIs.one {h : Heap} {x : Str} {u v : Value} (a : NameIs h env x u) (b : NameIs h env x v) : u = v := by
  rcases a with ⟨k, m, h1, h2⟩ | ⟨k, c, h1, o, h2, h3⟩
  · rcases b with ⟨k', m', h1', h2'⟩ | ⟨k', c', h1', h2'⟩
    · have := ns_inj h1 h1'; subst this
      rw [h2] at h2'; exact Option.some.inj h2'
    · rw [k] at k'; rcases k' with k' | k' <;> cases k'
  · rcases b with ⟨k', m', h1', h2'⟩ | ⟨k', c', h1', o', h2', h3'⟩
    · rw [k'] at k; rcases k with k | k <;> cases k
    · rw [h1] at h1'; cases h1'
      rw [h2] at h2'; cases h2'
      rw [h3] at h3'; cases h3'; rfl

/-- an object of the frame is read -/
theorem Ex.releaseI {x : Str} {C a₀ : Addr} {kvs : List (Str × D)} {ss : List Stmt} (hx : ρ.lookup x = some (.val (.ref a₀))) (h : Ex prog w hB n B env ((x, .both (.val (.ref a₀)) (.inst C kvs)) :: ρ) [] ss Q) : Ex prog w hB n B env ρ [(x, .ins C kvs)] ss Q := by
  intro A Y M s E hr S
  obtain ⟨a, hn, hnX, dx, es, k, hM, hne, ho, hdx, hlen, hkk, hi⟩ := S.own x (.ins C kvs) (by rw [List.lookup_cons, beq_self_eq_true])
  have hh : ∀ b, YM Y (fun b => M b ∧ b ≠ dx) b → YM Y M b := fun b q => q.imp id fun m => m.1
  have ne : ∀ b o', s.heap.get? b = some o' → (∀ es n, o'.data ≠ .dict es n) → b ≠ dx := fun b o' e hn q => by
    subst q; rw [hdx] at e; cases e; exact hn _ _ rfl
  have hax : a = a₀ := by
    obtain ⟨v, h1, h2⟩ := S.ok.names x _ hx
    cases h2
    exact Value.ref.inj (hn.one h1)
  subst hax
  have S' : Sta prog w hB Y (fun b => M b ∧ b ≠ dx) B env ((x, .both (.val (.ref a)) (.inst C kvs)) :: ρ) [] s := by
    refine ⟨⟨⟨S.ok.sit.base, fun b q => S.ok.sit.live b (hh b q), fun b q => S.ok.sit.off b (hh b q), S.ok.sit.tlo⟩, S.ok.apart, fun y d e => ?_⟩,
      ⟨S.frm.kind, ⟨S.frm.loc, Ne.symm hne⟩, S.frm.ns, S.frm.cel, fun y hy => (S.frm.bd y hy).imp id fun ⟨k, c, e, m⟩ => ⟨k, c, e, m, let ⟨v, o', h4, h5⟩ := S.frm.cel y c e; ne _ _ h4 (fun _ _ q => by rw [h5] at q; cases q)⟩⟩, fun y o e => nomatch e⟩
    rw [List.lookup_cons] at e
    cases q : y == x with
    | true =>
      rw [q] at e; cases e
      have : y = x := by simpa using q
      subst this
      refine ⟨_, hn, .both (.val _) <| Rd.inst (fun q => hnX (hh _ q)) (fun q => q.elim hM.2 fun m => m.2 rfl) ho hdx hlen hkk fun i e p h1 h2 => (hi i e p h1 h2).off hh⟩
    | false =>
      rw [q] at e
      obtain ⟨v, h1, h2⟩ := S.ok.names y d e
      exact ⟨v, h1, h2.off hh⟩
  refine wpAny_mono (h A Y _ s E hr S') (fun f s' hp => ?_) fun _ _ e => e
  obtain ⟨g, fl, M', ρ', μ', h1, h2, h3, h4⟩ := hp
  exact ⟨g.on fun b q => .inl q.1, fl, M', ρ', μ', h1, fun b q => (h2 b q).imp (fun m => m.1) id, h3, h4⟩
end
end Mine

set_option maxHeartbeats 1000000
namespace Mine
open PySem PySem.W PyProof.Rows PySem.Calls

section
variable {prog : Program} {w : World} {hB : Bs} {n : Nat} {K : Frag} {env : Env} {ρ ρc : List (Str × D)} {μ μ' : List (Str × Ow)} {X Y M : Addr → Prop} {B Bc : List Str} {scope : Scope} {Q : Po}
theorem Ev.snd {e : PySem.Expr} {a b : D} (h : Ev prog w hB n env ρ e (.both a b)) : Ev prog w hB n env ρ e b :=
  fun A X s E hr S => wpAny_mono (h A X s E hr S) (fun v s' q => ⟨q.1, by cases q.2; assumption⟩) fun _ _ e => e

theorem getMethod_inst {A : Around} {E : Value → Shared → Prop} {s : Shared} {x C dx f : Addr} {es : List DictEntry} {k : Nat} {kvs : List (Str × D)} {name : Str} {pl : Sem Bool} {R : Value × List Value → Shared → Prop} (X : K.In s.heap) (hc : Cls K C)
    (I : PySem.W.InstAt s.heap x (instObj C dx) C (some (dictOf es k))) (hk : KeysAre w es kvs) (hl : kvs.lookup name = Option.none) (hf : findIn K (.ref C) name = some (some (.ref f))) (ht : typeIn K (.ref f) = some (.type "function"))
    (h : R (.ref f, [.ref x]) s) : wpAny (model prog w) A (getMethod (.ref x) name pl) R E s := by
  obtain ⟨h1, h2⟩ := getL_none hk hl
  refine method_fn X I hc.ga hc.gt hf ht ?_ h
  show (lookIn name (dictOf es k)).map _ = _
  rw [lookIn_dict]; unfold getL; rw [h1, h2]; rfl

/-- o.name(e, ..) of an own method -/
theorem Ev.method {o e : PySem.Expr} {es : List PySem.Expr} {name : Str} {apos pos : Pos} {C f : Addr} {kvs : List (Str × D)} {ds : List D} {d : D} {pl : Sem Bool} (W : Wd hB K) (hc : Cls K C) (ho : Ev prog w hB n env ρ o (.inst C kvs))
    (hf : findIn K (.ref C) name = some (some (.ref f))) (ht : typeIn K (.ref f) = some (.type "function")) (hk : keepIn K (.ref f) = true) (hl : kvs.lookup name = Option.none)
    (hes : EvL prog w hB n env ρ pos (e :: es) ds) (hfn : Fn prog w hB n (.ref f) (.inst C kvs :: ds) d)
    (he : eval (.Call (.Attribute o name apos) (e :: es) [] pos) env = (do
      let ov ← eval o env
      standAt apos.atName
      let (f, first) ← holding [ov] (getMethod ov name pl)
      callWith pos f first (backTo pos (starEach (e :: es) env)) (backToKw pos (keywordEach [] env))) := by rfl)
    (hst : starEach (e :: es) env = (false, eval e env) :: starEach es env := by rfl) (hplain : (backTo pos (starEach es env)).any (·.1) = false := by rfl) : Ev prog w hB n env ρ (.Call (.Attribute o name apos) (e :: es) [] pos) d := by
  intro A X s E hr S
  refine methodCall_KW (pl := pl) (wpAny_mono (ho A X s E hr S) (fun v s₁ h₁ => ?_) fun _ _ e => e) he
  obtain ⟨g, r⟩ := h₁
  obtain ⟨x, dx, es', k, rfl, I, hkk, hi⟩ := id r.instAt
  refine getMethod_inst (W.X.keeps (S.keep g).sit.base) hc I hkk hl hf ht ?_
  refine callWith_K (K := K) (W.X.keeps (S.keep g).sit.base) hk (wpAny_mono (hes A X s₁ _ hr (S.keep g)) (fun vs s₂ h₂ => ?_) fun _ _ e => e) hst hplain
  obtain ⟨g₂, r₂⟩ := h₂
  have S₂ := (S.keep g).keep g₂
  exact ⟨W.X.keeps S₂.sit.base, wpAny_call (hfn A X s₂ (.ref x :: vs) [] _ hr S₂.sit (RdL.cons (r.keep g₂) r₂) RdL.nil fun v s' g' r' => ⟨(g.trans g₂).trans g', r'⟩)⟩
theorem Ev.method0 {o : PySem.Expr} {name : Str} {apos pos : Pos} {C f : Addr} {kvs : List (Str × D)} {d : D} {pl : Sem Bool} (W : Wd hB K) (hc : Cls K C) (ho : Ev prog w hB n env ρ o (.inst C kvs))
    (hf : findIn K (.ref C) name = some (some (.ref f))) (ht : typeIn K (.ref f) = some (.type "function")) (hk : keepIn K (.ref f) = true) (hl : kvs.lookup name = Option.none)
    (hfn : Fn prog w hB n (.ref f) [.inst C kvs] d)
    (he : eval (.Call (.Attribute o name apos) [] [] pos) env = (do
      let ov ← eval o env
      standAt apos.atName
      let (f, first) ← holding [ov] (getMethod ov name pl)
      callWith pos f first (backTo pos (starEach [] env)) (backToKw pos (keywordEach [] env))) := by rfl) : Ev prog w hB n env ρ (.Call (.Attribute o name apos) [] [] pos) d := by
  intro A X s E hr S
  refine methodCall_KW (pl := pl) (wpAny_mono (ho A X s E hr S) (fun v s₁ h₁ => ?_) fun _ _ e => e) he
  obtain ⟨g, r⟩ := h₁
  obtain ⟨x, dx, es', k, rfl, I, hkk, hi⟩ := id r.instAt
  refine getMethod_inst (W.X.keeps (S.keep g).sit.base) hc I hkk hl hf ht ?_
  refine callWith_K0 (K := K) (W.X.keeps (S.keep g).sit.base) hk (wpAny_call ?_)
  exact hfn A X s₁ [.ref x] [] _ hr (S.keep g).sit (RdL.cons r RdL.nil) RdL.nil fun v s' g' r' => ⟨g.trans g', r'⟩
theorem Ev.methodKW {o e ke : PySem.Expr} {es : List PySem.Expr} {kws : List Keyword} {name nm : Str} {apos pos : Pos} {C f : Addr} {kvs : List (Str × D)} {ds : List D} {d kd : D} {pl : Sem Bool} (W : Wd hB K) (hc : Cls K C) (ho : Ev prog w hB n env ρ o (.inst C kvs))
    (hf : findIn K (.ref C) name = some (some (.ref f))) (ht : typeIn K (.ref f) = some (.type "function")) (hk : keepIn K (.ref f) = true) (hl : kvs.lookup name = Option.none)
    (hes : EvL prog w hB n env ρ pos (e :: es) ds) (hke : Ev prog w hB n env ρ ke kd) (hfn : FnK prog w hB n (.ref f) (.inst C kvs :: ds) [(nm, kd)] d)
    (hkw : backToKw pos (keywordEach kws env) = [(some nm, (do let v ← eval ke env; standAt pos; pure v : Sem Value))] := by rfl)
    (he : eval (.Call (.Attribute o name apos) (e :: es) kws pos) env = (do
      let ov ← eval o env
      standAt apos.atName
      let (f, first) ← holding [ov] (getMethod ov name pl)
      callWith pos f first (backTo pos (starEach (e :: es) env)) (backToKw pos (keywordEach kws env))) := by rfl)
    (hst : starEach (e :: es) env = (false, eval e env) :: starEach es env := by rfl) (hplain : (backTo pos (starEach (e :: es) env)).any (·.1) = false := by rfl) : Ev prog w hB n env ρ (.Call (.Attribute o name apos) (e :: es) kws pos) d := by
  intro A X s E hr S
  refine methodCall_KW (pl := pl) (wpAny_mono (ho A X s E hr S) (fun v s₁ h₁ => ?_) fun _ _ e => e) he
  obtain ⟨g, r⟩ := h₁
  obtain ⟨x, dx, es', k, rfl, I, hkk, hi⟩ := id r.instAt
  refine getMethod_inst (W.X.keeps (S.keep g).sit.base) hc I hkk hl hf ht ?_
  refine callWith_KW (K := K) (W.X.keeps (S.keep g).sit.base) hk (by rw [hkw]; rfl) (wpAny_mono (hes A X s₁ _ hr (S.keep g)) (fun vs s₂ h₂ => ?_) fun _ _ e => e) (by rw [hkw, hplain]; rfl) hst
  obtain ⟨g₂, r₂⟩ := h₂
  have S₂ := (S.keep g).keep g₂
  rw [hkw]
  show wpAny _ _ (evalAll [(do let v ← eval ke env; standAt pos; pure v : Sem Value)]) _ _ _
  refine wpAny_evalAll_cons (wpAny_bind (wpAny_mono (hke A X s₂ _ hr S₂) (fun u s₃ h₃ => wpAny_bind (wpAny_standAt (wpAny_pure (wpAny_evalAll_nil ?_)))) fun _ _ e => e))
  obtain ⟨g₃, r₃⟩ := h₃
  have S₃ := S₂.keep g₃
  refine ⟨W.X.keeps S₃.sit.base, wpAny_call ?_⟩
  exact hfn A X s₃ (.ref x :: vs) [u] _ hr S₃.sit (RdL.cons ((r.keep g₂).keep g₃) (r₂.keep g₃)) (RdL.cons r₃ RdL.nil) fun v s' g' r' => ⟨((g.trans g₂).trans g₃).trans g', r'⟩

/-- o[i] by an own __getitem__ -/
theorem Ev.subInst {value slice : PySem.Expr} {pos : Pos} {C f : Addr} {kvs : List (Str × D)} {i d : D} (W : Wd hB K) (ho : Ev prog w hB (n + 1) env ρ value (.inst C kvs)) (hi : Ev prog w hB (n + 1) env ρ slice i)
    (hs : findIn K (.ref C) "__getitem__" = some (some (.ref f))) (hf : fnIn K f = true) (ht : typeIn K (.ref f) = some (.type "function")) (hfn : Fn prog w hB n (.ref f) [.inst C kvs, i] d)
    (hsl : ∀ x i, subscripted slice true (.ref x) i = runValue (.builtin "lifetime.subscript" ⟨[.ref x, i], []⟩) := by intro x i; with_unfolding_all rfl) : Ev prog w hB (n + 1) env ρ (.Subscript value slice pos) d := by
  intro A X s E hr S
  refine Subscript_ (wpAny_mono (ho A X s E hr S) (fun v s₁ h₁ => ?_) fun _ _ e => e)
  obtain ⟨g, r⟩ := h₁
  refine wpAny_mono (hi A X s₁ E hr (S.keep g)) (fun u s₂ h₂ => ?_) fun _ _ e => e
  obtain ⟨g₂, r₂⟩ := h₂
  have S₂ := (S.keep g).keep g₂
  have r' := r.keep g₂
  obtain ⟨x, dx, es', k, rfl, I, hkk, hi'⟩ := id r'.instAt
  have XK := W.X.keeps S₂.sit.base
  unfold fnIn at hf
  split at hf
  · rename_i e
    unfold subscriptTail getitemInPython
    refine wpAny_bind (wpAny_bind (wpAny_bind (I.type.here ((looks_findIn XK hs).here ?_))))
    dsimp only
    refine wpAny_bind (wpAny_load (XK _ _ e) (wpAny_pure ?_))
    dsimp only
    rw [hsl]
    refine wpAny_bind (wpAny_runValue (codeAny_builtin entry_sub ?_))
    refine wpAny_bind (special_fn XK I hs ht (wpAny_call (hfn A.in1 X s₂ [.ref x, u] [] _ hr.in1 S₂.sit (RdL.cons r' (RdL.cons r₂ RdL.nil)) RdL.nil fun v s' g' r'' => ?_)))
    refine wpAny_pure ?_
    show wpAny _ _ (letTemporaryGo value (.ref x) v >>= fun _ => pure v) _ _ s'
    exact wpAny_bind (wpAny_letTemporaryGo (wpAny_pure ⟨(g.trans g₂).trans g', r''⟩))
  · cases hf

/-- what the __init__ of a class makes of a new object -/
def InitC (prog : Program) (w : World) (hB : Bs) (n : Nat) (f C : Addr) (ds : List D) (kvs : List (Str × D)) : Prop :=
  ∀ A X s x dx vs R, Room n A → Sit hB X s → s.heap.get? x = some (instObj C dx) → s.heap.get? dx = some (dictOf [] 0) → ¬ X x → ¬ X dx → hB.h.get? dx = Option.none → RdL prog w (fun b => X b ∨ b = dx) s vs ds →
    (∀ s', Went (· = dx) s s' → Rd prog w X s' (.ref x) (.inst C kvs) → R (.ok (.ret .none)) s') → codeAny (model prog w) A (.call (.ref f) ⟨.ref x :: vs, []⟩) R s

/-- a class of the text's is called -/
theorem Fn.cls {C f : Addr} {ds : List D} {kvs : List (Str × D)} (W : Wd hB K) (hm : makesIn K C = true) (hi : findIn K (.ref C) "__init__" = some (some (.ref f))) (hf : typeIn K (.ref f) = some (.type "function"))
    (h : InitC prog w hB n f C ds kvs) : Fn prog w hB (n + 1) (.ref C) ds (.inst C kvs) := by
  intro A X s vs ks R hr S hvs hks hR
  have hks0 : ks = [] := by have := hks.1; simpa using this
  subst hks0
  obtain ⟨hh, g, d, t, os⟩ := s
  refine make_core (makes_of (W.X.keeps S.base) hm) (looks_findIn (W.X.keeps S.base) hi) (fun self => bind_fn (W.X.keeps S.base) self hf) (.inl rfl) ?_
  have k2 : Gone (⟨hh, g, d, t, os⟩ : Shared) ⟨(hh.push emptyDict).push (instObj C hh.objs.size), g, d, t, os⟩ := (Gone.push (⟨hh, g, d, t, os⟩ : Shared) _).trans (Gone.push _ _)
  have hsz : (hh.push emptyDict).objs.size = hh.objs.size + 1 := Heap.size_push ..
  have hx0 : (⟨hh, g, d, t, os⟩ : Shared).heap.get? (hh.objs.size + 1) = Option.none := get?_ge (Nat.le_succ _)
  have hd0 : (⟨hh, g, d, t, os⟩ : Shared).heap.get? hh.objs.size = Option.none := get?_size_none _
  have hx : ((hh.push emptyDict).push (instObj C hh.objs.size)).get? (hh.objs.size + 1) = some (instObj C hh.objs.size) := by rw [← hsz]; exact Heap.get?_push_size _ rfl
  have hd : ((hh.push emptyDict).push (instObj C hh.objs.size)).get? hh.objs.size = some (dictOf [] 0) := Heap.get?_push_of_some _ (Heap.get?_push_size _ rfl)
  have nx : ∀ a, (⟨hh, g, d, t, os⟩ : Shared).heap.get? a = Option.none → ¬ X a := fun a e x => by obtain ⟨o, e'⟩ := S.live a x; rw [e] at e'; cases e'
  have hdB : hB.h.get? hh.objs.size = Option.none := by
    cases q : hB.h.get? hh.objs.size with
    | none => rfl
    | some o => exact absurd (hd0.symm.trans (S.base _ o q)) (by intro z; cases z)
  have hru : Room n (A.under (.builtin "type.__call__" ⟨.ref C :: vs, []⟩)) := by
    refine ⟨hr.1, ?_, ?_⟩
    · have := hr.2.1
      rw [depth_under_kw]; omega
    · have := hr.2.2
      have e : (A.under (.builtin "type.__call__" ⟨.ref C :: vs, []⟩)).units ≤ A.units + 10 := by
        show A.units + (1 + 3 * Code.frames (.builtin "type.__call__" ⟨.ref C :: vs, []⟩)) ≤ A.units + 10
        have f : Code.frames (.builtin "type.__call__" ⟨.ref C :: vs, []⟩) = 0 := by kernel_rfl
        rw [f]
        omega
      omega
  refine h _ X _ (hh.objs.size + 1) hh.objs.size vs _ hru (S.keep k2) hx hd (nx _ hx0) (nx _ hd0) hdB ?_ fun s' gw r => ?_
  · exact (hvs.on fun b hb => hb.imp id fun q => by rw [q]; exact hd0).keep k2
  · exact ⟨rfl, hR _ s' ((k2.went.trans gw).gone fun a (q : a = _) => by rw [q]; exact hd0) r⟩
end
end Mine

set_option maxHeartbeats 1000000
namespace Mine
open PySem PySem.W PyProof.Rows PySem.Calls

section
variable {prog : Program} {w : World} {hB : Bs} {n : Nat} {K : Frag} {env : Env} {ρ ρc : List (Str × D)} {μ μ' : List (Str × Ow)} {X Y M : Addr → Prop} {B Bc : List Str} {scope : Scope}

/-- the same places, told apart otherwise -/
theorem Sta.shift {s : Shared} {Y' M' : Addr → Prop} (S : Sta prog w hB Y M B env ρ [] s) (h : ∀ a, YM Y' M' a → YM Y M a) (hM : ∀ a, M a → M' a) : Sta prog w hB Y' M' B env ρ [] s :=
  ⟨⟨⟨S.ok.sit.base, fun a q => S.ok.sit.live a (h a q), fun a q => S.ok.sit.off a (h a q), S.ok.sit.tlo⟩, S.ok.apart, fun x d e => let ⟨v, a, b⟩ := S.ok.names x d e; ⟨v, a, b.off h⟩⟩,
    ⟨S.frm.kind, hM _ S.frm.loc, S.frm.ns, S.frm.cel, fun x hx => (S.frm.bd x hx).imp id fun ⟨k, c, e, m⟩ => ⟨k, c, e, hM _ m⟩⟩, fun x o e => nomatch e⟩

theorem InitC.of_def {f C : Addr} {o : Obj} {fd : FuncData} {body : List Stmt} {sn : Str} {ns : List Str} {ds : List D} {kvs : List (Str × D)} {Q : Addr → Po}
    (W : Wd hB K) (ho : K.lookup f = some o) (hdata : o.data = .func fd) (hcd : codeIn K fd.code fd.qualname = true) (hbody : fd.body = .stmts body)
    (hbind : ∀ s vs x, Keep hB.h s.heap → vs.length = ds.length → BindsTo s fd ⟨.ref x :: vs, []⟩ ((sn :: ns).zip (.ref x :: vs))) (hlen : ds.length = ns.length) (hclo : fd.closure = [])
    (hnd : (sn :: ns).Nodup) (hpar : ∀ x ∈ sn :: ns, fd.scope.names.lookup x = some .local)
    (hbd : ∀ x ∈ B, fd.scope.names.lookup x = some .local ∨ fd.scope.names.lookup x = some .cell)
    (hex : ∀ L x, Ex prog w hB n B (callEnvC fd L f) ((sn, .val (.ref x)) :: ns.zip ds) [(sn, .ins C [])] body (Q x))
    (hQ : ∀ x fl ρ μ, Q x fl ρ μ → (fl = .next ∨ fl = .ret .none) ∧ ((ρ.lookup sn = some (.val (.ref x)) ∧ μ.lookup sn = some (.ins C kvs)) ∨ ρ.lookup sn = some (.both (.val (.ref x)) (.inst C kvs))))
    (hco : fd.scope.isCoroutine = false := by rfl) (hgen : fd.scope.isGenerator = false := by rfl) (hk : fd.scope.kind = .function := by rfl) : InitC prog w hB (n + 1) f C ds kvs := by
  intro A X s x dx vs R hrm S hx hdx hXx hXd hdB hvs hR
  have hlv : (.ref x :: vs : List Value).length = (sn :: ns).length := by simp [hvs.1, hlen]
  have hzk : ((sn :: ns).zip (.ref x :: vs)).map (·.1) = sn :: ns := List.map_fst_zip (Nat.le_of_eq hlv.symm)
  have hcs : ∀ y, fd.scope.names.lookup y = some .cell → ∃ c, (cellsFrom (s.heap.objs.size + 1) fd.scope.names []).lookup y = some c := fun y e => by
    obtain ⟨c, h1, _⟩ := cells_own (h := s.heap.push { cls := .type "dict", data := .dict #[] }) (acc := []) (lookup_mem e)
    rw [Heap.size_push] at h1
    exact ⟨c, h1⟩
  have spec := cells_spec (names := fd.scope.names) (h := s.heap.push { cls := .type "dict", data := .dict #[] }) (acc := []) (fun x c e => nomatch e) (fun x y c e => nomatch e)
  rw [Heap.size_push] at spec
  have SX : Sit hB (fun b => X b ∨ b = dx) s := ⟨S.base, fun a q => q.elim (S.live a) fun q => by rw [q]; exact ⟨_, hdx⟩, fun a q => q.elim (S.off a) fun q => by rw [q]; exact hdB, S.tlo⟩
  refine codeAny_call_function hrm.depth (S.base _ _ (W.X _ _ ho)) hdata hco hgen hbody (codeRec_of (W.X.keeps S.base) hcd) (hbind s vs x S.base hvs.1 _ _ _ _ ?_)
  rw [hclo]
  refine wt (wpAny_newFunctionEnv_cells hk (fun y hy => ?_) fun env' he s₁ z => ?_)
  · have hxm : y.1 ∈ sn :: ns := hzk ▸ List.mem_map.mpr ⟨y, hy, rfl⟩
    exact .inl (hpar _ hxm)
  · intro hle
    subst he
    have g : Gone s s₁ := by
      obtain ⟨h, tk, rfl⟩ := z.toInCall.same
      exact ⟨h, tk, rfl, hle, z.toInCall.keep⟩
    refine ⟨W.nolimit.keeps (S.base.trans g.keep), codeAny_func ?_⟩
    have hndz : (((sn :: ns).zip (.ref x :: vs)).map (·.1)).Nodup := by rw [hzk]; exact hnd
    have nameIs : ∀ y v, ((sn :: ns).zip (.ref x :: vs)).lookup y = some v → NameIs s₁.heap (callEnvC fd s.heap.objs.size f) y v := fun y v e => by
      have hym : y ∈ sn :: ns := (List.of_mem_zip (lookup_mem e)).1
      exact .inl ⟨hpar y hym, _, z.toInCall.ns, bindL_lookup (hpar y hym) hndz e⟩
    have St0 : Sta prog w hB (fun b => X b ∨ b = dx) (ownM s s₁) B (callEnvC fd s.heap.objs.size f) ((sn, .val (.ref x)) :: ns.zip ds) [] s₁ := by
      refine start_sta SX g hk ⟨_, z.toInCall.ns⟩ (get?_size_none _) (fun y c e => ?_) spec.1 (fun y hy => ?_) (fun y d' e => ?_)
      · rcases spec.2 y c e with q | ⟨q, -⟩
        · cases q
        · exact ⟨get?_ge (Nat.le_trans (Nat.le_succ _) q), _, z.cell y c e⟩
      · rcases hbd y hy with q | q
        · exact .inl q
        · exact .inr ⟨q, hcs _ q⟩
      · rw [List.lookup_cons] at e
        cases q : y == sn with
        | true =>
          rw [q] at e; cases e
          exact ⟨.ref x, nameIs y _ (by rw [List.zip_cons_cons, List.lookup_cons, q]), .val _⟩
        | false =>
          rw [q] at e
          obtain ⟨i, v, h1, h2, h3⟩ := zip_look hvs.1 e
          exact ⟨v, nameIs y _ (by rw [List.zip_cons_cons, List.lookup_cons, q]; exact h3), hvs.2 i v d' h1 h2⟩
    have hdL : dx ≠ s.heap.objs.size := fun q => by rw [q, get?_size_none] at hdx; cases hdx
    have St : Sta prog w hB X (fun a => ownM s s₁ a ∨ a = dx) B (callEnvC fd s.heap.objs.size f) ((sn, .val (.ref x)) :: ns.zip ds) [(sn, .ins C [])] s₁ := by
      have h1 := St0.shift (Y' := X) (M' := fun a => ownM s s₁ a ∨ a = dx) (fun a q => by
        rcases q with q | q | q
        · exact .inl (.inl q)
        · exact .inr q
        · exact .inl (.inr q)) (fun a q => .inl q)
      refine ⟨h1.ok, h1.frm, fun y o e => ?_⟩
      rw [List.lookup_cons] at e
      cases q : y == sn with
      | false => rw [q] at e; cases e
      | true =>
        rw [q] at e; cases e
        have : y = sn := by simpa using q
        subst this
        refine ⟨x, nameIs y _ (by rw [List.zip_cons_cons, List.lookup_cons, q]), ?_, dx, [], 0, ⟨.inr rfl, hXd⟩, hdL, g.keep _ _ hx, g.keep _ _ hdx, rfl, fun i e p h1 h2 => by simp at h1, fun i e p h1 h2 => by simp at h1⟩
        rintro (q' | q' | q')
        · exact hXx q'
        · rw [q'.1] at hx; cases hx
        · rw [q', hdx] at hx; cases hx
    refine wpAny_mono (hex s.heap.objs.size x _ _ _ _ _ (hrm.deeper _) St) (fun fl s' hp => ?_) fun _ _ e => e
    obtain ⟨g', fl', M', ρ', μ', h1, h2, h3, h4⟩ := hp
    have gw : Went (· = dx) s s' := (g.went.trans g').on fun a q => q.elim (fun m => .inr m.1) .inl
    obtain ⟨hfl, hfin⟩ := hQ x fl' ρ' μ' h4
    have rd : Rd prog w X s' (.ref x) (.inst C kvs) := by
      rcases hfin with ⟨e1, e2⟩ | e1
      · obtain ⟨v, hv, r⟩ := h3.ok.names _ _ e1
        cases r
        obtain ⟨a, hn, hnX, dx', es, k, hM, hne, ho', hdx', hl', hkk, hi⟩ := h3.own _ _ e2
        have := Value.ref.inj (hv.one hn)
        subst this
        exact .inst (fun q => hnX (.inl q)) hM.2 ho' hdx' hl' hkk fun i e p h1 h2 => (hi i e p h1 h2).off fun a q => .inl q
      · obtain ⟨v, hv, r⟩ := h3.ok.names _ _ e1
        cases r with
        | both r1 r2 =>
          cases r1
          exact r2.off fun a q => .inl q
    have hv : (match fl with | .ret v => v | _ => .none) = Value.none := by
      rcases hfl with rfl | rfl
      · cases fl <;> first | rfl | exact h1.elim
      · cases fl <;> try exact h1.elim
        cases h1; rfl
    have := hR s' gw rd
    rw [← hv] at this
    cases fl <;> exact this
end
end Mine

set_option maxHeartbeats 1000000
namespace Mine
open PySem PySem.W PyProof.Rows PySem.Calls

section
variable {prog : Program} {w : World} {hB : Bs} {n : Nat} {K : Frag} {env : Env} {ρ ρc : List (Str × D)} {μ μ' : List (Str × Ow)} {X Y M : Addr → Prop} {B Bc : List Str} {scope : Scope} {Q : Po}

/-- a built-in function is called by its name -/
theorem Ev.callB {x : Str} {id : String} {p : Pos} {e : PySem.Expr} {es : List PySem.Expr} {pos : Pos} {ds : List D} {d : D} (hf : Ev prog w hB n env ρ (.Name x p) (.val (.builtin id)))
    (hes : EvL prog w hB n env ρ pos (e :: es) ds) (hg : GivL prog w hB n (fun vs => PySem.call (.builtin id) vs) ds d) (he : starEach (e :: es) env = (false, eval e env) :: starEach es env := by rfl) (hplain : (backTo pos (starEach es env)).any (·.1) = false := by rfl) :
    Ev prog w hB n env ρ (.Call (.Name x p) (e :: es) [] pos) d := by
  intro A X s E hr S
  refine wpAny_Call_NameR (wpAny_mono (hf A X s _ hr S) (fun v s₁ h₁ => ?_) fun _ _ e => e)
  obtain ⟨g1, r1⟩ := h₁
  cases r1
  have S1 := S.keep g1
  refine PyProof.Rows.callWith_builtin1 (wpAny_mono (hes A X s₁ _ hr S1) (fun vs s₂ h₂ => ?_) fun _ _ e => e) he hplain
  obtain ⟨g2, r2⟩ := h₂
  exact wpAny_mono (hg A X s₂ E vs hr (S1.keep g2).sit r2) (fun v s₃ h₃ => ⟨(g1.trans g2).trans h₃.1, h₃.2⟩) fun _ _ e => e
theorem Ev.callT {x : Str} {T : String} {p : Pos} {e : PySem.Expr} {es : List PySem.Expr} {pos : Pos} {ds : List D} {d : D} (hf : Ev prog w hB n env ρ (.Name x p) (.val (.type T)))
    (hes : EvL prog w hB n env ρ pos (e :: es) ds) (hg : GivL prog w hB n (fun vs => PySem.call (.type T) vs) ds d) (he : starEach (e :: es) env = (false, eval e env) :: starEach es env := by rfl) (hplain : (backTo pos (starEach es env)).any (·.1) = false := by rfl) :
    Ev prog w hB n env ρ (.Call (.Name x p) (e :: es) [] pos) d := by
  intro A X s E hr S
  refine wpAny_Call_NameR (wpAny_mono (hf A X s _ hr S) (fun v s₁ h₁ => ?_) fun _ _ e => e)
  obtain ⟨g1, r1⟩ := h₁
  cases r1
  have S1 := S.keep g1
  refine PyProof.Rows.callWith_type1 (wpAny_mono (hes A X s₁ _ hr S1) (fun vs s₂ h₂ => ?_) fun _ _ e => e) he hplain
  obtain ⟨g2, r2⟩ := h₂
  exact wpAny_mono (hg A X s₂ E vs hr (S1.keep g2).sit r2) (fun v s₃ h₃ => ⟨(g1.trans g2).trans h₃.1, h₃.2⟩) fun _ _ e => e

theorem RdL.one {s : Shared} {vs : List Value} {d : D} (r : RdL prog w X s vs [d]) : ∃ v, vs = [v] ∧ Rd prog w X s v d := by
  obtain ⟨v, vs', rfl, r1, r2⟩ := r.cons_inv
  rw [r2.nil_inv]; exact ⟨v, rfl, r1⟩
theorem RdL.two {s : Shared} {vs : List Value} {d e : D} (r : RdL prog w X s vs [d, e]) : ∃ v u, vs = [v, u] ∧ Rd prog w X s v d ∧ Rd prog w X s u e := by
  obtain ⟨v, vs', rfl, r1, r2⟩ := r.cons_inv
  obtain ⟨u, rfl, r3⟩ := r2.one
  exact ⟨v, u, rfl, r1, r3⟩

theorem GivL.len_list {ds : List D} (hsz : ds.length ≤ sizeLine) : GivL prog w hB n (fun vs => PySem.call (.builtin "len") vs) [.list ds] (.int ds.length) := by
  intro A X s E vs hr S r
  obtain ⟨v, rfl, r0⟩ := r.one; replace r := r0; clear r0
  obtain ⟨a, vs, k, rfl, hx, ho, rl⟩ := r.list_inv
  refine call_len_list (items := vs.toArray) ⟨_, ho, rfl, _, rfl⟩ ?_ ?_
  · rw [List.size_toArray, rl.1]; rw [sizeLine_eq] at hsz; omega
  · refine ⟨Gone.tok _ _ (Nat.le_succ_of_le (Nat.le_succ _)), ?_⟩
    rw [List.size_toArray, rl.1]; exact .int _ _
theorem GivL.len_str {d : D} {x : S} (hd : IsS d x) (hsz : x.length ≤ sizeLine) : GivL prog w hB n (fun vs => PySem.call (.builtin "len") vs) [d] (.int x.length) := by
  intro A X s E vs hr S r
  obtain ⟨v, rfl, r0⟩ := r.one; replace r := r0; clear r0
  obtain ⟨t, rfl⟩ := hd.rd r
  refine PySem.P.len_str (by rw [tx_len]; rw [sizeLine_eq] at hsz; omega) ?_
  refine ⟨Gone.tok _ _ (Nat.le_succ_of_le (Nat.le_succ _)), ?_⟩
  rw [tx_len]; exact .int _ _
theorem GivL.max_two {a b : Int} : GivL prog w hB n (fun vs => PySem.call (.builtin "max") vs) [.int a, .int b] (.int (if b > a then b else a)) := by
  intro A X s E vs hr S r
  obtain ⟨v, u, rfl, r1, r2⟩ := r.two
  obtain ⟨t, rfl⟩ := r1.int_inv
  obtain ⟨t', rfl⟩ := r2.int_inv
  refine wt (max_two_ints hr.1 fun h' tk hk hle => ⟨Gone.mk' hle hk, ?_⟩)
  by_cases q : b > a
  · rw [if_pos q, if_pos q]; exact .int _ _
  · rw [if_neg q, if_neg q]; exact .int _ _

theorem RdL.ints {s : Shared} : ∀ {vs : List Value} {ns : List Int}, RdL prog w X s vs (ns.map .int) → ∃ xs : Array (Int × Tok), vs.toArray = intItems xs ∧ xs.toList.map (·.1) = ns
  | vs, [], r => by rw [r.nil_inv]; exact ⟨#[], by simp [intItems], rfl⟩
  | vs, k :: ns, r => by
    obtain ⟨v, vs', rfl, r1, r2⟩ := r.cons_inv
    obtain ⟨t, rfl⟩ := r1.int_inv
    obtain ⟨xs, h1, h2⟩ := r2.ints
    refine ⟨#[(k, t)] ++ xs, ?_, by simp [h2]⟩
    have : (Value.int k t :: vs').toArray = #[Value.int k t] ++ vs'.toArray := by simp
    rw [this, h1]
    simp [intItems]
theorem GivL.sum_ints {ns : List Int} : GivL prog w hB n (fun vs => PySem.call (.builtin "sum") vs) [.list (ns.map .int)] (.int ns.sum) := by
  intro A X s E vs hr S r
  obtain ⟨v, rfl, r0⟩ := r.one; replace r := r0; clear r0
  obtain ⟨a, vs, k, rfl, hx, ho, rl⟩ := r.list_inv
  obtain ⟨xs, h1, h2⟩ := rl.ints
  refine wt (sum_intListG (xs := xs) hr.1 ⟨_, ho, rfl, k, by rw [← h1]⟩ fun h' tk t' hk hle => ⟨Gone.mk' hle hk, ?_⟩)
  have e : preSum (numAt xs) xs.size = ns.sum := by
    rw [preSum_eq, List.take_of_length_le (by simp), ← h2]
  rw [e]; exact .int _ _
theorem GivL.max_ints {ns : List Int} {m : Int} (hne : 0 < ns.length) (hm : ∀ xs : Array (Int × Tok), xs.toList.map (·.1) = ns → numAt xs (argBest (fun i j => decide (numAt xs i > numAt xs j)) (xs.size - 1)) = m) :
    GivL prog w hB n (fun vs => PySem.call (.builtin "max") vs) [.list (ns.map .int)] (.int m) := by
  intro A X s E vs hr S r
  obtain ⟨v, rfl, r0⟩ := r.one; replace r := r0; clear r0
  obtain ⟨a, vs, k, rfl, hx, ho, rl⟩ := r.list_inv
  obtain ⟨xs, h1, h2⟩ := rl.ints
  have hsz : xs.size = ns.length := by rw [← h2, List.length_map]; simp
  refine wt (max_intList (xs := xs) hr.1 ⟨_, ho, rfl, k, by rw [← h1]⟩ (by omega) fun v h' tk hv hk hle => ⟨Gone.mk' hle hk, ?_⟩)
  obtain ⟨t, e⟩ := intItems_at hv
  rw [e, hm xs h2]; exact .int _ _
theorem GivL.tuple_list {ds : List D} (hsz : ds.length ≤ sizeLine) : GivL prog w hB n (fun vs => PySem.call (.type "tuple") vs) [.list ds] (.tuple ds) := by
  intro A X s E vs hr S r
  obtain ⟨v, rfl, r0⟩ := r.one; replace r := r0; clear r0
  obtain ⟨a, vs, k, rfl, hx, ho, rl⟩ := r.list_inv
  refine call_tuple_list (items := vs.toArray) ⟨_, ho, rfl, _, rfl⟩ (fun h' hk => ?_) (by simpa [rl.1] using hsz)
  have g : Gone s { s with heap := h'.push { cls := .type "tuple", data := .seq vs.toArray } } := Gone.mkh (fun b o e => Heap.get?_push_of_some _ (hk b o e))
  refine ⟨g, Rd.mkTuple (fun x => ?_) (Heap.get?_push_size _ rfl) (rl.keep g)⟩
  obtain ⟨o, e⟩ := S.live _ x
  exact absurd (Heap.lt_size (hk _ _ e)) (Nat.lt_irrefl _)
theorem GivL.type_str {d : D} {x : S} (hd : IsS d x) : GivL prog w hB n (fun vs => PySem.call (.type "type") vs) [d] (.val (.type "str")) := by
  intro A X s E vs hr S r
  obtain ⟨v, rfl, r0⟩ := r.one; replace r := r0; clear r0
  obtain ⟨t, rfl⟩ := hd.rd r
  exact call_type_of (typeIs_str _ _ _) (by decide) ⟨Gone.refl _, .val _⟩
theorem GivL.type_list {ds : List D} : GivL prog w hB n (fun vs => PySem.call (.type "type") vs) [.list ds] (.val (.type "list")) := by
  intro A X s E vs hr S r
  obtain ⟨v, rfl, r0⟩ := r.one; replace r := r0; clear r0
  exact call_type_of (HasT.list _ _ _ _ _ r) (by decide) ⟨Gone.refl _, .val _⟩

/-- range(k), in a loop -/
theorem Its.range {x : Str} {p : Pos} {e : PySem.Expr} {pos : Pos} {k : Nat} (hf : Ev prog w hB n env ρ (.Name x p) (.val (.type "range"))) (he : Ev prog w hB n env ρ e (.int k)) (hk : k < 2 ^ 30)
    (hst : starEach [e] env = (false, eval e env) :: starEach [] env := by rfl) :
    Its prog w hB n env ρ (.Call (.Name x p) [e] [] pos) ((List.range k).map fun (i : Nat) => D.int (i : Int)) := by
  intro A X s E R hr S kk
  refine wpAny_Call_NameR (wpAny_mono (hf A X s _ hr S) (fun v s₁ h₁ => ?_) fun _ _ e => e)
  obtain ⟨g1, r1⟩ := h₁
  cases r1
  have S1 := S.keep g1
  refine PyProof.Rows.callWith_type1 ((EvL.cons he EvL.nil hst) A X s₁ _ hr S1 |> fun h => wpAny_mono h (fun vs s₂ h₂ => ?_) fun _ _ e => e) hst rfl
  obtain ⟨g2, r2⟩ := h₂
  obtain ⟨v, rfl, r3⟩ := r2.one
  obtain ⟨t, rfl⟩ := r3.int_inv
  have S2 := S1.keep g2
  refine call_range_1 ?_
  refine wpAny_pyIter_range (IsRange.new _ _ _ _ _ _ _) (small_one (by decide) (by decide) (by omega) (by omega)) ?_
  have g3 : Gone s₂ { s₂ with heap := (s₂.heap.push { cls := .type "range", data := .fields #[.int 0 s₂.toks, .int k t, .int 1 (s₂.toks + 1)] }).push { cls := .type "range_iterator", data := .fields #[rawInt 0, rawInt (Builtin.Range.rangeSize 0 k 1), rawInt 1] }, toks := s₂.toks + 1 + 1 } :=
    ⟨_, _, rfl, Nat.le_succ_of_le (Nat.le_succ _), (Keep.push _ _).trans (Keep.push _ _)⟩
  have hI2 : s₂.heap.get? (s₂.heap.push { cls := .type "range", data := .fields #[.int 0 s₂.toks, .int k t, .int 1 (s₂.toks + 1)] }).objs.size = Option.none := get?_ge (by rw [Heap.size_push]; exact Nat.le_succ _)
  have hsz : Builtin.Range.rangeSize 0 k 1 = k := by rw [rangeSize_one]; split <;> omega
  refine kk _ _ ((g1.trans g2).trans g3) (gone_none (g1.trans g2) hI2) ⟨_, Heap.get?_push_size _ rfl⟩ fun Z hZ hZI => ?_
  refine ⟨fun i s' => IsRangeIter s'.heap (s₂.heap.push { cls := .type "range", data := .fields #[.int 0 s₂.toks, .int k t, .int 1 (s₂.toks + 1)] }).objs.size i ((k : Int) - i) 1, fun A' hh => ⟨hZI, ?_, ?_, ?_, ?_, ?_, ?_⟩, ?_⟩
  · intro i s₃ s₄ h g
    exact g.ext _ _ hZI h
  · rintro i d s₃ Q' E' hd h h0 hk'
    have hi : i < k := by
      have := (List.getElem?_eq_some_iff.mp hd).1
      simpa using this
    have hd' : d = .int i := by
      rw [List.getElem?_map, List.getElem?_range hi] at hd
      exact (Option.some.inj hd).symm
    subst hd'
    refine wpAny_pyNext_range_item h (by omega) fun h' hit hsb => ?_
    refine hk' _ _ (went_of_sameBut (Nat.le_succ _) hsb rfl) ?_ (.int _ _)
    have e1 : ((i + 1 : Nat) : Int) = (i : Int) + 1 := by push_cast; rfl
    have e2 : (k : Int) - ((i + 1 : Nat) : Int) = (k : Int) - i - 1 := by push_cast; omega
    rw [e1, show (k : Int) - ((i : Int) + 1) = (k : Int) - i - 1 by omega]; exact hit
  · intro i s₃ h
    exact ⟨_, _, h, rfl⟩
  · rintro s₃ Q' E' h hk'
    rw [List.length_map, List.length_range] at h
    exact wpAny_pyNext_range_end hh h (by omega) fun h' he => hk' _ (went_of_extBut (t := s₃.toks) (Nat.le_refl _) he rfl)
  · rintro i s₃ Q' E' h hk'
    exact wpAny_pyIter_rangeiter h hk'
  · rintro i s₃ tg v' Q' E' h hk'
    exact quiet_of h rfl rfl (by decide) hk'
  · show IsRangeIter _ _ ((0 : Nat) : Int) ((k : Int) - ((0 : Nat) : Int)) 1
    rw [show (k : Int) - ((0 : Nat) : Int) = k by simp]
    rw [hsz]
    exact Heap.get?_push_size _ rfl
end
end Mine

set_option maxHeartbeats 1000000
namespace Mine
open PySem PySem.W PyProof.Rows PySem.Calls

section
variable {prog : Program} {w : World} {hB : Bs} {n : Nat} {K : Frag} {env : Env} {ρ ρc : List (Str × D)} {μ μ' : List (Str × Ow)} {X Y M : Addr → Prop} {B Bc : List Str} {scope : Scope} {Q : Po}

/-- C.name of a class of the text's, a value -/
theorem Ev.clsAttr {o : PySem.Expr} {name : Str} {pos : Pos} {C : Addr} {mc v : Value} {d : D} (W : Wd hB K) (ho : Ev prog w hB n env ρ o (.val (.ref C))) (hr : readsIn K C mc = true) (e : findCls K (.ref C) mc name = some (.val v)) (hh : handedIn v = true)
    (hd : ∀ X s, Rd prog w X s v d) (hbase : attributeBase o name env (eval o env) = eval o env := by rfl) : Ev prog w hB n env ρ (.Attribute o name pos) d := by
  intro A X s E hr' S
  rw [arm_eval_Attribute, hbase]
  refine wpAny_bind (wpAny_mono (ho A X s E hr' S) (fun u s₁ h₁ => ?_) fun _ _ e => e)
  obtain ⟨g, r⟩ := h₁
  cases r
  refine wpAny_bind (wpAny_standAt (wpAny_bind (wpAny_holding (cls_value (W.X.keeps (S.keep g).sit.base) hr e hh ?_))))
  exact wpAny_bind (wpAny_letTemporaryGo (wpAny_pure ⟨g.trans (Gone.tok _ _ (Nat.le_succ _)), hd _ _⟩))
/-- x = y = z = e -/
theorem Ex1.assign3 {x y z : Str} {p1 p2 p3 pos : Pos} {e : PySem.Expr} {d : D} (he : Ev prog w hB n env ρ e d) (hx : x ∈ B) (hy : y ∈ B) (hz : z ∈ B) (hd : Atom d) (hq : Q .next ((z, d) :: (y, d) :: (x, d) :: ρ) (dropO z (dropO y (dropO x μ))))
    (hs : swappedStores [.Name x p1, .Name y p2, .Name z p3] e env = pure Option.none := by rfl) : Ex1 prog w hB n B env ρ μ (.Assign [.Name x p1, .Name y p2, .Name z p3] e pos) Q := by
  intro A Y M s E hr S
  refine wpAny_Assign_three (wpAny_mono (he A _ s E hr S.ok) (fun v s₁ h₁ => ?_) fun _ _ e => e) rfl hs
  obtain ⟨g, r⟩ := h₁
  refine wpAny_assign_Name ((S.keep g).bind r hx fun s₂ g₂ S₂ => ?_)
  have r₂ : Rd prog w (YM Y M) s₂ v d := r.went (g₂.on fun _ q => .inl (.inr q))
  refine wpAny_assign_Name (S₂.bind r₂ hy fun s₃ g₃ S₃ => ?_)
  have r₃ : Rd prog w (YM Y M) s₃ v d := r₂.went (g₃.on fun _ q => .inl (.inr q))
  refine wpAny_assign_Name (S₃.bind r₃ hz fun s₄ g₄ S₄ => ?_)
  exact ⟨((g.went.trans g₂).trans g₃).trans g₄, .next, M, _, _, trivial, Sub.refl _ _, S₄, hq⟩

/-- x, y = (e, f), the stores exchanged -/
theorem Ex1.assignPairSwap {x y : Str} {e : PySem.Expr} {elts : List PySem.Expr} {k : Nat} {tpos pos : Pos} {a b : D} (he : Ev prog w hB n env ρ e (.tuple [a, b])) (hx : x ∈ B) (hy : y ∈ B) (hkx : env.kindOf x = some .local) (hky : env.kindOf y = some .local)
    (hq : Q .next ((x, a) :: (y, b) :: ρ) (dropO x (dropO y μ))) (hs : swapsWithSole [.Tuple elts k tpos] e pos.line env = pure false := by rfl)
    (hw : swappedStores [.Tuple elts k tpos] e env = pure (some [x, y]) := by rfl) : Ex1 prog w hB n B env ρ μ (.Assign [.Tuple elts k tpos] e pos) Q := by
  intro A Y M s E hr S
  refine Assign_Tuple_swapped (names := [x, y]) (wpAny_mono (he A _ s E hr S.ok) (fun v s₁ h₁ => ?_) fun _ _ e => e) hs hw
  obtain ⟨g, r⟩ := h₁
  obtain ⟨t, vs, k', rfl, hx', ho, rl⟩ := r.tuple_inv
  have S₁ := S.keep g
  have h2 : vs.toArray.size = 2 := by simpa using rl.1
  obtain ⟨u, v, rfl, r1, r2⟩ := rl.two
  refine unpackItems_tuple (items := [u, v].toArray) hr.1 ⟨_, ho, rfl, k', rfl⟩ fun h' he' => ?_
  have g' : Gone s₁ { s₁ with heap := h' } := Gone.extBut he'
  show wpAny _ _ (assignInOrder [bindName env y, bindName env x] [v, u]) _ _ _
  refine wpAny_bind (wpAny_holding (wpAny_bindName ((S₁.keep g').bind (r2.keep g') hy fun s₂ g₂ S₂ => ?_)))
  refine wpAny_bind (wpAny_holding (wpAny_bindName (S₂.bind ((r1.keep g').went (g₂.on fun _ q => .inl (.inr q))) hx fun s₃ g₃ S₃ => ?_)))
  exact wpAny_pure ⟨(((g.trans g').went).trans g₂).trans g₃, .next, M, _, _, trivial, Sub.refl _ _, S₃, hq⟩

/-- x, y = e -/
theorem Ex1.assignPair {x y : Str} {e : PySem.Expr} {p1 p2 tpos pos : Pos} {k} {a b : D} (he : EvM prog w hB n B env ρ μ e (.tuple [a, b])) (hx : x ∈ B) (hy : y ∈ B)
    (hq : Q .next ((y, b) :: (x, a) :: ρ) (dropO y (dropO x μ))) (hs : swapsWithSole [.Tuple [.Name x p1, .Name y p2] k tpos] e pos.line env = pure false := by rfl)
    (hw : swappedStores [.Tuple [.Name x p1, .Name y p2] k tpos] e env = pure Option.none := by rfl) : Ex1 prog w hB n B env ρ μ (.Assign [.Tuple [.Name x p1, .Name y p2] k tpos] e pos) Q := by
  intro A Y M s E hr S
  refine PyProof.Rows.Assign_Tuple (wpAny_mono (he A Y M s E hr S) (fun v s₁ h₁ => ?_) fun _ _ e => e) hs hw
  obtain ⟨g, r⟩ := h₁
  refine (S.keep g).assign (tg := .Tuple [.Name x p1, .Name y p2] k tpos) hr.1 .pair (In1 hx (In1 hy In0)) r fun s₂ g₂ S₂ => ?_
  exact ⟨g.went.trans g₂, .next, M, _, _, trivial, Sub.refl _ _, S₂, hq⟩

/-- an expression for its own sake -/
theorem Ex1.expr {e : PySem.Expr} {pos : Pos} {d : D} (he : Ev prog w hB n env ρ e d) (hq : Q .next ρ μ) (hi : interactive env = false := by rfl) (hs : swapsWith e Option.none pos.line env = pure false := by rfl) : Ex1 prog w hB n B env ρ μ (.Expr e pos) Q := by
  intro A Y M s E hr S
  refine wpAny_Expr_any (wpAny_mono (he A _ s E hr S.ok) (fun v s₁ h₁ => ?_) fun _ _ e => e) hi hs
  exact ⟨h₁.1.went, .next, M, _, _, trivial, Sub.refl _ _, S.keep h₁.1, hq⟩
end
end Mine

set_option maxHeartbeats 1000000
namespace Mine
open PySem PySem.W PyProof.Rows PySem.Calls

section
variable {prog : Program} {w : World} {hB : Bs} {n : Nat} {K : Frag} {env : Env} {ρ ρc : List (Str × D)} {μ μ' : List (Str × Ow)} {X Y M : Addr → Prop} {B Bc : List Str} {scope : Scope} {Q : Po}

theorem ForR.mono {tg : PySem.Expr} {body : List Stmt} {Q Q' : Po} (h : ∀ fl ρ μ, Q' fl ρ μ → Q fl ρ μ) : ∀ {its : List D} {ρ : List (Str × D)} {μ : List (Str × Ow)}, ForR prog w hB n B env tg body Q' its ρ μ → ForR prog w hB n B env tg body Q its ρ μ
  | [], ρ, μ, hf => h _ _ _ hf
  | it :: its, ρ, μ, hf => by
    obtain ⟨bs, h1, h2, h3⟩ := hf
    refine ⟨bs, h1, h2, Ex.mono h3 fun fl ρ' μ' q => ?_⟩
    cases fl with
    | next => exact ForR.mono h q
    | cont => exact ForR.mono h q
    | brk => exact h _ _ _ q
    | ret d => exact h _ _ _ q
/-- a loop that ends of itself or by break, and what comes behind -/
theorem ForR.go {tg : PySem.Expr} {body : List Stmt} {Q : Po} {K : List (Str × D) → List (Str × Ow) → Prop} {its : List D} (P : List (Str × D) → List (Str × Ow) → Prop) (h : ForR prog w hB n B env tg body (fun fl ρ μ => fl = .next ∧ P ρ μ) its ρ μ)
    (hk : ∀ ρ μ, P ρ μ → K ρ μ) : ForR prog w hB n B env tg body (andThen K Q) its ρ μ :=
  ForR.mono (fun fl ρ μ q => by obtain ⟨rfl, q⟩ := q; exact hk ρ μ q) h

theorem GivL.len_tuple {ds : List D} (hsz : ds.length ≤ sizeLine) : GivL prog w hB n (fun vs => PySem.call (.builtin "len") vs) [.tuple ds] (.int ds.length) := by
  intro A X s E vs hr S r
  obtain ⟨v, rfl, r0⟩ := r.one
  obtain ⟨a, vs, k, rfl, hx, ho, rl⟩ := r0.tuple_inv
  refine PyProof.Rows.len_tuple (items := vs.toArray) ⟨_, ho, rfl, _, rfl⟩ ?_ ?_
  · rw [List.size_toArray, rl.1]; rw [sizeLine_eq] at hsz; omega
  · refine ⟨Gone.tok _ _ (Nat.le_succ_of_le (Nat.le_succ _)), ?_⟩
    rw [List.size_toArray, rl.1]; exact .int _ _

theorem fold_one (v : Value) : ∀ k : Nat, ∀ a : List Value, List.foldl (fun x1 x2 => x1 ++ x2) a.toArray (List.replicate k #[v]) = (a ++ List.replicate k v).toArray
  | 0, a => by simp
  | k + 1, a => by
    have e : a.toArray ++ #[v] = (a ++ [v]).toArray := by simp
    rw [List.replicate_succ, List.foldl_cons, e, fold_one v k]
    simp [List.replicate_succ]
/-- [0] * k, of ints -/
theorem Giv2.mul_list {i : Int} {k : Int} (h0 : 0 ≤ k) (hk : k ≤ 1000) : Giv2 prog w hB n (binaryOp .Mult) (.list [.int i]) (.int k) (.list (List.replicate k.toNat (.int i))) := by
  intro A X s E v u hr S r₁ r₂
  obtain ⟨l, vs, c, rfl, hx, ho, rl⟩ := r₁.list_inv
  obtain ⟨t', rfl⟩ := r₂.int_inv
  obtain ⟨v, rfl, r3⟩ := rl.one
  obtain ⟨t, rfl⟩ := r3.int_inv
  have hT : s.TypeIs (.ref l) "list" := ⟨_, ho, rfl⟩
  have hsz : Builtin.List.listTooLong (([Value.int i t].toArray).size * k.toNat) = false := by
    unfold Builtin.List.listTooLong
    rw [sizeLine_eq]
    exact decide_eq_false (by simp; omega)
  refine wpAny_binaryOp_repeat_ref (T := "list") (U := "int") (by decide) hT (fun s' => typeIs_int s' k t') noFill_list_mul PySem.F.fills_int_mul PySem.F.slot_int_rmul repeat_list PySem.F.slot_int_index.lookup
    (call_meets PySem.F.slot_int_rmul (typeIs_int s k t') PySem.F.entry_int_rmul (PySem.F.args_int_rmul_2 _ _) (int___rmul___int_list k t' l [Value.int i t].toArray c)
      ⟨ho, rfl, hT, call_meets PySem.F.slot_list_mul hT PySem.F.entry_list_mul (PySem.F.args_list_mul_2 _ _)
        (AutoListH.list___mul___list_int_3 l [Value.int i t].toArray c k t' (by simp [Builtin.List.listFitsIndex]; omega) (by simp; omega) (by rw [hsz]; decide)) ⟨ho, ?_⟩⟩)
  have e : List.foldl (fun x1 x2 => x1 ++ x2) #[] (List.replicate (if ([Value.int i t].toArray).isEmpty = true then 0 else k.toNat) [Value.int i t].toArray) = (List.replicate k.toNat (Value.int i t)).toArray := by
    have := fold_one (Value.int i t) k.toNat []
    simpa using this
  rw [e]
  refine ⟨Gone.push _ _, Rd.mkList S.fresh (Heap.get?_push_size _ rfl) ⟨by simp, fun j u d e1 e2 => ?_⟩⟩
  rw [List.getElem?_replicate] at e1 e2
  split at e1
  · rename_i q
    rw [if_pos q] at e2
    cases e1; cases e2; exact .int _ _
  · cases e1
end
end Mine

set_option maxHeartbeats 1000000
namespace Mine
open PySem PySem.W PyProof.Rows PySem.Calls

namespace Re
theorem plainPat : PlainAttrs "re.Pattern" := ⟨⟨"object.__getattribute__", by rw [typeLookup_type, builtinLookup_eq_fast]; kernel_rfl, by decide +kernel⟩, by rw [typeLookup_type, builtinLookup_eq_fast]; kernel_rfl⟩
theorem plainMatch : PlainAttrs "re.Match" := ⟨⟨"object.__getattribute__", by rw [typeLookup_type, builtinLookup_eq_fast]; kernel_rfl, by decide +kernel⟩, by rw [typeLookup_type, builtinLookup_eq_fast]; kernel_rfl⟩
theorem slotSearch : Slot "re.Pattern" "search" "re.Pattern.search" :=
  .of (owner := "re.Pattern") (n := "search") (by rw [typeLookup_type, builtinLookup_eq_fast]; kernel_rfl) (by decide +kernel) (by decide +kernel) (by decide +kernel)
    (by first | exact .inl (by decide +kernel) | exact .inr (by decide +kernel)) (by rw [isSubtype_type]; kernel_rfl)
theorem slotMatch : Slot "re.Pattern" "match" "re.Pattern.match" :=
  .of (owner := "re.Pattern") (n := "match") (by rw [typeLookup_type, builtinLookup_eq_fast]; kernel_rfl) (by decide +kernel) (by decide +kernel) (by decide +kernel)
    (by first | exact .inl (by decide +kernel) | exact .inr (by decide +kernel)) (by rw [isSubtype_type]; kernel_rfl)
theorem slotGroup : Slot "re.Match" "group" "re.Match.group" :=
  .of (owner := "re.Match") (n := "group") (by rw [typeLookup_type, builtinLookup_eq_fast]; kernel_rfl) (by decide +kernel) (by decide +kernel) (by decide +kernel)
    (by first | exact .inl (by decide +kernel) | exact .inr (by decide +kernel)) (by rw [isSubtype_type]; kernel_rfl)
theorem typeSearch : typeOf (.builtin "re.Pattern.search") = pure (.type "method_descriptor") := by show builtinType _ = _; rw [builtinType_eq_fast]; kernel_rfl
theorem typeMatch : typeOf (.builtin "re.Pattern.match") = pure (.type "method_descriptor") := by show builtinType _ = _; rw [builtinType_eq_fast]; kernel_rfl
theorem typeGroup : typeOf (.builtin "re.Match.group") = pure (.type "method_descriptor") := by show builtinType _ = _; rw [builtinType_eq_fast]; kernel_rfl
theorem entrySearch : entryFor table "re.Pattern.search" = some Builtin.«re.Pattern.search» := entryFor_of_tree (by kernel_rfl)
theorem entryMatch : entryFor table "re.Pattern.match" = some Builtin.«re.Pattern.match» := entryFor_of_tree (by kernel_rfl)
theorem entryGroup : entryFor table "re.Match.group" = some Builtin.«re.Match.group» := entryFor_of_tree (by kernel_rfl)
theorem argsSearch (a b : Value) : argsOk "re.Pattern.search" ⟨[a, b], []⟩ := by unfold argsOk; kernel_rfl
theorem argsMatch (a b : Value) : argsOk "re.Pattern.match" ⟨[a, b], []⟩ := by unfold argsOk; kernel_rfl
theorem argsGroup (a b : Value) : argsOk "re.Match.group" ⟨[a, b], []⟩ := by unfold argsOk; kernel_rfl
end Re

section
variable {prog : Program} {w : World} {hB : Bs} {n : Nat} {K : Frag} {env : Env} {ρ ρc : List (Str × D)} {μ μ' : List (Str × Ow)} {X Y M : Addr → Prop} {B Bc : List Str} {scope : Scope} {Q : Po}

/-- of what built-in type, and without a dict of its own -/
structure HasM (prog : Program) (w : World) (hB : Bs) (d : D) (T : String) : Prop where
  go : ∀ (X : Addr → Prop) (s : Shared) (v : Value), Sit hB X s → Rd prog w X s v d → s.TypeIs v T ∧ ∀ a, v = .ref a → ∃ ob, s.heap.get? a = some ob ∧ ob.dict = Option.none
theorem HasM.strs {d : D} {x : S} (h : IsS d x) : HasM prog w hB d "str" := ⟨fun X s v S r => by
  obtain ⟨t, rfl⟩ := h.rd r
  exact ⟨typeIs_str _ _ _, fun a e => nomatch e⟩⟩
theorem HasM.bytes {b : Array UInt8} : HasM prog w hB (.bytes b) "bytes" := ⟨fun X s v S r => by
  cases r
  exact ⟨typeIs_bytes _ _ _, fun a e => nomatch e⟩⟩
theorem HasM.obj {a : Addr} {o : Obj} {T : String} (W : Wd hB K) (ho : K.lookup a = some o) (hc : o.cls = .type T) (hd : o.dict = Option.none) : HasM prog w hB (.val (.ref a)) T := ⟨fun X s v S r => by
  cases r
  have e := S.base _ _ (W.X _ _ ho)
  exact ⟨⟨_, e, hc⟩, fun b q => by cases q; exact ⟨_, e, hd⟩⟩⟩

/-- o.name(e, ..) of a built-in type -/
theorem Ev.methodB {o e : PySem.Expr} {es : List PySem.Expr} {name : Str} {apos pos : Pos} {a d : D} {ds : List D} {T id : String} (pa : PlainAttrs T) (slot : Slot T name id) (hty : typeOf (.builtin id) = pure (.type "method_descriptor"))
    (ho : Ev prog w hB n env ρ o a) (hT : HasM prog w hB a T) (hes : EvL prog w hB n env ρ pos (e :: es) ds) (hg : GivL prog w hB n (fun vs => PySem.call (.builtin id) vs) (a :: ds) d)
    (hbase : attributeBase o name env (eval o env) = eval o env := by rfl)
    (hfew : ((backTo pos (starEach (e :: es) env)).all (fun x => !x.1) && (backToKw pos (keywordEach [] env)).all (fun x => x.1.isSome)
      && decide ((e :: es).length + ([] : List Keyword).length + (if ([] : List Keyword).isEmpty then 0 else 1) < 30)) = true := by rfl)
    (hline : (apos.endLine == pos.line) = true := by rfl) (he : backTo pos (starEach (e :: es) env) = (false, eval e env) :: backTo pos (starEach es env) := by rfl) (hplain : (backTo pos (starEach (e :: es) env)).any (·.1) = false := by rfl) :
    Ev prog w hB n env ρ (.Call (.Attribute o name apos) (e :: es) [] pos) d := by
  intro A X s E hr S
  refine wpAny_Call_method hbase hfew hline pa slot hty (wpAny_mono (ho A X s E hr S) (fun v s₁ h₁ => ?_) fun _ _ e => e)
  obtain ⟨g, r⟩ := h₁
  have S1 := S.keep g
  obtain ⟨h1, h2⟩ := hT.go X s₁ v S1.sit r
  refine ⟨h1, h2, callWith_builtin hplain ?_⟩
  have hh := hes A X s₁ E hr S1
  rw [he] at hh ⊢
  refine evalArgs_plain (wpAny_mono hh (fun vs s₂ h₃ => ?_) fun _ _ e => e)
  obtain ⟨g2, r2⟩ := h₃
  exact wpAny_mono (hg A X s₂ E (v :: vs) hr (S1.keep g2).sit (RdL.cons (r.keep g2) r2)) (fun u s₃ h₄ => ⟨(g.trans g2).trans h₄.1, h₄.2⟩) fun _ _ e => e
theorem Ev.methodB0 {o : PySem.Expr} {name : Str} {apos pos : Pos} {a d : D} {T id : String} (pa : PlainAttrs T) (slot : Slot T name id) (hty : typeOf (.builtin id) = pure (.type "method_descriptor"))
    (ho : Ev prog w hB n env ρ o a) (hT : HasM prog w hB a T) (hg : GivL prog w hB n (fun vs => PySem.call (.builtin id) vs) [a] d)
    (hbase : attributeBase o name env (eval o env) = eval o env := by rfl)
    (hfew : ((backTo pos (starEach [] env)).all (fun x => !x.1) && (backToKw pos (keywordEach [] env)).all (fun x => x.1.isSome)
      && decide (([] : List PySem.Expr).length + ([] : List Keyword).length + (if ([] : List Keyword).isEmpty then 0 else 1) < 30)) = true := by rfl)
    (hline : (apos.endLine == pos.line) = true := by rfl) : Ev prog w hB n env ρ (.Call (.Attribute o name apos) [] [] pos) d := by
  intro A X s E hr S
  refine wpAny_Call_method hbase hfew hline pa slot hty (wpAny_mono (ho A X s E hr S) (fun v s₁ h₁ => ?_) fun _ _ e => e)
  obtain ⟨g, r⟩ := h₁
  have S1 := S.keep g
  obtain ⟨h1, h2⟩ := hT.go X s₁ v S1.sit r
  refine ⟨h1, h2, callWith_builtin rfl (evalArgs_nil3 ?_)⟩
  exact wpAny_mono (hg A X s₁ E [v] hr S1.sit (RdL.cons r RdL.nil)) (fun u s₃ h₄ => ⟨g.trans h₄.1, h₄.2⟩) fun _ _ e => e
end
end Mine

set_option maxHeartbeats 1000000
namespace Mine
open PySem PySem.W PyProof.Rows PySem.Calls PySem.Builtin.Re

namespace Re
open PySem.Sre
/-- the turns of a drive -/
def drive : Nat → Sre.M → Sre.M
  | 0, m => m.runFor 4
  | k + 1, m => if (m.runFor 4).outcome.isSome then m.runFor 4 else drive k (m.runFor 4)

section
variable {M : Model} {A : Around} {E : Value → Shared → Prop} {s : Shared}
theorem wp_drive : ∀ {k turns : Nat} {m : Sre.M} {Q : Sre.M → Shared → Prop}, k < turns → (drive k m).outcome.isSome = true → Q (drive k m) s → wpAny M A (reDrive turns m) Q E s
  | k, 0, m, Q, h, _, _ => absurd h (Nat.not_lt_zero _)
  | 0, t + 1, m, Q, _, h, q => by
    show wpAny M A (if (m.runFor 4).outcome.isSome then pure (m.runFor 4) else _) Q E s
    have h' : (m.runFor 4).outcome.isSome = true := h
    rw [if_pos h']
    exact wpAny_pure q
  | k + 1, t + 1, m, Q, hk, h, q => by
    show wpAny M A (if (m.runFor 4).outcome.isSome then pure (m.runFor 4) else (do rule "sre.turn"; reDrive t (m.runFor 4))) Q E s
    unfold drive at h q
    by_cases c : (m.runFor 4).outcome.isSome = true
    · rw [if_pos c] at h q ⊢
      exact wpAny_pure q
    · rw [if_neg c] at h q ⊢
      exact wpAny_bind (wpAny_rule (wp_drive (Nat.lt_of_succ_lt_succ hk) h q))

theorem wp_runToEnd {k : Nat} {m m' : Sre.M} {Q : Option Sre.M → Shared → Prop} (hk : k < 2 ^ 64) (e : drive k m = m') (h : (m'.outcome = some .failed ∧ Q Option.none s) ∨ (m'.outcome = some .matched ∧ Q (some m') s)) : wpAny M A (reRunToEnd m) Q E s := by
  unfold reRunToEnd
  refine wpAny_bind (wp_drive hk (by rw [e]; rcases h with h | h <;> rw [h.1] <;> rfl) ?_)
  rw [e]
  refine wpAny_bind (wpAny_forIn_list _ (fun _ _ s' => s' = s) _ (fun x rest b s' hI => ?_) (fun b s' hI => ?_) _ _ rfl)
  · subst hI
    by_cases c : m'.seen.has x = true
    · rw [if_pos c]; exact wpAny_bind (wpAny_rule (wpAny_pure rfl))
    · rw [if_neg c]; exact wpAny_pure rfl
  · subst hI
    rcases h with ⟨h, q⟩ | ⟨h, q⟩
    · rw [h]; exact wpAny_pure q
    · rw [h]; exact wpAny_pure q

end

theorem run_said {m : Sre.M} (h1 : m.answer = some false) (h2 : m.frames = []) (h3 : m.outcome = Option.none) : (drive 0 m).outcome = some .failed := by
  have e : m.step = { m with outcome := some .failed } := by
    unfold Sre.M.step
    rw [h3, h1, h2]
    rfl
  show (m.runFor 4).outcome = _
  unfold Sre.M.runFor
  rw [h3, e]
  rfl

theorem admitted_none {m : Sre.M} (h : ∀ c ∈ m.text.toList, ∀ seen, ∃ seen', inSet m.code c m.code.size 5 true seen = .ok (false, seen')) (hl : m.lim ≤ m.text.size) :
    ∀ (fuel s : Nat) (seen : Sre.Seen), ∃ seen', Sre.M.admitted m fuel s seen = .ok (Option.none, seen')
  | 0, s, seen => ⟨seen, rfl⟩
  | fuel + 1, s, seen => by
    unfold Sre.M.admitted
    by_cases c : s ≥ m.lim
    · rw [if_pos c]; exact ⟨seen, rfl⟩
    · rw [if_neg c]
      have hs : s < m.text.size := by omega
      have e : m.text.getD s 0 = m.text[s] := by simp [Array.getD, hs]
      obtain ⟨seen', h'⟩ := h m.text[s] (by simp) seen
      rw [e, h']
      exact admitted_none h hl fuel (s + 1) seen'

theorem attempt_none {m : Sre.M} (hf : m.hasFirstSet = true) (h : ∀ c ∈ m.text.toList, ∀ seen, ∃ seen', inSet m.code c m.code.size 5 true seen = .ok (false, seen')) (hl : m.lim ≤ m.text.size)
    (h2 : m.frames = []) (h3 : m.outcome = Option.none) (s : Nat) : (drive 0 (m.attemptFrom s true)).outcome = some .failed := by
  obtain ⟨seen', e⟩ := admitted_none h hl (m.lim + 1 - s) s m.seen
  unfold Sre.M.attemptFrom
  rw [hf, e]
  exact run_said rfl h2 h3

theorem search_none {code text : Array Nat} {g : Nat} (hf : ∀ m : Sre.M, m.code = code → m.hasFirstSet = true) (h : ∀ c ∈ text.toList, ∀ seen, ∃ seen', inSet code c code.size 5 true seen = .ok (false, seen')) :
    (drive 0 (Sre.forSearch code text g 0 text.size false)).outcome = some .failed := by
  have key : ∀ m0 : Sre.M, m0.code = code → m0.text = text → m0.lim = text.size → m0.frames = [] → m0.outcome = Option.none → ∀ (b : Bool) (l : Nat),
      (drive 0 (if b then m0.say false else { m0 with lastStart := l }.attemptFrom 0 true)).outcome = some .failed := by
    intro m0 e1 e2 e3 e4 e5 b l
    cases b with
    | true => exact run_said rfl e4 e5
    | false => exact attempt_none (m := { m0 with lastStart := l }) (hf _ e1) (by show ∀ c ∈ m0.text.toList, ∀ seen, ∃ seen', inSet m0.code c m0.code.size 5 true seen = .ok (false, seen'); rw [e1, e2]; exact h) (by show m0.lim ≤ m0.text.size; rw [e2, e3]; exact Nat.le_refl _) e4 e5 0
  unfold Sre.forSearch
  dsimp only
  by_cases c : (decide (0 > text.size) || decide (text.size - 0 < (header code).1)) = true
  · rw [if_pos c]; exact key _ rfl rfl rfl rfl rfl true 0
  · rw [if_neg c]; exact key _ rfl rfl rfl rfl rfl false _
end Re
end Mine

set_option maxHeartbeats 1000000
namespace Mine
open PySem PySem.W PyProof.Rows PySem.Calls PySem.Builtin.Re

namespace Re
theorem named (id f : String) (v : Value) : reNamed id f ["string", "pos", "endpos"] 1 [v] [] = pure [some v, Option.none, Option.none] := by rfl

section
variable {prog : Program} {w : World} {hB : Bs} {n : Nat} {K : Frag}

theorem wp_rawItems {M : Model} {A : Around} {E : Value → Shared → Prop} {s : Shared} {C : Addr} {o : Obj} {items : Array Value} {k : Nat} {Q : Array Int → Shared → Prop} (ho : s.heap.get? C = some o) (hd : o.data = .seq items k) (h : Q (items.map reRawOf) s) :
    wpAny M A (reRawItems (.ref C)) Q E s := by
  unfold reRawItems
  exact wpAny_bind (wpAny_seqItems ho hd (wpAny_pure h))

theorem GivL.search {P C : Addr} {o oc : Obj} {fs items : Array Value} {k t6 : Nat} {code : Array Nat} {d : D} {x : S} (W : Wd hB K) (ho : K.lookup P = some o) (hc : o.cls = .type "re.Pattern") (hf : o.data = .fields fs) (h6 : fs.getD 6 .none = .int 0 t6) (h5 : fs.getD 5 .none = .ref C)
    (hC : K.lookup C = some oc) (hCd : oc.data = .seq items k) (hcode : (items.map reRawOf).map (·.toNat) = code) (hd : IsS d x) (hx : x.length ≤ 1000)
    (hfs : ∀ m : Sre.M, m.code = code → m.hasFirstSet = true) (h : ∀ c ∈ x, ∀ seen, ∃ seen', Sre.inSet code c code.size 5 true seen = .ok (false, seen')) :
    GivL prog w hB n (fun vs => PySem.call (.builtin "re.Pattern.search") vs) [.val (.ref P), d] .none := by
  intro A X s E vs hr S r
  obtain ⟨v, u, rfl, r1, r2⟩ := r.two
  cases r1
  obtain ⟨t, rfl⟩ := hd.rd r2
  have eP := S.base _ _ (W.X _ _ ho)
  have eC := S.base _ _ (W.X _ _ hC)
  refine wpAny_call_entry slotSearch ⟨_, eP, hc⟩ entrySearch ?_ (argsSearch _ _)
  unfold Builtin.«re.Pattern.search» reTarget
  dsimp only
  rw [named]
  refine wpAny_bind (wpAny_bind (wpAny_pure ?_))
  dsimp only
  refine wpAny_bind (wpAny_pure (wpAny_bind (wpAny_pure (wpAny_bind (wpAny_fieldsOf eP hf ?_)))))
  have et : reTextOf (.str (tx x) t) = pure ((tx x).cps, 0) := by rfl
  rw [et]
  refine wpAny_bind (wpAny_pure ?_)
  dsimp only
  rw [h6, h5]
  have c1 : (reRawNat (Value.int 0 t6) == 0 && (0 : Nat) == 1) = false := by rfl
  have c2 : (reRawNat (Value.int 0 t6) == 1 && (0 : Nat) == 0) = false := by rfl
  rw [c1, c2]
  simp only [Bool.false_eq_true, if_false]
  refine wpAny_bind (m := reNoCollectionInside (.str (tx x) t) 0) (wpAny_pure (wpAny_bind (wp_rawItems eC hCd (wpAny_pure ?_))))
  dsimp only
  rw [hcode]
  have hsz : (tx x).cps.size = x.length := by simp [tx]
  have hlim : min (2 ^ 63 - 1 : Int).toNat (tx x).cps.size = (tx x).cps.size := by
    rw [hsz]; exact Nat.min_eq_right (by have : (2 ^ 63 - 1 : Int).toNat = 9223372036854775807 := by decide
                                         rw [this]; omega)
  have hpos : min (Int.toNat 0) (tx x).cps.size = 0 := by simp
  rw [hlim, hpos]
  unfold reAnswer
  refine wpAny_bind (wp_runToEnd (k := 0) (by decide) rfl (.inl ⟨search_none hfs (by rw [tx_toList]; exact h), ?_⟩))
  exact wpAny_pure ⟨.none, rfl, Gone.refl _, .none⟩
end
end Re
end Mine

set_option maxHeartbeats 1000000
namespace Mine
open PySem PySem.W PyProof.Rows PySem.Calls
section
variable {prog : Program} {w : World} {hB : Bs} {n : Nat} {K : Frag} {env : Env} {ρ ρc : List (Str × D)} {μ μ' : List (Str × Ow)} {X Y M : Addr → Prop} {B Bc : List Str} {scope : Scope} {Q : Po}

theorem mem_keys {α : Type} {x : Str} : ∀ {r : List (Str × α)}, x ∈ r.map (·.1) → (r.lookup x).isSome = true
  | [], h => nomatch h
  | (y, d) :: r, h => by
    rw [List.lookup_cons]
    cases q : x == y with
    | true => rfl
    | false =>
      rcases List.mem_cons.mp h with h | h
      · subst h; simp at q
      · exact mem_keys h
theorem Caps.of {ks : List Str} (kind : scope.kind = .function) (nodup : (scope.names.map (·.1)).Nodup) (hks : ρc.map (·.1) = ks)
    (caps : ∀ p ∈ ρc, ρ.lookup p.1 = some p.2 ∧ scope.names.lookup p.1 = some .free ∧ env.kindOf p.1 ≠ some .local) (free : ∀ p ∈ scope.names, p.2 = .free → p.1 ∈ ks)
    (bd : ∀ x ∈ B, scope.names.lookup x = some .local ∨ scope.names.lookup x = some .cell) : Caps env ρ scope ρc B :=
  ⟨kind, nodup, caps, fun p hp hf => mem_keys (hks ▸ free p hp hf), bd⟩
theorem Cp0 : ∀ p ∈ ([] : List (Str × D)), ρ.lookup p.1 = some p.2 ∧ scope.names.lookup p.1 = some .free ∧ env.kindOf p.1 ≠ some .local := fun p h => nomatch h
theorem Cp1 {x : Str} {d : D} {r : List (Str × D)} (h1 : ρ.lookup x = some d) (h2 : scope.names.lookup x = some .free) (h3 : (env.kindOf x == some .local) = false)
    (hr : ∀ p ∈ r, ρ.lookup p.1 = some p.2 ∧ scope.names.lookup p.1 = some .free ∧ env.kindOf p.1 ≠ some .local) : ∀ p ∈ (x, d) :: r, ρ.lookup p.1 = some p.2 ∧ scope.names.lookup p.1 = some .free ∧ env.kindOf p.1 ≠ some .local := fun p hp => by
  rcases List.mem_cons.mp hp with rfl | hp
  · exact ⟨h1, h2, fun q => by rw [q] at h3; exact absurd h3 (by decide)⟩
  · exact hr p hp

end
end Mine

set_option maxHeartbeats 1000000
namespace Mine
open PySem PySem.W PyProof.Rows PySem.Calls
section
variable {prog : Program} {w : World} {hB : Bs} {n : Nat} {K : Frag} {env : Env} {ρ ρc : List (Str × D)} {μ μ' : List (Str × Ow)} {X Y M : Addr → Prop} {B Bc : List Str} {scope : Scope} {Q : Po}

/-- while t: body, over what holds between its turns -/
theorem Ex1.while {σ : Type} {t : PySem.Expr} {body : List Stmt} {pos : Pos} (r : σ → List (Str × D)) (m : σ → List (Str × Ow)) (J : Nat → σ → Prop) (k₀ : Nat) (st₀ : σ)
    (turn : ∀ k st, J k st → ∃ b, Tr prog w hB n env (r st) t b ∧ (b = true → Ex prog w hB n B env (r st) (m st) body fun fl ρ' μ' => match fl with
      | .next | .cont => ∃ k' st', k' < k ∧ J k' st' ∧ Has (r st') ρ' ∧ Has (m st') μ'
      | .brk => Q .next ρ' μ'
      | .ret d => Q (.ret d) ρ' μ') ∧ (b = false → Q .next (r st) (m st)))
    (h0 : J k₀ st₀) (hr : Has (r st₀) ρ) (hm : Has (m st₀) μ) : Ex1 prog w hB n B env ρ μ (.While t body [] pos) Q := by
  intro A Y X s E hrm S
  refine wpAny_While ?_
  have back : ∀ {s' f fl X'' ρ'' μ''}, Went X s s' → Sub X X'' s → FlIs prog w (YM Y X'') s' f fl → Sta prog w hB Y X'' B env ρ'' μ'' s' → Q fl ρ'' μ'' → Post hB B env prog w Y X Q s f s' :=
    fun h1 h2 h3 h4 h5 => ⟨h1, _, _, _, _, h3, h2, h4, h5⟩
  refine codeAny_whileLoop (fun k s' => ∃ st X', J k st ∧ Went X s s' ∧ Sub X X' s ∧ Sta prog w hB Y X' B env (r st) (m st) s') (fun k s₁ hI => ?_) k₀ ⟨st₀, X, h0, Went.refl _ _, Sub.refl _ _, S.weaken hr hm⟩
  obtain ⟨st, X', hJ, hw, hsub, S₁⟩ := hI
  obtain ⟨b, ht, h1, h2⟩ := turn k st hJ
  refine wpAny_mono (ht A _ s₁ _ hrm S₁.ok) (fun c s₂ h₂ => ?_) fun _ _ e => e
  obtain ⟨g, rfl⟩ := h₂
  have S₂ := S₁.keep g
  have hw2 := hw.trans (g.went (X := X))
  have hsub2 : Sub X X' s := hsub
  cases c with
  | true =>
    simp only [if_true]
    refine wpAny_mono (h1 rfl A Y X' s₂ _ hrm S₂) (fun f s₃ h₃ => ?_) fun _ _ e => e
    obtain ⟨g3, fl, X'', ρ'', μ'', q1, q2, q3, q4⟩ := h₃
    have hw3 : Went X s s₃ := hw2.step hsub2 g3
    have hsub3 : Sub X X'' s := fun a ha => (q2 a ha).elim (hsub a) fun e => none_back hw2 e
    cases f <;> cases fl <;> try exact q1.elim
    · obtain ⟨k', st', hk, hJ', ha, hb⟩ := q4
      exact ⟨k', hk, st', X'', hJ', hw3, hsub3, q3.weaken ha hb⟩
    · exact back (f := .next) (fl := .next) hw3 hsub3 trivial q3 q4
    · obtain ⟨k', st', hk, hJ', ha, hb⟩ := q4
      exact ⟨k', hk, st', X'', hJ', hw3, hsub3, q3.weaken ha hb⟩
    · exact back (f := .ret _) (fl := .ret _) hw3 hsub3 q1 q3 q4
  | false =>
    simp only [Bool.false_eq_true, if_false]
    exact wpAny_execs_nil (back (f := .next) (fl := .next) hw2 hsub2 trivial S₂ (h2 rfl))
theorem Ev.neg {e : PySem.Expr} {pos : Pos} {i : Int} (he : Ev prog w hB n env ρ e (.int i)) : Ev prog w hB n env ρ (.UnaryOp .USub e pos) (.int (-i)) := by
  intro A X s E hr S
  rw [arm_eval_UnaryOp]
  refine wpAny_bind (wpAny_mono (he A X s E hr S) (fun v s₁ h₁ => ?_) fun _ _ e => e)
  obtain ⟨g, r⟩ := h₁
  obtain ⟨t, rfl⟩ := r.int_inv
  exact wpAny_bind (wpAny_standAt (wpAny_holding (PyProof.Rows.neg_int ⟨g.trans (Gone.tok _ _ (Nat.le_succ _)), .int _ _⟩)))
end
end Mine

set_option maxHeartbeats 1000000
namespace Mine
open PySem PySem.W PyProof.Rows PySem.Calls
section
variable {prog : Program} {w : World} {hB : Bs} {n : Nat} {K : Frag} {env : Env} {ρ ρc : List (Str × D)} {μ μ' : List (Str × Ow)} {X Y M : Addr → Prop} {B Bc : List Str} {scope : Scope} {Q : Po}

theorem Wd.lift (W : Wd hB K) (N : Nat) : Wd ⟨hB.h, N⟩ K := ⟨W.X, W.g, W.b, W.nolimit, W.nb⟩
theorem Sit.rebase {s : Shared} {N : Nat} (h : Sit hB X s) (hN : N < s.toks) : Sit ⟨hB.h, N⟩ X s := ⟨h.base, h.live, h.off, hN⟩
theorem Sta.rebase {s : Shared} {N : Nat} (S : Sta prog w hB Y M B env ρ μ s) (hN : N < s.toks) : Sta prog w ⟨hB.h, N⟩ Y M B env ρ μ s := ⟨⟨S.ok.sit.rebase hN, S.ok.apart, S.ok.names⟩, S.frm, S.own⟩
theorem Sta.unbase {s : Shared} {N : Nat} (S : Sta prog w ⟨hB.h, N⟩ Y M B env ρ μ s) (hN : hB.lo ≤ N) : Sta prog w hB Y M B env ρ μ s := ⟨⟨⟨S.ok.sit.base, S.ok.sit.live, S.ok.sit.off, Nat.lt_of_le_of_lt hN S.ok.sit.tlo⟩, S.ok.apart, S.ok.names⟩, S.frm, S.own⟩

theorem RdL.olds {s : Shared} : ∀ {vs : List Value} {ls : List S}, RdL prog w X s vs (ls.map .own) → RdL prog w X s vs (ls.map (.old s.toks))
  | vs, [], r => r
  | vs, x :: ls, r => by
    obtain ⟨v, vs', rfl, r1, r2⟩ := r.cons_inv
    refine RdL.cons ?_ r2.olds
    cases r1 with
    | own x t h0 h1 => exact .old x t _ h0 h1

/-- a statement, with the tokens drawn so far set apart -/
theorem Ex1.rebase {x : Str} {ls : List S} {st : Stmt} (hx : ρ.lookup x = some (.list (ls.map .own))) (h : ∀ N, Ex1 prog w ⟨hB.h, N⟩ n B env ((x, .list (ls.map (.old (N + 1)))) :: ρ) μ st Q) : Ex1 prog w hB n B env ρ μ st Q := by
  intro A Y M s E hr S
  have hlo := S.ok.sit.tlo
  obtain ⟨N, hN⟩ : ∃ N, s.toks = N + 1 := ⟨s.toks - 1, by omega⟩
  have S' : Sta prog w ⟨hB.h, N⟩ Y M B env ((x, .list (ls.map (.old (N + 1)))) :: ρ) μ s := by
    have S0 := S.rebase (N := N) (by omega)
    refine ⟨⟨S0.ok.sit, S0.ok.apart, fun y d e => ?_⟩, S0.frm, S0.own⟩
    rw [List.lookup_cons] at e
    cases q : y == x with
    | true =>
      rw [q] at e; cases e
      have : y = x := by simpa using q
      subst this
      obtain ⟨v, h1, h2⟩ := S.ok.names y _ hx
      obtain ⟨a, vs, k, rfl, hxa, ho, rl⟩ := h2.list_inv
      refine ⟨_, h1, Rd.mkList hxa ho ?_⟩
      have := rl.olds
      rwa [hN] at this
    | false => rw [q] at e; exact S0.ok.names y d e
  refine wpAny_mono (h N A Y M s E hr S') (fun f s' hp => ?_) fun _ _ e => e
  obtain ⟨g, fl, M', ρ', μ', h1, h2, h3, h4⟩ := hp
  exact ⟨g, fl, M', ρ', μ', h1, h2, h3.unbase (by omega), h4⟩

theorem Ev.plainY {e : PySem.Expr} {l : S} {lo : Nat} (h : Ev prog w hB n env ρ e (.young lo l)) : Ev prog w hB n env ρ e (.str l) :=
  fun A X s E hr hs => wpAny_mono (h A X s E hr hs) (fun v s' q => ⟨q.1, by cases q.2; exact .str _ _⟩) fun _ _ e => e
end
end Mine

set_option maxHeartbeats 1000000
namespace Mine
open PySem PySem.W PyProof.Rows PySem.Calls
section
variable {prog : Program} {w : World} {hB : Bs} {n : Nat} {K : Frag} {env : Env} {ρ ρc : List (Str × D)} {μ μ' : List (Str × Ow)} {X Y M : Addr → Prop} {B Bc : List Str} {scope : Scope} {Q : Po}

/-- range(a, a + k), in a loop -/
theorem Its.range2 {x : Str} {p : Pos} {e f : PySem.Expr} {pos : Pos} {a k : Nat} (hf : Ev prog w hB n env ρ (.Name x p) (.val (.type "range"))) (he : Ev prog w hB n env ρ e (.int a)) (he2 : Ev prog w hB n env ρ f (.int ((a + k : Nat) : Int))) (hk : a + k < 2 ^ 30)
    (hst : starEach [e, f] env = (false, eval e env) :: starEach [f] env := by rfl) (hst2 : starEach [f] env = (false, eval f env) :: starEach [] env := by rfl) :
    Its prog w hB n env ρ (.Call (.Name x p) [e, f] [] pos) ((List.range k).map fun (i : Nat) => D.int ((a + i : Nat) : Int)) := by
  intro A X s E R hr S kk
  refine wpAny_Call_NameR (wpAny_mono (hf A X s _ hr S) (fun v s₁ h₁ => ?_) fun _ _ e => e)
  obtain ⟨g1, r1⟩ := h₁
  cases r1
  have S1 := S.keep g1
  refine PyProof.Rows.callWith_type1 ((EvL.cons he (EvL.cons he2 EvL.nil hst2) hst) A X s₁ _ hr S1 |> fun h => wpAny_mono h (fun vs s₂ h₂ => ?_) fun _ _ e => e) hst (by rw [hst2]; rfl)
  obtain ⟨g2, r2⟩ := h₂
  obtain ⟨v, u, rfl, r3, r4⟩ := r2.two
  obtain ⟨t, rfl⟩ := r3.int_inv
  obtain ⟨t', rfl⟩ := r4.int_inv
  have S2 := S1.keep g2
  refine call_range_2 ?_
  refine wpAny_pyIter_range (IsRange.new _ _ _ _ _ _ _) (small_one (by omega) (by omega) (by omega) (by omega)) ?_
  have hI2 : s₂.heap.get? (s₂.heap.push { cls := .type "range", data := .fields #[.int (a : Int) t, .int ((a + k : Nat) : Int) t', .int 1 s₂.toks] }).objs.size = Option.none := get?_ge (by rw [Heap.size_push]; exact Nat.le_succ _)
  have hsz : Builtin.Range.rangeSize (a : Int) ((a + k : Nat) : Int) 1 = k := by rw [rangeSize_one]; split <;> omega
  rw [hsz]
  have g3 : Gone s₂ { s₂ with heap := (s₂.heap.push { cls := .type "range", data := .fields #[.int (a : Int) t, .int ((a + k : Nat) : Int) t', .int 1 s₂.toks] }).push { cls := .type "range_iterator", data := .fields #[rawInt (a : Int), rawInt (k : Int), rawInt 1] }, toks := s₂.toks + 1 } :=
    ⟨_, _, rfl, Nat.le_succ _, (Keep.push _ _).trans (Keep.push _ _)⟩
  refine kk _ _ ((g1.trans g2).trans g3) (gone_none (g1.trans g2) hI2) ⟨_, Heap.get?_push_size _ rfl⟩ fun Z hZ hZI => ?_
  refine ⟨fun i s' => IsRangeIter s'.heap (s₂.heap.push { cls := .type "range", data := .fields #[.int (a : Int) t, .int ((a + k : Nat) : Int) t', .int 1 s₂.toks] }).objs.size ((a + i : Nat) : Int) ((k : Int) - i) 1, fun A' hh => ⟨hZI, ?_, ?_, ?_, ?_, ?_, ?_⟩, ?_⟩
  · intro i s₃ s₄ h g
    exact g.ext _ _ hZI h
  · rintro i d s₃ Q' E' hd h h0 hk'
    have hi : i < k := by
      have := (List.getElem?_eq_some_iff.mp hd).1
      simpa using this
    have hd' : d = .int ((a + i : Nat) : Int) := by
      rw [List.getElem?_map, List.getElem?_range hi] at hd
      exact (Option.some.inj hd).symm
    subst hd'
    refine wpAny_pyNext_range_item h (by omega) fun h' hit hsb => ?_
    refine hk' _ _ (went_of_sameBut (Nat.le_succ _) hsb rfl) ?_ (.int _ _)
    have e1 : ((a + (i + 1) : Nat) : Int) = ((a + i : Nat) : Int) + 1 := by push_cast; omega
    have e2 : (k : Int) - ((i + 1 : Nat) : Int) = (k : Int) - i - 1 := by push_cast; omega
    rw [e1, e2]; exact hit
  · intro i s₃ h
    exact ⟨_, _, h, rfl⟩
  · rintro s₃ Q' E' h hk'
    rw [List.length_map, List.length_range] at h
    exact wpAny_pyNext_range_end hh h (by omega) fun h' he => hk' _ (went_of_extBut (t := s₃.toks) (Nat.le_refl _) he rfl)
  · rintro i s₃ Q' E' h hk'
    exact wpAny_pyIter_rangeiter h hk'
  · rintro i s₃ tg v' Q' E' h hk'
    exact quiet_of h rfl rfl (by decide) hk'
  · show IsRangeIter _ _ ((a + 0 : Nat) : Int) ((k : Int) - ((0 : Nat) : Int)) 1
    rw [show (k : Int) - ((0 : Nat) : Int) = k by simp, Nat.add_zero]
    exact Heap.get?_push_size _ rfl
end
end Mine

set_option maxHeartbeats 1000000
namespace Mine
open PySem PySem.W PyProof.Rows PySem.Calls
section
variable {prog : Program} {w : World} {hB : Bs} {n : Nat} {K : Frag} {env : Env} {ρ ρc : List (Str × D)} {μ μ' : List (Str × Ow)} {X Y M : Addr → Prop} {B Bc : List Str} {scope : Scope} {Q : Po}

def rpl (x y z : S) : S := (Txt.replace (tx x) (tx y) (tx z)).cps.toList

/-- o.replace(e, "..."), the second text written -/
theorem Ev.replace {o e : PySem.Expr} {k : Nat} {p apos pos : Pos} {d : D} {x y z : S} {zs : Str} (W : Wd hB K) (ho : Ev prog w hB n env ρ o d) (hd : IsS d x) (he : Ev prog w hB n env ρ e (.own y)) (hz : zs.cps.toList = z)
    (hsz : x.length + (x.length + 1) * z.length ≤ 16777216)
    (hbase : attributeBase o "replace" env (eval o env) = eval o env := by rfl)
    (hfew : ((backTo pos (starEach [e, .Constant (.str zs) k p] env)).all (fun x => !x.1) && (backToKw pos (keywordEach [] env)).all (fun x => x.1.isSome)
      && decide (([e, .Constant (.str zs) k p] : List PySem.Expr).length + ([] : List Keyword).length + (if ([] : List Keyword).isEmpty then 0 else 1) < 30)) = true := by rfl)
    (hline : (apos.endLine == pos.line) = true := by rfl) (hst : starEach [e, .Constant (.str zs) k p] env = [(false, eval e env), (false, eval (.Constant (.str zs) k p) env)] := by rfl) :
    Ev prog w hB n env ρ (.Call (.Attribute o "replace" apos) [e, .Constant (.str zs) k p] [] pos) (.str (rpl x y z)) := by
  intro A X s E hr S
  refine wpAny_Call_method hbase hfew hline PySem.F.plainAttrs_str PySem.F.slot_str_replace PySem.F.type_str_replace (wpAny_mono (ho A X s E hr S) (fun v s₁ h₁ => ?_) fun _ _ e => e)
  obtain ⟨g, r⟩ := h₁
  have S1 := S.keep g
  obtain ⟨t, rfl⟩ := hd.rd r
  refine ⟨typeIs_str _ _ _, (fun a e => nomatch e), ?_⟩
  rw [hst]
  refine callWith_builtin rfl (evalArgs_plain ?_)
  show wpAny _ _ (spliced ((false, eval e env) :: (false, eval (.Constant (.str zs) k p) env) :: [])) _ _ s₁
  refine spliced_cons (wpAny_mono (he A X s₁ E hr S1) (fun u s₂ h₂ => ?_) fun _ _ e => e)
  obtain ⟨g2, r2⟩ := h₂
  have S2 := S1.keep g2
  refine spliced_cons (wpAny_Constant_str (spliced_nil ?_))
  have := tx_of hz; subst this
  cases r2 with
  | own y t' h0 h1 =>
    have g3 : Gone s₂ { s₂ with toks := s₂.toks + 1 } := Gone.tok _ _ (Nat.le_succ _)
    have S3 := S2.keep g3
    obtain ⟨mc, hmc, hk⟩ := W.nb
    refine wt (SC.replaceA (Nat.pos_iff_ne_zero.mp h0) (Nat.pos_iff_ne_zero.mp S2.sit.tpos) (Nat.ne_of_lt h1) (by rw [tx_len, tx_len]; exact hsz) (fun t'' k hle => ?_) ⟨mc, hmc.keeps S3.sit.base, hk⟩)
    have g4 : Gone { s₂ with toks := s₂.toks + 1 } { s₂ with toks := k } := ⟨s₂.heap, k, rfl, hle, Keep.refl _⟩
    refine ⟨((g.trans g2).trans g3).trans g4, ?_⟩
    have := Rd.str (prog := prog) (w := w) (X := X) (s := { s₂ with toks := k }) (rpl x y z) t''
    rwa [show tx (rpl x y z) = Txt.replace (tx x) (tx y) (tx z) from tx_cps _] at this
end
end Mine

set_option maxHeartbeats 1000000
namespace Mine
open PySem PySem.W PyProof.Rows PySem.Calls
section
variable {prog : Program} {w : World} {hB : Bs} {n : Nat} {K : Frag} {env : Env} {ρ ρc : List (Str × D)} {μ μ' : List (Str × Ow)} {X Y M : Addr → Prop} {B Bc : List Str} {scope : Scope} {Q : Po}

theorem AreS.strsAre {s : Shared} {ds : List D} {ls : List S} {vs : List Value} (h : AreS ds ls) (r : RdL prog w X s vs ds) : StrsAre vs (ls.map tx) := by
  induction h generalizing vs with
  | nil => rw [r.nil_inv]; exact .nil
  | cons hd _ ih =>
    obtain ⟨v, vs', rfl, r1, r2⟩ := r.cons_inv
    obtain ⟨t, rfl⟩ := hd.rd r1
    exact .cons _ _ (ih r2)

def jn (sep : S) (ls : List S) : S := (Txt.join (tx sep) (ls.map tx)).cps.toList
theorem GivL.join {d : D} {sep : S} {ds : List D} {ls : List S} (hd : IsS d sep) (hl : AreS ds ls) (hok : ((ls.map tx).map (·.length)).sum + (ls.map tx).length * (tx sep).length ≤ 16777216) :
    GivL prog w hB n (fun vs => PySem.call (.builtin "str.join") vs) [d, .list ds] (.str (jn sep ls)) := by
  intro A X s E vs hr S r
  obtain ⟨v, u, rfl, r1, r2⟩ := r.two
  obtain ⟨t, rfl⟩ := hd.rd r1
  obtain ⟨a, vs, k, rfl, hx, ho, rl⟩ := r2.list_inv
  refine wt (join_list (items := vs.toArray) ⟨_, ho, rfl, k, rfl⟩ (by rw [List.toList_toArray]; exact hl.strsAre rl) hok fun t' k' hle => ⟨Gone.tok _ _ hle, ?_⟩)
  have := Rd.str (prog := prog) (w := w) (X := X) (s := { s with toks := k' }) (jn sep ls) t'
  rwa [show tx (jn sep ls) = Txt.join (tx sep) (ls.map tx) from tx_cps _] at this
end
end Mine

set_option maxHeartbeats 1000000
namespace Mine
open PySem PySem.W PyProof.Rows PySem.Calls

theorem pw_of_rising : ∀ (l : List Str) (p : Str), risingS p l = true → (∀ y ∈ l, p.cps.toList ≤ y.cps.toList) ∧ l.Pairwise (fun a b => a.cps.toList ≤ b.cps.toList)
  | [], p, _ => ⟨(fun y h => nomatch h), .nil⟩
  | x :: r, p, h => by
    unfold risingS at h
    obtain ⟨h1, h2⟩ := Bool.and_eq_true_iff.mp h
    have hpx : p.cps.toList ≤ x.cps.toList := by
      rw [ltCps_eq] at h1
      exact List.not_lt.mp (by simpa using h1)
    obtain ⟨a, b⟩ := pw_of_rising r x h2
    refine ⟨fun y hy => ?_, .cons a b⟩
    rcases List.mem_cons.mp hy with rfl | hy
    · exact hpx
    · exact List.le_trans hpx (a y hy)
theorem pw_of_sorted {l : List Str} (h : sortedS l = true) : l.Pairwise (fun a b => a.cps.toList ≤ b.cps.toList) := by
  cases l with
  | nil => exact .nil
  | cons x r => obtain ⟨a, b⟩ := pw_of_rising r x h; exact .cons a b

/-- sorted, by insertion -/
def ins (x : S) : List S → List S
  | [] => [x]
  | y :: r => if decide (y < x) then y :: ins x r else x :: y :: r
def srt : List S → List S
  | [] => []
  | x :: r => ins x (srt r)
theorem ins_perm (x : S) : ∀ l : List S, (ins x l).Perm (x :: l)
  | [] => .refl _
  | y :: r => by
    unfold ins
    split
    · exact ((ins_perm x r).cons y).trans (.swap x y r)
    · exact .refl _
theorem srt_perm : ∀ l : List S, (srt l).Perm l
  | [] => .refl _
  | x :: r => (ins_perm x _).trans ((srt_perm r).cons x)
theorem ins_pw (x : S) : ∀ l : List S, l.Pairwise (· ≤ ·) → (ins x l).Pairwise (· ≤ ·)
  | [], _ => .cons (fun y h => nomatch h) .nil
  | y :: r, h => by
    cases h with
    | cons h1 h2 =>
      unfold ins
      split
      · rename_i c
        have c : y < x := of_decide_eq_true c
        refine .cons (fun z hz => ?_) (ins_pw x r h2)
        rcases List.mem_cons.mp ((ins_perm x r).mem_iff.mp hz) with rfl | hz
        · exact List.le_of_lt c
        · exact h1 z hz
      · rename_i c
        have c : ¬ y < x := fun q => c (decide_eq_true q)
        have hxy : x ≤ y := List.not_lt.mp c
        refine .cons (fun z hz => ?_) (.cons h1 h2)
        rcases List.mem_cons.mp hz with rfl | hz
        · exact hxy
        · exact List.le_trans hxy (h1 z hz)
theorem srt_pw : ∀ l : List S, (srt l).Pairwise (· ≤ ·)
  | [] => .nil
  | x :: r => ins_pw x _ (srt_pw r)
theorem srt_of {l : List S} {ss : List Str} (hp : ss.Perm (l.map tx)) (hs : sortedS ss = true) : ss = (srt l).map tx := by
  refine List.Perm.eq_of_pairwise (le := fun a b : Str => a.cps.toList ≤ b.cps.toList) (fun a b _ _ h1 h2 => ?_) (pw_of_sorted hs) ?_ (hp.trans ((srt_perm l).map tx).symm)
  · have := List.le_antisymm h1 h2
    rw [← tx_cps a, ← tx_cps b, this]
  · rw [List.pairwise_map]
    exact (srt_pw l).imp fun h => by rw [tx_toList, tx_toList]; exact h

section
variable {prog : Program} {w : World} {hB : Bs} {n : Nat} {K : Frag} {env : Env} {ρ ρc : List (Str × D)} {μ μ' : List (Str × Ow)} {X Y M : Addr → Prop} {B Bc : List Str} {scope : Scope} {Q : Po}

theorem StrsAre.rd {s : Shared} : ∀ {vs : List Value} {ls : List S}, StrsAre vs (ls.map tx) → RdL prog w X s vs (ls.map .str)
  | _, [], h => by cases h; exact RdL.nil
  | _, x :: ls, h => by
    cases h with
    | cons _ t h => exact RdL.cons (.str x t) (StrsAre.rd h)
theorem GivL.sorted {ds : List D} {ls : List S} (hl : AreS ds ls) (hsz : ls.length < 64) : GivL prog w hB n (fun vs => PySem.call (.builtin "sorted") vs) [.list ds] (.list ((srt ls).map .str)) := by
  intro A X s E vs hr S r
  obtain ⟨v, rfl, r0⟩ := r.one
  obtain ⟨a, vs, k, rfl, hx, ho, rl⟩ := r0.list_inv
  refine sorted_strs ⟨_, ho, rfl, k, rfl⟩ (hl.strsAre rl) (by rw [rl.1, hl.length]; exact hsz) fun out ss' h1 h2 h3 => ?_
  obtain ⟨e, he⟩ := sortedAll_at s.heap vs out
  have g : Gone s { s with heap := sortedAll s.heap vs out } := Gone.mkh fun b o q => sortedAll_old q
  refine ⟨g, Rd.mkList (vs := out.toList) (n := e) (fun x => ?_) (by simpa [seqObj, PySem.W.listOf] using he) ?_⟩
  · obtain ⟨o, q⟩ := S.live _ x
    exact Nat.not_succ_le_self _ (Nat.le_of_succ_le (Heap.lt_size q))
  · rw [srt_of h2 h3] at h1
    exact StrsAre.rd h1
end
end Mine

set_option maxHeartbeats 1000000
namespace Mine
open PySem PySem.W PyProof.Rows PySem.Calls PySem.Builtin PySem.Builtin.Str
section
variable {prog : Program} {w : World} {hB : Bs} {n : Nat} {K : Frag} {env : Env} {ρ ρc : List (Str × D)} {μ μ' : List (Str × Ow)} {X Y M : Addr → Prop} {B Bc : List Str} {scope : Scope} {Q : Po}

def spl (x y : S) : List S := (Txt.split (tx x) (tx y)).map (·.cps.toList)
theorem strValues_rd {s : Shared} : ∀ (l : List (Str × Tok)), RdL prog w X s (strValues l) ((l.map (·.1)).map fun x => D.str x.cps.toList)
  | [] => RdL.nil
  | (x, t) :: l => by
    have := Rd.str (prog := prog) (w := w) (X := X) (s := s) x.cps.toList t
    rw [tx_cps] at this
    exact RdL.cons this (strValues_rd l)
theorem GivL.split {d e : D} {x y : S} (hd : IsS d x) (he : IsS e y) (hy : y.length ≠ 0) (hx : x.length ≤ sizeLine) (hn : (partsBetween (tx x) (occurrences (tx x) (tx y) 0 (tx x).length ((tx x).length + 1)) (tx y).length).length ≤ sizeLine) :
    GivL prog w hB n (fun vs => PySem.call (.builtin "str.split") vs) [d, e] (.list ((spl x y).map .str)) := by
  intro A X s E vs hr S r
  obtain ⟨v, u, rfl, r1, r2⟩ := r.two
  obtain ⟨t, rfl⟩ := hd.rd r1
  obtain ⟨t', rfl⟩ := he.rd r2
  have hyl : ((tx y).length == 0) = false := by rw [tx_len]; simpa using hy
  have fin : ∀ (l : List (Str × Tok)) (k : Nat), s.toks ≤ k → l.map (·.1) = Txt.split (tx x) (tx y) → Gone s { s with heap := s.heap.push { cls := .type "list", data := .seq (strValues l).toArray }, toks := k } ∧
      Rd prog w X { s with heap := s.heap.push { cls := .type "list", data := .seq (strValues l).toArray }, toks := k } (.ref s.heap.objs.size) (.list ((spl x y).map .str)) := by
    intro l k hk hl
    refine ⟨⟨_, k, rfl, hk, Keep.push _ _⟩, Rd.mkList (vs := strValues l) (n := 0) S.fresh (Heap.get?_push_size _ rfl) ?_⟩
    have e : (spl x y).map D.str = (l.map (·.1)).map fun x => D.str x.cps.toList := by
      rw [hl]; unfold spl; rw [List.map_map]; rfl
    rw [e]
    exact strValues_rd l
  refine wt ?_
  cases h1 : (decide ((tx x).length < (tx y).length) || decide (PySem.Builtin.Str.strKind (tx x) < PySem.Builtin.Str.strKind (tx y)))
  · cases hf : (occurrences (tx x) (tx y) 0 (tx x).length ((tx x).length + 1)).isEmpty
    · refine call_meets PySem.F.slot_str_split (typeIs_str _ _ _) PySem.F.entry_str_split (PySem.F.args_str_split_2 _ _) (meets_str_split_sep (tx x) (tx y) t t' h1 hyl hf (by rw [tx_len]; exact hx) hn) ?_
      show wants _ E _ { s with toks := _, heap := s.heap.push { cls := .type "list", data := .seq (strsFrom s.toks (partsBetween (tx x) (occurrences (tx x) (tx y) 0 (tx x).length ((tx x).length + 1)) (tx y).length)).toArray } }
      rw [strsFrom_eq]
      intro hle
      exact fin (numbered s.toks _) _ hle ((numbered_texts _ _).trans ((if_neg (ne_true_of_eq_false h1)).trans (if_neg (ne_true_of_eq_false hf))).symm)
    · refine call_meets PySem.F.slot_str_split (typeIs_str _ _ _) PySem.F.entry_str_split (PySem.F.args_str_split_2 _ _) (meets_str_split_not_found (tx x) (tx y) t t' h1 hyl hf) ?_
      exact fun hle => fin [(tx x, t)] _ hle ((if_neg (ne_true_of_eq_false h1)).trans (if_pos hf)).symm
  · refine call_meets PySem.F.slot_str_split (typeIs_str _ _ _) PySem.F.entry_str_split (PySem.F.args_str_split_2 _ _) (meets_str_split_cannot_occur (tx x) (tx y) t t' h1) ?_
    exact fun hle => fin [(tx x, t)] _ hle (if_pos h1).symm
end
end Mine

set_option maxHeartbeats 1000000
namespace Mine
open PySem PySem.W PyProof.Rows PySem.Calls

def enumD : Nat → List D → List D
  | _, [] => []
  | i, d :: ds => .tuple [.int (i : Int), d] :: enumD (i + 1) ds
theorem enumD_len : ∀ (k : Nat) (ds : List D), (enumD k ds).length = ds.length
  | _, [] => rfl
  | k, d :: ds => by simp [enumD, enumD_len (k + 1) ds]
theorem enumD_get : ∀ (ds : List D) (k i : Nat) (d : D), ds[i]? = some d → (enumD k ds)[i]? = some (.tuple [.int ((k + i : Nat) : Int), d])
  | [], k, i, d, h => by simp at h
  | a :: ds, k, 0, d, h => by simp at h; subst h; rfl
  | a :: ds, k, i + 1, d, h => by
    have := enumD_get ds (k + 1) i d (by simpa using h)
    rw [show k + 1 + i = k + (i + 1) by omega] at this
    simpa [enumD] using this

section
variable {prog : Program} {w : World} {hB : Bs} {n : Nat} {K : Frag} {env : Env} {ρ ρc : List (Str × D)} {μ μ' : List (Str × Ow)} {X Y M : Addr → Prop} {B Bc : List Str} {scope : Scope} {Q : Po}

/-- iterators turn: the frame's facts stand -/
theorem Sta.others {prog : Program} {w : World} {s s' : Shared} {P : Addr → Prop} (S : Sta prog w hB Y M B env ρ μ s) (g : Went P s s') (hP : ∀ a, P a → ¬ YM Y M a ∧ hB.h.get? a = Option.none ∧ ∃ o vs, s.heap.get? a = some o ∧ o.data = .fields vs) :
    Sta prog w hB Y M B env ρ μ s' := by
  have ne : ∀ a o', s.heap.get? a = some o' → (∀ vs, o'.data ≠ .fields vs) → ¬ P a := fun a o' e hn q => by
    obtain ⟨_, _, o, vs, ho, hd⟩ := hP a q
    rw [ho] at e; cases e; exact hn _ hd
  have xne : ∀ a, YM Y M a → ¬ P a := fun a x q => (hP a q).1 x
  have rd : ∀ v d, Rd prog w (YM Y M) s v d → Rd prog w (YM Y M) s' v d := fun v d r => r.mono' g.le fun a o' hx e hn => ⟨hx, g.ext a o' (ne a o' e hn) e⟩
  have nm : ∀ y u, NameIs s.heap env y u → NameIs s'.heap env y u := by
    rintro y u (⟨h1, m, ⟨o', es, ep, h2, h3⟩, h4⟩ | ⟨h1, c, h2, o', h3, h4⟩)
    · exact .inl ⟨h1, m, ⟨o', es, ep, g.ext _ _ (xne _ (.inr S.frm.loc)) h2, h3⟩, h4⟩
    · exact .inr ⟨h1, c, h2, o', g.ext _ _ (ne _ _ h3 (fun _ q => by rw [h4] at q; cases q)) h3, h4⟩
  refine ⟨⟨⟨fun a o' e => g.ext a o' (fun q => by rw [(hP a q).2.1] at e; cases e) (S.ok.sit.base a o' e), fun a x => ?_, S.ok.sit.off, Nat.lt_of_lt_of_le S.ok.sit.tlo g.le⟩, S.ok.apart, fun x d e => ?_⟩,
    ⟨S.frm.kind, S.frm.loc, ?_, fun x c h1 => ?_, S.frm.bd⟩, fun x o' e => ?_⟩
  · obtain ⟨o', e⟩ := S.ok.sit.live a x
    exact ⟨o', g.ext a o' (xne a x) e⟩
  · obtain ⟨v, h1, h2⟩ := S.ok.names x d e
    exact ⟨v, nm _ _ h1, rd _ _ h2⟩
  · obtain ⟨m, o', es, ep, h2, h3⟩ := S.frm.ns
    exact ⟨m, o', es, ep, g.ext _ _ (xne _ (.inr S.frm.loc)) h2, h3⟩
  · obtain ⟨v, o', h4, h5⟩ := S.frm.cel x c h1
    exact ⟨v, o', g.ext _ _ (ne _ _ h4 (fun _ q => by rw [h5] at q; cases q)) h4, h5⟩
  · obtain ⟨a, h1, h2⟩ := S.own x o' e
    refine ⟨a, nm _ _ h1, ?_⟩
    cases o' with
    | lst ds =>
      obtain ⟨h3, vs', k, h4, h5⟩ := h2
      exact ⟨h3, vs', k, g.ext _ _ (xne _ (.inr h3.1)) h4, h5.1, fun i v d e1 e2 => rd _ _ (h5.2 i v d e1 e2)⟩
    | ins C kvs =>
      obtain ⟨h3, dx, es, k, h4, h5, h6, h7, h8, h9, h10⟩ := h2
      exact ⟨h3, dx, es, k, h4, h5, g.ext _ _ (ne _ _ h6 (fun _ z => nomatch z)) h6, g.ext _ _ (xne _ (.inr h4.1)) h7, h8, h9, fun i e p e1 e2 => rd _ _ (h10 i e p e1 e2)⟩
end
end Mine

set_option maxHeartbeats 1000000
namespace Mine
open PySem PySem.W PyProof.Rows PySem.Calls
section
variable {prog : Program} {w : World} {hB : Bs} {n : Nat} {K : Frag} {env : Env} {ρ ρc : List (Str × D)} {μ μ' : List (Str × Ow)} {X Y M : Addr → Prop} {B Bc : List Str} {scope : Scope} {Q : Po}

theorem Ex1.forEnum {x : Str} {p pc pt pos : Pos} {e : PySem.Expr} {elts : List PySem.Expr} {kd} {body : List Stmt} {ds : List D} (hf : Ev prog w hB n env ρ (.Name x p) (.val (.type "enumerate"))) (he : Ev prog w hB n env ρ e (.list ds))
    (hFR : ForR prog w hB n B env (.Tuple elts kd pt) body Q (enumD 0 ds) ρ μ) (hs : ∀ y, foldedSetIterable (.Call (.Name x p) [e] [] pc) env y = pure y := by intro _; rfl)
    (hst : starEach [e] env = (false, eval e env) :: starEach [] env := by rfl) :
    Ex1 prog w hB n B env ρ μ (.For (.Tuple elts kd pt) (.Call (.Name x p) [e] [] pc) body [] pos) Q := by
  intro A Y X s E hrm S
  refine wpAny_For ?_ hs
  refine wpAny_Call_NameR (wpAny_mono (hf A _ s _ hrm S.ok) (fun v s₁ h₁ => ?_) fun _ _ e => e)
  obtain ⟨g1, r1⟩ := h₁
  cases r1
  have S1 := S.keep g1
  refine PyProof.Rows.callWith_type1 ((EvL.cons he EvL.nil hst) A _ s₁ _ hrm S1.ok |> fun h => wpAny_mono h (fun vs s₂ h₂ => ?_) fun _ _ e => e) hst rfl
  obtain ⟨g2, r2⟩ := h₂
  obtain ⟨v, rfl, r3⟩ := r2.one
  have S2 := S1.keep g2
  obtain ⟨l, vs, c, rfl, hlx, hlo, rl⟩ := r3.list_inv
  refine call_enumerate_list (items := vs.toArray) ⟨_, hlo, rfl, _, rfl⟩ fun h' hE hI hsz hk => ?_
  refine wpAny_pyIter_enum hE ?_
  have G : Gone s { s₂ with heap := h' } := (g1.trans g2).trans (Gone.mkh fun b o e => hk b o e)
  generalize hI0 : s₂.heap.objs.size = it at hE hI hsz
  have hP0 : ∀ a, (a = it + 1 ∨ a = it) → s₂.heap.get? a = Option.none := fun a q => by
    rcases q with rfl | rfl
    · exact get?_ge (by omega)
    · exact get?_ge (by omega)
  have hP1 : ∀ a, (a = it + 1 ∨ a = it) → s.heap.get? a = Option.none := fun a q => gone_none (g1.trans g2) (hP0 a q)
  have hPX : ∀ a, (a = it + 1 ∨ a = it) → ¬ YM Y X a := fun a q x => by
    obtain ⟨o, e⟩ := S.ok.sit.live a x
    rw [hP1 a q] at e; cases e
  have hPB : ∀ a, (a = it + 1 ∨ a = it) → hB.h.get? a = Option.none := fun a q => by
    cases q' : hB.h.get? a with
    | none => rfl
    | some o => have := S.ok.sit.base a o q'; rw [hP1 a q] at this; cases this
  have S3 := S.keep G
  have hlP : ¬ (l = it + 1 ∨ l = it) := fun q => by rw [hP0 l q] at hlo; cases hlo
  have back : ∀ {s' f fl X'' ρ'' μ''}, Went (fun a => X a ∨ (a = it + 1 ∨ a = it)) { s₂ with heap := h' } s' → Sub X X'' { s₂ with heap := h' } → FlIs prog w (YM Y X'') s' f fl → Sta prog w hB Y X'' B env ρ'' μ'' s' → Q fl ρ'' μ'' → Post hB B env prog w Y X Q s f s' := by
    intro s' f fl X'' ρ'' μ'' h1 h2 h3 h4 h5
    refine ⟨(G.went (X := X)).step (fun a ha => ha.elim .inl fun e => .inr (hP1 a e)) h1, fl, X'', ρ'', μ'', h3, fun a ha => (h2 a ha).elim .inl fun e => .inr ?_, h4, h5⟩
    exact gone_none G e
  have rl3 : RdL prog w (fun a => (YM Y X a ∨ h'.get? a = Option.none) ∨ (a = it + 1 ∨ a = it)) { s₂ with heap := h' } vs ds :=
    (rl.on fun a ha => ha.elim (fun q => q.elim .inl fun e => .inr (gone_none (Gone.mkh (s := s₂) fun b o e => hk b o e) e)) fun q => .inr (hP0 a q)).keep (Gone.mkh fun b o e => hk b o e)
  refine codeAny_forLoop_any (fun k s => ∃ i X' ρ' μ' old, i + k = ds.length ∧ IsEnum s.heap (it + 1) it ((i : Nat) : Int) old ∧ s.heap.IsListIter it l i ∧ s.heap.get? l = some (listOf vs.toArray c) ∧
      RdL prog w (fun a => (YM Y X a ∨ h'.get? a = Option.none) ∨ (a = it + 1 ∨ a = it)) s vs ds ∧ Went (fun a => X a ∨ (a = it + 1 ∨ a = it)) { s₂ with heap := h' } s ∧ Sub X X' { s₂ with heap := h' } ∧ (∀ a, (a = it + 1 ∨ a = it) → ¬ YM Y X' a) ∧
      Sta prog w hB Y X' B env ρ' μ' s ∧ ForR prog w hB n B env (.Tuple elts kd pt) body Q ((enumD 0 ds).drop i) ρ' μ') ?_ ds.length
    ⟨0, X, ρ, μ, .none, Nat.zero_add _, hE, hI, hk _ _ hlo, rl3, Went.refl _ _, Sub.refl _ _, hPX, S3, hFR⟩
  rintro k s₄ ⟨i, X', ρ', μ', old, hik, hE4, hI4, hl4, rl4, hw4, hsub, hXI', S4, hF⟩
  by_cases hlt : i < ds.length
  · have hd : ds[i]? = some ds[i] := by simp [hlt]
    have hlt' : i < (enumD 0 ds).length := by rw [enumD_len]; exact hlt
    have hdrop := List.drop_eq_getElem_cons hlt'
    have hg : (enumD 0 ds)[i] = .tuple [.int (i : Int), ds[i]] := by
      have := enumD_get ds 0 i ds[i] hd
      rw [Nat.zero_add] at this
      rw [List.getElem?_eq_getElem hlt'] at this
      exact Option.some.inj this
    rw [hdrop, hg] at hF
    obtain ⟨bs, htg, hbs, hex⟩ := hF
    have hPs : ∀ a, (a = it + 1 ∨ a = it) → ¬ YM Y X' a ∧ hB.h.get? a = Option.none ∧ ∃ o vs, s₄.heap.get? a = some o ∧ o.data = .fields vs := fun a q => by
      refine ⟨hXI' a q, hPB a q, ?_⟩
      rcases q with rfl | rfl
      · exact ⟨_, _, hE4, rfl⟩
      · obtain ⟨oi, h1, _, h2⟩ := hI4; exact ⟨oi, _, h1, h2⟩
    have hlv : i < vs.length := by rw [rl4.1]; exact hlt
    have hv : vs[i]? = some vs[i] := by simp [hlv]
    refine wpAny_pyNext_enum_item hE4 hI4 ⟨_, hl4, rfl, _, rfl⟩ (x := vs[i]) (by simp [hlv]) (Nat.succ_ne_self _) fun h₅ hE5 hI5 hT5 hz5 hk5 => ?_
    refine wpAny_letOwnedTupleGo_enum hE5 fun h₆ hE6 hs6 => ?_
    have g5 : Went (fun a => a = it + 1 ∨ a = it) s₄ { s₄ with heap := h₆, toks := s₄.toks + 1 } := ⟨_, _, rfl, Nat.le_succ _, fun b o hb e => by
      have hb1 : b ≠ it + 1 := fun q => hb (.inl q)
      exact (hs6.2 b hb1).trans (hk5 b o hb1 (fun q => hb (.inr q)) e)⟩
    have hne6 : s₄.heap.objs.size ≠ it + 1 := Nat.ne_of_gt (Heap.lt_size hE4)
    have S5 := S4.others g5 hPs
    have hZ' : ∀ a, YM Y X' a → YM Y X a ∨ h'.get? a = Option.none := fun a ha => ha.elim (fun y => .inl (.inl y)) fun m => (hsub a m).elim (fun x => .inl (.inr x)) .inr
    have rl5 : RdL prog w (fun a => (YM Y X a ∨ h'.get? a = Option.none) ∨ (a = it + 1 ∨ a = it)) { s₄ with heap := h₆, toks := s₄.toks + 1 } vs ds := rl4.went (g5.on fun p hp => .inl (.inr hp))
    have r5 : Rd prog w (YM Y X') { s₄ with heap := h₆, toks := s₄.toks + 1 } (.ref s₄.heap.objs.size) (.tuple [.int (i : Int), ds[i]]) :=
      Rd.mkTuple (vs := [.int (i : Int) s₄.toks, vs[i]]) (fun x => by obtain ⟨o, e⟩ := S4.ok.sit.live _ x; rw [get?_size_none] at e; cases e) ((hs6.2 _ hne6).trans hT5)
        (RdL.cons (.int _ _) (RdL.cons ((rl5.2 i _ _ hv hd).off fun a ha => .inl (hZ' a ha)) RdL.nil))
    refine S5.assign hrm.1 htg hbs r5 fun s₆ g6 S6 => ?_
    refine wpAny_mono (hex A Y X' s₆ _ hrm S6) (fun f s₇ h₇ => ?_) fun _ _ e => e
    obtain ⟨g7, fl, X'', ρ'', μ'', h1, h2, h3, h4⟩ := h₇
    have g67 := g6.trans g7
    have nX1 : ¬ X' (it + 1) := fun x => hXI' _ (.inl rfl) (.inr x)
    have nX2 : ¬ X' it := fun x => hXI' _ (.inr rfl) (.inr x)
    have nXl : ¬ X' l := fun x => (hsub l x).elim (fun q => hlx (.inr q)) fun e => by have := hk _ _ hlo; rw [e] at this; cases this
    have hI6 : h₆.IsListIter it l (i + 1) := by obtain ⟨oi, q1, q2⟩ := hI5; exact ⟨oi, (hs6.2 _ (Nat.ne_of_lt (Nat.lt_succ_self _))).trans q1, q2⟩
    have hE7 : IsEnum s₇.heap (it + 1) it (((i + 1 : Nat)) : Int) vs[i] := by
      have : ((i + 1 : Nat) : Int) = (i : Int) + 1 := by push_cast; rfl
      rw [this]; exact g67.ext _ _ nX1 hE6
    have hI7 : s₇.heap.IsListIter it l (i + 1) := by obtain ⟨oi, q1, q2⟩ := hI6; exact ⟨oi, g67.ext _ _ nX2 q1, q2⟩
    have hl7 : s₇.heap.get? l = some (listOf vs.toArray c) := g67.ext _ _ nXl (g5.ext _ _ hlP hl4)
    have rl7 := rl5.went (g67.on fun p hp => .inl (.inl (hZ' p (.inr hp))))
    have hw5 : Went (fun a => X a ∨ (a = it + 1 ∨ a = it)) { s₂ with heap := h' } { s₄ with heap := h₆, toks := s₄.toks + 1 } := hw4.trans (g5.on fun p hp => .inl (.inr hp))
    have hsubI : Sub (fun a => X a ∨ (a = it + 1 ∨ a = it)) X' { s₂ with heap := h' } := fun a ha => (hsub a ha).elim (fun x => .inl (.inl x)) .inr
    have hw6 := hw5.step hsubI g6
    have hw7 := hw6.step hsubI g7
    have hX''I : ∀ a, (a = it + 1 ∨ a = it) → ¬ YM Y X'' a := fun a q x => x.elim (fun y => hXI' a q (.inl y)) fun m => (h2 a m).elim (fun q' => hXI' a q (.inr q')) fun e => by
      rcases q with rfl | rfl
      · rw [g6.ext _ _ nX1 hE6] at e; cases e
      · obtain ⟨oi, q1, q2⟩ := hI6; rw [g6.ext _ _ nX2 q1] at e; cases e
    have hsub7 : Sub X X'' { s₂ with heap := h' } := fun a ha => (h2 a ha).elim (hsub a) fun e => (none_back hw6 e).elim (fun q => q.elim .inl fun q => absurd (.inr ha) (hX''I a q)) .inr
    cases f <;> cases fl <;> try exact h1.elim
    · exact ⟨k - 1, by omega, i + 1, X'', ρ'', μ'', _, by omega, hE7, hI7, hl7, rl7, hw7, hsub7, hX''I, h3, h4⟩
    · exact back (f := .next) (fl := .next) hw7 hsub7 trivial h3 h4
    · exact ⟨k - 1, by omega, i + 1, X'', ρ'', μ'', _, by omega, hE7, hI7, hl7, rl7, hw7, hsub7, hX''I, h3, h4⟩
    · exact back (f := .ret _) (fl := .ret _) hw7 hsub7 h1 h3 h4
  · have hi : i = ds.length := by omega
    subst hi
    rw [← enumD_len 0 ds, List.drop_length] at hF
    have hPs : ∀ a, (a = it + 1 ∨ a = it) → ¬ YM Y X' a ∧ hB.h.get? a = Option.none ∧ ∃ o vs, s₄.heap.get? a = some o ∧ o.data = .fields vs := fun a q => by
      refine ⟨hXI' a q, hPB a q, ?_⟩
      rcases q with rfl | rfl
      · exact ⟨_, _, hE4, rfl⟩
      · obtain ⟨oi, h1, _, h2⟩ := hI4; exact ⟨oi, _, h1, h2⟩
    refine wpAny_pyNext_enum_end hrm.1 hE4 hI4 ⟨_, hl4, rfl, _, rfl⟩ (by rw [← rl4.1]; simp) fun h₅ he5 => ?_
    have g5 : Went (fun a => a = it + 1 ∨ a = it) s₄ { s₄ with heap := h₅ } := went_of_extBut (t := s₄.toks) (Nat.le_refl _) he5 (.inr rfl)
    exact wpAny_execs_nil (back (f := .next) (fl := .next) (hw4.trans (g5.on fun p hp => .inl (.inr hp))) hsub trivial (S4.others g5 hPs) hF)
end
end Mine

set_option maxHeartbeats 1000000
namespace Mine
open PySem PySem.W PyProof.Rows PySem.Calls PySem.Builtin PySem.Builtin._codecs

def asc : S := [97, 115, 99, 105, 105]
section
variable {prog : Program} {w : World} {hB : Bs} {n : Nat} {K : Frag} {env : Env} {ρ ρc : List (Str × D)} {μ μ' : List (Str × Ow)} {X Y M : Addr → Prop} {B Bc : List Str} {scope : Scope} {Q : Po}

theorem slot_bytes_split : Slot "bytes" "split" "bytes.split" :=
  .of (owner := "bytes") (n := "split") (by rw [typeLookup_type, builtinLookup_eq_fast]; kernel_rfl) (by decide +kernel) (by decide +kernel) (by decide +kernel)
    (by first | exact .inl (by decide +kernel) | exact .inr (by decide +kernel)) (by rw [isSubtype_type]; kernel_rfl)
theorem type_bytes_split : typeOf (.builtin "bytes.split") = pure (.type "method_descriptor") := by show builtinType _ = _; rw [builtinType_eq_fast]; kernel_rfl
theorem entry_bytes_split : entryFor table "bytes.split" = some Builtin.«bytes.split» := entryFor_of_tree (by kernel_rfl)
theorem args_bytes_split_1 (a : Value) : argsOk "bytes.split" ⟨[a], []⟩ := by
  unfold argsOk; rw [signature?_of (id := "bytes.split") (n := ['t', 'i', 'l', 'p', 's']) (o := ['s', 'e', 't', 'y', 'b']) (by kernel_rfl) PySem.W.FB.owner_bytes]; kernel_rfl
theorem args_bytes_decode_2 (a b : Value) : argsOk "bytes.decode" ⟨[a, b], []⟩ := by
  unfold argsOk; rw [signature?_of (id := "bytes.decode") (n := ['e', 'd', 'o', 'c', 'e', 'd']) (o := ['s', 'e', 't', 'y', 'b']) (by kernel_rfl) PySem.W.FB.owner_bytes]; kernel_rfl
theorem slot_str_encode : Slot "str" "encode" "str.encode" :=
  .of (owner := "str") (n := "encode") (by rw [typeLookup_type, builtinLookup_eq_fast]; kernel_rfl) (by decide +kernel) (by decide +kernel) (by decide +kernel)
    (by first | exact .inl (by decide +kernel) | exact .inr (by decide +kernel)) (by rw [isSubtype_type]; kernel_rfl)
theorem type_str_encode : typeOf (.builtin "str.encode") = pure (.type "method_descriptor") := by show builtinType _ = _; rw [builtinType_eq_fast]; kernel_rfl
theorem entry_str_encode : entryFor table "str.encode" = some Builtin.«str.encode» := entryFor_of_tree (by kernel_rfl)
theorem args_str_encode_2 (a b : Value) : argsOk "str.encode" ⟨[a, b], []⟩ := by unfold argsOk; kernel_rfl

theorem encode_eq (x : Str) (t u : Tok) : «str.encode» ⟨[.str x t, .str (tx asc) u], []⟩ = (do ret (← encodeRoad "str.encode" (.str x t) x (tx asc) none)) := by kernel_rfl
theorem encodeRoad_ascii (id : String) (self : Value) (x : Str) : encodeRoad id self x (tx asc) none = (do mkBytes (← encodeNarrow id asciiCodec none self x)) := by kernel_rfl
theorem GivL.encode {d e : D} {x : S} {b : Array UInt8} (hd : IsS d x) (he : IsS e asc) (hx : ∀ t, encodeNarrow "str.encode" asciiCodec none (.str (tx x) t) (tx x) = pure b) (hb : b.size ≤ 1000) :
    GivL prog w hB n (fun vs => PySem.call (.builtin "str.encode") vs) [d, e] (.bytes b) := by
  intro A X s E vs hr S r
  obtain ⟨v, u, rfl, r1, r2⟩ := r.two
  obtain ⟨t, rfl⟩ := hd.rd r1
  obtain ⟨t', rfl⟩ := he.rd r2
  refine wpAny_call_entry slot_str_encode (typeIs_str _ _ _) entry_str_encode ?_ (args_str_encode_2 _ _)
  rw [encode_eq, encodeRoad_ascii, hx]
  refine wpAny_bind (wpAny_bind (wpAny_pure (wpAny_mkBytes ?_ (by rw [sizeLine_eq]; omega))))
  exact wpAny_pure ⟨_, rfl, Gone.tok _ _ (Nat.le_succ _), .bytes _ _⟩

theorem road_ascii {id : String} {b : Array UInt8} : decodeRoad id b (tx asc) none [] = (runDecoder id asciiDecoder none true b 0 [] >>= fun r => mkStr ⟨r.1⟩) := by kernel_rfl
theorem meets_text_ascii {b : Array UInt8} {t t1 t2 : Tok} {d x : PySem.Str} {n : Nat} (hd : ∀ id, runDecoder id asciiDecoder none true b 0 [] = pure (x.cps, n)) :
    Meets («_codecs.decode.text» ⟨[.bytes b t, .str (tx asc) t1, .none, .str d t2], []⟩) (fun _ R s => x.length ≤ sizeLine ∧ R (.ok (.ret (.str x s.toks))) { s with toks := s.toks + 1 }) := by
  refine .of_wp fun prog w A R s hS => ?_
  obtain ⟨hsz, h⟩ := hS
  show wpAny _ _ (Bytes.bytesLike _ (.bytes b t) >>= fun r => _) _ _ s
  refine wpAny_bind (wpAny_of_eq KBd.like_eq ?_)
  refine wpAny_bind (wpAny_of_eq KBd.held_eq ?_)
  show wpAny _ _ (decodeRoad _ b (tx asc) none [] >>= fun v => _) _ _ s
  rw [road_ascii, hd]
  refine wpAny_bind (wpAny_bind (wpAny_pure ?_))
  exact wpAny_mkStr (wpAny_pure ⟨_, rfl, h⟩) hsz
theorem entry_ascii {c : UInt8} {cs : List UInt8} {t u : Tok} : «bytes.decode» ⟨[.bytes (c :: cs).toArray t, .str (tx asc) u], []⟩ = (mkStr (PySem.Str.ofString "utf-8") >>= fun _ => mkStr (tx asc) >>= fun e => mkStr (PySem.Str.ofString "bytes.decode") >>= fun d =>
    call (.builtin "_codecs.decode.text") [.bytes (c :: cs).toArray t, e, .none, d] >>= fun v => ret v) := by kernel_rfl
theorem GivL.decode {e : D} {c : UInt8} {cs : List UInt8} {x : S} {k : Nat} (he : IsS e asc) (hd : ∀ id, runDecoder id asciiDecoder none true (c :: cs).toArray 0 [] = pure ((tx x).cps, k)) (hx : x.length ≤ 1000) :
    GivL prog w hB n (fun vs => PySem.call (.builtin "bytes.decode") vs) [.bytes (c :: cs).toArray, e] (.str x) := by
  intro A X s E vs hr S r
  obtain ⟨v, u, rfl, r1, r2⟩ := r.two
  obtain ⟨t, rfl⟩ := r1.bytes_inv
  obtain ⟨t', rfl⟩ := he.rd r2
  refine wpAny_call_entry PySem.W.FB.slot_bytes_decode (typeIs_bytes _ _ _) PySem.W.FB.entry_bytes_decode ?_ (args_bytes_decode_2 _ _)
  rw [entry_ascii]
  refine wpAny_bind (wpAny_mkStr ?_ (by decide))
  refine wpAny_bind (wpAny_mkStr ?_ (by decide))
  refine wpAny_bind (wpAny_mkStr ?_ (by decide))
  refine wpAny_bind (call_function_meets KBd.kind_text KBd.plain_text KBd.entry_text (KBd.args_text _ _ _ _) (meets_text_ascii (x := tx x) hd) ⟨by rw [tx_len, sizeLine_eq]; omega, wpAny_pure ⟨_, rfl, Gone.tok _ _ ?_, .str _ _⟩⟩)
  show s.toks ≤ s.toks + 1 + 1 + 1 + 1
  omega

theorem wp_mkMany {A : Around} {E : Value → Shared → Prop} : ∀ (ws : List (List UInt8)) (s : Shared) (R : List Value → Shared → Prop), (∀ x ∈ ws, x.length ≤ 1000) →
    (∀ vs k, s.toks ≤ k → (∀ X, RdL prog w X { s with toks := k } vs (ws.map fun x => .bytes x.toArray)) → R vs { s with toks := k }) → wpAny (model prog w) A (ws.mapM fun x => Bytes.Kind.new .bytes x.toArray) R E s
  | [], s, R, _, h => by rw [List.mapM_nil]; exact wpAny_pure (h [] s.toks (Nat.le_refl _) fun X => RdL.nil)
  | x :: ws, s, R, hl, h => by
    rw [List.mapM_cons]
    refine wpAny_bind (wpAny_mkBytes (wpAny_bind (wp_mkMany ws _ _ (fun y hy => hl y (.tail _ hy)) fun vs k hk hR => wpAny_pure ?_)) (by have := hl x (.head _); rw [sizeLine_eq, List.size_toArray]; omega))
    exact h _ k (Nat.le_of_succ_le hk) fun X => RdL.cons (.bytes _ _) (hR X)

/-- b.split() -/
theorem GivL.bsplit {b : Array UInt8} {ws : List (List UInt8)} (hb : b.size ≤ 1000) (h1 : (!b.isEmpty && !b.any Bytes.isSpace) = true → ws = [b.toList]) (h2 : (!b.isEmpty && !b.any Bytes.isSpace) = false → Bytes.words (b.size + 1) (b.size + 1) b.toList = ws) (hw : ∀ x ∈ ws, x.length ≤ 1000) (hwl : ws.length ≤ 1000) :
    GivL prog w hB n (fun vs => PySem.call (.builtin "bytes.split") vs) [.bytes b] (.list (ws.map fun x => .bytes x.toArray)) := by
  intro A X s E vs hr S r
  obtain ⟨v, rfl, r1⟩ := r.one
  obtain ⟨t, rfl⟩ := r1.bytes_inv
  refine wpAny_call_entry slot_bytes_split (typeIs_bytes _ _ _) entry_bytes_split ?_ (args_bytes_split_1 _)
  have e : «bytes.split» ⟨[.bytes b t], []⟩ = (do
      rule "bytes.split.whitespace"
      if (decide (b.size + 1 > 0) && !b.isEmpty && !b.any Bytes.isSpace) = true then ret (← newList [← Bytes.Kind.same .bytes (.bytes b t)]) else
      ret (← newList (← (Bytes.words (b.size + 1) (b.size + 1) b.toList).mapM fun x => Bytes.Kind.new .bytes x.toArray))) := by kernel_rfl
  rw [e]
  refine wpAny_bind (wpAny_rule ?_)
  have e2 : (decide (b.size + 1 > 0) && !b.isEmpty && !b.any Bytes.isSpace) = (!b.isEmpty && !b.any Bytes.isSpace) := by simp
  rw [e2]
  cases c : (!b.isEmpty && !b.any Bytes.isSpace)
  · rw [if_neg (by decide), h2 c]
    refine wpAny_bind (wp_mkMany ws s _ hw fun vs k hk hR => wpAny_bind (wpAny_newList ?_ (by have := (hR X).1; rw [List.length_map] at this; rw [this, sizeLine_eq]; omega)))
    have S' : Sit hB X { s with toks := k } := S.keep (Gone.tok _ _ hk)
    exact wpAny_pure ⟨_, rfl, (Gone.tok s k hk).trans (Gone.push _ _), Rd.mkList (n := 0) S'.fresh (Heap.get?_push_size _ rfl) ((hR X).keep (Gone.push _ _))⟩
  · rw [if_pos rfl, h1 c]
    refine wpAny_bind (m := Bytes.Kind.same .bytes (.bytes b t)) ?_
    unfold Bytes.Kind.same
    refine wpAny_bind (wpAny_typeOf (typeIs_bytes _ _ _) (wpAny_pure ?_))
    refine wpAny_bind (wpAny_newList ?_ (by rw [sizeLine_eq]; exact Nat.le_of_ble_eq_true rfl))
    refine wpAny_pure ⟨_, rfl, Gone.push _ _, Rd.mkList (n := 0) S.fresh (Heap.get?_push_size _ rfl) (RdL.cons ?_ RdL.nil)⟩
    exact .bytes _ _
end
end Mine

set_option maxHeartbeats 1000000
namespace Mine
open PySem PySem.W PyProof.Rows PySem.Calls

/-- a heap, but for P -/
noncomputable def hid (h : Heap) (P : Addr → Prop) : Heap := by
  classical
  exact ⟨h.objs.mapIdx fun i o => if P i then { cls := .none, data := .freed } else o, h.life⟩
theorem hid_in {h : Heap} {P : Addr → Prop} {a : Addr} (ha : P a) : (hid h P).get? a = Option.none := by
  classical
  unfold hid Heap.get?
  simp only [Array.getElem?_mapIdx]
  cases h.objs[a]? with
  | none => rfl
  | some o => simp [ha]
theorem hid_off {h : Heap} {P : Addr → Prop} {a : Addr} (ha : ¬ P a) : (hid h P).get? a = h.get? a := by
  classical
  unfold hid Heap.get?
  simp only [Array.getElem?_mapIdx]
  cases h.objs[a]? with
  | none => rfl
  | some o => simp [ha]
theorem hid_keep {h : Heap} {P : Addr → Prop} : Keep (hid h P) h := fun b o e => by
  by_cases hb : P b
  · rw [hid_in hb] at e; cases e
  · rwa [hid_off hb] at e

section
variable {prog : Program} {w : World} {hB : Bs} {n : Nat} {K : Frag} {env : Env} {ρ ρc : List (Str × D)} {μ μ' : List (Str × Ow)} {X Y M : Addr → Prop} {B Bc : List Str} {scope : Scope} {Q : Po}

theorem Wd.up {h' : Heap} {N : Nat} (W : Wd hB K) (k : Keep hB.h h') : Wd ⟨h', N⟩ K := by
  obtain ⟨mg, hg⟩ := W.g
  obtain ⟨mb, hb, hbb⟩ := W.b
  obtain ⟨mc, hc, hn⟩ := W.nb
  exact ⟨W.X.keeps k, ⟨mg, hg.keeps k⟩, ⟨mb, hb.keeps k, hbb⟩, W.nolimit.keeps k, ⟨mc, hc.keeps k, hn⟩⟩

/-- an expression that makes objects, and gives the first of them -/
def EvO (prog : Program) (w : World) (hB : Bs) (n : Nat) (env : Env) (ρ : List (Str × D)) (e : PySem.Expr) (P : Addr → List (Addr × Obj) → Prop) : Prop :=
  ∀ A X s E, Room n A → SOk prog w hB X env ρ s → wpAny (model prog w) A (eval e env) (fun v s' => Gone s s' ∧ ∃ m os, v = .ref m ∧ P m os ∧
    ∀ p ∈ os, s.heap.get? p.1 = Option.none ∧ s'.heap.get? p.1 = some p.2 ∧ (∀ es k, p.2.data ≠ .dict es k) ∧ (∀ u, p.2.data ≠ .cell u)) E s

theorem Sta.over {s : Shared} (S : Sta prog w hB Y M B env ρ μ s) : Sta prog w ⟨hid s.heap (YM Y M), hB.lo⟩ Y M B env ρ μ s ∧ Keep hB.h (hid s.heap (YM Y M)) := by
  refine ⟨⟨⟨⟨hid_keep, S.ok.sit.live, fun a ha => hid_in ha, S.ok.sit.tlo⟩, S.ok.apart, S.ok.names⟩, S.frm, S.own⟩, fun b o e => ?_⟩
  by_cases hb : YM Y M b
  · rw [S.ok.sit.off b hb] at e; cases e
  · rw [hid_off hb]; exact S.ok.sit.base b o e
theorem Sta.back {s : Shared} {h' : Heap} (S : Sta prog w ⟨h', hB.lo⟩ Y M B env ρ μ s) (k : Keep hB.h h') : Sta prog w hB Y M B env ρ μ s := by
  refine ⟨⟨⟨k.trans S.ok.sit.base, S.ok.sit.live, fun a ha => ?_, S.ok.sit.tlo⟩, S.ok.apart, S.ok.names⟩, S.frm, S.own⟩
  cases q : hB.h.get? a with
  | none => rfl
  | some o => exact absurd ((S.ok.sit.off a ha).symm.trans (k a o q)) (by intro z; cases z)

theorem Ex.assignO {x : Str} {pos' pos : Pos} {e : PySem.Expr} {P : Addr → List (Addr × Obj) → Prop} {rest : List Stmt} (he : EvO prog w hB n env ρ e P) (hx : x ∈ B)
    (h : ∀ h' m os, Keep hB.h h' → P m os → (∀ p ∈ os, h'.get? p.1 = some p.2) → Ex prog w ⟨h', hB.lo⟩ n B env ((x, .val (.ref m)) :: ρ) (dropO x μ) rest Q)
    (hs : swapsWith e (some (.Name x pos')) pos.line env = pure false := by rfl) : Ex prog w hB n B env ρ μ (.Assign [.Name x pos'] e pos :: rest) Q := by
  intro A Y M s E hr S
  refine wpAny_execs_cons (wpAny_Assign_Name (wpAny_mono (he A _ s E hr S.ok) (fun v s₁ h₁ => ?_) fun _ _ e => e) hs)
  obtain ⟨g, m, os, rfl, hP, hos⟩ := h₁
  refine (S.keep g).bindN (.val (.ref m)) hx fun s₂ g₂ _ hk S₂ => ?_
  obtain ⟨S₃, k3⟩ := S₂.over
  have hoff : ∀ p ∈ os, (hid s₂.heap (YM Y M)).get? p.1 = some p.2 := fun p hp => by
    obtain ⟨h1, h2, h3, h4⟩ := hos p hp
    rw [hid_off (fun hx => by
      obtain ⟨o, e⟩ := S.ok.sit.live _ hx
      rw [h1] at e; cases e)]
    exact hk _ _ h2 h3 h4
  refine wpAny_mono (h _ m os k3 hP hoff A Y M s₂ E hr S₃) (fun f s₄ h₄ => ?_) fun _ _ e => e
  obtain ⟨g4, fl, M', ρ', μ', q1, q2, q3, q4⟩ := h₄
  exact Post.step (g.went.trans g₂) (Sub.refl _ _) ⟨g4, fl, M', ρ', μ', q1, q2, q3.back k3, q4⟩
end
end Mine

set_option maxHeartbeats 1000000
namespace Mine
open PySem PySem.W PyProof.Rows PySem.Calls PySem.Builtin PySem.Builtin.Re

section
variable {prog : Program} {w : World} {hB : Bs} {n : Nat} {K : Frag} {env : Env} {ρ ρc : List (Str × D)} {μ μ' : List (Str × Ow)} {X Y M : Addr → Prop} {B Bc : List Str} {scope : Scope} {Q : Po}

/-- a call that makes objects -/
def GivO (prog : Program) (w : World) (hB : Bs) (n : Nat) (f : List Value → Sem Value) (ds : List D) (P : Addr → List (Addr × Obj) → Prop) : Prop :=
  ∀ A X s E vs, Room n A → Sit hB X s → RdL prog w X s vs ds → wpAny (model prog w) A (f vs) (fun v s' => Gone s s' ∧ ∃ m os, v = .ref m ∧ P m os ∧
    ∀ p ∈ os, s.heap.get? p.1 = Option.none ∧ s'.heap.get? p.1 = some p.2 ∧ (∀ es k, p.2.data ≠ .dict es k) ∧ (∀ u, p.2.data ≠ .cell u)) E s

theorem EvO.methodB {o e : PySem.Expr} {es : List PySem.Expr} {name : Str} {apos pos : Pos} {a : D} {ds : List D} {T id : String} {P : Addr → List (Addr × Obj) → Prop} (pa : PlainAttrs T) (slot : Slot T name id) (hty : typeOf (.builtin id) = pure (.type "method_descriptor"))
    (ho : Ev prog w hB n env ρ o a) (hT : HasM prog w hB a T) (hes : EvL prog w hB n env ρ pos (e :: es) ds) (hg : GivO prog w hB n (fun vs => PySem.call (.builtin id) vs) (a :: ds) P)
    (hbase : attributeBase o name env (eval o env) = eval o env := by rfl)
    (hfew : ((backTo pos (starEach (e :: es) env)).all (fun x => !x.1) && (backToKw pos (keywordEach [] env)).all (fun x => x.1.isSome)
      && decide ((e :: es).length + ([] : List Keyword).length + (if ([] : List Keyword).isEmpty then 0 else 1) < 30)) = true := by rfl)
    (hline : (apos.endLine == pos.line) = true := by rfl) (he : backTo pos (starEach (e :: es) env) = (false, eval e env) :: backTo pos (starEach es env) := by rfl) (hplain : (backTo pos (starEach (e :: es) env)).any (·.1) = false := by rfl) :
    EvO prog w hB n env ρ (.Call (.Attribute o name apos) (e :: es) [] pos) P := by
  intro A X s E hr S
  refine wpAny_Call_method hbase hfew hline pa slot hty (wpAny_mono (ho A X s E hr S) (fun v s₁ h₁ => ?_) fun _ _ e => e)
  obtain ⟨g, r⟩ := h₁
  have S1 := S.keep g
  obtain ⟨h1, h2⟩ := hT.go X s₁ v S1.sit r
  refine ⟨h1, h2, callWith_builtin hplain ?_⟩
  have hh := hes A X s₁ E hr S1
  rw [he] at hh ⊢
  refine evalArgs_plain (wpAny_mono hh (fun vs s₂ h₃ => ?_) fun _ _ e => e)
  obtain ⟨g2, r2⟩ := h₃
  refine wpAny_mono (hg A X s₂ E (v :: vs) hr (S1.keep g2).sit (RdL.cons (r.keep g2) r2)) (fun u s₃ h₄ => ?_) fun _ _ e => e
  obtain ⟨g3, m, os, q1, q2, q3⟩ := h₄
  exact ⟨(g.trans g2).trans g3, m, os, q1, q2, fun p hp => ⟨gone_none (g.trans g2) (q3 p hp).1, (q3 p hp).2⟩⟩
end

namespace Re
section
variable {prog : Program} {w : World} {hB : Bs} {n : Nat} {K : Frag}
def bN (b : Array UInt8) : Array Nat := b.map (·.toNat)
theorem textOf_bytes {b : Array UInt8} {t : Tok} : reTextOf (.bytes b t) = pure (bN b, 1) := by
  have e1 : asStr? (.bytes b t) = pure Option.none := by rfl
  unfold reTextOf
  rw [e1]
  show ((Bytes.bufferQuiet? "_sre" (.bytes b t)) >>= _) = _
  rw [KBy.quiet_eq]
  rfl
theorem noCol_bytes {b : Array UInt8} {t : Tok} : reNoCollectionInside (.bytes b t) 1 = pure () := by
  unfold reNoCollectionInside
  show (isInstance (.bytes b t) (.type "bytes") >>= _) = _
  rw [KBy.isInstance_eq]
  rfl

def mach (code : Array Nat) (b : Array UInt8) (k : Nat) : Sre.M := drive k (Sre.forMatch code (bN b) 1 0 (bN b).size false false)
/-- the machine finds b0 up to b1 as its first group -/
structure Hit (code : Array Nat) (b : Array UInt8) (k b0 b1 : Nat) : Prop where
  few : k < 1000
  out : (mach code b k).outcome = some .matched
  last : (mach code b k).lastmark = 1
  m0 : (mach code b k).marks.getD 0 none = some b0
  m1 : (mach code b k).marks.getD 1 none = some b1
  le : b0 ≤ b1

/-- the objects of a match -/
def MatchOs (P : Addr) (b : Array UInt8) (b0 b1 : Nat) (m : Addr) (os : List (Addr × Obj)) : Prop :=
  ∃ tt t v2 v3 v4 x0 x1, os = [(m, { cls := .type "re.Match", data := .fields #[.bytes b t, .ref P, v2, v3, v4, .ref tt] }), (tt, { cls := .type "tuple", data := .seq #[x0, x1, rawInt b0, rawInt b1] 0 })]

theorem wp_newMatch {M : Model} {A : Around} {E : Value → Shared → Prop} {s : Shared} {code : Array Nat} {b : Array UInt8} {k b0 b1 pos lim : Nat} {t : Tok} {P : Addr} {Q : Value → Shared → Prop} (H : Hit code b k b0 b1)
    (h : ∀ m os s', Gone s s' → MatchOs P b b0 b1 m os → (∀ p ∈ os, s.heap.get? p.1 = Option.none ∧ s'.heap.get? p.1 = some p.2 ∧ (∀ es k, p.2.data ≠ .dict es k) ∧ (∀ u, p.2.data ≠ .cell u)) → Q (.ref m) s') :
    wpAny M A (reNewMatch (.ref P) (.bytes b t) 1 pos lim (mach code b k)) Q E s := by
  unfold reNewMatch
  have hl : List.range 1 = [0] := by rfl
  have c1 : ((2 * 0 + 1 : Nat) : Int) ≤ (mach code b k).lastmark := by rw [H.last]; decide
  have e0 : (mach code b k).marks.getD (2 * 0) none = some b0 := H.m0
  have e1 : (mach code b k).marks.getD (2 * 0 + 1) none = some b1 := H.m1
  have hle : decide (b1 < b0) = false := decide_eq_false (by have := H.le; omega)
  rw [hl]
  simp only [List.flatMap_cons, List.flatMap_nil, List.any_cons, List.any_nil, if_pos c1, e0, e1, hle, Bool.and_false, Bool.or_false, Bool.false_eq_true, if_false, List.append_nil]
  refine wpAny_bind (wpAny_newTuple ?_ (by rw [sizeLine_eq]; exact Nat.le_of_ble_eq_true rfl))
  have hsz : (s.heap.push { cls := .type "tuple", data := .seq #[rawInt (mach code b k).start, rawInt (mach code b k).handed, rawInt b0, rawInt b1] }).objs.size = s.heap.objs.size + 1 := Heap.size_push _ _
  refine wpAny_newObj_type ?_ (by rw [sizeOk, sizeLine_eq]; exact Nat.le_of_ble_eq_true rfl)
  refine h _ [(_, { cls := .type "re.Match", data := .fields #[.bytes b t, .ref P, rawInt pos, rawInt lim, rawInt (mach code b k).lastindex, .ref s.heap.objs.size] }), (s.heap.objs.size, { cls := .type "tuple", data := .seq #[rawInt (mach code b k).start, rawInt (mach code b k).handed, rawInt b0, rawInt b1] 0 })] _ ((Gone.push s _).trans (Gone.push _ _)) ⟨s.heap.objs.size, t, _, _, _, _, _, rfl⟩ ?_
  intro p hp
  rcases List.mem_cons.mp hp with rfl | hp
  · exact ⟨get?_ge (by show s.heap.objs.size ≤ (s.heap.push _).objs.size; rw [Heap.size_push]; exact Nat.le_succ _), Heap.get?_push_size _ rfl, (fun _ _ z => nomatch z), fun _ z => nomatch z⟩
  · rcases List.mem_cons.mp hp with rfl | hp
    · exact ⟨get?_size_none _, Heap.get?_push_of_some _ (Heap.get?_push_size _ rfl), (fun _ _ z => nomatch z), fun _ z => nomatch z⟩
    · cases hp

section
variable {P C : Addr} {o oc : Obj} {fs items : Array Value} {k t6 : Nat} {code : Array Nat} {b : Array UInt8}
theorem match_start (W : Wd hB K) (ho : K.lookup P = some o) (hc : o.cls = .type "re.Pattern") (hf : o.data = .fields fs) (h6 : fs.getD 6 .none = .int 1 t6) {t2 : Nat} (h2 : fs.getD 2 .none = .int 1 t2) (h5 : fs.getD 5 .none = .ref C)
    (hC : K.lookup C = some oc) (hCd : oc.data = .seq items k) (hcode : (items.map reRawOf).map (·.toNat) = code) (hb : b.size ≤ 1000) {A : Around} {X : Addr → Prop} {s : Shared} {E : Value → Shared → Prop} {t : Tok} {Q : Value → Shared → Prop} (S : Sit hB X s)
    (h : wpAny (model prog w) A.in1 (reRunToEnd (Sre.forMatch code (bN b) 1 0 (bN b).size false false)) (fun r s' => match r with
      | some m => wpAny (model prog w) A.in1 (reNewMatch (.ref P) (.bytes b t) 1 0 (bN b).size m) Q E s'
      | Option.none => Q .none s') E s) : wpAny (model prog w) A (PySem.call (.builtin "re.Pattern.match") [.ref P, .bytes b t]) Q E s := by
  have eP := S.base _ _ (W.X _ _ ho)
  have eC := S.base _ _ (W.X _ _ hC)
  refine wpAny_call_entry slotMatch ⟨_, eP, hc⟩ entryMatch ?_ (argsMatch _ _)
  unfold Builtin.«re.Pattern.match» reTarget
  dsimp only
  rw [named]
  refine wpAny_bind (wpAny_bind (wpAny_pure ?_))
  dsimp only
  refine wpAny_bind (wpAny_pure (wpAny_bind (wpAny_pure (wpAny_bind (wpAny_fieldsOf eP hf ?_)))))
  rw [textOf_bytes]
  refine wpAny_bind (wpAny_pure ?_)
  dsimp only
  rw [h6, h5, h2]
  have c1 : (reRawNat (Value.int 1 t6) == 0 && (1 : Nat) == 1) = false := by rfl
  have c2 : (reRawNat (Value.int 1 t6) == 1 && (1 : Nat) == 0) = false := by rfl
  rw [c1, c2]
  simp only [Bool.false_eq_true, if_false]
  refine wpAny_bind (wpAny_of_eq noCol_bytes (wpAny_bind (wp_rawItems eC hCd (wpAny_pure ?_))))
  dsimp only
  rw [hcode]
  have hsz : (bN b).size = b.size := by simp [bN]
  have hlim : min (2 ^ 63 - 1 : Int).toNat (bN b).size = (bN b).size := by
    rw [hsz]; exact Nat.min_eq_right (by have : (2 ^ 63 - 1 : Int).toNat = 9223372036854775807 := by decide
                                         rw [this]; omega)
  have hpos : min (Int.toNat 0) (bN b).size = 0 := by simp
  rw [hlim, hpos]
  unfold reAnswer
  refine wpAny_bind (wpAny_mono h (fun r s' h' => ?_) fun _ _ e => e)
  cases r with
  | none => exact wpAny_pure ⟨_, rfl, h'⟩
  | some m => exact wpAny_bind (wpAny_mono h' (fun v s'' h'' => wpAny_pure ⟨_, rfl, h''⟩) fun _ _ e => e)

theorem GivL.matchNo (W : Wd hB K) (ho : K.lookup P = some o) (hc : o.cls = .type "re.Pattern") (hf : o.data = .fields fs) (h6 : fs.getD 6 .none = .int 1 t6) {t2 : Nat} (h2 : fs.getD 2 .none = .int 1 t2) (h5 : fs.getD 5 .none = .ref C)
    (hC : K.lookup C = some oc) (hCd : oc.data = .seq items k) (hcode : (items.map reRawOf).map (·.toNat) = code) (hb : b.size ≤ 1000) {j : Nat} (hj : j < 1000) (hno : (mach code b j).outcome = some .failed) :
    GivL prog w hB n (fun vs => PySem.call (.builtin "re.Pattern.match") vs) [.val (.ref P), .bytes b] .none := by
  intro A X s E vs hr S r
  obtain ⟨v, u, rfl, r1, r2⟩ := r.two
  cases r1
  obtain ⟨t, rfl⟩ := r2.bytes_inv
  refine match_start W ho hc hf h6 h2 h5 hC hCd hcode hb S ?_
  exact wp_runToEnd (k := j) (Nat.lt_trans hj (by decide)) rfl (.inl ⟨hno, Gone.refl _, .none⟩)

theorem GivO.matchYes (W : Wd hB K) (ho : K.lookup P = some o) (hc : o.cls = .type "re.Pattern") (hf : o.data = .fields fs) (h6 : fs.getD 6 .none = .int 1 t6) {t2 : Nat} (h2 : fs.getD 2 .none = .int 1 t2) (h5 : fs.getD 5 .none = .ref C)
    (hC : K.lookup C = some oc) (hCd : oc.data = .seq items k) (hcode : (items.map reRawOf).map (·.toNat) = code) (hb : b.size ≤ 1000) {j b0 b1 : Nat} (H : Hit code b j b0 b1) :
    GivO prog w hB n (fun vs => PySem.call (.builtin "re.Pattern.match") vs) [.val (.ref P), .bytes b] (MatchOs P b b0 b1) := by
  intro A X s E vs hr S r
  obtain ⟨v, u, rfl, r1, r2⟩ := r.two
  cases r1
  obtain ⟨t, rfl⟩ := r2.bytes_inv
  refine match_start W ho hc hf h6 h2 h5 hC hCd hcode hb S ?_
  refine wp_runToEnd (k := j) (Nat.lt_trans H.few (by decide)) rfl (.inr ⟨H.out, ?_⟩)
  exact wp_newMatch H fun m os s' g hm h => ⟨g, m, os, rfl, hm, h⟩
end
end
end Re
end Mine

set_option maxHeartbeats 1000000
namespace Mine
open PySem PySem.W PyProof.Rows PySem.Calls PySem.Builtin PySem.Builtin.Re
namespace Re
section
variable {prog : Program} {w : World} {hB : Bs} {n : Nat} {K : Frag}

theorem noIndex_str : typeLookup (.type "str") "__index__" = pure none := by rw [typeLookup_type, builtinLookup_eq_fast]; kernel_rfl
theorem noBool_match : typeLookup (.type "re.Match") "__bool__" = pure none := by rw [typeLookup_type, builtinLookup_eq_fast]; kernel_rfl
theorem noLen_match : typeLookup (.type "re.Match") "__len__" = pure none := by rw [typeLookup_type, builtinLookup_eq_fast]; kernel_rfl

theorem GivB.matched {m : Addr} {o : Obj} (hm : hB.h.get? m = some o) (hc : o.cls = .type "re.Match") : GivB prog w hB n (.val (.ref m)) true := by
  intro A X s E v hr S r
  cases r
  have e := S.base _ _ hm
  unfold truthy
  refine wpAny_bind (wpAny_callSpecial?_none (self := .ref m) (T := "re.Match") ⟨_, e, hc⟩ noBool_match ?_)
  refine wpAny_bind (wpAny_specialOf (v := .ref m) (T := "re.Match") ⟨_, e, hc⟩ noLen_match ?_)
  exact wpAny_pure ⟨Gone.refl _, rfl⟩

/-- a dict of names to ints holds one name -/
def OneName (K : Frag) (w : World) (d : Addr) (x : Str) (i : Int) : Prop := ∃ t t' ep, K.lookup d = some { cls := .type "dict", data := .dict #[{ hash := PyData.keyHash w.params x, key := .str x t, val := .int i t' }] ep }

theorem wp_oneName {A : Around} {E : Value → Shared → Prop} {s : Shared} {d : Addr} {x : Str} {i : Int} {u : Tok} {Q : Option Value → Shared → Prop} (W : Wd hB K) (k : Keep hB.h s.heap) (h : OneName K w d x i) (hQ : ∀ t, Q (some (.int i t)) { s with toks := s.toks + 1 }) :
    wpAny (model prog w) A (dictGet d (.str x u)) Q E s := by
  obtain ⟨t, t', ep, ho⟩ := h
  have e := k _ _ (W.X _ _ ho)
  refine wpAny_dictGet_of (knd := PySem.strKind prog w) (f := fun y => if x = y then some (.int i t') else Option.none) (by show Value.isStrOf x (.str x u) = true; simp [Value.isStrOf]) ⟨_, _, _, e, ⟨rfl, rfl, rfl⟩, rfl, ?_, ?_⟩ ?_
  · intro en hen
    simp only [List.mem_toArray, List.mem_cons, List.not_mem_nil, or_false] at hen
    subst hen
    exact ⟨x, by show Value.isStrOf x (.str x t) = true; simp [Value.isStrOf], rfl⟩
  · intro y
    simp [findBy, PySem.strKind, Value.isStrOf]
  · rw [if_pos rfl]; exact hQ t'

theorem group_eq (v g : Value) : «re.Match.group» ⟨[v, g], []⟩ = (do let x ← reFound v; ret (← reGroupText x (← reGroupNumber x g) .none)) := by rfl
theorem asStrInt {x : Str} {t : Tok} : asInt? (.str x t) = pure Option.none := by rfl

theorem GivL.group {P m dg : Addr} {os : List (Addr × Obj)} {b : Array UInt8} {b0 b1 : Nat} {o : Obj} {fs : Array Value} {d : D} {x : S} (W : Wd hB K) (ho : K.lookup P = some o) (hf : o.data = .fields fs) (h3 : fs.getD 3 .none = .ref dg) (hd : OneName K w dg (tx x) 1) (hx : IsS d x)
    (hm : MatchOs P b b0 b1 m os) (hos : ∀ p ∈ os, hB.h.get? p.1 = some p.2) (hb : b.size ≤ 1000) {g : Array UInt8} (hg : ((bN b).extract b0 b1).map (·.toUInt8) = g) (hgs : g.size ≤ 1000) :
    GivL prog w hB n (fun vs => PySem.call (.builtin "re.Match.group") vs) [.val (.ref m), d] (.bytes g) := by
  intro A X s E vs hr S r
  obtain ⟨v, u, rfl, r1, r2⟩ := r.two
  cases r1
  obtain ⟨t', rfl⟩ := hx.rd r2
  obtain ⟨tt, t, v2, v3, v4, x0, x1, rfl⟩ := hm
  have em := S.base _ _ (hos _ (.head _))
  have et := S.base _ _ (hos _ (.tail _ (.head _)))
  have eP := S.base _ _ (W.X _ _ ho)
  refine wpAny_call_entry slotGroup (self := .ref m) ⟨_, em, rfl⟩ entryGroup ?_ (argsGroup _ _)
  rw [group_eq]
  unfold reFound
  refine wpAny_bind (wpAny_bind (wpAny_fieldsOf em rfl (wpAny_bind (wp_rawItems et rfl (wpAny_pure ?_)))))
  unfold reGroupNumber
  rw [asStrInt]
  refine wpAny_bind (wpAny_bind (wpAny_pure ?_))
  dsimp only
  rw [if_neg (by decide)]
  refine wpAny_bind (wpAny_specialOf (v := .str (tx x) t') (typeIs_str _ _ _) noIndex_str ?_)
  rw [if_neg (by decide)]
  refine wpAny_bind (wpAny_fieldsOf eP hf ?_)
  rw [h3]
  refine wpAny_bind (wp_oneName W S.base hd fun t9 => ?_)
  refine wpAny_bind (m := asInt? (.int 1 t9)) (wpAny_pure (wpAny_bind (wpAny_pure ?_)))
  rw [if_neg (by simp)]
  refine wpAny_pure ?_
  show wpAny _ _ (reGroupText _ 1 .none >>= fun r => ret r) _ _ _
  have q1 : (Array.map reRawOf #[x0, x1, rawInt (b0 : Int), rawInt (b1 : Int)]).getD (2 * 1) (-1) = (b0 : Int) := by simp [reRawOf, rawInt]
  have q2 : (Array.map reRawOf #[x0, x1, rawInt (b0 : Int), rawInt (b1 : Int)]).getD (2 * 1 + 1) (-1) = (b1 : Int) := by simp [reRawOf, rawInt]
  unfold reGroupText
  dsimp only
  rw [q1, q2]
  have c : (decide ((b0 : Int) < 0) || decide ((b1 : Int) < 0)) = false := by
    rw [decide_eq_false (by omega), decide_eq_false (by omega)]; rfl
  rw [c]
  refine wpAny_bind ?_
  rw [if_neg (by decide)]
  show wpAny _ _ (reTextOf (.bytes b t) >>= fun r => _) _ _ _
  rw [textOf_bytes]
  refine wpAny_bind (wpAny_pure ?_)
  unfold reSlice
  dsimp only
  rw [if_neg (by decide), Int.toNat_natCast, Int.toNat_natCast, hg]
  refine wpAny_mkBytes (wpAny_pure ⟨_, rfl, Gone.tok _ _ ?_, .bytes _ _⟩) (by rw [sizeLine_eq]; omega)
  show s.toks ≤ s.toks + 1 + 1
  omega
end
end Re
end Mine

set_option maxHeartbeats 1000000
namespace Mine
open PySem PySem.W PyProof.Rows PySem.Calls
namespace Sets

def textOf : Int × Value → S
  | (_, .str y _) => y.cps.toList
  | _ => []
def ByText (w : World) : Bool := w.params.followText "set-order"

/-- the elements are strs -/
def ElS (w : World) (es : List (Int × Value)) : Prop := ∀ e ∈ es, ∃ x t, e.2 = .str (tx x) t ∧ e.1 = hashStr w (tx x)

/-- a set of strs: what it holds, and how its table stands -/
structure SetData (w : World) (es : Array (Int × Value)) (t : SetTable) (L : List S) : Prop where
  el : ElS w es.toList
  perm : (es.toList.map textOf).Perm L
  few : es.size < scanBound
  fits : t.fits es.size = true
  plain : es.size ≠ 0 → t.plain = false
  led : t.led = !ByText w

def SetIs (w : World) (h : Heap) (a : Addr) (L : List S) : Prop :=
  ∃ o es ep t, h.get? a = some o ∧ o.ExactSet ∧ o.data = .set es ep t ∧ SetData w es t L

section
variable {prog : Program} {w : World} {A : Around} {E : Value → Shared → Prop} {s : Shared}

theorem ElS.of {es : List (Int × Value)} (h : ElS w es) : ElemsOf (PySem.strKind prog w) es := fun e he => by
  obtain ⟨x, t, h1, h2⟩ := h e he
  refine ⟨⟨tx x, ?_, h2⟩, by rw [h1]; rfl⟩
  show Value.isStrOf (tx x) e.2 = true
  rw [h1]; simp [Value.isStrOf]
theorem ElS.find {es : List (Int × Value)} (h : ElS w es) (x : S) : (∃ e ∈ es, (PySem.strKind prog w).is (tx x) e.2 = true) ↔ x ∈ es.map textOf := by
  constructor
  · rintro ⟨e, he, hp⟩
    obtain ⟨y, t, h1, _⟩ := h e he
    have hp : Value.isStrOf (tx x) e.2 = true := hp
    rw [h1] at hp
    have hp : (tx y == tx x) = true := hp
    have : tx y = tx x := by simpa using hp
    have := tx_inj this
    subst this
    refine List.mem_map.mpr ⟨e, he, ?_⟩
    obtain ⟨i, v⟩ := e
    have h1 : v = _ := h1
    subst h1
    exact tx_toList _
  · intro hx
    obtain ⟨e, he, hp⟩ := List.mem_map.mp hx
    obtain ⟨y, t, h1, _⟩ := h e he
    refine ⟨e, he, ?_⟩
    show Value.isStrOf (tx x) e.2 = true
    obtain ⟨i, v⟩ := e
    have h1 : v = _ := h1
    subst h1
    have hp : (tx y).cps.toList = x := hp
    rw [tx_toList] at hp
    subst hp
    simp [Value.isStrOf]
theorem ElS.perm {l l' : List (Int × Value)} (h : ElS w l) (p : List.Perm l' l) : ElS w l' := fun e he => h e (p.mem_iff.mp he)

theorem orStandIn_led (t : SetTable) (n : Nat) : (t.orStandIn n).led = t.led ∧ ((t.orStandIn n).plain = t.plain ∨ (t.orStandIn n).plain = false) := by
  unfold SetTable.orStandIn
  split
  · exact ⟨rfl, .inl rfl⟩
  · exact ⟨rfl, .inr rfl⟩
theorem layNew_led (t : SetTable) (es : Array (Int × Value)) (h : Int) (x : Value) : (layNew t es h x).2.1.led = t.led ∧ ((layNew t es h x).2.1.plain = t.plain ∨ (layNew t es h x).2.1.plain = false) := by
  unfold layNew
  split
  · rename_i slot wd e
    exact orStandIn_led (t.put slot).1 _
  · exact ⟨rfl, .inr rfl⟩
theorem laid_led {mask finger moves : Nat} {led plain : Bool} {hs : Array Int} {t : SetTable} {o : Array Nat} (h : SetTable.laid mask finger moves led plain hs = some (t, o)) : t.led = led ∧ t.plain = plain := by
  unfold SetTable.laid at h
  simp only [Option.bind_eq_bind, Option.pure_def, Option.bind_eq_some_iff, Option.some.injEq, Prod.mk.injEq] at h
  obtain ⟨owner, _, rfl, _⟩ := h
  exact ⟨rfl, rfl⟩
theorem relayAll_led (t : SetTable) (es : Array (Int × Value)) (wanted : Nat) (hp : t.plain = false) : (relayAll t es wanted).2.1.led = t.led ∧ (relayAll t es wanted).2.1.plain = false := by
  unfold relayAll
  split
  · rename_i t' order e
    have := laid_led e
    dsimp only
    split
    · exact ⟨this.1, this.2.trans hp⟩
    · exact ⟨rfl, rfl⟩
  · exact ⟨rfl, rfl⟩

/-- a text is put into a list that does not hold it -/
def addS (L : List S) (x : S) : List S := if x ∈ L then L else L ++ [x]

theorem data_store {h : Heap} {a : Addr} {o : Obj} {es : Array (Int × Value)} {ep : Nat} {t : SetTable} (ho : h.get? a = some o) (hex : o.ExactSet) (hd : o.data = .set es ep t)
    {es' : Array (Int × Value)} {t' : SetTable} : (h.update a (Obj.putSet es' t')).get? a = some { o with data := .set es' (ep + 1) t' } := by
  have := Heap.get?_update_self (Obj.putSet es' t') ho (by rw [putSet_of es' t' hd]; rfl)
  rw [putSet_of es' t' hd] at this; exact this

theorem wp_addTail {g : Bool → Sem Unit} (hg : ∀ (b : Bool) (s₁ : Shared) (Q' : Unit → Shared → Prop), Q' () s₁ → wpAny (model prog w) A (g b) Q' E s₁)
    {a : Addr} {o : Obj} {es : Array (Int × Value)} {ep : Nat} {t : SetTable} (ho : s.heap.get? a = some o) (hex : o.ExactSet) (hd : o.data = .set es ep t)
    {es1 : Array (Int × Value)} {t2 : SetTable} {L : List S} (hD : SetData w es1 t2 L) (hp2 : t2.plain = false) {wasDummy : Bool} {R : Option Bool → Shared → Prop}
    (h : ∀ h', Heap.SameBut a s.heap h' → SetIs w h' a L → R (some true) { s with heap := h' }) :
    wpAny (model prog w) A (do
        storeSet a es1 t2
        if (!wasDummy && t2.tooFull) = true then do
            g (relayAll t2 es1 (SetTable.grown es1.size)).2.2
            storeSet a (relayAll t2 es1 (SetTable.grown es1.size)).1 (relayAll t2 es1 (SetTable.grown es1.size)).2.1
            pure (some true)
          else pure (some true)) R E s := by
  refine wpAny_bind (wpAny_storeSet_of ho hd ?_ (fits_of_scanBound hD.few))
  have ho1 := data_store (es' := es1) (t' := t2) ho hex hd
  have hsb1 := Heap.SameBut.update s.heap a (Obj.putSet es1 t2)
  split
  · have hp := relayAll_perm t2 es1 (SetTable.grown es1.size)
    have hfr := relayAll_fits t2 es1 (SetTable.grown es1.size)
    have hl := relayAll_led t2 es1 (SetTable.grown es1.size) hp2
    generalize hRl : relayAll t2 es1 (SetTable.grown es1.size) = Rl at hp hfr hl ⊢
    obtain ⟨es2, t3, gave2⟩ := Rl
    dsimp only at hp hfr hl ⊢
    have hsz : es2.size = es1.size := by rw [← Array.length_toList, hp.length_eq, Array.length_toList]
    refine wpAny_bind (hg _ _ _ ?_)
    refine wpAny_bind (wpAny_storeSet_of ho1 rfl ?_ (fits_of_scanBound (by rw [hsz]; exact hD.few)))
    have ho2 := data_store (es' := es2) (t' := t3) ho1 hex rfl
    exact wpAny_pure (h _ (hsb1.trans (Heap.SameBut.update _ a _)) ⟨_, es2, _, t3, ho2, hex, rfl, hD.el.perm hp, (hp.map _).trans hD.perm, by rw [hsz]; exact hD.few, hfr, fun _ => hl.2, hl.1.trans hD.led⟩)
  · exact wpAny_pure (h _ hsb1 ⟨_, es1, _, t2, ho1, hex, rfl, hD⟩)

theorem wp_setAdd {a : Addr} {L : List S} {x : S} {tk : Tok} {Q : Bool → Shared → Prop} (hS : SetIs w s.heap a L) (hroom : L.length + 1 < scanBound)
    (h : ∀ b h', Heap.SameBut a s.heap h' → SetIs w h' a (addS L x) → Q b { s with heap := h', toks := s.toks + 1 }) :
    wpAny (model prog w) A (setAdd a (.str (tx x) tk)) Q E s := by
  obtain ⟨o, es, ep, t, ho, hex, hd, hD⟩ := hS
  have hkey : (PySem.strKind prog w).is (tx x) (.str (tx x) tk) = true := by show Value.isStrOf (tx x) (.str (tx x) tk) = true; simp [Value.isStrOf]
  have hsc : (Value.str (tx x) tk).scannable = true := rfl
  have hn : es.size = L.length := by rw [← Array.length_toList, ← List.length_map (f := textOf), hD.perm.length_eq]
  have hb1 : es.size + 1 < scanBound := by rw [hn]; exact hroom
  unfold setAdd
  refine wpAny_holding (wpAny_bind ((PySem.strKind prog w).pyHash hkey ?_))
  unfold setAddHashed setAddHashedIn
  refine wpAny_holding (wpAny_bind (wpAny_setState_of (s := { s with toks := s.toks + 1 }) ho hd hD.fits ?_))
  dsimp only
  rw [byScan_of hsc hD.few (hD.el.of (prog := prog))]
  simp only [↓reduceIte]
  unfold setAddByScan
  refine wpAny_bind ?_
  refine wpAny_bind (wpAny_rule ?_)
  refine wpAny_bind (wpAny_setScan_of (s := { s with toks := s.toks + 1 }) hkey ho hd hD.fits (hD.el.of (prog := prog)) ?_)
  have hfind := hD.el.find (prog := prog) x
  cases hr : List.findIdx? (fun e => (PySem.strKind prog w).is (tx x) e.2) es.toList with
  | some j =>
    dsimp only
    obtain ⟨hj, hpj, _⟩ := List.findIdx?_eq_some_iff_getElem.mp hr
    have hx : x ∈ L := hD.perm.mem_iff.mp (hfind.mp ⟨es.toList[j], List.getElem_mem hj, hpj⟩)
    refine wpAny_pure (wpAny_pure (h _ s.heap (Heap.SameBut.refl a s.heap) ?_))
    unfold addS; rw [if_pos hx]
    exact ⟨o, es, ep, t, ho, hex, hd, hD⟩
  | none =>
    dsimp only
    have hx : x ∉ L := fun hx => by
      obtain ⟨e, he, hp⟩ := hfind.mpr (hD.perm.mem_iff.mpr hx)
      have := List.findIdx?_eq_none_iff.mp hr e he
      rw [hp] at this; cases this
    have hgw : ∀ (b : Bool) {s₁ : Shared} {Q' : Unit → Shared → Prop}, Q' () s₁ → wpAny (model prog w) A (match b with | true => rule "set.scan.the-table-gave-way" | false => pure ()) Q' E s₁ :=
      fun b s₁ Q' hq => by cases b <;> first | exact wpAny_pure hq | exact wpAny_rule hq
    have hperm := layNew_perm t es ((PySem.strKind prog w).hash (tx x)) (.str (tx x) tk)
    have hfits := layNew_fits t es ((PySem.strKind prog w).hash (tx x)) (.str (tx x) tk)
    have hled := layNew_led t es ((PySem.strKind prog w).hash (tx x)) (.str (tx x) tk)
    generalize hLn : layNew t es ((PySem.strKind prog w).hash (tx x)) (.str (tx x) tk) = Ln at hperm hfits hled ⊢
    obtain ⟨es1, t1, wasDummy, gave⟩ := Ln
    dsimp only at hperm hfits hled ⊢
    rw [Array.toList_push] at hperm
    have hel1 : ElS w es1.toList := by
      refine ElS.perm (fun e he => ?_) hperm
      rcases List.mem_append.mp he with he | he
      · exact hD.el e he
      · rw [List.mem_singleton] at he; subst he; exact ⟨x, tk, rfl, rfl⟩
    have hpm : (es1.toList.map textOf).Perm (addS L x) := by
      unfold addS; rw [if_neg hx]
      refine (hperm.map _).trans ?_
      rw [List.map_append]
      have e : [((PySem.strKind prog w).hash (tx x), Value.str (tx x) tk)].map textOf = [x] := by
        show [(tx x).cps.toList] = [x]; rw [tx_toList]
      rw [e]
      exact hD.perm.append_right _
    have hb1' : es1.size < scanBound := by rw [← Array.length_toList, hperm.length_eq, List.length_append, Array.length_toList]; simpa using hb1
    refine wpAny_bind (hgw _ ?_)
    have hend : ∀ h', Heap.SameBut a s.heap h' → SetIs w h' a (addS L x) → Q true { s with heap := h', toks := s.toks + 1 } := fun h' hsb hS' => h _ h' hsb hS'
    split
    · refine wpAny_bind ?_
      rw [hashByValue_scannable 8 hsc]
      refine wpAny_pure ?_
      refine wp_addTail (s := { s with toks := s.toks + 1 }) (L := addS L x) ?_ ho hex hd ?_ rfl ?_
      · intro b s₁ Q' hq; cases b <;> first | exact wpAny_pure hq | exact wpAny_rule hq
      · exact ⟨hel1, hpm, hb1', SetTable.fits_plain_off hfits, fun _ => rfl, hled.1.trans hD.led⟩
      · intro h' hsb hS'; dsimp only; exact wpAny_pure (hend h' hsb hS')
    · rename_i hpl
      have hpl : t1.plain = false := by cases q : t1.plain <;> simp_all
      refine wpAny_bind (wpAny_pure ?_)
      simp only [↓reduceIte]
      refine wp_addTail (s := { s with toks := s.toks + 1 }) (L := addS L x) ?_ ho hex hd ⟨hel1, hpm, hb1', hfits, fun _ => hpl, hled.1.trans hD.led⟩ hpl ?_
      · intro b s₁ Q' hq; cases b <;> first | exact wpAny_pure hq | exact wpAny_rule hq
      · intro h' hsb hS'; dsimp only; exact wpAny_pure (hend h' hsb hS')
end
end Sets
end Mine

set_option maxHeartbeats 4000000
namespace Mine
open PySem PySem.W PyProof.Rows PySem.Calls PySem.Builtin
section
theorem AreS.at {ds : List D} {ls : List S} (h : AreS ds ls) : ∀ (i : Nat) (h1 : i < ds.length) (h2 : i < ls.length), IsS ds[i] ls[i] := by
  induction h with
  | nil => intro i h1; exact absurd h1 (Nat.not_lt_zero _)
  | cons hd _ ih =>
    intro i h1 h2
    cases i with
    | zero => exact hd
    | succ i => exact ih i (by simpa using h1) (by simpa using h2)
end
namespace Sets

section
variable {prog : Program} {w : World} {hB : Bs} {n : Nat} {A : Around} {E : Value → Shared → Prop} {s : Shared}

theorem SetIs.at' {h h' : Heap} {a : Addr} {L : List S} (x : SetIs w h a L) (e : ∀ o, h.get? a = some o → h'.get? a = some o) : SetIs w h' a L :=
  let ⟨o, es, ep, t, ho, r⟩ := x; ⟨o, es, ep, t, e o ho, r⟩

theorem fresh_is {h : Heap} : SetIs w (h.push { cls := .type "set", dict := none, data := .set #[] 0 (.fresh 0 0 (!ByText w)) }) h.objs.size [] :=
  ⟨_, #[], 0, _, Heap.get?_push_size _ rfl, ⟨rfl, rfl, rfl⟩, rfl, ⟨(fun e he => nomatch he), .refl _, by decide, by rfl, (fun z => (z rfl).elim), rfl⟩⟩

theorem code_new (a : Value) {Q₁ : Value → Shared → Prop}
    (h : Q₁ (.ref s.heap.objs.size) { s with heap := s.heap.push { cls := .type "set", dict := none, data := .set #[] 0 (.fresh 0 0 (!ByText w)) } }) :
    codeAny (model prog w) A (.call (.builtin "set.__new__") ⟨[.type "set", a], []⟩) (wants Q₁ E) s := by
  refine codeAny_of_tree ?_
  show wpAny _ A.in1 (do checkBuiltinCall "set.__new__" ⟨[.type "set", a], []⟩; again (.builtin "set.__new__" ⟨[.type "set", a], []⟩)) _ _ s
  refine wpAny_bind (wpAny_of_eq (PySem.F.newCall_set_1 a) (wpAny_pure ⟨plainId_quiet PySem.F.plain_set_new _, codeAny_builtin PySem.F.entry_set_new ?_⟩))
  rw [Around.under_plainId PySem.F.plain_set_new _]
  unfold Builtin.«set.__new__» Builtin.Frozenset.newClass
  have hsub := sub_set_self
  obtain ⟨hp, g, d, tk, os⟩ := s
  dsimp only
  wp_walk
  refine wpAny_askSetting (wpAny_pure ?_)
  dsimp only
  simp only [newObj]
  refine wpAny_bind (wpAny_alloc (wpAny_pure ?_))
  exact wpAny_pure h

/-- the turns that fill a set -/
theorem code_loop {I a : Addr} {Z : Addr → Prop} {St : Nat → Shared → Prop} {lo : Nat} {its : List D} {ls : List S} (hW : ∀ A', A'.handled = Option.none → Wk prog w lo A' Z I its St) (hh : A.handled = Option.none) (ha : Z a) (hl : AreS its ls) {R : Result → Shared → Prop} :
    ∀ (k i : Nat) (s : Shared) (L : List S), its.length - i = k → i ≤ its.length → St i s → lo < s.toks → SetIs w s.heap a L → L.length + k + 1 < scanBound →
      (∀ s', Went (fun b => b = I ∨ b = a) s s' → SetIs w s'.heap a ((ls.drop i).foldl addS L) → R (.ok (.ret .none)) s') →
      codeAny (model prog w) A (.builtin "set.update.loop" ⟨[.ref a, .ref I], []⟩) R s := by
  have W := hW A.in1 hh
  have haI : a ≠ I := fun e => W.off (e ▸ ha)
  have hlen := hl.length
  intro k
  induction k with
  | zero =>
    intro i s L hk hi hst hlo hS hb hR
    have hin : i = its.length := by omega
    subst hin
    refine codeAny_builtin PyProof.Rows.F.entry_set_update_loop ?_
    rw [Around.under_plainId PyProof.Rows.F.plain_set_update_loop _]
    show wpAny _ A.in1 (pyNext (.ref I) >>= _) _ _ s
    refine wpAny_bind (W.done s _ _ hst fun s' g => ?_)
    show wpAny _ A.in1 (ret Value.none) _ _ s'
    refine wpAny_pure (hR s' (g.on fun p hp => .inl (.inl hp)) ?_)
    rw [List.drop_eq_nil_of_le (by omega)]
    exact hS.at' fun o e => g.ext _ _ haI e
  | succ k ih =>
    intro i s L hk hi hst hlo hS hb hR
    have hlt : i < its.length := by omega
    have hlt2 : i < ls.length := by omega
    refine codeAny_builtin PyProof.Rows.F.entry_set_update_loop ?_
    rw [Around.under_plainId PyProof.Rows.F.plain_set_update_loop _]
    show wpAny _ A.in1 (pyNext (.ref I) >>= _) _ _ s
    refine wpAny_bind (W.item i its[i] s _ _ (List.getElem?_eq_getElem hlt) hst hlo fun v s' g hst' r => ?_)
    have hS' : SetIs w s'.heap a L := hS.at' fun o e => g.ext _ _ haI e
    obtain ⟨t, rfl⟩ := (hl.at i hlt hlt2).rd r
    show wpAny _ A.in1 (holding [Value.str (tx ls[i]) t] (setAdd a (.str (tx ls[i]) t)) >>= _) _ _ s'
    refine wpAny_bind (wpAny_holding (wp_setAdd hS' (by omega) fun b h' hsb hS2 => ?_))
    have g2 : Went (· = a) s' { s' with heap := h', toks := s'.toks + 1 } := went_of_sameBut (Nat.le_succ _) hsb rfl
    have hle := g.le
    have hbd : (addS L ls[i]).length ≤ L.length + 1 := by unfold addS; split <;> simp
    refine wpAny_pure ⟨plainId_quiet PyProof.Rows.F.plain_set_update_loop _, ih (i + 1) _ (addS L ls[i]) (by omega) hlt (W.stay _ _ _ hst' (g2.on fun p hp => .inl (hp ▸ ha))) (by show lo < s'.toks + 1; omega) hS2 (by omega) fun s'' g3 hS'' => ?_⟩
    refine hR s'' (((g.on fun p hp => .inl (.inl hp)).trans (g2.on fun p hp => .inl (.inr hp))).trans g3) ?_
    rw [List.drop_eq_getElem_cons hlt2, List.foldl_cons]
    exact hS''
end
end Sets
end Mine

set_option maxHeartbeats 4000000
namespace Mine
open PySem PySem.W PyProof.Rows PySem.Calls PySem.Builtin
namespace Sets
section
variable {prog : Program} {w : World} {hB : Bs} {n : Nat} {A : Around} {E : Value → Shared → Prop} {s : Shared} {X : Addr → Prop}

/-- set(xs) of a list of strs -/
theorem wp_callSet {v : Value} {ds : List D} {ls : List S} (hr : Room (n + 1) A) (Si : Sit hB X s) (r : Rd prog w X s v (.list ds)) (hl : AreS ds ls) (hb : ls.length + 1 < scanBound) :
    wpAny (model prog w) A (PySem.call (.type "set") [v]) (fun u s' => Gone s s' ∧ ∃ a, u = .ref a ∧ ¬ X a ∧ SetIs w s'.heap a (ls.foldl addS [])) E s := by
  obtain ⟨l, vs, c, rfl, hx, hol, rl⟩ := r.list_inv
  have hh := hr.hd
  obtain ⟨cc, tl, hmro⟩ := PySem.F.called_set.mro
  have hmade := PySem.F.called_set.made
  have hsub := PySem.F.called_set.sub
  refine wpAny_call (codeAny_of_tree ?_)
  show wpAny _ _ (callAny (.type "set") _) _ _ _
  refine wpAny_pure ⟨Code.quiet_builtin _ (by decide +kernel), codeAny_builtin PySem.F.entry_type_call ?_⟩
  rw [Around.under_plain (weight_type_call_type "set" [.ref l] []) rfl]
  have h1 := PySem.F.called_set.notType
  have h2 := PySem.F.called_set.canCreate
  have hct := PySem.F.typeCall_set_1 (.ref l)
  repeat (any_goals (first | assumption | wp_step))
  refine codeAny_mono (code_new (.ref l) (E := E) (Q₁ := fun obj s₁ => obj = .ref s.heap.objs.size ∧ s₁ = { s with heap := s.heap.push { cls := .type "set", dict := none, data := .set #[] 0 (.fresh 0 0 (!ByText w)) } }) ⟨rfl, rfl⟩) fun rr s₁ hrr => ?_
  cases rr with
  | error e => exact hrr
  | ok fl =>
    cases fl with
    | ret obj =>
      obtain ⟨rfl, rfl⟩ := hrr
      have hS : (s.heap.push { cls := .type "set", dict := none, data := .set #[] 0 (.fresh 0 0 (!ByText w)) }).get? s.heap.objs.size = some { cls := .type "set", dict := none, data := .set #[] 0 (.fresh 0 0 (!ByText w)) } := Heap.get?_push_size _ rfl
      have hT : Shared.TypeIs { s with heap := s.heap.push { cls := .type "set", dict := none, data := .set #[] 0 (.fresh 0 0 (!ByText w)) } } (.ref s.heap.objs.size) "set" := ⟨_, hS, rfl⟩
      have hli := PySem.F.called_set.init.lookup
      have hbi := PySem.F.called_set.init.bind (.ref s.heap.objs.size)
      repeat (any_goals (first | assumption | wp_step))
      refine codeAny_mono (codeAny_call_builtin (R := wants (fun rv s₂ => rv = .none ∧ Gone s s₂ ∧ SetIs w s₂.heap s.heap.objs.size (ls.foldl addS [])) E) PySem.F.called_set.init.plain PySem.F.entry_set_init (check_set_init_1 hT ?_)) fun r₂ s₂ hr₂ => ?_
      · have hol' : (s.heap.push { cls := .type "set", dict := none, data := .set #[] 0 (.fresh 0 0 (!ByText w)) }).get? l = some (listOf (List.toArray vs) c) := Heap.get?_push_of_some _ hol
        have hsls := PySem.F.sub_list_set
        have hslf := PySem.F.sub_list_frozenset
        have hne : (Value.type "list" == Value.type "dict") = false := by decide
        unfold Builtin.«set.__init__» noKeywords Builtin.Frozenset.updateFrom
        generalize hPI : pyIter = PI
        wp_walk
        subst hPI
        have hr2 : Room 0 A.in1.in1 := ⟨hh, by have := hr.2.1; simp only [Around.in1]; omega, by have := hr.2.2; simp only [Around.in1]; omega⟩
        have g0 : Gone s { s with heap := s.heap.push { cls := .type "set", dict := none, data := .set #[] 0 (.fresh 0 0 (!ByText w)) } } := Gone.push s _
        have S1 : Sit hB (fun b => X b ∨ b = s.heap.objs.size) { s with heap := s.heap.push { cls := .type "set", dict := none, data := .set #[] 0 (.fresh 0 0 (!ByText w)) } } := by
          have S1 := Si.keep g0
          refine ⟨S1.base, fun b hb => ?_, fun b hb => ?_, S1.tlo⟩
          · rcases hb with hb | rfl
            · exact S1.live b hb
            · exact ⟨_, hS⟩
          · rcases hb with hb | rfl
            · exact S1.off b hb
            · cases q : hB.h.get? s.heap.objs.size with
              | none => rfl
              | some o => exact absurd (Heap.lt_size (Si.base _ _ q)) (Nat.lt_irrefl _)
        have r1 : Rd prog w (fun b => X b ∨ b = s.heap.objs.size) { s with heap := s.heap.push { cls := .type "set", dict := none, data := .set #[] 0 (.fresh 0 0 (!ByText w)) } } (.ref l) (.list ds) :=
          (r.on fun b hb => hb.elim .inl fun e => .inr (e ▸ get?_size_none _)).keep g0
        refine Runs.list (n := 0) A.in1.in1 _ _ _ _ _ hr2 S1 r1 fun I s₂ g2 hI0 hI hWk => ?_
        have hIZ : ¬ (X I ∨ I = s.heap.objs.size) := fun z => by
          obtain ⟨o, e⟩ := S1.live I z
          rw [hI0] at e; cases e
        obtain ⟨St, hW, hst⟩ := hWk (fun b => X b ∨ b = s.heap.objs.size) (fun b hb => .inl hb) hIZ
        refine wpAny_bind (wpAny_runValue (code_loop (A := A.in1.in1) hW hh (.inr rfl) hl ds.length 0 s₂ [] (by omega) (Nat.zero_le _) hst ?_ ?_ ?_ fun s₃ g3 hS3 => ?_))
        · have := S1.tlo; have := g2.le; omega
        · exact fresh_is.at' fun o e => g2.keep _ _ e
        · have := hl.length; simp only [List.length_nil]; omega
        · refine wpAny_pure (wpAny_pure ?_)
          refine ⟨rfl, ?_, hS3⟩
          refine ((g0.trans g2).went.trans g3).gone fun p hp => ?_
          rcases hp with rfl | rfl
          · exact gone_none g0 hI0
          · exact get?_size_none _
      · cases r₂ with
        | error e => exact hr₂
        | ok fl₂ =>
          cases fl₂ with
          | ret rv =>
            obtain ⟨rfl, g, hS'⟩ := hr₂
            repeat (any_goals (first | assumption | wp_step))
            exact ⟨g, _, rfl, Si.fresh, hS'⟩
          | _ => exact hr₂.elim
    | _ => exact hrr.elim
end
end Sets
end Mine

set_option maxHeartbeats 1000000
namespace Mine
open PySem PySem.W PyProof.Rows PySem.Calls PySem.Builtin
namespace Sets

theorem erase_perm {α : Type} : ∀ (l : List α) (i : Nat) (h : i < l.length), (l[i] :: l.eraseIdx i).Perm l
  | x :: l, 0, h => .refl _
  | x :: l, i + 1, h => by
    simp only [List.getElem_cons_succ, List.eraseIdx_cons_succ]
    exact (List.Perm.swap _ _ _).trans ((erase_perm l i (by simpa using h)).cons _)
theorem pick_perm {α : Type} (next : Nat → Nat) : ∀ (fuel k : Nat) (left : List α) (out : Array α), left.length ≤ fuel → (pickOrder.go next fuel k left out).toList.Perm (out.toList ++ left)
  | 0, k, left, out, h => by
    have : left = [] := List.eq_nil_of_length_eq_zero (Nat.le_zero.mp h)
    subst this
    show out.toList.Perm (out.toList ++ [])
    rw [List.append_nil]
  | fuel + 1, k, left, out, h => by
    unfold pickOrder.go
    by_cases hl : left = []
    · subst hl
      show out.toList.Perm (out.toList ++ [])
      rw [List.append_nil]
    · have hpos : 0 < left.length := List.length_pos_iff.mpr hl
      have hlt : next k % left.length < left.length := Nat.mod_lt _ hpos
      rw [List.getElem?_eq_getElem hlt]
      dsimp only
      refine (pick_perm next fuel (k + 1) _ _ (by rw [List.length_eraseIdx_of_lt hlt]; omega)).trans ?_
      rw [Array.toList_push, List.append_assoc]
      exact (erase_perm _ _ hlt).append_left _
theorem pickOrder_perm {α : Type} (next : Nat → Nat) (xs : Array α) : (pickOrder next xs).toList.Perm xs.toList := by
  have := pick_perm next xs.size 0 xs.toList #[] (by simp)
  simpa [pickOrder] using this

section
variable {M : Model} {A : Around} {E : Value → Shared → Prop} {s : Shared}
theorem wp_choose {src : Source} {n : Nat} {Q : Nat → Shared → Prop} (hn : n ≠ 0) (h : ∀ i dr, i < n → Q i { s with drawn := dr }) : wpAny M A (choose src n) Q E s :=
  fun _ _ _ => ⟨hn, h _ _ (Nat.mod_lt _ (Nat.pos_of_ne_zero hn))⟩

theorem wp_drawOrder {α : Type} : ∀ (n : Nat) (xs : List α) (s : Shared) {Q : List α → Shared → Prop}, xs.length ≤ n → (∀ ys dr, ys.Perm xs → Q ys { s with drawn := dr }) → wpAny M A (drawOrder n xs) Q E s
  | 0, xs, s, Q, h, hQ => by
    have : xs = [] := List.eq_nil_of_length_eq_zero (Nat.le_zero.mp h)
    subst this
    exact wpAny_pure (hQ [] s.drawn (.refl _))
  | n + 1, [], s, Q, h, hQ => wpAny_pure (hQ [] s.drawn (.refl _))
  | n + 1, x :: xs, s, Q, h, hQ => by
    unfold drawOrder
    refine wpAny_bind (wp_choose (by simp) fun i dr hi => ?_)
    rw [List.getElem?_eq_getElem hi]
    dsimp only
    refine wpAny_bind (wp_drawOrder n _ _ (by rw [List.length_eraseIdx_of_lt hi]; omega) fun ys dr' hp => wpAny_pure ?_)
    exact hQ _ dr' ((hp.cons _).trans (erase_perm _ _ hi))
end
end Sets
end Mine

set_option maxHeartbeats 1000000
namespace Mine
open PySem PySem.W PyProof.Rows PySem.Calls PySem.Builtin
namespace Sets

theorem entry_set_iter : entryFor table "set.__iter__" = some Builtin.«frozenset.__iter__» :=
  entryFor_alias (id' := "frozenset.__iter__") (by kernel_rfl) rfl (by decide +kernel) (by kernel_rfl)
theorem slot_next : Slot "set_iterator" "__next__" "set_iterator.__next__" :=
  .of (owner := "set_iterator") (n := "__next__") (by rw [typeLookup_type, builtinLookup_eq_fast]; kernel_rfl) (by decide +kernel) (by decide +kernel) (by decide +kernel)
    (by first | exact .inl (by decide +kernel) | exact .inr (by decide +kernel)) (by rw [isSubtype_type]; kernel_rfl)
theorem entry_next : entryFor table "set_iterator.__next__" = some Builtin.«set_iterator.__next__» := entryFor_of_tree (by kernel_rfl)
theorem args_next (a : Value) : argsOk "set_iterator.__next__" ⟨[a], []⟩ := by unfold argsOk; kernel_rfl

/-- the set of the walk, and the walk's iterator -/
structure At (w : World) (a : Addr) (os : Obj) (es : Array (Int × Value)) (ep : Nat) (t : SetTable) (s : Shared) : Prop where
  ho : s.heap.get? a = some os
  hd : os.data = .set es ep t
  fits : t.fits es.size = true
def ItIs (I : Addr) (fs : List Value) (s : Shared) : Prop := ∃ o, s.heap.get? I = some o ∧ o.cls = .type "set_iterator" ∧ o.data = .fields fs.toArray

section
variable {prog : Program} {w : World} {A : Around} {E : Value → Shared → Prop} {s : Shared} {a I : Addr} {os : Obj} {es : Array (Int × Value)} {ep : Nat} {t : SetTable}

theorem wp_byText {Q : Bool → Shared → Prop} (h : Q (ByText w) s) : wpAny (model prog w) A setsByText Q E s := by
  unfold setsByText
  exact wpAny_bind (wpAny_askSetting (wpAny_pure h))
theorem wp_setDrawn {Q : Bool → Shared → Prop} (H : At w a os es ep t s) (h : Q (!ByText w && (!t.plain && decide (es.size > 1))) s) : wpAny (model prog w) A (setDrawn a) Q E s := by
  unfold setDrawn
  refine wpAny_bind (wpAny_setState_of H.ho H.hd H.fits ?_)
  exact wpAny_bind (wp_byText (wpAny_pure h))
theorem wp_setNext_text {slot given : Nat} {Q : Option (Value × Nat) → Shared → Prop} (H : At w a os es ep t s) (hb : ByText w = true) (h : Q (((pickOrder (w.params.setOrder a ep) es)[given]?).map fun e => (e.2, slot)) s) :
    wpAny (model prog w) A (setNext a slot given ep) Q E s := by
  unfold setNext
  refine wpAny_bind (wpAny_setState_of H.ho H.hd H.fits ?_)
  refine wpAny_bind (wp_byText ?_)
  rw [hb, if_pos rfl]
  dsimp only
  rw [if_neg (by simp)]
  unfold setWalk
  refine wpAny_bind (wpAny_bind (wpAny_setState_of H.ho H.hd H.fits (wpAny_bind (wp_byText ?_))))
  rw [hb, if_pos rfl]
  refine wpAny_bind (wpAny_askSetting (wpAny_pure ?_))
  exact wpAny_pure h
theorem wp_setNext_few {slot given : Nat} {Q : Option (Value × Nat) → Shared → Prop} (H : At w a os es ep t s) (hb : ByText w = false) (hdr : (!t.plain && decide (es.size > 1)) = false) (hl : t.led = true)
    (h : Q (match es[SetTable.below t.place slot]?, t.place[SetTable.below t.place slot]? with | some (_, x), some j => some (x, j + 1) | _, _ => none) s) :
    wpAny (model prog w) A (setNext a slot given ep) Q E s := by
  unfold setNext
  refine wpAny_bind (wpAny_setState_of H.ho H.hd H.fits ?_)
  refine wpAny_bind (wp_byText ?_)
  rw [hb, if_neg (by decide)]
  show wpAny _ _ (if (!t.plain && decide (es.size > 1)) = true then _ else _) _ _ _
  rw [hdr, if_neg (by decide)]
  show wpAny _ _ ((if (!t.led && !es.isEmpty) = true then (unsupported "set:maker-not-led" : Sem Unit) else pure ()) >>= fun _ => _) _ _ _
  rw [hl]
  exact wpAny_bind (wpAny_pure (wpAny_pure h))

/-- the end of an iterator -/
theorem wp_stop {α : Type} {P : α → Shared → Prop} {Q : Option Value → Shared → Prop} (hh : A.handled = Option.none) (hQ : ∀ s', Gone s s' → Q Option.none s') :
    wpAny (model prog w) A.in1 (newExc (.type "StopIteration") [] >>= fun e => (raiseNew e : Sem α)) P
      (fun e s' => wpAny (model prog w) A (do if ← isInstance e (.type "StopIteration") then pure Option.none else throw e) Q E s') s := by
  simp only [newExc, newTuple]
  refine wpAny_bind ?_
  refine wpAny_bind (wpAny_newObj_type ?_ (by size_fits))
  refine wpAny_bind (m := firstArgMember _ _) (wpAny_of_eq (a := Value.none) (by first | rfl | (simp only [firstArgMember]; rfl)) ?_)
  refine wpAny_newObj_type ?_ (by size_fits)
  simp only [raiseNew]
  refine wpAny_bind (wpAny_handled ?_)
  rw [show A.in1.handled = none from hh]
  refine wpAny_bind (wpAny_pure (wpAny_throw ?_))
  refine wpAny_bind (wpAny_isInstance (T := "StopIteration") (b := true) ⟨_, Heap.get?_push_size _ rfl, rfl⟩ isSubtype_stop ?_)
  exact wpAny_pure (hQ _ ((Gone.push s _).trans (Gone.push _ _)))
end
end Sets
end Mine

set_option maxHeartbeats 1000000
namespace Mine
open PySem PySem.W PyProof.Rows PySem.Calls PySem.Builtin
namespace Sets
section
variable {prog : Program} {w : World} {A : Around} {E : Value → Shared → Prop} {s : Shared} {a I : Addr} {os : Obj} {es : Array (Int × Value)} {ep : Nat} {t : SetTable}

def fsOf (first : Value) (i : Nat) (a : Addr) (n ep : Nat) : List Value := [first, rawInt i, .ref a, rawInt n, rawInt ep]
theorem upd_it {I : Addr} {o : Obj} {fs : List Value} (ho : s.heap.get? I = some o) (hc : o.cls = .type "set_iterator") (hd : o.data = .fields fs.toArray) (j : Nat) (v : Value) :
    ItIs I (fs.set j v) { s with heap := s.heap.update I (Obj.mapFields (·.setIfInBounds j v)) } :=
  ⟨_, Heap.get?_update_self _ ho (Obj.isFreed_of_fields (Obj.data_mapFields hd _)), (Obj.cls_mapFields ..).trans hc, by
    rw [Obj.data_mapFields hd]; simp⟩
theorem upd_went {I : Addr} {f : Obj → Obj} : Went (· = I) s { s with heap := s.heap.update I f } := went_of_sameBut (t := s.toks) (Nat.le_refl _) (Heap.SameBut.update ..) rfl
theorem At.went (H : At w a os es ep t s) (hne : a ≠ I) {s' : Shared} (g : Went (· = I) s s') : At w a os es ep t s' := ⟨g.ext _ _ hne H.ho, H.hd, H.fits⟩

theorem wp_next_some {slot nx i : Nat} {x : Value} {Q : Option Value → Shared → Prop} (hit : ItIs I (fsOf (rawInt slot) i a es.size ep) s) (H : At w a os es ep t s) (hne : a ≠ I)
    (hnext : ∀ (E' : Value → Shared → Prop) (Q' : Option (Value × Nat) → Shared → Prop), Q' (some (x, nx)) s → wpAny (model prog w) A.in1 (setNext a slot i ep) Q' E' s)
    (hQ : ∀ s', Went (· = I) s s' → ItIs I (fsOf (rawInt nx) (i + 1) a es.size ep) s' → Q (some x) s') : wpAny (model prog w) A (pyNext (.ref I)) Q E s := by
  obtain ⟨o, ho, hc, hd⟩ := id hit
  have hT : s.TypeIs (.ref I) "set_iterator" := ⟨o, ho, hc⟩
  unfold pyNext
  refine wpAny_bind (wpAny_attempt (wpAny_callSpecial?_slot (name := Str.ofString "__next__") hT slot_next
    (wpAny_call_entry slot_next hT entry_next ?_ (args_next _))))
  refine wpAny_bind (wpAny_pure ?_)
  refine wpAny_bind (wpAny_fieldsOf ho hd ?_)
  show wpAny _ _ (setEntries a >>= _) _ _ s
  refine wpAny_bind (wpAny_setEntries_of H.ho H.hd H.fits ?_)
  rw [if_neg (by simp)]
  show wpAny _ _ (setNext a slot i ep >>= _) _ _ s
  refine wpAny_bind (hnext _ _ ?_)
  show wpAny _ _ (setField (.ref I) 0 (rawInt nx) >>= _) _ _ s
  refine wpAny_bind (wpAny_setField ho hd (by simp [fsOf]) ?_)
  obtain ⟨o1, ho1, hc1, hd1⟩ := upd_it (s := s) ho hc hd 0 (rawInt nx)
  refine wpAny_bind (wpAny_setField ho1 hd1 (by simp [fsOf]) ?_)
  have h2 := upd_it (s := { s with heap := s.heap.update I (Obj.mapFields (·.setIfInBounds 0 (rawInt nx))) }) ho1 hc1 hd1 1 (rawInt ((i : Int) + 1))
  exact wpAny_pure ⟨x, rfl, wpAny_pure (hQ _ (upd_went.trans upd_went) h2)⟩

theorem wp_next_none {slot i : Nat} {Q : Option Value → Shared → Prop} (hh : A.handled = Option.none) (hit : ItIs I (fsOf (rawInt slot) i a es.size ep) s) (H : At w a os es ep t s)
    (hnext : ∀ (E' : Value → Shared → Prop) (Q' : Option (Value × Nat) → Shared → Prop), Q' Option.none s → wpAny (model prog w) A.in1 (setNext a slot i ep) Q' E' s)
    (hQ : ∀ s', Went (· = I) s s' → Q Option.none s') : wpAny (model prog w) A (pyNext (.ref I)) Q E s := by
  obtain ⟨o, ho, hc, hd⟩ := id hit
  have hT : s.TypeIs (.ref I) "set_iterator" := ⟨o, ho, hc⟩
  unfold pyNext
  refine wpAny_bind (wpAny_attempt (wpAny_callSpecial?_slot (name := Str.ofString "__next__") hT slot_next
    (wpAny_call_entry slot_next hT entry_next ?_ (args_next _))))
  refine wpAny_bind (wpAny_pure ?_)
  refine wpAny_bind (wpAny_fieldsOf ho hd ?_)
  show wpAny _ _ (setEntries a >>= _) _ _ s
  refine wpAny_bind (wpAny_setEntries_of H.ho H.hd H.fits ?_)
  rw [if_neg (by simp)]
  show wpAny _ _ (setNext a slot i ep >>= _) _ _ s
  refine wpAny_bind (hnext _ _ ?_)
  show wpAny _ _ (setField (.ref I) 2 .none >>= _) _ _ s
  refine wpAny_bind (wpAny_setField ho hd (by simp [fsOf]) ?_)
  have g0 : Went (· = I) s { s with heap := s.heap.update I (Obj.mapFields (·.setIfInBounds 2 Value.none)) } := upd_went
  exact wp_stop hh fun s' g => hQ s' (g0.trans g.went)

theorem wp_draw_some {T : Addr} {ot : Obj} {places : List Nat} {i p : Nat} {en : Int × Value} {c : Nat} {Q : Option Value → Shared → Prop} (hit : ItIs I (fsOf (.ref T) i a es.size ep) s) (H : At w a os es ep t s)
    (hT0 : s.heap.get? T = some ot) (hTd : ot.data = .seq (places.map fun (p : Nat) => rawInt p).toArray c) (hp : places[i]? = some p) (he : es[p]? = some en)
    (hQ : ∀ s', Went (· = I) s s' → ItIs I (fsOf (.ref T) (i + 1) a es.size ep) s' → Q (some en.2) s') : wpAny (model prog w) A (pyNext (.ref I)) Q E s := by
  obtain ⟨o, ho, hc, hd⟩ := id hit
  have hT : s.TypeIs (.ref I) "set_iterator" := ⟨o, ho, hc⟩
  unfold pyNext
  refine wpAny_bind (wpAny_attempt (wpAny_callSpecial?_slot (name := Str.ofString "__next__") hT slot_next
    (wpAny_call_entry slot_next hT entry_next ?_ (args_next _))))
  refine wpAny_bind (wpAny_pure ?_)
  refine wpAny_bind (wpAny_fieldsOf ho hd ?_)
  show wpAny _ _ (setEntries a >>= _) _ _ s
  refine wpAny_bind (wpAny_setEntries_of H.ho H.hd H.fits ?_)
  rw [if_neg (by simp)]
  show wpAny _ _ (seqItems? (.ref T) >>= _) _ _ s
  refine wpAny_bind (wpAny_seqItems hT0 hTd ?_)
  have e1 : (places.map fun (p : Nat) => rawInt p).toArray[((i : Nat) : Int).toNat]? = some (.int p 0) := by simp [hp, rawInt]
  dsimp only
  rw [e1]
  dsimp only
  unfold setNextDrawn
  refine wpAny_bind ?_
  refine wpAny_bind (wpAny_setState_of H.ho H.hd H.fits ?_)
  dsimp only
  rw [if_neg (by simp), Int.toNat_natCast, he]
  refine wpAny_pure ?_
  show wpAny _ _ (setField (.ref I) 1 (rawInt ((i : Int) + 1)) >>= _) _ _ s
  refine wpAny_bind (wpAny_setField ho hd (by simp [fsOf]) ?_)
  have h2 := upd_it (s := s) ho hc hd 1 (rawInt ((i : Int) + 1))
  exact wpAny_pure ⟨_, rfl, wpAny_pure (hQ _ upd_went h2)⟩

theorem wp_draw_none {T : Addr} {ot : Obj} {places : List Nat} {i : Nat} {c : Nat} {Q : Option Value → Shared → Prop} (hh : A.handled = Option.none) (hit : ItIs I (fsOf (.ref T) i a es.size ep) s) (H : At w a os es ep t s)
    (hT0 : s.heap.get? T = some ot) (hTd : ot.data = .seq (places.map fun (p : Nat) => rawInt p).toArray c) (hp : places[i]? = none)
    (hQ : ∀ s', Went (· = I) s s' → Q Option.none s') : wpAny (model prog w) A (pyNext (.ref I)) Q E s := by
  obtain ⟨o, ho, hc, hd⟩ := id hit
  have hT : s.TypeIs (.ref I) "set_iterator" := ⟨o, ho, hc⟩
  unfold pyNext
  refine wpAny_bind (wpAny_attempt (wpAny_callSpecial?_slot (name := Str.ofString "__next__") hT slot_next
    (wpAny_call_entry slot_next hT entry_next ?_ (args_next _))))
  refine wpAny_bind (wpAny_pure ?_)
  refine wpAny_bind (wpAny_fieldsOf ho hd ?_)
  show wpAny _ _ (setEntries a >>= _) _ _ s
  refine wpAny_bind (wpAny_setEntries_of H.ho H.hd H.fits ?_)
  rw [if_neg (by simp)]
  show wpAny _ _ (seqItems? (.ref T) >>= _) _ _ s
  refine wpAny_bind (wpAny_seqItems hT0 hTd ?_)
  have e1 : (places.map fun (p : Nat) => rawInt p).toArray[((i : Nat) : Int).toNat]? = none := by simpa using hp
  dsimp only
  rw [e1]
  dsimp only
  refine wpAny_bind (wpAny_setField ho hd (by simp [fsOf]) ?_)
  obtain ⟨o1, ho1, hc1, hd1⟩ := upd_it (s := s) ho hc hd 0 (rawInt 0)
  refine wpAny_bind (wpAny_setField ho1 hd1 (by simp [fsOf]) ?_)
  have g0 : Went (· = I) s { s with heap := (s.heap.update I (Obj.mapFields (·.setIfInBounds 0 (rawInt 0)))).update I (Obj.mapFields (·.setIfInBounds 2 Value.none)) } := upd_went.trans upd_went
  exact wp_stop hh fun s' g => hQ s' (g0.trans g.went)
end
end Sets
end Mine

set_option maxHeartbeats 1000000
namespace Mine
open PySem PySem.W PyProof.Rows PySem.Calls PySem.Builtin
namespace Sets

/-- a walk over values, by an iterator -/
structure SW (prog : Program) (w : World) (A : Around) (I : Addr) (fp : Addr → Prop) (vs : List Value) (St : Nat → Shared → Prop) : Prop where
  item : ∀ i (s : Shared) (Q : Option Value → Shared → Prop) (E : Value → Shared → Prop) v, vs[i]? = some v → St i s → (∀ s', Went (· = I) s s' → St (i + 1) s' → Q (some v) s') → wpAny (model prog w) A (pyNext (.ref I)) Q E s
  done : ∀ (s : Shared) (Q : Option Value → Shared → Prop) (E : Value → Shared → Prop), St vs.length s → (∀ s', Went (· = I) s s' → Q Option.none s') → wpAny (model prog w) A (pyNext (.ref I)) Q E s
  stay : ∀ i (s s' : Shared), St i s → (∀ b o, fp b → s.heap.get? b = some o → s'.heap.get? b = some o) → St i s'

theorem strs_of {w : World} : ∀ {l : List (Int × Value)}, ElS w l → StrsAre (l.map (·.2)) ((l.map textOf).map tx)
  | [], _ => .nil
  | (h, v) :: l, hl => by
    obtain ⟨x, t, h1, _⟩ := hl _ (.head _)
    have h1 : v = .str (tx x) t := h1
    subst h1
    have e : textOf (h, Value.str (tx x) t) = x := tx_toList x
    rw [List.map_cons, List.map_cons, List.map_cons, e]
    exact .cons _ _ (strs_of fun e he => hl e (.tail _ he))

theorem range_getD {α : Type} (d : α) (es : Array α) : (List.range es.size).map (fun i => es.getD i d) = es.toList := by
  refine List.ext_getElem (by simp) fun i h1 h2 => ?_
  have h2' : i < es.size := by simpa using h2
  simp [Array.getD, h2']

theorem below_one {xs : Array Nat} (h : xs.size = 1) (j : Nat) : SetTable.below xs j = if xs.getD 0 0 < j then 1 else 0 := by
  unfold SetTable.below
  rw [h]
  unfold SetTable.below.go
  rw [if_pos (by decide)]
  have e : (0 + 1) / 2 = 0 := rfl
  have e2 : xs.getD 0 j = xs.getD 0 0 := by simp [Array.getD, h]
  dsimp only
  rw [e, e2]
  split
  · unfold SetTable.below.go; rfl
  · unfold SetTable.below.go; rfl

section
variable {prog : Program} {w : World} {A : Around} {E : Value → Shared → Prop} {s : Shared} {a : Addr} {L : List S}

theorem wp_iterSet {Q : Value → Shared → Prop} (hS : SetIs w s.heap a L)
    (h : ∀ (I : Addr) (s' : Shared) (vs : List Value) (ls : List S) (fp : Addr → Prop) (St : Nat → Shared → Prop), Gone s s' → s.heap.get? I = Option.none → (∃ o, s'.heap.get? I = some o) → StrsAre vs (ls.map tx) → ls.Perm L → (∀ b, fp b → b = a ∨ s.heap.get? b = Option.none) → fp I →
      (∀ A', A'.handled = Option.none → SW prog w A' I fp vs St) → St 0 s' → Q (.ref I) s') : wpAny (model prog w) A (pyIter (.ref a)) Q E s := by
  obtain ⟨os, es, ep, t, ho, hex, hd, hD⟩ := hS
  have H : At w a os es ep t s := ⟨ho, hd, hD.fits⟩
  have hT : s.TypeIs (.ref a) "set" := ⟨os, ho, hex.1⟩
  refine wpAny_pyIter_slot hT PySem.F.slot_set_iter (wpAny_call_entry PySem.F.slot_set_iter hT entry_set_iter ?_ (PySem.F.args_set_iter_1 _))
  unfold Builtin.«frozenset.__iter__»
  show wpAny _ _ (Builtin.Frozenset.sizeOf a >>= _) _ _ s
  unfold Builtin.Frozenset.sizeOf
  refine wpAny_bind (wpAny_bind (wpAny_setEntries_of ho hd hD.fits (wpAny_pure ?_)))
  refine wpAny_bind (wp_setDrawn H ?_)
  cases hdr : (!ByText w && (!t.plain && decide (es.size > 1)))
  · rw [if_neg (by decide)]
    refine wpAny_bind (wpAny_pure ?_)
    refine wpAny_bind (wpAny_setEpoch_of ho hd hD.fits ?_)
    refine wpAny_bind (wpAny_newObj_type ?_ (by rw [sizeOk, sizeLine_eq]; exact Nat.le_of_ble_eq_true rfl))
    have hne : a ≠ s.heap.objs.size := ne_of_get ho (get?_size_none _)
    have hIx : ∀ (s' : Shared) , True := fun _ => trivial
    have H1 : At w a os es ep t { s with heap := s.heap.push { cls := .type "set_iterator", data := .fields (fsOf (rawInt 0) 0 a es.size ep).toArray } } := ⟨Heap.get?_push_of_some _ ho, hd, hD.fits⟩
    have hI1 : ItIs s.heap.objs.size (fsOf (rawInt 0) 0 a es.size ep) { s with heap := s.heap.push { cls := .type "set_iterator", data := .fields (fsOf (rawInt 0) 0 a es.size ep).toArray } } := ⟨_, Heap.get?_push_size _ rfl, rfl, rfl⟩
    refine wpAny_pure ⟨_, rfl, "set_iterator", _, ⟨_, Heap.get?_push_size _ rfl, rfl⟩, slot_next.lookup, ?_⟩
    have hfp : ∀ b, (b = s.heap.objs.size ∨ b = a) → b = a ∨ s.heap.get? b = Option.none := by
      rintro b (rfl | rfl)
      · exact .inr (get?_size_none _)
      · exact .inl rfl
    have stay : ∀ (f : Nat → Value) i (s₁ s₂ : Shared), (ItIs s.heap.objs.size (fsOf (f i) i a es.size ep) s₁ ∧ At w a os es ep t s₁) → (∀ b o, (b = s.heap.objs.size ∨ b = a) → s₁.heap.get? b = some o → s₂.heap.get? b = some o) →
        (ItIs s.heap.objs.size (fsOf (f i) i a es.size ep) s₂ ∧ At w a os es ep t s₂) := by
      rintro f i s₁ s₂ ⟨⟨o, h1, h2, h3⟩, h4⟩ hk
      exact ⟨⟨o, hk _ _ (.inl rfl) h1, h2, h3⟩, ⟨hk _ _ (.inr rfl) h4.ho, h4.hd, h4.fits⟩⟩
    cases hb : ByText w
    · have hdr' : (!t.plain && decide (es.size > 1)) = false := by rw [hb] at hdr; simpa using hdr
      have hled : t.led = true := by rw [hD.led, hb]; rfl
      have hsz : es.size ≤ 1 := by
        by_cases h0 : es.size = 0
        · omega
        · have := hD.plain h0
          rw [this] at hdr'
          have := of_decide_eq_false (p := es.size > 1) (by simpa using hdr')
          omega
      have hps : t.place.size = es.size := by
        have := hD.fits
        simp only [SetTable.fits, Bool.and_eq_true, beq_iff_eq] at this
        exact this.1
      refine h _ _ (es.toList.map (·.2)) (es.toList.map textOf) (fun b => b = s.heap.objs.size ∨ b = a) (fun i s₁ => ItIs s.heap.objs.size (fsOf (rawInt ((if i = 0 then 0 else t.place.getD 0 0 + 1 : Nat) : Int)) i a es.size ep) s₁ ∧ At w a os es ep t s₁)
        (Gone.push _ _) (get?_size_none _) ⟨_, Heap.get?_push_size _ rfl⟩ (strs_of hD.el) hD.perm hfp (.inl rfl) (fun A' hh => ⟨?_, ?_, fun i s₁ s₂ hs hk => stay (fun i => rawInt ((if i = 0 then 0 else t.place.getD 0 0 + 1 : Nat) : Int)) i s₁ s₂ hs hk⟩) ⟨hI1, H1⟩
      · rintro i s₁ Q' E' v hv ⟨hit, HA⟩ hQ
        have hi : i < es.size := by
          have := (List.getElem?_eq_some_iff.mp hv).1
          simpa using this
        have hi0 : i = 0 := by omega
        subst hi0
        have hs1 : es.size = 1 := by omega
        have hp0 : t.place[0]? = some (t.place.getD 0 0) := by
          have : 0 < t.place.size := by omega
          simp [Array.getD, this]
        have he0 : es[0]? = some es[0] := by simp
        have hbel : SetTable.below t.place 0 = 0 := by rw [below_one (by omega)]; rfl
        have hv' : v = es[0].2 := by
          rw [List.getElem?_map, Array.getElem?_toList, he0] at hv
          cases hv; rfl
        subst hv'
        refine wp_next_some (nx := t.place.getD 0 0 + 1) hit HA hne (fun E2 Q2 q => wp_setNext_few HA hb hdr' hled ?_) fun s' g hit' => hQ s' g ⟨hit', HA.went hne g⟩
        have e0 : (if (0 : Nat) = 0 then 0 else t.place.getD 0 0 + 1 : Nat) = 0 := rfl
        rw [e0, hbel, he0, hp0]; exact q
      · rintro s₁ Q' E' ⟨hit, HA⟩ hQ
        refine wp_next_none hh hit HA (fun E2 Q2 q => wp_setNext_few HA hb hdr' hled ?_) hQ
        have hgo : ∀ k : Nat, es.size ≤ k → es[k]? = Option.none := fun k hk => by simp [hk]
        suffices hx : es.size ≤ SetTable.below t.place (if (List.map (fun x => x.2) es.toList).length = 0 then 0 else t.place.getD 0 0 + 1) by
          rw [hgo _ hx]; exact q
        rw [List.length_map, Array.length_toList]
        by_cases h0 : es.size = 0
        · omega
        · have hs1 : es.size = 1 := by omega
          rw [if_neg h0, below_one (by omega), if_pos (Nat.lt_succ_self _)]
          omega
    · have hp := pickOrder_perm (w.params.setOrder a ep) es
      refine h _ _ ((pickOrder (w.params.setOrder a ep) es).toList.map (·.2)) ((pickOrder (w.params.setOrder a ep) es).toList.map textOf) (fun b => b = s.heap.objs.size ∨ b = a) (fun i s₁ => ItIs s.heap.objs.size (fsOf (rawInt ((0 : Nat) : Int)) i a es.size ep) s₁ ∧ At w a os es ep t s₁)
        (Gone.push _ _) (get?_size_none _) ⟨_, Heap.get?_push_size _ rfl⟩ (strs_of (hD.el.perm hp)) ((hp.map _).trans hD.perm) hfp (.inl rfl) (fun A' hh => ⟨?_, ?_, fun i s₁ s₂ hs hk => stay (fun _ => rawInt ((0 : Nat) : Int)) i s₁ s₂ hs hk⟩) ⟨hI1, H1⟩
      · rintro i s₁ Q' E' v hv ⟨hit, HA⟩ hQ
        refine wp_next_some (nx := 0) (x := v) hit HA hne (fun E2 Q2 q => wp_setNext_text HA hb ?_) fun s' g hit' => hQ s' g ⟨hit', HA.went hne g⟩
        have e : ((pickOrder (w.params.setOrder a ep) es)[i]?).map (fun e : Int × Value => (e.2, 0)) = some (v, 0) := by
          rw [List.getElem?_map, Array.getElem?_toList] at hv
          cases q : (pickOrder (w.params.setOrder a ep) es)[i]? with
          | none => rw [q] at hv; cases hv
          | some en => rw [q] at hv; cases hv; rfl
        rw [e]; exact q
      · rintro s₁ Q' E' ⟨hit, HA⟩ hQ
        refine wp_next_none hh hit HA (fun E2 Q2 q => wp_setNext_text HA hb ?_) hQ
        have e : ((pickOrder (w.params.setOrder a ep) es)[((pickOrder (w.params.setOrder a ep) es).toList.map (·.2)).length]?).map (fun e : Int × Value => (e.2, 0)) = Option.none := by simp
        rw [e]; exact q
  · rw [if_pos rfl]
    refine wpAny_bind (wp_drawOrder _ _ _ (by simp) fun places dr hp => ?_)
    have hpl : places.length = es.size := by rw [hp.length_eq, List.length_range]
    have hb0 := hD.few
    have hsb : scanBound = 4096 := rfl
    refine wpAny_bind (wpAny_newTuple ?_ (by rw [List.length_map, hpl, sizeLine_eq]; omega))
    have hh1 : (s.heap.push { cls := .type "tuple", data := .seq (places.map fun (i : Nat) => rawInt i).toArray }).objs.size = s.heap.objs.size + 1 := Heap.size_push _ _
    have ho1 : (s.heap.push { cls := .type "tuple", data := .seq (places.map fun (i : Nat) => rawInt i).toArray }).get? a = some os := Heap.get?_push_of_some _ ho
    have hT1 : (s.heap.push { cls := .type "tuple", data := .seq (places.map fun (i : Nat) => rawInt i).toArray }).get? s.heap.objs.size = some { cls := .type "tuple", data := .seq (places.map fun (i : Nat) => rawInt i).toArray } := Heap.get?_push_size _ rfl
    have hkp : Keep s.heap (s.heap.push { cls := .type "tuple", data := .seq (places.map fun (i : Nat) => rawInt i).toArray }) := Keep.push _ _
    generalize s.heap.push { cls := .type "tuple", data := .seq (places.map fun (i : Nat) => rawInt i).toArray } = H1 at hh1 ho1 hT1 hkp ⊢
    refine wpAny_bind (wpAny_setEpoch_of (s := { s with heap := H1, drawn := dr }) ho1 hd hD.fits ?_)
    refine wpAny_bind (wpAny_newObj_type ?_ (by rw [sizeOk, sizeLine_eq]; exact Nat.le_of_ble_eq_true rfl))
    refine wpAny_pure ⟨_, rfl, "set_iterator", _, ⟨_, Heap.get?_push_size _ rfl, rfl⟩, slot_next.lookup, ?_⟩
    have hne : a ≠ H1.objs.size := ne_of_get ho1 (get?_size_none _)
    have hTI : s.heap.objs.size ≠ H1.objs.size := by omega
    have hlp : (places.map fun p => es.getD p (0, Value.none)).Perm es.toList := (hp.map _).trans (.of_eq (range_getD _ es))
    have hlt : ∀ p ∈ places, p < es.size := fun p hp' => List.mem_range.mp (hp.mem_iff.mp hp')
    have hI0 : s.heap.get? H1.objs.size = Option.none := get?_ge (by omega)
    show Q (.ref H1.objs.size) { s with heap := H1.push { cls := .type "set_iterator", data := .fields (fsOf (.ref s.heap.objs.size) 0 a es.size ep).toArray }, drawn := dr }
    refine h _ _ ((places.map fun p => es.getD p (0, Value.none)).map (·.2)) ((places.map fun p => es.getD p (0, Value.none)).map textOf) (fun b => b = H1.objs.size ∨ b = a ∨ b = s.heap.objs.size)
      (fun i s₁ => ItIs H1.objs.size (fsOf (.ref s.heap.objs.size) i a es.size ep) s₁ ∧ At w a os es ep t s₁ ∧ s₁.heap.get? s.heap.objs.size = some { cls := .type "tuple", data := .seq (places.map fun (i : Nat) => rawInt i).toArray })
      (Gone.mkd (Nat.le_refl _) (hkp.trans (Keep.push _ _))) hI0 ⟨_, Heap.get?_push_size _ rfl⟩ (strs_of (hD.el.perm hlp)) ((hlp.map _).trans hD.perm) ?_ (.inl rfl) (fun A' hh => ⟨?_, ?_, ?_⟩) ⟨⟨_, Heap.get?_push_size _ rfl, rfl, rfl⟩, ⟨Heap.get?_push_of_some _ ho1, hd, hD.fits⟩, Heap.get?_push_of_some _ hT1⟩
    · rintro b (rfl | rfl | rfl)
      · exact .inr hI0
      · exact .inl rfl
      · exact .inr (get?_size_none _)
    · rintro i s₁ Q' E' v hv ⟨hit, HA, hT'⟩ hQ
      rw [List.getElem?_map, List.getElem?_map] at hv
      cases q : places[i]? with
      | none => rw [q] at hv; cases hv
      | some p =>
        rw [q] at hv
        cases hv
        have hpl2 : p < es.size := hlt p (List.mem_of_getElem? q)
        have he : es[p]? = some (es.getD p (0, Value.none)) := by simp [Array.getD, hpl2]
        exact wp_draw_some hit HA hT' rfl q he fun s' g hit' => hQ s' g ⟨hit', HA.went hne g, g.ext _ _ hTI hT'⟩
    · rintro s₁ Q' E' ⟨hit, HA, hT'⟩ hQ
      exact wp_draw_none hh hit HA hT' rfl (by simp) hQ
    · rintro i s₁ s₂ ⟨⟨o, h1, h2, h3⟩, h4, h5⟩ hk
      exact ⟨⟨o, hk _ _ (.inl rfl) h1, h2, h3⟩, ⟨hk _ _ (.inr (.inl rfl)) h4.ho, h4.hd, h4.fits⟩, hk _ _ (.inr (.inr rfl)) h5⟩
end
end Sets
end Mine

set_option maxHeartbeats 1000000
namespace Mine
open PySem PySem.W PyProof.Rows PySem.Calls PySem.Builtin
namespace Sets
section
variable {prog : Program} {w : World} {hB : Bs} {n : Nat} {A : Around} {E : Value → Shared → Prop} {s : Shared} {a : Addr} {L : List S} {X : Addr → Prop}

theorem hint_set {Q : Bool → Shared → Prop} (hT : s.TypeIs (.ref a) "set") (h : Q false s) : wpAny (model prog w) A (Builtin.List.listLengthHint (.ref a)) Q E s := by
  unfold Builtin.List.listLengthHint
  refine wpAny_bind (wpAny_specialOf hT PySem.F.slot_set_len.lookup ?_)
  generalize hid : ("set.__len__" : String) = id0
  wp_delta
  rw [show splitId id0 = some ("set", "__len__") from by subst hid; decide +kernel]
  subst hid
  refine wpAny_bind (wpAny_isInstance (T := "set") (b := true) hT (by rw [isSubtype_type]; kernel_rfl) ?_)
  refine wpAny_ite_split (fun hab => absurd hab (by decide)) (fun _ => ?_)
  refine wpAny_ite_split (fun _ => ?_) (fun hab => absurd (by decide +kernel) hab)
  refine wpAny_bind (wpAny_typeOf hT ?_)
  exact wpAny_pure h

theorem code_extend {I Sx : Addr} {fp : Addr → Prop} {vs : List Value} {St : Nat → Shared → Prop} (hW : ∀ A', A'.handled = Option.none → SW prog w A' I fp vs St) (hh : A.handled = Option.none) (hSf : ¬ fp Sx) (hSI : Sx ≠ I) (hn : vs.length ≤ 1000) (res : Value) {R : Result → Shared → Prop} :
    ∀ (k i : Nat) (s : Shared) (acc : Array Value) (c : Nat), vs.length - i = k → i ≤ vs.length → St i s → acc.toList = vs.take i → s.heap.get? Sx = some { cls := .type "list", dict := none, data := .seq acc c, slots := #[] } →
    (∀ s' acc' c', Went (fun b => b = I ∨ b = Sx) s s' → acc'.toList = vs → s'.heap.get? Sx = some { cls := .type "list", dict := none, data := .seq acc' c', slots := #[] } → R (.ok (.ret res)) s') →
    codeAny (model prog w) A (.builtin "list.extend.loop" ⟨[.ref Sx, .ref I, res], []⟩) R s := by
  have W := hW A.in1 hh
  intro k
  induction k with
  | zero =>
    intro i s acc c hk hi hst hacc hS hR
    have hin : i = vs.length := by omega
    subst hin
    refine codeAny_builtin PySem.F.entry_extend_loop ?_
    rw [Around.under_plainId PySem.F.plain_extend_loop _]
    show wpAny _ A.in1 (pyNext (.ref I) >>= _) _ _ s
    refine wpAny_bind (W.done s _ _ hst fun s' g => ?_)
    exact wpAny_pure (hR s' acc c (g.on fun p hp => .inl (.inl hp)) (by rw [hacc, List.take_length]) (g.ext _ _ hSI hS))
  | succ k ih =>
    intro i s acc c hk hi hst hacc hS hR
    have hlt : i < vs.length := by omega
    refine codeAny_builtin PySem.F.entry_extend_loop ?_
    rw [Around.under_plainId PySem.F.plain_extend_loop _]
    show wpAny _ A.in1 (pyNext (.ref I) >>= _) _ _ s
    refine wpAny_bind (W.item i s _ _ vs[i] (List.getElem?_eq_getElem hlt) hst fun s' g hst' => ?_)
    have hS' := g.ext _ _ hSI hS
    have hsz : acc.size = i := by rw [← Array.length_toList, hacc, List.length_take]; omega
    show wpAny _ A.in1 (updateSeq Sx (·.push vs[i]) >>= _) _ _ _
    refine wpAny_bind ?_
    have g2 : Went (· = Sx) s' { s' with heap := s'.heap.update Sx (Obj.mapSeq (·.push vs[i])) } := went_of_sameBut (t := s'.toks) (Nat.le_refl _) (Heap.SameBut.update ..) rfl
    refine wpAny_updateSeq hS' rfl (wpAny_pure ⟨plainId_quiet PySem.F.plain_extend_loop _, ih (i + 1) _ (acc.push vs[i]) _ (by omega) hlt (W.stay _ _ _ hst' fun b o hb e => g2.ext b o (fun q : b = Sx => hSf (q ▸ hb)) e) ?_ (Heap.get?_update_self _ hS' rfl) fun s'' acc' c' g3 h1 h2 => ?_⟩)
      (by rw [hsz, sizeLine_eq]; omega) (by show (acc.push vs[i]).size ≤ sizeLine + 1; rw [Array.size_push, hsz, sizeLine_eq]; omega)
    · rw [Array.toList_push, hacc, List.take_succ_eq_append_getElem hlt]
    · exact hR s'' acc' c' (((g.on fun p hp => .inl (.inl hp)).trans (g2.on fun p hp => .inl (.inr hp))).trans g3) h1 h2

theorem wp_collectSet {Q : List Value → Shared → Prop} (hS : SetIs w s.heap a L) (hL : L.length ≤ 1000) (hh : A.handled = Option.none)
    (h : ∀ (s' : Shared) (vs : List Value) (ls : List S), Gone s s' → StrsAre vs (ls.map tx) → ls.Perm L → Q vs s') : wpAny (model prog w) A (collect (.ref a)) Q E s := by
  have hT : ∀ s₁ : Shared, Keep s.heap s₁.heap → s₁.TypeIs (.ref a) "set" := fun s₁ k => by
    obtain ⟨o, es, ep, t, ho, hex, _⟩ := hS
    exact ⟨o, k _ _ ho, hex.1⟩
  have haS : a ≠ s.heap.objs.size := by
    obtain ⟨o, es, ep, t, ho, _⟩ := hS
    exact ne_of_get ho (get?_size_none _)
  unfold collect
  refine wpAny_bind (wpAny_runValue (codeAny_builtin PySem.F.entry_proto_collect ?_))
  rw [Around.under_plainId PySem.F.plain_proto_collect _]
  show wpAny _ A.in1 (newList [] >>= fun l => again (.builtin "list.__iadd__" ⟨[l, .ref a], []⟩)) _ _ s
  refine wpAny_bind (wpAny_newObj_type ?_)
  refine wpAny_pure ⟨plainId_quiet PySem.F.plain_list_iadd _, codeAny_builtin PySem.F.entry_list_iadd ?_⟩
  rw [Around.under_plainId PySem.F.plain_list_iadd _]
  show wpAny _ A.in1 (Builtin.List.listExtendWith (.ref s.heap.objs.size) (.ref a) (.ref s.heap.objs.size)) _ _ _
  unfold Builtin.List.listExtendWith
  refine wpAny_bind (wpAny_typeOf (hT _ (Keep.push _ _)) ?_)
  have h1 : Builtin.List.listSameRef (.ref s.heap.objs.size) (.ref a) = false := by simp [Builtin.List.listSameRef, Ne.symm haS]
  have h2 : (Value.type "set" == Value.type "list") = false := by decide
  have h3 : (Value.type "set" == Value.type "tuple") = false := by decide
  simp only [h1, h2, h3, Bool.or_false, Bool.false_eq_true, if_false]
  have hSx : (s.heap.push { cls := .type "list", data := .seq ([] : List Value).toArray }).get? s.heap.objs.size = some { cls := .type "list", data := .seq ([] : List Value).toArray } := Heap.get?_push_size _ rfl
  have g0 : Gone s { s with heap := s.heap.push { cls := .type "list", data := .seq ([] : List Value).toArray } } := Gone.push s _
  refine wpAny_bind (wp_iterSet (hS.at' fun o e => g0.keep _ _ e) fun I s₁ vs ls fp St g1 hI0 hI hvs hp hfp hfI hW hst => ?_)
  refine wpAny_bind (wpAny_holding (hint_set (hT s₁ (g0.trans g1).keep) ?_))
  have hlen : vs.length ≤ 1000 := by
    have := hvs.length; rw [List.length_map, hp.length_eq] at this; omega
  have hSI : s.heap.objs.size ≠ I := fun e => by rw [← e, hSx] at hI0; cases hI0
  have hSx1 := g1.keep _ _ hSx
  refine wpAny_ite_split (fun _ => ?_) (fun hab => absurd (by rfl) hab)
  refine wpAny_bind (wpAny_rule ?_)
  refine wpAny_bind ?_
  show wpAny _ A.in1 (updateSeq s.heap.objs.size (·.push .none) >>= fun _ => updateSeq s.heap.objs.size (·.pop)) _ _ _
  have hSf : ¬ fp s.heap.objs.size := fun hf => by
    rcases hfp _ hf with e | e
    · exact haS e.symm
    · rw [hSx] at e; cases e
  refine wpAny_bind (wpAny_updateSeq hSx1 rfl ?_ (Nat.zero_le _) (by show (([] : List Value).toArray.push Value.none).size ≤ sizeLine + 1; rw [sizeLine_eq]; exact Nat.le_of_ble_eq_true rfl))
  have hS₂ := Heap.get?_update_self (Obj.mapSeq (·.push Value.none)) hSx1 rfl
  refine wpAny_updateSeq hS₂ rfl ?_ (by rw [sizeLine_eq]; exact Nat.le_of_ble_eq_true rfl) (by rw [sizeLine_eq]; exact Nat.le_of_ble_eq_true rfl)
  have hS₃ := Heap.get?_update_self (Obj.mapSeq (·.pop)) hS₂ rfl
  have g2 : Went (· = s.heap.objs.size) s₁ { s₁ with heap := (s₁.heap.update s.heap.objs.size (Obj.mapSeq (·.push Value.none))).update s.heap.objs.size (Obj.mapSeq (·.pop)) } :=
    upd_went.trans upd_went
  refine wpAny_pure ⟨plainId_quiet PySem.F.plain_extend_loop _, code_extend hW hh hSf hSI hlen _ vs.length 0 _ _ _ rfl (Nat.zero_le _) (hW A hh |>.stay 0 _ _ hst fun b o hb e => g2.ext b o (fun q : b = _ => hSf (q ▸ hb)) e) rfl hS₃ fun s' acc' c' g3 hacc hS' => ?_⟩
  show wpAny _ A (load s.heap.objs.size >>= _) _ _ s'
  refine wpAny_bind (wpAny_load hS' ?_)
  refine wpAny_pure ?_
  rw [hacc]
  refine h s' vs ls ?_ hvs hp
  refine (((g0.trans g1).went.trans (g2.on fun p hp => .inl (.inr hp))).trans g3).gone fun p hp => ?_
  rcases hp with rfl | rfl
  · exact gone_none g0 hI0
  · exact get?_size_none _
end
end Sets
end Mine

set_option maxHeartbeats 1000000
namespace Mine
open PySem PySem.W PyProof.Rows PySem.Calls PySem.Builtin
namespace Sets
section
variable {prog : Program} {w : World} {hB : Bs} {n : Nat} {A : Around} {E : Value → Shared → Prop} {s : Shared} {a : Addr} {L : List S} {X : Addr → Prop}

/-- sorted(xs) of a set of strs -/
theorem wp_sortedSet (hr : Room n A) (Si : Sit hB X s) (hS : SetIs w s.heap a L) (hL : L.length < 64) :
    wpAny (model prog w) A (PySem.call (.builtin "sorted") [.ref a]) (fun u s' => Gone s s' ∧ Rd prog w X s' u (.list ((srt L).map .str))) E s := by
  have hh := hr.hd
  refine Calls.call_function_entry kind_sorted plain_sorted entry_sorted (args_sorted1 _) ?_
  unfold Builtin.«sorted»
  refine wpAny_bind (m := checkCount "sorted" 1 1 _) (wpAny_pure ?_)
  refine wpAny_bind (wp_collectSet hS (by omega) hh fun s₁ vs ls g1 hvs hp => ?_)
  have hlen : vs.length < 64 := by
    have := hvs.length; rw [List.length_map, hp.length_eq] at this; omega
  refine wpAny_bind (wpAny_newList ?_ (by rw [sizeLine_eq]; omega))
  have hoL : (s₁.heap.push (seqObj "list" vs.toArray 0)).get? s₁.heap.objs.size = some (seqObj "list" vs.toArray 0) := Heap.get?_push_size _ rfl
  refine wpAny_bind (wpAny_holding (wpAny_call_entry slot_list_sort (self := .ref s₁.heap.objs.size) ⟨_, hoL, rfl⟩ entry_list_sort (list_sort_treeK (s := { s₁ with heap := s₁.heap.push (seqObj "list" vs.toArray 0) }) strKind_oneLt hoL hvs.keysOf (fun v₁ v₂ rest e => keyKind_strs (by rw [← e]; exact hvs)) hlen fun st' a1 a2 => ⟨_, rfl, ?_⟩) (args_list_sort _)))
  obtain ⟨ss', q1, q2, q3⟩ := sorted_out_str hvs a1 a2
  obtain ⟨e, he⟩ := sortedHeap_at (out := (arrOf st').map (·.2)) hoL
  have hsz1 : (s₁.heap.push (seqObj "list" vs.toArray 0)).objs.size = s₁.heap.objs.size + 1 := Heap.size_push _ _
  have g2 : Gone s₁ { s₁ with heap := sortedHeap (s₁.heap.push (seqObj "list" vs.toArray 0)) s₁.heap.objs.size vs ((arrOf st').map (·.2)) } := Gone.mkh fun b o q => by
    have hlt := Heap.lt_size q
    rw [sortedHeap_old (Nat.ne_of_lt hlt) (Nat.lt_of_lt_of_le hlt (by rw [hsz1]; exact Nat.le_succ _))]
    exact Heap.get?_push_of_some _ q
  have S1 := Si.keep g1
  refine wpAny_pure ⟨_, rfl, g1.trans g2, Rd.mkList (vs := ((arrOf st').map (·.2)).toList) (n := e) S1.fresh (by simpa only [seqObj, PySem.W.listOf, Array.toArray_toList] using he) ?_⟩
  have hpp : ss'.Perm (L.map tx) := q2.trans (hp.map _)
  rw [srt_of hpp q3] at q1
  exact StrsAre.rd q1
end

section
variable {prog : Program} {w : World} {hB : Bs} {n : Nat} {K : Frag} {env : Env} {ρ ρc : List (Str × D)} {μ μ' : List (Str × Ow)} {X Y M : Addr → Prop} {B Bc : List Str} {scope : Scope} {Q : Po}

/-- sorted(set(e)) of a list of strs -/
theorem Ev.sortedSet {x y : Str} {p p' pos pos' : Pos} {e : PySem.Expr} {ds : List D} {ls : List S} (hf : Ev prog w hB (n + 1) env ρ (.Name x p) (.val (.builtin "sorted"))) (hg : Ev prog w hB (n + 1) env ρ (.Name y p') (.val (.type "set")))
    (he : Ev prog w hB (n + 1) env ρ e (.list ds)) (hl : AreS ds ls) (hsz : ls.length < 63)
    (hst : starEach [.Call (.Name y p') [e] [] pos'] env = (false, eval (.Call (.Name y p') [e] [] pos') env) :: starEach [] env := by rfl) (hplain : (backTo pos (starEach [] env)).any (·.1) = false := by rfl)
    (hst' : starEach [e] env = (false, eval e env) :: starEach [] env := by rfl) (hplain' : (backTo pos' (starEach [] env)).any (·.1) = false := by rfl) :
    Ev prog w hB (n + 1) env ρ (.Call (.Name x p) [.Call (.Name y p') [e] [] pos'] [] pos) (.list ((srt (ls.foldl addS [])).map .str)) := by
  intro A X s E hr S
  have hb : scanBound = 4096 := rfl
  have hlen : ∀ (l : List Mine.S) (L : List Mine.S), (l.foldl addS L).length ≤ L.length + l.length := by
    intro l
    induction l with
    | nil => intro L; exact Nat.le_refl _
    | cons z l ih =>
      intro L
      rw [List.foldl_cons]
      have h1 := ih (addS L z)
      have h2 : (addS L z).length ≤ L.length + 1 := by unfold addS; split <;> simp
      rw [List.length_cons]; omega
  have h0 := hlen ls []
  simp only [List.length_nil] at h0
  refine wpAny_Call_NameR (wpAny_mono (hf A X s _ hr S) (fun v s₁ h₁ => ?_) fun _ _ e => e)
  obtain ⟨g1, r1⟩ := h₁
  cases r1
  have S1 := S.keep g1
  have inner : wpAny (model prog w) A (eval (.Call (.Name y p') [e] [] pos') env) (fun u s' => Gone s₁ s' ∧ ∃ a, u = .ref a ∧ ¬ X a ∧ SetIs w s'.heap a (ls.foldl addS [])) E s₁ := by
    refine wpAny_Call_NameR (wpAny_mono (hg A X s₁ _ hr S1) (fun v s₂ h₂ => ?_) fun _ _ e => e)
    obtain ⟨g2, r2⟩ := h₂
    cases r2
    have S2 := S1.keep g2
    refine PyProof.Rows.callWith_type1 (wpAny_mono ((EvL.cons he EvL.nil hst') A X s₂ _ hr S2) (fun vs s₃ h₃ => ?_) fun _ _ e => e) hst' hplain'
    obtain ⟨g3, r3⟩ := h₃
    obtain ⟨v, rfl, r4⟩ := r3.one
    refine wpAny_mono (wp_callSet (n := n) hr (S2.keep g3).sit r4 hl (by omega)) (fun u s₄ h₄ => ⟨(g2.trans g3).trans h₄.1, h₄.2⟩) fun _ _ e => e
  refine PyProof.Rows.callWith_builtin1 (Q := fun v s' => Gone s s' ∧ Rd prog w X s' v (.list ((srt (ls.foldl addS [])).map .str))) ?_ hst hplain
  rw [hst]
  show wpAny _ _ (spliced ((false, if false = true then (do let v ← eval (.Call (.Name y p') [e] [] pos') env; standAt pos; pure v) else eval (.Call (.Name y p') [e] [] pos') env) :: backTo pos (starEach [] env))) _ _ _
  refine spliced_cons (wpAny_mono inner (fun v s₂ h₂ => ?_) fun _ _ e => e)
  obtain ⟨g2, a, rfl, hx, hS⟩ := h₂
  refine spliced_nil ?_
  exact wpAny_mono (wp_sortedSet hr (S1.keep g2).sit hS (by omega)) (fun u s₃ h₃ => ⟨(g1.trans g2).trans h₃.1, h₃.2⟩) fun _ _ e => e
end
end Sets
end Mine

set_option maxHeartbeats 1000000
namespace Mine
open PySem PySem.W PyProof.Rows PySem.Calls
abbrev PG : Program := Challenge.rw_wj0079_01.row.prog
noncomputable abbrev KK (w : World) : Frag := Mine.frag.heap_1 w.params
section
variable {w : World}
theorem gFlags : nsIn (KK w) mainGlobals "Flags" = some (some (.ref 43)) := by kernel_rfl
theorem gParseFlags : nsIn (KK w) mainGlobals "ParseFlags" = some (some (.ref 50)) := by kernel_rfl
theorem gle : nsIn (KK w) mainGlobals "le" = some (some (.ref 57)) := by kernel_rfl
theorem gsub : nsIn (KK w) mainGlobals "sub" = some (some (.ref 64)) := by kernel_rfl
theorem gcountOf : nsIn (KK w) mainGlobals "countOf" = some (some (.ref 71)) := by kernel_rfl
theorem gWhitespace : nsIn (KK w) mainGlobals "Whitespace" = some (some (.ref 133)) := by kernel_rfl
theorem gnamedisallowedre : nsIn (KK w) mainGlobals "_name_disallowed_re" = some (some (.ref 142)) := by kernel_rfl
theorem gvaluedisallowedre : nsIn (KK w) mainGlobals "_value_disallowed_re" = some (some (.ref 147)) := by kernel_rfl
theorem gHeaders : nsIn (KK w) mainGlobals "Headers" = some (some (.ref 268)) := by kernel_rfl
theorem glawleads : nsIn (KK w) mainGlobals "_law_leads" = some (some (.ref 277)) := by kernel_rfl
theorem glawtold : nsIn (KK w) mainGlobals "_law_told" = some (some (.ref 282)) := by kernel_rfl
theorem glawunder : nsIn (KK w) mainGlobals "_law_under" = some (some (.ref 287)) := by kernel_rfl
theorem glaworders : nsIn (KK w) mainGlobals "_law_orders" = some (some (.ref 292)) := by kernel_rfl
theorem glawhands : nsIn (KK w) mainGlobals "_law_hands" = some (some (.ref 299)) := by kernel_rfl
theorem glawchains : nsIn (KK w) mainGlobals "_law_chains" = some (some (.ref 304)) := by kernel_rfl
theorem glawchoices : nsIn (KK w) mainGlobals "_law_choices" = some (some (.ref 309)) := by kernel_rfl
theorem glawstruck : nsIn (KK w) mainGlobals "_law_struck" = some (some (.ref 314)) := by kernel_rfl
theorem glawcounted : nsIn (KK w) mainGlobals "_law_counted" = some (some (.ref 319)) := by kernel_rfl
theorem nlen : nsIn (KK w) mainGlobals "len" = some Option.none := by kernel_rfl
theorem blen : bootBuiltins "len" = some (.builtin "len") := by kernel_rfl
theorem nmax : nsIn (KK w) mainGlobals "max" = some Option.none := by kernel_rfl
theorem bmax : bootBuiltins "max" = some (.builtin "max") := by kernel_rfl
theorem nsum : nsIn (KK w) mainGlobals "sum" = some Option.none := by kernel_rfl
theorem bsum : bootBuiltins "sum" = some (.builtin "sum") := by kernel_rfl
theorem nsorted : nsIn (KK w) mainGlobals "sorted" = some Option.none := by kernel_rfl
theorem bsorted : bootBuiltins "sorted" = some (.builtin "sorted") := by kernel_rfl
theorem nrange : nsIn (KK w) mainGlobals "range" = some Option.none := by kernel_rfl
theorem brange : bootBuiltins "range" = some (.type "range") := by kernel_rfl
theorem ntuple : nsIn (KK w) mainGlobals "tuple" = some Option.none := by kernel_rfl
theorem btuple : bootBuiltins "tuple" = some (.type "tuple") := by kernel_rfl
theorem nset : nsIn (KK w) mainGlobals "set" = some Option.none := by kernel_rfl
theorem bset : bootBuiltins "set" = some (.type "set") := by kernel_rfl
theorem ntype : nsIn (KK w) mainGlobals "type" = some Option.none := by kernel_rfl
theorem btype : bootBuiltins "type" = some (.type "type") := by kernel_rfl
theorem nenumerate : nsIn (KK w) mainGlobals "enumerate" = some Option.none := by kernel_rfl
theorem benumerate : bootBuiltins "enumerate" = some (.type "enumerate") := by kernel_rfl
theorem nstr : nsIn (KK w) mainGlobals "str" = some Option.none := by kernel_rfl
theorem bstr : bootBuiltins "str" = some (.type "str") := by kernel_rfl
theorem nlist : nsIn (KK w) mainGlobals "list" = some Option.none := by kernel_rfl
theorem blist : bootBuiltins "list" = some (.type "list") := by kernel_rfl
end
end Mine

set_option maxHeartbeats 1000000
namespace Mine
open PySem PySem.W PyProof.Rows PySem.Calls

section
variable {w : World} {hB : Bs} {n : Nat}

theorem le_fn (W : Wd hB (KK w)) (a b : Int) : Fn PG w hB (n + 1) (.ref 57) [.int a, .int b] (.bool (decide (a ≤ b))) := by
  refine Fn.of_def (B := []) (names := ["a", "b"]) (Q := fun fl _ _ => fl = .ret (.bool (decide (a ≤ b)))) W (by rfl) rfl rfl rfl ?_ rfl rfl (by decide) (by decide) (by decide) (fun L => ?_) (fun fl _ _ h => .inl h)
  · exact args2 fun _ _ => rfl
  · refine Ex.cons (Ex1.ret (Ev.cmp (Ev.name rfl rfl) (Ev.name rfl rfl) Giv2.le_int) ?_)
    exact rfl
theorem sub_fn (W : Wd hB (KK w)) (a b : Int) : Fn PG w hB (n + 1) (.ref 64) [.int a, .int b] (.int (a - b)) := by
  refine Fn.of_def (B := []) (names := ["a", "b"]) (Q := fun fl _ _ => fl = .ret (.int (a - b))) W (by rfl) rfl rfl rfl ?_ rfl rfl (by decide) (by decide) (by decide) (fun L => ?_) (fun fl _ _ h => .inl h)
  · exact args2 fun _ _ => rfl
  · refine Ex.cons (Ex1.ret (Ev.bin (Ev.name rfl rfl) (Ev.name rfl rfl) Giv2.sub_int) ?_)
    exact rfl
theorem countOf_fn (W : Wd hB (KK w)) (ls : List S) (b : S) (t : Nat) : Fn PG w hB (n + 1) (.ref 71) [.list (ls.map (.old t)), .young t b] (.int (ls.count b)) := by
  refine Fn.of_def (B := ["count", "i"]) (names := ["a", "b"]) (Q := fun fl _ _ => fl = .ret (.int (ls.count b))) W (by rfl) rfl rfl rfl ?_ rfl rfl (by decide) (by decide) (by decide) (fun L => ?_) (fun fl _ _ h => .inl h)
  · exact args2 fun _ _ => rfl
  · refine Ex.cons (Ex1.assign Ev.const_int (by decide) ?_)
    refine Ex.cons (Ex1.for (Ev.name rfl rfl) Runs.list ?_)
    refine ForR.inv (σ := Int) (fun c => [("count", .int c), ("b", .young t b)]) (fun _ => []) (fun its c => ∃ l : List S, its = l.map (.old t) ∧ c + l.count b = ls.count b) ?_ ?_ _ 0 _ _ ⟨ls, rfl, by simp⟩ (Has.cons rfl (Has.cons rfl Has.nil)) Has.nil
    · rintro it its c ⟨l, e, hc⟩
      cases l with
      | nil => cases e
      | cons x l =>
        cases e
        refine ⟨_, .name, In1 (by decide) In0, Ex.cons (Ex1.ite (b := x == b) ?_ (fun hb => Ex.cons (Ex1.aug rfl Ev.const_int (by decide) Giv2.iadd_int ?_ rfl)) fun hb => Ex.nil ?_)⟩
        · refine Tr.orP (TrP.is_strs W.nb (Ev.name rfl rfl) (Ev.name rfl rfl) (Nat.le_refl _)) (fun h => by simpa using h rfl) fun _ => Tr.cmp (Ev.name rfl rfl) (Ev.name rfl rfl) (Giv2.eq_str (.old _ _) (.young _ _))
        · refine Ex.nil (Ex.nil ⟨c + 1, ⟨l, rfl, ?_⟩, Has.cons rfl (Has.cons rfl Has.nil), Has.nil⟩)
          have : x = b := by simpa using hb
          subst this
          rw [List.count_cons_self] at hc
          push_cast at hc; omega
        · refine Ex.nil ⟨c, ⟨l, rfl, ?_⟩, Has.cons rfl (Has.cons rfl Has.nil), Has.nil⟩
          rw [List.count_cons] at hc
          simp [hb] at hc
          exact hc
    · rintro c ρ μ ⟨l, e, hc⟩ hr hm
      cases l with
      | cons x l => cases e
      | nil =>
        refine Ex.from _ [] ?_ hr Has.nil
        refine Ex.cons (Ex1.ret (Ev.name rfl rfl) ?_)
        show _ = _
        rw [← hc]; simp
end
end Mine

set_option maxHeartbeats 1000000
namespace Mine
open PySem PySem.W PyProof.Rows PySem.Calls
section
variable {w : World} {hB : Bs} {n : Nat}

def wsInst (x : S) (m nt : Int) (cnt : List Int) (b : Int) (sm : Bool) : List (Str × D) :=
  [("raw", .str x), ("n", .int m), ("nt", .int nt), ("norm", .tuple [.tuple (cnt.map .int), .int b]), ("is_simple", .bool sm)]

theorem wsCls : Cls (KK w) 133 := ⟨by rfl, by rfl, by rfl⟩

theorem longest_fn (W : Wd hB (KK w)) (x : S) (m nt : Int) (cnt : List Int) (b : Int) (sm : Bool) (hc : cnt.length ≤ 100) :
    Fn PG w hB (n + 1) (.ref 95) [.inst 133 (wsInst x m nt cnt b sm)] (.int (if b > (cnt.length : Int) - 1 then b else (cnt.length : Int) - 1)) := by
  refine Fn.of_def (B := ["count", "trailing"]) (names := ["self"]) (Q := fun fl _ _ => fl = .ret _) W (by rfl) rfl rfl rfl ?_ rfl rfl (by decide) (by decide) (by decide) (fun L => ?_) (fun fl _ _ h => .inl h)
  · exact args1 fun _ => rfl
  · refine Ex.cons (Ex1.assignPair (a := .tuple (cnt.map .int)) (b := .int b) (Ev.attr W wsCls (Ev.name rfl rfl) rfl (by rfl) (by rfl) rfl).m (by decide) (by decide) ?_)
    refine Ex.cons (Ex1.ret (Ev.callB (ds := [.int ((cnt.length : Int) - 1), .int b]) (Ev.builtin W rfl (by rfl) rfl rfl nmax bmax) (EvL.cons (Ev.bin (Ev.callB (Ev.builtin W rfl (by rfl) rfl rfl nlen blen) (EvL.cons (Ev.name rfl rfl) EvL.nil) (GivL.len_tuple ?_)) Ev.const_int ?_) (EvL.cons (Ev.name rfl rfl) EvL.nil)) GivL.max_two) ?_)
    · rw [List.length_map, sizeLine_eq]; omega
    · rw [List.length_map]; exact Giv2.sub_int
    · rfl
end
end Mine

set_option maxHeartbeats 1000000
namespace Mine
open PySem PySem.W PyProof.Rows PySem.Calls
section
variable {w : World} {hB : Bs} {n : Nat}

theorem OnlyIns.one {x : Str} {C : Addr} {kvs : List (Str × D)} : OnlyIns [(x, .ins C kvs)] := fun y o h => by
  rw [List.lookup_cons] at h
  split at h
  · cases h; exact ⟨_, _, rfl⟩
  · cases h
structure WsSt where
  cnt : List Int
  b : Nat
  m : Nat
  nt : Nat
def wsRun : S → WsSt → WsSt
  | [], s => s
  | c :: r, s => if c = 32 then wsRun r { s with b := s.b + 1, m := s.m + 1 } else if c = 9 then wsRun r ⟨(List.replicate (s.b + 1) 0).set s.b 1, 0, s.m + 1, s.nt + 1⟩ else s

theorem wsSet (name : Str) (h : takerIn (KK w) 133 name = some Option.none := by rfl) : ClsSet (KK w) 133 name := ⟨by rfl, by rfl, h, by rfl⟩

def wsR (x : Addr) (s : WsSt) : List (Str × D) := [("count", .list (s.cnt.map .int)), ("b", .int s.b), ("n", .int s.m), ("nt", .int s.nt), ("S", .str [32]), ("T", .str [9]), ("self", .val (.ref x))]

theorem ws_init (W : Wd hB (KK w)) (x : S) (ha : x.all (· < 128) = true) (hl : x.length ≤ 50) (h9 : x.count 9 ≤ 1) :
    InitC PG w hB (n + 1) 88 133 [.str x] (wsInst x (wsRun x ⟨[], 0, 0, 0⟩).m (wsRun x ⟨[], 0, 0, 0⟩).nt (wsRun x ⟨[], 0, 0, 0⟩).cnt (wsRun x ⟨[], 0, 0, 0⟩).b (decide ((wsRun x ⟨[], 0, 0, 0⟩).cnt.length ≤ 1))) := by
  refine InitC.of_def (B := ["S", "T", "count", "b", "n", "nt", "ch"]) (sn := "self") (ns := ["ws"])
    (Q := fun y fl ρ μ => fl = .next ∧ ρ.lookup ("self" : Str) = some (.val (.ref y)) ∧ μ.lookup ("self" : Str) = some (.ins 133 _)) W (by rfl) rfl rfl rfl ?_ rfl rfl (by decide) (by decide) (by decide) (fun L y => ?_)
    (fun y fl ρ μ h => ⟨.inl h.1, .inl h.2⟩)
  · intro s vs y _ h
    obtain ⟨u, rfl⟩ := len1 h
    exact BindsTo.of_eq rfl
  · refine Ex.cons (Ex1.setattr W (wsSet "raw") (Ev.name rfl rfl).m rfl (by decide) (fun y o h => nomatch h) ?_ rfl)
    refine Ex.cons (Ex1.assignPairSwap (x := "S") (y := "T") (a := .str [32]) (b := .str [9]) (Ev.tuple (EvL.cons (Ev.clsAttr (mc := .type "type") (v := .str " " 391) W (Ev.global W rfl (by rfl) rfl gWhitespace) (by rfl) (by rfl) rfl fun X s => .str [32] 391) (EvL.cons (Ev.clsAttr (mc := .type "type") (v := .str "\t" 392) W (Ev.global W rfl (by rfl) rfl gWhitespace) (by rfl) (by rfl) rfl fun X s => .str [9] 392) EvL.nil)))
      (by decide) (by decide) (by rfl) (by rfl) ?_)
    refine Ex.cons (Ex1.assign (Ev.list EvL.nil) (by decide) ?_)
    refine Ex.cons (Ex1.assign3 Ev.const_int (by decide) (by decide) (by decide) (.int 0) ?_)
    refine Ex.cons (Ex1.forM (EvM.attr W wsCls rfl rfl (by rfl) (by rfl) rfl rfl) (Runs.str (.str x) ha) ?_)
    generalize hfin : wsRun x ⟨[], 0, 0, 0⟩ = fin
    refine ForR.go (fun ρ μ => Has (wsR y fin) ρ ∧ Has [("self", .ins 133 [("raw", .str x)])] μ ∧ fin.cnt.length ≤ 51) ?_ ?_
    refine ForR.inv (σ := WsSt) (wsR y) (fun _ => [("self", .ins 133 [("raw", .str x)])])
      (fun its st => ∃ r : S, its = r.map (fun c => .own [c]) ∧ wsRun r st = fin ∧ r.count 9 ≤ 1 ∧ (9 ∈ r → st.cnt = []) ∧ st.m + r.length ≤ 50 ∧ st.b ≤ st.m ∧ st.cnt.length ≤ 51) ?_ ?_ _ ⟨[], 0, 0, 0⟩ _ _
      ⟨x, rfl, hfin, h9, fun _ => rfl, by simpa using hl, Nat.le_refl _, by decide⟩ (Has.cons rfl (Has.cons rfl (Has.cons rfl (Has.cons rfl (Has.cons rfl (Has.cons rfl (Has.cons rfl Has.nil))))))) (Has.cons rfl Has.nil)
    · rintro it its st ⟨r, e, h1, h2, h3, h4, h5, h6⟩
      cases r with
      | nil => cases e
      | cons c r =>
        cases e
        obtain ⟨cnt, b, m, nt⟩ := st
        simp only [List.length_cons] at h4
        refine ⟨_, .name, In1 (by decide) In0, Ex.cons (Ex1.ite (b := ([c] : S) == [32]) (Tr.cmp (Ev.name rfl rfl) (Ev.name rfl rfl) (Giv2.eq_str (.own _) (.str _))) (fun hb => ?_) fun hb => ?_)⟩
        · have hc : c = 32 := by simpa using hb
          subst hc
          refine Ex.cons (Ex1.assign (Ev.bin (Ev.name rfl rfl) Ev.const_int Giv2.add_int) (by decide) ?_)
          refine Ex.cons (Ex1.assign (Ev.bin (Ev.name rfl rfl) Ev.const_int Giv2.add_int) (by decide) ?_)
          refine Ex.nil (Ex.nil ⟨⟨cnt, b + 1, m + 1, nt⟩, ⟨r, rfl, ?_, ?_, ?_, ?_, ?_, h6⟩, ?_, Has.cons rfl Has.nil⟩)
          · rw [← h1, wsRun, if_pos rfl]
          · simpa using h2
          · intro h; exact h3 (List.mem_cons_of_mem _ h)
          · show m + 1 + r.length ≤ 50; have : m + (r.length + 1) ≤ 50 := h4; omega
          · exact Nat.succ_le_succ h5
          · exact Has.cons rfl (Has.cons rfl (Has.cons rfl (Has.cons rfl (Has.cons rfl (Has.cons rfl (Has.cons rfl Has.nil))))))
        · have hc : c ≠ 32 := by simpa using hb
          refine Ex.cons (Ex1.ite (b := ([c] : S) == [9]) (Tr.cmp (Ev.name rfl rfl) (Ev.name rfl rfl) (Giv2.eq_str (.own _) (.str _))) (fun hb' => ?_) fun hb' => ?_)
          · have hc' : c = 9 := by simpa using hb'
            subst hc'
            have hcnt : cnt = [] := h3 List.mem_cons_self
            subst hcnt
            have hb50 : b ≤ 50 := by have e1 : m + (r.length + 1) ≤ 50 := h4; have e2 : b ≤ m := h5; omega
            have hm50 : m + (r.length + 1) ≤ 50 := h4
            refine Ex.cons (Ex1.assign (Ev.bin (Ev.name rfl rfl) Ev.const_int Giv2.add_int) (by decide) ?_)
            refine Ex.cons (Ex1.assign (Ev.bin (Ev.name rfl rfl) Ev.const_int Giv2.add_int) (by decide) ?_)
            have hge : decide ((b : Int) ≥ (([] : List D).length : Nat)) = true := decide_eq_true (by simp)
            have hlen : GivL PG w hB n (fun vs => PySem.call (.builtin "len") vs) [.list []] (.int (([] : List D).length : Nat)) := GivL.len_list (by decide)
            have hk0 : (0 : Int) ≤ (b : Int) - (([] : List D).length : Nat) + 1 := by simp only [List.length_nil]; omega
            have hk1 : (b : Int) - (([] : List D).length : Nat) + 1 ≤ 1000 := by simp only [List.length_nil]; omega
            have hkt : ((b : Int) - (([] : List D).length : Nat) + 1).toNat = b + 1 := by simp only [List.length_nil]; omega
            refine Ex.cons (Ex1.ite (b := true) (hge ▸ Tr.cmp (Ev.name rfl rfl) (Ev.callB (Ev.builtin W rfl (by rfl) rfl rfl nlen blen) (EvL.cons (Ev.name rfl rfl) EvL.nil) hlen) Giv2.ge_int) (fun _ => ?_) fun z => nomatch z)
            refine Ex.cons (Ex1.own (EvN.add (Ev.name rfl rfl) (Ev.bin (Ev.list (EvL.cons Ev.const_int EvL.nil)) (Ev.bin (Ev.bin (Ev.name rfl rfl) (Ev.callB (Ev.builtin W rfl (by rfl) rfl rfl nlen blen) (EvL.cons (Ev.name rfl rfl) EvL.nil) hlen) Giv2.sub_int) Ev.const_int Giv2.add_int) (Giv2.mul_list hk0 hk1)) ?_) (by decide) fun a => ?_)
            · rw [hkt, List.length_replicate, sizeLine_eq]; simp; omega
            rw [hkt]
            have hget : ([] ++ List.replicate (b + 1) (D.int 0))[((b : Int)).toNat]? = some (.int 0) := by
              simp [List.getElem?_replicate]
            refine Ex.nil (Ex.cons (Ex1.setItem (k := b) (EvM.read (Ev.bin (Ev.sub_list (i := b) (Ev.name rfl rfl) (Ev.name rfl rfl) (by omega) (by omega) hget) Ev.const_int Giv2.add_int) (.int _) (OnlyIns.drop OnlyIns.one) rfl) (Ev.name rfl rfl) (.int _) (OnlyIns.drop OnlyIns.one) (by omega) ?_ (by omega) ?_ rfl))
            · show ((b : Int)).toNat < ([] ++ List.replicate (b + 1) (D.int 0)).length
              rw [List.nil_append, List.length_replicate]; omega
            refine Ex.release ?_ (OnlyIns.drop OnlyIns.one) rfl
            refine Ex.cons (Ex1.assign Ev.const_int (by decide) ?_)
            refine Ex.nil (Ex.nil (Ex.nil ⟨⟨(List.replicate (b + 1) 0).set b 1, 0, m + 1, nt + 1⟩, ⟨r, rfl, ?_, ?_, ?_, ?_, ?_, ?_⟩, ?_, Has.cons rfl Has.nil⟩))
            · rw [← h1, wsRun, if_neg (by decide), if_pos rfl]
            · simp only [List.count_cons_self] at h2; omega
            · intro h
              have := List.count_pos_iff.mpr h
              simp only [List.count_cons_self] at h2; omega
            · show m + 1 + r.length ≤ 50; omega
            · exact Nat.zero_le _
            · show (List.set _ _ _).length ≤ 51; rw [List.length_set, List.length_replicate]; omega
            · have e : ([] ++ List.replicate (b + 1) (D.int 0)).set ((b : Int)).toNat (.int (0 + 1)) = ((List.replicate (b + 1) 0).set b 1).map .int := by
                rw [List.map_set, List.map_replicate]; rfl
              refine Has.cons ?_ (Has.cons rfl (Has.cons rfl (Has.cons rfl (Has.cons rfl (Has.cons rfl (Has.cons rfl Has.nil))))))
              rw [← e]; rfl
          · have hc' : c ≠ 9 := by simpa using hb'
            refine Ex.cons (Ex1.brk ?_)
            have hst : fin = ⟨cnt, b, m, nt⟩ := by rw [← h1, wsRun, if_neg hc, if_neg hc']
            refine ⟨rfl, ?_, Has.cons rfl Has.nil, by rw [hst]; exact h6⟩
            rw [hst]
            exact Has.cons rfl (Has.cons rfl (Has.cons rfl (Has.cons rfl (Has.cons rfl (Has.cons rfl (Has.cons rfl Has.nil))))))
    · rintro st ρ μ ⟨r, e, h1, h2, h3, h4, h5, h6⟩ hr hm
      cases r with
      | cons c r => cases e
      | nil =>
        have hst : fin = st := by rw [← h1]; rfl
        rw [hst]
        exact ⟨rfl, hr, hm, h6⟩
    · rintro ρ μ ⟨hr, hm, hc⟩
      refine Ex.from _ _ ?_ hr hm
      refine Ex.cons (Ex1.setattr W (wsSet "n") (Ev.name rfl rfl).m rfl (Nat.le_of_ble_eq_true rfl) (fun y o h => nomatch h) ?_ rfl)
      refine Ex.cons (Ex1.setattr W (wsSet "nt") (Ev.name rfl rfl).m rfl (Nat.le_of_ble_eq_true rfl) (fun y o h => nomatch h) ?_ rfl)
      refine Ex.cons (Ex1.setattr W (wsSet "norm") (Ev.tuple (EvL.cons (Ev.callT (Ev.builtin W rfl (by rfl) rfl rfl ntuple btuple) (EvL.cons (Ev.name rfl rfl) EvL.nil) (GivL.tuple_list ?_)) (EvL.cons (Ev.name rfl rfl) EvL.nil))).m rfl (Nat.le_of_ble_eq_true rfl) (fun y o h => nomatch h) ?_ rfl)
      · rw [List.length_map, sizeLine_eq]; omega
      refine Ex.cons (Ex1.setattr W (wsSet "is_simple") (Ev.cmp (Ev.callB (Ev.builtin W rfl (by rfl) rfl rfl nlen blen) (EvL.cons (Ev.name rfl rfl) EvL.nil) (GivL.len_list ?_)) Ev.const_int Giv2.le_int).m rfl (Nat.le_of_ble_eq_true rfl) (fun y o h => nomatch h) ?_ rfl)
      · rw [List.length_map, sizeLine_eq]; omega
      have e : decide (((fin.cnt.map D.int).length : Int) ≤ 1) = decide (fin.cnt.length ≤ 1) := by
        rw [List.length_map, decide_eq_decide]; omega
      refine Ex.nil ⟨rfl, rfl, ?_⟩
      rw [e]
      rfl
end
end Mine

set_option maxHeartbeats 1000000
namespace Mine
open PySem PySem.W PyProof.Rows PySem.Calls
section
variable {w : World} {hB : Bs} {n : Nat}

/-- the class is called -/
theorem ws_cls (W : Wd hB (KK w)) (x : S) (ha : x.all (· < 128) = true) (hl : x.length ≤ 50) (h9 : x.count 9 ≤ 1) :
    Fn PG w hB (n + 2) (.ref 133) [.str x] (.inst 133 (wsInst x (wsRun x ⟨[], 0, 0, 0⟩).m (wsRun x ⟨[], 0, 0, 0⟩).nt (wsRun x ⟨[], 0, 0, 0⟩).cnt (wsRun x ⟨[], 0, 0, 0⟩).b (decide ((wsRun x ⟨[], 0, 0, 0⟩).cnt.length ≤ 1)))) :=
  Fn.cls W (by rfl) (by rfl) (by rfl) (ws_init W x ha hl h9)

/-- the signs that the law's names and texts bear -/
def okc : List Nat := [32, 40, 41, 65, 70, 71, 73, 76, 78, 83, 97, 98, 99, 100]
def nameCode : Array Nat := #[14, 10, 4, 1, 1, 22, 0, 31, 16, 127, 0, 13, 7, 22, 0, 31, 16, 127, 0, 1]
def valueCode : Array Nat := #[14, 14, 4, 1, 1, 9, 4294966783, 0, 0, 2147483648, 0, 0, 0, 0, 0, 13, 11, 9, 4294966783, 0, 0, 2147483648, 0, 0, 0, 0, 0, 1]
theorem name_ok : ∀ c ∈ okc, ∀ seen, ∃ seen', Sre.inSet nameCode c nameCode.size 5 true seen = .ok (false, seen') := by
  intro c hc seen
  simp only [okc, List.mem_cons, List.not_mem_nil, or_false] at hc
  rcases hc with rfl | rfl | rfl | rfl | rfl | rfl | rfl | rfl | rfl | rfl | rfl | rfl | rfl | rfl <;> exact ⟨_, rfl⟩
theorem value_ok : ∀ c ∈ okc, ∀ seen, ∃ seen', Sre.inSet valueCode c valueCode.size 5 true seen = .ok (false, seen') := by
  intro c hc seen
  simp only [okc, List.mem_cons, List.not_mem_nil, or_false] at hc
  rcases hc with rfl | rfl | rfl | rfl | rfl | rfl | rfl | rfl | rfl | rfl | rfl | rfl | rfl | rfl <;> exact ⟨_, rfl⟩

theorem name_search (W : Wd hB (KK w)) {d : D} {x : S} (hd : IsS d x) (hx : x.length ≤ 1000) (h : ∀ c ∈ x, c ∈ okc) : GivL PG w hB n (fun vs => PySem.call (.builtin "re.Pattern.search") vs) [.val (.ref 142), d] .none :=
  Re.GivL.search (C := 141) (code := nameCode) W (by rfl) rfl rfl rfl rfl (by rfl) rfl (by simp [nameCode, Builtin.Re.reRawOf]) hd hx (fun m e => by unfold Sre.M.hasFirstSet; rw [e]; rfl) fun c hc => name_ok c (h c hc)
theorem value_search (W : Wd hB (KK w)) {d : D} {x : S} (hd : IsS d x) (hx : x.length ≤ 1000) (h : ∀ c ∈ x, c ∈ okc) : GivL PG w hB n (fun vs => PySem.call (.builtin "re.Pattern.search") vs) [.val (.ref 147), d] .none :=
  Re.GivL.search (C := 146) (code := valueCode) W (by rfl) rfl rfl rfl rfl (by rfl) rfl (by simp [valueCode, Builtin.Re.reRawOf]) hd hx (fun m e => by unfold Sre.M.hasFirstSet; rw [e]; rfl) fun c hc => value_ok c (h c hc)

theorem Giv2.is_type {T U : String} : Giv2 PG w hB n (compareOp .Is) (.val (.type T)) (.val (.type U)) (.bool (Value.type T == Value.type U)) := by
  intro A X s E u u' hr hs r₁ r₂
  cases r₁; cases r₂
  exact wpAny_is_plain rfl ⟨Gone.refl _, .bool _⟩
theorem Giv2.is_not_type {T U : String} : Giv2 PG w hB n (compareOp .IsNot) (.val (.type T)) (.val (.type U)) (.bool (!(Value.type T == Value.type U))) := by
  intro A X s E u u' hr hs r₁ r₂
  cases r₁; cases r₂
  exact wpAny_isNot_plain rfl ⟨Gone.refl _, .bool _⟩

/-- a name or value that is well is handed back -/
theorem conv_fn (W : Wd hB (KK w)) {d : D} {x : S} (me : D) (b : Bool) (hd : IsS d x) (hx : x.length ≤ 1000) (h : ∀ c ∈ x, c ∈ okc) :
    FnK PG w hB (n + 1) (.ref 169) [me, d] [("name", .bool b)] d := by
  refine FnK.of_def (B := ["regex"]) (names := ["self", "value", "name"]) (ds' := [me, d, .bool b]) (bnd := fun vs ks => vs ++ ks) (Q := fun fl _ _ => fl = .ret d) W (by rfl) rfl rfl rfl ?_ ?_ rfl rfl (by decide) (by decide) (by decide) (fun L => ?_) (fun fl _ _ h => .inl h)
  · intro s vs ks _ h1 h2
    obtain ⟨u, v, rfl⟩ := len2 h1
    obtain ⟨k, rfl⟩ := len1 h2
    exact BindsTo.of_eq rfl
  · intro X s vs ks r1 r2
    exact r1.append r2
  · refine Ex.cons (Ex1.ite (b := true) (Tr.cmp (Ev.callT (Ev.builtin W rfl (by rfl) rfl rfl ntype btype) (EvL.cons (Ev.name rfl rfl) EvL.nil) (GivL.type_str hd)) (Ev.builtin W rfl (by rfl) rfl rfl nstr bstr) Giv2.is_type) (fun _ => ?_) fun z => nomatch z)
    refine Ex.cons (Ex1.assign (d := .val (.ref (if b then 142 else 147))) (Ev.ifexp (b := b) (Tr.value (Ev.name rfl rfl) GivB.bool) (fun e => ?_) fun e => ?_) (by decide) ?_)
    · subst e; exact Ev.global W rfl (by rfl) rfl gnamedisallowedre
    · subst e; exact Ev.global W rfl (by rfl) rfl gvaluedisallowedre
    refine Ex.cons (Ex1.ite (b := false) (Tr.value (d := .none) ?_ GivB.none) (fun z => nomatch z) fun _ => ?_)
    · cases b with
      | true => exact Ev.methodB Re.plainPat Re.slotSearch Re.typeSearch (Ev.name rfl rfl) (HasM.obj W (by rfl) rfl rfl) (EvL.cons (Ev.name rfl rfl) EvL.nil) (name_search W hd hx h)
      | false => exact Ev.methodB Re.plainPat Re.slotSearch Re.typeSearch (Ev.name rfl rfl) (HasM.obj W (by rfl) rfl rfl) (EvL.cons (Ev.name rfl rfl) EvL.nil) (value_search W hd hx h)
    refine Ex.nil (Ex.cons (Ex1.ret (Ev.name rfl rfl) ?_))
    rfl
end
end Mine

set_option maxHeartbeats 1000000
namespace Mine
open PySem PySem.W PyProof.Rows PySem.Calls
section
variable {w : World} {hB : Bs} {n : Nat}

theorem Cb0 {Bc : List Str} {ρc : List (Str × D)} : ∀ q ∈ ([] : List (Str × D)), q.1 ∈ Bc ∧ ρc.lookup q.1 = Option.none := fun q h => nomatch h
theorem Cb1 {Bc : List Str} {ρc r : List (Str × D)} {x : Str} {d : D} (h : x ∈ Bc) (h' : ρc.lookup x = Option.none) (hr : ∀ q ∈ r, q.1 ∈ Bc ∧ ρc.lookup q.1 = Option.none) : ∀ q ∈ (x, d) :: r, q.1 ∈ Bc ∧ ρc.lookup q.1 = Option.none := fun q hq => by
  rcases List.mem_cons.mp hq with rfl | hq
  · exact ⟨h, h'⟩
  · exact hr q hq
def fstD : D → D
  | .tuple (a :: _) => a
  | d => d
def sndD : D → D
  | .tuple (_ :: b :: _) => b
  | d => d
theorem CompBlock.cast {env : Env} {scope : Scope} {ρc : List (Str × D)} {Bc : List Str} {e : PySem.Expr} {its outs outs' : List D} (h : CompBlock PG w hB n env scope ρc Bc e its outs) (q : outs = outs') : CompBlock PG w hB n env scope ρc Bc e its outs' := q ▸ h
def hdrD (hs : List (S × S)) : D := .list (hs.map fun p => .tuple [.own p.1, .str p.2])
def hdInst (hs : List (S × S)) : List (Str × D) := [("_headers", hdrD hs)]
def WellS (x : S) : Prop := x.length ≤ 1000 ∧ ∀ c ∈ x, c ∈ okc
def WellH (hs : List (S × S)) : Prop := ∀ p ∈ hs, WellS p.1 ∧ WellS p.2

theorem hdCls : Cls (KK w) 268 := ⟨by rfl, by rfl, by rfl⟩
theorem hdSet : ClsSet (KK w) 268 "_headers" := ⟨by rfl, by rfl, by rfl, by rfl⟩
theorem hdConv : findIn (KK w) (.ref 268) "_convert_string_type" = some (some (.ref 169)) := by rfl
theorem hdConvT : typeIn (KK w) (.ref 169) = some (.type "function") := by rfl

theorem hd_init (W : Wd hB (KK w)) (hs : List (S × S)) (hh : WellH hs) : InitC PG w hB (n + 2) 162 268 [hdrD hs] (hdInst hs) := by
  refine InitC.of_def (B := ["headers", "k", "v"]) (sn := "self") (ns := ["headers"])
    (Q := fun y fl ρ μ => fl = .next ∧ ρ.lookup ("self" : Str) = some (.both (.val (.ref y)) (.inst 268 (hdInst hs)))) W (by rfl) rfl rfl rfl ?_ rfl rfl (by decide) (by decide) (by decide) (fun L y => ?_)
    (fun y fl ρ μ h => ⟨.inl h.1, .inr h.2⟩)
  · intro s vs y hk h
    obtain ⟨u, rfl⟩ := len1 h
    exact binds_K (W.X.keeps hk) rfl (by rfl) rfl rfl rfl
  · refine Ex.cons (Ex1.assign (d := hdrD hs) (Ev.ifexp (b := true) (Tr.cmp (Ev.name rfl rfl) Ev.const_none (Giv2.isnot_none (b := false) ?_)) (fun _ => Ev.name rfl rfl) fun z => nomatch z) (by decide) ?_)
    · intro prog w X s u r
      obtain ⟨a, vs, k, rfl, _⟩ := r.list_inv
      exact ⟨rfl, rfl⟩
    refine Ex.cons (Ex1.ite (b := false) (Tr.cmp (Ev.callT (Ev.builtin W rfl (by rfl) rfl rfl ntype btype) (EvL.cons (Ev.name rfl rfl) EvL.nil) GivL.type_list) (Ev.builtin W rfl (by rfl) rfl rfl nlist blist) Giv2.is_not_type) (fun z => nomatch z) fun _ => Ex.nil ?_)
    refine Ex.cons (Ex1.setattr W hdSet (Ev.name rfl rfl).m rfl (Nat.le_of_ble_eq_true rfl) (fun y o h => nomatch h) ?_ rfl)
    refine Ex.releaseI rfl ?_
    refine Ex.cons (Ex1.ite (b := true) (Tr.value Ev.const_bool GivB.bool) (fun _ => ?_) fun z => nomatch z)
    refine Ex.cons (Ex1.for (Ev.name rfl rfl) Runs.list ?_)
    refine ForR.inv (σ := Unit) (fun _ => [("self", .both (.val (.ref y)) (.inst 268 (hdInst hs)))]) (fun _ => []) (fun its _ => ∃ l : List (S × S), its = l.map (fun p => .tuple [.own p.1, .str p.2]) ∧ WellH l) ?_ ?_ _ () _ _ ⟨hs, rfl, hh⟩ (Has.cons rfl Has.nil) Has.nil
    · rintro it its _ ⟨l, e, hl⟩
      cases l with
      | nil => cases e
      | cons p l =>
        cases e
        obtain ⟨h1, h2⟩ := hl p (.head _)
        refine ⟨_, .pair, In1 (by decide) (In1 (by decide) In0), ?_⟩
        refine Ex.cons (Ex1.expr (Ev.methodKW W hdCls (Ev.name rfl rfl).snd hdConv hdConvT (by rfl) rfl (EvL.cons (Ev.name rfl rfl) EvL.nil) Ev.const_bool (conv_fn W _ true (.own _) h1.1 h1.2)) ?_)
        refine Ex.cons (Ex1.expr (Ev.methodKW W hdCls (Ev.name rfl rfl).snd hdConv hdConvT (by rfl) rfl (EvL.cons (Ev.name rfl rfl) EvL.nil) Ev.const_bool (conv_fn W _ false (.str _) h2.1 h2.2)) ?_)
        exact Ex.nil ⟨(), ⟨l, rfl, fun q hq => hl q (.tail _ hq)⟩, Has.cons rfl Has.nil, Has.nil⟩
    · rintro _ ρ μ _ hr hm
      exact Ex.nil (Ex.nil ⟨rfl, hr _ _ rfl⟩)

theorem hd_cls (W : Wd hB (KK w)) (hs : List (S × S)) (hh : WellH hs) : Fn PG w hB (n + 3) (.ref 268) [hdrD hs] (.inst 268 (hdInst hs)) := Fn.cls W (by rfl) (by rfl) (by rfl) (hd_init W hs hh)

theorem hd_keys (W : Wd hB (KK w)) (hs : List (S × S)) (hl : hs.length ≤ 1000) : Fn PG w hB (n + 1) (.ref 220) [.inst 268 (hdInst hs)] (.list (hs.map fun p => .own p.1)) := by
  refine Fn.of_def (B := []) (names := ["self"]) (Q := fun fl _ _ => fl = .ret _) W (by rfl) rfl rfl rfl ?_ rfl rfl (by decide) (by decide) (by decide) (fun L => ?_) (fun fl _ _ h => .inl h)
  · exact args1 fun _ => rfl
  · refine Ex.cons (Ex1.ret (Ev.listcomp (ρc := []) (Bc := ["k", "v"]) (its := hs.map fun p => .tuple [.own p.1, .str p.2]) (outs := hs.map fun p => .own p.1) ⟨rfl, by decide, (fun p h => nomatch h), (by decide), by decide⟩ (Its.of (Ev.attr W hdCls (Ev.name rfl rfl) rfl (by rfl) (by rfl) rfl) Runs.list) ?_) rfl)
    refine CompBlock.cast (CompBlock.one (fun _ => true) fstD (fun cells C it hit => ?_) (by rw [List.length_map, sizeLine_eq]; omega)) ?_
    · obtain ⟨p, -, rfl⟩ := List.mem_map.mp hit
      exact ⟨_, .pair, Cb1 (by decide) rfl (Cb1 (by decide) rfl Cb0), rfl, fun _ => Ev.name rfl rfl⟩
    · rw [List.filter_eq_self.mpr (fun _ _ => rfl), List.map_map]; rfl

def lw (x : S) : S := (Txt.lower (tx x)).cps.toList
def up (x : S) : S := (Txt.upper (tx x)).cps.toList
theorem GivL.lower {d : D} {x : S} (hd : IsS d x) (hx : x.length ≤ 1000) : GivL PG w hB n (fun vs => PySem.call (.builtin "str.lower") vs) [d] (.str (lw x)) := by
  intro A X s E vs hr S r
  obtain ⟨v, rfl, r0⟩ := r.one
  obtain ⟨t, rfl⟩ := hd.rd r0
  refine SCL.lower (by rw [tx_len]; omega) fun _ => ⟨Gone.tok _ _ (Nat.le_succ _), ?_⟩
  have := Rd.str (prog := PG) (w := w) (X := X) (s := { s with toks := s.toks + 1 }) (lw x) s.toks
  rwa [show tx (lw x) = Txt.lower (tx x) from tx_cps _] at this
theorem GivL.upper {d : D} {x : S} (hd : IsS d x) (hx : x.length ≤ 1000) : GivL PG w hB n (fun vs => PySem.call (.builtin "str.upper") vs) [d] (.str (up x)) := by
  intro A X s E vs hr S r
  obtain ⟨v, rfl, r0⟩ := r.one
  obtain ⟨t, rfl⟩ := hd.rd r0
  refine SCL.upper (by rw [tx_len]; omega) fun _ => ⟨Gone.tok _ _ (Nat.le_succ _), ?_⟩
  have := Rd.str (prog := PG) (w := w) (X := X) (s := { s with toks := s.toks + 1 }) (up x) s.toks
  rwa [show tx (up x) = Txt.upper (tx x) from tx_cps _] at this

/-- what get gives -/
def getH (hs : List (S × S)) (y : S) : D := match hs.find? (fun p => lw p.1 == y) with
  | some p => .str p.2
  | none => .none
theorem getH_cons {p : S × S} {hs : List (S × S)} {y : S} : getH (p :: hs) y = if lw p.1 == y then .str p.2 else getH hs y := by
  unfold getH
  rw [List.find?_cons]
  cases lw p.1 == y <;> rfl

theorem hd_get (W : Wd hB (KK w)) (hs : List (S × S)) {d : D} {x : S} (hd : IsS d x) (hx : x.length ≤ 1000) (hlx : WellS (lw x)) (hh : WellH hs) : Fn PG w hB (n + 2) (.ref 215) [.inst 268 (hdInst hs), d] (getH hs (lw x)) := by
  refine FnK.of_def (B := ["name", "k", "v"]) (names := ["self", "name", "default"]) (ds' := [.inst 268 (hdInst hs), d, .none]) (bnd := fun vs ks => vs ++ [.none]) (Q := fun fl _ _ => fl = .ret (getH hs (lw x))) W (by rfl) rfl rfl rfl ?_ ?_ rfl rfl (by decide) (by decide) (by decide) (fun L => ?_) (fun fl _ _ h => .inl h)
  · intro s vs ks hk h1 h2
    obtain ⟨u, v, rfl⟩ := len2 h1
    obtain rfl := len0 h2
    exact binds_K (W.X.keeps hk) rfl (by rfl) rfl rfl rfl
  · intro X s vs ks r1 r2
    exact r1.append (RdL.cons .none RdL.nil)
  · refine Ex.cons (Ex1.assign (Ev.methodKW W hdCls (Ev.name rfl rfl) hdConv hdConvT (by rfl) rfl (EvL.cons (Ev.methodB0 PySem.F.plainAttrs_str PySem.F.slot_str_lower PySem.F.type_str_lower (Ev.name rfl rfl) (HasM.strs hd) (GivL.lower hd hx)) EvL.nil) Ev.const_bool (conv_fn W _ true (.str _) hlx.1 hlx.2)) (by decide) ?_)
    refine Ex.cons (Ex1.for (Ev.attr W hdCls (Ev.name rfl rfl) rfl (by rfl) (by rfl) rfl) Runs.list ?_)
    refine ForR.inv (σ := Unit) (fun _ => [("name", .str (lw x)), ("default", .none)]) (fun _ => []) (fun its _ => ∃ l : List (S × S), its = l.map (fun p => .tuple [.own p.1, .str p.2]) ∧ WellH l ∧ getH l (lw x) = getH hs (lw x)) ?_ ?_ _ () _ _ ⟨hs, rfl, hh, rfl⟩ (Has.cons rfl (Has.cons rfl Has.nil)) Has.nil
    · rintro it its _ ⟨l, e, hl, hg⟩
      cases l with
      | nil => cases e
      | cons p l =>
        cases e
        obtain ⟨h1, h2⟩ := hl p (.head _)
        rw [getH_cons] at hg
        refine ⟨_, .pair, In1 (by decide) (In1 (by decide) In0), ?_⟩
        refine Ex.cons (Ex1.ite (b := lw p.1 == lw x) (Tr.cmp (Ev.methodB0 PySem.F.plainAttrs_str PySem.F.slot_str_lower PySem.F.type_str_lower (Ev.name rfl rfl) (HasM.strs (.own _)) (GivL.lower (.own _) h1.1)) (Ev.name rfl rfl) (Giv2.eq_str (.str _) (.str _))) (fun hb => ?_) fun hb => ?_)
        · rw [hb] at hg
          refine Ex.cons (Ex1.ret (Ev.name rfl rfl) ?_)
          rw [← hg]; rfl
        · rw [hb] at hg
          exact Ex.nil (Ex.nil ⟨(), ⟨l, rfl, fun q hq => hl q (.tail _ hq), hg⟩, Has.cons rfl (Has.cons rfl Has.nil), Has.nil⟩)
    · rintro _ ρ μ ⟨l, e, hl, hg⟩ hr hm
      cases l with
      | cons p l => cases e
      | nil =>
        refine Ex.from _ _ ?_ hr hm
        refine Ex.cons (Ex1.ret (Ev.name rfl rfl) ?_)
        rw [← hg]; rfl

theorem hd_item (W : Wd hB (KK w)) (hs : List (S × S)) {d : D} {x : S} (hd : IsS d x) (hx : x.length ≤ 1000) (hlx : WellS (lw x)) (hh : WellH hs) : Fn PG w hB (n + 3) (.ref 195) [.inst 268 (hdInst hs), d] (getH hs (lw x)) := by
  refine Fn.of_def (B := []) (names := ["self", "name"]) (Q := fun fl _ _ => fl = .ret _) W (by rfl) rfl rfl rfl ?_ rfl rfl (by decide) (by decide) (by decide) (fun L => ?_) (fun fl _ _ h => .inl h)
  · exact args2 fun _ _ => rfl
  · exact Ex.cons (Ex1.ret (Ev.method W hdCls (Ev.name rfl rfl) (by rfl) (by rfl) (by rfl) rfl (EvL.cons (Ev.name rfl rfl) EvL.nil) (hd_get W hs hd hx hlx hh)) rfl)
end
end Mine

set_option maxHeartbeats 1000000
namespace Mine
open PySem PySem.W PyProof.Rows PySem.Calls
section
variable {w : World} {hB : Bs} {n : Nat}

/-- what get_all gives -/
def allH (hs : List (S × S)) (y : S) : List S := (hs.filter fun p => lw p.1 == y).map (·.2)

theorem hd_all (W : Wd hB (KK w)) (hs : List (S × S)) {d : D} {x : S} (hd : IsS d x) (hx : x.length ≤ 1000) (hlx : WellS (lw x)) (hh : WellH hs) (hl : hs.length ≤ 1000) : Fn PG w hB (n + 2) (.ref 207) [.inst 268 (hdInst hs), d] (.list ((allH hs (lw x)).map .str)) := by
  refine Fn.of_def (B := ["name"]) (names := ["self", "name"]) (Q := fun fl _ _ => fl = .ret (.list ((allH hs (lw x)).map .str))) W (by rfl) rfl rfl rfl ?_ rfl rfl (by decide) (by decide) (by decide) (fun L => ?_) (fun fl _ _ h => .inl h)
  · exact args2 fun _ _ => rfl
  · refine Ex.cons (Ex1.assign (Ev.methodKW W hdCls (Ev.name rfl rfl) hdConv hdConvT (by rfl) rfl (EvL.cons (Ev.methodB0 PySem.F.plainAttrs_str PySem.F.slot_str_lower PySem.F.type_str_lower (Ev.name rfl rfl) (HasM.strs hd) (GivL.lower hd hx)) EvL.nil) Ev.const_bool (conv_fn W _ true (.str _) hlx.1 hlx.2)) (by decide) ?_)
    refine Ex.cons (Ex1.ret (Ev.listcomp (ρc := [("name", .str (lw x))]) (Bc := ["kv"]) (its := hs.map fun p => .tuple [.own p.1, .str p.2]) (outs := (allH hs (lw x)).map .str) (Caps.of (ks := ["name"]) rfl (by decide) rfl (Cp1 rfl (by rfl) (by rfl) Cp0) (by decide) (by decide)) (Its.of (Ev.attr W hdCls (Ev.name rfl rfl) rfl (by rfl) (by rfl) rfl) Runs.list) ?_) rfl)
    refine CompBlock.cast (CompBlock.one (fun it => match it with | .tuple (.own k :: _) => lw k == lw x | _ => false) sndD (fun cells C it hit => ?_) (by rw [List.length_map, sizeLine_eq]; omega)) ?_
    · obtain ⟨p, hp, rfl⟩ := List.mem_map.mp hit
      have h1 := (hh p hp).1
      refine ⟨_, .name, Cb1 (by decide) rfl Cb0, ?_, fun _ => Ev.sub_tuple (Ev.name rfl rfl) Ev.const_int (by decide) (by decide) rfl⟩
      exact Tr.cmp (Ev.methodB0 PySem.F.plainAttrs_str PySem.F.slot_str_lower PySem.F.type_str_lower (Ev.sub_tuple (Ev.name rfl rfl) Ev.const_int (by decide) (by decide) rfl) (HasM.strs (.own _)) (GivL.lower (.own _) h1.1)) (Ev.name rfl rfl) (Giv2.eq_str (.str _) (.str _))
    · unfold allH
      induction hs with
      | nil => rfl
      | cons p hs ih =>
        rw [List.map_cons, List.filter_cons, List.filter_cons]
        have ih' := ih (fun q hq => hh q (.tail _ hq)) (by simp only [List.length_cons] at hl; omega)
        by_cases c : (lw p.1 == lw x) = true
        · rw [if_pos c, if_pos c, List.map_cons, List.map_cons, List.map_cons, ih']; rfl
        · rw [if_neg c, if_neg c, ih']
end
end Mine

set_option maxHeartbeats 1000000
namespace Mine
open PySem PySem.W PyProof.Rows PySem.Calls
section
variable {w : World} {hB : Bs} {n : Nat}

def abcd : List Nat := [97, 98, 99, 100]
def underD (u : Nat → List Nat) : D := .dict (abcd.map fun c => ([c], .list ((u c).map fun x => .str [x])))
def sOf : D → S
  | .str x => x
  | .own x => x
  | .old _ x => x
  | .young _ x => x
  | _ => []
def c0 (x : S) : Nat := x.headD 0
def pOrd (u : Nat → List Nat) (row : S) (c : Nat) : Bool := !decide (c ∈ row) && ((((u c).filter fun l => !decide (l ∈ row)).map fun x => [x]) == ([] : List S))
def stepRows (u : Nat → List Nat) (rows : List S) : List S := rows.flatMap fun row => (abcd.filter fun c => pOrd u row c).map fun c => row ++ [c]

theorem under_at (u : Nat → List Nat) {c : Nat} (hc : c ∈ abcd) : (abcd.map fun c => ([c], D.list ((u c).map fun x => .str [x]))).lookup [c] = some (.list ((u c).map fun x => .str [x])) := by
  simp only [abcd, List.mem_cons, List.not_mem_nil, or_false] at hc
  rcases hc with rfl | rfl | rfl | rfl <;> rfl

def itR (u : Nat → List Nat) : Nat → List S → List S
  | 0, r => r
  | k + 1, r => itR u k (stepRows u r)
theorem stepRows_len (u : Nat → List Nat) (rows : List S) : (stepRows u rows).length ≤ rows.length * 4 := by
  unfold stepRows
  induction rows with
  | nil => exact Nat.le_refl _
  | cons r rows ih =>
    rw [List.flatMap_cons, List.length_append, List.length_cons, List.length_map]
    have := List.length_filter_le (fun c => pOrd u r c) abcd
    have e : abcd.length = 4 := rfl
    omega
theorem stepRows_mem (u : Nat → List Nat) {rows : List S} {k : Nat} (h : ∀ r ∈ rows, r.length ≤ k) : ∀ r ∈ stepRows u rows, r.length ≤ k + 1 := by
  intro r hr
  unfold stepRows at hr
  obtain ⟨q, hq, hr⟩ := List.mem_flatMap.mp hr
  obtain ⟨c, -, rfl⟩ := List.mem_map.mp hr
  rw [List.length_append]
  exact Nat.succ_le_succ (h q hq)
theorem flat_len (rows : List S) : ((rows.map D.str).flatMap fun _ => abcd.map fun c => D.own [c]).length = rows.length * 4 := by
  induction rows with
  | nil => rfl
  | cons r rows ih =>
    rw [List.map_cons, List.flatMap_cons, List.length_append, ih, List.length_cons, List.length_map]
    have e : abcd.length = 4 := rfl
    omega
theorem flat_out (u : Nat → List Nat) (rows : List S) :
    ((rows.map D.str).flatMap fun it => ((abcd.map fun c => D.own [c]).filter fun it2 => pOrd u (sOf it) (c0 (sOf it2))).map fun it2 => D.str (sOf it ++ sOf it2)) = (stepRows u rows).map .str := by
  unfold stepRows
  induction rows with
  | nil => rfl
  | cons r rows ih =>
    rw [List.map_cons, List.flatMap_cons, List.flatMap_cons, List.map_append, ih]
    congr 1
    rw [List.filter_map, List.map_map, List.map_map]
    rfl

theorem orders_fn (W : Wd hB (KK w)) (u : Nat → List Nat) (hu : ∀ c ∈ abcd, (u c).length ≤ 100) :
    Fn PG w hB (n + 2) (.ref 292) [underD u] (.list ((itR u 4 [[]]).map .str)) := by
  refine Fn.of_def (B := ["rows", "turn"]) (names := ["under"]) (Q := fun fl _ _ => fl = .ret (.list ((itR u 4 [[]]).map .str))) W (by rfl) rfl rfl rfl ?_ rfl rfl (by decide) (by decide) (by decide) (fun L => ?_) (fun fl _ _ h => .inl h)
  · exact args1 fun _ => rfl
  · refine Ex.cons (Ex1.assign (Ev.list (EvL.cons (Ev.const_str rfl) EvL.nil)) (by decide) ?_)
    refine Ex.cons (Ex1.for (Ev.const_str rfl) (Runs.str (.str _) rfl) ?_)
    refine ForR.inv (σ := List S) (fun rows => [("rows", .list (rows.map .str)), ("under", underD u)]) (fun _ => [])
      (fun its rows => its.length ≤ 4 ∧ itR u its.length rows = itR u 4 [[]] ∧ rows.length * 4 ^ its.length ≤ 256 ∧ ∀ r ∈ rows, r.length + its.length ≤ 4) ?_ ?_ _ [[]] _ _ ⟨by decide, rfl, by decide, by decide⟩ (Has.cons rfl (Has.cons rfl Has.nil)) Has.nil
    · rintro it its rows ⟨h0, h1, h2, h3⟩
      have hlen : rows.length ≤ 256 := Nat.le_trans (Nat.le_mul_of_pos_right _ (Nat.pow_pos (by decide))) h2
      refine ⟨_, .name, In1 (by decide) In0, ?_⟩
      refine Ex.cons (Ex1.assignComp (ρc := [("under", underD u)]) (Bc := ["row", "name"]) (its := rows.map .str) (outs := (stepRows u rows).map .str) (Caps.of (ks := ["under"]) rfl (by decide) rfl (Cp1 rfl (by rfl) (by rfl) Cp0) (by decide) (by decide))
        (Its.of (Ev.name rfl rfl) Runs.list) ?_ (by decide) ?_ (by rfl))
      · refine CompBlock.cast (CompBlock.two (fun _ => abcd.map fun c => D.own [c]) (fun it it2 => pOrd u (sOf it) (c0 (sOf it2))) (fun it it2 => D.str (sOf it ++ sOf it2)) (fun cells C it hit => ?_) (by rw [flat_len, sizeLine_eq]; omega)) (flat_out u rows)
        obtain ⟨row, hrow, rfl⟩ := List.mem_map.mp hit
        have hrl := h3 row hrow
        refine ⟨_, .name, Cb1 (by decide) rfl Cb0, .str abcd, Ev.const_str rfl, Runs.str (.str _) rfl, fun it2 hit2 => ?_⟩
        obtain ⟨c, hc, rfl⟩ := List.mem_map.mp hit2
        refine ⟨_, .name, Cb1 (by decide) rfl Cb0, ?_, fun _ => Ev.bin (Ev.name rfl rfl) (Ev.name rfl rfl) (Giv2.add_str (.str _) (.own _) ?_)⟩
        · refine Tr.and (Tr.cmp (Ev.name rfl rfl) (Ev.name rfl rfl) (Giv2.notIn_str (.own _) (.str _))) fun _ => ?_
          refine Tr.cmp (Ev.listcomp (ρc := [("row", .str row)]) (Bc := ["low"]) (its := (u c).map fun x => .str [x]) (outs := (((u c).filter fun l => !decide (l ∈ row)).map fun x => [x]).map .str) (Caps.of (ks := ["row"]) rfl (by decide) rfl (Cp1 rfl (by rfl) (by rfl) Cp0) (by decide) (by decide))
            (Its.of (Ev.sub_dict (Ev.name rfl rfl) (Ev.name rfl rfl) (.own _) (under_at u hc)) Runs.list) ?_) (Ev.list EvL.nil) (Giv2.eq_strs (AreS.strs _) .nil)
          refine CompBlock.cast (CompBlock.one (fun low => !decide (c0 (sOf low) ∈ row)) id (fun cells C it hit => ?_) (by rw [List.length_map, sizeLine_eq]; have := hu c hc; omega)) ?_
          · obtain ⟨x, hx, rfl⟩ := List.mem_map.mp hit
            exact ⟨_, .name, Cb1 (by decide) rfl Cb0, Tr.cmp (Ev.name rfl rfl) (Ev.name rfl rfl) (Giv2.notIn_str (.str _) (.str _)), fun _ => Ev.name rfl rfl⟩
          · rw [List.filter_map, List.map_map, List.map_map]; rfl
        · show row.length + [c].length ≤ sizeLine
          rw [sizeLine_eq, List.length_singleton]; omega
      · refine Ex.nil ⟨stepRows u rows, ⟨?_, ?_, ?_, ?_⟩, Has.cons rfl (Has.cons rfl Has.nil), Has.nil⟩
        · simp only [List.length_cons] at h0; omega
        · exact h1
        · have e1 := stepRows_len u rows
          have e2 : (stepRows u rows).length * 4 ^ its.length ≤ rows.length * 4 * 4 ^ its.length := Nat.mul_le_mul_right _ e1
          have e3 : rows.length * 4 * 4 ^ its.length = rows.length * 4 ^ (it :: its).length := by
            rw [List.length_cons, Nat.pow_succ, Nat.mul_assoc, Nat.mul_comm 4]
          omega
        · intro r hr
          have e1 : r.length ≤ (3 - its.length) + 1 := stepRows_mem u (k := 3 - its.length) (fun q hq => by
            have := h3 q hq
            simp only [List.length_cons] at this; omega) r hr
          simp only [List.length_cons] at h0; omega
    · rintro rows ρ μ ⟨-, h1, -⟩ hr hm
      refine Ex.from _ _ ?_ hr hm
      refine Ex.cons (Ex1.ret (Ev.name rfl rfl) ?_)
      show Fl.ret (.list (rows.map .str)) = _
      rw [show rows = itR u 4 [[]] from h1]
end
end Mine

set_option maxHeartbeats 1000000
namespace Mine
open PySem PySem.W PyProof.Rows PySem.Calls
section
variable {w : World} {hB : Bs} {n : Nat}

def pCh (u : Nat → List Nat) (c : Nat) (one : S) : Bool := (((u c).filter fun l => decide (l ∈ one)).map fun x => [x]) == ([] : List S)
def chStep (u : Nat → List Nat) (l : List S) (c : Nat) : List S := l ++ (l.filter (pCh u c)).map fun one => one ++ [c]
def choicesF (u : Nat → List Nat) : List S := abcd.foldl (chStep u) [[]]

theorem choices_fn (W : Wd hB (KK w)) (u : Nat → List Nat) (hu : ∀ c ∈ abcd, (u c).length ≤ 100) :
    Fn PG w hB (n + 2) (.ref 309) [underD u] (.list ((choicesF u).map .str)) := by
  refine Fn.of_def (B := ["choices", "name"]) (names := ["under"]) (Q := fun fl _ _ => fl = .ret (.list ((choicesF u).map .str))) W (by rfl) rfl rfl rfl ?_ rfl rfl (by decide) (by decide) (by decide) (fun L => ?_) (fun fl _ _ h => .inl h)
  · exact args1 fun _ => rfl
  · refine Ex.cons (Ex1.assign (Ev.list (EvL.cons (Ev.const_str rfl) EvL.nil)) (by decide) ?_)
    refine Ex.cons (Ex1.for (Ev.const_str rfl) (Runs.str (.str abcd) rfl) ?_)
    refine ForR.inv (σ := List S) (fun l => [("choices", .list (l.map .str)), ("under", underD u)]) (fun _ => [])
      (fun its l => ∃ cs : List Nat, its = cs.map (fun c => .own [c]) ∧ (∀ c ∈ cs, c ∈ abcd) ∧ cs.foldl (chStep u) l = choicesF u ∧ l.length * 2 ^ cs.length ≤ 16 ∧ cs.length ≤ 4 ∧ ∀ r ∈ l, r.length + cs.length ≤ 4) ?_ ?_ _ [[]] _ _ ⟨abcd, rfl, fun c h => h, rfl, by decide, by decide, by decide⟩ (Has.cons rfl (Has.cons rfl Has.nil)) Has.nil
    · rintro it its l ⟨cs, e, h1, h2, h3, h4, h5⟩
      cases cs with
      | nil => cases e
      | cons c cs =>
        cases e
        have hc := h1 c (.head _)
        have hlen : l.length ≤ 16 := Nat.le_trans (Nat.le_mul_of_pos_right _ (Nat.pow_pos (by decide))) h3
        refine ⟨_, .name, In1 (by decide) In0, ?_⟩
        refine Ex.cons (Ex1.assign (d := .list (l.map .str ++ ((l.filter (pCh u c)).map fun one => one ++ [c]).map .str)) (Ev.bin (Ev.name rfl rfl) (Ev.listcomp (ρc := [("name", .own [c]), ("under", underD u)]) (Bc := ["one"]) (its := l.map .str) (outs := ((l.filter (pCh u c)).map fun one => one ++ [c]).map .str)
          (Caps.of (ks := ["name", "under"]) rfl (by decide) rfl (Cp1 rfl (by rfl) (by rfl) (Cp1 rfl (by rfl) (by rfl) Cp0)) (by decide) (by decide)) (Its.of (Ev.name rfl rfl) Runs.list) ?_) (Giv2.add_list ?_)) (by decide) ?_)
        · refine CompBlock.cast (CompBlock.one (fun it => pCh u c (sOf it)) (fun it => D.str (sOf it ++ [c])) (fun cells C it hit => ?_) (by rw [List.length_map, sizeLine_eq]; omega)) ?_
          · obtain ⟨one, hone, rfl⟩ := List.mem_map.mp hit
            have hol := h5 one hone
            refine ⟨_, .name, Cb1 (by decide) rfl Cb0, ?_, fun _ => Ev.bin (Ev.name rfl rfl) (Ev.name rfl rfl) (Giv2.add_str (.str _) (.own _) (by show one.length + [c].length ≤ sizeLine; rw [sizeLine_eq, List.length_singleton]; omega))⟩
            refine Tr.cmp (Ev.listcomp (ρc := [("one", .str one)]) (Bc := ["low"]) (its := (u c).map fun x => .str [x]) (outs := (((u c).filter fun l => decide (l ∈ one)).map fun x => [x]).map .str) (Caps.of (ks := ["one"]) rfl (by decide) rfl (Cp1 rfl (by rfl) (by rfl) Cp0) (by decide) (by decide))
              (Its.of (Ev.sub_dict (Ev.name rfl rfl) (Ev.name rfl rfl) (.own _) (under_at u hc)) Runs.list) ?_) (Ev.list EvL.nil) (Giv2.eq_strs (AreS.strs _) .nil)
            refine CompBlock.cast (CompBlock.one (fun low => decide (c0 (sOf low) ∈ one)) id (fun cells C it hit => ?_) (by rw [List.length_map, sizeLine_eq]; have := hu c hc; omega)) ?_
            · obtain ⟨x, hx, rfl⟩ := List.mem_map.mp hit
              exact ⟨_, .name, Cb1 (by decide) rfl Cb0, Tr.cmp (Ev.name rfl rfl) (Ev.name rfl rfl) (Giv2.in_str (.str _) (.str _)), fun _ => Ev.name rfl rfl⟩
            · rw [List.filter_map, List.map_map, List.map_map]; rfl
          · rw [List.filter_map, List.map_map, List.map_map]; rfl
        · rw [List.length_map, List.length_map, List.length_map, sizeLine_eq]
          have := List.length_filter_le (pCh u c) l
          omega
        · refine Ex.nil ⟨chStep u l c, ⟨cs, rfl, fun x hx => h1 x (.tail _ hx), h2, ?_, ?_, ?_⟩, ?_, Has.nil⟩
          · have e1 : (chStep u l c).length ≤ l.length * 2 := by
              unfold chStep
              rw [List.length_append, List.length_map]
              have := List.length_filter_le (pCh u c) l
              omega
            have e2 : (chStep u l c).length * 2 ^ cs.length ≤ l.length * 2 * 2 ^ cs.length := Nat.mul_le_mul_right _ e1
            have e3 : l.length * 2 * 2 ^ cs.length = l.length * 2 ^ (c :: cs).length := by
              rw [List.length_cons, Nat.pow_succ, Nat.mul_assoc, Nat.mul_comm 2]
            omega
          · simp only [List.length_cons] at h4; omega
          · intro r hr
            unfold chStep at hr
            simp only [List.length_cons] at h5
            rcases List.mem_append.mp hr with hr | hr
            · have := h5 r hr; omega
            · obtain ⟨q, hq, rfl⟩ := List.mem_map.mp hr
              have := h5 q (List.mem_filter.mp hq).1
              rw [List.length_append, List.length_singleton]; omega
          · refine Has.cons ?_ (Has.cons rfl Has.nil)
            unfold chStep
            rw [List.map_append]; rfl
    · rintro l ρ μ ⟨cs, e, h1, h2, -⟩ hr hm
      cases cs with
      | cons c cs => cases e
      | nil =>
        refine Ex.from _ _ ?_ hr hm
        refine Ex.cons (Ex1.ret (Ev.name rfl rfl) ?_)
        show Fl.ret (.list (l.map .str)) = _
        rw [show l = choicesF u from h2]
end
end Mine

set_option maxHeartbeats 1000000
namespace Mine
open PySem PySem.W PyProof.Rows PySem.Calls
section
variable {w : World} {hB : Bs} {n : Nat}

def ch0 (u : Nat → List Nat) : List S := (abcd.filter fun c => (((u c).map fun x => [x]) == ([] : List S))).map fun c => [c]
def pLong (u : Nat → List Nat) (top c : Nat) : Bool := decide (top ∈ u c) && ((((u c).filter fun l => decide (top ∈ u l)).map fun x => [x]) == ([] : List S))
def longF (u : Nat → List Nat) (chain : S) : List S := (abcd.filter (pLong u (chain.getLastD 0))).map fun c => chain ++ [c]
structure ChSt where
  chains : List S
  done : Nat
  whole : List S
def chRun (u : Nat → List Nat) : Nat → ChSt → Option (List S)
  | 0, _ => none
  | k + 1, st => match st.chains[st.done]? with
    | none => some st.whole
    | some chain => if chain = [] ∨ chain.length > 10 ∨ st.chains.length > 50 ∨ st.whole.length > 50 then none else
      chRun u k ⟨st.chains ++ longF u chain, st.done + 1, if longF u chain = [] then st.whole ++ [chain] else st.whole⟩

theorem in_list (u : Nat → List Nat) (top c : Nat) : ((u c).map fun x => [x]).contains [top] = decide (top ∈ u c) := by
  induction u c with
  | nil => rfl
  | cons a l ih =>
    rw [List.map_cons, List.contains_cons, ih]
    by_cases h : top = a
    · subst h; simp
    · have : ([top] == [a]) = false := by simpa using h
      rw [this]; simp [h]

theorem chains_fn (W : Wd hB (KK w)) (u : Nat → List Nat) (hu : ∀ c ∈ abcd, (u c).length ≤ 100) (hu2 : ∀ c ∈ abcd, ∀ l ∈ u c, l ∈ abcd) (res : List S) (hrun : chRun u 40 ⟨ch0 u, 0, []⟩ = some res) :
    Fn PG w hB (n + 2) (.ref 304) [underD u] (.list (res.map .str)) := by
  refine Fn.of_def (B := ["chains", "whole", "done", "chain", "top", "longer"]) (names := ["under"]) (Q := fun fl _ _ => fl = .ret (.list (res.map .str))) W (by rfl) rfl rfl rfl ?_ rfl rfl (by decide) (by decide) (by decide) (fun L => ?_) (fun fl _ _ h => .inl h)
  · exact args1 fun _ => rfl
  · refine Ex.cons (Ex1.assignComp (ρc := [("under", underD u)]) (Bc := ["name"]) (its := abcd.map fun c => .own [c]) (outs := (ch0 u).map .str) (Caps.of (ks := ["under"]) rfl (by decide) rfl (Cp1 rfl (by rfl) (by rfl) Cp0) (by decide) (by decide))
      (Its.of (Ev.const_str rfl) (Runs.str (.str abcd) rfl)) ?_ (by decide) ?_ (by rfl))
    · refine CompBlock.cast (CompBlock.one (fun it => (((u (c0 (sOf it))).map fun x => [x]) == ([] : List S))) (fun it => D.str (sOf it)) (fun cells C it hit => ?_) (by decide)) ?_
      · obtain ⟨c, hc, rfl⟩ := List.mem_map.mp hit
        refine ⟨_, .name, Cb1 (by decide) rfl Cb0, ?_, fun _ => (Ev.name rfl rfl).plain⟩
        refine Tr.cmp (Ev.sub_dict (Ev.name rfl rfl) (Ev.name rfl rfl) (.own _) (under_at u hc)) (Ev.list EvL.nil) (Giv2.eq_strs (ls := (u c).map fun x => [x]) ?_ .nil)
        have := AreS.strs ((u c).map fun x => [x])
        rw [List.map_map] at this; exact this
      · unfold ch0; rw [List.filter_map, List.map_map, List.map_map]; rfl
    refine Ex.cons (Ex1.own (EvN.list EvL.nil) (by decide) fun a => ?_)
    refine Ex.cons (Ex1.assign Ev.const_int (by decide) ?_)
    refine Ex.cons (Ex1.while (σ := ChSt) (fun st => [("chains", .list (st.chains.map .str)), ("done", .int st.done), ("under", underD u)]) (fun st => [("whole", .lst (st.whole.map .str))]) (fun k st => chRun u k st = some res ∧ st.chains.length ≤ 100 ∧ st.whole.length ≤ 100) 40 ⟨ch0 u, 0, []⟩ (fun k st hJ => ?_) ⟨hrun, ?_, Nat.zero_le _⟩
      (Has.cons rfl (Has.cons rfl (Has.cons rfl Has.nil))) (Has.cons rfl Has.nil))
    rotate_left
    · unfold ch0
      rw [List.length_map]
      have := List.length_filter_le (fun c => (((u c).map fun x => [x]) == ([] : List S))) abcd
      have e : abcd.length = 4 := rfl
      omega
    obtain ⟨chains, done, whole⟩ := st
    obtain ⟨hJ, hcl, hwl⟩ := hJ
    have hcl : chains.length ≤ 100 := hcl
    have hwl : whole.length ≤ 100 := hwl
    cases k with
    | zero => cases hJ
    | succ k =>
      have hlen : GivL PG w hB (n + 1) (fun vs => PySem.call (.builtin "len") vs) [.list (chains.map .str)] (.int ((chains.map D.str).length : Nat)) := GivL.len_list (by rw [List.length_map, sizeLine_eq]; omega)
      by_cases hd : done < chains.length
      · have hb : decide ((done : Int) < (((chains.map D.str).length : Nat) : Int)) = true := decide_eq_true (by rw [List.length_map]; omega)
        refine ⟨true, hb ▸ Tr.cmp (Ev.name rfl rfl) (Ev.callB (Ev.builtin W rfl (by rfl) rfl rfl nlen blen) (EvL.cons (Ev.name rfl rfl) EvL.nil) hlen) Giv2.lt_int, fun _ => ?_, fun z => nomatch z⟩
        have hget : chains[done]? = some chains[done] := List.getElem?_eq_getElem hd
        generalize chains[done] = chain at hget
        unfold chRun at hJ
        simp only [hget] at hJ
        by_cases hc : chain = [] ∨ chain.length > 10 ∨ chains.length > 50 ∨ whole.length > 50
        · rw [if_pos hc] at hJ; cases hJ
        rw [if_neg hc] at hJ
        simp only [not_or] at hc
        obtain ⟨c1, c2, c3, c4⟩ := hc
        refine Ex.cons (Ex1.assign (Ev.sub_list (i := done) (d := .str chain) (Ev.name rfl rfl) (Ev.name rfl rfl) (by omega) (by omega) (by rw [Int.toNat_natCast, List.getElem?_map, hget]; rfl)) (by decide) ?_)
        have hlast : (seqIndex? (-1) chain.length).bind (chain[·]?) = some (chain.getLastD 0) := by
          cases chain with
          | nil => exact absurd rfl c1
          | cons a l =>
            have h1 : seqIndex? (-1) (a :: l).length = some l.length := by
              unfold seqIndex?
              simp only [List.length_cons]
              have e1 : ((-1 : Int) < 0) := by decide
              rw [if_pos e1]
              have e2 : (-1 : Int) + ((l.length + 1 : Nat) : Int) = (l.length : Int) := by omega
              rw [e2]
              simp
              omega
            rw [h1]
            show (a :: l)[l.length]? = _
            rw [List.getLastD_eq_getLast?, List.getLast?_eq_getElem?]
            simp
        refine Ex.cons (Ex1.assign (Ev.sub_str (c := chain.getLastD 0) (Ev.name rfl rfl) (.str chain) (Ev.neg Ev.const_int) (by decide) (by decide) hlast) (by decide) ?_)
        generalize htop : chain.getLastD 0 = top at *
        have hlongF : longF u chain = (abcd.filter (pLong u top)).map fun c => chain ++ [c] := by unfold longF; rw [htop]
        have hlong : ((abcd.map fun c => D.own [c]).filter (fun it => pLong u top (c0 (sOf it)))).map (fun it => D.str (chain ++ sOf it)) = (longF u chain).map .str := by
          rw [hlongF, List.filter_map, List.map_map, List.map_map]; rfl
        have hll : (longF u chain).length ≤ 4 := by
          rw [hlongF, List.length_map]
          exact List.length_filter_le _ abcd
        refine Ex.cons (Ex1.assignComp (ρc := [("chain", .str chain), ("top", .own [top]), ("under", underD u)]) (Bc := ["name"]) (its := abcd.map fun c => .own [c]) (outs := (longF u chain).map .str) (Caps.of (ks := ["chain", "top", "under"]) rfl (by decide) rfl (Cp1 rfl (by rfl) (by rfl) (Cp1 rfl (by rfl) (by rfl) (Cp1 rfl (by rfl) (by rfl) Cp0))) (by decide) (by decide))
          (Its.of (Ev.const_str rfl) (Runs.str (.str abcd) rfl)) ?_ (by decide) ?_ (by rfl))
        · refine CompBlock.cast (CompBlock.one (fun it => pLong u top (c0 (sOf it))) (fun it => D.str (chain ++ sOf it)) (fun cells C it hit => ?_) (by decide)) hlong
          obtain ⟨c, hc, rfl⟩ := List.mem_map.mp hit
          refine ⟨_, .name, Cb1 (by decide) rfl Cb0, ?_, fun _ => Ev.bin (Ev.name rfl rfl) (Ev.name rfl rfl) (Giv2.add_str (.str _) (.own _) (by show chain.length + [c].length ≤ sizeLine; rw [sizeLine_eq, List.length_singleton]; omega))⟩
          have hstr : ∀ x : Nat, AreS ((u x).map fun y => D.str [y]) ((u x).map fun y => [y]) := fun x => by
            have := AreS.strs ((u x).map fun y => [y])
            rw [List.map_map] at this; exact this
          refine Tr.and (b := decide (top ∈ u c)) (in_list u top c ▸ Tr.cmp (Ev.name rfl rfl) (Ev.sub_dict (Ev.name rfl rfl) (Ev.name rfl rfl) (.own _) (under_at u hc)) (Giv2.in_strs (.own _) (hstr c))) fun _ => ?_
          refine Tr.cmp (Ev.listcomp (ρc := [("top", .own [top]), ("under", underD u)]) (Bc := ["low"]) (its := (u c).map fun x => .str [x]) (outs := (((u c).filter fun l => decide (top ∈ u l)).map fun x => [x]).map .str) (Caps.of (ks := ["top", "under"]) rfl (by decide) rfl (Cp1 rfl (by rfl) (by rfl) (Cp1 rfl (by rfl) (by rfl) Cp0)) (by decide) (by decide))
            (Its.of (Ev.sub_dict (Ev.name rfl rfl) (Ev.name rfl rfl) (.own _) (under_at u hc)) Runs.list) ?_) (Ev.list EvL.nil) (Giv2.eq_strs (AreS.strs _) .nil)
          refine CompBlock.cast (CompBlock.one (fun low => decide (top ∈ u (c0 (sOf low)))) id (fun cells C it hit => ?_) (by rw [List.length_map, sizeLine_eq]; have := hu c hc; omega)) ?_
          · obtain ⟨x, hx, rfl⟩ := List.mem_map.mp hit
            have hxa := hu2 c hc x hx
            exact ⟨_, .name, Cb1 (by decide) rfl Cb0, in_list u top x ▸ Tr.cmp (Ev.name rfl rfl) (Ev.sub_dict (Ev.name rfl rfl) (Ev.name rfl rfl) (.str _) (under_at u hxa)) (Giv2.in_strs (.own _) (hstr x)), fun _ => Ev.name rfl rfl⟩
          · rw [List.filter_map, List.map_map, List.map_map]; rfl
        · refine Ex.cons (Ex1.ite (b := (longF u chain == ([] : List S))) (Tr.cmp (Ev.name rfl rfl) (Ev.list EvL.nil) (Giv2.eq_strs (AreS.strs _) .nil)) (fun hb => ?_) fun hb => ?_)
          · have hl0 : longF u chain = [] := by simpa using hb
            rw [if_pos hl0] at hJ
            refine Ex.cons (Ex1.append (x := "whole") (ds := whole.map .str) (μ := []) (d := .str chain) (Ev.name rfl rfl) OnlyIns.nil ?_ rfl (by rw [List.length_map, sizeLine_eq]; omega))
            refine Ex.nil ?_
            refine Ex.cons (Ex1.assign (d := .list (chains.map .str ++ (longF u chain).map .str)) (Ev.bin (Ev.name rfl rfl) (Ev.name rfl rfl) (Giv2.add_list (by rw [List.length_map, List.length_map, sizeLine_eq]; omega))) (by decide) ?_)
            refine Ex.cons (Ex1.assign (Ev.bin (Ev.name rfl rfl) Ev.const_int Giv2.add_int) (by decide) ?_)
            refine Ex.nil ⟨k, ⟨chains ++ longF u chain, done + 1, whole ++ [chain]⟩, Nat.lt_succ_self _, ⟨hJ, ?_, ?_⟩, Has.cons ?_ (Has.cons rfl (Has.cons rfl Has.nil)), Has.cons ?_ Has.nil⟩
            · show (chains ++ longF u chain).length ≤ 100
              rw [List.length_append]; omega
            · show (whole ++ [chain]).length ≤ 100
              rw [List.length_append, List.length_singleton]; omega
            · rw [List.map_append]; rfl
            · rw [List.map_append]; rfl
          · have hl0 : longF u chain ≠ [] := by simpa using hb
            rw [if_neg hl0] at hJ
            refine Ex.nil ?_
            refine Ex.cons (Ex1.assign (d := .list (chains.map .str ++ (longF u chain).map .str)) (Ev.bin (Ev.name rfl rfl) (Ev.name rfl rfl) (Giv2.add_list (by rw [List.length_map, List.length_map, sizeLine_eq]; omega))) (by decide) ?_)
            refine Ex.cons (Ex1.assign (Ev.bin (Ev.name rfl rfl) Ev.const_int Giv2.add_int) (by decide) ?_)
            refine Ex.nil ⟨k, ⟨chains ++ longF u chain, done + 1, whole⟩, Nat.lt_succ_self _, ⟨hJ, ?_, ?_⟩, Has.cons ?_ (Has.cons rfl (Has.cons rfl Has.nil)), Has.cons ?_ Has.nil⟩
            · show (chains ++ longF u chain).length ≤ 100
              rw [List.length_append]; omega
            · exact hwl
            · rw [List.map_append]; rfl
            · rfl
      · have hb : decide ((done : Int) < (((chains.map D.str).length : Nat) : Int)) = false := decide_eq_false (by rw [List.length_map]; omega)
        refine ⟨false, hb ▸ Tr.cmp (Ev.name rfl rfl) (Ev.callB (Ev.builtin W rfl (by rfl) rfl rfl nlen blen) (EvL.cons (Ev.name rfl rfl) EvL.nil) hlen) Giv2.lt_int, (fun z => nomatch z), fun _ => ?_⟩
        have hres : whole = res := by
          unfold chRun at hJ
          rw [List.getElem?_eq_none (by show chains.length ≤ done; omega)] at hJ
          exact Option.some.inj hJ
        refine Ex.release ?_ OnlyIns.nil rfl
        refine Ex.cons (Ex1.ret (Ev.name rfl rfl) ?_)
        show Fl.ret (.list (whole.map .str)) = _
        rw [hres]
end
end Mine

set_option maxHeartbeats 1000000
namespace Mine
open PySem PySem.W PyProof.Rows PySem.Calls
section
variable {w : World} {hB : Bs} {n : Nat}

def gapF (ks : List S) (many : Int) (one : S) : Int := many - (one.map fun c => ((ks.count [c] : Nat) : Int)).sum
def pMiss (one chain : S) : Bool := ((chain.filter fun c => decide (c ∈ one)).map fun c => [c]) == ([] : List S)
def badOne (ks : List S) (many : Int) (res : List S) (one : S) : Bool :=
  decide (gapF ks many one < 0) || !((gapF ks many one == 0) == ((res.filter (pMiss one)) == ([] : List S)))

theorem CompBlockD.cast {env : Env} {scope : Scope} {ρc : List (Str × D)} {Bc : List Str} {e : PySem.Expr} {its : List D} {outs outs' : List (S × D)} (h : CompBlockD PG w hB n env scope ρc Bc e its outs) (q : outs = outs') : CompBlockD PG w hB n env scope ρc Bc e its outs' := q ▸ h
theorem count_at (ks : List S) {c : Nat} (hc : c ∈ abcd) : (abcd.map fun c => ([c], D.int ((ks.count [c] : Nat) : Int))).lookup [c] = some (.int ((ks.count [c] : Nat) : Int)) := by
  simp only [abcd, List.mem_cons, List.not_mem_nil, or_false] at hc
  rcases hc with rfl | rfl | rfl | rfl <;> rfl

theorem choices_mem (u : Nat → List Nat) : ∀ one ∈ choicesF u, (∀ c ∈ one, c ∈ abcd) ∧ one.length ≤ 4 := by
  have step : ∀ (c : Nat) (k : Nat) (l : List S), c ∈ abcd → (∀ o ∈ l, (∀ c ∈ o, c ∈ abcd) ∧ o.length ≤ k) → ∀ o ∈ chStep u l c, (∀ c ∈ o, c ∈ abcd) ∧ o.length ≤ k + 1 := by
    intro c k l hc h o ho
    unfold chStep at ho
    rcases List.mem_append.mp ho with ho | ho
    · exact ⟨(h o ho).1, Nat.le_succ_of_le (h o ho).2⟩
    · obtain ⟨q, hq, rfl⟩ := List.mem_map.mp ho
      have := h q (List.mem_filter.mp hq).1
      refine ⟨fun x hx => ?_, by rw [List.length_append]; exact Nat.succ_le_succ this.2⟩
      rcases List.mem_append.mp hx with hx | hx
      · exact this.1 x hx
      · rw [List.mem_singleton.mp hx]; exact hc
  have h0 : ∀ o ∈ ([[]] : List S), (∀ c ∈ o, c ∈ abcd) ∧ o.length ≤ 0 := by
    intro o ho
    rw [List.mem_singleton.mp ho]
    exact And.intro (fun c h => nomatch h) (Nat.le_refl 0)
  exact step 100 3 _ (by decide) (step 99 2 _ (by decide) (step 98 1 _ (by decide) (step 97 0 _ (by decide) h0)))

theorem abcd_ascii {x : S} (h : ∀ c ∈ x, c ∈ abcd) : x.all (· < 128) = true := by
  rw [List.all_eq_true]
  intro c hc
  have := h c hc
  simp only [abcd, List.mem_cons, List.not_mem_nil, or_false] at this
  rcases this with rfl | rfl | rfl | rfl <;> rfl

theorem counted_fn (W : Wd hB (KK w)) (hs : List (S × S)) (many : Int) (u : Nat → List Nat) (hl : hs.length ≤ 1000) (hu : ∀ c ∈ abcd, (u c).length ≤ 100) (hu2 : ∀ c ∈ abcd, ∀ l ∈ u c, l ∈ abcd) (res : List S)
    (hrun : chRun u 40 ⟨ch0 u, 0, []⟩ = some res) (hres : ∀ r ∈ res, (∀ c ∈ r, c ∈ abcd) ∧ r.length ≤ 100) (hrl : res.length ≤ 1000) (hok : (choicesF u).all (fun one => !badOne (hs.map (·.1)) many res one) = true) :
    Fn PG w hB (n + 3) (.ref 319) [.inst 268 (hdInst hs), .int many, underD u] (.bool true) := by
  refine Fn.of_def (B := ["keys", "counts", "chains", "one", "gap", "missed"]) (names := ["table", "many", "under"]) (Q := fun fl _ _ => fl = .ret (.bool true)) W (by rfl) rfl rfl rfl ?_ rfl rfl (by decide) (by decide) (by decide) (fun L => ?_) (fun fl _ _ h => .inl h)
  · exact args3 fun _ _ _ => rfl
  · have hkl : (hs.map (·.1)).length ≤ 1000 := by rw [List.length_map]; exact hl
    refine Ex.cons (Ex1.assign (d := .list ((hs.map (·.1)).map .own)) (Ev.method0 W hdCls (Ev.name rfl rfl) (by rfl) (by rfl) (by rfl) rfl (by have := hd_keys (n := n + 1) W hs hl; rw [List.map_map]; exact this)) (by decide) ?_)
    generalize hs.map (·.1) = ks at *
    refine Ex.cons (Ex1.rebase (x := "keys") (ls := ks) rfl fun N => ?_)
    refine Ex1.assign (Ev.dictcomp (ρc := [("keys", .list (ks.map (.old (N + 1))))]) (Bc := ["name"]) (its := abcd.map fun c => .young (N + 1) [c]) (outs := abcd.map fun c => ([c], .int ((ks.count [c] : Nat) : Int))) (Caps.of (ks := ["keys"]) rfl (by decide) rfl (Cp1 rfl (by rfl) (by rfl) Cp0) (by decide) (by decide))
      (Its.of (Ev.const_str rfl) (Runs.strY (.str abcd) rfl)) ?_) (by decide) ?_
    · refine CompBlockD.cast (CompBlockD.one (fun it => sOf it) (fun it => .int ((ks.count (sOf it) : Nat) : Int)) (fun cells C it hit => ?_) (by rw [List.map_map]; show (abcd.map fun c => [c]).Nodup; decide) (by rw [List.length_map]; decide)) (by rw [List.map_map]; rfl)
      obtain ⟨c, hc, rfl⟩ := List.mem_map.mp hit
      exact ⟨_, .name, Cb1 (by decide) rfl Cb0, (Ev.name rfl rfl).plainY, Ev.call (W.lift N) (Ev.global (W.lift N) rfl (by rfl) rfl gcountOf) (by rfl) (EvL.cons (Ev.name rfl rfl) (EvL.cons (Ev.name rfl rfl) EvL.nil)) (countOf_fn (W.lift N) ks [c] (N + 1))⟩
    refine Ex.from [("counts", .dict (abcd.map fun c => ([c], .int ((ks.count [c] : Nat) : Int)))), ("many", .int many), ("under", underD u)] [] ?_ (Has.cons rfl (Has.cons rfl (Has.cons rfl Has.nil))) Has.nil
    refine Ex.cons (Ex1.assign (Ev.call W (Ev.global W rfl (by rfl) rfl glawchains) (by rfl) (EvL.cons (Ev.name rfl rfl) EvL.nil) (chains_fn W u hu hu2 res hrun)) (by decide) ?_)
    refine Ex.cons (Ex1.for (Ev.call W (Ev.global W rfl (by rfl) rfl glawchoices) (by rfl) (EvL.cons (Ev.name rfl rfl) EvL.nil) (choices_fn W u hu)) Runs.list ?_)
    refine ForR.inv (σ := Unit) (fun _ => [("counts", .dict (abcd.map fun c => ([c], .int ((ks.count [c] : Nat) : Int)))), ("many", .int many), ("chains", .list (res.map .str))]) (fun _ => [])
      (fun its _ => ∃ l : List S, its = l.map .str ∧ ∀ one ∈ l, badOne ks many res one = false ∧ (∀ c ∈ one, c ∈ abcd) ∧ one.length ≤ 4) ?_ ?_ _ () _ _ ⟨choicesF u, rfl, fun one ho => ?_⟩ (Has.cons rfl (Has.cons rfl (Has.cons rfl Has.nil))) Has.nil
    rotate_left
    · rintro _ ρ μ ⟨l, e, h1⟩ hr hm
      exact Ex.cons (Ex1.ret Ev.const_bool rfl)
    · have := List.all_eq_true.mp hok one ho
      exact ⟨by simpa using this, (choices_mem u one ho).1, (choices_mem u one ho).2⟩
    · rintro it its _ ⟨l, e, h1⟩
      cases l with
      | nil => cases e
      | cons one l =>
        cases e
        obtain ⟨h2, h3, h4⟩ := h1 one (.head _)
        refine ⟨_, .name, In1 (by decide) In0, ?_⟩
        refine Ex.cons (Ex1.assign (Ev.call W (Ev.global W rfl (by rfl) rfl gsub) (by rfl) (EvL.cons (Ev.name rfl rfl) (EvL.cons (Ev.callB (Ev.builtin W rfl (by rfl) rfl rfl nsum bsum) (EvL.cons (Ev.listcomp (ρc := [("counts", .dict (abcd.map fun c => ([c], .int ((ks.count [c] : Nat) : Int))))]) (Bc := ["name"]) (its := one.map fun c => .own [c]) (outs := (one.map fun c => ((ks.count [c] : Nat) : Int)).map .int)
          (Caps.of (ks := ["counts"]) rfl (by decide) rfl (Cp1 rfl (by rfl) (by rfl) Cp0) (by decide) (by decide)) (Its.of (Ev.name rfl rfl) (Runs.str (.str one) (abcd_ascii h3))) ?_) EvL.nil) GivL.sum_ints) EvL.nil)) (sub_fn W many _)) (by decide) ?_)
        · refine CompBlock.cast (CompBlock.one (fun _ => true) (fun it => .int ((ks.count (sOf it) : Nat) : Int)) (fun cells C it hit => ?_) (by rw [List.length_map, sizeLine_eq]; omega)) ?_
          · obtain ⟨c, hc, rfl⟩ := List.mem_map.mp hit
            exact ⟨_, .name, Cb1 (by decide) rfl Cb0, rfl, fun _ => Ev.sub_dict (Ev.name rfl rfl) (Ev.name rfl rfl) (.own _) (count_at ks (h3 c hc))⟩
          · rw [List.filter_eq_self.mpr (fun _ _ => rfl), List.map_map, List.map_map]; rfl
        refine Ex.cons (Ex1.assignComp (ρc := [("one", .str one)]) (Bc := ["chain"]) (its := res.map .str) (outs := (res.filter (pMiss one)).map .str) (Caps.of (ks := ["one"]) rfl (by decide) rfl (Cp1 rfl (by rfl) (by rfl) Cp0) (by decide) (by decide)) (Its.of (Ev.name rfl rfl) Runs.list) ?_ (by decide) ?_ (by rfl))
        · refine CompBlock.cast (CompBlock.one (fun it => pMiss one (sOf it)) id (fun cells C it hit => ?_) (by rw [List.length_map, sizeLine_eq]; omega)) ?_
          · obtain ⟨chain, hc, rfl⟩ := List.mem_map.mp hit
            obtain ⟨q1, q2⟩ := hres chain hc
            refine ⟨_, .name, Cb1 (by decide) rfl Cb0, ?_, fun _ => Ev.name rfl rfl⟩
            refine Tr.cmp (Ev.listcomp (ρc := [("one", .str one)]) (Bc := ["name"]) (its := chain.map fun c => .own [c]) (outs := ((chain.filter fun c => decide (c ∈ one)).map fun c => [c]).map .str) (Caps.of (ks := ["one"]) rfl (by decide) rfl (Cp1 rfl (by rfl) (by rfl) Cp0) (by decide) (by decide))
              (Its.of (Ev.name rfl rfl) (Runs.str (.str chain) (abcd_ascii q1))) ?_) (Ev.list EvL.nil) (Giv2.eq_strs (AreS.strs _) .nil)
            refine CompBlock.cast (CompBlock.one (fun it => decide (c0 (sOf it) ∈ one)) (fun it => .str (sOf it)) (fun cells C it hit => ?_) (by rw [List.length_map, sizeLine_eq]; omega)) ?_
            · obtain ⟨c, hc, rfl⟩ := List.mem_map.mp hit
              exact ⟨_, .name, Cb1 (by decide) rfl Cb0, Tr.cmp (Ev.name rfl rfl) (Ev.name rfl rfl) (Giv2.in_str (.own _) (.str _)), fun _ => (Ev.name rfl rfl).plain⟩
            · rw [List.filter_map, List.map_map, List.map_map]; rfl
          · rw [List.filter_map, List.map_map]; rfl
        refine Ex.cons (Ex1.ite (b := badOne ks many res one) (Tr.or (Tr.cmp (Ev.name rfl rfl) Ev.const_int Giv2.lt_int) fun _ => Tr.cmp (Ev.cmp (Ev.name rfl rfl) Ev.const_int Giv2.eq_int) (Ev.cmp (Ev.name rfl rfl) (Ev.list EvL.nil) (Giv2.eq_strs (AreS.strs _) .nil)) Giv2.ne_bool) (fun hb => ?_) fun _ => ?_)
        · rw [h2] at hb; cases hb
        · exact Ex.nil (Ex.nil ⟨(), ⟨l, rfl, fun o ho => h1 o (.tail _ ho)⟩, Has.cons rfl (Has.cons rfl (Has.cons rfl Has.nil)), Has.nil⟩)
end
end Mine

set_option maxHeartbeats 1000000
namespace Mine
open PySem PySem.W PyProof.Rows PySem.Calls
section
variable {w : World} {hB : Bs} {n : Nat}

structure HdSt where
  hand : Nat
  front : S
  laid : List (S × S)
def hStep (u : Nat → List Nat) (row : S) (st : HdSt) (k : Nat) : HdSt :=
  if st.hand ∈ u (row.getD k 0) then ⟨row.getD k 0, st.front ++ [st.hand], st.laid ++ [([row.getD k 0], (st.front ++ [st.hand]) ++ sl row (some ((k : Int) + 1)) none)]⟩
  else ⟨st.hand, st.front ++ [row.getD k 0], st.laid⟩
def hRow (u : Nat → List Nat) (laid : List (S × S)) (row : S) : List (S × S) :=
  ([1, 2, 3].foldl (hStep u row) ⟨row.getD 0 0, [], laid ++ [([row.getD 0 0], sl row (some 1) none)]⟩).laid
def handsF (u : Nat → List Nat) (rows : List S) : List (S × S) := rows.foldl (hRow u) []

def lpD (p : S × S) : D := .tuple [.own p.1, .str p.2]

theorem row_at {row : S} (h : row.length = 4) {k : Nat} (hk : k < 4) : (seqIndex? (k : Int) row.length).bind (row[·]?) = some (row.getD k 0) := by
  unfold seqIndex?
  have e1 : ¬ ((k : Int) < 0) := by omega
  rw [if_neg e1, h]
  have e2 : (decide ((0 : Int) ≤ (k : Int)) && decide ((k : Int) < ((4 : Nat) : Int))) = true := by simp; omega
  rw [if_pos e2]
  show row[(k : Int).toNat]? = _
  rw [Int.toNat_natCast, List.getD_eq_getElem?_getD]
  have : k < row.length := by omega
  rw [List.getElem?_eq_getElem this]; rfl

theorem sl_len (x : S) (l u : Option Int) : (sl x l u).length ≤ x.length := by
  have := Txt.slice_le (tx x) l u
  rw [tx_len] at this
  unfold sl
  simpa [Str.length] using this

theorem hands_fn (W : Wd hB (KK w)) (rows : List S) (u : Nat → List Nat) (hu : ∀ c ∈ abcd, (u c).length ≤ 100) (hrows : ∀ r ∈ rows, r.length = 4 ∧ ∀ c ∈ r, c ∈ abcd) (hlen : rows.length ≤ 30) (hw : WellH (handsF u rows)) :
    Fn PG w hB (n + 4) (.ref 299) [.list (rows.map .str), underD u] (.inst 268 (hdInst (handsF u rows))) := by
  refine Fn.of_def (B := ["laid", "row", "hand", "front", "k"]) (names := ["rows", "under"]) (Q := fun fl _ _ => fl = .ret (.inst 268 (hdInst (handsF u rows)))) W (by rfl) rfl rfl rfl ?_ rfl rfl (by decide) (by decide) (by decide) (fun L => ?_) (fun fl _ _ h => .inl h)
  · exact args2 fun _ _ => rfl
  · refine Ex.cons (Ex1.own (EvN.list EvL.nil) (by decide) fun a => ?_)
    refine Ex.cons (Ex1.for (Ev.name rfl rfl) Runs.list ?_)
    refine ForR.inv (σ := List (S × S)) (fun _ => [("under", underD u)]) (fun laid => [("laid", .lst (laid.map lpD))])
      (fun its laid => ∃ l : List S, its = l.map .str ∧ (∀ r ∈ l, r.length = 4 ∧ ∀ c ∈ r, c ∈ abcd) ∧ l.foldl (hRow u) laid = handsF u rows ∧ laid.length + 4 * l.length ≤ 200) ?_ ?_ _ [] _ _ ⟨rows, rfl, hrows, rfl, by simp; omega⟩ (Has.cons rfl Has.nil) (Has.cons rfl Has.nil)
    · rintro it its laid ⟨l, e, h1, h2, h3⟩
      cases l with
      | nil => cases e
      | cons row l =>
        cases e
        obtain ⟨hr4, hra⟩ := h1 row (.head _)
        simp only [List.length_cons] at h3
        have hsz : row.length ≤ sizeLine := by rw [hr4, sizeLine_eq]; decide
        refine ⟨_, .name, In1 (by decide) In0, ?_⟩
        refine Ex.cons (Ex1.assign (Ev.sub_str (c := row.getD 0 0) (Ev.name rfl rfl) (.str row) Ev.const_int (by decide) (by decide) (row_at hr4 (by decide))) (by decide) ?_)
        refine Ex.cons (Ex1.assign (Ev.const_str rfl) (by decide) ?_)
        refine Ex.cons (Ex1.append (x := "laid") (ds := laid.map lpD) (μ := []) (d := lpD ([row.getD 0 0], sl row (some 1) Option.none)) (Ev.tuple (EvL.cons (Ev.name rfl rfl) (EvL.cons (Ev.slice_str (Ev.name rfl rfl) (.str row) (.some Ev.const_int) .none hsz) EvL.nil))) OnlyIns.nil ?_ rfl (by rw [List.length_map, sizeLine_eq]; omega))
        refine Ex.cons (Ex1.forI (Its.range2 (a := 1) (k := 3) (Ev.builtin W rfl (by rfl) rfl rfl nrange brange) Ev.const_int Ev.const_int (by decide)).m ?_)
        refine ForR.inv (σ := HdSt) (fun st => [("hand", .own [st.hand]), ("front", .str st.front), ("row", .str row), ("under", underD u)]) (fun st => [("laid", .lst (st.laid.map lpD))])
          (fun its st => ∃ ks : List Nat, its = ks.map (fun (k : Nat) => .int (k : Int)) ∧ (∀ k ∈ ks, k < 4) ∧ (ks.foldl (hStep u row) st).laid = hRow u laid row ∧ st.front.length + ks.length ≤ 10 ∧ st.laid.length + ks.length ≤ laid.length + 4) ?_ ?_ _ ⟨row.getD 0 0, [], laid ++ [([row.getD 0 0], sl row (some 1) none)]⟩ _ _
          ⟨[1, 2, 3], rfl, by decide, rfl, Nat.le_of_ble_eq_true rfl, by show (laid ++ [_]).length + 3 ≤ laid.length + 4; rw [List.length_append, List.length_singleton]; omega⟩ (Has.cons rfl (Has.cons rfl (Has.cons rfl (Has.cons rfl Has.nil)))) (Has.cons (by rw [List.map_append]; rfl) Has.nil)
        · rintro it its st ⟨ks, e, k1, k2, k3, k4⟩
          cases ks with
          | nil => cases e
          | cons k ks =>
            cases e
            obtain ⟨hand, front, ld⟩ := st
            have hk := k1 k (.head _)
            have hc : row.getD k 0 ∈ abcd := by
              refine hra _ ?_
              have : k < row.length := by omega
              rw [List.getD_eq_getElem?_getD, List.getElem?_eq_getElem this]
              exact List.getElem_mem this
            have k3 : front.length + (ks.length + 1) ≤ 10 := k3
            have k4 : ld.length + (ks.length + 1) ≤ laid.length + 4 := k4
            have hstr : ∀ x : Nat, AreS ((u x).map fun y => D.str [y]) ((u x).map fun y => [y]) := fun x => by
              have := AreS.strs ((u x).map fun y => [y])
              rw [List.map_map] at this; exact this
            have hstep : ∀ st', hStep u row ⟨hand, front, ld⟩ k = st' → (ks.foldl (hStep u row) st').laid = hRow u laid row := fun st' e => by rw [← e]; exact k2
            refine ⟨_, .name, In1 (by decide) In0, ?_⟩
            refine Ex.cons (Ex1.ite (b := decide (hand ∈ u (row.getD k 0))) (in_list u hand (row.getD k 0) ▸ Tr.cmp (Ev.name rfl rfl) (Ev.sub_dict (Ev.name rfl rfl) (Ev.sub_str (c := row.getD k 0) (Ev.name rfl rfl) (.str row) (Ev.name rfl rfl) (by omega) (by omega) (row_at hr4 hk)) (.own _) (under_at u hc)) (Giv2.in_strs (.own _) (hstr _))) (fun hb => ?_) fun hb => ?_)
            · have hb : hand ∈ u (row.getD k 0) := of_decide_eq_true hb
              refine Ex.cons (Ex1.assign (Ev.bin (Ev.name rfl rfl) (Ev.name rfl rfl) (Giv2.add_str (.str _) (.own _) (by rw [sizeLine_eq, List.length_singleton]; omega))) (by decide) ?_)
              refine Ex.cons (Ex1.assign (Ev.sub_str (c := row.getD k 0) (Ev.name rfl rfl) (.str row) (Ev.name rfl rfl) (by omega) (by omega) (row_at hr4 hk)) (by decide) ?_)
              refine Ex.cons (Ex1.append (x := "laid") (ds := ld.map lpD) (μ := []) (d := lpD ([row.getD k 0], (front ++ [hand]) ++ sl row (some ((k : Int) + 1)) none)) (Ev.tuple (EvL.cons (Ev.name rfl rfl) (EvL.cons (Ev.bin (Ev.name rfl rfl) (Ev.slice_str (Ev.name rfl rfl) (.str row) (.some (Ev.bin (Ev.name rfl rfl) Ev.const_int Giv2.add_int)) .none hsz) (Giv2.add_str (.str _) (.str _) ?_)) EvL.nil))) OnlyIns.nil ?_ rfl (by rw [List.length_map, sizeLine_eq]; omega))
              · have := sl_len row (some ((k : Int) + 1)) none
                show (front ++ [hand]).length + (sl row (some ((k : Int) + 1)) none).length ≤ sizeLine
                rw [List.length_append, List.length_singleton, sizeLine_eq]; omega
              refine Ex.nil (Ex.nil ⟨⟨row.getD k 0, front ++ [hand], ld ++ [([row.getD k 0], (front ++ [hand]) ++ sl row (some ((k : Int) + 1)) none)]⟩, ⟨ks, rfl, fun q hq => k1 q (.tail _ hq), hstep _ (by unfold hStep; rw [if_pos hb]), ?_, ?_⟩, Has.cons rfl (Has.cons rfl (Has.cons rfl (Has.cons rfl Has.nil))), Has.cons (by rw [List.map_append]; rfl) Has.nil⟩)
              · show (front ++ [hand]).length + ks.length ≤ 10
                rw [List.length_append, List.length_singleton]; omega
              · show (ld ++ [_]).length + ks.length ≤ laid.length + 4
                rw [List.length_append, List.length_singleton]; omega
            · have hb : ¬ hand ∈ u (row.getD k 0) := of_decide_eq_false hb
              refine Ex.cons (Ex1.assign (Ev.bin (Ev.name rfl rfl) (Ev.sub_str (c := row.getD k 0) (Ev.name rfl rfl) (.str row) (Ev.name rfl rfl) (by omega) (by omega) (row_at hr4 hk)) (Giv2.add_str (.str _) (.own _) (by rw [sizeLine_eq, List.length_singleton]; omega))) (by decide) ?_)
              refine Ex.nil (Ex.nil ⟨⟨hand, front ++ [row.getD k 0], ld⟩, ⟨ks, rfl, fun q hq => k1 q (.tail _ hq), hstep _ (by unfold hStep; rw [if_neg hb]), ?_, ?_⟩, Has.cons rfl (Has.cons rfl (Has.cons rfl (Has.cons rfl Has.nil))), Has.cons rfl Has.nil⟩)
              · show (front ++ [_]).length + ks.length ≤ 10
                rw [List.length_append, List.length_singleton]; omega
              · show ld.length + ks.length ≤ laid.length + 4; omega
        · rintro st ρ μ ⟨ks, e, k1, k2, k3, k4⟩ hr hm
          cases ks with
          | cons c l => cases e
          | nil =>
            have e : st.laid = hRow u laid row := k2
            have k4 : st.laid.length + 0 ≤ laid.length + 4 := k4
            refine Ex.nil ⟨hRow u laid row, ⟨l, rfl, fun q hq => h1 q (.tail _ hq), h2, ?_⟩, Has.cons (hr _ _ rfl) Has.nil, Has.cons ?_ Has.nil⟩
            · rw [← e]; omega
            · rw [← e]; exact hm _ _ rfl
    · rintro laid ρ μ ⟨l, e, h1, h2, h3⟩ hr hm
      cases l with
      | cons c l => cases e
      | nil =>
        refine Ex.from [("under", underD u)] [("laid", .lst (laid.map lpD))] ?_ hr hm
        refine Ex.release ?_ OnlyIns.nil rfl
        have e : laid = handsF u rows := h2
        rw [e]
        exact Ex.cons (Ex1.ret (Ev.call W (Ev.global W rfl (by rfl) rfl gHeaders) (by rfl) (EvL.cons (Ev.name rfl rfl) EvL.nil) (hd_cls W _ hw)) rfl)
end
end Mine

set_option maxHeartbeats 1000000
namespace Mine
open PySem PySem.W PyProof.Rows PySem.Calls
section
variable {w : World} {hB : Bs} {n : Nat}

def uOf (rs : List Nat) (c : Nat) : List Nat := ((List.range (c - 97)).filter fun i => decide (rs.getD i 0 ≤ rs.getD (c - 97) 0)).map fun i => 97 + i

theorem max_two {a b : Int} (xs : Array (Int × Tok)) (h : xs.toList.map (·.1) = [a, b]) : numAt xs (argBest (fun i j => decide (numAt xs i > numAt xs j)) (xs.size - 1)) = if b > a then b else a := by
  obtain ⟨l⟩ := xs
  match l, h with
  | [(a', t), (b', u)], h =>
    simp only [List.map_cons, List.map_nil, List.cons.injEq, and_true] at h
    obtain ⟨rfl, rfl⟩ := h
    by_cases c : b' > a'
    · rw [if_pos c]; simp [argBest, numAt, c]
    · rw [if_neg c]; simp [argBest, numAt, c]

/-- a lead whose blanks come in two runs -/
structure IsLead (x : S) (p q : Nat) : Prop where
  pieces : spl (sl x none (some (-1))) [9] = [List.replicate p 32, List.replicate q 32]
  parts : (Builtin.Str.partsBetween (tx (sl x none (some (-1)))) (Builtin.Str.occurrences (tx (sl x none (some (-1)))) (tx [9]) 0 (tx (sl x none (some (-1)))).length ((tx (sl x none (some (-1)))).length + 1)) (tx [9]).length).length ≤ 10
  len : x.length ≤ 50
  pq : p ≤ 50 ∧ q ≤ 50

def mxF (x : S) : Nat := match (spl (sl x none (some (-1))) [9]).map List.length with
  | [p, q] => if q > p then q else p
  | _ => 0
theorem IsLead.mx {x : S} {p q : Nat} (h : IsLead x p q) : mxF x = if q > p then q else p := by
  unfold mxF
  rw [h.pieces]
  simp

theorem under_fn (W : Wd hB (KK w)) (leads : List S) (rs : List Nat) (hl : leads.length = 4) (hr : rs.length = 4) (h : ∀ i, i < 4 → ∃ p q, IsLead (leads.getD i []) p q ∧ rs.getD i 0 = (if q > p then q else p)) :
    Fn PG w hB (n + 2) (.ref 287) [.list (leads.map .str)] (underD (uOf rs)) := by
  refine Fn.of_def (B := ["runs"]) (names := ["leads"]) (Q := fun fl _ _ => fl = .ret (underD (uOf rs))) W (by rfl) rfl rfl rfl ?_ rfl rfl (by decide) (by decide) (by decide) (fun L => ?_) (fun fl _ _ h => .inl h)
  · exact args1 fun _ => rfl
  · refine Ex.cons (Ex1.assign (Ev.listcomp (ρc := []) (Bc := ["lead"]) (its := leads.map .str) (outs := rs.map fun (r : Nat) => D.int (r : Int)) (Caps.of (ks := []) rfl (by decide) rfl Cp0 (by decide) (by decide)) (Its.of (Ev.name rfl rfl) Runs.list) ?_) (by decide) ?_)
    · refine CompBlock.cast (CompBlock.one (fun _ => true) (fun it => .int (mxF (sOf it) : Nat)) (fun cells C it hit => ?_) (by rw [List.length_map, hl, sizeLine_eq]; decide)) ?_
      · obtain ⟨lead, hm, rfl⟩ := List.mem_map.mp hit
        obtain ⟨i, hi, rfl⟩ := List.mem_iff_getElem.mp hm
        obtain ⟨p, q, hL, -⟩ := h i (by omega)
        rw [List.getD_eq_getElem?_getD, List.getElem?_eq_getElem hi] at hL
        have hL : IsLead leads[i] p q := hL
        generalize leads[i] = lead at *
        refine ⟨_, .name, Cb1 (by decide) rfl Cb0, rfl, fun _ => ?_⟩
        have hmx : ((mxF lead : Nat) : Int) = if (q : Int) > (p : Int) then (q : Int) else (p : Int) := by
          rw [hL.mx]; split <;> split <;> omega
        have hlen := hL.len
        have hsl := sl_len lead none (some (-1))
        show Ev PG w hB (n + 1) _ _ _ (.int ((mxF lead : Nat) : Int))
        rw [hmx]
        refine Ev.callB (Ev.builtin W rfl (by rfl) rfl rfl nmax bmax) (EvL.cons (Ev.listcomp (ρc := []) (Bc := ["piece"]) (its := (spl (sl lead none (some (-1))) [9]).map .str) (outs := [(p : Int), (q : Int)].map .int) (Caps.of (ks := []) rfl (by decide) rfl Cp0 (by decide) (by decide))
          (Its.of (Ev.methodB PySem.F.plainAttrs_str PySem.F.slot_str_split PySem.F.type_str_split (Ev.slice_str (l := none) (u := some (-1)) (Ev.name rfl rfl) (.str lead) .none (.some (Ev.neg Ev.const_int)) (by rw [sizeLine_eq]; omega)) (HasM.strs (.str _)) (EvL.cons (Ev.const_str rfl) EvL.nil)
            (GivL.split (y := [9]) (.str _) (.str _) (by decide) (by rw [sizeLine_eq]; omega) (Nat.le_trans hL.parts (by rw [sizeLine_eq]; decide)))) Runs.list) ?_) EvL.nil) (GivL.max_ints (Nat.zero_lt_succ _) max_two)
        rw [hL.pieces]
        refine CompBlock.cast (CompBlock.one (fun _ => true) (fun it => .int ((sOf it).length : Nat)) (fun cells C it hit => ?_) (by rw [sizeLine_eq]; exact Nat.le_of_ble_eq_true rfl)) ?_
        · obtain ⟨x, hx, rfl⟩ := List.mem_map.mp hit
          have hx2 : x.length ≤ 50 := by
            have hpq := hL.pq
            simp only [List.mem_cons, List.not_mem_nil, or_false] at hx
            rcases hx with rfl | rfl <;> (rw [List.length_replicate]; omega)
          exact ⟨_, .name, Cb1 (by decide) rfl Cb0, rfl, fun _ => Ev.callB (Ev.builtin W rfl (by rfl) rfl rfl nlen blen) (EvL.cons (Ev.name rfl rfl) EvL.nil) (GivL.len_str (.str x) (by show x.length ≤ sizeLine; rw [sizeLine_eq]; omega))⟩
        · simp [sOf]
      · rw [List.filter_eq_self.mpr (fun _ _ => rfl), List.map_map]
        refine List.ext_getElem (by simp [hl, hr]) fun i h1 h2 => ?_
        obtain ⟨p, q, hL, hri⟩ := h i (by simpa [hl] using h1)
        simp only [List.getElem_map, Function.comp]
        have hi : i < leads.length := by simpa using h1
        have hi2 : i < rs.length := by simpa using h2
        rw [List.getD_eq_getElem?_getD, List.getElem?_eq_getElem hi] at hL
        rw [List.getD_eq_getElem?_getD, List.getElem?_eq_getElem hi2] at hri
        have hL : IsLead leads[i] p q := hL
        have hri : rs[i] = _ := hri
        rw [hri]
        show D.int ((mxF leads[i] : Nat) : Int) = _
        rw [hL.mx]
    refine Ex.cons (Ex1.ret (Ev.dictcomp (ρc := [("runs", .list (rs.map fun (r : Nat) => D.int (r : Int)))]) (Bc := ["k"]) (its := (List.range 4).map fun (i : Nat) => D.int (i : Int)) (outs := abcd.map fun c => ([c], .list ((uOf rs c).map fun x => .str [x])))
      (Caps.of (ks := ["runs"]) rfl (by decide) rfl (Cp1 rfl (by rfl) (by rfl) Cp0) (by decide) (by decide)) (Its.range (k := 4) (Ev.builtin W rfl (by rfl) rfl rfl nrange brange) Ev.const_int (by decide)) ?_) rfl)
    refine CompBlockD.cast (CompBlockD.one (fun it => match it with | .int k => [97 + k.toNat] | _ => []) (fun it => match it with | .int k => .list ((uOf rs (97 + k.toNat)).map fun x => .str [x]) | _ => .none) (fun cells C it hit => ?_) (by decide) (by decide)) rfl
    obtain ⟨k, hk, rfl⟩ := List.mem_map.mp hit
    have hk4 : k < 4 := List.mem_range.mp hk
    have hab : ∀ i : Nat, i < 4 → (seqIndex? (i : Int) abcd.length).bind (abcd[·]?) = some (97 + i) := fun i hi => by
      match i, hi with
      | 0, _ => rfl
      | 1, _ => rfl
      | 2, _ => rfl
      | 3, _ => rfl
    have hrs : ∀ i : Nat, i < 4 → (rs.map fun (r : Nat) => D.int (r : Int))[((i : Int)).toNat]? = some (.int (rs.getD i 0 : Nat)) := fun i hi => by
      rw [Int.toNat_natCast, List.getElem?_map, List.getElem?_eq_getElem (by omega), List.getD_eq_getElem?_getD, List.getElem?_eq_getElem (by omega)]; rfl
    refine ⟨_, .name, Cb1 (by decide) rfl Cb0, (Ev.sub_str (c := 97 + k) (Ev.const_str rfl) (.str abcd) (Ev.name rfl rfl) (by omega) (by omega) (hab k hk4)).plain, ?_⟩
    refine Ev.listcomp (ρc := [("runs", .list (rs.map fun (r : Nat) => D.int (r : Int))), ("k", .int k)]) (Bc := ["i"]) (its := (List.range k).map fun (i : Nat) => D.int (i : Int)) (outs := (uOf rs (97 + k)).map fun x => .str [x])
      (Caps.of (ks := ["runs", "k"]) rfl (by decide) rfl (Cp1 rfl (by rfl) (by rfl) (Cp1 rfl (by rfl) (by rfl) Cp0)) (by decide) (by decide)) (Its.range (k := k) (Ev.builtin W rfl (by rfl) rfl rfl nrange brange) (Ev.name rfl rfl) (by omega)) ?_
    refine CompBlock.cast (CompBlock.one (fun it => match it with | .int i => decide ((rs.getD i.toNat 0 : Int) ≤ (rs.getD k 0 : Int)) | _ => false) (fun it => match it with | .int i => .str [97 + i.toNat] | _ => .none) (fun cells C it hit => ?_) (by rw [List.length_map, List.length_range, sizeLine_eq]; omega)) ?_
    · obtain ⟨i, hi, rfl⟩ := List.mem_map.mp hit
      have hi4 : i < k := List.mem_range.mp hi
      exact ⟨_, .name, Cb1 (by decide) rfl Cb0, Tr.cmp (Ev.sub_list (i := i) (Ev.name rfl rfl) (Ev.name rfl rfl) (by omega) (by omega) (hrs i (by omega))) (Ev.sub_list (i := k) (Ev.name rfl rfl) (Ev.name rfl rfl) (by omega) (by omega) (hrs k hk4)) Giv2.le_int, fun _ => (Ev.sub_str (c := 97 + i) (Ev.const_str rfl) (.str abcd) (Ev.name rfl rfl) (by omega) (by omega) (hab i (by omega))).plain⟩
    · have e : 97 + k - 97 = k := by omega
      unfold uOf
      rw [List.filter_map, List.map_map, List.map_map, e]
      congr 1
      refine List.filter_congr fun i _ => ?_
      simp
end
end Mine

set_option maxHeartbeats 1000000
namespace Mine
open PySem PySem.W PyProof.Rows PySem.Calls
section
variable {w : World} {hB : Bs} {n : Nat}

def leadF (p q : Nat) : S := List.replicate p 32 ++ [9] ++ List.replicate q 32 ++ [120]
theorem mulBlank {i : Int} (h0 : 0 ≤ i) (h4 : i < 4) : MulOk (tx [32]) i ∧ (Txt.mul (tx [32]) i).cps.toList = List.replicate i.toNat 32 := by
  have : i = 0 ∨ i = 1 ∨ i = 2 ∨ i = 3 := by omega
  rcases this with rfl | rfl | rfl | rfl
  · exact ⟨⟨by decide, fun h => (h (by decide)).elim, fun h => (h (by decide)).elim⟩, by decide⟩
  · exact ⟨⟨by decide, fun _ _ => by decide, fun _ _ => by unfold Builtin.Str.tooLong; rw [sizeLine_eq]; decide⟩, by decide⟩
  · exact ⟨⟨by decide, fun _ _ => by decide, fun _ _ => by unfold Builtin.Str.tooLong; rw [sizeLine_eq]; decide⟩, by decide⟩
  · exact ⟨⟨by decide, fun _ _ => by decide, fun _ _ => by unfold Builtin.Str.tooLong; rw [sizeLine_eq]; decide⟩, by decide⟩

def cstep (cells : List Int) : D → List Int
  | .tuple [.int k, .int x] => cells.set (k.fmod 4).toNat (cells.getD (k.fmod 4).toNat 0 + x.fmod 1000000)
  | _ => cells
def scrD (script : List Int) : List D := (sliceRange (sliceBounds none (some 16) Option.none (script.map D.int).length).1 (sliceBounds none (some 16) Option.none (script.map D.int).length).2.1 (sliceBounds none (some 16) Option.none (script.map D.int).length).2.2).filterMap ((script.map D.int)[·]?)
theorem scrD_mem (script : List Int) : ∀ d ∈ scrD script, ∃ x, d = D.int x := by
  intro d hd
  obtain ⟨i, -, h⟩ := List.mem_filterMap.mp hd
  obtain ⟨x, -, rfl⟩ := List.mem_map.mp (List.mem_of_getElem? h)
  exact ⟨x, rfl⟩
def cellsF (script : List Int) : List Int := (enumD 0 (scrD script)).foldl cstep [4, 7, 0, 9]
theorem cstep_len (cells : List Int) (d : D) : (cstep cells d).length = cells.length := by
  unfold cstep
  split
  · exact List.length_set
  · rfl
theorem fold_len : ∀ (l : List D) (cells : List Int), (l.foldl cstep cells).length = cells.length
  | [], _ => rfl
  | d :: l, cells => by rw [List.foldl_cons, fold_len l, cstep_len]
theorem cellsF_len (script : List Int) : (cellsF script).length = 4 := fold_len _ _
def leadOf (c : Int) : S := leadF (c.fmod 4).toNat ((c.fdiv 4).fmod 3).toNat
theorem mul_blank {w : World} {hB : Bs} {n : Nat} {i : Int} (h0 : 0 ≤ i) (h4 : i < 4) : Giv2 PG w hB n (binaryOp .Mult) (.own [32]) (.int i) (.str (List.replicate i.toNat 32)) := by
  have := Giv2.mul_str (prog := PG) (w := w) (hB := hB) (n := n) (.own [32]) (mulBlank h0 h4).1
  rwa [(mulBlank h0 h4).2] at this
theorem set_map (l : List Int) (i : Nat) (x : Int) : (l.map D.int).set i (.int x) = (l.set i x).map .int := by
  rw [List.map_set]
theorem leads_fn (W : Wd hB (KK w)) (script : List Int) (hs : script.length ≤ 63) : 
    Fn PG w hB (n + 2) (.ref 277) [.list (script.map .int)] (.list ((cellsF script).map fun c => .str (leadOf c))) := by
  refine Fn.of_def (B := ["cells", "k", "x"]) (names := ["script"]) (Q := fun fl _ _ => fl = .ret (.list ((cellsF script).map fun c => .str (leadOf c)))) W (by rfl) rfl rfl rfl ?_ rfl rfl (by decide) (by decide) (by decide) (fun L => ?_) (fun fl _ _ h => .inl h)
  · exact args1 fun _ => rfl
  · refine Ex.cons (Ex1.own (EvN.list (EvL.cons Ev.const_int (EvL.cons Ev.const_int (EvL.cons Ev.const_int (EvL.cons Ev.const_int EvL.nil))))) (by decide) fun a => ?_)
    refine Ex.cons (Ex1.forEnum (ds := scrD script) (Ev.builtin W rfl (by rfl) rfl rfl nenumerate benumerate) (Ev.slice_list (Ev.name rfl rfl) .none (.some Ev.const_int) (by rw [List.length_map, sizeLine_eq]; omega)) ?_)
    refine ForR.inv (σ := List Int) (fun _ => [("cells", .val (.ref a))]) (fun cells => [("cells", .lst (cells.map .int))])
      (fun its cells => cells.length = 4 ∧ its.foldl cstep cells = cellsF script ∧ ∃ (k : Nat) (ds : List D), its = enumD k ds ∧ ∀ d ∈ ds, ∃ x, d = D.int x) ?_ ?_ _ [4, 7, 0, 9] _ _ ⟨rfl, rfl, 0, _, rfl, scrD_mem script⟩ (Has.cons rfl Has.nil) (Has.cons rfl Has.nil)
    · rintro it its cells ⟨h1, h2, k, ds, h3, h4⟩
      cases ds with
      | nil => cases h3
      | cons d ds =>
        obtain ⟨x, rfl⟩ := h4 d (.head _)
        cases h3
        have hm0 : (0 : Int) ≤ (k : Int).fmod 4 := Int.fmod_nonneg_of_pos _ (by decide)
        have hm4 : (k : Int).fmod 4 < 4 := Int.fmod_lt_of_pos _ (by decide)
        refine ⟨_, .pair, In1 (by decide) (In1 (by decide) In0), ?_⟩
        refine Ex.from [("x", .int x), ("k", .int k), ("cells", .val (.ref a))] [("cells", .lst (cells.map .int))] ?_ (Has.cons rfl (Has.cons rfl (Has.cons rfl Has.nil))) (Has.cons rfl Has.nil)
        refine Ex.cons (Ex1.setItem (k := (k : Int).fmod 4) (d := .int (cells.getD ((k : Int).fmod 4).toNat 0 + x.fmod 1000000)) (EvM.read (Ev.bin (Ev.sub_list (i := (k : Int).fmod 4) (d := .int (cells.getD ((k : Int).fmod 4).toNat 0)) (Ev.name rfl rfl) (Ev.bin (Ev.name rfl rfl) Ev.const_int (Giv2.mod_int (by decide))) hm0 (by omega) ?_) (Ev.bin (Ev.name rfl rfl) Ev.const_int (Giv2.mod_int (by decide))) Giv2.add_int) (.int _) OnlyIns.nil rfl) (Ev.bin (Ev.name rfl rfl) Ev.const_int (Giv2.mod_int (by decide))) (.int _) OnlyIns.nil hm0 (by rw [List.length_map, h1]; omega) (by omega) ?_ rfl)
        · rw [List.getElem?_map, List.getD_eq_getElem?_getD, List.getElem?_eq_getElem (by rw [h1]; omega)]; rfl
        · rw [set_map]
          exact Ex.nil ⟨_, ⟨by rw [cstep_len]; exact h1, h2, k + 1, ds, rfl, fun e he => h4 e (.tail _ he)⟩, Has.cons rfl Has.nil, Has.cons rfl Has.nil⟩
    · rintro cells ρ μ ⟨h1, h2, -⟩ hr hm
      have e : cells = cellsF script := h2
      subst e
      refine Ex.from [("cells", .val (.ref a))] [("cells", .lst ((cellsF script).map .int))] ?_ hr hm
      refine Ex.release ?_ OnlyIns.nil rfl
      refine Ex.cons (Ex1.ret (Ev.listcomp (ρc := []) (Bc := ["cell"]) (its := (cellsF script).map .int) (outs := (cellsF script).map fun c => .str (leadOf c)) (Caps.of (ks := []) rfl (by decide) rfl Cp0 (by decide) (by decide)) (Its.of (Ev.name rfl rfl) Runs.list) ?_) rfl)
      refine CompBlock.cast (CompBlock.one (fun _ => true) (fun it => match it with | .int c => .str (leadOf c) | _ => .none) (fun cells' C it hit => ?_) (by rw [List.length_map, h1, sizeLine_eq]; decide)) ?_
      · obtain ⟨c, hc, rfl⟩ := List.mem_map.mp hit
        have a0 : (0 : Int) ≤ c.fmod 4 := Int.fmod_nonneg_of_pos _ (by decide)
        have a4 : c.fmod 4 < 4 := Int.fmod_lt_of_pos _ (by decide)
        have b0 : (0 : Int) ≤ (c.fdiv 4).fmod 3 := Int.fmod_nonneg_of_pos _ (by decide)
        have b4 : (c.fdiv 4).fmod 3 < 3 := Int.fmod_lt_of_pos _ (by decide)
        refine ⟨_, .name, Cb1 (by decide) rfl Cb0, rfl, fun _ => ?_⟩
        refine Ev.bin (Ev.bin (Ev.bin (Ev.bin (Ev.const_own rfl) (Ev.bin (Ev.name rfl rfl) Ev.const_int (Giv2.mod_int (by decide))) (mul_blank a0 a4)) (Ev.const_str rfl) (Giv2.add_str (.str _) (.str _) ?_))
          (Ev.bin (Ev.const_own rfl) (Ev.bin (Ev.bin (Ev.name rfl rfl) Ev.const_int (Giv2.div_int (by decide) (by decide))) Ev.const_int (Giv2.mod_int (by decide))) (mul_blank b0 (by omega))) (Giv2.add_str (.str _) (.str _) ?_)) (Ev.const_str rfl) (Giv2.add_str (.str _) (.str _) ?_)
        · rw [List.length_replicate, sizeLine_eq]; show _ + 1 ≤ _; omega
        · rw [List.length_append, List.length_replicate, List.length_replicate, sizeLine_eq]; show _ + 1 + _ ≤ _; omega
        · rw [List.length_append, List.length_append, List.length_replicate, List.length_replicate, sizeLine_eq]; show _ + 1 + _ + 1 ≤ _; omega
      · rw [List.filter_eq_self.mpr (fun _ _ => rfl), List.map_map]; rfl
end
end Mine

set_option maxHeartbeats 1000000
namespace Mine
open PySem PySem.W PyProof.Rows PySem.Calls PySem.Builtin PySem.Builtin._codecs
section
variable {w : World} {hB : Bs} {n : Nat}

def flagsCode : Array Nat := #[14, 4, 0, 8, 4294967295, 24, 5, 0, 4294967295, 2, 1, 16, 70, 16, 76, 16, 65, 16, 71, 16, 83, 16, 32, 16, 40, 17, 0, 24, 6, 0, 4294967295, 20, 41, 1, 17, 1, 16, 41, 1]
def inter : List Nat → List Nat
  | [] => []
  | c :: r => c :: r.flatMap fun x => [32, x]
def flagT (l : List Nat) : S := [70, 76, 65, 71, 83, 32, 40] ++ inter l ++ [41]
def toB (x : S) : Array UInt8 := (x.map fun (c : Nat) => c.toUInt8).toArray
def subs8 : List (List Nat) := [[], [97], [98], [99], [97, 98], [97, 99], [98, 99], [97, 98, 99]]
def nilT : S := [78, 73, 76]

structure FlagOk (l : List Nat) : Prop where
  hit : Re.Hit flagsCode (toB (flagT l)) (7 + l.length) 7 (7 + (2 * l.length - 1))
  enc : ∀ t, encodeNarrow "str.encode" asciiCodec none (.str (tx (flagT l)) t) (tx (flagT l)) = pure (toB (flagT l))
  cut : ((Re.bN (toB (flagT l))).extract 7 (7 + (2 * l.length - 1))).map (·.toUInt8) = toB (inter l)
  one : (!(toB (inter l)).isEmpty && !(toB (inter l)).any Bytes.isSpace) = true → l.map (fun (c : Nat) => [c.toUInt8]) = [(toB (inter l)).toList]
  many : (!(toB (inter l)).isEmpty && !(toB (inter l)).any Bytes.isSpace) = false → Bytes.words ((toB (inter l)).size + 1) ((toB (inter l)).size + 1) (toB (inter l)).toList = l.map (fun (c : Nat) => [c.toUInt8])
theorem flag_ok : ∀ l ∈ subs8, FlagOk l := by
  intro l hl
  simp only [subs8, List.mem_cons, List.not_mem_nil, or_false] at hl
  rcases hl with rfl | rfl | rfl | rfl | rfl | rfl | rfl | rfl <;>
    exact ⟨⟨by decide, by kernel_rfl, by kernel_rfl, by kernel_rfl, by kernel_rfl, by decide⟩, (by intro _; kernel_rfl), by kernel_rfl, (by decide +kernel), (by decide +kernel)⟩
theorem nil_enc : ∀ t, encodeNarrow "str.encode" asciiCodec none (.str (tx nilT) t) (tx nilT) = pure (toB nilT) := by intro _; kernel_rfl
theorem nil_no : (Re.mach flagsCode (toB nilT) 0).outcome = some .failed := by kernel_rfl
theorem flag_len : ∀ l ∈ subs8, (flagT l).length ≤ 20 ∧ l.length ≤ 3 ∧ (inter l).length ≤ 5 := by decide

theorem toB_len (x : S) : (toB x).size = x.length := by simp [toB]
theorem oneFlags : Re.OneName (KK w) w 40 (tx [102, 108, 97, 103, 115]) 1 := ⟨334, 335, 1, by rfl⟩

theorem parse_no (W : Wd hB (KK w)) : Fn PG w hB (n + 1) (.ref 50) [.bytes (toB nilT)] (.tuple []) := by
  refine Fn.of_def (B := ["mo"]) (names := ["resp"]) (Q := fun fl _ _ => fl = .ret (.tuple [])) W (by rfl) rfl rfl rfl ?_ rfl rfl (by decide) (by decide) (by decide) (fun L => ?_) (fun fl _ _ h => .inl h)
  · exact args1 fun _ => rfl
  · refine Ex.cons (Ex1.assign (Ev.methodB Re.plainPat Re.slotMatch Re.typeMatch (Ev.global W rfl (by rfl) rfl gFlags) (HasM.obj W (by rfl) rfl rfl) (EvL.cons (Ev.name rfl rfl) EvL.nil)
      (Re.GivL.matchNo (C := 42) (code := flagsCode) W (by rfl) rfl rfl rfl rfl rfl (by rfl) rfl (by simp [flagsCode, Builtin.Re.reRawOf]) (by decide) (j := 0) (by decide) nil_no)) (by decide) ?_)
    refine Ex.cons (Ex1.ite (b := true) (Tr.not (b := false) (Tr.value (Ev.name rfl rfl) GivB.none)) (fun _ => ?_) fun z => nomatch z)
    exact Ex.cons (Ex1.ret (Ev.tuple EvL.nil) rfl)

theorem parse_yes (W : Wd hB (KK w)) {l : List Nat} (hl : l ∈ subs8) : Fn PG w hB (n + 1) (.ref 50) [.bytes (toB (flagT l))] (.tuple (l.map fun (c : Nat) => .bytes [c.toUInt8].toArray)) := by
  have F := flag_ok l hl
  have hlen := flag_len l hl
  refine Fn.of_def (B := ["mo"]) (names := ["resp"]) (Q := fun fl _ _ => fl = .ret (.tuple (l.map fun (c : Nat) => .bytes [c.toUInt8].toArray))) W (by rfl) rfl rfl rfl ?_ rfl rfl (by decide) (by decide) (by decide) (fun L => ?_) (fun fl _ _ h => .inl h)
  · exact args1 fun _ => rfl
  · refine Ex.assignO (EvO.methodB Re.plainPat Re.slotMatch Re.typeMatch (Ev.global W rfl (by rfl) rfl gFlags) (HasM.obj W (by rfl) rfl rfl) (EvL.cons (Ev.name rfl rfl) EvL.nil)
      (Re.GivO.matchYes (C := 42) (code := flagsCode) W (by rfl) rfl rfl rfl rfl rfl (by rfl) rfl (by simp [flagsCode, Builtin.Re.reRawOf]) (by rw [toB_len]; omega) F.hit)) (by decide) fun h' m os hk hm hos => ?_
    have W' : Wd ⟨h', hB.lo⟩ (KK w) := W.up hk
    obtain ⟨tt, t, v2, v3, v4, x0, x1, hos'⟩ := hm
    have em : (⟨h', hB.lo⟩ : Bs).h.get? m = some { cls := .type "re.Match", data := .fields #[.bytes (toB (flagT l)) t, .ref 43, v2, v3, v4, .ref tt] } := hos (m, _) (by rw [hos']; exact .head _)
    refine Ex.cons (Ex1.ite (b := false) (Tr.not (b := true) (Tr.value (Ev.name rfl rfl) (Re.GivB.matched em rfl))) (fun z => nomatch z) fun _ => Ex.nil ?_)
    have hT : HasM PG w ⟨h', hB.lo⟩ (.val (.ref m)) "re.Match" := ⟨fun X s v S r => by
      cases r
      have e := S.base _ _ em
      exact ⟨⟨_, e, rfl⟩, fun b q => by cases q; exact ⟨_, e, rfl⟩⟩⟩
    refine Ex.cons (Ex1.ret (Ev.callT (Ev.builtin W' rfl (by rfl) rfl rfl ntuple btuple) (EvL.cons (Ev.methodB0 PySem.W.FB.plainAttrs_bytes slot_bytes_split type_bytes_split
      (Ev.methodB Re.plainMatch Re.slotGroup Re.typeGroup (Ev.name rfl rfl) hT (EvL.cons (Ev.const_str rfl) EvL.nil)
        (Re.GivL.group (dg := 40) W' (by rfl) rfl rfl oneFlags (.str _) ⟨tt, t, v2, v3, v4, x0, x1, hos'⟩ hos (by rw [toB_len]; omega) F.cut (by rw [toB_len]; omega)))
      HasM.bytes (GivL.bsplit (ws := l.map fun (c : Nat) => [c.toUInt8]) (by rw [toB_len]; omega) F.one F.many ?_ (by rw [List.length_map]; omega))) EvL.nil) ?_) rfl)
    · intro x hx
      obtain ⟨c, -, rfl⟩ := List.mem_map.mp hx
      exact Nat.le_of_ble_eq_true rfl
    · rw [List.map_map]
      exact GivL.tuple_list (by rw [List.length_map, sizeLine_eq]; omega)
end
end Mine

set_option maxHeartbeats 1000000
namespace Mine
open PySem PySem.W PyProof.Rows PySem.Calls PySem.Builtin PySem.Builtin._codecs
section
variable {w : World} {hB : Bs} {n : Nat}

def runF (x : S) : Int := if ((wsRun x ⟨[], 0, 0, 0⟩).b : Int) > ((wsRun x ⟨[], 0, 0, 0⟩).cnt.length : Int) - 1 then ((wsRun x ⟨[], 0, 0, 0⟩).b : Int) else ((wsRun x ⟨[], 0, 0, 0⟩).cnt.length : Int) - 1
structure LeadOk (x : S) (r : Nat) : Prop where
  ascii : x.all (· < 128) = true
  len : x.length ≤ 50
  tabs : x.count 9 ≤ 1
  few : (wsRun x ⟨[], 0, 0, 0⟩).cnt.length ≤ 100
  run : runF x = r
  under : ∃ p q, IsLead x p q ∧ r = if q > p then q else p
def runOf (p q : Nat) : Nat := if q > p then q else p
theorem lead_ok (p q : Nat) (hp : p < 4) (hq : q < 3) : LeadOk (leadF p q) (runOf p q) := by
  have h1 : p = 0 ∨ p = 1 ∨ p = 2 ∨ p = 3 := by omega
  have h2 : q = 0 ∨ q = 1 ∨ q = 2 := by omega
  rcases h1 with rfl | rfl | rfl | rfl <;> rcases h2 with rfl | rfl | rfl <;>
    exact ⟨by decide, by decide, by decide, by decide +kernel, by decide +kernel, _, _, ⟨by decide +kernel, by decide +kernel, by decide, by decide⟩, rfl⟩

theorem uOf_sub (rs : List Nat) : ∀ c ∈ abcd, uOf rs c ∈ subs8 := by
  intro c hc
  simp only [abcd, List.mem_cons, List.not_mem_nil, or_false] at hc
  unfold uOf
  rcases hc with rfl | rfl | rfl | rfl
  · have e : List.range (97 - 97) = [] := by rfl
    rw [e]; exact .head _
  · have e : List.range (98 - 97) = [0] := by rfl
    rw [e]
    cases h0 : decide (rs.getD 0 0 ≤ rs.getD (98 - 97) 0) <;> simp only [List.filter, h0, List.map] <;> decide
  · have e : List.range (99 - 97) = [0, 1] := by rfl
    rw [e]
    cases h0 : decide (rs.getD 0 0 ≤ rs.getD (99 - 97) 0) <;> cases h1 : decide (rs.getD 1 0 ≤ rs.getD (99 - 97) 0) <;> simp only [List.filter, h0, h1, List.map] <;> decide
  · have e : List.range (100 - 97) = [0, 1, 2] := by rfl
    rw [e]
    cases h0 : decide (rs.getD 0 0 ≤ rs.getD (100 - 97) 0) <;> cases h1 : decide (rs.getD 1 0 ≤ rs.getD (100 - 97) 0) <;> cases h2 : decide (rs.getD 2 0 ≤ rs.getD (100 - 97) 0) <;> simp only [List.filter, h0, h1, h2, List.map] <;> decide
theorem uOf_a (rs : List Nat) : uOf rs 97 = [] := by unfold uOf; rfl

/-- the text of flags that a line bears -/
def flagText (u : Nat → List Nat) (c : Nat) : S := if c = 97 then nilT else flagT (u c)
def pageH (u : Nat → List Nat) : List (S × S) := abcd.map fun c => ([c], flagText u c)
theorem flag_jn : ∀ l ∈ subs8, [70, 76, 65, 71, 83, 32, 40] ++ jn [32] (l.map fun c => [c]) ++ [41] = flagT l := by decide +kernel
theorem flag_join_ok : ∀ l ∈ subs8, (((l.map fun c => [c]).map tx).map (·.length)).sum + ((l.map fun (c : Nat) => [c]).map tx).length * (tx [32]).length ≤ 16777216 := by decide +kernel
theorem flag_okc : ∀ l ∈ subs8, ∀ c ∈ flagT l, c ∈ okc := by decide +kernel
theorem pageH_well (u : Nat → List Nat) (hu : ∀ c ∈ abcd, u c ∈ subs8) : WellH (pageH u) := by
  intro p hp
  obtain ⟨c, hc, rfl⟩ := List.mem_map.mp hp
  have h0 : WellS (flagText u c) := by
    unfold flagText
    split
    · exact ⟨by decide, by decide⟩
    · exact ⟨by have := (flag_len _ (hu c hc)).1; omega, flag_okc _ (hu c hc)⟩
  refine ⟨?_, h0⟩
  simp only [abcd, List.mem_cons, List.not_mem_nil, or_false] at hc
  rcases hc with rfl | rfl | rfl | rfl
  · show WellS [97]; exact ⟨by decide, by decide⟩
  · show WellS [98]; exact ⟨by decide, by decide⟩
  · show WellS [99]; exact ⟨by decide, by decide⟩
  · show WellS [100]; exact ⟨by decide, by decide⟩
theorem lwup : ∀ c ∈ abcd, lw (up [c]) = [c] ∧ (up [c]).length ≤ 1000 := by decide +kernel
theorem lw1 : ∀ c ∈ abcd, lw [c] = [c] := by decide +kernel
theorem pageH_get (u : Nat → List Nat) : ∀ c ∈ abcd, getH (pageH u) [c] = .str (flagText u c) := by
  have k : ∀ l : List Nat, (∀ c ∈ l, c ∈ abcd) → ∀ c ∈ l, getH (l.map fun c => ([c], flagText u c)) [c] = .str (flagText u c) := by
    intro l
    induction l with
    | nil => intro _ c hc; cases hc
    | cons a l ih =>
      intro ha c hc
      rw [List.map_cons, getH_cons, lw1 a (ha a (.head _))]
      by_cases e : a = c
      · subst e; simp
      · have : ([a] == [c]) = false := by simpa using e
        simp only [this, Bool.false_eq_true, if_false]
        exact ih (fun x hx => ha x (.tail _ hx)) c ((List.mem_cons.mp hc).resolve_left fun q => e q.symm)
  exact k abcd fun c hc => hc
theorem dec_ok : ∀ c ∈ abcd, ∀ id, runDecoder id asciiDecoder none true [c.toUInt8].toArray 0 [] = pure ((tx [c]).cps, 1) := by
  intro c hc id
  simp only [abcd, List.mem_cons, List.not_mem_nil, or_false] at hc
  rcases hc with rfl | rfl | rfl | rfl <;> kernel_rfl
theorem subs_mem : ∀ l ∈ subs8, ∀ c ∈ l, c ∈ abcd := by decide
theorem wsLongest : findIn (KK w) (.ref 133) "longest_run_of_spaces" = some (some (.ref 95)) := by rfl

theorem told_fn (W : Wd hB (KK w)) (leads : List S) (rs : List Nat) (hl : leads.length = 4) (hr : rs.length = 4) (h : ∀ i, i < 4 → LeadOk (leads.getD i []) (rs.getD i 0)) :
    Fn PG w hB (n + 5) (.ref 282) [.list (leads.map .str)] (underD (uOf rs)) := by
  refine Fn.of_def (B := ["runs", "page"]) (names := ["leads"]) (Q := fun fl _ _ => fl = .ret (underD (uOf rs))) W (by rfl) rfl rfl rfl ?_ rfl rfl (by decide) (by decide) (by decide) (fun L => ?_) (fun fl _ _ h => .inl h)
  · exact args1 fun _ => rfl
  · have hab : ∀ i : Nat, i < 4 → (seqIndex? (i : Int) abcd.length).bind (abcd[·]?) = some (97 + i) := fun i hi => by
      match i, hi with
      | 0, _ => rfl
      | 1, _ => rfl
      | 2, _ => rfl
      | 3, _ => rfl
    have hrs : ∀ i : Nat, i < 4 → (rs.map fun (r : Nat) => D.int (r : Int))[((i : Int)).toNat]? = some (.int (rs.getD i 0 : Nat)) := fun i hi => by
      rw [Int.toNat_natCast, List.getElem?_map, List.getElem?_eq_getElem (by omega), List.getD_eq_getElem?_getD, List.getElem?_eq_getElem (by omega)]; rfl
    refine Ex.cons (Ex1.assign (Ev.listcomp (ρc := []) (Bc := ["lead"]) (its := leads.map .str) (outs := rs.map fun (r : Nat) => D.int (r : Int)) (Caps.of (ks := []) rfl (by decide) rfl Cp0 (by decide) (by decide)) (Its.of (Ev.name rfl rfl) Runs.list) ?_) (by decide) ?_)
    · refine CompBlock.cast (CompBlock.one (fun _ => true) (fun it => .int (runF (sOf it))) (fun cells C it hit => ?_) (by rw [List.length_map, hl, sizeLine_eq]; decide)) ?_
      · obtain ⟨lead, hm, rfl⟩ := List.mem_map.mp hit
        obtain ⟨i, hi, rfl⟩ := List.mem_iff_getElem.mp hm
        have hL := h i (by omega)
        rw [List.getD_eq_getElem?_getD, List.getElem?_eq_getElem hi] at hL
        have hL : LeadOk leads[i] _ := hL
        generalize leads[i] = lead at *
        exact ⟨_, .name, Cb1 (by decide) rfl Cb0, rfl, fun _ => Ev.method0 W wsCls (Ev.call W (Ev.global W rfl (by rfl) rfl gWhitespace) (by rfl) (EvL.cons (Ev.name rfl rfl) EvL.nil) (ws_cls W lead hL.ascii hL.len hL.tabs)) wsLongest (by rfl) (by rfl) rfl (longest_fn W _ _ _ _ _ _ hL.few)⟩
      · rw [List.filter_eq_self.mpr (fun _ _ => rfl), List.map_map]
        refine List.ext_getElem (by simp [hl, hr]) fun i h1 h2 => ?_
        have hL := h i (by simpa [hl] using h1)
        simp only [List.getElem_map, Function.comp]
        have hi : i < leads.length := by simpa using h1
        have hi2 : i < rs.length := by simpa using h2
        rw [List.getD_eq_getElem?_getD, List.getElem?_eq_getElem hi, List.getD_eq_getElem?_getD, List.getElem?_eq_getElem hi2] at hL
        have hL : LeadOk leads[i] rs[i] := hL
        show D.int (runF leads[i]) = _
        rw [hL.run]
    have hsub := uOf_sub rs
    refine Ex.cons (Ex1.assign (d := .inst 268 (hdInst (pageH (uOf rs)))) (Ev.call W (Ev.global W rfl (by rfl) rfl gHeaders) (by rfl) (EvL.cons (d := hdrD (pageH (uOf rs))) (Ev.listcomp (ρc := [("runs", .list (rs.map fun (r : Nat) => D.int (r : Int)))]) (Bc := ["k"]) (its := (List.range 4).map fun (i : Nat) => D.int (i : Int)) (outs := (pageH (uOf rs)).map fun p => .tuple [.own p.1, .str p.2])
      (Caps.of (ks := ["runs"]) rfl (by decide) rfl (Cp1 rfl (by rfl) (by rfl) Cp0) (by decide) (by decide)) (Its.range (k := 4) (Ev.builtin W rfl (by rfl) rfl rfl nrange brange) Ev.const_int (by decide)) ?_) EvL.nil) (hd_cls W (pageH (uOf rs)) (pageH_well _ hsub))) (by decide) ?_)
    · refine CompBlock.cast (CompBlock.one (fun _ => true) (fun it => match it with | .int k => .tuple [.own [97 + k.toNat], .str (flagText (uOf rs) (97 + k.toNat))] | _ => .none) (fun cells C it hit => ?_) (by rw [sizeLine_eq]; decide)) rfl
      obtain ⟨k, hk, rfl⟩ := List.mem_map.mp hit
      have hk4 : k < 4 := List.mem_range.mp hk
      have hkm : 97 + k ∈ abcd := by
        match k, hk4 with
        | 0, _ => decide
        | 1, _ => decide
        | 2, _ => decide
        | 3, _ => decide
      refine ⟨_, .name, Cb1 (by decide) rfl Cb0, rfl, fun _ => ?_⟩
      refine Ev.tuple (ds := [.own [97 + k], .str (flagText (uOf rs) (97 + k))]) (EvL.cons (Ev.sub_str (c := 97 + k) (Ev.const_str rfl) (.str abcd) (Ev.name rfl rfl) (by omega) (by omega) (hab k hk4)) (EvL.cons ?_ EvL.nil))
      refine Ev.ifexp (b := decide ((k : Int) > 0)) (Tr.cmp (Ev.name rfl rfl) Ev.const_int Giv2.gt_int) (fun hb => ?_) fun hb => ?_
      · have hk0 : ¬ 97 + k = 97 := by have := of_decide_eq_true hb; omega
        have e : flagText (uOf rs) (97 + k) = [70, 76, 65, 71, 83, 32, 40] ++ jn [32] ((uOf rs (97 + k)).map fun c => [c]) ++ [41] := by
          unfold flagText; rw [if_neg hk0, flag_jn _ (hsub _ hkm)]
        rw [e]
        have hlen : (jn [32] ((uOf rs (97 + k)).map fun c => [c])).length ≤ 20 := by
          have := congrArg List.length (flag_jn _ (hsub _ hkm))
          have h2 := (flag_len _ (hsub _ hkm)).1
          rw [List.length_append, List.length_append] at this
          omega
        refine Ev.bin (Ev.bin (Ev.const_str rfl) (Ev.methodB PySem.F.plainAttrs_str PySem.F.slot_str_join PySem.F.type_str_join (Ev.const_str rfl) (HasM.strs (.str [32])) (EvL.cons (d := .list ((uOf rs (97 + k)).map fun c => .str [c])) ?_ EvL.nil) (GivL.join (ls := (uOf rs (97 + k)).map fun c => [c]) (.str [32]) ?_ (flag_join_ok _ (hsub _ hkm)))) (Giv2.add_str (.str _) (.str _) ?_)) (Ev.const_str rfl) (Giv2.add_str (.str _) (.str _) ?_)
        · refine Ev.listcomp (ρc := [("runs", .list (rs.map fun (r : Nat) => D.int (r : Int))), ("k", .int k)]) (Bc := ["i"]) (its := (List.range k).map fun (i : Nat) => D.int (i : Int)) (outs := (uOf rs (97 + k)).map fun x => .str [x])
            (Caps.of (ks := ["runs", "k"]) rfl (by decide) rfl (Cp1 rfl (by rfl) (by rfl) (Cp1 rfl (by rfl) (by rfl) Cp0)) (by decide) (by decide)) (Its.range (k := k) (Ev.builtin W rfl (by rfl) rfl rfl nrange brange) (Ev.name rfl rfl) (by omega)) ?_
          refine CompBlock.cast (CompBlock.one (fun it => match it with | .int i => decide ((rs.getD i.toNat 0 : Int) ≤ (rs.getD k 0 : Int)) | _ => false) (fun it => match it with | .int i => .str [97 + i.toNat] | _ => .none) (fun cells C it hit => ?_) (by rw [List.length_map, List.length_range, sizeLine_eq]; omega)) ?_
          · obtain ⟨i, hi, rfl⟩ := List.mem_map.mp hit
            have hi4 : i < k := List.mem_range.mp hi
            exact ⟨_, .name, Cb1 (by decide) rfl Cb0, Tr.value (Ev.call W (Ev.global W rfl (by rfl) rfl gle) (by rfl) (EvL.cons (Ev.sub_list (i := i) (Ev.name rfl rfl) (Ev.name rfl rfl) (by omega) (by omega) (hrs i (by omega))) (EvL.cons (Ev.sub_list (i := k) (Ev.name rfl rfl) (Ev.name rfl rfl) (by omega) (by omega) (hrs k hk4)) EvL.nil)) (le_fn W _ _)) GivB.bool, fun _ => (Ev.sub_str (c := 97 + i) (Ev.const_str rfl) (.str abcd) (Ev.name rfl rfl) (by omega) (by omega) (hab i (by omega))).plain⟩
          · have e : 97 + k - 97 = k := by omega
            unfold uOf
            rw [List.filter_map, List.map_map, List.map_map, e]
            congr 1
            refine List.filter_congr fun i _ => ?_
            simp
        · have := AreS.strs ((uOf rs (97 + k)).map fun c => [c])
          rw [List.map_map] at this; exact this
        · rw [sizeLine_eq]; show 7 + _ ≤ _; omega
        · rw [List.length_append, sizeLine_eq]; show 7 + _ + 1 ≤ _; omega
      · have hk0 : 97 + k = 97 := by have := of_decide_eq_false hb; omega
        have e : flagText (uOf rs) (97 + k) = nilT := by unfold flagText; rw [if_pos hk0]
        rw [e]
        exact Ev.const_str rfl
    refine Ex.cons (Ex1.ret (Ev.dictcomp (ρc := [("page", .inst 268 (hdInst (pageH (uOf rs))))]) (Bc := ["name"]) (its := abcd.map fun c => .own [c]) (outs := abcd.map fun c => ([c], .list ((uOf rs c).map fun x => .str [x])))
      (Caps.of (ks := ["page"]) rfl (by decide) rfl (Cp1 rfl (by rfl) (by rfl) Cp0) (by decide) (by decide)) (Its.of (Ev.const_str rfl) (Runs.str (.str abcd) rfl)) ?_) rfl)
    refine CompBlockD.cast (CompBlockD.one (fun it => sOf it) (fun it => .list ((uOf rs (c0 (sOf it))).map fun x => .str [x])) (fun cells C it hit => ?_) (by rw [List.map_map]; show (abcd.map fun c => [c]).Nodup; decide) (by rw [List.length_map]; decide)) (by rw [List.map_map]; rfl)
    obtain ⟨c, hc, rfl⟩ := List.mem_map.mp hit
    refine ⟨_, .name, Cb1 (by decide) rfl Cb0, (Ev.name rfl rfl).plain, ?_⟩
    show Ev PG w hB (n + 4) _ _ _ (.list ((uOf rs c).map fun x => .str [x]))
    have hpf : ∃ b : Array UInt8, (∀ t, encodeNarrow "str.encode" asciiCodec none (.str (tx (flagText (uOf rs) c)) t) (tx (flagText (uOf rs) c)) = pure b) ∧ b.size ≤ 1000 ∧ Fn PG w hB (n + 4) (.ref 50) [.bytes b] (.tuple ((uOf rs c).map fun (x : Nat) => .bytes [x.toUInt8].toArray)) := by
      by_cases e : c = 97
      · subst e
        refine ⟨toB nilT, ?_, by decide, ?_⟩
        · unfold flagText; rw [if_pos rfl]; exact nil_enc
        · rw [uOf_a]; exact parse_no W
      · refine ⟨toB (flagT (uOf rs c)), ?_, ?_, parse_yes W (hsub c hc)⟩
        · unfold flagText; rw [if_neg e]; exact (flag_ok _ (hsub c hc)).enc
        · rw [toB_len]; have := (flag_len _ (hsub c hc)).1; omega
    obtain ⟨b, hb1, hb2, hb3⟩ := hpf
    have hitem : Fn PG w hB (n + 3) (.ref 195) [.inst 268 (hdInst (pageH (uOf rs))), .str (up [c])] (.str (flagText (uOf rs) c)) := by
      have h1 := lwup c hc
      have := hd_item (n := n) W (pageH (uOf rs)) (.str (up [c])) h1.2 (by rw [h1.1]; have := (pageH_well (uOf rs) hsub _ (List.mem_map.mpr ⟨c, hc, rfl⟩)).1; exact this) (pageH_well _ hsub)
      rwa [h1.1, pageH_get _ c hc] at this
    refine Ev.listcomp (ρc := []) (Bc := ["flag"]) (its := (uOf rs c).map fun (x : Nat) => .bytes [x.toUInt8].toArray) (outs := (uOf rs c).map fun x => .str [x]) (Caps.of (ks := []) rfl (by decide) rfl Cp0 (by decide) (by decide))
      (Its.of (Ev.call W (Ev.global W rfl (by rfl) rfl gParseFlags) (by rfl) (EvL.cons (Ev.methodB PySem.F.plainAttrs_str slot_str_encode type_str_encode
        (Ev.subInst W (Ev.name rfl rfl) (Ev.methodB0 PySem.F.plainAttrs_str PySem.F.slot_str_upper PySem.F.type_str_upper (Ev.name rfl rfl) (HasM.strs (.own _)) (GivL.upper (.own [c]) (Nat.le_of_ble_eq_true rfl))) (by rfl) (by rfl) (by rfl) hitem)
        (HasM.strs (.str _)) (EvL.cons (Ev.const_str rfl) EvL.nil) (GivL.encode (.str _) (.str _) hb1 hb2)) EvL.nil) hb3) Runs.tuple) ?_
    refine CompBlock.cast (CompBlock.one (fun _ => true) (fun it => match it with | .bytes b => .str [(b.getD 0 0).toNat] | _ => .none) (fun cells C it hit => ?_) (by rw [List.length_map, sizeLine_eq]; have := (flag_len _ (hsub c hc)).2.1; omega)) ?_
    · obtain ⟨x, hx, rfl⟩ := List.mem_map.mp hit
      have hxa := subs_mem _ (hsub c hc) x hx
      have e : ([x.toUInt8].toArray.getD 0 0).toNat = x := by
        simp only [abcd, List.mem_cons, List.not_mem_nil, or_false] at hxa
        rcases hxa with rfl | rfl | rfl | rfl <;> rfl
      refine ⟨_, .name, Cb1 (by decide) rfl Cb0, rfl, fun _ => ?_⟩
      show Ev PG w hB (n + 4) _ _ _ (.str [([x.toUInt8].toArray.getD 0 0).toNat])
      rw [e]
      exact Ev.methodB PySem.W.FB.plainAttrs_bytes PySem.W.FB.slot_bytes_decode PySem.W.FB.type_bytes_decode (Ev.name rfl rfl) HasM.bytes (EvL.cons (Ev.const_str rfl) EvL.nil) (GivL.decode (.str _) (dec_ok x hxa) (Nat.le_of_ble_eq_true rfl))
    · rw [List.filter_eq_self.mpr (fun _ _ => rfl), List.map_map]
      refine List.map_congr_left fun x hx => ?_
      have hxa := subs_mem _ (hsub c hc) x hx
      simp only [abcd, List.mem_cons, List.not_mem_nil, or_false] at hxa
      rcases hxa with rfl | rfl | rfl | rfl <;> rfl
end
end Mine

set_option maxHeartbeats 1000000
namespace Mine
open PySem PySem.W PyProof.Rows PySem.Calls
section
variable {w : World} {hB : Bs} {n : Nat}

def struckL (rows : List S) (c : Nat) : List S := (rows.map fun r => rpl r [c] []).foldl Sets.addS []
theorem hdAll : findIn (KK w) (.ref 268) "get_all" = some (some (.ref 207)) := by rfl

theorem struck_fn (W : Wd hB (KK w)) (hs : List (S × S)) (rows : List S) (hh : WellH hs) (hl : hs.length ≤ 200) (hal : ∀ c ∈ abcd, (allH hs [c]).length < 64) (hr : rows.length < 60) (hrl : ∀ r ∈ rows, r.length ≤ 100)
    (hok : ∀ c ∈ abcd, srt (allH hs [c]) = srt (struckL rows c)) :
    Fn PG w hB (n + 3) (.ref 314) [.inst 268 (hdInst hs), .list (rows.map .str)] (.bool true) := by
  refine Fn.of_def (B := ["name"]) (names := ["table", "rows"]) (Q := fun fl _ _ => fl = .ret (.bool true)) W (by rfl) rfl rfl rfl ?_ rfl rfl (by decide) (by decide) (by decide) (fun L => ?_) (fun fl _ _ h => .inl h)
  · exact args2 fun _ _ => rfl
  · refine Ex.cons (Ex1.for (Ev.const_str rfl) (Runs.str (.str abcd) rfl) ?_)
    refine ForR.inv (σ := Unit) (fun _ => [("table", .inst 268 (hdInst hs)), ("rows", .list (rows.map .str))]) (fun _ => []) (fun its _ => ∃ l : List Nat, its = l.map (fun c => D.own [c]) ∧ ∀ c ∈ l, c ∈ abcd) ?_ ?_ _ () _ _ ⟨abcd, rfl, fun c hc => hc⟩ (Has.cons rfl (Has.cons rfl Has.nil)) Has.nil
    · rintro it its _ ⟨l, e, h1⟩
      cases l with
      | nil => cases e
      | cons c l =>
        cases e
        have hc := h1 c (.head _)
        have hlc := lw1 c hc
        have hall : Fn PG w hB (n + 2) (.ref 207) [.inst 268 (hdInst hs), .own [c]] (.list ((allH hs [c]).map .str)) := by
          have := hd_all (n := n) W hs (.own [c]) (x := [c]) (Nat.le_of_ble_eq_true rfl) (by
            rw [hlc]
            simp only [abcd, List.mem_cons, List.not_mem_nil, or_false] at hc
            rcases hc with rfl | rfl | rfl | rfl <;> exact ⟨by decide, by decide⟩) hh (by omega)
          rwa [hlc] at this
        refine ⟨_, .name, In1 (by decide) In0, ?_⟩
        refine Ex.cons (Ex1.ite (b := !(srt (allH hs [c]) == srt (struckL rows c))) ?_ (fun z => by rw [hok c hc] at z; simp at z) fun _ => ?_)
        · refine Tr.cmp (Ev.callB (Ev.builtin W rfl (by rfl) rfl rfl nsorted bsorted) (EvL.cons (Ev.method W hdCls (Ev.name rfl rfl) hdAll (by rfl) (by rfl) rfl (EvL.cons (Ev.name rfl rfl) EvL.nil) hall) EvL.nil) (GivL.sorted (AreS.strs _) (hal c hc)))
            (Sets.Ev.sortedSet (ds := (rows.map fun r => rpl r [c] []).map .str) (ls := rows.map fun r => rpl r [c] []) (Ev.builtin W rfl (by rfl) rfl rfl nsorted bsorted) (Ev.builtin W rfl (by rfl) rfl rfl nset bset) ?_ (AreS.strs _) (by rw [List.length_map]; omega)) (Giv2.ne_strs (AreS.strs _) (AreS.strs _))
          refine Ev.listcomp (ρc := [("name", .own [c])]) (Bc := ["row"]) (its := rows.map .str) (outs := (rows.map fun r => rpl r [c] []).map .str) (Caps.of (ks := ["name"]) rfl (by decide) rfl (Cp1 rfl (by rfl) (by rfl) Cp0) (by decide) (by decide)) (Its.of (Ev.name rfl rfl) Runs.list) ?_
          refine CompBlock.cast (CompBlock.one (fun _ => true) (fun it => .str (rpl (sOf it) [c] [])) (fun cells C it hit => ?_) (by rw [List.length_map, sizeLine_eq]; omega)) ?_
          · obtain ⟨r, hrm, rfl⟩ := List.mem_map.mp hit
            have := hrl r hrm
            exact ⟨_, .name, Cb1 (by decide) rfl Cb0, rfl, fun _ => Ev.replace W (Ev.name rfl rfl) (.str r) (Ev.name rfl rfl) rfl (by show r.length + (r.length + 1) * 0 ≤ 16777216; omega)⟩
          · rw [List.filter_eq_self.mpr (fun _ _ => rfl), List.map_map, List.map_map]; rfl
        · exact Ex.nil (Ex.nil ⟨(), ⟨l, rfl, fun q hq => h1 q (.tail _ hq)⟩, Has.cons rfl (Has.cons rfl Has.nil), Has.nil⟩)
    · rintro _ ρ μ ⟨l, e, h1⟩ hr hm
      exact Ex.cons (Ex1.ret Ev.const_bool rfl)
end
end Mine

set_option maxHeartbeats 1000000
namespace Mine
open PySem PySem.W PyProof.Rows PySem.Calls

/-- a table of what stands under each line -/
def uT (b c d : List Nat) (x : Nat) : List Nat := if x = 98 then b else if x = 99 then c else if x = 100 then d else []
def rowsT (b c d : List Nat) : List S := itR (uT b c d) 4 [[]]
def hsT (b c d : List Nat) : List (S × S) := handsF (uT b c d) (rowsT b c d)
def chkRows (rows : List S) : Bool := decide (rows.length ≤ 24) && rows.all fun r => r.length == 4 && r.all abcd.contains
def wellB (x : S) : Bool := decide (x.length ≤ 1000) && x.all okc.contains
def chkHs (hs : List (S × S)) : Bool := decide (hs.length ≤ 200) && (hs.all fun p => wellB p.1 && wellB p.2) && abcd.all fun c => decide ((allH hs [c]).length < 64)
def chkStruck (hs : List (S × S)) (rows : List S) : Bool := abcd.all fun c => srt (allH hs [c]) == srt (struckL rows c)
def chkCounted (u : Nat → List Nat) (hs : List (S × S)) (many : Int) : Bool := match chRun u 40 ⟨ch0 u, 0, []⟩ with
  | none => false
  | some res => (res.all fun r => r.all abcd.contains && decide (r.length ≤ 100)) && decide (res.length ≤ 1000) && (choicesF u).all (fun one => !badOne (hs.map (·.1)) many res one)
def chkT (b c d : List Nat) : Bool := chkRows (rowsT b c d) && chkHs (hsT b c d) && chkStruck (hsT b c d) (rowsT b c d) && chkCounted (uT b c d) (hsT b c d) ((rowsT b c d).length : Nat)
def subs2 : List (List Nat) := [[], [97]]
def subs4 : List (List Nat) := [[], [97], [98], [97, 98]]
def good : List (List Nat × List Nat × List Nat) := [([97], [97, 98], [97, 98, 99]), ([97], [97, 98], [97, 98]), ([97], [97], [97, 99]), ([97], [97], [97, 98, 99]), ([97], [97, 98], [97]), ([97], [97], [97]), ([], [98], [98, 99]), ([], [98], [97, 98, 99]), ([], [97, 98], [98]), ([], [97, 98], [97, 98, 99]), ([], [97, 98], [97, 98]), ([97], [], [99]), ([97], [], [97, 98, 99]), ([97], [97, 98], []), ([97], [], [97, 99]), ([97], [97], []), ([], [98], [98]), ([], [], [99]), ([], [], [98, 99]), ([], [], [97, 98, 99]), ([], [98], []), ([], [97, 98], []), ([97], [], []), ([], [], [])]
theorem chk0 : chkT [97] [97, 98] [97, 98, 99] = true := by decide +kernel
theorem chk1 : chkT [97] [97, 98] [97, 98] = true := by decide +kernel
theorem chk2 : chkT [97] [97] [97, 99] = true := by decide +kernel
theorem chk3 : chkT [97] [97] [97, 98, 99] = true := by decide +kernel
theorem chk4 : chkT [97] [97, 98] [97] = true := by decide +kernel
theorem chk5 : chkT [97] [97] [97] = true := by decide +kernel
theorem chk6 : chkT [] [98] [98, 99] = true := by decide +kernel
theorem chk7 : chkT [] [98] [97, 98, 99] = true := by decide +kernel
theorem chk8 : chkT [] [97, 98] [98] = true := by decide +kernel
theorem chk9 : chkT [] [97, 98] [97, 98, 99] = true := by decide +kernel
theorem chk10 : chkT [] [97, 98] [97, 98] = true := by decide +kernel
theorem chk11 : chkT [97] [] [99] = true := by decide +kernel
theorem chk12 : chkT [97] [] [97, 98, 99] = true := by decide +kernel
theorem chk13 : chkT [97] [97, 98] [] = true := by decide +kernel
theorem chk14 : chkT [97] [] [97, 99] = true := by decide +kernel
theorem chk15 : chkT [97] [97] [] = true := by decide +kernel
theorem chk16 : chkT [] [98] [98] = true := by decide +kernel
theorem chk17 : chkT [] [] [99] = true := by decide +kernel
theorem chk18 : chkT [] [] [98, 99] = true := by decide +kernel
theorem chk19 : chkT [] [] [97, 98, 99] = true := by decide +kernel
theorem chk20 : chkT [] [98] [] = true := by decide +kernel
theorem chk21 : chkT [] [97, 98] [] = true := by decide +kernel
theorem chk22 : chkT [97] [] [] = true := by decide +kernel
theorem chk23 : chkT [] [] [] = true := by decide +kernel
theorem good_ok : ∀ t ∈ good, chkT t.1 t.2.1 t.2.2 = true := by
  intro t ht
  simp only [good, List.mem_cons, List.not_mem_nil, or_false] at ht
  rcases ht with rfl | rfl | rfl | rfl | rfl | rfl | rfl | rfl | rfl | rfl | rfl | rfl | rfl | rfl | rfl | rfl | rfl | rfl | rfl | rfl | rfl | rfl | rfl | rfl
  · exact chk0
  · exact chk1
  · exact chk2
  · exact chk3
  · exact chk4
  · exact chk5
  · exact chk6
  · exact chk7
  · exact chk8
  · exact chk9
  · exact chk10
  · exact chk11
  · exact chk12
  · exact chk13
  · exact chk14
  · exact chk15
  · exact chk16
  · exact chk17
  · exact chk18
  · exact chk19
  · exact chk20
  · exact chk21
  · exact chk22
  · exact chk23
theorem good_of : ∀ r0 ∈ List.range 4, ∀ r1 ∈ List.range 4, ∀ r2 ∈ List.range 4, ∀ r3 ∈ List.range 4, (uOf [r0, r1, r2, r3] 98, uOf [r0, r1, r2, r3] 99, uOf [r0, r1, r2, r3] 100) ∈ good := by decide +kernel

structure Plain (u : Nat → List Nat) : Prop where
  hu : ∀ c ∈ abcd, (u c).length ≤ 100
  hu2 : ∀ c ∈ abcd, ∀ l ∈ u c, l ∈ abcd
  rlen : (itR u 4 [[]]).length ≤ 24
  rows : ∀ r ∈ itR u 4 [[]], r.length = 4 ∧ ∀ c ∈ r, c ∈ abcd
  hlen : (handsF u (itR u 4 [[]])).length ≤ 200
  well : WellH (handsF u (itR u 4 [[]]))
  few : ∀ c ∈ abcd, (allH (handsF u (itR u 4 [[]])) [c]).length < 64
  struck : ∀ c ∈ abcd, srt (allH (handsF u (itR u 4 [[]])) [c]) = srt (struckL (itR u 4 [[]]) c)
  counted : ∃ res, chRun u 40 ⟨ch0 u, 0, []⟩ = some res ∧ (∀ r ∈ res, (∀ c ∈ r, c ∈ abcd) ∧ r.length ≤ 100) ∧ res.length ≤ 1000 ∧ (choicesF u).all (fun one => !badOne ((handsF u (itR u 4 [[]])).map (·.1)) ((itR u 4 [[]]).length : Nat) res one) = true
theorem wellB_ok {x : S} (h : wellB x = true) : WellS x := by
  unfold wellB at h
  rw [Bool.and_eq_true, decide_eq_true_eq, List.all_eq_true] at h
  exact ⟨h.1, fun c hc => by simpa using h.2 c hc⟩
theorem plain_of {b c d : List Nat} (hb : b ∈ subs8) (hc : c ∈ subs8) (hd : d ∈ subs8) (h : chkT b c d = true) : Plain (uT b c d) := by
  unfold chkT at h
  rw [Bool.and_eq_true, Bool.and_eq_true, Bool.and_eq_true] at h
  obtain ⟨⟨⟨h1, h2⟩, h3⟩, h4⟩ := h
  have hs : ∀ x, uT b c d x ∈ subs8 := by
    intro x
    unfold uT
    split
    · exact hb
    · split
      · exact hc
      · split
        · exact hd
        · exact .head _
  unfold chkRows at h1
  rw [Bool.and_eq_true, decide_eq_true_eq, List.all_eq_true] at h1
  unfold chkHs at h2
  rw [Bool.and_eq_true, Bool.and_eq_true, decide_eq_true_eq, List.all_eq_true, List.all_eq_true] at h2
  unfold chkStruck at h3
  rw [List.all_eq_true] at h3
  refine ⟨fun x _ => ?_, fun x _ => subs_mem _ (hs x), h1.1, fun r hr => ?_, h2.1.1, fun p hp => ?_, fun x hx => of_decide_eq_true (h2.2 x hx), fun x hx => eq_of_beq (h3 x hx), ?_⟩
  · have := (flag_len _ (hs x)).2.1; omega
  · have := h1.2 r hr
    rw [Bool.and_eq_true, List.all_eq_true] at this
    exact ⟨by simpa using this.1, fun y hy => by simpa using this.2 y hy⟩
  · have := h2.1.2 p hp
    rw [Bool.and_eq_true] at this
    exact ⟨wellB_ok this.1, wellB_ok this.2⟩
  · unfold chkCounted at h4
    cases q : chRun (uT b c d) 40 ⟨ch0 (uT b c d), 0, []⟩ with
    | none => rw [q] at h4; cases h4
    | some res =>
      rw [q] at h4
      simp only [Bool.and_eq_true, decide_eq_true_eq] at h4
      obtain ⟨⟨h5, h6⟩, h7⟩ := h4
      rw [List.all_eq_true] at h5
      refine ⟨res, rfl, fun r hr => ?_, h6, h7⟩
      have := h5 r hr
      rw [Bool.and_eq_true, decide_eq_true_eq, List.all_eq_true] at this
      exact ⟨fun y hy => by simpa using this.1 y hy, this.2⟩

/-- the table that four runs give, and what holds of it -/
theorem plain_runs (rs : List Nat) (hr : rs.length = 4) (h4 : ∀ r ∈ rs, r < 4) : ∃ u, underD (uOf rs) = underD u ∧ Plain u := by
  match rs, hr with
  | [r0, r1, r2, r3], _ =>
    have hg := good_of r0 (List.mem_range.mpr (h4 _ (by simp))) r1 (List.mem_range.mpr (h4 _ (by simp))) r2 (List.mem_range.mpr (h4 _ (by simp))) r3 (List.mem_range.mpr (h4 _ (by simp)))
    have hs := uOf_sub [r0, r1, r2, r3]
    refine ⟨uT (uOf [r0, r1, r2, r3] 98) (uOf [r0, r1, r2, r3] 99) (uOf [r0, r1, r2, r3] 100), ?_, plain_of (hs _ (by decide)) (hs _ (by decide)) (hs _ (by decide)) (good_ok (uOf [r0, r1, r2, r3] 98, uOf [r0, r1, r2, r3] 99, uOf [r0, r1, r2, r3] 100) hg)⟩
    have e := uOf_a [r0, r1, r2, r3]
    unfold underD abcd
    simp only [List.map_cons, List.map_nil, e]
    rfl
end Mine

set_option maxHeartbeats 4000000
namespace Mine
open PySem PySem.W PyProof.Rows PySem.Calls
section
variable {w : World}

theorem none_in {K : Frag} {h : Heap} {a : Addr} {mg : Str → Option Value} {n : Str} (X : K.In h) (G : h.Ns a mg) (e : nsIn K a n = some none) : mg n = none := by
  obtain ⟨o, es, ep, ho, hd, _, hf⟩ := G
  unfold nsIn at e
  split at e
  · rename_i c d es' n' sl q
    have := X _ _ q
    rw [ho] at this
    cases this
    cases hd
    split at e
    · cases e
    · rename_i he
      rw [← hf]
      unfold nsFind findBy
      rw [← Array.find?_toList, he]
      rfl
  · cases e
theorem unbooked : nsIn (KK w) cStatics sharingNotToldKey = some none := by kernel_rfl
theorem wd_of {p : Program} {loose : List Str} {mean : ExcName → Option Value} {mg mb : Str → Option Value} {h : Heap} {N : Nat} (X : (KK w).In h) (T : Top p loose mean mg mb h) : Wd ⟨h, N⟩ (KK w) := by
  obtain ⟨mc, hn, _⟩ := T.nolimit
  exact ⟨X, ⟨mg, T.g⟩, ⟨mb, T.b, T.builtins⟩, T.nolimit, ⟨mc, hn, none_in X hn unbooked⟩⟩

theorem ints_rd {X : Addr → Prop} {s : Shared} : ∀ {vs : List Value} {ns : List Int}, IntsAre vs ns → RdL PG w X s vs (ns.map .int)
  | _, _, .nil => RdL.nil
  | _, _, .cons i t h => RdL.cons (.int i t) (ints_rd h)

/-- the law's frame, from its first line to its end -/
theorem law_end {s₁ : Shared} {h₁ : Heap} {env : Env} {body : List Stmt} {a2 : Addr} {vs : List Value} {script : List Int} {A : Around} {E : Value → Shared → Prop} {R : Flow → Shared → Prop} {m : Str → Option Value} {B : List Str} {n : Nat}
    (hex : Ex PG w ⟨s₁.heap, s₁.toks⟩ n B env [("script", .list (script.map .int))] [] body (fun fl _ _ => fl = .ret (.bool true)))
    (hr : Room n A) (hk : env.scope.kind = .function) (hL : env.locals = s₁.heap.objs.size) (hc : env.cells = []) (F : Fr s₁.heap s₁.heap.objs.size h₁ m) (hm : m "script" = some (.ref a2)) (hkd : env.kindOf "script" = some .local)
    (hB : ∀ x ∈ B, env.kindOf x = some .local) (hlist : s₁.heap.get? a2 = some (listOf vs.toArray 0)) (hI : IntsAre vs script)
    (hR : ∀ s', s'.gens = s₁.gens → s'.os = s₁.os → (∀ b o, s₁.heap.get? b = some o → s'.heap.get? b = some o) → R (.ret (.bool true)) s') :
    wpAny (model PG w) A (execs body env) R E { s₁ with heap := h₁, toks := s₁.toks + 1 } := by
  have S0 : Sit ⟨s₁.heap, s₁.toks⟩ (fun _ => False) { s₁ with toks := s₁.toks + 1 } := ⟨Keep.refl _, (fun a h => h.elim), (fun a h => h.elim), Nat.lt_succ_self _⟩
  have g0 : Gone { s₁ with toks := s₁.toks + 1 } { s₁ with heap := h₁, toks := s₁.toks + 1 } := Gone.mk' (s := { s₁ with toks := s₁.toks + 1 }) (Nat.le_refl _) F.keep
  have St : Sta PG w ⟨s₁.heap, s₁.toks⟩ (fun _ => False) (ownM { s₁ with toks := s₁.toks + 1 } { s₁ with heap := h₁, toks := s₁.toks + 1 }) B env [("script", .list (script.map .int))] [] { s₁ with heap := h₁, toks := s₁.toks + 1 } := by
    refine start_sta S0 g0 hk ⟨m, by rw [hL]; exact F.ns⟩ (by rw [hL]; exact get?_size_none _) (fun x c e => by rw [hc] at e; cases e) (fun x y c e => by rw [hc] at e; cases e) (fun x hx => .inl (hB x hx)) (fun x d e => ?_)
    rw [List.lookup_cons] at e
    cases q : x == ("script" : Str) with
    | false => rw [q] at e; cases e
    | true =>
      rw [q] at e; cases e
      have : x = ("script" : Str) := by simpa using q
      subst this
      exact ⟨_, .inl ⟨hkd, m, by rw [hL]; exact F.ns, hm⟩, Rd.mkList (fun h => h) hlist (ints_rd hI)⟩
  refine wpAny_mono (hex A _ _ _ E hr St) (fun f s' h => ?_) fun _ _ e => e
  obtain ⟨g', fl, M', ρ', μ', h1, h2, h3, h4⟩ := h
  have G : Gone { s₁ with toks := s₁.toks + 1 } s' := (g0.went.trans g').gone fun a ha => ha.1
  subst h4
  cases f <;> try exact h1.elim
  have h1 := Rd.bool_inv h1
  subst h1
  obtain ⟨h', dr, tk, rfl, _, k⟩ := G.out
  exact hR _ rfl rfl k
end
end Mine

set_option maxHeartbeats 4000000
namespace Mine
open PySem PySem.W PyProof.Rows PySem.Calls
section
variable {w : World} {hB : Bs} {n : Nat}

def leadsF (script : List Int) : List S := (cellsF script).map leadOf
def cP (c : Int) : Nat := (c.fmod 4).toNat
def cQ (c : Int) : Nat := ((c.fdiv 4).fmod 3).toNat
def runsF (script : List Int) : List Nat := (cellsF script).map fun c => runOf (cP c) (cQ c)
theorem cP_lt (c : Int) : cP c < 4 := by
  have a0 : (0 : Int) ≤ c.fmod 4 := Int.fmod_nonneg_of_pos _ (by decide)
  have a4 : c.fmod 4 < 4 := Int.fmod_lt_of_pos _ (by decide)
  unfold cP; omega
theorem cQ_lt (c : Int) : cQ c < 3 := by
  have b0 : (0 : Int) ≤ (c.fdiv 4).fmod 3 := Int.fmod_nonneg_of_pos _ (by decide)
  have b4 : (c.fdiv 4).fmod 3 < 3 := Int.fmod_lt_of_pos _ (by decide)
  unfold cQ; omega
theorem leadsF_len (script : List Int) : (leadsF script).length = 4 := by unfold leadsF; rw [List.length_map, cellsF_len]
theorem runsF_len (script : List Int) : (runsF script).length = 4 := by unfold runsF; rw [List.length_map, cellsF_len]
theorem runsF_lt (script : List Int) : ∀ r ∈ runsF script, r < 4 := by
  intro r hr
  obtain ⟨c, -, rfl⟩ := List.mem_map.mp hr
  have h1 := cP_lt c
  have h2 := cQ_lt c
  unfold runOf
  split <;> omega
theorem leads_ok (script : List Int) : ∀ i, i < 4 → LeadOk ((leadsF script).getD i []) ((runsF script).getD i 0) := by
  intro i hi
  have h4 := cellsF_len script
  unfold leadsF runsF
  rw [List.getD_eq_getElem?_getD, List.getD_eq_getElem?_getD, List.getElem?_map, List.getElem?_map, List.getElem?_eq_getElem (by omega)]
  exact lead_ok _ _ (cP_lt _) (cQ_lt _)

structure LawFns (w : World) (hB : Bs) (script : List Int) (u : Nat → List Nat) : Prop where
  leads : Fn PG w hB 6 (.ref 277) [.list (script.map .int)] (.list ((leadsF script).map .str))
  told : Fn PG w hB 6 (.ref 282) [.list ((leadsF script).map .str)] (underD u)
  orders : Fn PG w hB 6 (.ref 292) [underD u] (.list ((itR u 4 [[]]).map .str))
  hands : Fn PG w hB 6 (.ref 299) [.list ((itR u 4 [[]]).map .str), underD u] (.inst 268 (hdInst (handsF u (itR u 4 [[]]))))
  under : Fn PG w hB 6 (.ref 287) [.list ((leadsF script).map .str)] (underD u)
  struck : Fn PG w hB 6 (.ref 314) [.inst 268 (hdInst (handsF u (itR u 4 [[]]))), .list ((itR u 4 [[]]).map .str)] (.bool true)
  counted : Fn PG w hB 6 (.ref 319) [.inst 268 (hdInst (handsF u (itR u 4 [[]]))), .int ((itR u 4 [[]]).length : Nat), underD u] (.bool true)
  few : (itR u 4 [[]]).length ≤ 24
theorem law_fns (W : Wd hB (KK w)) (script : List Int) (hs : script.length ≤ 63) : ∃ u, LawFns w hB script u := by
  obtain ⟨u, he, P⟩ := plain_runs (runsF script) (runsF_len script) (runsF_lt script)
  obtain ⟨res, c1, c2, c3, c4⟩ := P.counted
  refine ⟨u, ?_, ?_, orders_fn (n := 4) W u P.hu, hands_fn (n := 2) W _ u P.hu P.rows (Nat.le_trans P.rlen (by decide)) P.well, ?_, ?_, ?_, P.rlen⟩
  · have := leads_fn (n := 4) W script hs
    unfold leadsF
    rw [List.map_map]
    exact this
  · rw [← he]
    exact told_fn (n := 1) W _ _ (leadsF_len script) (runsF_len script) (leads_ok script)
  · rw [← he]
    exact under_fn (n := 4) W _ _ (leadsF_len script) (runsF_len script) fun i hi => (leads_ok script i hi).under
  · refine struck_fn (n := 3) W _ _ P.well P.hlen P.few (Nat.lt_of_le_of_lt P.rlen (by decide)) (fun r hr => by rw [(P.rows r hr).1]; decide) P.struck
  · exact counted_fn (n := 3) W _ _ u (Nat.le_trans P.hlen (by decide)) P.hu P.hu2 res c1 c2 c3 c4
theorem list_exact {P : Params} {h : Heap} {a : Addr} {vs : List Value} {xs : List WData} (wl : Well P h (.ref a) (.list xs)) (hL : h.IsList a vs.toArray) : h.get? a = some (PySem.W.listOf vs.toArray 0) := by
  cases wl with
  | list ho hall =>
    obtain ⟨o, ho', hc, n, hd⟩ := hL
    rw [ho] at ho'
    cases ho'
    injection hd with h1 h2
    rw [ho, h1]
theorem room_law {env : Env} : Room 6 (callerA.deeper env) := by
  have h1 : callerA.depth + 1 + 3 * 6 + 10 ≤ recursionLimit := by decide
  have h2 : callerA.units + 30 + 10 * 6 + 100 ≤ cLine := by decide
  exact ⟨rfl, by simp only [Around.deeper]; omega, by simp only [Around.deeper]; omega⟩
end
end Mine

set_option maxHeartbeats 8000000
/- Names that are taken: where one of them is asked for by the head below, a second writing of a large constant of its own, and the proof that both are one, is not laid; the head then reads the constant as it stands. The compiled file is some forty million bytes smaller so, the proof the same. -/
namespace Mine.law_holds
def tw5771307934241267489 : Unit := ()
def tw15068483726869450994 : Unit := ()
def tw6927793712695671261 : Unit := ()
def tw16462895619179043833 : Unit := ()
def tw10295967763152902139 : Unit := ()
def tw15091833289416493025 : Unit := ()
def tw13536078969547264968 : Unit := ()
def tw12135361065603115203 : Unit := ()
def tw5058273712933161185 : Unit := ()
def tw3158907127566229856 : Unit := ()
def tw11946340739361827192 : Unit := ()
def tw17972821103574325591 : Unit := ()
def tw17934067817069507646 : Unit := ()
def tw3640318304813138149 : Unit := ()
def tw6103750384551583581 : Unit := ()
def tw5117662029339320154 : Unit := ()
def tw3033269912633744064 : Unit := ()
def tw881140697980615281 : Unit := ()
def tw7897602043232517924 : Unit := ()
def tw41732636909640268 : Unit := ()
def tw18221428039690301666 : Unit := ()
def tw5506821171919863439 : Unit := ()
def tw3955097671198598788 : Unit := ()
def tw3253568177066640346 : Unit := ()
def tw17923851452625207687 : Unit := ()
def tw11544315989524547432 : Unit := ()
def tw14545874151571354728 : Unit := ()
def tw10108825076125807744 : Unit := ()
def tw2078624436916829710 : Unit := ()
def tw11956458263131016624 : Unit := ()
def tw8312341600987523519 : Unit := ()
def tw8549365171731915398 : Unit := ()
def tw11470271118054631628 : Unit := ()
def tw11097350217990362986 : Unit := ()
def tw6333624483447246961 : Unit := ()
def tw10242277825702978295 : Unit := ()
def tw194939583717160490 : Unit := ()
def tw981846192996546977 : Unit := ()
def tw5274592661964301406 : Unit := ()
def tw9168033884955339765 : Unit := ()
def tw12889673554181485818 : Unit := ()
def tw6260460797876433568 : Unit := ()
def tw11484002064277903863 : Unit := ()
def tw3046938939346580660 : Unit := ()
def tw5769158387606399586 : Unit := ()
def tw2075624079617657780 : Unit := ()
def tw10486713781251687710 : Unit := ()
def tw15352839923633478061 : Unit := ()
def tw15333956030411951890 : Unit := ()
def tw13190408463805328480 : Unit := ()
def tw1110774673406346159 : Unit := ()
def tw12687621791434340054 : Unit := ()
def tw3896150654470677357 : Unit := ()
def tw850272041215511910 : Unit := ()
def tw14746732674962391887 : Unit := ()
def tw724200737284857819 : Unit := ()
def tw13431030151845061361 : Unit := ()
def tw10643469859437029617 : Unit := ()
def tw10516828495840041881 : Unit := ()
def tw13780023080261437657 : Unit := ()
def tw15829985883664642994 : Unit := ()
def tw8909828626151137519 : Unit := ()
def tw8570087061310353148 : Unit := ()
def tw13028658284911697911 : Unit := ()
def tw4439653461905209652 : Unit := ()
def tw5364902710198789758 : Unit := ()
def tw7408322871517469003 : Unit := ()
def tw4593294709026258786 : Unit := ()
def tw6265907326580845545 : Unit := ()
def tw11232796583565578275 : Unit := ()
def tw15154110283740273250 : Unit := ()
def tw631266038723830076 : Unit := ()
def tw10222300733896627045 : Unit := ()
def tw16106779387088534511 : Unit := ()
def tw7356724547972884604 : Unit := ()
def tw2139172203440323022 : Unit := ()
def tw10812634152524527747 : Unit := ()
def tw2295933128562542503 : Unit := ()
def tw5698644340446977077 : Unit := ()
def tw12481875629721207810 : Unit := ()
def tw5920216800500632969 : Unit := ()
def tw10264638600885302300 : Unit := ()
def tw18261290160731607033 : Unit := ()
def tw13766487248619392586 : Unit := ()
def tw13944364680338175992 : Unit := ()
def tw8073733883612932293 : Unit := ()
def tw15806970514647361693 : Unit := ()
def tw3572487005457819259 : Unit := ()
def tw8545968567494951613 : Unit := ()
def tw15633037125930547032 : Unit := ()
def tw2410596690014280888 : Unit := ()
def tw8472228645029834797 : Unit := ()
def tw4614512636035447770 : Unit := ()
def tw14774650325386425613 : Unit := ()
def tw2618386414584295968 : Unit := ()
def tw7480714314260584917 : Unit := ()
def tw14822640431511872941 : Unit := ()
def tw4146061822495498468 : Unit := ()
def tw17253903310271361901 : Unit := ()
def tw8330938851228082562 : Unit := ()
def tw18430954121086234272 : Unit := ()
def tw13581117511911456051 : Unit := ()
def tw16720094985154256693 : Unit := ()
def tw6041440012092600215 : Unit := ()
def tw8720880381367431298 : Unit := ()
def tw2503670479209048990 : Unit := ()
def tw9950293025416938093 : Unit := ()
def tw10301956948240465243 : Unit := ()
def tw10767655046202684341 : Unit := ()
def tw12476058986133298565 : Unit := ()
def tw9758593294864014727 : Unit := ()
def tw8369274380968253667 : Unit := ()
def tw8652346329174877282 : Unit := ()
def tw3494445600050047599 : Unit := ()
def tw13220211186989608806 : Unit := ()
def tw18388893480867403737 : Unit := ()
def tw18340598423539479173 : Unit := ()
def tw14596297492920191028 : Unit := ()
def tw17237755526102222789 : Unit := ()
def tw1710076424337546998 : Unit := ()
def tw6911747868599837429 : Unit := ()
def tw12663309570017281627 : Unit := ()
def tw1285599515219305098 : Unit := ()
def tw16307195398759424785 : Unit := ()
def tw3850334171643177529 : Unit := ()
def tw13958071646730322851 : Unit := ()
def tw16074064945343616743 : Unit := ()
def tw15609566024721092083 : Unit := ()
def tw16098122237329998606 : Unit := ()
def tw907578622648922086 : Unit := ()
def tw18006792725990754497 : Unit := ()
def tw4781243967656130014 : Unit := ()
def tw14497384708736915567 : Unit := ()
def tw13397297893571687751 : Unit := ()
def tw1414043511812021011 : Unit := ()
def tw11097158420108258118 : Unit := ()
def tw11966672015165255308 : Unit := ()
def tw10028117763298573888 : Unit := ()
def tw10465528174321978529 : Unit := ()
def tw7696488724909661519 : Unit := ()
def tw16461882675039125421 : Unit := ()
def tw9887912731928775018 : Unit := ()
def tw13402424001964919149 : Unit := ()
def tw11017292853192552079 : Unit := ()
def tw15472126771306010800 : Unit := ()
def tw11846676642670509255 : Unit := ()
def tw3110860835449505704 : Unit := ()
def tw13087128984098923117 : Unit := ()
def tw5731563423909890137 : Unit := ()
def tw7495221243884187115 : Unit := ()
def tw5419144667078052427 : Unit := ()
def tw3158129796062787159 : Unit := ()
def tw498061464947678834 : Unit := ()
def tw14828999820898988419 : Unit := ()
def tw6499956759230125245 : Unit := ()
def tw15732109348078318572 : Unit := ()
def tw8785698371604719795 : Unit := ()
def tw602461330855297101 : Unit := ()
def tw123295346585929383 : Unit := ()
def tw10817052189556005596 : Unit := ()
def tw5728293988275032746 : Unit := ()
def tw2903333896348957400 : Unit := ()
def tw13336368349410954346 : Unit := ()
def tw1096898596823417342 : Unit := ()
def tw6667284449218939238 : Unit := ()
def tw7089819591129360890 : Unit := ()
def tw6860709855171689206 : Unit := ()
def tw2124134355350193313 : Unit := ()
def tw2578278018795888234 : Unit := ()
def tw9255152265573255198 : Unit := ()
def tw8266603773606604290 : Unit := ()
def tw14571795756577361901 : Unit := ()
def tw8806649888931605024 : Unit := ()
def tw10371022188087798493 : Unit := ()
def tw9634471323475708679 : Unit := ()
def tw17942709131360195518 : Unit := ()
def tw12456547296908542839 : Unit := ()
def tw8666519363043736892 : Unit := ()
def tw6861490101519172755 : Unit := ()
def tw15617896438947887921 : Unit := ()
def tw18254337876149969668 : Unit := ()
def tw2842810181116790245 : Unit := ()
def tw11098625913536864229 : Unit := ()
def tw15883345262158282383 : Unit := ()
def tw8191475993861738794 : Unit := ()
def tw6723812968561706957 : Unit := ()
def tw13800757232730249582 : Unit := ()
def tw16947615914383616782 : Unit := ()
def tw17993387198741990920 : Unit := ()
def tw16614716721108272449 : Unit := ()
def tw2269544990204364226 : Unit := ()
def tw14872900085578418628 : Unit := ()
def tw18090433342136740992 : Unit := ()
def tw7304591109411159013 : Unit := ()
def tw9875236377963488844 : Unit := ()
def tw3049941959672503198 : Unit := ()
def tw6564709946809587534 : Unit := ()
def tw3366817510852727610 : Unit := ()
def tw5112083995522966620 : Unit := ()
def tw11223184984439025696 : Unit := ()
def tw4995542688137877417 : Unit := ()
def tw1928719863018725356 : Unit := ()
def tw9069877914133315304 : Unit := ()
def tw1973129929022764952 : Unit := ()
def tw6881874429007886204 : Unit := ()
def tw3742325753681652743 : Unit := ()
def tw6317479115527610633 : Unit := ()
def tw10442559174759676424 : Unit := ()
def tw15544829507116839252 : Unit := ()
def tw14354538779393863138 : Unit := ()
def tw16099233806120587224 : Unit := ()
def tw5451054884063135654 : Unit := ()
def tw1335265377702380343 : Unit := ()
def tw1419976552520188833 : Unit := ()
def tw15293083901398250104 : Unit := ()
def tw17598101756349436640 : Unit := ()
def tw4441770287765753910 : Unit := ()
def tw6677821561840896501 : Unit := ()
def tw11463670642173560981 : Unit := ()
def tw10362271348294423435 : Unit := ()
def tw17274716441693411508 : Unit := ()
def tw1341266762083198811 : Unit := ()
def tw4273555757443719353 : Unit := ()
def tw16836969012518115619 : Unit := ()
def tw12684681026606017882 : Unit := ()
def tw14051398506283589457 : Unit := ()
def tw10024239376800412576 : Unit := ()
def tw5907203647135998699 : Unit := ()
def tw2446358144275080391 : Unit := ()
def tw13709617746848070560 : Unit := ()
def tw16963379459963715452 : Unit := ()
def tw440325148559900515 : Unit := ()
def tw5981114437932730796 : Unit := ()
def tw4581845663705801772 : Unit := ()
def tw8984712037535005518 : Unit := ()
def tw3910120701321347557 : Unit := ()
def tw13650905803964671038 : Unit := ()
def tw16883458599210261866 : Unit := ()
def tw11289095316329951393 : Unit := ()
def tw1385162719727133579 : Unit := ()
def tw445335354869643106 : Unit := ()
def tw3426384778480675251 : Unit := ()
def tw4464252984393422682 : Unit := ()
end Mine.law_holds
open Mine PySem.Calls
set_option Elab.async true in
theorem Mine.law_holds : PySem.Challenge.rw_wj0079_01.Holds := by
  (w_on; o_law; (o_head (kHook Mine.frag.heap_1 [2, 3, 32, 34, 35, 37, 38, 40, 41, 42, 43, 44, 46, 47, 49, 50, 51, 53, 54, 56, 57, 58, 60, 61, 63, 64, 65, 67, 68, 70, 71, 82, 84, 85, 87, 88, 89, 91, 92, 94, 95, 96, 98, 99, 101, 102, 103, 105, 106, 108, 109, 110, 112, 113, 115, 116, 117, 119, 120, 122, 123, 124, 126, 127, 129, 130, 131, 132, 133, 134, 135, 141, 142, 146, 147, 155, 156, 158, 159, 161, 162, 163, 165, 166, 168, 169, 170, 172, 173, 175, 176, 177, 179, 180, 182, 183, 184, 187, 188, 189, 191, 192, 194, 195, 196, 198, 199, 201, 202, 203, 206, 207, 208, 209, 211, 212, 214, 215, 216, 219, 220, 221, 224, 225, 226, 228, 229, 231, 232, 233, 235, 236, 238, 239, 240, 243, 244, 245, 247, 248, 250, 251, 252, 254, 255, 257, 258, 259, 261, 262, 264, 265, 266, 267, 268, 269, 270, 273, 276, 277, 278, 281, 282, 283, 286, 287, 288, 291, 292, 293, 295, 296, 298, 299, 300, 303, 304, 305, 308, 309, 310, 313, 314, 315, 318, 319, 320, 322, 323, 325, 326] (fun _ => by kernel_rfl))); (case hw => w_witness2))
  k_go0
  rename_i w s₀ s₁ mg mb G Y fa o pm doc kV ho hg KX XX V GL T B TE TW w9 w8 M w7 w6 hcd script hs hlay0 hL1 hr1 hl2 w4 w3 a2 vs w1 hL ra wl r0 hI hr hcond1 hcond K0 hD h₁ F N0
  have W : Wd ⟨s₁.heap, s₁.toks⟩ (KK w) := wd_of KX T
  have hlen : script.length ≤ 63 := by omega
  obtain ⟨u, L⟩ := law_fns W script hlen
  have hlist : s₁.heap.get? a2 = some (PySem.W.listOf vs.toArray 0) := list_exact wl hL
  refine law_end (w := w) (script := script) (B := ["leads", "told", "rows", "table", "under"]) (n := 6) ?_ room_law rfl rfl rfl F rfl rfl (fun x hx => ?_) hlist hI ?_
  · refine Ex.cons (Ex1.assign (Ev.call W (Ev.global W rfl (by rfl) rfl glawleads) (by rfl) (EvL.cons (Ev.name rfl rfl) EvL.nil) L.leads) (by decide) ?_)
    refine Ex.cons (Ex1.assign (Ev.call W (Ev.global W rfl (by rfl) rfl glawtold) (by rfl) (EvL.cons (Ev.name rfl rfl) EvL.nil) L.told) (by decide) ?_)
    refine Ex.cons (Ex1.assign (Ev.call W (Ev.global W rfl (by rfl) rfl glaworders) (by rfl) (EvL.cons (Ev.name rfl rfl) EvL.nil) L.orders) (by decide) ?_)
    refine Ex.cons (Ex1.assign (Ev.call W (Ev.global W rfl (by rfl) rfl glawhands) (by rfl) (EvL.cons (Ev.name rfl rfl) (EvL.cons (Ev.name rfl rfl) EvL.nil)) L.hands) (by decide) ?_)
    refine Ex.cons (Ex1.assign (Ev.call W (Ev.global W rfl (by rfl) rfl glawunder) (by rfl) (EvL.cons (Ev.name rfl rfl) EvL.nil) L.under) (by decide) ?_)
    refine Ex.cons (Ex1.ret (Ev.and (b := true) (c := true) (Ev.call W (Ev.global W rfl (by rfl) rfl glawstruck) (by rfl) (EvL.cons (Ev.name rfl rfl) (EvL.cons (Ev.call W (Ev.global W rfl (by rfl) rfl glaworders) (by rfl) (EvL.cons (Ev.name rfl rfl) EvL.nil) L.orders) EvL.nil)) L.struck)
      fun _ => Ev.call W (Ev.global W rfl (by rfl) rfl glawcounted) (by rfl) (EvL.cons (Ev.name rfl rfl) (EvL.cons (Ev.callB (Ev.builtin W rfl (by rfl) rfl rfl nlen blen) (EvL.cons (Ev.name rfl rfl) EvL.nil) ?_) (EvL.cons (Ev.name rfl rfl) EvL.nil))) L.counted) rfl)
    have := L.few
    have h2 := GivL.len_list (prog := PG) (w := w) (hB := ⟨s₁.heap, s₁.toks⟩) (n := 6) (ds := (itR u 4 [[]]).map .str) (by rw [List.length_map, sizeLine_eq]; omega)
    rwa [List.length_map] at h2
  · simp only [List.mem_cons, List.not_mem_nil, or_false] at hx
    rcases hx with rfl | rfl | rfl | rfl | rfl <;> rfl
  · intro s' hg' hos' hk'
    refine ⟨.inl ⟨.bool true, .bool true, [], rfl, ?_, .bool true, ?_, ?_⟩, hk', hos', hg'.trans hg⟩
    · intro cls; rfl
    · kernel_rfl
    · intro _; exact ⟨.nil, fun _ h => nomatch h⟩

theorem PySem.Challenge.cw_wj0079_01_holds : PySem.Challenge.rw_wj0079_01.Holds := by
  exact Mine.law_holds

import PyProof.Rows.All
import Wide.All
import OpenK.AllK
import Wide.FinOn
import Lean
import PySem.Challenge.RW_sc0013_01
open PySem PySem.W PyProof.Rows
set_option Elab.async false
set_option linter.unusedVariables false
set_option linter.unusedSimpArgs false
set_option linter.unnecessarySimpa false
section
open PySem.Calls PySem.Spec PySem.SeqAt
namespace Mine

noncomputable abbrev P : Program := PySem.Challenge.pw_sc0013_01

noncomputable def Kp (N : Nat) (h h' : Heap) : Prop :=
  ∀ b o, h.get? b = some o → h'.get? b = some o ∨ (N ≤ b ∧ o.cls = .type "frame" ∧ ∃ sl, h'.get? b = some { o with slots := sl })

namespace Kp
variable {N : Nat} {h h' h'' : Heap}
theorem refl (N : Nat) (h : Heap) : Kp N h h := fun _ _ e => .inl e
theorem of_keeps (k : ∀ b o, h.get? b = some o → h'.get? b = some o) : Kp N h h' := fun b o e => .inl (k b o e)
theorem trans (x : Kp N h h') (y : Kp N h' h'') : Kp N h h'' := fun b o e => by
  rcases x b o e with e1 | ⟨hb, hc, sl, e1⟩
  · exact y b o e1
  · rcases y b _ e1 with e2 | ⟨_, _, sl2, e2⟩
    · exact .inr ⟨hb, hc, sl, e2⟩
    · exact .inr ⟨hb, hc, sl2, e2⟩
theorem get (x : Kp N h h') {b : Addr} {o : Obj} (e : h.get? b = some o) (hc : o.cls ≠ .type "frame") : h'.get? b = some o := by
  rcases x b o e with e1 | ⟨_, h1, _⟩
  · exact e1
  · exact absurd h1 hc
theorem low (x : Kp N h h') {b : Addr} {o : Obj} (e : h.get? b = some o) (hb : b < N) : h'.get? b = some o := by
  rcases x b o e with e1 | ⟨h1, _⟩
  · exact e1
  · exact absurd hb (Nat.not_lt.mpr h1)
theorem data (x : Kp N h h') {b : Addr} {o : Obj} (e : h.get? b = some o) : ∃ sl, h'.get? b = some { o with slots := sl } := by
  rcases x b o e with e1 | ⟨_, _, sl, e1⟩
  · exact ⟨o.slots, e1⟩
  · exact ⟨sl, e1⟩
theorem there (x : Kp N h h') {b : Addr} {o : Obj} (e : h.get? b = some o) : ∃ o', h'.get? b = some o' := let ⟨_, e'⟩ := x.data e; ⟨_, e'⟩
theorem ns (x : Kp N h h') {a : Addr} {m} (hn : h.Ns a m) : h'.Ns a m := by
  obtain ⟨o, es, ep, ho, r⟩ := hn
  obtain ⟨sl, e⟩ := x.data ho
  exact ⟨_, es, ep, e, r⟩
theorem isCell (x : Kp N h h') {a : Addr} {v} (hn : h.IsCell a v) : h'.IsCell a v := by
  obtain ⟨o, ho, r⟩ := hn
  obtain ⟨sl, e⟩ := x.data ho
  exact ⟨_, e, r⟩
theorem isList (x : Kp N h h') {a : Addr} {v} (hn : h.IsList a v) : h'.IsList a v := by
  obtain ⟨o, ho, hc, r⟩ := hn
  exact ⟨o, x.get ho (by rw [hc]; decide), hc, r⟩
theorem push (h : Heap) (o : Obj) : Kp N h (h.push o) := of_keeps fun _ _ e => Heap.get?_push_of_some o e
theorem funFrames {base : Heap} (x : Kp N h h') {l : List Env} (f : h.FunFrames base l) : h'.FunFrames base l :=
  f.of_keeps fun b o e _ => let ⟨_, e'⟩ := x.data e; ⟨_, e', rfl⟩
theorem stays {h₀ : Heap} (x : Kp h₀.objs.size h h') (k : h₀.StaysIn h) : h₀.StaysIn h' := fun b o e => x.low (k b o e) (Heap.lt_size e)
end Kp

structure KpX (X : List Addr) (N : Nat) (h h' : Heap) : Prop where
  keep : ∀ b o, b ∉ X → h.get? b = some o → h'.get? b = some o ∨ (N ≤ b ∧ o.cls = .type "frame" ∧ ∃ sl, h'.get? b = some { o with slots := sl })
  live : ∀ b ∈ X, ∀ o, h.get? b = some o → ∃ o', h'.get? b = some o' ∧ ((∃ vs, o'.data = .fields vs) → ∃ vs, o.data = .fields vs) ∧ o'.cls = o.cls

mutual
inductive Rd (O : List Addr) (h : Heap) : Value → PyData → Prop
  | none : Rd O h .none .none
  | bool (b) : Rd O h (.bool b) (.bool b)
  | int (i t) : Rd O h (.int i t) (.int i)
  | list {a vs n xs} : a ∉ O → h.get? a = some { cls := .type "list", data := .seq vs n } → RdL O h vs.toList xs → Rd O h (.ref a) (.list xs)
  | tuple {a o vs n xs} : a ∉ O → h.get? a = some o → o.cls = .type "tuple" → o.data = .seq vs n → RdL O h vs.toList xs → Rd O h (.ref a) (.tuple xs)
inductive RdL (O : List Addr) (h : Heap) : List Value → List PyData → Prop
  | nil : RdL O h [] []
  | cons {v vs d ds} : Rd O h v d → RdL O h vs ds → RdL O h (v :: vs) (d :: ds)
end
noncomputable abbrev RdAll (O : List Addr) (h : Heap) : List Value → List PyData → Prop := Paired (Rd O h)
theorem rdAll_of {O : List Addr} {h : Heap} {vs ds} (r : RdL O h vs ds) : RdAll O h vs ds :=
  RdL.rec (motive_1 := fun _ _ _ => True) (motive_2 := fun vs ds _ => RdAll O h vs ds) trivial (fun _ => trivial) (fun _ _ => trivial) (fun _ _ _ _ => trivial) (fun _ _ _ _ _ _ => trivial) .nil (fun a _ _ ih => .cons a ih) r
theorem rdL_of {O : List Addr} {h : Heap} {vs ds} (r : RdAll O h vs ds) : RdL O h vs ds := by
  induction r with
  | nil => exact .nil
  | cons a _ ih => exact .cons a ih
theorem rd_map {O O' : List Addr} {h h' : Heap} (hk : ∀ b o, h.get? b = some o → b ∉ O → o.cls ≠ .type "frame" → h'.get? b = some o) (hO : ∀ b, b ∉ O → (∃ o, h.get? b = some o) → b ∉ O') {v d} (r : Rd O h v d) : Rd O' h' v d :=
  Rd.rec (motive_1 := fun v d _ => Rd O' h' v d) (motive_2 := fun vs ds _ => RdL O' h' vs ds) .none .bool .int (fun h0 h1 _ ih => .list (hO _ h0 ⟨_, h1⟩) (hk _ _ h1 h0 (by simp)) ih)
    (fun h0 h1 h2 h3 _ ih => .tuple (hO _ h0 ⟨_, h1⟩) (hk _ _ h1 h0 (by rw [h2]; decide)) h2 h3 ih) .nil (fun _ _ a b => .cons a b) r
theorem rd_reads {O : List Addr} {h : Heap} {v d} (r : Rd O h v d) : ∃ as, Reads h v d as :=
  Rd.rec (motive_1 := fun v d _ => ∃ as, Reads h v d as) (motive_2 := fun vs ds _ => ∃ as, ReadsAll h vs ds as) ⟨_, .none⟩ (fun b => ⟨_, .bool b⟩) (fun i t => ⟨_, .int i t⟩) (fun _ h1 _ ih => ih.elim fun _ r => ⟨_, .list h1 rfl rfl r⟩)
    (fun _ h1 h2 h3 _ ih => ih.elim fun _ r => ⟨_, .tuple h1 h2 h3 r⟩) ⟨_, .nil⟩ (fun _ _ a b => a.elim fun _ x => b.elim fun _ y => ⟨_, .cons x y⟩) r

section
variable {O O' X : List Addr} {h h' h'' : Heap} {N : Nat}
theorem KpX.aliveC (x : KpX X N h h') {b : Addr} {o} (e : h.get? b = some o) : ∃ o', h'.get? b = some o' ∧ ((∃ vs, o'.data = .fields vs) → ∃ vs, o.data = .fields vs) ∧ o'.cls = o.cls := by
  by_cases hb : b ∈ X
  · exact x.live b hb o e
  · rcases x.keep b o hb e with e1 | ⟨_, _, sl, e1⟩
    · exact ⟨_, e1, fun q => q, rfl⟩
    · exact ⟨_, e1, fun q => q, rfl⟩
theorem KpX.alive (x : KpX X N h h') {b : Addr} {o} (e : h.get? b = some o) : ∃ o', h'.get? b = some o' ∧ ((∃ vs, o'.data = .fields vs) → ∃ vs, o.data = .fields vs) :=
  let ⟨o', e', q, _⟩ := x.aliveC e; ⟨o', e', q⟩
theorem KpX.there (x : KpX X N h h') {b : Addr} (e : ∃ o, h.get? b = some o) : ∃ o', h'.get? b = some o' := let ⟨_, e⟩ := e; let ⟨o', e', _⟩ := x.alive e; ⟨o', e'⟩
theorem KpX.refl : KpX X N h h := ⟨fun _ _ _ e => .inl e, fun _ _ o e => ⟨o, e, fun q => q, rfl⟩⟩
theorem KpX.trans (x : KpX X N h h') (y : KpX X N h' h'') : KpX X N h h'' := ⟨fun b o hb e => by
  rcases x.keep b o hb e with e1 | ⟨hb', hc, sl, e1⟩
  · exact y.keep b o hb e1
  · rcases y.keep b _ hb e1 with e2 | ⟨_, _, sl2, e2⟩
    · exact .inr ⟨hb', hc, sl, e2⟩
    · exact .inr ⟨hb', hc, sl2, e2⟩, fun b _ o e => let ⟨o', e', q, c⟩ := x.aliveC e; let ⟨o'', e'', q', c'⟩ := y.aliveC e'; ⟨o'', e'', fun z => q (q' z), c'.trans c⟩⟩
theorem KpX.mono {X' : List Addr} (x : KpX X N h h') (hs : ∀ a ∈ X, a ∈ X' ∨ h.get? a = Option.none) : KpX X' N h h' := ⟨fun b o hb e =>
  x.keep b o (fun q => (hs b q).elim hb fun q => by rw [q] at e; cases e) e, fun b _ o e => x.aliveC e⟩
theorem Kp.x (x : Kp N h h') : KpX X N h h' := ⟨fun b o _ e => x b o e, fun b _ o e => let ⟨_, e'⟩ := x.data e; ⟨_, e', fun q => q, rfl⟩⟩
theorem KpX.kp (x : KpX X N h h') (hs : ∀ a ∈ X, h.get? a = Option.none) : Kp N h h' := fun b o e => x.keep b o (fun q => by rw [hs b q] at e; cases e) e
theorem KpX.of_sameBut {a : Addr} (x : Heap.SameBut a h h') (ha : a ∈ X) (hl : ∃ o, h'.get? a = some o ∧ ((∃ vs, o.data = .fields vs) → ∃ o, h.get? a = some o ∧ ∃ vs, o.data = .fields vs) ∧ ∀ o₀, h.get? a = some o₀ → o.cls = o₀.cls) : KpX X N h h' := ⟨fun b o hb e => .inl (x.extBut b o (fun q => hb (q ▸ ha)) e), fun b _ o e => by
  by_cases hb : b = a
  · subst hb
    obtain ⟨o', e', q, qc⟩ := hl
    refine ⟨o', e', fun z => ?_, qc _ e⟩
    obtain ⟨o'', e'', z⟩ := q z
    rw [e] at e''; cases e''
    exact z
  · exact ⟨o, x.extBut b o hb e, fun q => q, rfl⟩⟩
theorem KpX.of_but (x : ∀ b o, b ∉ X → h.get? b = some o → h'.get? b = some o) (hl : ∀ b ∈ X, ∀ o, h.get? b = some o → ∃ o', h'.get? b = some o' ∧ ((∃ vs, o'.data = .fields vs) → ∃ vs, o.data = .fields vs) ∧ o'.cls = o.cls) : KpX X N h h' := ⟨fun b o hb e => .inl (x b o hb e), hl⟩
theorem KpX.get (x : KpX X N h h') {b : Addr} {o : Obj} (hb : b ∉ X) (e : h.get? b = some o) (hc : o.cls ≠ .type "frame") : h'.get? b = some o := by
  rcases x.keep b o hb e with e1 | ⟨_, h1, _⟩
  · exact e1
  · exact absurd h1 hc
theorem KpX.low (x : KpX X N h h') {b : Addr} {o : Obj} (hX : b ∉ X) (e : h.get? b = some o) (hb : b < N) : h'.get? b = some o := by
  rcases x.keep b o hX e with e1 | ⟨h1, _⟩
  · exact e1
  · exact absurd hb (Nat.not_lt.mpr h1)
theorem KpX.data (x : KpX X N h h') {b : Addr} {o : Obj} (hb : b ∉ X) (e : h.get? b = some o) : ∃ sl, h'.get? b = some { o with slots := sl } := by
  rcases x.keep b o hb e with e1 | ⟨_, _, sl, e1⟩
  · exact ⟨o.slots, e1⟩
  · exact ⟨sl, e1⟩
theorem KpX.ns (x : KpX X N h h') {a : Addr} {m} (ha : a ∉ X) (hn : h.Ns a m) : h'.Ns a m := by
  obtain ⟨o, es, ep, ho, r⟩ := hn
  obtain ⟨sl, e⟩ := x.data ha ho
  exact ⟨_, es, ep, e, r⟩
theorem KpX.isCell (x : KpX X N h h') {a : Addr} {v} (ha : a ∉ X) (hn : h.IsCell a v) : h'.IsCell a v := by
  obtain ⟨o, ho, r⟩ := hn
  obtain ⟨sl, e⟩ := x.data ha ho
  exact ⟨_, e, r⟩
theorem KpX.isList (x : KpX X N h h') {a : Addr} {v} (ha : a ∉ X) (hn : h.IsList a v) : h'.IsList a v := by
  obtain ⟨o, ho, hc, r⟩ := hn
  exact ⟨o, x.get ha ho (by rw [hc]; decide), hc, r⟩
theorem KpX.plain (x : KpX X N h h') {a : Addr} {v} (ha : a ∉ X) (hn : h.PlainList a v) : h'.PlainList a v := let ⟨n, e⟩ := hn; ⟨n, x.get ha e (by simp)⟩
theorem Kp.plain (x : Kp N h h') {a : Addr} {v} (hn : h.PlainList a v) : h'.PlainList a v := let ⟨n, e⟩ := hn; ⟨n, x.get e (by simp)⟩
theorem Rd.kpx {v d} (r : Rd O h v d) (k : KpX X N h h') (hX : ∀ a ∈ X, a ∈ O) : Rd O h' v d :=
  rd_map (fun b o e hb hc => k.get (fun q => hb (hX b q)) e hc) (fun _ q _ => q) r
theorem rd_bool (b : Bool) : Rd O h (.bool b) (.bool b) := .bool b
theorem rd_int (i : Int) (t : Tok) : Rd O h (.int i t) (.int i) := .int i t
theorem Rd.kp {v d} (r : Rd O h v d) (k : Kp N h h') : Rd O h' v d := rd_map (fun _ _ e _ hc => k.get e hc) (fun _ q _ => q) r
theorem RdAll.kp {vs ds} (r : RdAll O h vs ds) (k : Kp N h h') : RdAll O h' vs ds := r.mono fun _ _ x => x.kp k
theorem RdAll.kpx {vs ds} (r : RdAll O h vs ds) (k : KpX X N h h') (hX : ∀ a ∈ X, a ∈ O) : RdAll O h' vs ds := r.mono fun _ _ x => x.kpx k hX
theorem Rd.sub {v d} (r : Rd O h v d) (hs : ∀ a ∈ O', a ∈ O) : Rd O' h v d := rd_map (fun _ _ e _ _ => e) (fun b hb _ q => hb (hs b q)) r
theorem Rd.more {v d} (r : Rd O h v d) (hs : ∀ a ∈ O', a ∈ O ∨ h.get? a = Option.none) : Rd O' h v d :=
  rd_map (fun _ _ e _ _ => e) (fun b hb ⟨o, e⟩ q => (hs b q).elim hb fun q => by rw [q] at e; cases e) r
theorem RdAll.more {vs ds} (r : RdAll O h vs ds) (hs : ∀ a ∈ O', a ∈ O ∨ h.get? a = Option.none) : RdAll O' h vs ds := r.mono fun _ _ x => x.more hs
theorem Rd.bool_inv {v b} (r : Rd O h v (.bool b)) : v = .bool b := by cases r; rfl
theorem Rd.int_inv {v i} (r : Rd O h v (.int i)) : ∃ t, v = .int i t := by cases r; exact ⟨_, rfl⟩
theorem Rd.list_inv {v ds} (r : Rd O h v (.list ds)) : ∃ a vs, v = .ref a ∧ a ∉ O ∧ h.PlainList a vs ∧ RdAll O h vs.toList ds := by
  cases r with
  | list h0 h1 h4 => exact ⟨_, _, rfl, h0, ⟨_, h1⟩, rdAll_of h4⟩
theorem Rd.tuple_inv {v ds} (r : Rd O h v (.tuple ds)) : ∃ a vs, v = .ref a ∧ a ∉ O ∧ h.IsTuple a vs ∧ RdAll O h vs.toList ds := by
  cases r with
  | tuple h0 h1 h2 h3 h4 => exact ⟨_, _, rfl, h0, ⟨_, h1, h2, _, h3⟩, rdAll_of h4⟩
theorem rd_list {a : Addr} {vs ds} (hl : h.PlainList a vs) (ha : a ∉ O) (r : RdAll O h vs.toList ds) : Rd O h (.ref a) (.list ds) := by
  obtain ⟨n, ho⟩ := hl
  exact .list ha ho (rdL_of r)
theorem rd_tuple {a : Addr} {vs ds} (hl : h.IsTuple a vs) (ha : a ∉ O) (r : RdAll O h vs.toList ds) : Rd O h (.ref a) (.tuple ds) := by
  obtain ⟨o, ho, hc, n, hd⟩ := hl
  exact .tuple ha ho hc hd (rdL_of r)
end

theorem Paired.get {α β : Type} {F : α → β → Prop} {l₁ : List α} {l₂ : List β} (h : Paired F l₁ l₂) : ∀ {i : Nat} {b : β}, l₂[i]? = some b → ∃ a, l₁[i]? = some a ∧ F a b := by
  induction h with
  | nil => intro i b e; cases e
  | cons h _ ih =>
    intro i b e
    cases i with
    | zero => cases e; exact ⟨_, rfl, h⟩
    | succ i => exact ih (i := i) e
theorem Paired.get' {α β : Type} {F : α → β → Prop} {l₁ : List α} {l₂ : List β} (h : Paired F l₁ l₂) : ∀ {i : Nat} {a : α}, l₁[i]? = some a → ∃ b, l₂[i]? = some b ∧ F a b := by
  induction h with
  | nil => intro i b e; cases e
  | cons h _ ih =>
    intro i b e
    cases i with
    | zero => cases e; exact ⟨_, rfl, h⟩
    | succ i => exact ih (i := i) e
theorem Paired.append {α β : Type} {F : α → β → Prop} {l₁ : List α} {l₂ : List β} {k₁ : List α} {k₂ : List β} (h : Paired F l₁ l₂) (k : Paired F k₁ k₂) : Paired F (l₁ ++ k₁) (l₂ ++ k₂) := by
  induction h with
  | nil => exact k
  | cons h _ ih => exact .cons h ih
theorem Paired.take {α β : Type} {F : α → β → Prop} {l₁ : List α} {l₂ : List β} (h : Paired F l₁ l₂) : ∀ n, Paired F (l₁.take n) (l₂.take n) := by
  induction h with
  | nil => intro n; cases n <;> exact .nil
  | cons h _ ih =>
    intro n
    cases n with
    | zero => exact .nil
    | succ n => exact .cons h (ih n)
theorem Paired.drop {α β : Type} {F : α → β → Prop} {l₁ : List α} {l₂ : List β} (h : Paired F l₁ l₂) : ∀ n, Paired F (l₁.drop n) (l₂.drop n) := by
  induction h with
  | nil => intro n; cases n <;> exact .nil
  | cons h t ih =>
    intro n
    cases n with
    | zero => exact .cons h t
    | succ n => exact ih n

noncomputable def KindR (k : NameKind) (k' : Option NameKind) : Prop := k' = some k ∨ (k = .free ∧ k' = some .cell)

noncomputable def Bound (h : Heap) (env : Env) (sc : Scope) (x : Str) (v : Value) : Prop :=
  (sc.names.lookup x = some .local ∧ ∃ m, h.Ns env.locals m ∧ m x = some v) ∨
  ((sc.names.lookup x = some .cell ∨ sc.names.lookup x = some .free) ∧ ∃ c, env.cells.lookup x = some c ∧ h.IsCell c (some v))

structure EnvR (O : List Addr) (h : Heap) (env : Env) (sc : Scope) (δ : Str → Option PyData) : Prop where
  kind : env.scope.kind = .function
  glb : env.globals = mainGlobals
  bi : env.builtins = builtinsNs
  kinds : ∀ x k, sc.names.lookup x = some k → KindR k (env.kindOf x)
  val : ∀ x d, δ x = some d → ∃ v, Rd O h v d ∧ Bound h env sc x v
  low : ∀ a ∈ O, ∃ o, h.get? a = some o
  apart : ∀ x y c, env.cells.lookup x = some c → env.cells.lookup y = some c → x = y
  cells : ∀ x, sc.names.lookup x = some .cell ∨ sc.names.lookup x = some .free → ∃ c, env.cells.lookup x = some c
  loc : ∃ m, h.Ns env.locals m
  cel : ∀ x c, env.cells.lookup x = some c → ∃ v, h.IsCell c v

theorem Bound.kp {N h h' env sc x v} (b : Bound h env sc x v) (k : Kp N h h') : Bound h' env sc x v := by
  rcases b with ⟨h1, m, hn, hm⟩ | ⟨h1, c, hc, hv⟩
  · exact .inl ⟨h1, m, k.ns hn, hm⟩
  · exact .inr ⟨h1, c, hc, k.isCell hv⟩
theorem EnvR.kp {N O h h' env sc δ} (r : EnvR O h env sc δ) (k : Kp N h h') : EnvR O h' env sc δ :=
  ⟨r.kind, r.glb, r.bi, r.kinds, fun x d e => let ⟨v, h1, h2⟩ := r.val x d e; ⟨v, h1.kp k, h2.kp k⟩, fun a ha => let ⟨_, e⟩ := r.low a ha; k.there e, r.apart, r.cells, let ⟨m, e⟩ := r.loc; ⟨m, k.ns e⟩, fun x c e => let ⟨v, hv⟩ := r.cel x c e; ⟨v, k.isCell hv⟩⟩

noncomputable def Off (X : List Addr) (env : Env) : Prop := ∀ a ∈ X, a ≠ env.locals ∧ ∀ x c, env.cells.lookup x = some c → a ≠ c
theorem EnvR.kpx {N O X h h' env sc δ} (r : EnvR O h env sc δ) (k : KpX X N h h') (hX : ∀ a ∈ X, a ∈ O) (hf : Off X env) : EnvR O h' env sc δ := by
  have hl : env.locals ∉ X := fun q => (hf _ q).1 rfl
  have hc : ∀ x c, env.cells.lookup x = some c → c ∉ X := fun x c e q => (hf _ q).2 x c e rfl
  refine ⟨r.kind, r.glb, r.bi, r.kinds, fun x d e => ?_, fun a ha => k.there (r.low a ha), r.apart, r.cells, let ⟨m, e⟩ := r.loc; ⟨m, k.ns hl e⟩, fun x c e => let ⟨v, hv⟩ := r.cel x c e; ⟨v, k.isCell (hc x c e) hv⟩⟩
  obtain ⟨v, h1, h2⟩ := r.val x d e
  refine ⟨v, h1.kpx k hX, ?_⟩
  rcases h2 with ⟨h1, m, hn, hm⟩ | ⟨h1, c, hc', hv⟩
  · exact .inl ⟨h1, m, k.ns hl hn, hm⟩
  · exact .inr ⟨h1, c, hc', k.isCell (hc x c hc') hv⟩
theorem EnvR.off_fresh {O X h env sc δ} (r : EnvR O h env sc δ) (hX : ∀ a ∈ X, h.get? a = none) : Off X env := fun a ha => by
  refine ⟨fun q => ?_, fun x c e q => ?_⟩
  · obtain ⟨m, o, _, _, ho, _⟩ := r.loc
    rw [← q, hX a ha] at ho; cases ho
  · obtain ⟨v, o, ho, _⟩ := r.cel x c e
    rw [← q, hX a ha] at ho; cases ho
theorem EnvR.more {O O' h env sc δ} (r : EnvR O h env sc δ) (hs : ∀ a ∈ O', a ∈ O ∨ h.get? a = none) {N h'} (k : Kp N h h') (hl : ∀ a ∈ O', ∃ o, h'.get? a = some o) : EnvR O' h' env sc δ :=
  let r' := r.kp k
  ⟨r.kind, r.glb, r.bi, r.kinds, fun x d e => let ⟨v, h1, h2⟩ := r.val x d e; ⟨v, (h1.more hs).kp k, h2.kp k⟩, hl, r.apart, r.cells, r'.loc, r'.cel⟩
theorem EnvR.less {O O' h env sc δ} (r : EnvR O h env sc δ) (hs : ∀ a ∈ O', a ∈ O) : EnvR O' h env sc δ :=
  ⟨r.kind, r.glb, r.bi, r.kinds, fun x d e => let ⟨v, h1, h2⟩ := r.val x d e; ⟨v, h1.sub hs, h2⟩, fun a ha => r.low a (hs a ha), r.apart, r.cells, r.loc, r.cel⟩
theorem EnvR.forget {O h env sc δ δ'} (r : EnvR O h env sc δ) (hs : ∀ x d, δ' x = some d → δ x = some d) : EnvR O h env sc δ' :=
  ⟨r.kind, r.glb, r.bi, r.kinds, fun x d e => r.val x d (hs x d e), r.low, r.apart, r.cells, r.loc, r.cel⟩

noncomputable def TopF (h₀ : Heap) (A : Around) (h : Heap) : Prop := (∀ fs, A.frames = some fs → ∀ L ∈ fs.filterMap (·.frame), L = h₀.objs.size) ∧ ∃ o, h.get? h₀.objs.size = some o ∧ o.cls = .type "frame"
structure Ok (h₀ : Heap) (k : Nat) (A : Around) (h : Heap) : Prop where
  hh : A.handled = none
  depth : A.depth + k ≤ 400
  units : A.units + 100 * k ≤ 9000
  frames : ∃ fs, A.frames = some fs ∧ h.FunFrames h₀ fs
  stays : h₀.StaysIn h
  lvl : k ≤ 50
  top : k = 50 → TopF h₀ A h
theorem Ok.kp {h₀ k A h h'} (o : Ok h₀ k A h) (x : Kp h₀.objs.size h h') : Ok h₀ k A h' := ⟨o.hh, o.depth, o.units, let ⟨fs, e, f⟩ := o.frames; ⟨fs, e, x.funFrames f⟩, x.stays o.stays, o.lvl, fun q => let ⟨t1, ob, t2, t3⟩ := o.top q; ⟨t1, let ⟨sl, e⟩ := x.data t2; ⟨_, e, t3⟩⟩⟩
theorem Ok.kpx {h₀ k A h h' X} (o : Ok h₀ k A h) (x : KpX X h₀.objs.size h h') (hX : ∀ a ∈ X, h₀.get? a = none) : Ok h₀ k A h' :=
  ⟨o.hh, o.depth, o.units, let ⟨fs, e, f⟩ := o.frames; ⟨fs, e, ffs fs f⟩, fun b ob e => x.low (fun q => by rw [hX b q] at e; cases e) (o.stays b ob e) (Heap.lt_size e), o.lvl, fun q => let ⟨t1, ob, t2, t3⟩ := o.top q; ⟨t1, let ⟨o', e, _, c⟩ := x.aliveC t2; ⟨o', e, c.trans t3⟩⟩⟩
where
  ffs : ∀ fs, h.FunFrames h₀ fs → h'.FunFrames h₀ fs
    | [], f => trivial
    | env :: r, ⟨f1, ⟨L, ob, g1, g2, g3, g4⟩, f2⟩ =>
      let ⟨o', e', q⟩ := x.alive g3
      ⟨f1, ⟨L, o', g1, g2, e', fun vs hvs => let ⟨vs', e⟩ := q ⟨vs, hvs⟩; g4 vs' e⟩, ffs r f2⟩

noncomputable def EvE (w : World) (h₀ : Heap) (k : Nat) (sc : Scope) (δ : Str → Option PyData) (e : Expr) (d : PyData) : Prop :=
  ∀ (O : List Addr) (env : Env) (A : Around) (s : Shared) (Q : Value → Shared → Prop) (E : Value → Shared → Prop), Ok h₀ k A s.heap → EnvR O s.heap env sc δ →
    (∀ v h tk, Rd O h v d → Kp h₀.objs.size s.heap h → Q v { s with heap := h, toks := tk }) → wpAny (model P w) A (eval e env) Q E s
noncomputable def TrE (w : World) (h₀ : Heap) (k : Nat) (sc : Scope) (δ : Str → Option PyData) (e : Expr) (b : Bool) : Prop :=
  ∀ (O : List Addr) (env : Env) (A : Around) (s : Shared) (Q : Bool → Shared → Prop) (E : Value → Shared → Prop), Ok h₀ k A s.heap → EnvR O s.heap env sc δ →
    (∀ h tk, Kp h₀.objs.size s.heap h → Q b { s with heap := h, toks := tk }) → wpAny (model P w) A (isTrue e env (eval e env)) Q E s
theorem Ok.dead {h₀ k A h} (o : Ok h₀ k A h) {a : Addr} (e : h.get? a = none) : h₀.get? a = none := by
  cases e' : h₀.get? a with
  | none => rfl
  | some ob => rw [o.stays a ob e'] at e; cases e
theorem dead_size (h : Heap) {a : Addr} (ha : h.objs.size ≤ a) : h.get? a = none := by
  cases e : h.get? a with
  | none => rfl
  | some ob => exact absurd (Heap.lt_size e) (Nat.not_lt.mpr ha)
end Mine
end
section
open PySem.Calls PySem.Spec PySem.SeqAt
namespace Mine
noncomputable def ClsIs (h : Heap) (a : Addr) (c : Value) : Prop := ∃ o, h.get? a = some o ∧ o.cls = c
noncomputable abbrev frm : Value := .type "frame"
inductive KC {α : Type} : Sem α → Prop
  | pure (a : α) : KC (.pure a)
  | no (x : String) : KC (.unsupported x)
  | load {a p k} : (∀ o, KC (k o)) → KC (.load a p k)
  | update {a p f k} : (∀ o : Obj, (f o).cls = o.cls ∧ (o.isFreed = false → (f o).isFreed = false)) → (∀ u, KC (k u)) → KC (.update a p f k)
  | alloc {o k} : (∀ a, KC (k a)) → KC (.alloc o k)
  | fresh {k} : (∀ t, KC (k t)) → KC (.fresh k)
  | ask {k} : (∀ x, KC (k x)) → KC (.ask k)
namespace KC
variable {α β : Type}
theorem bind {m : Sem α} {f : α → Sem β} (h : KC m) (hf : ∀ a, KC (f a)) : KC (m >>= f) := by
  show KC (m.bind f)
  induction h with
  | pure a => exact hf a
  | no x => exact .no x
  | load _ ih => exact .load ih
  | update h _ ih => exact .update h ih
  | alloc _ ih => exact .alloc ih
  | fresh _ ih => exact .fresh ih
  | ask _ ih => exact .ask ih
theorem each {γ : Type} {f : γ → β → Sem (ForInStep β)} : ∀ {l : List γ} {b : β}, (∀ x ∈ l, ∀ b, KC (f x b)) → KC (forIn l b f)
  | [], b, _ => by rw [List.forIn_nil]; exact .pure b
  | x :: l, b, h => by
    rw [List.forIn_cons]
    refine (h x (.head _) b).bind fun r => ?_
    cases r with
    | done b => exact .pure b
    | yield b => exact each fun y hy => h y (.tail _ hy)
theorem keeps {M : Model} {Γ : PySem.Ctx} {t : Sem α} (h : KC t) {b : Addr} {c : Value} {Q : α → Pos → Shared → Prop} {E : Value → Pos → Shared → Prop} :
    ∀ {p s}, ClsIs s.heap b c → Sem.wp M Γ t Q E p s → Sem.wp M Γ t (fun a p' s' => Q a p' s' ∧ ClsIs s'.heap b c) E p s := by
  induction h with
  | pure a => exact fun hc q => ⟨q, hc⟩
  | no x => exact fun _ q => q
  | load _ ih => exact fun hc ⟨o, ho, q⟩ => ⟨o, ho, ih o hc q⟩
  | @update a _ f _ hf _ ih =>
    refine fun {p s} ⟨o, e, hc⟩ ⟨ha, q⟩ => ⟨ha, ih () ?_ q⟩
    by_cases hab : a = b
    · subst hab
      exact ⟨_, Heap.get?_update_self f e ((hf o).2 (Heap.get?_some_iff.mp e).2), (hf o).1.trans hc⟩
    · exact ⟨o, (Heap.get?_update_other _ f hab).trans e, hc⟩
  | alloc _ ih => exact fun ⟨o, e, hc⟩ q => ih _ ⟨o, Heap.get?_push_of_some _ e, hc⟩ q
  | fresh _ ih => exact fun hc q => ih _ hc q
  | ask _ ih => exact fun hc q => ih _ hc q
theorem first {M : Model} {A : Around} {s : Shared} {o : Obj} {k : Addr → Sem α} {Q : α → Shared → Prop} {E : Value → Shared → Prop} (hk : ∀ a, KC (k a)) (ho : o.isFreed = false)
    (h : wpAny M A (PySem.alloc o >>= k) Q E s) : wpAny M A (PySem.alloc o >>= k) (fun a s' => Q a s' ∧ ClsIs s'.heap s.heap.objs.size o.cls) E s :=
  fun Γ p hΓ => keeps (Q := fun a _ s' => Q a s') (hk s.heap.objs.size) (s := { s with heap := s.heap.push o }) ⟨o, Heap.get?_push_size _ ho, rfl⟩ (h Γ p hΓ)
theorem put (name : Str) (hh : Int) (key v : Value) (o : Obj) : (Obj.putName name hh key v o).cls = o.cls ∧ (o.isFreed = false → (Obj.putName name hh key v o).isFreed = false) := by
  rw [Obj.putName_eq]
  obtain ⟨c, d, dt, sl⟩ := o
  unfold Obj.putNameByArray
  cases dt with
  | dict es n => dsimp only; split <;> exact ⟨rfl, fun _ => rfl⟩
  | _ => exact ⟨rfl, fun h => h⟩
theorem ns (a : Addr) (name : Str) (v : Value) : KC (nsSet a name v) := by
  refine .bind (.bind (.ask fun _ => .pure _) fun _ => .pure _) fun x => .bind (.bind (.fresh fun _ => .pure _) fun _ => .pure _) fun key => .bind (.load fun _ => .pure _) fun o => ?_
  cases o.data with
  | dict es n =>
    dsimp only
    split
    · exact .bind (.no _) fun _ => .update (put name x key v) fun _ => .pure _
    · exact .update (put name x key v) fun _ => .pure _
  | _ => exact .no _
theorem store {env : Env} {n : Str} {v : Value} (hk : env.scope.kind = .function) (hl : env.kindOf n = some .local ∨ env.kindOf n = some .cell) : KC (storeName env n v) := by
  rcases hl with hl | hl
  · rw [storeName_local hl (by rw [hk]; rfl)]; exact ns _ _ _
  · unfold storeName
    simp only [hl, hk]
    refine .bind ?_ fun c => .bind (.load fun _ => .pure _) fun o => ?_
    · unfold cellOf
      cases env.cells.lookup n with
      | none => exact .no _
      | some a => exact .pure a
    · cases o.data with
      | cell _ => exact .update (fun o => ⟨rfl, fun _ => rfl⟩) fun _ => .pure _
      | _ => exact .no _
theorem any {M : Model} {A : Around} {s : Shared} {t : Sem α} {b : Addr} {c : Value} {Q : α → Shared → Prop} {E : Value → Shared → Prop} (hk : KC t) (hc : ClsIs s.heap b c) (h : wpAny M A t Q E s) :
    wpAny M A t (fun a s' => Q a s' ∧ ClsIs s'.heap b c) E s := fun Γ p hΓ => keeps (Q := fun a _ s' => Q a s') hk hc (h Γ p hΓ)
end KC
theorem wpAny_nsSetC {M : Model} {A : Around} {E : Value → Shared → Prop} {s : Shared} {a : Addr} {m} {name : Str} {v : Value} {c : Value} {Q : Unit → Shared → Prop} (hn : s.heap.Ns a m) (hc : ClsIs s.heap a c)
    (hQ : ∀ h', h'.Ns a (fun x => if x = name then some v else m x) → Heap.SameBut a s.heap h' → ClsIs h' a c → Q () { s with heap := h', toks := s.toks + 1 }) : wpAny M A (nsSet a name v) Q E s := by
  have known := KC.any (KC.ns a name v) hc (wpAny_nsSet (M := M) (A := A) (E := E) (name := name) (v := v) hn (Q := fun _ s' => ∃ h', s' = { s with heap := h', toks := s.toks + 1 } ∧ h'.Ns a (fun x => if x = name then some v else m x) ∧ Heap.SameBut a s.heap h') fun h' h1 h2 => ⟨h', rfl, h1, h2⟩)
  refine wpAny_mono known (fun u s' q => ?_) fun _ _ z => z
  obtain ⟨⟨h', e, h1, h2⟩, h3⟩ := q
  subst e
  exact hQ h' h1 h2 h3
end Mine
end
section
open PySem.Calls PySem.Spec PySem.SeqAt
namespace Mine

noncomputable def EvEs (w : World) (h₀ : Heap) (k : Nat) (sc : Scope) (δ : Str → Option PyData) (es : List Expr) (ds : List PyData) : Prop :=
  ∀ (pos : Pos) (O : List Addr) (env : Env) (A : Around) (s : Shared) (Q : List Value → Shared → Prop) (E : Value → Shared → Prop), Ok h₀ k A s.heap → EnvR O s.heap env sc δ →
    (∀ vs h tk, RdAll O h vs ds → Kp h₀.objs.size s.heap h → Q vs { s with heap := h, toks := tk }) → wpAny (model P w) A (spliced (backTo pos (starEach es env))) Q E s

noncomputable def CallE (w : World) (h₀ : Heap) (k : Nat) (f : Value) (ds : List PyData) (d : PyData) : Prop :=
  ∀ (O : List Addr) (A : Around) (s : Shared) (vs : List Value) (Q : Value → Shared → Prop) (E : Value → Shared → Prop), Ok h₀ k A s.heap → (∀ a ∈ O, ∃ o, s.heap.get? a = some o) → RdAll O s.heap vs ds →
    (∀ v h tk, Rd O h v d → Kp h₀.objs.size s.heap h → Q v { s with heap := h, toks := tk }) → wpAny (model P w) A (call f vs) Q E s

noncomputable def Gl (h : Heap) (x : Str) (v : Value) : Prop :=
  ∃ mg, h.Ns mainGlobals mg ∧ (mg x = some v ∨ (mg x = none ∧ ∃ mb, h.Ns builtinsNs mb ∧ mb x = some v))

section
variable {w : World} {h₀ : Heap} {k : Nat} {sc : Scope} {δ : Str → Option PyData}

theorem fresh_off {O : List Addr} {h : Heap} (low : ∀ a ∈ O, ∃ o, h.get? a = some o) : h.objs.size ∉ O := fun q => by
  obtain ⟨o, e⟩ := low _ q
  exact Nat.lt_irrefl _ (Heap.lt_size e)

theorem ev_int {i : Int} {n : Nat} {p : Pos} : EvE w h₀ k sc δ (.Constant (.int i) n p) (.int i) :=
  fun O env A s Q E ok er h => wpAny_Constant_int (h _ s.heap _ (rd_int _ _) (Kp.refl _ _))
theorem ev_bool {b : Bool} {n : Nat} {p : Pos} : EvE w h₀ k sc δ (.Constant (.bool b) n p) (.bool b) :=
  fun O env A s Q E ok er h => wpAny_Constant_bool (h _ s.heap s.toks (rd_bool _) (Kp.refl _ _))

theorem load_bound {O env A s Q E x v} (er : EnvR O s.heap env sc δ) (b : Bound s.heap env sc x v) (h : Q v s) (hc : (x == ("__classdict__" : Str)) = false) :
    wpAny (model P w) A (loadName env x) Q E s := by
  rcases b with ⟨h1, m, hn, hm⟩ | ⟨h1, c, hc', hv⟩
  · rcases er.kinds _ _ h1 with q | ⟨q, _⟩
    · exact wpAny_loadName_local er.kind q hn hm h
    · cases q
  · rcases h1 with h1 | h1
    · rcases er.kinds _ _ h1 with q | ⟨q, _⟩
      · exact wpAny_loadName_cell er.kind q hc' hv h
      · cases q
    · rcases er.kinds _ _ h1 with q | ⟨_, q⟩
      · exact wpAny_loadName_free er.kind q hc' hv h hc
      · exact wpAny_loadName_cell er.kind q hc' hv h

theorem ev_name {x : Str} {p : Pos} {d : PyData} (hx : δ x = some d) (hd : (x == ("__debug__" : Str)) = false := by decide) (hc : (x == ("__classdict__" : Str)) = false := by decide) : EvE w h₀ k sc δ (.Name x p) d := by
  intro O env A s Q E ok er h
  obtain ⟨v, r, b⟩ := er.val x d hx
  exact wpAny_Name (load_bound er b (h v s.heap s.toks r (Kp.refl _ _)) hc) hd

theorem EvE.then {e : Expr} {d : PyData} (x : EvE w h₀ k sc δ e d) {O env A s Q E} (ok : Ok h₀ k A s.heap) (er : EnvR O s.heap env sc δ)
    (h : ∀ v h' tk, Rd O h' v d → Kp h₀.objs.size s.heap h' → Ok h₀ k A h' → EnvR O h' env sc δ → Q v { s with heap := h', toks := tk }) : wpAny (model P w) A (eval e env) Q E s :=
  x O env A s Q E ok er fun v h' tk r kp => h v h' tk r kp (ok.kp kp) (er.kp kp)
theorem TrE.then {e : Expr} {b : Bool} (x : TrE w h₀ k sc δ e b) {O env A s Q E} (ok : Ok h₀ k A s.heap) (er : EnvR O s.heap env sc δ)
    (h : ∀ h' tk, Kp h₀.objs.size s.heap h' → Ok h₀ k A h' → EnvR O h' env sc δ → Q b { s with heap := h', toks := tk }) : wpAny (model P w) A (isTrue e env (eval e env)) Q E s :=
  x O env A s Q E ok er fun h' tk kp => h h' tk kp (ok.kp kp) (er.kp kp)

noncomputable def BinE (w : World) (h₀ : Heap) (k : Nat) (t : Value → Value → Sem Value) (da db d : PyData) : Prop :=
  ∀ (O : List Addr) (A : Around) (s : Shared) (a b : Value) (Q : Value → Shared → Prop) (E : Value → Shared → Prop), Ok h₀ k A s.heap → (∀ a ∈ O, ∃ o, s.heap.get? a = some o) → Rd O s.heap a da → Rd O s.heap b db →
    (∀ v h tk, Rd O h v d → Kp h₀.objs.size s.heap h → Q v { s with heap := h, toks := tk }) → wpAny (model P w) A (t a b) Q E s

theorem ev_bin {l r : Expr} {op : Operator} {p : Pos} {dl dr d : PyData} (hl : EvE w h₀ k sc δ l dl) (hr : EvE w h₀ k sc δ r dr) (hb : BinE w h₀ k (binaryOp op) dl dr d) : EvE w h₀ k sc δ (.BinOp l op r p) d := by
  intro O env A s Q E ok er h
  refine wpAny_BinOp (hl.then ok er fun a h1 t1 ra k1 ok1 er1 => ?_)
  refine hr.then (s := { s with heap := h1, toks := t1 }) ok1 er1 fun b h2 t2 rb k2 ok2 er2 => ?_
  exact hb O A { s with heap := h2, toks := t2 } a b _ _ ok2 er2.low (ra.kp k2) rb fun v h3 t3 r3 k3 => h v h3 t3 r3 ((k1.trans k2).trans k3)
theorem ev_cmp {l r : Expr} {op : CmpOp} {p : Pos} {dl dr d : PyData} (hl : EvE w h₀ k sc δ l dl) (hr : EvE w h₀ k sc δ r dr) (hb : BinE w h₀ k (compareOp op) dl dr d) (hm : behindInMarks op r = false := by with_unfolding_all rfl) :
    EvE w h₀ k sc δ (.Compare l [op] [r] p) d := by
  intro O env A s Q E ok er h
  refine wpAny_Compare1 (hl.then ok er fun a h1 t1 ra k1 ok1 er1 => ?_) hm
  refine hr.then (s := { s with heap := h1, toks := t1 }) ok1 er1 fun b h2 t2 rb k2 ok2 er2 => ?_
  exact hb O A { s with heap := h2, toks := t2 } a b _ _ ok2 er2.low (ra.kp k2) rb fun v h3 t3 r3 k3 => h v h3 t3 r3 ((k1.trans k2).trans k3)
theorem tr_cmp {l r : Expr} {op : CmpOp} {p : Pos} {dl dr : PyData} {b : Bool} (hl : EvE w h₀ k sc δ l dl) (hr : EvE w h₀ k sc δ r dr) (hb : BinE w h₀ k (compareOp op) dl dr (.bool b)) (hm : behindInMarks op r = false := by with_unfolding_all rfl) :
    TrE w h₀ k sc δ (.Compare l [op] [r] p) b := by
  intro O env A s Q E ok er h
  refine wpAny_isTrue_Compare1 (hl.then ok er fun a h1 t1 ra k1 ok1 er1 => ?_) hm
  refine hr.then (s := { s with heap := h1, toks := t1 }) ok1 er1 fun b h2 t2 rb k2 ok2 er2 => ?_
  refine hb O A { s with heap := h2, toks := t2 } a b _ _ ok2 er2.low (ra.kp k2) rb fun v h3 t3 r3 k3 => ?_
  obtain rfl := r3.bool_inv
  exact wpAny_truthy_bool (h h3 t3 ((k1.trans k2).trans k3))

theorem bin_add (a b : Int) : BinE w h₀ k (binaryOp .Add) (.int a) (.int b) (.int (a + b)) := by
  intro O A s va vb Q E ok low ra rb h
  obtain ⟨t, rfl⟩ := ra.int_inv
  obtain ⟨u, rfl⟩ := rb.int_inv
  exact PySem.P.add_int (h _ s.heap _ (rd_int _ _) (Kp.refl _ _))
theorem bin_sub (a b : Int) : BinE w h₀ k (binaryOp .Sub) (.int a) (.int b) (.int (a - b)) := by
  intro O A s va vb Q E ok low ra rb h
  obtain ⟨t, rfl⟩ := ra.int_inv
  obtain ⟨u, rfl⟩ := rb.int_inv
  exact PySem.P.sub_int (h _ s.heap _ (rd_int _ _) (Kp.refl _ _))
theorem bin_mul (a b : Int) (hm : IntMulOk a b) : BinE w h₀ k (binaryOp .Mult) (.int a) (.int b) (.int (a * b)) := by
  intro O A s va vb Q E ok low ra rb h
  obtain ⟨t, rfl⟩ := ra.int_inv
  obtain ⟨u, rfl⟩ := rb.int_inv
  exact PySem.P.mul_int (h _ s.heap _ (rd_int _ _) (Kp.refl _ _)) hm
theorem bin_div (a b : Int) (hb : b ≠ 0) (hp : Builtin.divisionGoesByPylong a b = false) : BinE w h₀ k (binaryOp .FloorDiv) (.int a) (.int b) (.int (a.fdiv b)) := by
  intro O A s va vb Q E ok low ra rb h
  obtain ⟨t, rfl⟩ := ra.int_inv
  obtain ⟨u, rfl⟩ := rb.int_inv
  exact floordiv_int hb (h _ s.heap _ (rd_int _ _) (Kp.refl _ _)) (.inl hp)
theorem bin_mod (a b : Int) (hb : b ≠ 0) : BinE w h₀ k (binaryOp .Mod) (.int a) (.int b) (.int (a.fmod b)) := by
  intro O A s va vb Q E ok low ra rb h
  obtain ⟨t, rfl⟩ := ra.int_inv
  obtain ⟨u, rfl⟩ := rb.int_inv
  exact mod_int' hb (h _ s.heap _ (rd_int _ _) (Kp.refl _ _))
theorem cmp_lt (a b : Int) : BinE w h₀ k (compareOp .Lt) (.int a) (.int b) (.bool (decide (a < b))) := by
  intro O A s va vb Q E ok low ra rb h
  obtain ⟨t, rfl⟩ := ra.int_inv
  obtain ⟨u, rfl⟩ := rb.int_inv
  exact PySem.P.lt_int (h _ s.heap s.toks (rd_bool _) (Kp.refl _ _))
theorem cmp_le (a b : Int) : BinE w h₀ k (compareOp .LtE) (.int a) (.int b) (.bool (decide (a ≤ b))) := by
  intro O A s va vb Q E ok low ra rb h
  obtain ⟨t, rfl⟩ := ra.int_inv
  obtain ⟨u, rfl⟩ := rb.int_inv
  exact PySem.P.le_int (h _ s.heap s.toks (rd_bool _) (Kp.refl _ _))
theorem cmp_gt (a b : Int) : BinE w h₀ k (compareOp .Gt) (.int a) (.int b) (.bool (decide (a > b))) := by
  intro O A s va vb Q E ok low ra rb h
  obtain ⟨t, rfl⟩ := ra.int_inv
  obtain ⟨u, rfl⟩ := rb.int_inv
  exact PySem.P.gt_int (h _ s.heap s.toks (rd_bool _) (Kp.refl _ _))
theorem cmp_eq_int (a b : Int) : BinE w h₀ k (compareOp .Eq) (.int a) (.int b) (.bool (a == b)) := by
  intro O A s va vb Q E ok low ra rb h
  obtain ⟨t, rfl⟩ := ra.int_inv
  obtain ⟨u, rfl⟩ := rb.int_inv
  exact PySem.P.eq_int (h _ s.heap s.toks (rd_bool _) (Kp.refl _ _))
theorem cmp_ne_int (a b : Int) : BinE w h₀ k (compareOp .NotEq) (.int a) (.int b) (.bool (a != b)) := by
  intro O A s va vb Q E ok low ra rb h
  obtain ⟨t, rfl⟩ := ra.int_inv
  obtain ⟨u, rfl⟩ := rb.int_inv
  exact PySem.P.ne_int (h _ s.heap s.toks (rd_bool _) (Kp.refl _ _))
theorem Ok.roomy {A : Around} {h : Heap} (ok : Ok h₀ k A h) : A.units + 64 < cLine ∧ A.units + 65 < cLine := by
  have := ok.units
  have e : cLine = 9900 := by decide +kernel
  omega
theorem cmp_eq (da db : PyData) (ha : shaped da = true) (hb : shaped db = true) : BinE w h₀ k (compareOp .Eq) da db (.bool (PyData.eqv da db)) := by
  intro O A s va vb Q E ok low ra rb h
  obtain ⟨as, ra⟩ := rd_reads ra
  obtain ⟨bs, rb⟩ := rd_reads rb
  exact compareEq_shaped ra rb ha hb ok.roomy.1 (h _ s.heap s.toks (rd_bool _) (Kp.refl _ _))
theorem cmp_ne (da db : PyData) (ha : shaped da = true) (hb : shaped db = true) : BinE w h₀ k (compareOp .NotEq) da db (.bool (!PyData.eqv da db)) := by
  intro O A s va vb Q E ok low ra rb h
  obtain ⟨as, ra⟩ := rd_reads ra
  obtain ⟨bs, rb⟩ := rd_reads rb
  exact compareNe_shaped ra rb ha hb ok.roomy.1 (h _ s.heap s.toks (rd_bool _) (Kp.refl _ _))
theorem cmp_in (d : PyData) (xs : List PyData) (hd : shaped d = true) (hx : PyData.canLayAll0 xs = true) : BinE w h₀ k (compareOp .In) d (.list xs) (.bool (xs.any fun y => PyData.eqv y d)) := by
  intro O A s va vb Q E ok low ra rb h
  obtain ⟨as, ra⟩ := rd_reads ra
  obtain ⟨bs, rb⟩ := rd_reads rb
  exact in_list_reads rb ra hx (canLay_of_shaped hd) (room_in_shaped hd ok.roomy.2) (h _ s.heap s.toks (rd_bool _) (Kp.refl _ _))
theorem cmp_notIn (d : PyData) (xs : List PyData) (hd : shaped d = true) (hx : PyData.canLayAll0 xs = true) : BinE w h₀ k (compareOp .NotIn) d (.list xs) (.bool (!xs.any fun y => PyData.eqv y d)) := by
  intro O A s va vb Q E ok low ra rb h
  obtain ⟨as, ra⟩ := rd_reads ra
  obtain ⟨bs, rb⟩ := rd_reads rb
  exact notIn_list_reads rb ra hx (canLay_of_shaped hd) (room_in_shaped hd ok.roomy.2) (h _ s.heap s.toks (rd_bool _) (Kp.refl _ _))

theorem new_list {O A s Q E} {vs : List Value} {ds : List PyData} (low : ∀ a ∈ O, ∃ o, s.heap.get? a = some o) (r : RdAll O s.heap vs ds) (hsz : ds.length ≤ sizeLine)
    (h : ∀ v h' tk, Rd O h' v (.list ds) → Kp h₀.objs.size s.heap h' → Q v { s with heap := h', toks := tk }) : wpAny (model P w) A (newList vs) Q E s := by
  refine wpAny_newObj_type (h _ _ s.toks (rd_list (vs := vs.toArray) ⟨0, Heap.get?_push_size _ rfl⟩ (fresh_off low) ?_) (Kp.push _ _)) (by show vs.toArray.size ≤ sizeLine; rw [List.size_toArray, r.length]; exact hsz)
  exact RdAll.kp (N := 0) r (Kp.push _ _)
theorem bin_addList (xs ys : List PyData) (hsz : xs.length + ys.length ≤ sizeLine) : BinE w h₀ k (binaryOp .Add) (.list xs) (.list ys) (.list (xs ++ ys)) := by
  intro O A s va vb Q E ok low ra rb h
  obtain ⟨l, vs, rfl, hlO, hl, rl⟩ := ra.list_inv
  obtain ⟨b, ws, rfl, hbO, hb, rb⟩ := rb.list_inv
  have e1 := rl.length
  have e2 := rb.length
  obtain ⟨n, ho⟩ := id hl
  obtain ⟨n2, ho2⟩ := id hb
  refine concat_meets ⟨_, ho, rfl⟩ ⟨_, ho2, rfl⟩ noFill_list_add seq_list_add PySem.F.slot_list_add PySem.F.entry_list_add (PySem.F.args_list_add_2 _ _) (list_addW l b vs ws n n2 none none #[] #[] (by simp at e1 e2; omega)) ⟨ho, ho2, ?_⟩
  refine h _ _ s.toks (rd_list (vs := vs ++ ws) ⟨0, Heap.get?_push_size _ rfl⟩ (fresh_off low) ?_) (Kp.push _ _)
  have := Paired.append rl rb
  rw [Array.toList_append]
  exact RdAll.kp (N := 0) this (Kp.push _ _)

theorem evs_nil : EvEs w h₀ k sc δ [] [] := fun pos O env A s Q E ok er h => wpAny_pure (h [] s.heap s.toks .nil (Kp.refl _ _))
theorem evs_cons {e : Expr} {es : List Expr} {d : PyData} {ds : List PyData} (x : EvE w h₀ k sc δ e d) (y : EvEs w h₀ k sc δ es ds) (he : ∀ env, starEach (e :: es) env = (false, eval e env) :: starEach es env := by intro _; rfl) : EvEs w h₀ k sc δ (e :: es) (d :: ds) := by
  intro pos O env A s Q E ok er h
  refine wpAny_items_cons (x.then ok er fun v h1 t1 r1 k1 ok1 er1 => ?_) (he env)
  exact y pos O env A { s with heap := h1, toks := t1 } _ _ ok1 er1 fun vs h2 t2 r2 k2 => h _ h2 t2 (.cons (r1.kp k2) r2) (k1.trans k2)
theorem ev_list {es : List Expr} {p : Pos} {ds : List PyData} (x : EvEs w h₀ k sc δ es ds) (hsz : ds.length ≤ sizeLine := by decide) : EvE w h₀ k sc δ (.List es p) (.list ds) := by
  intro O env A s Q E ok er h
  refine List_ (x p O env A s _ _ ok er fun vs h1 t1 r1 k1 => ?_)
  exact new_list (s := { s with heap := h1, toks := t1 }) (er.kp k1).low r1 hsz fun v h2 t2 r2 k2 => h v h2 t2 r2 (k1.trans k2)
theorem ev_tuple {es : List Expr} {n : Nat} {p : Pos} {ds : List PyData} (x : EvEs w h₀ k sc δ es ds) (hsz : ds.length ≤ sizeLine := by decide) : EvE w h₀ k sc δ (.Tuple es n p) (.tuple ds) := by
  intro O env A s Q E ok er h
  refine Tuple_ (x p O env A s _ _ ok er fun vs h1 t1 r1 k1 => ?_)
  refine wpAny_newObj_type (h _ _ t1 (rd_tuple (vs := vs.toArray) ⟨_, Heap.get?_push_size _ rfl, rfl, 0, rfl⟩ (fresh_off (er.kp k1).low) ?_) (k1.trans (Kp.push _ _))) (by show vs.toArray.size ≤ sizeLine; rw [List.size_toArray, r1.length]; exact hsz)
  exact RdAll.kp (N := 0) r1 (Kp.push _ _)
end
end Mine
end
section
open PySem.Calls PySem.Spec PySem.SeqAt
namespace Mine
section
variable {w : World} {h₀ : Heap} {k : Nat} {sc : Scope} {δ : Str → Option PyData}

theorem ev_and {x y : Expr} {p : Pos} {a : Bool} {d : PyData} (hx : EvE w h₀ k sc δ x (.bool a)) (hy : a = true → EvE w h₀ k sc δ y d) : EvE w h₀ k sc δ (.BoolOp .And [x, y] p) (if a then d else .bool false) := by
  intro O env A s Q E ok er h
  refine wpAny_And2 (hx.then ok er fun v h1 t1 r1 k1 ok1 er1 => ?_)
  obtain rfl := r1.bool_inv
  refine wpAny_truthy_bool ?_
  cases a with
  | true => exact (hy rfl).then (s := { s with heap := h1, toks := t1 }) ok1 er1 fun v h2 t2 r2 k2 _ _ => h v h2 t2 r2 (k1.trans k2)
  | false => exact h _ h1 t1 (rd_bool _) k1
theorem ev_or {x y : Expr} {p : Pos} {a : Bool} {d : PyData} (hx : EvE w h₀ k sc δ x (.bool a)) (hy : a = false → EvE w h₀ k sc δ y d) : EvE w h₀ k sc δ (.BoolOp .Or [x, y] p) (if a then .bool true else d) := by
  intro O env A s Q E ok er h
  refine wpAny_Or2 (hx.then ok er fun v h1 t1 r1 k1 ok1 er1 => ?_)
  obtain rfl := r1.bool_inv
  refine wpAny_truthy_bool ?_
  cases a with
  | false => exact (hy rfl).then (s := { s with heap := h1, toks := t1 }) ok1 er1 fun v h2 t2 r2 k2 _ _ => h v h2 t2 r2 (k1.trans k2)
  | true => exact h _ h1 t1 (rd_bool _) k1
theorem tr_not {x : Expr} {p : Pos} {b : Bool} (hx : TrE w h₀ k sc δ x b) : TrE w h₀ k sc δ (.UnaryOp .Not x p) (!b) :=
  fun O env A s Q E ok er h => wpAny_isTrue_Not (hx.then ok er fun h1 t1 k1 _ _ => h h1 t1 k1)
theorem tr_and {x y : Expr} {p : Pos} {a b : Bool} (hx : TrE w h₀ k sc δ x a) (hy : a = true → TrE w h₀ k sc δ y b) : TrE w h₀ k sc δ (.BoolOp .And [x, y] p) (a && b) := by
  intro O env A s Q E ok er h
  refine wpAny_isTrue_BoolOp (wpAny_allTrue_And_cons (hx.then ok er fun h1 t1 k1 ok1 er1 => ?_))
  cases a with
  | false => exact h h1 t1 k1
  | true =>
    refine wpAny_allTrue_And_cons ((hy rfl).then (s := { s with heap := h1, toks := t1 }) ok1 er1 fun h2 t2 k2 _ _ => ?_)
    cases b with
    | false => exact h h2 t2 (k1.trans k2)
    | true => exact wpAny_allTrue_And_nil (h h2 t2 (k1.trans k2))
theorem tr_val {e : Expr} {b : Bool} (x : EvE w h₀ k sc δ e (.bool b)) (he : ∀ env whole, isTrue e env whole = (do let v ← whole; standAt e.pos; holding [v] (truthy v)) := by intro _ _; rfl) : TrE w h₀ k sc δ e b := by
  intro O env A s Q E ok er h
  refine wpAny_isTrue_value (x.then ok er fun v h1 t1 r1 k1 ok1 er1 => ?_) (he env _)
  obtain rfl := r1.bool_inv
  exact wpAny_truthy_bool (h h1 t1 k1)
theorem ev_ifexp {t a b : Expr} {p : Pos} {c : Bool} {d : PyData} (ht : TrE w h₀ k sc δ t c) (ha : c = true → EvE w h₀ k sc δ a d) (hb : c = false → EvE w h₀ k sc δ b d) : EvE w h₀ k sc δ (.IfExp t a b p) d := by
  intro O env A s Q E ok er h
  refine wpAny_IfExp (ht.then ok er fun h1 t1 k1 ok1 er1 => ?_)
  cases c with
  | true => exact (ha rfl).then (s := { s with heap := h1, toks := t1 }) ok1 er1 fun v h2 t2 r2 k2 _ _ => h v h2 t2 r2 (k1.trans k2)
  | false => exact (hb rfl).then (s := { s with heap := h1, toks := t1 }) ok1 er1 fun v h2 t2 r2 k2 _ _ => h v h2 t2 r2 (k1.trans k2)

theorem ev_item {v i : Expr} {p : Pos} {xs : List PyData} {n : Int} {d : PyData} (hv : EvE w h₀ k sc δ v (.list xs)) (hi : EvE w h₀ k sc δ i (.int n)) (h0 : 0 ≤ n) (h1 : n < 2 ^ 63) (hd : xs[n.toNat]? = some d)
    (hs : ∀ o j, subscripted i false o j = operate [o, j] (getItem o j) := by intro _ _; with_unfolding_all rfl) : EvE w h₀ k sc δ (.Subscript v i p) d := by
  intro O env A s Q E ok er h
  refine Subscript_ (hv.then ok er fun vv g1 t1 r1 k1 ok1 er1 => ?_)
  refine hi.then (s := { s with heap := g1, toks := t1 }) ok1 er1 fun vi g2 t2 r2 k2 ok2 er2 => ?_
  obtain ⟨u, rfl⟩ := r2.int_inv
  obtain ⟨l, vs, rfl, hO, hl, rl⟩ := (r1.kp k2).list_inv
  replace hl := hl.isList
  obtain ⟨x, hx, rx⟩ := Paired.get rl hd
  refine tail_any (Heap.IsList.typeIs (s := { s with heap := g2, toks := t2 }) hl) slot_list_getitem.lookup (wpAny_getItem_list (s := { s with heap := g2, toks := t2 }) hl h0 h1 (by simpa using hx) ?_) (hs _ _)
  exact h x g2 t2 rx (k1.trans k2)
theorem ev_itemT {v i : Expr} {p : Pos} {xs : List PyData} {n : Int} {d : PyData} (hv : EvE w h₀ k sc δ v (.tuple xs)) (hi : EvE w h₀ k sc δ i (.int n)) (h0 : 0 ≤ n) (h1 : n < 2 ^ 63) (hd : xs[n.toNat]? = some d)
    (hs : ∀ o j, subscripted i false o j = operate [o, j] (getItem o j) := by intro _ _; with_unfolding_all rfl) : EvE w h₀ k sc δ (.Subscript v i p) d := by
  intro O env A s Q E ok er h
  refine Subscript_ (hv.then ok er fun vv g1 t1 r1 k1 ok1 er1 => ?_)
  refine hi.then (s := { s with heap := g1, toks := t1 }) ok1 er1 fun vi g2 t2 r2 k2 ok2 er2 => ?_
  obtain ⟨u, rfl⟩ := r2.int_inv
  obtain ⟨l, vs, rfl, _, hl, rl⟩ := (r1.kp k2).tuple_inv
  obtain ⟨x, hx, rx⟩ := Paired.get rl hd
  have hx' : vs[n.toNat]? = some x := by simpa using hx
  have hlt : n.toNat < vs.size := (Array.getElem?_eq_some_iff.mp hx').1
  have hIT : IsTup g2 l vs := hl
  refine tail_any (IsTup.typeIs (s := { s with heap := g2, toks := t2 }) hIT) slot_tuple_getitem.lookup (getItem_tuple (s := { s with heap := g2, toks := t2 }) hIT (by omega) h1 (j := n.toNat) ?_ hx' ?_) (hs _ _)
  · unfold seqIndex?
    have : ¬ n < 0 := by omega
    simp only [this, if_false]
    rw [if_pos]
    simp only [Bool.and_eq_true, decide_eq_true_eq]
    omega
  · exact h x g2 t2 rx (k1.trans k2)

noncomputable def pick {α : Type} (xs : List α) (lo hi st : Option Int) : List α :=
  (sliceRange (sliceBounds lo hi st xs.length).1 (sliceBounds lo hi st xs.length).2.1 (sliceBounds lo hi st xs.length).2.2).filterMap (xs[·]?)
theorem paired_filterMap {α β : Type} {F : α → β → Prop} {vs : List α} {ds : List β} (r : Paired F vs ds) : ∀ is : List Nat, Paired F (is.filterMap (vs[·]?)) (is.filterMap (ds[·]?))
  | [] => .nil
  | i :: is => by
    have t := paired_filterMap r is
    cases e : ds[i]? with
    | none =>
      have e' : vs[i]? = none := by
        have := r.length
        rw [List.getElem?_eq_none_iff] at e ⊢
        omega
      simp only [List.filterMap_cons, e, e']
      exact t
    | some d =>
      obtain ⟨v, hv, hF⟩ := Paired.get r e
      simp only [List.filterMap_cons, e, hv]
      exact .cons hF t
theorem paired_pick {O : List Addr} {h : Heap} {vs : Array Value} {ds : List PyData} (r : RdAll O h vs.toList ds) (lo hi st : Option Int) : RdAll O h (slicePick vs lo hi st).toList (pick ds lo hi st) := by
  have e := r.length
  have e1 : vs.size = ds.length := by simpa using e
  unfold slicePick pick
  rw [e1]
  have := paired_filterMap r (sliceRange (sliceBounds lo hi st ds.length).1 (sliceBounds lo hi st ds.length).2.1 (sliceBounds lo hi st ds.length).2.2)
  simpa using this

noncomputable def OptE (w : World) (h₀ : Heap) (k : Nat) (sc : Scope) (δ : Str → Option PyData) (o : Option Expr) (n : Option Int) : Prop :=
  (o = none ∧ n = none) ∨ ∃ e i, o = some e ∧ n = some i ∧ EvE w h₀ k sc δ e (.int i)
theorem opt_none : OptE w h₀ k sc δ none none := .inl ⟨rfl, rfl⟩
theorem opt_some {e : Expr} {i : Int} (x : EvE w h₀ k sc δ e (.int i)) : OptE w h₀ k sc δ (some e) (some i) := .inr ⟨e, i, rfl, rfl, x⟩
theorem OptE.then {o : Option Expr} {n : Option Int} (x : OptE w h₀ k sc δ o n) {O env A s} {Q : Value → Shared → Prop} {E} (ok : Ok h₀ k A s.heap) (er : EnvR O s.heap env sc δ)
    (h : ∀ v h' tk, IsPart v n → Kp h₀.objs.size s.heap h' → Ok h₀ k A h' → EnvR O h' env sc δ → Q v { s with heap := h', toks := tk }) : wpAny (model P w) A (evalPart o env) Q E s := by
  rcases x with ⟨rfl, rfl⟩ | ⟨e, i, rfl, rfl, x⟩
  · exact wpAny_pure (h _ s.heap s.toks .none (Kp.refl _ _) ok er)
  · rw [evalPart_some]
    refine x.then ok er fun v h' tk r k1 ok1 er1 => ?_
    obtain ⟨t, rfl⟩ := r.int_inv
    exact h _ h' tk (.int i t) k1 ok1 er1
theorem ev_slice {v : Expr} {lo hi st : Option Expr} {sp p : Pos} {xs : List PyData} {l u c : Option Int} (hv : EvE w h₀ k sc δ v (.list xs)) (hlo : OptE w h₀ k sc δ lo l) (hhi : OptE w h₀ k sc δ hi u) (hst : OptE w h₀ k sc δ st c)
    (h0 : c ≠ some 0) (hsz : xs.length ≤ sizeLine) : EvE w h₀ k sc δ (.Subscript v (.Slice lo hi st sp) p) (.list (pick xs l u c)) := by
  intro O env A s Q E ok er h
  refine Subscript_ (hv.then ok er fun vv g1 t1 r1 k1 ok1 er1 => wpAny_Slice ?_)
  refine hlo.then (s := { s with heap := g1, toks := t1 }) ok1 er1 fun va g2 t2 pa k2 ok2 er2 => ?_
  refine hhi.then (s := { s with heap := g2, toks := t2 }) ok2 er2 fun vb g3 t3 pb k3 ok3 er3 => ?_
  refine hst.then (s := { s with heap := g3, toks := t3 }) ok3 er3 fun vc g4 t4 pc k4 ok4 er4 => ?_
  obtain ⟨a, vs, rfl, hO, hl, rl⟩ := (((r1.kp k2).kp k3).kp k4).list_inv
  replace hl := hl.isList
  have e := rl.length
  have hl' : (g4.push { cls := .type "slice", data := .fields #[va, vb, vc] }).IsList a vs := hl.push _
  have key : wpAny (model P w) A (getItem (.ref a) (.ref g4.objs.size)) Q E { s with heap := g4.push { cls := .type "slice", data := .fields #[va, vb, vc] }, toks := t4 } := by
    refine wpAny_getItem_list_slice (s := { s with heap := g4.push { cls := .type "slice", data := .fields #[va, vb, vc] }, toks := t4 }) hl' (Heap.IsSliceOf.new ..) pa pb pc h0 ?_ (by simp at e; omega)
    refine h _ _ t4 (rd_list (vs := slicePick vs l u c) ⟨0, Heap.get?_push_size _ rfl⟩ ?_ ?_) ((((k1.trans k2).trans k3).trans k4).trans ((Kp.push _ _).trans (Kp.push _ _)))
    · refine fresh_off fun b hb => ?_
      obtain ⟨o, e⟩ := er4.low b hb
      exact ⟨o, Heap.get?_push_of_some _ e⟩
    · exact RdAll.kp (N := 0) (paired_pick rl l u c) ((Kp.push _ _).trans (Kp.push _ _))
  cases st with
  | none => exact tail_any (Heap.IsList.typeIs (s := { s with heap := g4.push { cls := .type "slice", data := .fields #[va, vb, vc] }, toks := t4 }) hl') slot_list_getitem.lookup key (by rfl)
  | some e => exact tail_any (Heap.IsList.typeIs (s := { s with heap := g4.push { cls := .type "slice", data := .fields #[va, vb, vc] }, toks := t4 }) hl') slot_list_getitem.lookup key (by rfl)
end
end Mine
end
section
open PySem.Calls PySem.Spec PySem.SeqAt
namespace Mine

noncomputable def upd (δ : Str → Option PyData) (x : Str) (d : PyData) : Str → Option PyData := fun y => if y = x then some d else δ y

noncomputable def Wrt (X : List Addr) (env : Env) (sc : Scope) (x : Str) : Prop :=
  (sc.names.lookup x = some .local ∧ env.locals ∈ X) ∨ (sc.names.lookup x = some .cell ∧ ∃ c, env.cells.lookup x = some c ∧ c ∈ X)

section
variable {w : World} {h₀ : Heap} {k : Nat} {sc : Scope} {δ : Str → Option PyData} {N : Nat}

theorem kind_of {h h' : Heap} {a : Addr} {o : Obj} (e : h.get? a = some o) (c : ClsIs h' a o.cls) (nf : ∀ o', h'.get? a = some o' → ∀ vs, o'.data ≠ .fields vs) :
    ∃ o, h'.get? a = some o ∧ ((∃ vs, o.data = .fields vs) → ∃ o, h.get? a = some o ∧ ∃ vs, o.data = .fields vs) ∧ ∀ o₀, h.get? a = some o₀ → o.cls = o₀.cls := by
  obtain ⟨o', e', hc⟩ := c
  exact ⟨o', e', fun ⟨vs, q⟩ => absurd q (nf o' e' vs), fun o₀ q => by rw [e] at q; cases q; exact hc⟩
theorem ns_nf {h : Heap} {a : Addr} {m} (x : h.Ns a m) : ∀ o', h.get? a = some o' → ∀ vs, o'.data ≠ .fields vs := fun o' e vs q => by
  obtain ⟨o, es, ep, ho, hd, _⟩ := x
  rw [ho] at e; cases e; rw [hd] at q; cases q
theorem cell_nf {h : Heap} {a : Addr} {v} (x : h.IsCell a v) : ∀ o', h.get? a = some o' → ∀ vs, o'.data ≠ .fields vs := fun o' e vs q => by
  obtain ⟨o, ho, hd⟩ := x
  rw [ho] at e; cases e; rw [hd] at q; cases q
theorem list_kind {h h' : Heap} {a : Addr} {v v0} (e0 : h.IsList a v0) (e : h'.IsList a v) : ∃ o, h'.get? a = some o ∧ ((∃ vs, o.data = .fields vs) → ∃ o, h.get? a = some o ∧ ∃ vs, o.data = .fields vs) ∧ ∀ o₀, h.get? a = some o₀ → o.cls = o₀.cls := by
  obtain ⟨o, ho, hc, n, hd⟩ := e
  obtain ⟨o1, ho1, hc1, _⟩ := e0
  exact ⟨o, ho, fun ⟨vs, q⟩ => by (rw [hd] at q; cases q), fun o₀ q => by rw [ho1] at q; cases q; rw [hc, hc1]⟩
theorem wpAny_storeName_cellC {M : Model} {A : Around} {E : Value → Shared → Prop} {s : Shared} {env : Env} {name : Str} {c : Addr} {v₀ : Option Value} {v : Value} {Q : Unit → Shared → Prop} (hk : env.scope.kind = .function) (hl : env.kindOf name = some .cell)
    (hc : env.cells.lookup name = some c) (hv : s.heap.IsCell c v₀)
    (h : ∀ h' o, s.heap.get? c = some o → ClsIs h' c o.cls → h'.IsCell c (some v) → Heap.SameBut c s.heap h' → Q () { s with heap := h' }) : wpAny M A (storeName env name v) Q E s := by
  obtain ⟨o, ho, hd⟩ := hv
  unfold storeName
  simp only [hl, hk]
  refine wpAny_bind (wpAny_cellOf hc ?_)
  unfold cellSet
  refine wpAny_bind (wpAny_load ho ?_)
  rw [hd]
  have e := Heap.get?_update_self (fun o => { o with data := .cell (some v) }) ho rfl
  exact wpAny_update ho (h _ o ho ⟨_, e, rfl⟩ ⟨_, e, rfl⟩ (Heap.SameBut.update ..))
theorem ns_inj {h : Heap} {a : Addr} {m m'} (x : h.Ns a m) (y : h.Ns a m') : m = m' := by
  obtain ⟨o, es, ep, ho, hd, _, hm⟩ := x
  obtain ⟨o', es', ep', ho', hd', _, hm'⟩ := y
  rw [ho] at ho'; cases ho'; rw [hd] at hd'; cases hd'
  funext n; rw [← hm n, ← hm' n]
theorem ns_ne_cell {h : Heap} {a c : Addr} {m v} (x : h.Ns a m) (y : h.IsCell c v) : a ≠ c := by
  rintro rfl
  obtain ⟨o, es, ep, ho, hd, _⟩ := x
  obtain ⟨o', ho', hd'⟩ := y
  rw [ho] at ho'; cases ho'; rw [hd] at hd'; cases hd'
theorem list_ne_cell {h : Heap} {a c : Addr} {m v} (x : h.IsList a m) (y : h.IsCell c v) : a ≠ c := by
  rintro rfl
  obtain ⟨o, ho, _, n, hd⟩ := x
  obtain ⟨o', ho', hd'⟩ := y
  rw [ho] at ho'; cases ho'; rw [hd] at hd'; cases hd'
theorem list_ne_ns {h : Heap} {a c : Addr} {m v} (x : h.IsList a m) (y : h.Ns c v) : a ≠ c := by
  rintro rfl
  obtain ⟨o, ho, _, n, hd⟩ := x
  obtain ⟨o', es, ep, ho', hd', _⟩ := y
  rw [ho] at ho'; cases ho'; rw [hd] at hd'; cases hd'

theorem Bound.stays {h h' : Heap} {env : Env} {y : Str} {u : Value} (b : Bound h env sc y u) (hl : ∀ m, h.Ns env.locals m → h'.Ns env.locals m) (hc : ∀ c v, env.cells.lookup y = some c → h.IsCell c v → h'.IsCell c v) : Bound h' env sc y u := by
  rcases b with ⟨h1, m, hn, hm⟩ | ⟨h1, c, hc', hv⟩
  · exact .inl ⟨h1, m, hl m hn, hm⟩
  · exact .inr ⟨h1, c, hc', hc c _ hc' hv⟩

theorem store_any {O X : List Addr} {env : Env} {A : Around} {s : Shared} {x : Str} {v : Value} {Q : Unit → Shared → Prop} {E : Value → Shared → Prop} (δ' : Str → Option PyData)
    (er : EnvR O s.heap env sc δ) (hw : Wrt X env sc x) (hX : ∀ a ∈ X, a ∈ O) (h1 : ∀ y d, y ≠ x → δ' y = some d → δ y = some d) (h2 : ∀ d, δ' x = some d → Rd O s.heap v d)
    (h : ∀ h' tk, EnvR O h' env sc δ' → Bound h' env sc x v → (∀ y u, y ≠ x → Bound s.heap env sc y u → Bound h' env sc y u) → KpX X N s.heap h' → Q () { s with heap := h', toks := tk }) :
    wpAny (model P w) A (storeName env x v) Q E s := by
  obtain ⟨m₀, hm₀⟩ := er.loc
  rcases hw with ⟨hl, hXl⟩ | ⟨hl, c, hc, hXc⟩
  · have hk : env.kindOf x = some .local := by
      rcases er.kinds _ _ hl with q | ⟨q, _⟩
      · exact q
      · cases q
    rw [storeName_local hk (by rw [er.kind]; rfl)]
    obtain ⟨oL, _, _, hoL, _⟩ := id hm₀
    refine wpAny_nsSetC hm₀ ⟨oL, hoL, rfl⟩ fun h' hn hs hcl => ?_
    have kp : KpX X N s.heap h' := .of_sameBut hs hXl (kind_of hoL hcl (ns_nf hn))
    have hcell : ∀ c v, s.heap.IsCell c v → h'.IsCell c v := fun c v hv => hv.sameBut hs (Ne.symm (ns_ne_cell hm₀ hv))
    have hb : Bound h' env sc x v := .inl ⟨hl, _, hn, by simp⟩
    have ho : ∀ y u, y ≠ x → Bound s.heap env sc y u → Bound h' env sc y u := by
      intro y u hy hbd
      rcases hbd with ⟨q1, m, q2, q3⟩ | ⟨q1, c, q2, q3⟩
      · refine .inl ⟨q1, _, hn, ?_⟩
        rw [if_neg hy]
        have := ns_inj q2 hm₀
        rw [← this]; exact q3
      · exact .inr ⟨q1, c, q2, hcell c _ q3⟩
    refine h h' _ ⟨er.kind, er.glb, er.bi, er.kinds, fun y d e => ?_, fun a ha => kp.there (er.low a ha), er.apart, er.cells, ⟨_, hn⟩, fun y c e => let ⟨v, hv⟩ := er.cel y c e; ⟨v, hcell c v hv⟩⟩ hb ho kp
    by_cases hy : y = x
    · subst hy
      exact ⟨v, (h2 d e).kpx kp hX, hb⟩
    · obtain ⟨u, r, b⟩ := er.val y d (h1 y d hy e)
      exact ⟨u, r.kpx kp hX, ho y u hy b⟩
  · have hk : env.kindOf x = some .cell := by
      rcases er.kinds _ _ hl with q | ⟨q, _⟩
      · exact q
      · cases q
    obtain ⟨v₀, hv₀⟩ := er.cel x c hc
    refine wpAny_storeName_cellC er.kind hk hc hv₀ fun h' oC hoC hcl hn hs => ?_
    have kp : KpX X N s.heap h' := .of_sameBut hs hXc (kind_of hoC hcl (cell_nf hn))
    have hns : ∀ m, s.heap.Ns env.locals m → h'.Ns env.locals m := fun m hm => hm.sameBut hs (ns_ne_cell hm hv₀)
    have hb : Bound h' env sc x v := .inr ⟨.inl hl, c, hc, hn⟩
    have hcell : ∀ y c' v, y ≠ x → env.cells.lookup y = some c' → s.heap.IsCell c' v → h'.IsCell c' v := fun y c' v hy e hv => hv.sameBut hs fun q => hy (er.apart y x c' e (q ▸ hc))
    have ho : ∀ y u, y ≠ x → Bound s.heap env sc y u → Bound h' env sc y u := fun y u hy b => b.stays hns fun c' v e hv => hcell y c' v hy e hv
    refine h h' _ ⟨er.kind, er.glb, er.bi, er.kinds, fun y d e => ?_, fun a ha => kp.there (er.low a ha), er.apart, er.cells, ⟨_, hns _ hm₀⟩, fun y c' e => ?_⟩ hb ho kp
    · by_cases hy : y = x
      · subst hy
        exact ⟨v, (h2 d e).kpx kp hX, hb⟩
      · obtain ⟨u, r, b⟩ := er.val y d (h1 y d hy e)
        exact ⟨u, r.kpx kp hX, ho y u hy b⟩
    · by_cases hy : y = x
      · subst hy
        rw [hc] at e; cases e
        exact ⟨_, hn⟩
      · obtain ⟨v', hv'⟩ := er.cel y c' e
        exact ⟨v', hcell y c' v' hy e hv'⟩

theorem store_d {O X : List Addr} {env : Env} {A : Around} {s : Shared} {x : Str} {v : Value} {d : PyData} {Q : Unit → Shared → Prop} {E : Value → Shared → Prop}
    (er : EnvR O s.heap env sc δ) (hw : Wrt X env sc x) (hX : ∀ a ∈ X, a ∈ O) (r : Rd O s.heap v d)
    (h : ∀ h' tk, EnvR O h' env sc (upd δ x d) → KpX X N s.heap h' → (∀ y u, y ≠ x → Bound s.heap env sc y u → Bound h' env sc y u) → Q () { s with heap := h', toks := tk }) :
    wpAny (model P w) A (storeName env x v) Q E s :=
  store_any (upd δ x d) er hw hX (fun y d' hy e => by rw [← e]; simp [upd, hy]) (fun d' e => by simp [upd] at e; subst e; exact r) fun h' tk er' _ hb kp => h h' tk er' kp hb

noncomputable def tnames : Expr → List Str
  | .Name x _ => [x]
  | .Tuple es _ _ => es.filterMap fun | .Name x _ => some x | _ => none
  | _ => []
theorem tnames_name {x : Str} {p : Pos} : tnames (.Name x p) = [x] := rfl
theorem tnames_two {x y : Str} {p q r : Pos} {n : Nat} : tnames (.Tuple [.Name x p, .Name y q] n r) = [x, y] := rfl
theorem tnames_three {x y z : Str} {p q t r : Pos} {n : Nat} : tnames (.Tuple [.Name x p, .Name y q, .Name z t] n r) = [x, y, z] := rfl
inductive BindT : Expr → PyData → (Str → Option PyData) → (Str → Option PyData) → Prop
  | name {x p d δ} : BindT (.Name x p) d δ (upd δ x d)
  | tup2 {x y p q n r d e δ} : BindT (.Tuple [.Name x p, .Name y q] n r) (.tuple [d, e]) δ (upd (upd δ x d) y e)
  | tup3 {x y z p q t n r d e f δ} : BindT (.Tuple [.Name x p, .Name y q, .Name z t] n r) (.tuple [d, e, f]) δ (upd (upd (upd δ x d) y e) z f)

theorem assign_d {O X : List Addr} {env : Env} {A : Around} {s : Shared} {tg : Expr} {v : Value} {d : PyData} {δ' : Str → Option PyData} {Q : Unit → Shared → Prop} {E : Value → Shared → Prop}
    (hh : A.handled = none) (er : EnvR O s.heap env sc δ) (hb : BindT tg d δ δ') (hw : ∀ x ∈ tnames tg, Wrt X env sc x) (hX : ∀ a ∈ X, a ∈ O) (r : Rd O s.heap v d)
    (h : ∀ h' tk, EnvR O h' env sc δ' → KpX X N s.heap h' → (∀ y u, y ∉ tnames tg → Bound s.heap env sc y u → Bound h' env sc y u) → Q () { s with heap := h', toks := tk }) :
    wpAny (model P w) A (assign tg env v) Q E s := by
  have grow : ∀ h', Heap.ExtBut s.heap.objs.size s.heap h' → Kp N s.heap h' := fun h' he b o e => .inl (he b o (Nat.ne_of_lt (Heap.lt_size e)) e)
  cases hb with
  | @name x p =>
    refine wpAny_assign_Name (store_d er (hw x (by simp [tnames_name, tnames_two, tnames_three])) hX r fun h' tk er' kp hb => h h' tk er' kp fun y u hy => hb y u (by simpa [tnames_name, tnames_two, tnames_three] using hy))
  | @tup2 x y p q n rr d e =>
    obtain ⟨a, vs, rfl, _, ht, rl⟩ := r.tuple_inv
    obtain ⟨vl, hvl⟩ : ∃ l, vs = l.toArray := ⟨vs.toList, by simp⟩
    subst hvl
    cases rl with
    | cons r1 rl =>
    rename_i v1 vl1
    cases rl with
    | cons r2 rl =>
    rename_i v2 vl2
    cases rl
    refine wpAny_assign_Tuple hh ht rfl rfl fun h' he => ?_
    have kp₀ := grow h' he
    show wpAny _ _ (assignInOrder [assign (.Name x p) env, assign (.Name y q) env] [v1, v2]) _ _ _
    simp only [assignInOrder]
    refine wpAny_bind ?_
    try refine wpAny_holding ?_
    refine wpAny_assign_Name (store_d (N := N) (s := { s with heap := h' }) (er.kp kp₀) (hw x (by simp [tnames_name, tnames_two, tnames_three])) hX (r1.kp kp₀) fun h2 tk er2 kp2 hb2 => ?_)
    refine wpAny_bind ?_
    try refine wpAny_holding ?_
    refine wpAny_assign_Name (store_d (N := N) (s := { s with heap := h2, toks := tk }) er2 (hw y (by simp [tnames_name, tnames_two, tnames_three])) hX ((r2.kp kp₀).kpx kp2 hX) fun h3 tk3 er3 kp3 hb3 => ?_)
    exact wpAny_pure (h h3 tk3 er3 ((kp₀.x.trans kp2).trans kp3) fun z u hz hbz => hb3 z u (fun e => hz (by simp [tnames_name, tnames_two, tnames_three, e])) (hb2 z u (fun e => hz (by simp [tnames_name, tnames_two, tnames_three, e])) (hbz.kp kp₀)))
  | @tup3 x y z p q t n rr d e f =>
    obtain ⟨a, vs, rfl, _, ht, rl⟩ := r.tuple_inv
    obtain ⟨vl, hvl⟩ : ∃ l, vs = l.toArray := ⟨vs.toList, by simp⟩
    subst hvl
    cases rl with
    | cons r1 rl =>
    rename_i v1 vl1
    cases rl with
    | cons r2 rl =>
    rename_i v2 vl2
    cases rl with
    | cons r3 rl =>
    rename_i v3 vl3
    cases rl
    refine wpAny_assign_Tuple hh ht rfl rfl fun h' he => ?_
    have kp₀ := grow h' he
    show wpAny _ _ (assignInOrder [assign (.Name x p) env, assign (.Name y q) env, assign (.Name z t) env] [v1, v2, v3]) _ _ _
    simp only [assignInOrder]
    refine wpAny_bind ?_
    try refine wpAny_holding ?_
    refine wpAny_assign_Name (store_d (N := N) (s := { s with heap := h' }) (er.kp kp₀) (hw x (by simp [tnames_name, tnames_two, tnames_three])) hX (r1.kp kp₀) fun h2 tk er2 kp2 hb2 => ?_)
    refine wpAny_bind ?_
    try refine wpAny_holding ?_
    refine wpAny_assign_Name (store_d (N := N) (s := { s with heap := h2, toks := tk }) er2 (hw y (by simp [tnames_name, tnames_two, tnames_three])) hX ((r2.kp kp₀).kpx kp2 hX) fun h3 tk3 er3 kp3 hb3 => ?_)
    refine wpAny_bind ?_
    try refine wpAny_holding ?_
    refine wpAny_assign_Name (store_d (N := N) (s := { s with heap := h3, toks := tk3 }) er3 (hw z (by simp [tnames_name, tnames_two, tnames_three])) hX (((r3.kp kp₀).kpx kp2 hX).kpx kp3 hX) fun h4 tk4 er4 kp4 hb4 => ?_)
    exact wpAny_pure (h h4 tk4 er4 (((kp₀.x.trans kp2).trans kp3).trans kp4) fun u' u hz hbz => hb4 u' u (fun e => hz (by simp [tnames_name, tnames_two, tnames_three, e])) (hb3 u' u (fun e => hz (by simp [tnames_name, tnames_two, tnames_three, e])) (hb2 u' u (fun e => hz (by simp [tnames_name, tnames_two, tnames_three, e])) (hbz.kp kp₀))))
end
end Mine
end
section
open PySem.Calls PySem.Spec PySem.SeqAt
namespace Mine

noncomputable def FirmL (as : List Addr) (hc : Heap) (vs : List Value) (ds : List PyData) : Prop :=
  ∀ O' h', (∀ a ∈ as, a ∉ O' ∧ ∀ o, hc.get? a = some o → h'.get? a = some o) → RdL O' h' vs ds
noncomputable def Firm (as : List Addr) (hc : Heap) (v : Value) (d : PyData) : Prop :=
  ∀ O' h', (∀ a ∈ as, a ∉ O' ∧ ∀ o, hc.get? a = some o → h'.get? a = some o) → Rd O' h' v d
noncomputable def Sits (O : List Addr) (h : Heap) (as : List Addr) : Prop := ∀ a ∈ as, a ∉ O ∧ ∃ o, h.get? a = some o ∧ (o.cls = .type "list" ∨ o.cls = .type "tuple")
theorem Sits.app {O h as bs} (x : Sits O h as) (y : Sits O h bs) : Sits O h (as ++ bs) := fun a ha => (List.mem_append.mp ha).elim (x a) (y a)
mutual
theorem rd_firm {O : List Addr} {h : Heap} : ∀ {v d}, Rd O h v d → ∃ as, Sits O h as ∧ Firm as h v d
  | _, _, .none => ⟨[], (fun _ q => nomatch q), fun _ _ _ => .none⟩
  | _, _, .bool b => ⟨[], (fun _ q => nomatch q), fun _ _ _ => .bool b⟩
  | _, _, .int i t => ⟨[], (fun _ q => nomatch q), fun _ _ _ => .int i t⟩
  | _, _, .list (a := a) h0 h1 h4 =>
    let ⟨as, q, f⟩ := rdL_firm h4
    ⟨a :: as, fun b hb => (List.mem_cons.mp hb).elim (fun e => e ▸ ⟨h0, _, h1, .inl rfl⟩) (q b), fun O' h' k => .list (k a (.head _)).1 ((k a (.head _)).2 _ h1) (f O' h' fun b hb => k b (.tail _ hb))⟩
  | _, _, .tuple (a := a) h0 h1 h2 h3 h4 =>
    let ⟨as, q, f⟩ := rdL_firm h4
    ⟨a :: as, fun b hb => (List.mem_cons.mp hb).elim (fun e => e ▸ ⟨h0, _, h1, .inr h2⟩) (q b), fun O' h' k => .tuple (k a (.head _)).1 ((k a (.head _)).2 _ h1) h2 h3 (f O' h' fun b hb => k b (.tail _ hb))⟩
theorem rdL_firm {O : List Addr} {h : Heap} : ∀ {vs ds}, RdL O h vs ds → ∃ as, Sits O h as ∧ FirmL as h vs ds
  | _, _, .nil => ⟨[], fun _ q => (nomatch q), fun _ _ _ => .nil⟩
  | _, _, .cons a b =>
    let ⟨as, q, f⟩ := rd_firm a
    let ⟨bs, q', f'⟩ := rdL_firm b
    ⟨as ++ bs, q.app q', fun O' h' k => .cons (f O' h' fun b hb => k b (List.mem_append_left _ hb)) (f' O' h' fun b hb => k b (List.mem_append_right _ hb))⟩
end

structure Itr (w : World) (A : Around) (N : Nat) (T : Expr → Prop) (it : Value) (fp It : List Addr) (St : List PyData → Heap → Prop) : Prop where
  sub : ∀ a ∈ It, a ∈ fp
  keep : ∀ ds h h' X, St ds h → KpX X N h h' → (∀ a ∈ X, a ∉ fp) → St ds h'
  live : ∀ ds h, St ds h → ∀ a ∈ fp, ∃ o, h.get? a = some o
  step : ∀ (O : List Addr) d ds (s : Shared) tg (Q : Option Value → Shared → Prop) (E : Value → Shared → Prop), T tg → (∀ a ∈ O, a ∈ fp → a ∈ It) → (∀ a ∈ O, ∃ o, s.heap.get? a = some o) → St (d :: ds) s.heap →
    (∀ v h1 tk1, (∀ (Q' : Unit → Shared → Prop) (E' : Value → Shared → Prop), (∀ h2, Rd O h2 v d → St ds h2 → KpX It N s.heap h2 → Q' () { s with heap := h2, toks := tk1 }) →
        wpAny (model P w) A (letOwnedTupleGo tg it v) Q' E' { s with heap := h1, toks := tk1 }) → Q (some v) { s with heap := h1, toks := tk1 }) →
    wpAny (model P w) A (pyNext it) Q E s
  done : ∀ (s : Shared) (Q : Option Value → Shared → Prop) (E : Value → Shared → Prop), St [] s.heap →
    (∀ h tk, (∀ b o, b ∉ It → s.heap.get? b = some o → h.get? b = some o) → Q none { s with heap := h, toks := tk }) → wpAny (model P w) A (pyNext it) Q E s
  self : ∀ ds (s : Shared) (Q : Value → Shared → Prop) (E : Value → Shared → Prop), St ds s.heap → Q it s → wpAny (model P w) A (pyIter it) Q E s

noncomputable def TName (tg : Expr) : Prop := ∃ x p, tg = .Name x p
noncomputable def TTup (tg : Expr) : Prop := ∃ es n p, tg = .Tuple es n p

section
variable {w : World} {A : Around} {N : Nat}

theorem drop_cons {α : Type} {l : List α} {i : Nat} {d : α} {ds : List α} (e : d :: ds = l.drop i) : l[i]? = some d ∧ ds = l.drop (i + 1) := by
  constructor
  · have : (l.drop i)[0]? = some d := by rw [← e]; rfl
    simpa using this
  · have := congrArg List.tail e
    simpa using this

theorem itr_list (hh : A.handled = none) {I ax : Addr} {items : Array Value} {as : List Addr} {hc : Heap} {ds₀ : List PyData} (hne : ax ≠ I) (hlen : items.size = ds₀.length)
    (has : ∀ a ∈ as, a ≠ I ∧ ∃ o, hc.get? a = some o ∧ (o.cls = .type "list" ∨ o.cls = .type "tuple")) (hF : FirmL as hc items.toList ds₀) :
    Itr w A N (fun tg => TName tg ∨ TTup tg) (.ref I) (I :: ax :: as) [I] (fun ds h => ∃ i, ds = ds₀.drop i ∧ i ≤ ds₀.length ∧ h.IsListIter I ax i ∧ h.IsList ax items ∧ ∀ a ∈ as, ∀ o, hc.get? a = some o → h.get? a = some o) where
  sub := fun a ha => by rw [List.mem_singleton.mp ha]; exact .head _
  keep := fun ds h h' X ⟨i, e, hi, h1, h2, h3⟩ k hX => by
    refine ⟨i, e, hi, ?_, k.isList (fun q => hX _ q (.tail _ (.head _))) h2, fun a ha o ho => ?_⟩
    · obtain ⟨o, ho, hc', hd⟩ := h1
      exact ⟨o, k.get (fun q => hX _ q (.head _)) ho (by rw [hc']; decide), hc', hd⟩
    · obtain ⟨_, o', ho', hc'⟩ := has a ha
      rw [ho] at ho'; cases ho'
      exact k.get (fun q => hX _ q (.tail _ (.tail _ ha))) (h3 a ha o ho) (by rcases hc' with q | q <;> rw [q] <;> decide)
  live := fun ds h ⟨i, e, hi, h1, h2, h3⟩ a ha => by
    rcases List.mem_cons.mp ha with rfl | ha
    · obtain ⟨o, ho, _⟩ := h1; exact ⟨o, ho⟩
    rcases List.mem_cons.mp ha with rfl | ha
    · obtain ⟨o, ho, _⟩ := h2; exact ⟨o, ho⟩
    · obtain ⟨_, o, ho, _⟩ := has a ha
      exact ⟨o, h3 a ha o ho⟩
  step := fun O d ds s tg Q E hT hO hl ⟨i, e, hi, h1, h2, h3⟩ h => by
    obtain ⟨ed, e⟩ := drop_cons e
    have hF' := hF
    have hlt : i < ds₀.length := (List.getElem?_eq_some_iff.mp ed).1
    have hv : items[i]? = some items[i] := Array.getElem?_eq_getElem (by omega)
    refine wpAny_pyNext_list_item h1 h2 hv fun h' hit' hs' => h _ h' s.toks fun Q' E' hq => ?_
    have h3' : ∀ a ∈ as, ∀ o, hc.get? a = some o → h'.get? a = some o := fun a ha o ho => hs'.extBut a o (has a ha).1 (h3 a ha o ho)
    have hr : Rd O h' items[i] d := by
      have r := rdAll_of (hF O h' fun a ha => ⟨fun q => by
        have := hO a q (.tail _ (.tail _ ha))
        exact (has a ha).1 (List.mem_singleton.mp this), h3' a ha⟩)
      obtain ⟨v, ev, rv⟩ := Paired.get r ed
      have : items.toList[i]? = some items[i] := by simpa using hv
      rw [this] at ev; cases ev; exact rv
    have kp : KpX [I] N s.heap h' := .of_sameBut hs' (.head _) (by
      obtain ⟨o, ho, hc', hd⟩ := hit'
      obtain ⟨o1, ho1, hc1, hd1⟩ := h1
      exact ⟨o, ho, fun _ => ⟨o1, ho1, _, hd1⟩, fun o₀ q => by rw [ho1] at q; cases q; rw [hc', hc1]⟩)
    have key := hq h' hr ⟨i + 1, e, hlt, hit', h2.extBut hs'.extBut hne, h3'⟩ kp
    rcases hT with ⟨x, p, rfl⟩ | ⟨es, n, p, rfl⟩
    · exact wpAny_pure key
    · cases hiv : items[i] with
      | ref a => exact wpAny_letOwnedTupleGo_listiter hit' key
      | _ => exact wpAny_pure key
  done := fun s Q E ⟨i, e, hi, h1, h2, h3⟩ h => by
    have : items[i]? = none := by
      have : ds₀.length ≤ i := by
        have := congrArg List.length e
        simp at this; omega
      exact Array.getElem?_eq_none (by omega)
    exact wpAny_pyNext_list_end hh h1 h2 this fun h' he' => h h' s.toks fun b o hb e => he' b o (fun q => hb (by simp [q])) e
  self := fun ds s Q E ⟨i, e, hi, h1, h2, h3⟩ h => wpAny_pyIter_listiter h1 h

noncomputable def rangeD (a c : Int) (n : Nat) : List PyData := (List.range n).map fun i : Nat => .int (a + i * c)

theorem itr_range (hh : A.handled = none) {I : Addr} {a c : Int} {n : Nat} :
    Itr w A N TName (.ref I) [I] [I] (fun ds h => ∃ i, ds = (rangeD a c n).drop i ∧ i ≤ n ∧ IsRangeIter h I (a + (i : Nat) * c) ((n : Int) - (i : Nat)) c) where
  sub := fun a ha => ha
  keep := fun ds h h' X ⟨i, e, hi, h1⟩ k hX => ⟨i, e, hi, k.get (fun q => hX _ q (.head _)) h1 (by simp)⟩
  live := fun ds h ⟨i, e, hi, h1⟩ a ha => by rw [List.mem_singleton.mp ha]; exact ⟨_, h1⟩
  step := fun O d ds s tg Q E hT hO hl ⟨i, e, hi, h1⟩ h => by
    obtain ⟨ed, e⟩ := drop_cons e
    have hlt : i < n := by have := (List.getElem?_eq_some_iff.mp ed).1; simpa [rangeD] using this
    have hd : d = .int (a + i * c) := by simp [rangeD, hlt] at ed; exact ed.symm
    refine wpAny_pyNext_range_item h1 (by omega) fun h' hit' hs' => h _ h' _ fun Q' E' hq => ?_
    have kp : KpX [I] N s.heap h' := .of_sameBut hs' (.head _) ⟨_, hit', fun _ => ⟨_, h1, _, rfl⟩, fun o₀ q => by rw [h1] at q; cases q; rfl⟩
    have e1 : a + ((i + 1 : Nat) : Int) * c = a + (i : Int) * c + c := by push_cast; rw [Int.add_mul, Int.one_mul, Int.add_assoc]
    have e2 : (n : Int) - ((i + 1 : Nat) : Int) = (n : Int) - (i : Int) - 1 := by push_cast; omega
    have key := hq h' (by rw [hd]; exact .int _ _) ⟨i + 1, e, hlt, by rw [e1, e2]; exact hit'⟩ kp
    obtain ⟨x, p, rfl⟩ := hT
    exact wpAny_pure key
  done := fun s Q E ⟨i, e, hi, h1⟩ h => by
    have : n ≤ i := by
      have := congrArg List.length e
      simp [rangeD] at this; omega
    exact wpAny_pyNext_range_end hh h1 (by omega) fun h' he' => h h' s.toks fun b o hb e => he' b o (fun q => hb (by simp [q])) e
  self := fun ds s Q E ⟨i, e, hi, h1⟩ h => wpAny_pyIter_rangeiter h1 h

noncomputable def enumD (ds : List PyData) : List PyData := ds.zipIdx.map fun (d, i) => .tuple [.int i, d]
noncomputable def zipD (ds es : List PyData) : List PyData := (ds.zip es).map fun (d, e) => .tuple [d, e]

inductive EnumSt (e it ax : Addr) (items : Array Value) (as : List Addr) (hc : Heap) (ds₀ : List PyData) (ds : List PyData) (h : Heap) : Prop
  | mk (i : Nat) (e' : ds = (enumD ds₀).drop i) (hi : i ≤ ds₀.length) (h0 : ∃ old, IsEnum h e it i old) (h1 : h.IsListIter it ax i) (h2 : h.IsList ax items) (h3 : ∀ a ∈ as, ∀ o, hc.get? a = some o → h.get? a = some o)

theorem itr_enum (hh : A.handled = none) {e it ax : Addr} {items : Array Value} {as : List Addr} {hc : Heap} {ds₀ : List PyData} (hei : e ≠ it) (hae : ax ≠ e) (hai : ax ≠ it) (hlen : items.size = ds₀.length)
    (has : ∀ a ∈ as, a ≠ e ∧ a ≠ it ∧ ∃ o, hc.get? a = some o ∧ (o.cls = .type "list" ∨ o.cls = .type "tuple")) (hF : FirmL as hc items.toList ds₀) :
    Itr w A N TTup (.ref e) (e :: it :: ax :: as) [e, it] (EnumSt e it ax items as hc ds₀) where
  sub := fun a ha => by
    rcases List.mem_cons.mp ha with rfl | ha
    · exact .head _
    · rw [List.mem_singleton.mp ha]; exact .tail _ (.head _)
  keep := fun ds h h' X gg k hX => by
    obtain ⟨i, e', hi, ⟨old, h0⟩, h1, h2, h3⟩ := gg
    refine ⟨i, e', hi, ⟨old, k.get (fun q => hX _ q (.head _)) h0 (by simp)⟩, ?_, k.isList (fun q => hX _ q (.tail _ (.tail _ (.head _)))) h2, fun a ha o ho => ?_⟩
    · obtain ⟨o, ho, hc', hd⟩ := h1
      exact ⟨o, k.get (fun q => hX _ q (.tail _ (.head _))) ho (by rw [hc']; decide), hc', hd⟩
    · obtain ⟨_, _, o', ho', hc'⟩ := has a ha
      rw [ho] at ho'; cases ho'
      exact k.get (fun q => hX _ q (.tail _ (.tail _ (.tail _ ha)))) (h3 a ha o ho) (by rcases hc' with q | q <;> rw [q] <;> decide)
  live := fun ds h gg a ha => by
    obtain ⟨i, e', hi, ⟨old, h0⟩, h1, h2, h3⟩ := gg
    rcases List.mem_cons.mp ha with rfl | ha
    · exact ⟨_, h0⟩
    rcases List.mem_cons.mp ha with rfl | ha
    · obtain ⟨o, ho, _⟩ := h1; exact ⟨o, ho⟩
    rcases List.mem_cons.mp ha with rfl | ha
    · obtain ⟨o, ho, _⟩ := h2; exact ⟨o, ho⟩
    · obtain ⟨_, _, o, ho, _⟩ := has a ha
      exact ⟨o, h3 a ha o ho⟩
  step := fun O d ds s tg Q E hT hO hl gg h => by
    obtain ⟨i, e', hi, ⟨old, h0⟩, h1, h2, h3⟩ := gg
    obtain ⟨ed, e'⟩ := drop_cons e'
    have hlt : i < ds₀.length := by have := (List.getElem?_eq_some_iff.mp ed).1; simpa [enumD] using this
    have hd : d = .tuple [.int i, ds₀[i]] := by simp [enumD, hlt] at ed; exact ed.symm
    have hv : items[i]? = some items[i] := Array.getElem?_eq_getElem (by omega)
    refine wpAny_pyNext_enum_item h0 h1 h2 hv hei fun h' ho hit' hTu hsz hk => h _ h' _ fun Q' E' hq => ?_
    have helt : e < s.heap.objs.size := Heap.lt_size h0
    have hilt : it < s.heap.objs.size := by obtain ⟨_, x, _⟩ := h1; exact Heap.lt_size x
    obtain ⟨es, n, p, rfl⟩ := hT
    refine wpAny_letOwnedTupleGo_enum ho fun h2' he' hs' => ?_
    have up : ∀ b o, b ≠ e → b ≠ it → s.heap.get? b = some o → h2'.get? b = some o := fun b o hb hb' q => hs'.extBut b o hb (hk b o hb hb' q)
    have h3' : ∀ a ∈ as, ∀ o, hc.get? a = some o → h2'.get? a = some o := fun a ha o ho => up a o (has a ha).1 (has a ha).2.1 (h3 a ha o ho)
    have hit2 : h2'.IsListIter it ax (i + 1) := hit'.extBut hs'.extBut hei.symm
    have hr : Rd O h2' (.ref s.heap.objs.size) d := by
      have r := rdAll_of (hF O h2' fun a ha => ⟨fun q => by
        have := hO a q (.tail _ (.tail _ (.tail _ ha)))
        rcases List.mem_cons.mp this with z | z
        · exact (has a ha).1 z
        · exact (has a ha).2.1 (List.mem_singleton.mp z), h3' a ha⟩)
      obtain ⟨v, ev, rv⟩ := Paired.get r (show ds₀[i]? = some ds₀[i] from List.getElem?_eq_getElem hlt)
      have : items.toList[i]? = some items[i] := by simpa using hv
      rw [this] at ev; cases ev
      rw [hd]
      refine .tuple (vs := #[.int i s.toks, items[i]]) (n := 0) (fun q => ?_) (hs'.extBut _ _ (Nat.ne_of_gt helt) hTu) rfl rfl (.cons (.int _ _) (.cons rv .nil))
      obtain ⟨o, ho⟩ := hl _ q
      exact Nat.lt_irrefl _ (Heap.lt_size ho)
    refine hq h2' hr ⟨i + 1, e', hlt, ⟨_, by simpa using he'⟩, hit2, h2.at fun o q => up ax o hae hai q, h3'⟩ (.of_but (fun b o hb q => up b o (fun z => hb (by simp [z])) (fun z => hb (by simp [z])) q) fun b hb o hob => ?_)
    rcases List.mem_cons.mp hb with qb | hb
    · rw [qb] at hob ⊢; rw [h0] at hob; cases hob; exact ⟨_, he', fun _ => ⟨_, rfl⟩, rfl⟩
    · rw [List.mem_singleton.mp hb] at hob ⊢
      obtain ⟨o1, ho1, hcc1, hd1⟩ := h1
      rw [hob] at ho1; cases ho1
      obtain ⟨o2, ho2, hcc2, hd2⟩ := hit2
      exact ⟨o2, ho2, fun _ => ⟨_, hd1⟩, by rw [hcc1, hcc2]⟩
  done := fun s Q E gg h => by
    obtain ⟨i, e', hi, ⟨old, h0⟩, h1, h2, h3⟩ := gg
    have : items[i]? = none := by
      have : ds₀.length ≤ i := by
        have := congrArg List.length e'
        simp [enumD] at this; omega
      exact Array.getElem?_eq_none (by omega)
    exact wpAny_pyNext_enum_end hh h0 h1 h2 this fun h' hx => h h' s.toks fun b o hb y => hx b o (fun q => hb (by simp [q])) y
  self := fun ds s Q E gg h => by
    obtain ⟨i, e', hi, ⟨old, h0⟩, h1, h2, h3⟩ := gg
    exact wpAny_pyIter_enum h0 h

end
end Mine
end
section
open PySem.Calls PySem.Spec PySem.SeqAt
namespace Mine
section
variable {w : World} {A : Around} {N : Nat}
inductive ZipSt (z TI TO i1 i2 l1 l2 : Addr) (xs ys : Array Value) (as : List Addr) (hc : Heap) (zs : List PyData) (m : Nat) (dd : List PyData) (h : Heap) : Prop
  | mk (i : Nat) (e : dd = zs.drop i) (hi : i ≤ m) (g1 : IsZip h z TI TO .none) (g2 : IsPair h TI (.ref i1) (.ref i2)) (g3 : ∃ a b, IsPair h TO a b) (g4 : h.IsListIter i1 l1 i) (g5 : h.IsListIter i2 l2 i)
      (g6 : h.IsList l1 xs) (g7 : h.IsList l2 ys) (g8 : ∀ a ∈ as, ∀ o, hc.get? a = some o → h.get? a = some o)

theorem itr_zip (hh : A.handled = none) {z TI TO i1 i2 l1 l2 : Addr} (D : ZipApart z TI TO i1 i2 l1 l2) {xs ys : Array Value} {as : List Addr} {hc : Heap} {ds es : List PyData} (hlx : xs.size = ds.length) (hly : ys.size = es.length)
    (has : ∀ a ∈ as, (a ≠ z ∧ a ≠ TO ∧ a ≠ i1 ∧ a ≠ i2) ∧ ∃ o, hc.get? a = some o ∧ (o.cls = .type "list" ∨ o.cls = .type "tuple")) (hFx : FirmL as hc xs.toList ds) (hFy : FirmL as hc ys.toList es) :
    Itr w A N TTup (.ref z) (z :: TO :: i1 :: i2 :: TI :: l1 :: l2 :: as) [z, TO, i1, i2] (ZipSt z TI TO i1 i2 l1 l2 xs ys as hc (zipD ds es) (min ds.length es.length)) where
  sub := fun a ha => by simp at ha ⊢; rcases ha with q | q | q | q <;> simp [q]
  keep := fun dd h h' X gg k hX => by
    obtain ⟨i, e', hi, g1, g2, ⟨a, b, g3⟩, g4, g5, g6, g7, g8⟩ := gg
    have nX : ∀ c, c ∈ (z :: TO :: i1 :: i2 :: TI :: l1 :: l2 :: as) → c ∉ X := fun c hc q => hX c q hc
    refine ⟨i, e', hi, k.get (nX _ (by simp)) g1 (by simp), k.get (nX _ (by simp)) g2 (by simp), ⟨a, b, k.get (nX _ (by simp)) g3 (by simp)⟩, ?_, ?_, k.isList (nX _ (by simp)) g6, k.isList (nX _ (by simp)) g7, fun a ha o ho => ?_⟩
    · obtain ⟨o, ho, hc', hd⟩ := g4
      exact ⟨o, k.get (nX _ (by simp)) ho (by rw [hc']; decide), hc', hd⟩
    · obtain ⟨o, ho, hc', hd⟩ := g5
      exact ⟨o, k.get (nX _ (by simp)) ho (by rw [hc']; decide), hc', hd⟩
    · obtain ⟨_, o', ho', hc'⟩ := has a ha
      rw [ho] at ho'; cases ho'
      exact k.get (nX _ (by simp [ha])) (g8 a ha o ho) (by rcases hc' with q | q <;> rw [q] <;> decide)
  live := fun dd h gg c hc' => by
    obtain ⟨i, e', hi, g1, g2, ⟨a, b, g3⟩, g4, g5, g6, g7, g8⟩ := gg
    simp at hc'
    rcases hc' with rfl | rfl | rfl | rfl | rfl | rfl | rfl | hc'
    · exact ⟨_, g1⟩
    · exact ⟨_, g3⟩
    · obtain ⟨o, ho, _⟩ := g4; exact ⟨o, ho⟩
    · obtain ⟨o, ho, _⟩ := g5; exact ⟨o, ho⟩
    · exact ⟨_, g2⟩
    · obtain ⟨o, ho, _⟩ := g6; exact ⟨o, ho⟩
    · obtain ⟨o, ho, _⟩ := g7; exact ⟨o, ho⟩
    · obtain ⟨_, o, ho, _⟩ := has c hc'
      exact ⟨o, g8 c hc' o ho⟩
  step := fun O d dd s tg Q E hT hO hl gg h => by
    obtain ⟨i, e', hi, g1, g2, ⟨a, b, g3⟩, g4, g5, g6, g7, g8⟩ := gg
    obtain ⟨ed, e'⟩ := drop_cons e'
    have hlt : i < min ds.length es.length := by have := (List.getElem?_eq_some_iff.mp ed).1; simpa [zipD] using this
    have hx1 : i < ds.length := by omega
    have hy1 : i < es.length := by omega
    have hd : d = .tuple [ds[i], es[i]] := by
      unfold zipD at ed
      rw [List.getElem?_map, List.getElem?_eq_getElem (by simp; omega)] at ed
      simp at ed
      exact ed.symm
    have hvx : xs[i]? = some xs[i] := Array.getElem?_eq_getElem (by omega)
    have hvy : ys[i]? = some ys[i] := Array.getElem?_eq_getElem (by omega)
    refine wpAny_pyNext_zip_item D g1 g2 g3 g4 g5 g6 g7 hvx hvy fun h' a1 a2 a3 a4 a5 a6 hk => h _ h' _ fun Q' E' hq => ?_
    obtain ⟨eles, n, p, rfl⟩ := hT
    refine wpAny_letOwnedTupleGo_zip a1 fun h2' hz' hs' => ?_
    have up : ∀ c o, c ≠ z → c ≠ TO → c ≠ i1 → c ≠ i2 → s.heap.get? c = some o → h2'.get? c = some o := fun c o q1 q2 q3 q4 q => hs'.extBut c o q1 (hk c o q1 q2 q3 q4 q)
    have h3' : ∀ a ∈ as, ∀ o, hc.get? a = some o → h2'.get? a = some o := fun a ha o ho => up a o (has a ha).1.1 (has a ha).1.2.1 (has a ha).1.2.2.1 (has a ha).1.2.2.2 (g8 a ha o ho)
    have cond : ∀ a ∈ as, a ∉ O ∧ ∀ o, hc.get? a = some o → h2'.get? a = some o := fun a ha => ⟨fun q => by
      have := hO a q (by simp [ha])
      obtain ⟨⟨q1, q2, q3, q4⟩, _⟩ := has a ha
      simp at this
      rcases this with z | z | z | z
      · exact q1 z
      · exact q2 z
      · exact q3 z
      · exact q4 z, h3' a ha⟩
    have hzlt : z < s.heap.objs.size := Heap.lt_size g1
    have hr : Rd O h2' (.ref s.heap.objs.size) d := by
      obtain ⟨v, ev, rv⟩ := Paired.get (rdAll_of (hFx O h2' cond)) (show ds[i]? = some ds[i] from List.getElem?_eq_getElem hx1)
      obtain ⟨u, eu, ru⟩ := Paired.get (rdAll_of (hFy O h2' cond)) (show es[i]? = some es[i] from List.getElem?_eq_getElem hy1)
      have q1 : xs.toList[i]? = some xs[i] := by simpa using hvx
      have q2 : ys.toList[i]? = some ys[i] := by simpa using hvy
      rw [q1] at ev; cases ev
      rw [q2] at eu; cases eu
      rw [hd]
      refine .tuple (vs := #[xs[i], ys[i]]) (n := 0) (fun q => ?_) (hs'.extBut _ _ (Nat.ne_of_gt hzlt) a5) rfl rfl (.cons rv (.cons ru .nil))
      obtain ⟨o, ho⟩ := hl _ q
      exact Nat.lt_irrefl _ (Heap.lt_size ho)
    have t4 := a3.extBut hs'.extBut D.i1z
    have t5 := a4.extBut hs'.extBut D.i2z
    refine hq h2' hr ⟨i + 1, e', hlt, hz', up TI _ D.TIz D.TITO D.TIi1 D.TIi2 g2, ⟨_, _, hs'.extBut _ _ D.TOz a2⟩, t4, t5, g6.at fun o q => up l1 o D.l1z D.l1TO D.l1i1 D.l1i2 q, g7.at fun o q => up l2 o D.l2z D.l2TO D.l2i1 D.l2i2 q, h3'⟩
      (.of_but (fun b o hb q => up b o (fun z => hb (by simp [z])) (fun z => hb (by simp [z])) (fun z => hb (by simp [z])) (fun z => hb (by simp [z])) q) fun b hb o hob => ?_)
    simp at hb
    rcases hb with qb | qb | qb | qb <;> rw [qb] at hob ⊢
    · rw [g1] at hob; cases hob; exact ⟨_, hz', fun _ => ⟨_, rfl⟩, rfl⟩
    · rw [g3] at hob; cases hob; exact ⟨_, hs'.extBut _ _ D.TOz a2, (fun ⟨_, q⟩ => by cases q), rfl⟩
    · obtain ⟨o1, ho1, hcc1, hd1⟩ := g4
      rw [hob] at ho1; cases ho1
      obtain ⟨o2, ho2, hcc2, hd2⟩ := t4
      exact ⟨o2, ho2, fun _ => ⟨_, hd1⟩, by rw [hcc1, hcc2]⟩
    · obtain ⟨o1, ho1, hcc1, hd1⟩ := g5
      rw [hob] at ho1; cases ho1
      obtain ⟨o2, ho2, hcc2, hd2⟩ := t5
      exact ⟨o2, ho2, fun _ => ⟨_, hd1⟩, by rw [hcc1, hcc2]⟩
  done := fun s Q E gg h => by
    obtain ⟨i, e', hi, g1, g2, ⟨a, b, g3⟩, g4, g5, g6, g7, g8⟩ := gg
    have hm : min ds.length es.length ≤ i := by
      have := congrArg List.length e'
      simp [zipD] at this; omega
    have hend : xs[i]? = none ∨ ys[i]? = none := by
      rcases Nat.le_total ds.length es.length with q | q
      · exact .inl (Array.getElem?_eq_none (by omega))
      · exact .inr (Array.getElem?_eq_none (by omega))
    exact wpAny_pyNext_zip_end hh D g1 g2 g3 g4 g5 g6 g7 hend fun h' hk => h h' s.toks fun c o hc e =>
      hk c o (fun x => hc (by simp [x])) (fun x => hc (by simp [x])) (fun x => hc (by simp [x])) (fun x => hc (by simp [x])) e
  self := fun dd s Q E gg h => by
    obtain ⟨i, e', hi, g1, _, _, _, _, _, _, _⟩ := gg
    exact wpAny_pyIter_zip g1 h
end
end Mine
end
section
open PySem.Calls PySem.Spec PySem.SeqAt
namespace Mine

theorem zipApart_of (n l1 l2 : Nat) (h1 : l1 < n) (h2 : l2 < n) : ZipApart (n+4) (n+2) (n+3) n (n+1) l1 l2 := by
  refine ⟨?_,?_,?_,?_,?_,?_,?_,?_,?_,?_,?_,?_,?_,?_,?_,?_,?_,?_⟩ <;> (refine fun h => ?_; change (_ : Nat) = _ at h; omega)
theorem ne_nat {a b : Addr} (h : Nat.lt a b ∨ Nat.lt b a) : a ≠ b := fun e => by
  subst e; exact h.elim (Nat.lt_irrefl _) (Nat.lt_irrefl _)
noncomputable def IsItr (w : World) (A : Around) (N : Nat) (T : Expr → Prop) (O : List Addr) (hp h : Heap) (it : Value) (xs : List PyData) : Prop :=
  ∃ fp It St, Itr w A N T it fp It St ∧ St xs h ∧ (∀ a ∈ It, hp.get? a = none) ∧ ∀ a ∈ fp, a ∉ O

noncomputable def ItE (w : World) (h₀ : Heap) (k : Nat) (sc : Scope) (δ : Str → Option PyData) (T : Expr → Prop) (e : Expr) (xs : List PyData) : Prop :=
  ∀ (O : List Addr) (env : Env) (A : Around) (s : Shared) (Q : Value → Shared → Prop) (E : Value → Shared → Prop), Ok h₀ k A s.heap → EnvR O s.heap env sc δ →
    (∀ x h1 t1, Kp h₀.objs.size s.heap h1 → (∀ (Q' : Value → Shared → Prop) (E' : Value → Shared → Prop), (∀ it h2 t2, IsItr w A h₀.objs.size T O s.heap h2 it xs → Kp h₀.objs.size s.heap h2 → Q' it { s with heap := h2, toks := t2 }) →
        wpAny (model P w) A (pyIter x) Q' E' { s with heap := h1, toks := t1 }) → Q x { s with heap := h1, toks := t1 }) → wpAny (model P w) A (eval e env) Q E s

noncomputable def CalleeOk (h₀ : Heap) (f : Value) : Prop := (∃ id, f = .builtin id) ∨ (∃ T, f = .type T) ∨ (∃ a o fd, f = .ref a ∧ h₀.get? a = some o ∧ o.data = .func fd)

section
variable {w : World} {h₀ : Heap} {k : Nat} {sc : Scope} {δ : Str → Option PyData}

theorem Gl.stays {h h' : Heap} {x : Str} {v : Value} (g : Gl h x v) (k : ∀ b o, h.get? b = some o → h'.get? b = some o) : Gl h' x v := by
  obtain ⟨mg, h1, h2⟩ := g
  refine ⟨mg, h1.keeps k, ?_⟩
  rcases h2 with h2 | ⟨h2, mb, h3, h4⟩
  · exact .inl h2
  · exact .inr ⟨h2, mb, h3.keeps k, h4⟩

theorem load_gl {O env A s Q E x v} {p : Pos} (ok : Ok h₀ k A s.heap) (er : EnvR O s.heap env sc δ) (hx : sc.names.lookup x = some .globalImplicit) (g : Gl h₀ x v) (h : Q v s) (hd : (x == ("__debug__" : Str)) = false := by decide) :
    wpAny (model P w) A (eval (.Name x p) env) Q E s := by
  have hk : env.kindOf x = some .globalImplicit := by
    rcases er.kinds _ _ hx with q | ⟨q, _⟩
    · exact q
    · cases q
  obtain ⟨mg, h1, h2⟩ := g.stays ok.stays
  refine Name_function_global er.kind hk ?_ hd
  rcases h2 with h2 | ⟨h2, mb, h3, h4⟩
  · exact loadGlobal_global (by rw [er.glb]; exact h1) h2 h
  · exact loadGlobal_builtin (by rw [er.glb]; exact h1) h2 (by rw [er.bi]; exact h3) h4 h

theorem call_gl {O env A s} {Q : Value → Shared → Prop} {E : Value → Shared → Prop} {x : Str} {f : Value} {e : Expr} {es : List Expr} {p pos : Pos} {ds : List PyData} (hx : sc.names.lookup x = some .globalImplicit) (g : Gl h₀ x f) (hf : CalleeOk h₀ f)
    (hev : EvEs w h₀ k sc δ (e :: es) ds) (ok : Ok h₀ k A s.heap) (er : EnvR O s.heap env sc δ)
    (h : ∀ vs h1 t1, RdAll O h1 vs ds → Kp h₀.objs.size s.heap h1 → wpAny (model P w) A (call f vs) Q E { s with heap := h1, toks := t1 })
    (he : ∀ env, starEach (e :: es) env = (false, eval e env) :: starEach es env := by intro _; rfl) (hpl : ∀ env, (backTo pos (starEach es env)).any (·.1) = false := by intro _; rfl) (hd : (x == ("__debug__" : Str)) = false := by decide) :
    wpAny (model P w) A (eval (.Call (.Name x p) (e :: es) [] pos) env) Q E s := by
  have hb : backTo pos (starEach (e :: es) env) = (false, eval e env) :: backTo pos (starEach es env) := by rw [he]; rfl
  refine Call_Name (trees := backTo pos (starEach (e :: es) env)) rfl (load_gl ok er hx g ?_ hd)
  have key : wpAny (model P w) A (spliced (backTo pos (starEach (e :: es) env))) (fun vs s₁ => Ok h₀ k A s₁.heap ∧ wpAny (model P w) A (call f vs) Q E s₁) E s :=
    hev pos O env A s _ _ ok er fun vs h1 t1 r kp => ⟨ok.kp kp, h vs h1 t1 r kp⟩
  have hany : (backTo pos (starEach (e :: es) env)).any (·.1) = false := by rw [hb, List.any_cons]; rw [hpl]; rfl
  rcases hf with ⟨id, rfl⟩ | ⟨T, rfl⟩ | ⟨a, o, fd, rfl, ho, hfd⟩
  · refine callWith_builtin hany ?_
    rw [hb] at key ⊢
    exact evalArgs_plain (wpAny_mono key (fun vs s₁ q => q.2) fun _ _ q => q)
  · refine PyProof.Rows.callWith_type hany ?_
    rw [hb] at key ⊢
    exact evalArgs_plain (wpAny_mono key (fun vs s₁ q => q.2) fun _ _ q => q)
  · refine callWith_function (o := o) (fd := fd) ?_
    rw [hb] at key ⊢
    exact evalArgs_plain (wpAny_mono key (fun vs s₁ q => ⟨⟨q.1.stays _ _ ho, hfd⟩, q.2⟩) fun _ _ q => q)

theorem ev_call {x : Str} {f : Value} {e : Expr} {es : List Expr} {p pos : Pos} {ds : List PyData} {d : PyData} (hx : sc.names.lookup x = some .globalImplicit) (g : Gl h₀ x f) (hf : CalleeOk h₀ f)
    (hev : EvEs w h₀ k sc δ (e :: es) ds) (hc : CallE w h₀ k f ds d)
    (he : ∀ env, starEach (e :: es) env = (false, eval e env) :: starEach es env := by intro _; rfl) (hpl : ∀ env, (backTo pos (starEach es env)).any (·.1) = false := by intro _; rfl) (hd : (x == ("__debug__" : Str)) = false := by decide) :
    EvE w h₀ k sc δ (.Call (.Name x p) (e :: es) [] pos) d := by
  intro O env A s Q E ok er h
  refine call_gl hx g hf hev ok er (fun vs h1 t1 r kp => ?_) he hpl hd
  exact hc O A { s with heap := h1, toks := t1 } vs _ _ (ok.kp kp) (er.kp kp).low r fun v h2 t2 r2 k2 => h v h2 t2 r2 (kp.trans k2)

theorem it_list {e : Expr} {xs : List PyData} (he : EvE w h₀ k sc δ e (.list xs)) : ItE w h₀ k sc δ (fun tg => TName tg ∨ TTup tg) e xs := by
  intro O env A s Q E ok er h
  refine he.then ok er fun v h1 t1 r k1 ok1 er1 => ?_
  obtain ⟨ax, vs, rfl, hax, hl, rl⟩ := r.list_inv
  replace hl := hl.isList
  refine h _ h1 t1 k1 fun Q' E' hq => ?_
  obtain ⟨as, hs, hF⟩ := rdL_firm (rdL_of rl)
  have hlen := rl.length
  refine wpAny_pyIter_list (s := { s with heap := h1, toks := t1 }) hl (hq _ _ t1 ?_ (k1.trans (Kp.push _ _)))
  have hI : h1.get? h1.objs.size = none := dead_size _ (Nat.le_refl _)
  have hne : ax ≠ h1.objs.size := by obtain ⟨o, ho, _⟩ := hl; exact Nat.ne_of_lt (Heap.lt_size ho)
  refine ⟨_, _, _, itr_list (hc := h1) ok.hh hne (by simpa using hlen) (fun a ha => ?_) hF, ⟨0, by simp, Nat.zero_le _, ⟨_, Heap.get?_push_size _ rfl, rfl, rfl⟩, hl.push _, fun a ha o ho => Heap.get?_push_of_some _ ho⟩, fun a ha => ?_, fun a ha => ?_⟩
  · obtain ⟨_, o, ho, hc⟩ := hs a ha
    exact ⟨Nat.ne_of_lt (Heap.lt_size ho), o, ho, hc⟩
  · rw [List.mem_singleton.mp ha]
    cases e' : s.heap.get? h1.objs.size with
    | none => rfl
    | some o => obtain ⟨o', q⟩ := k1.there e'; rw [hI] at q; cases q
  · rcases List.mem_cons.mp ha with rfl | ha
    · exact fresh_off er1.low
    rcases List.mem_cons.mp ha with rfl | ha
    · exact hax
    · exact (hs a ha).1

theorem range_itr {A : Around} {s : Shared} {O : List Addr} {hp : Heap} {a b : Int} {r : Addr} {t u v : Tok} {Q' : Value → Shared → Prop} {E' : Value → Shared → Prop} (hh : A.handled = none) (hr : IsRange s.heap r a b 1 t u v) (hsm : Builtin.Range.small a b 1 = true)
    (low : ∀ a ∈ O, ∃ o, s.heap.get? a = some o) (kp : Kp h₀.objs.size hp s.heap)
    (hq : ∀ it h2 t2, IsItr w A h₀.objs.size TName O hp h2 it (rangeD a 1 (b - a).toNat) → Kp h₀.objs.size hp h2 → Q' it { s with heap := h2, toks := t2 }) : wpAny (model P w) A (pyIter (.ref r)) Q' E' s := by
  refine wpAny_pyIter_range hr hsm (hq _ _ s.toks ?_ (kp.trans (Kp.push _ _)))
  have hI : s.heap.get? s.heap.objs.size = none := dead_size _ (Nat.le_refl _)
  refine ⟨_, _, _, itr_range (a := a) (c := 1) (n := (b - a).toNat) hh, ⟨0, by simp, Nat.zero_le _, ?_⟩, fun c hc => ?_, fun c hc => ?_⟩
  · have e1 : a + ((0 : Nat) : Int) * 1 = a := by simp
    have e2 : (((b - a).toNat : Nat) : Int) - ((0 : Nat) : Int) = (((b - a).toNat : Nat) : Int) := by simp
    rw [e1, e2, ← rangeSize_nat]
    exact Heap.get?_push_size _ rfl
  · rw [List.mem_singleton.mp hc]
    cases e' : hp.get? s.heap.objs.size with
    | none => rfl
    | some o => obtain ⟨o', q⟩ := kp.there e'; rw [hI] at q; cases q
  · rw [List.mem_singleton.mp hc]; exact fresh_off low

theorem it_range1 {e : Expr} {p pos : Pos} {n : Int} (hx : sc.names.lookup ("range" : Str) = some .globalImplicit) (g : Gl h₀ "range" (.type "range")) (he : EvE w h₀ k sc δ e (.int n)) (hsm : Builtin.Range.small 0 n 1 = true)
    (hs : ∀ env, starEach [e] env = (false, eval e env) :: starEach [] env := by intro _; rfl) :
    ItE w h₀ k sc δ TName (.Call (.Name "range" p) [e] [] pos) (rangeD 0 1 n.toNat) := by
  intro O env A s Q E ok er h
  refine call_gl hx g (.inr (.inl ⟨_, rfl⟩)) (evs_cons he evs_nil hs) ok er (fun vs h1 t1 r kp => ?_) hs
  cases r with
  | cons r1 r2 =>
  cases r2
  obtain ⟨t, rfl⟩ := r1.int_inv
  refine call_range_1 (s := { s with heap := h1, toks := t1 }) (h _ _ _ (kp.trans (Kp.push _ _)) fun Q' E' hq => ?_)
  have := range_itr (w := w) (h₀ := h₀) (A := A) (s := { s with heap := h1.push { cls := .type "range", data := .fields #[.int 0 t1, .int n t, .int 1 (t1 + 1)] }, toks := t1 + 1 + 1 }) (O := O) (hp := s.heap) (a := 0) (b := n) (E' := E') (Q' := Q') ok.hh (Heap.get?_push_size _ rfl) hsm
    (fun a ha => let ⟨o, e⟩ := (er.kp kp).low a ha; ⟨o, Heap.get?_push_of_some _ e⟩) (kp.trans (Kp.push _ _)) (by simpa using hq)
  exact this
theorem it_range2 {e e' : Expr} {p pos : Pos} {a b : Int} (hx : sc.names.lookup ("range" : Str) = some .globalImplicit) (g : Gl h₀ "range" (.type "range")) (he : EvE w h₀ k sc δ e (.int a)) (he' : EvE w h₀ k sc δ e' (.int b)) (hsm : Builtin.Range.small a b 1 = true)
    (hs : ∀ env, starEach [e, e'] env = (false, eval e env) :: starEach [e'] env := by intro _; rfl) (hs' : ∀ env, starEach [e'] env = (false, eval e' env) :: starEach [] env := by intro _; rfl) :
    ItE w h₀ k sc δ TName (.Call (.Name "range" p) [e, e'] [] pos) (rangeD a 1 (b - a).toNat) := by
  intro O env A s Q E ok er h
  refine call_gl hx g (.inr (.inl ⟨_, rfl⟩)) (evs_cons he (evs_cons he' evs_nil hs') hs) ok er (fun vs h1 t1 r kp => ?_) hs (fun env => by rw [hs']; rfl)
  cases r with
  | cons r1 r2 =>
  cases r2 with
  | cons r2 r3 =>
  cases r3
  obtain ⟨t, rfl⟩ := r1.int_inv
  obtain ⟨u, rfl⟩ := r2.int_inv
  refine call_range_2 (s := { s with heap := h1, toks := t1 }) (h _ _ _ (kp.trans (Kp.push _ _)) fun Q' E' hq => ?_)
  exact range_itr (w := w) (h₀ := h₀) (A := A) (s := { s with heap := h1.push { cls := .type "range", data := .fields #[.int a t, .int b u, .int 1 t1] }, toks := t1 + 1 }) (O := O) (hp := s.heap) (a := a) (b := b) (E' := E') (Q' := Q') ok.hh (Heap.get?_push_size _ rfl) hsm
    (fun a ha => let ⟨o, e⟩ := (er.kp kp).low a ha; ⟨o, Heap.get?_push_of_some _ e⟩) (kp.trans (Kp.push _ _)) hq

theorem it_enum {e : Expr} {p pos : Pos} {ds : List PyData} (hx : sc.names.lookup ("enumerate" : Str) = some .globalImplicit) (g : Gl h₀ "enumerate" (.type "enumerate")) (he : EvE w h₀ k sc δ e (.list ds))
    (hs : ∀ env, starEach [e] env = (false, eval e env) :: starEach [] env := by intro _; rfl) :
    ItE w h₀ k sc δ TTup (.Call (.Name "enumerate" p) [e] [] pos) (enumD ds) := by
  intro O env A s Q E ok er h
  refine call_gl hx g (.inr (.inl ⟨_, rfl⟩)) (evs_cons he evs_nil hs) ok er (fun vs h1 t1 r kp => ?_) hs
  cases r with
  | cons r1 r2 =>
  cases r2
  obtain ⟨ax, vs, rfl, hax, hl, rl⟩ := r1.list_inv
  replace hl := hl.isList
  obtain ⟨as, hs, hF⟩ := rdL_firm (rdL_of rl)
  have hlen := rl.length
  refine call_enumerate_list (s := { s with heap := h1, toks := t1 }) hl fun h2 he hit hsz hk => ?_
  simp only at he hit hsz hk
  have kp2 : Kp h₀.objs.size h1 h2 := .of_keeps hk
  refine h _ h2 t1 (kp.trans kp2) fun Q' E' hq => ?_
  refine wpAny_pyIter_enum (s := { s with heap := h2, toks := t1 }) he (hq _ _ _ ?_ (kp.trans kp2))
  have hlt : ax < h1.objs.size := by obtain ⟨o, ho, _⟩ := hl; exact Heap.lt_size ho
  have dead : ∀ a, h1.objs.size ≤ a → s.heap.get? a = none := fun a ha => by
    cases e' : s.heap.get? a with
    | none => rfl
    | some o => obtain ⟨o', q⟩ := kp.there e'; rw [dead_size _ ha] at q; cases q
  refine ⟨_, _, _, itr_enum (hc := h1) ok.hh (Nat.succ_ne_self _) (Nat.ne_of_lt (Nat.lt_succ_of_lt hlt)) (Nat.ne_of_lt hlt) (by simpa using hlen) (fun a ha => ?_) hF, ⟨0, by simp, Nat.zero_le _, ⟨_, he⟩, hit, hl.at fun o e => hk _ o e, fun a ha o ho => hk _ _ ho⟩, fun a ha => ?_, fun a ha => ?_⟩
  · obtain ⟨_, o, ho, hc⟩ := hs a ha
    exact ⟨Nat.ne_of_lt (Nat.lt_succ_of_lt (Heap.lt_size ho)), Nat.ne_of_lt (Heap.lt_size ho), o, ho, hc⟩
  · rcases List.mem_cons.mp ha with rfl | ha
    · exact dead _ (Nat.le_succ _)
    · rw [List.mem_singleton.mp ha]; exact dead _ (Nat.le_refl _)
  · have off : ∀ a, h1.objs.size ≤ a → a ∉ O := fun a ha q => by
      obtain ⟨o, e⟩ := er.low a q
      rw [dead a ha] at e; cases e
    rcases List.mem_cons.mp ha with rfl | ha
    · exact off _ (Nat.le_succ _)
    rcases List.mem_cons.mp ha with rfl | ha
    · exact off _ (Nat.le_refl _)
    rcases List.mem_cons.mp ha with rfl | ha
    · exact hax
    · exact (hs a ha).1

theorem it_zip {e e' : Expr} {p pos : Pos} {ds es : List PyData} (hx : sc.names.lookup ("zip" : Str) = some .globalImplicit) (g : Gl h₀ "zip" (.type "zip")) (he : EvE w h₀ k sc δ e (.list ds)) (he' : EvE w h₀ k sc δ e' (.list es))
    (hs : ∀ env, starEach [e, e'] env = (false, eval e env) :: starEach [e'] env := by intro _; rfl) (hs' : ∀ env, starEach [e'] env = (false, eval e' env) :: starEach [] env := by intro _; rfl) :
    ItE w h₀ k sc δ TTup (.Call (.Name "zip" p) [e, e'] [] pos) (zipD ds es) := by
  intro O env A s Q E ok er h
  refine call_gl hx g (.inr (.inl ⟨_, rfl⟩)) (evs_cons he (evs_cons he' evs_nil hs') hs) ok er (fun vs h1 t1 r kp => ?_) hs (fun env => by rw [hs']; rfl)
  cases r with
  | cons r1 r2 =>
  cases r2 with
  | cons r2 r3 =>
  cases r3
  obtain ⟨l1, xs, rfl, hl1O, hl1, rl1⟩ := r1.list_inv
  obtain ⟨l2, ys, rfl, hl2O, hl2, rl2⟩ := r2.list_inv
  replace hl1 := hl1.isList
  replace hl2 := hl2.isList
  obtain ⟨as, has, hFx⟩ := rdL_firm (rdL_of rl1)
  obtain ⟨bs, hbs, hFy⟩ := rdL_firm (rdL_of rl2)
  have hlx := rl1.length
  have hly := rl2.length
  refine call_zip_2 (s := { s with heap := h1, toks := t1 }) hl1 hl2 fun h2 g1 g2 g3 g4 g5 hsz hk => ?_
  simp only at g1 g2 g3 g4 g5 hsz hk
  have kp2 : Kp h₀.objs.size h1 h2 := .of_keeps hk
  refine h _ h2 t1 (kp.trans kp2) fun Q' E' hq => ?_
  refine wpAny_pyIter_zip (s := { s with heap := h2, toks := t1 }) g1 (hq _ _ _ ?_ (kp.trans kp2))
  have hlt1 : l1 < h1.objs.size := by obtain ⟨o, ho, _⟩ := hl1; exact Heap.lt_size ho
  have hlt2 : l2 < h1.objs.size := by obtain ⟨o, ho, _⟩ := hl2; exact Heap.lt_size ho
  have dead : ∀ a, h1.objs.size ≤ a → s.heap.get? a = none := fun a ha => by
    cases e' : s.heap.get? a with
    | none => rfl
    | some o => obtain ⟨o', q⟩ := kp.there e'; rw [dead_size _ ha] at q; cases q
  have off : ∀ a, h1.objs.size ≤ a → a ∉ O := fun a ha q => by
    obtain ⟨o, e⟩ := er.low a q
    rw [dead a ha] at e; cases e
  have D : ZipApart (h1.objs.size + 4) (h1.objs.size + 2) (h1.objs.size + 3) h1.objs.size (h1.objs.size + 1) l1 l2 := zipApart_of _ _ _ hlt1 hlt2
  refine ⟨_, _, _, itr_zip (hc := h1) (as := as ++ bs) ok.hh D (by simpa using hlx) (by simpa using hly) (fun a ha => ?_) (fun O' h' q => hFx O' h' fun a ha => q a (List.mem_append_left _ ha)) (fun O' h' q => hFy O' h' fun a ha => q a (List.mem_append_right _ ha)),
    ⟨0, by simp, Nat.zero_le _, g1, g2, ⟨_, _, g3⟩, g4, g5, hl1.at fun o e => hk _ o e, hl2.at fun o e => hk _ o e, fun a ha o ho => hk _ _ ho⟩, fun a ha => ?_, fun a ha => ?_⟩
  · obtain ⟨_, o, ho, hc⟩ := (has.app hbs) a ha
    have := Heap.lt_size ho
    exact ⟨⟨ne_nat (.inl (Nat.lt_add_right 4 this)), ne_nat (.inl (Nat.lt_add_right 3 this)), ne_nat (.inl this), ne_nat (.inl (Nat.lt_add_right 1 this))⟩, o, ho, hc⟩
  · simp at ha
    rcases ha with rfl | rfl | rfl | rfl
    · exact dead _ (Nat.le_add_right _ _)
    · exact dead _ (Nat.le_add_right _ _)
    · exact dead _ (Nat.le_refl _)
    · exact dead _ (Nat.le_add_right _ _)
  · simp at ha
    rcases ha with rfl | rfl | rfl | rfl | rfl | rfl | rfl | ha
    · first | exact off _ (Nat.le_add_right _ _) | exact off _ (Nat.le_refl _)
    · first | exact off _ (Nat.le_add_right _ _) | exact off _ (Nat.le_refl _)
    · first | exact off _ (Nat.le_add_right _ _) | exact off _ (Nat.le_refl _)
    · first | exact off _ (Nat.le_add_right _ _) | exact off _ (Nat.le_refl _)
    · first | exact off _ (Nat.le_add_right _ _) | exact off _ (Nat.le_refl _)
    · exact hl1O
    · exact hl2O
    · exact ((has.app hbs) a (List.mem_append.mpr ha)).1
end
end Mine
end
section
open PySem.Calls PySem.Spec PySem.SeqAt
namespace Mine

theorem compTurn_last {elt : Expr} {gens : List Comprehension} {scope : Scope} {pos : Pos} {dep : Nat} {target iter : Expr} {ifs : List Expr} {it acc : Value} {env : Env}
    (hg : gens[dep]? = some ⟨target, iter, ifs, 0⟩) (hg' : gens[dep + 1]? = none) :
    compTurn (.ListComp elt gens scope pos) dep it acc env = (do
      standAt iter.pos
      match ← pyNext it with
      | none => pure (.done .next)
      | some v =>
        letOwnedTupleGo target it v
        assign target env v
        let mut ok := true
        for c in ifs do
          if ok then ok ← isTrue c env (eval c env)
        if ok then
          (do let _ ← call (.builtin "list.append") [acc, ← eval elt env])
        again (.compLoop (.ListComp elt gens scope pos) dep it acc env)) := by
  unfold compTurn
  simp only [hg, hg']
  rfl
theorem compTurn_more {elt : Expr} {gens : List Comprehension} {scope : Scope} {pos : Pos} {dep : Nat} {target iter target' iter' : Expr} {ifs ifs' : List Expr} {it acc : Value} {env : Env}
    (hg : gens[dep]? = some ⟨target, iter, ifs, 0⟩) (hg' : gens[dep + 1]? = some ⟨target', iter', ifs', 0⟩) :
    compTurn (.ListComp elt gens scope pos) dep it acc env = (do
      standAt iter.pos
      match ← pyNext it with
      | none => pure (.done .next)
      | some v =>
        letOwnedTupleGo target it v
        assign target env v
        let mut ok := true
        for c in ifs do
          if ok then ok ← isTrue c env (eval c env)
        if ok then
          let x ← eval iter' env
          standAt iter'.pos
          let x ← foldedSetIterable iter' env x
          let _ ← runOwn (.compStart (.ListComp elt gens scope pos) (dep + 1) (← holding [x] (pyIter x)) acc env) env
          again (.compLoop (.ListComp elt gens scope pos) dep it acc env)
        else
          again (.compLoop (.ListComp elt gens scope pos) dep it acc env)) := by
  unfold compTurn
  simp only [hg, hg']
  rfl
theorem start_at {w : World} {A : Around} {R : Result → Shared → Prop} {s : Shared} {elt : Expr} {gens : List Comprehension} {scope : Scope} {pos : Pos} {dep : Nat} {target iter : Expr} {ifs : List Expr} {it acc : Value} {env : Env}
    (hg : gens[dep]? = some ⟨target, iter, ifs, 0⟩)
    (h0 : codeAny (model P w) A (.compLoop (.ListComp elt gens scope pos) dep it acc env) R s)
    (h : ∀ E, wpAny (model P w) A (pyIter it) (fun it' s' => codeAny (model P w) A (.compLoop (.ListComp elt gens scope pos) dep it' acc env) R s') E s) :
    codeAny (model P w) A (.compStart (.ListComp elt gens scope pos) dep it acc env) R s := by
  refine codeAny_of_tree ?_
  show wpAny _ _ ((compStart (.ListComp elt gens scope pos) dep it acc env).onRaise (fun x => do noteFrame x env; standAt theWindowsPlace)) _ _ s
  refine wpAny_notedAt ?_
  unfold compStart
  rw [show clausesOf (.ListComp elt gens scope pos) = gens from rfl]
  simp only [hg]
  refine wpAny_bind ?_
  refine wpAny_askSetting (wpAny_ite ?_)
  split
  · exact wpAny_pure (And.intro rfl h0)
  · exact wpAny_bind (wpAny_rule (wpAny_bind (wpAny_standAt (wpAny_bind (wpAny_mono (h _) (fun it' s' h' => wpAny_pure (And.intro rfl h')) fun _ _ x => x)))))

theorem BindT.keeps {tg d δ δ'} (b : BindT tg d δ δ') : ∀ y, y ∉ tnames tg → δ' y = δ y := by
  intro y hy
  cases b <;> simp [tnames_name, tnames_two, tnames_three] at hy <;> simp [upd, hy]

noncomputable def TestsE (w : World) (h₀ : Heap) (k : Nat) (sc : Scope) (δ : Str → Option PyData) : List Expr → Bool → Prop
  | [], b => b = true
  | c :: cs, b => ∃ b1, TrE w h₀ k sc δ c b1 ∧ (b1 = true → TestsE w h₀ k sc δ cs b) ∧ (b1 = false → b = false)

section
variable {w : World} {h₀ : Heap} {k : Nat} {sc : Scope} {δ : Str → Option PyData}

theorem tests_false {O : List Addr} {env : Env} {A : Around} {Q : Bool → Shared → Prop} {E : Value → Shared → Prop} {s : Shared} (h : Q false s) : ∀ (cs : List Expr),
    wpAny (model P w) A (forIn cs false fun c r => if r = true then do let ok ← PySem.isTrue c env (eval c env); pure (ForInStep.yield ok) else pure (ForInStep.yield r)) Q E s
  | [] => wpAny_pure h
  | c :: cs => by
    simp only [List.forIn_cons, Bool.false_eq_true, if_false]
    exact wpAny_bind (wpAny_pure (tests_false (O := O) h cs))
theorem tests_run {O : List Addr} {env : Env} {A : Around} {Q : Bool → Shared → Prop} {E : Value → Shared → Prop} : ∀ (cs : List Expr) (b : Bool) (s : Shared), TestsE w h₀ k sc δ cs b → Ok h₀ k A s.heap → EnvR O s.heap env sc δ →
    (∀ h tk, Kp h₀.objs.size s.heap h → Q b { s with heap := h, toks := tk }) →
    wpAny (model P w) A (forIn cs true fun c r => if r = true then do let ok ← PySem.isTrue c env (eval c env); pure (ForInStep.yield ok) else pure (ForInStep.yield r)) Q E s
  | [], b, s, ht, ok, er, h => by
    cases ht
    exact wpAny_pure (h s.heap s.toks (Kp.refl _ _))
  | c :: cs, b, s, ⟨b1, h1, h2, h3⟩, ok, er, h => by
    simp only [List.forIn_cons, if_true]
    refine wpAny_bind (wpAny_bind (h1.then ok er fun g1 t1 k1 ok1 er1 => wpAny_pure ?_))
    show wpAny _ _ (forIn cs b1 _) _ _ _
    cases b1 with
    | false =>
      have hb := h3 rfl
      subst hb
      exact tests_false (O := O) (h g1 t1 k1) cs
    | true => exact tests_run cs b { s with heap := g1, toks := t1 } (h2 rfl) ok1 er1 fun g2 t2 k2 => h g2 t2 (k1.trans k2)

theorem isList_kind {X : List Addr} {N : Nat} {h h' : Heap} {D : Addr} {vs vs'} (e : h.PlainList D vs) (e' : h'.PlainList D vs') (hs : Heap.SameBut D h h') (hX : D ∈ X) : KpX X N h h' := .of_sameBut hs hX (list_kind e.isList e'.isList)

theorem EnvR.but {O O' It h h' env} (r : EnvR O h env sc δ) (hk : ∀ b o, b ∉ It → h.get? b = some o → h'.get? b = some o) (hO : ∀ a ∈ O', a ∈ O ∧ a ∉ It) (hIt : ∀ a ∈ It, a ∈ O) (hf : Off It env) : EnvR O' h' env sc δ := by
  have hl : env.locals ∉ It := fun q => (hf _ q).1 rfl
  have hc : ∀ x c, env.cells.lookup x = some c → c ∉ It := fun x c e q => (hf _ q).2 x c e rfl
  have ns : ∀ m, h.Ns env.locals m → h'.Ns env.locals m := fun m ⟨o, es, ep, ho, q⟩ => ⟨o, es, ep, hk _ _ hl ho, q⟩
  have cel : ∀ x c v, env.cells.lookup x = some c → h.IsCell c v → h'.IsCell c v := fun x c v e ⟨o, ho, q⟩ => ⟨o, hk _ _ (hc x c e) ho, q⟩
  refine ⟨r.kind, r.glb, r.bi, r.kinds, fun x d e => ?_, fun a ha => ?_, r.apart, r.cells, let ⟨m, e⟩ := r.loc; ⟨m, ns m e⟩, fun x c e => let ⟨v, hv⟩ := r.cel x c e; ⟨v, cel x c v e hv⟩⟩
  · obtain ⟨v, h1, h2⟩ := r.val x d e
    exact ⟨v, rd_map (fun b o e hb _ => hk b o (fun q => hb (hIt b q)) e) (fun b hb _ q => hb (hO b q).1) h1, h2.stays ns (fun c v e hv => cel x c v e hv)⟩
  · obtain ⟨o, e⟩ := r.low a (hO a ha).1
    exact ⟨o, hk _ _ (hO a ha).2 e⟩
theorem KpX.but {X It : List Addr} {N : Nat} {hp h h' : Heap} (kp : KpX X N hp h) (hk : ∀ b o, b ∉ It → h.get? b = some o → h'.get? b = some o) (hItp : ∀ a ∈ It, hp.get? a = none) (hX : ∀ a ∈ X, a ∉ It) : KpX X N hp h' :=
  ⟨fun b o hb e => by
    have hbI : b ∉ It := fun q => by rw [hItp b q] at e; cases e
    rcases kp.keep b o hb e with e1 | ⟨q1, q2, sl, e1⟩
    · exact .inl (hk _ _ hbI e1)
    · exact .inr ⟨q1, q2, sl, hk _ _ hbI e1⟩, fun b hb o e => by
    obtain ⟨o', e', q⟩ := kp.live b hb o e
    exact ⟨o', hk _ _ (hX b hb) e', q⟩⟩

theorem comp_walk {elt target iter : Expr} {gens : List Comprehension} {ifs : List Expr} {pos : Pos} {dep : Nat} {it : Value} {D : Addr} {env : Env} {A : Around} {T : Expr → Prop} {O X fp It : List Addr} {St : List PyData → Heap → Prop} {hp : Heap}
    {f : PyData → List PyData} {R : Result → Shared → Prop} (G : List Value → List PyData → Heap → Prop) (hG1 : ∀ vs ds h h', G vs ds h → KpX It h₀.objs.size h h' → G vs ds h') (hG2 : ∀ vs ds h h', G vs ds h → KpX X h₀.objs.size h h' → G vs ds h') (hG3 : ∀ vs ds h h', G vs ds h → Kp h₀.objs.size h h' → G vs ds h')
    (hG4 : ∀ vs ds h h', G vs ds h → (∀ b o, b ∉ It → h.get? b = some o → h'.get? b = some o) → G vs ds h') (BODY : Sem Fin → Sem Fin)
    (heq : compTurn (.ListComp elt gens sc pos) dep it (.ref D) env = (do
      standAt iter.pos
      match ← pyNext it with
      | none => pure (.done .next)
      | some v =>
        letOwnedTupleGo target it v
        assign target env v
        let mut ok := true
        for c in ifs do
          if ok then ok ← isTrue c env (eval c env)
        if ok then BODY (again (.compLoop (.ListComp elt gens sc pos) dep it (.ref D) env)) else again (.compLoop (.ListComp elt gens sc pos) dep it (.ref D) env)))
    (itr : Itr w A h₀.objs.size T it fp It St) (hT : T target) (hItO : ∀ a ∈ It, a ∈ O) (hfpO : ∀ a ∈ O, a ∈ fp → a ∈ It) (hItp : ∀ a ∈ It, hp.get? a = none) (hIt0 : ∀ a ∈ It, h₀.get? a = none) (hIte : Off It env)
    (hXO : ∀ a ∈ X, a ∈ O) (hX0 : ∀ a ∈ X, h₀.get? a = none) (hXI : ∀ a ∈ X, a ∉ It) (hDO : D ∈ O) (hD0 : h₀.get? D = none) (hDI : D ∉ It) (hDX : D ∉ X) (hDe : Off [D] env)
    (hw : ∀ x ∈ tnames target, Wrt X env sc x) (hn : ∀ x ∈ tnames target, δ x = none) :
    ∀ (xs : List PyData),
    (∀ x ∈ xs, ∃ δ' b, BindT target x δ δ' ∧ TestsE w h₀ k sc δ' ifs b ∧ (b = false → f x = []) ∧ (b = true → ∀ (ag : Sem Fin) (s : Shared) (Q : Fin → Shared → Prop) (E : Value → Shared → Prop) vs ds, Ok h₀ k A s.heap → EnvR O s.heap env sc δ' →
      s.heap.PlainList D vs → G vs.toList ds s.heap → ds.length + (f x).length ≤ sizeLine →
      (∀ h tk vs', EnvR O h env sc δ' → KpX (D :: X) h₀.objs.size s.heap h → h.PlainList D vs' → G vs'.toList (ds ++ f x) h → wpAny (model P w) A ag Q E { s with heap := h, toks := tk }) → wpAny (model P w) A (BODY ag) Q E s)) →
    ∀ (s : Shared) vs ds, St xs s.heap → Ok h₀ k A s.heap → EnvR O s.heap env sc δ → s.heap.PlainList D vs → G vs.toList ds s.heap → ds.length + (xs.flatMap f).length ≤ sizeLine → KpX (D :: X) h₀.objs.size hp s.heap →
    (∀ h tk vs', (∀ O', (∀ a ∈ O', a ∈ O ∧ a ∉ It) → EnvR O' h env sc δ) → KpX (D :: X) h₀.objs.size hp h → h.PlainList D vs' → G vs'.toList (ds ++ xs.flatMap f) h → R (.ok .next) { s with heap := h, toks := tk }) →
    codeAny (model P w) A (.compLoop (.ListComp elt gens sc pos) dep it (.ref D) env) R s := by
  intro xs
  induction xs with
  | nil =>
    intro hb s vs ds hst ok er hl rl hlen kp hR
    refine codeAny_of_tree ?_
    show wpAny _ A ((compTurn (.ListComp elt gens sc pos) dep it (.ref D) env).onRaise (fun x => do noteFrame x env; theTreesLotGoes x)) _ _ s
    refine wpAny_noted ?_
    rw [heq]
    refine wpAny_bind (wpAny_standAt (wpAny_bind (itr.done s _ _ hst fun h tk hk => wpAny_pure ?_)))
    refine hR h tk vs (fun O' hO' => er.but hk hO' hItO hIte) (kp.but hk hItp fun a ha => ?_) (hl.at fun o e => hk _ o hDI e) ?_
    · rcases List.mem_cons.mp ha with rfl | ha
      · exact hDI
      · exact hXI a ha
    · simpa using hG4 _ _ _ _ rl hk
  | cons d xs ih =>
    intro hb s vs ds hst ok er hl rl hlen kp hR
    refine codeAny_of_tree ?_
    show wpAny _ A ((compTurn (.ListComp elt gens sc pos) dep it (.ref D) env).onRaise (fun x => do noteFrame x env; theTreesLotGoes x)) _ _ s
    refine wpAny_noted ?_
    rw [heq]
    obtain ⟨δ', b, hbind, htests, hbf, hbt⟩ := hb d (.head _)
    refine wpAny_bind (wpAny_standAt (wpAny_bind (itr.step O d xs s target _ _ hT hfpO er.low hst fun v h1 t1 hgo => ?_)))
    refine wpAny_bind (hgo _ _ fun h2 rv hst2 k2 => ?_)
    have er2 := er.kpx k2 hItO hIte
    have ok2 := ok.kpx k2 hIt0
    have hl2 := k2.plain hDI hl
    have rl2 := hG1 _ _ _ _ rl k2
    refine wpAny_bind (assign_d (N := h₀.objs.size) (s := { s with heap := h2, toks := t1 }) ok.hh er2 hbind hw hXO rv fun h3 t3 er3 k3 hb3 => ?_)
    have ok3 := ok2.kpx k3 hX0
    have hl3 := k3.plain hDX hl2
    have rl3 := hG2 _ _ _ _ rl2 k3
    have hst3 := itr.keep _ _ _ _ hst2 k3 fun a ha q => hXI a ha (hfpO a (hXO a ha) q)
    refine wpAny_bind (tests_run ifs b { s with heap := h3, toks := t3 } htests ok3 er3 fun h4 t4 k4 => ?_)
    have ok4 := ok3.kp k4
    have er4 := er3.kp k4
    have hl4 := Kp.plain k4 hl3
    have rl4 := hG3 _ _ _ _ rl3 k4
    have hst4 := itr.keep _ _ _ [] hst3 k4.x fun a ha => by cases ha
    have kp4 : KpX (D :: X) h₀.objs.size hp h4 := by
      have q2 : KpX (D :: X ++ It) h₀.objs.size hp s.heap := kp.mono fun a ha => .inl (List.mem_append_left _ ha)
      have q3 : KpX (D :: X ++ It) h₀.objs.size s.heap h2 := k2.mono fun a ha => .inl (List.mem_append_right _ ha)
      have q4 : KpX (D :: X ++ It) h₀.objs.size h2 h3 := k3.mono fun a ha => .inl (List.mem_append_left _ (.tail _ ha))
      refine (((q2.trans q3).trans q4).trans k4.x).mono fun a ha => ?_
      rcases List.mem_append.mp ha with q | q
      · exact .inl q
      · exact .inr (hItp a q)
    have hlen' : ds.length + ((f d).length + (xs.flatMap f).length) ≤ sizeLine := by simpa [List.flatMap_cons] using hlen
    have hb' := fun x hx => hb x (List.mem_cons_of_mem _ hx)
    have er4' : EnvR O h4 env sc δ := er4.forget fun x dx e => by
      by_cases hx : x ∈ tnames target
      · rw [hn x hx] at e; cases e
      · rw [hbind.keeps x hx]; exact e
    cases b with
    | false =>
      have hf := hbf rfl
      refine wpAny_pure ⟨rfl, ?_⟩
      refine ih hb' { s with heap := h4, toks := t4 } vs ds hst4 ok4 er4' hl4 rl4 (by rw [hf] at hlen'; simpa using hlen') kp4 fun h tk vs' e1 e2 e3 e4 => ?_
      exact hR h tk vs' e1 e2 e3 (by simpa [List.flatMap_cons, hf] using e4)
    | true =>
      refine hbt rfl _ { s with heap := h4, toks := t4 } _ _ vs ds ok4 er4 hl4 rl4 (by omega) fun h5 t5 vs5 er5 k5 hl5 rl5 => ?_
      have hDX0 : ∀ a ∈ D :: X, h₀.get? a = none := fun a ha => by
        rcases List.mem_cons.mp ha with rfl | ha
        · exact hD0
        · exact hX0 a ha
      have er5' : EnvR O h5 env sc δ := er5.forget fun x dx e => by
        by_cases hx : x ∈ tnames target
        · rw [hn x hx] at e; cases e
        · rw [hbind.keeps x hx]; exact e
      have hst5 := itr.keep _ _ _ _ hst4 k5 fun a ha q => by
        rcases List.mem_cons.mp ha with rfl | ha
        · exact hDI (hfpO a hDO q)
        · exact hXI a ha (hfpO a (hXO a ha) q)
      refine wpAny_pure ⟨rfl, ?_⟩
      refine ih hb' { s with heap := h5, toks := t5 } vs5 (ds ++ f d) hst5 (ok4.kpx k5 hDX0) er5' hl5 rl5 (by simp only [List.length_append]; omega) (kp4.trans k5) fun h tk vs' e1 e2 e3 e4 => ?_
      exact hR h tk vs' e1 e2 e3 (by simpa [List.flatMap_cons] using e4)
end
end Mine
end
section
open PySem.Calls PySem.Spec PySem.SeqAt
namespace Mine

noncomputable def CmpB (w : World) (h₀ : Heap) (k : Nat) (sc : Scope) (elt : Expr) : List Comprehension → (Str → Option PyData) → List PyData → Prop
  | [], δ, r => ∃ d, r = [d] ∧ EvE w h₀ k sc δ elt d
  | g :: gs, δ, r => g.is_async = 0 ∧ ∃ T xs f, ItE w h₀ k sc δ T g.iter xs ∧ T g.target ∧ (∀ x ∈ tnames g.target, (sc.names.lookup x = some .local ∨ sc.names.lookup x = some .cell) ∧ δ x = none) ∧ r = xs.flatMap f ∧
      (∀ env v, foldedSetIterable g.iter env v = pure v) ∧
      ∀ x ∈ xs, ∃ δ' b, BindT g.target x δ δ' ∧ TestsE w h₀ k sc δ' g.ifs b ∧ (b = false → f x = []) ∧ (b = true → CmpB w h₀ k sc elt gs δ' (f x))

section
variable {w : World} {h₀ : Heap} {k : Nat} {sc : Scope}

theorem drop_get {α : Type} {l : List α} {n : Nat} {a : α} {r : List α} (h : l.drop n = a :: r) : l[n]? = some a ∧ l.drop (n + 1) = r := by
  constructor
  · have : (l.drop n)[0]? = some a := by rw [h]; rfl
    simpa using this
  · have := congrArg List.tail h
    simpa using this

theorem comp_all {elt : Expr} {gens : List Comprehension} {pos : Pos} (hall : ∀ g ∈ gens, g.is_async = 0) : ∀ (gs : List Comprehension) (g : Comprehension) (dep : Nat) (hd : gens.drop dep = g :: gs) (ha : g.is_async = 0) {it : Value} {D : Addr} {env : Env} {A : Around} {T : Expr → Prop} {O X fp It : List Addr} {St : List PyData → Heap → Prop} {hp : Heap} {δ : Str → Option PyData}
    {f : PyData → List PyData} {R : Result → Shared → Prop}
    (itr : Itr w A h₀.objs.size T it fp It St) (hT : T g.target) (hItO : ∀ a ∈ It, a ∈ O) (hfpO : ∀ a ∈ O, a ∈ fp → a ∈ It) (hItp : ∀ a ∈ It, hp.get? a = none) (hIt0 : ∀ a ∈ It, h₀.get? a = none) (hIte : Off It env)
    (hXO : ∀ a ∈ X, a ∈ O) (hX0 : ∀ a ∈ X, h₀.get? a = none) (hXI : ∀ a ∈ X, a ∉ It) (hDO : D ∈ O) (hD0 : h₀.get? D = none) (hDI : D ∉ It) (hDX : D ∉ X) (hDe : Off [D] env)
    (hw : ∀ x, sc.names.lookup x = some .local ∨ sc.names.lookup x = some .cell → Wrt X env sc x) (hn : ∀ x ∈ tnames g.target, (sc.names.lookup x = some .local ∨ sc.names.lookup x = some .cell) ∧ δ x = none)
    (xs : List PyData) (hb : ∀ x ∈ xs, ∃ δ' b, BindT g.target x δ δ' ∧ TestsE w h₀ k sc δ' g.ifs b ∧ (b = false → f x = []) ∧ (b = true → CmpB w h₀ k sc elt gs δ' (f x)))
    (s : Shared) (vs ds) (hst : St xs s.heap) (ok : Ok h₀ k A s.heap) (er : EnvR O s.heap env sc δ) (hl : s.heap.PlainList D vs) (rl : RdAll O s.heap vs.toList ds) (hlen : ds.length + (xs.flatMap f).length ≤ sizeLine) (kp : KpX (D :: X) h₀.objs.size hp s.heap)
    (hR : ∀ h tk vs', (∀ O', (∀ a ∈ O', a ∈ O ∧ a ∉ It) → EnvR O' h env sc δ) → KpX (D :: X) h₀.objs.size hp h → h.PlainList D vs' → RdAll O h vs'.toList (ds ++ xs.flatMap f) → R (.ok .next) { s with heap := h, toks := tk }),
    codeAny (model P w) A (.compLoop (.ListComp elt gens sc pos) dep it (.ref D) env) R s := by
  intro gs
  induction gs with
  | nil =>
    intro g dep hd ha
    obtain ⟨target, iter, ifs, az⟩ := g
    cases ha
    intro it D env A T O X fp It St hp δ f R itr hT hItO hfpO hItp hIt0 hIte hXO hX0 hXI hDO hD0 hDI hDX hDe hw hn xs hb s vs ds hst ok er hl rl hlen kp hR
    obtain ⟨hg, hr⟩ := drop_get hd
    have hg' : gens[dep + 1]? = none := by
      have := congrArg List.length hr
      simp at this
      exact List.getElem?_eq_none (by omega)
    refine comp_walk (fun vs ds h => RdAll O h vs ds) (fun _ _ _ _ r k => r.kpx k hItO) (fun _ _ _ _ r k => r.kpx k hXO) (fun _ _ _ _ r k => RdAll.kp r k) (fun _ _ _ _ r hk => r.mono fun v d r => rd_map (fun b o e hb _ => hk b o (fun q => hb (hItO b q)) e) (fun _ q _ => q) r) (fun ag => (do let _ ← call (.builtin "list.append") [.ref D, ← eval elt env]) >>= fun _ => ag) (compTurn_last hg hg') itr hT hItO hfpO hItp hIt0 hIte hXO hX0 hXI hDO hD0 hDI hDX hDe (fun x hx => hw x (hn x hx).1) (fun x hx => (hn x hx).2) xs (fun x hx => ?_) s vs ds hst ok er hl rl hlen kp hR
    obtain ⟨δ', b, b1, b2, b3, b4⟩ := hb x hx
    refine ⟨δ', b, b1, b2, b3, fun hbt ag s Q E vs ds ok er hl rl hlen h => ?_⟩
    obtain ⟨d, hd, hev⟩ := b4 hbt
    rw [hd] at hlen h
    refine wpAny_bind (wpAny_bind (hev.then ok er fun v h1 t1 rv k1 ok1 er1 => wpAny_bind ?_))
    have hl1 := Kp.plain k1 hl
    have hsz : vs.size ≤ sizeLine := by
      have := rl.length
      simp at this hlen; omega
    refine wpAny_list_append_plain (s := { s with heap := h1, toks := t1 }) (hsz := hsz) hl1 fun h2 hl2 hs2 => wpAny_pure ?_
    have k2 : KpX [D] h₀.objs.size h1 h2 := isList_kind hl1 hl2 hs2 (.head _)
    have hDO' : ∀ a ∈ [D], a ∈ O := fun a ha => by rw [List.mem_singleton.mp ha]; exact hDO
    refine h h2 t1 _ (er1.kpx k2 hDO' hDe) (k1.x.trans (k2.mono fun a ha => .inl (by rw [List.mem_singleton.mp ha]; exact .head _))) hl2 ?_
    have r1 := (RdAll.kp rl k1).kpx k2 hDO'
    have r2 := rv.kpx k2 hDO'
    simpa using Paired.append r1 (Paired.cons r2 .nil)
  | cons g' gs ih =>
    intro g dep hd ha
    obtain ⟨target, iter, ifs, az⟩ := g
    obtain ⟨target', iter', ifs', az'⟩ := g'
    cases ha
    intro it D env A T O X fp It St hp δ f R itr hT hItO hfpO hItp hIt0 hIte hXO hX0 hXI hDO hD0 hDI hDX hDe hw hn xs hb s vs ds hst ok er hl rl hlen kp hR
    obtain ⟨hg, hr⟩ := drop_get hd
    obtain ⟨hg', hr'⟩ := drop_get hr
    have haz : az' = 0 := hall _ (List.mem_of_getElem? hg')
    subst haz
    refine comp_walk (fun vs ds h => RdAll O h vs ds) (fun _ _ _ _ r k => r.kpx k hItO) (fun _ _ _ _ r k => r.kpx k hXO) (fun _ _ _ _ r k => RdAll.kp r k) (fun _ _ _ _ r hk => r.mono fun v d r => rd_map (fun b o e hb _ => hk b o (fun q => hb (hItO b q)) e) (fun _ q _ => q) r) (fun ag => do
        let x ← eval iter' env
        standAt iter'.pos
        let x ← foldedSetIterable iter' env x
        let _ ← runOwn (.compStart (.ListComp elt gens sc pos) (dep + 1) (← holding [x] (pyIter x)) (.ref D) env) env
        ag) (compTurn_more hg hg') itr hT hItO hfpO hItp hIt0 hIte hXO hX0 hXI hDO hD0 hDI hDX hDe (fun x hx => hw x (hn x hx).1) (fun x hx => (hn x hx).2) xs (fun x hx => ?_) s vs ds hst ok er hl rl hlen kp hR
    obtain ⟨δ', b, b1, b2, b3, b4⟩ := hb x hx
    refine ⟨δ', b, b1, b2, b3, fun hbt ag s Q E vs ds ok er hl rl hlen h => ?_⟩
    obtain ⟨-, T2, xs2, f2, hit, hT2, hn2, hd2, hfs, hb2⟩ := b4 hbt
    rw [hd2] at hlen h
    refine wpAny_bind (hit O env A s _ _ ok er fun xv h1 t1 k1 hgo => wpAny_bind (wpAny_standAt (wpAny_bind (wpAny_of_eq (hfs env xv) (wpAny_bind (wpAny_holding (hgo _ _ fun it2 h2 t2 hitr k2 => wpAny_bind ?_)))))))
    obtain ⟨fp2, It2, St2, itr2, hst2, hdead, hfp2⟩ := hitr
    have alive : ∀ a ∈ O, a ∉ It2 := fun a ha q => by obtain ⟨o, e⟩ := er.low a ha; rw [hdead a q] at e; cases e
    have hmore : ∀ a ∈ It2 ++ O, a ∈ O ∨ s.heap.get? a = none := fun a ha => (List.mem_append.mp ha).elim (fun q => .inr (hdead a q)) .inl
    have er2 : EnvR (It2 ++ O) h2 env sc δ' := er.more hmore k2 fun a ha => (List.mem_append.mp ha).elim (fun q => itr2.live _ _ hst2 a (itr2.sub a q)) fun q => k2.there (er.low a q).choose_spec
    have loop : ∀ st, st = ({ s with heap := h2, toks := t2 } : Shared) → codeAny (model P w) A (.compLoop (.ListComp elt gens sc pos) (dep + 1) it2 (.ref D) env) (fun r s' => match r with | .ok f => wpAny (model P w) A ag Q E s' | .error e => cameBackBy (model P w) A env E e s') st := by
      rintro st rfl
      refine ih ⟨target', iter', ifs', 0⟩ (dep + 1) hr rfl itr2 hT2 (O := It2 ++ O) (X := X) (hp := s.heap) (fun a ha => List.mem_append_left _ ha) (fun a ha q => (List.mem_append.mp ha).elim id fun z => absurd z (hfp2 a q)) hdead (fun a ha => ok.dead (hdead a ha)) (er.off_fresh hdead)
        (fun a ha => List.mem_append_right _ (hXO a ha)) hX0 (fun a ha => alive a (hXO a ha)) (List.mem_append_right _ hDO) hD0 (alive D hDO) hDX hDe hw hn2 xs2 hb2 _ vs ds hst2 (ok.kp k2) er2 (Kp.plain k2 hl) (RdAll.kp (rl.more hmore) k2) hlen k2.x fun h3 t3 vs3 e1 e2 e3 e4 => ?_
      exact h h3 t3 vs3 (e1 O fun a ha => ⟨List.mem_append_right _ ha, alive a ha⟩) e2 e3 (e4.mono fun _ _ r => r.sub fun a ha => List.mem_append_right _ ha)
    refine wpAny_runOwn (show codeAny (model P w) A _ _ _ from start_at hg' (loop _ rfl) fun E => ?_)
    exact itr2.self _ _ _ _ hst2 (loop _ rfl)
end
end Mine
end
section
open PySem.Calls PySem.Spec PySem.SeqAt
namespace Mine

noncomputable def closL (env : Env) : List (Str × NameKind) → List (Str × Addr) → List (Str × Addr)
  | [], acc => acc
  | (n, k) :: r, acc => if k == .free then closL env r ((n, (env.cells.lookup n).getD 0) :: acc) else closL env r acc

theorem closureFor_eq {scope : Scope} {env : Env} (h : ∀ n, (n, NameKind.free) ∈ scope.names → ∃ c, env.cells.lookup n = some c) : closureFor scope env = pure (closL env scope.names []) := by
  unfold closureFor
  have key : ∀ (names : List (Str × NameKind)) (acc : List (Str × Addr)), (∀ n, (n, NameKind.free) ∈ names → ∃ c, env.cells.lookup n = some c) →
      (forIn names acc fun (x : Str × NameKind) (cs : List (Str × Addr)) => match x with | (name, kind) => if kind == NameKind.free then (do let y ← cellOf env name; pure (ForInStep.yield ((name, y) :: cs))) else pure (ForInStep.yield cs) : Sem (List (Str × Addr))) = pure (closL env names acc) := by
    intro names
    induction names with
    | nil => intro acc _; rfl
    | cons x r ih =>
      intro acc hx
      obtain ⟨n, k⟩ := x
      rw [List.forIn_cons]
      have hr := fun m hm => hx m (List.mem_cons_of_mem _ hm)
      unfold closL
      by_cases hk : k = .free
      · subst hk
        obtain ⟨c, hc⟩ := hx n (.head _)
        have e : cellOf env n = pure c := by unfold cellOf; rw [hc]
        simp only [beq_self_eq_true, if_true, e, hc, Option.getD_some]
        exact ih _ hr
      · have : (k == NameKind.free) = false := by simpa using hk
        simp only [this, Bool.false_eq_true, if_false]
        exact ih _ hr
  exact (congrArg (fun t : Sem (List (Str × Addr)) => t >>= fun s => pure s) (key scope.names [] h)).trans rfl

theorem closL_mem {env : Env} : ∀ {names : List (Str × NameKind)} {acc : List (Str × Addr)} {x c}, (∀ n, (n, NameKind.free) ∈ names → ∃ c, env.cells.lookup n = some c) → (x, c) ∈ closL env names acc →
    (x, c) ∈ acc ∨ ((x, NameKind.free) ∈ names ∧ env.cells.lookup x = some c)
  | [], acc, x, c, _, h => .inl h
  | (n, k) :: r, acc, x, c, hx, h => by
    unfold closL at h
    have hr := fun m hm => hx m (List.mem_cons_of_mem _ hm)
    by_cases hk : k = .free
    · subst hk
      simp only [beq_self_eq_true, if_true] at h
      rcases closL_mem hr h with q | ⟨q, e⟩
      · rcases List.mem_cons.mp q with q | q
        · cases q
          obtain ⟨c', hc'⟩ := hx n (.head _)
          refine .inr ⟨.head _, ?_⟩
          rw [hc']; rfl
        · exact .inl q
      · exact .inr ⟨.tail _ q, e⟩
    · have : (k == NameKind.free) = false := by simpa using hk
      simp only [this, Bool.false_eq_true, if_false] at h
      rcases closL_mem hr h with q | ⟨q, e⟩
      · exact .inl q
      · exact .inr ⟨.tail _ q, e⟩
theorem lookup_cons_some {α : Type} {l : List (Str × α)} {n m : Str} {a : α} (h : ∃ c, l.lookup m = some c) : ∃ c, ((n, a) :: l).lookup m = some c := by
  rw [List.lookup_cons]
  cases m == n
  · exact h
  · exact ⟨a, rfl⟩
theorem closL_some {env : Env} : ∀ {names : List (Str × NameKind)} {acc : List (Str × Addr)} {x}, (x, NameKind.free) ∈ names ∨ (∃ c, acc.lookup x = some c) → ∃ c, (closL env names acc).lookup x = some c
  | [], acc, x, h => h.elim (fun q => by cases q) id
  | (n, k) :: r, acc, x, h => by
    unfold closL
    by_cases hk : k = .free
    · subst hk
      simp only [beq_self_eq_true, if_true]
      refine closL_some (x := x) ?_
      rcases h with h | h
      · rcases List.mem_cons.mp h with q | q
        · cases q
          exact .inr ⟨(env.cells.lookup n).getD 0, by rw [List.lookup_cons, beq_self_eq_true]⟩
        · exact .inl q
      · exact .inr (lookup_cons_some h)
    · have : (k == NameKind.free) = false := by simpa using hk
      simp only [this, Bool.false_eq_true, if_false]
      refine closL_some ?_
      rcases h with h | h
      · rcases List.mem_cons.mp h with q | q
        · cases q; exact absurd rfl hk
        · exact .inl q
      · exact .inr h

theorem cellsFrom_mem : ∀ {names : List (Str × NameKind)} {h : Heap} {acc : List (Str × Addr)} {x c}, (x, c) ∈ cellsFrom h.objs.size names acc →
    (x, c) ∈ acc ∨ ((x, NameKind.cell) ∈ names ∧ h.objs.size ≤ c ∧ (pushCells h names).IsCell c none)
  | [], h, acc, x, c, q => .inl q
  | (n, k) :: r, h, acc, x, c, q => by
    unfold cellsFrom at q
    unfold pushCells
    by_cases hk : k = .cell
    · subst hk
      simp only [beq_self_eq_true, if_true] at q ⊢
      have hsz : (h.push { cls := .type "cell", data := .cell none }).objs.size = h.objs.size + 1 := Heap.size_push ..
      rw [← hsz] at q
      rcases cellsFrom_mem q with q | ⟨q1, q2, q3⟩
      · rcases List.mem_cons.mp q with q | q
        · cases q
          exact .inr ⟨.head _, Nat.le_refl _, ⟨_, pushCells_keeps _ _ _ _ (Heap.get?_push_size _ rfl), rfl⟩⟩
        · exact .inl q
      · exact .inr ⟨.tail _ q1, by rw [hsz] at q2; omega, q3⟩
    · have : (k == NameKind.cell) = false := by simpa using hk
      simp only [this, Bool.false_eq_true, if_false] at q ⊢
      rcases cellsFrom_mem q with q | ⟨q1, q2, q3⟩
      · exact .inl q
      · exact .inr ⟨.tail _ q1, q2, q3⟩
theorem cellsFrom_some : ∀ {names : List (Str × NameKind)} {n : Nat} {acc : List (Str × Addr)} {x}, (x, NameKind.cell) ∈ names ∨ (∃ c, acc.lookup x = some c) → ∃ c, (cellsFrom n names acc).lookup x = some c
  | [], n, acc, x, h => h.elim (fun q => by cases q) id
  | (m, k) :: r, n, acc, x, h => by
    unfold cellsFrom
    by_cases hk : k = .cell
    · subst hk
      simp only [beq_self_eq_true, if_true]
      refine cellsFrom_some ?_
      rcases h with h | h
      · rcases List.mem_cons.mp h with q | q
        · cases q
          refine .inr ⟨n, ?_⟩
          rw [List.lookup_cons, beq_self_eq_true]
        · exact .inl q
      · exact .inr (lookup_cons_some h)
    · have : (k == NameKind.cell) = false := by simpa using hk
      simp only [this, Bool.false_eq_true, if_false]
      refine cellsFrom_some ?_
      rcases h with h | h
      · rcases List.mem_cons.mp h with q | q
        · cases q; exact absurd rfl hk
        · exact .inl q
      · exact .inr h
theorem cellsFrom_apart : ∀ {names : List (Str × NameKind)} {n : Nat} {acc : List (Str × Addr)}, (∀ x y c, (x, c) ∈ acc → (y, c) ∈ acc → x = y) → (∀ x c, (x, c) ∈ acc → c < n) →
    ∀ x y c, (x, c) ∈ cellsFrom n names acc → (y, c) ∈ cellsFrom n names acc → x = y
  | [], n, acc, h, _ => h
  | (m, k) :: r, n, acc, h, hlt => by
    unfold cellsFrom
    by_cases hk : k = .cell
    · subst hk
      simp only [beq_self_eq_true, if_true]
      refine cellsFrom_apart (fun x y c hx hy => ?_) fun x c hx => ?_
      · rcases List.mem_cons.mp hx with q | q <;> rcases List.mem_cons.mp hy with q' | q'
        · cases q; cases q'; rfl
        · cases q; exact absurd (hlt _ _ q') (Nat.lt_irrefl _)
        · cases q'; exact absurd (hlt _ _ q) (Nat.lt_irrefl _)
        · exact h x y c q q'
      · rcases List.mem_cons.mp hx with q | q
        · cases q; exact Nat.lt_succ_self _
        · exact Nat.lt_succ_of_lt (hlt x c q)
    · have : (k == NameKind.cell) = false := by simpa using hk
      simp only [this, Bool.false_eq_true, if_false]
      exact cellsFrom_apart h hlt

noncomputable def cEnv (scope : Scope) (env : Env) (n : Nat) : Env :=
  { scope := relabel scope env, locals := n, globals := env.globals, cells := cellsFrom (n + 1) scope.names (closL env scope.names []), qual := env.qual, func := none, code := env.code, frame := env.frame, builtins := env.builtins }
noncomputable def cX (scope : Scope) (env : Env) (n : Nat) : List Addr := n :: ((cEnv scope env n).cells.map (·.2)).filter (fun c => decide (n < c))
noncomputable def inner (scope : Scope) (δ : Str → Option PyData) : Str → Option PyData := fun x => if scope.names.lookup x = some .free then δ x else none

section
variable {w : World} {h₀ : Heap} {k : Nat} {sc : Scope} {δ : Str → Option PyData}

theorem newEnv_comp {M : Model} {A : Around} {E : Value → Shared → Prop} {s : Shared} {scope : Scope} {cl : List (Str × Addr)} {globals : Addr} {qual : Str} {env : Env} {Q : Env → Shared → Prop}
    (h : Q { scope := scope, locals := s.heap.objs.size, globals := globals, cells := cellsFrom (s.heap.objs.size + 1) scope.names cl, qual := qual, func := none, code := env.code, frame := env.frame, builtins := env.builtins }
      { s with heap := pushCells (s.heap.push { cls := .type "dict", data := .dict #[] }) scope.names }) : wpAny M A (newFunctionEnv scope globals cl [] qual none .none (some env)) Q E s := by
  simp only [newFunctionEnv, Option.isSome_some, if_true]
  refine wpAny_bind (wpAny_alloc ?_)
  refine wpAny_bind (wpAny_layCells _ (fun name kind cells => by cases hkc : kind == NameKind.cell <;> simp [hkc]) _ _ _ _ ?_)
  rw [show ({ s with heap := s.heap.push { cls := .type "dict", data := .dict #[] } } : Shared).heap.objs.size = s.heap.objs.size + 1 from Heap.size_push ..]
  exact wpAny_bind (wpAny_pure (wpAny_pure h))

theorem lookup_relabel {env : Env} : ∀ {names : List (Str × NameKind)} {x : Str} {kd : NameKind}, names.lookup x = some kd →
    KindR kd ((names.map fun (n, k) => if (k == NameKind.free && env.scope.kind == .function && env.kindOf n == some .cell) then (n, NameKind.cell) else (n, k)).lookup x)
  | [], _, _, h => by simp at h
  | (n, k) :: r, x, kd, h => by
    have ih := @lookup_relabel env r x kd
    show KindR kd (List.lookup x ((if (k == NameKind.free && env.scope.kind == .function && env.kindOf n == some .cell) = true then (n, NameKind.cell) else (n, k)) :: _))
    rw [List.lookup_cons] at h
    cases hx : x == n with
    | true =>
      rw [hx] at h; cases h
      split
      · rename_i q
        simp only [List.lookup_cons, hx]
        simp only [Bool.and_eq_true, beq_iff_eq] at q
        exact .inr ⟨q.1.1, rfl⟩
      · simp only [List.lookup_cons, hx]
        exact .inl rfl
    | false =>
      rw [hx] at h
      split <;> (simp only [List.lookup_cons, hx]; exact ih h)

theorem cEnvR {O : List Addr} {h : Heap} {env : Env} {scope : Scope} (er : EnvR O h env sc δ) (hkind : scope.kind = .function) (hnames : ∀ p ∈ scope.names, scope.names.lookup p.1 = some p.2)
    (hfree : ∀ p ∈ scope.names, p.2 = .free → sc.names.lookup p.1 = some .cell ∨ sc.names.lookup p.1 = some .free) :
    EnvR (cX scope env h.objs.size ++ O) (pushCells (h.push { cls := .type "dict", data := .dict #[] }) scope.names) (cEnv scope env h.objs.size) scope (inner scope δ) ∧
    (∀ x, scope.names.lookup x = some .local ∨ scope.names.lookup x = some .cell → Wrt (cX scope env h.objs.size) (cEnv scope env h.objs.size) scope x) ∧
    (∀ a ∈ cX scope env h.objs.size, h.objs.size ≤ a) ∧ (∀ x c, (cEnv scope env h.objs.size).cells.lookup x = some c → (∃ y, env.cells.lookup y = some c) ∨ h.objs.size < c) := by
  have hcl : ∀ n, (n, NameKind.free) ∈ scope.names → ∃ c, env.cells.lookup n = some c := fun n hn => er.cells n (hfree _ hn rfl)
  have hsz : (h.push { cls := .type "dict", data := .dict #[] }).objs.size = h.objs.size + 1 := Heap.size_push ..
  have up : ∀ b o, h.get? b = some o → (pushCells (h.push { cls := .type "dict", data := .dict #[] }) scope.names).get? b = some o := fun b o e => pushCells_keeps _ _ _ _ (Heap.get?_push_of_some _ e)
  have memcl : ∀ x c, (x, c) ∈ closL env scope.names [] → (x, NameKind.free) ∈ scope.names ∧ env.cells.lookup x = some c := fun x c q => (closL_mem hcl q).elim (fun z => by cases z) id
  have ltcl : ∀ x c, (x, c) ∈ closL env scope.names [] → c < h.objs.size := fun x c q => by
    obtain ⟨v, hv⟩ := er.cel x c (memcl x c q).2
    exact hv.lt
  have cells : ∀ x c, (x, c) ∈ (cEnv scope env h.objs.size).cells → ((x, NameKind.free) ∈ scope.names ∧ env.cells.lookup x = some c ∧ c < h.objs.size) ∨ ((x, NameKind.cell) ∈ scope.names ∧ h.objs.size + 1 ≤ c ∧ (pushCells (h.push { cls := .type "dict", data := .dict #[] }) scope.names).IsCell c none) := fun x c q => by
    have q : (x, c) ∈ cellsFrom (h.objs.size + 1) scope.names (closL env scope.names []) := q
    rw [← hsz] at q
    rcases cellsFrom_mem q with q | ⟨q1, q2, q3⟩
    · exact .inl ⟨(memcl x c q).1, (memcl x c q).2, ltcl x c q⟩
    · exact .inr ⟨q1, by rw [hsz] at q2; exact q2, q3⟩
  have look : ∀ x c, (cEnv scope env h.objs.size).cells.lookup x = some c → (x, c) ∈ (cEnv scope env h.objs.size).cells := fun x c q => PySem.mem_of_lookup q
  have apart : ∀ x y c, (x, c) ∈ (cEnv scope env h.objs.size).cells → (y, c) ∈ (cEnv scope env h.objs.size).cells → x = y :=
    cellsFrom_apart (fun x y c hx hy => er.apart x y c (memcl x c hx).2 (memcl y c hy).2) fun x c q => Nat.lt_succ_of_lt (ltcl x c q)
  have hcX : ∀ a ∈ cX scope env h.objs.size, h.objs.size ≤ a := fun a ha => by
    rcases List.mem_cons.mp ha with rfl | ha
    · exact Nat.le_refl _
    · have := (List.mem_filter.mp ha).2
      exact Nat.le_of_lt (of_decide_eq_true this)
  have one : ∀ x kd, scope.names.lookup x = some kd → (x, kd) ∈ scope.names := fun x kd q => PySem.mem_of_lookup q
  have uniq : ∀ {x kd kd'}, (x, kd) ∈ scope.names → (x, kd') ∈ scope.names → kd = kd' := fun {x kd kd'} p q => by
    have e1 := hnames _ p
    have e2 := hnames _ q
    simp only at e1 e2
    rw [e1] at e2; cases e2; rfl
  refine ⟨⟨?_, er.glb, er.bi, fun x kd q => ?_, fun x d e => ?_, fun a ha => ?_, fun x y c q q' => apart x y c (look x c q) (look y c q'), fun x q => ?_, ⟨_, (Heap.Ns.new h (.type "dict")).keeps (pushCells_keeps _ _)⟩, fun x c q => ?_⟩, fun x q => ?_, hcX, fun x c q => ?_⟩
  · show (relabel scope env).kind = _
    exact hkind
  · exact lookup_relabel q
  · have e' : inner scope δ x = some d := e
    unfold inner at e'
    split at e'
    · rename_i hx
      obtain ⟨v, r, b⟩ := er.val x d e'
      refine ⟨v, (r.more fun a ha => ?_).kp (N := 0) (.of_keeps up), .inr ⟨.inr hx, ?_⟩⟩
      · rcases List.mem_append.mp ha with q | q
        · exact .inr (dead_size _ (hcX a q))
        · exact .inl q
      · obtain ⟨c, hc⟩ : ∃ c, (cEnv scope env h.objs.size).cells.lookup x = some c := cellsFrom_some (.inr (closL_some (.inl (one x _ hx))))
        have hcm := cells x c (look x c hc)
        rcases hcm with ⟨_, q, _⟩ | ⟨q, _⟩
        · refine ⟨c, hc, ?_⟩
          rcases b with ⟨b1, _⟩ | ⟨_, c', b1, b2⟩
          · rcases hfree _ (one x _ hx) rfl with z | z <;> (simp only at z; rw [b1] at z; cases z)
          · rw [q] at b1; cases b1; exact b2.keeps up
        · exact absurd (uniq (one x _ hx) q) (by decide)
    · cases e'
  · rcases List.mem_append.mp ha with q | q
    · rcases List.mem_cons.mp q with rfl | q
      · exact ⟨_, pushCells_keeps _ _ _ _ (Heap.get?_push_size _ rfl)⟩
      · obtain ⟨q1, q2⟩ := List.mem_filter.mp q
        obtain ⟨⟨x, c⟩, q3, q4⟩ := List.mem_map.mp q1
        simp only at q4; subst q4
        have q2 : h.objs.size < c := of_decide_eq_true q2
        rcases cells x c q3 with ⟨_, _, z⟩ | ⟨_, _, o, z, _⟩
        · exact absurd (Nat.lt_trans q2 z) (Nat.lt_irrefl _)
        · exact ⟨o, z⟩
    · obtain ⟨o, e⟩ := er.low a q
      exact ⟨o, up _ _ e⟩
  · rcases q with q | q
    · exact cellsFrom_some (.inl (one x _ q))
    · exact cellsFrom_some (.inr (closL_some (.inl (one x _ q))))
  · rcases cells x c (look x c q) with ⟨_, z, _⟩ | ⟨_, _, z⟩
    · obtain ⟨v, hv⟩ := er.cel x c z
      exact ⟨v, hv.keeps up⟩
    · exact ⟨_, z⟩
  · rcases q with q | q
    · exact .inl ⟨q, .head _⟩
    · obtain ⟨c, hc⟩ : ∃ c, (cEnv scope env h.objs.size).cells.lookup x = some c := cellsFrom_some (.inl (one x _ q))
      refine .inr ⟨q, c, hc, .tail _ (List.mem_filter.mpr ⟨List.mem_map.mpr ⟨(x, c), look x c hc, rfl⟩, ?_⟩)⟩
      rcases cells x c (look x c hc) with ⟨z, _⟩ | ⟨_, z, _⟩
      · exact absurd (uniq (one x _ q) z) (by decide)
      · exact decide_eq_true (Nat.lt_of_succ_le z)
  · rcases cells x c (look x c q) with ⟨_, z, _⟩ | ⟨_, z, _⟩
    · exact .inl ⟨x, z⟩
    · exact .inr z
end
end Mine
end
section
open PySem.Calls PySem.Spec PySem.SeqAt
namespace Mine

section
variable {w : World} {h₀ : Heap} {k : Nat} {sc : Scope} {δ : Str → Option PyData}

noncomputable def CompR (w : World) (h₀ : Heap) (k : Nat) (sc : Scope) (δ : Str → Option PyData) (elt : Expr) (gens : List Comprehension) (scope : Scope) (r : List PyData) : Prop :=
  (∀ g ∈ gens, g.is_async = 0) ∧ scope.kind = .function ∧ (∀ p ∈ scope.names, scope.names.lookup p.1 = some p.2) ∧ (∀ p ∈ scope.names, p.2 = .free → sc.names.lookup p.1 = some .cell ∨ sc.names.lookup p.1 = some .free) ∧ r.length ≤ sizeLine ∧
  ∃ g gs, gens = g :: gs ∧ ∃ T xs f, ItE w h₀ k sc δ T g.iter xs ∧ T g.target ∧ (∀ x ∈ tnames g.target, (scope.names.lookup x = some .local ∨ scope.names.lookup x = some .cell) ∧ inner scope δ x = none) ∧ r = xs.flatMap f ∧
      (∀ env v, foldedSetIterable g.iter env v = pure v) ∧
      ∀ x ∈ xs, ∃ δ' b, BindT g.target x (inner scope δ) δ' ∧ TestsE w h₀ k scope δ' g.ifs b ∧ (b = false → f x = []) ∧ (b = true → CmpB w h₀ k scope elt gs δ' (f x))

theorem comp_core {elt : Expr} {gens : List Comprehension} {scope : Scope} {pos pos' : Pos} {r : List PyData} (hc : CompR w h₀ k sc δ elt gens scope r) {use : Option (Value → Sem Unit)} {O : List Addr} {env : Env} {A : Around} {s : Shared} {Q : Value → Shared → Prop} {E : Value → Shared → Prop}
    (ok : Ok h₀ k A s.heap) (er : EnvR O s.heap env sc δ)
    (hK : ∀ D C h tk vs, s.heap.get? D = none → s.heap.get? C = none → D ≠ C → (∃ m, h.Ns C m) → h.PlainList D vs → RdAll (C :: O) h vs.toList r → Kp h₀.objs.size s.heap h → compPost (model P w) A E use Q (.ref D) C (.ok .next) { s with heap := h, toks := tk }) :
    wpAny (model P w) A (comprehension (.ListComp elt gens scope pos) scope env pos' (newList []) false (firstIter gens env) use) Q E s := by
  obtain ⟨hall, hkind, hnames, hfree, hlen, g, gs, rfl, T, xs, f, hit, hT, hn, rfl, hfs, hb⟩ := hc
  obtain ⟨target, iter, ifs, az⟩ := g
  have haz : az = 0 := hall _ (.head _)
  subst haz
  refine wpAny_comprehension_free (cl := closL env scope.names []) rfl (hfs env) (closureFor_eq fun n hn => er.cells n (hfree _ hn rfl)) hkind (fun x hx hl => by rw [← hl]; exact hnames x hx) ?_
  refine hit O env A s _ _ ok er fun x h1 t1 k1 hgo => hgo _ _ fun it h2 t2 hitr k2 => ?_
  obtain ⟨fp, It, St, itr, hst, hdead, hfp⟩ := hitr
  refine wpAny_newObj_type (hd := by size_fits) (newEnv_comp ?_)
  dsimp only
  have hD : h2.get? h2.objs.size = none := dead_size _ (Nat.le_refl _)
  generalize hH3 : h2.push { cls := .type "list", dict := none, data := .seq ([] : List Value).toArray } = h3
  have hsz3 : h3.objs.size = h2.objs.size + 1 := by rw [← hH3]; exact Heap.size_push ..
  have k3 : Kp h₀.objs.size h2 h3 := by rw [← hH3]; exact Kp.push _ _
  have hlD : h3.PlainList h2.objs.size #[] := by rw [← hH3]; exact ⟨0, Heap.get?_push_size _ rfl⟩
  have fpl : ∀ a ∈ fp, a < h2.objs.size := fun a ha => by obtain ⟨o, e⟩ := itr.live _ _ hst a ha; exact Heap.lt_size e
  have Itl : ∀ a ∈ It, a < h2.objs.size := fun a ha => fpl a (itr.sub a ha)
  have deadS : ∀ a, h2.objs.size ≤ a → s.heap.get? a = none := fun a ha => by
    cases e : s.heap.get? a with
    | none => rfl
    | some o => obtain ⟨o', q⟩ := k2.there e; rw [dead_size _ ha] at q; cases q
  have aliveO : ∀ a ∈ O, a < h2.objs.size := fun a ha => by obtain ⟨o, e⟩ := er.low a ha; obtain ⟨o', q⟩ := k2.there e; exact Heap.lt_size q
  have er3 : EnvR (h2.objs.size :: It ++ O) h3 env sc δ := er.more (N := h₀.objs.size) (fun a ha => by
    rcases List.mem_append.mp ha with q | q
    · rcases List.mem_cons.mp q with rfl | q
      · exact .inr (deadS _ (Nat.le_refl _))
      · exact .inr (hdead a q)
    · exact .inl q) (k2.trans k3) fun a ha => by
    rcases List.mem_append.mp ha with q | q
    · rcases List.mem_cons.mp q with rfl | q
      · obtain ⟨n, e⟩ := hlD; exact ⟨_, e⟩
      · obtain ⟨o, e⟩ := itr.live _ _ hst a (itr.sub a q); exact k3.there e
    · obtain ⟨o, e⟩ := er.low a q; exact (k2.trans k3).there e
  obtain ⟨er4, hw, hcX, hcell⟩ := cEnvR er3 hkind hnames hfree
  have ok3 := ok.kp (k2.trans k3)
  have k4 : Kp h₀.objs.size h3 (pushCells (h3.push { cls := .type "dict", data := .dict #[] }) scope.names) := .of_keeps fun b o e => pushCells_keeps _ _ _ _ (Heap.get?_push_of_some _ e)
  generalize hH4 : pushCells (h3.push { cls := .type "dict", data := .dict #[] }) scope.names = h4 at er4 k4
  have outer : ∀ x c, (cEnv scope env h3.objs.size).cells.lookup x = some c → c < h2.objs.size ∧ (∃ o, s.heap.get? c = some o) ∨ h3.objs.size < c := fun x c q => by
    rcases hcell x c q with ⟨y, e⟩ | q
    · obtain ⟨v, o, ho, _⟩ := er.cel y c e
      obtain ⟨o', q⟩ := k2.there ho
      exact .inl ⟨Heap.lt_size q, o, ho⟩
    · exact .inr q
  have hDc : ∀ a ∈ cX scope env h3.objs.size, h2.objs.size + 1 ≤ a := fun a ha => hsz3 ▸ hcX a ha
  have key : ∀ st, st = ({ s with heap := h4, toks := t2 } : Shared) → codeAny (model P w) A (.compLoop (.ListComp elt (⟨target, iter, ifs, 0⟩ :: gs) scope pos) 0 it (.ref h2.objs.size) (cEnv scope env h3.objs.size)) (compPost (model P w) A E use Q (.ref h2.objs.size) h3.objs.size) st := by
    rintro st rfl
    refine comp_all hall gs ⟨target, iter, ifs, 0⟩ 0 rfl rfl itr hT (O := cX scope env h3.objs.size ++ (h2.objs.size :: It ++ O)) (X := cX scope env h3.objs.size) (hp := s.heap)
      (fun a ha => List.mem_append_right _ (List.mem_append_left _ (.tail _ ha))) (fun a ha q => ?_) hdead (fun a ha => ok.dead (hdead a ha)) (fun a ha => ⟨?_, fun x c q => ?_⟩)
      (fun a ha => List.mem_append_left _ ha) (fun a ha => ok3.dead (dead_size _ (hcX a ha))) (fun a ha q => ?_) (List.mem_append_right _ (List.mem_append_left _ (.head _))) (ok.dead (deadS _ (Nat.le_refl _))) (fun q => ?_) (fun q => ?_) (fun a ha => ⟨?_, fun x c q => ?_⟩)
      hw hn xs hb _ #[] [] (itr.keep _ _ _ [] hst (k3.trans k4).x fun a ha => by cases ha) (ok3.kp k4) er4 (Kp.plain k4 hlD) .nil (by simpa using hlen) ((k2.trans k3).trans k4).x fun h tk vs' e1 e2 e3 e4 => ?_
    · rcases List.mem_append.mp ha with z | z
      · exact absurd (fpl a q) (Nat.not_lt.mpr (Nat.le_trans (Nat.le_succ _) (hDc a z)))
      rcases List.mem_append.mp z with z | z
      · rcases List.mem_cons.mp z with rfl | z
        · exact absurd (fpl _ q) (Nat.lt_irrefl _)
        · exact z
      · exact absurd z (hfp a q)
    · exact ne_nat (.inl (show a < h3.objs.size by rw [hsz3]; exact Nat.lt_succ_of_lt (Itl a ha)))
    · rcases outer x c q with ⟨_, o, z⟩ | z
      · intro e; rw [← e, hdead a ha] at z; cases z
      · exact ne_nat (.inl (Nat.lt_trans (show a < h3.objs.size by rw [hsz3]; exact Nat.lt_succ_of_lt (Itl a ha)) z))
    · exact absurd (Itl a q) (Nat.not_lt.mpr (Nat.le_trans (Nat.le_succ _) (hDc a ha)))
    · exact absurd (Itl _ q) (Nat.lt_irrefl _)
    · exact absurd (hDc _ q) (Nat.not_succ_le_self _)
    · rw [List.mem_singleton.mp ha]; exact ne_nat (.inl (show h2.objs.size < h3.objs.size by rw [hsz3]; exact Nat.lt_succ_self _))
    · rw [List.mem_singleton.mp ha]
      rcases outer x c q with ⟨z, _⟩ | z
      · exact ne_nat (.inr z)
      · exact ne_nat (.inl (Nat.lt_trans (show h2.objs.size < h3.objs.size by rw [hsz3]; exact Nat.lt_succ_self _) z))
    · refine hK h2.objs.size h3.objs.size h tk vs' (deadS _ (Nat.le_refl _)) (deadS _ (by rw [hsz3]; exact Nat.le_succ _)) (ne_nat (.inl (show h2.objs.size < h3.objs.size by rw [hsz3]; exact Nat.lt_succ_self _))) ?_ e3 ?_ ?_
      · exact (e1 [] (fun a ha => by cases ha)).loc
      · have e4 : RdAll (cX scope env h3.objs.size ++ (h2.objs.size :: It ++ O)) h vs'.toList (xs.flatMap f) := by simpa using e4
        refine e4.mono fun v d r => r.sub fun a ha => ?_
        rcases List.mem_cons.mp ha with rfl | ha
        · exact List.mem_append_left _ (.head _)
        · exact List.mem_append_right _ (List.mem_append_right _ ha)
      · refine e2.kp fun a ha => ?_
        rcases List.mem_cons.mp ha with rfl | ha
        · exact deadS _ (Nat.le_refl _)
        · exact deadS _ (Nat.le_trans (Nat.le_succ _) (hDc a ha))
  show codeAny (model P w) A (.compStart (.ListComp elt (⟨target, iter, ifs, 0⟩ :: gs) scope pos) 0 it (.ref h2.objs.size) (cEnv scope env h3.objs.size)) _ _
  refine start_at rfl (key _ rfl) fun E' => ?_
  exact itr.self _ _ _ _ (itr.keep _ _ _ [] hst (k3.trans k4).x fun a ha => by cases ha) (key _ rfl)

theorem ev_comp {elt : Expr} {gens : List Comprehension} {scope : Scope} {pos : Pos} {r : List PyData} (hc : CompR w h₀ k sc δ elt gens scope r) : EvE w h₀ k sc δ (.ListComp elt gens scope pos) (.list r) := by
  intro O env A s Q E ok er h
  have has : firstAsync gens = false := by
    obtain ⟨hall, _, _, _, _, g, gs, rfl, _⟩ := hc
    obtain ⟨target, iter, ifs, az⟩ := g
    have := hall _ (.head _)
    simp only at this
    subst this; rfl
  rw [eval_ListComp, has]
  refine comp_core hc ok er fun D C h' tk vs hD hC hDC hN hl rl kp => ?_
  obtain ⟨m, hN⟩ := hN
  refine ⟨m, hN, fun h'' hs => ?_⟩
  have hDO : D ∉ O := fun q => by obtain ⟨o, e⟩ := er.low D q; rw [hD] at e; cases e
  refine h _ h'' tk (rd_list (hl.at fun o e => hs.extBut _ o hDC e) hDO (rl.mono fun v d r => rd_map (fun b o e hb _ => hs.extBut b o (fun q => hb (q ▸ .head _)) e) (fun b hb _ q => hb (.tail _ q)) r)) fun b o e => ?_
  have hbC : b ≠ C := fun q => by rw [q, hC] at e; cases e
  rcases kp b o e with e1 | ⟨q1, q2, sl, e1⟩
  · exact .inl (hs.extBut b _ hbC e1)
  · exact .inr ⟨q1, q2, sl, hs.extBut b _ hbC e1⟩
end
end Mine
end
section
open PySem.Calls PySem.Spec PySem.SeqAt
namespace Mine

section
variable {w : World} {h₀ : Heap} {k : Nat} {sc : Scope} {δ : Str → Option PyData}

noncomputable def TurnQ (s' : Shared) (X : List Addr) (N : Nat) (J : Heap → Prop) (Q : Flow → Shared → Prop) : Flow → Shared → Prop
  | .ret v, s'' => Q (.ret v) s''
  | .brk, _ => False
  | _, s'' => ∃ h tk, s'' = { s' with heap := h, toks := tk } ∧ J h ∧ KpX X N s'.heap h

theorem for_loop {tg : Expr} {body : List Stmt} {T : Expr → Prop} (hT : T tg) {O X fp It : List Addr} {env : Env} {A : Around} {s₀ : Shared} {xs₀ : List PyData} {it : Value} {St : List PyData → Heap → Prop} {R : Result → Shared → Prop} {Q : Flow → Shared → Prop}
    (itr : Itr w A h₀.objs.size T it fp It St) (hfpO : ∀ a ∈ O, a ∉ fp) (hItp : ∀ a ∈ It, s₀.heap.get? a = none) (hXO : ∀ a ∈ X, a ∈ O) (hOl : ∀ a ∈ O, ∃ o, s₀.heap.get? a = some o)
    (J : List PyData → List Addr → Heap → Prop)
    (hstep : ∀ pre h h', J pre (It ++ O) h → KpX It h₀.objs.size h h' → J pre (It ++ O) h')
    (hlow : ∀ pre h, J pre (It ++ O) h → ∀ a ∈ It ++ O, ∃ o, h.get? a = some o)
    (hbody : ∀ pre x post (s' : Shared) v, xs₀ = pre ++ x :: post → (∃ h tk, s' = { s₀ with heap := h, toks := tk }) → J pre (It ++ O) s'.heap → KpX X h₀.objs.size s₀.heap s'.heap → Rd (It ++ O) s'.heap v x →
      wpAny (model P w) A (assign tg env v) (fun _ s2 => wpAny (model P w) A (execs body env) (TurnQ s' X h₀.objs.size (J (pre ++ [x]) (It ++ O)) Q) (fun _ _ => False) s2) (fun _ _ => False) s')
    (hret : ∀ v s', Q (.ret v) s' → R (.ok (.ret v)) s') :
    ∀ (xs pre : List PyData), xs₀ = pre ++ xs → ∀ (s : Shared), (∃ h tk, s = { s₀ with heap := h, toks := tk }) → St xs s.heap → J pre (It ++ O) s.heap → KpX X h₀.objs.size s₀.heap s.heap →
    (∀ h h' tk, J xs₀ (It ++ O) h → (∀ b o, b ∉ It → h.get? b = some o → h'.get? b = some o) → KpX X h₀.objs.size s₀.heap h' → R (.ok .next) { s₀ with heap := h', toks := tk }) →
    codeAny (model P w) A (.forLoop tg it body [] env) R s
  | [], pre, e, s, ⟨hs, ts, hse⟩, hst, hj, kp, hR => by
    refine codeAny_of_tree ?_
    show wpAny _ A ((forTurn tg it body [] env).onRaise (fun x => do noteFrame x env; theTreesLotGoes x)) _ _ s
    refine wpAny_noted ?_
    unfold forTurn
    refine wpAny_bind (wpAny_standAt (wpAny_bind (wpAny_onRaise ?_)))
    refine itr.done s _ _ hst fun h tk hk => wpAny_pure ⟨rfl, codeAny_block (wpAny_execs_nil ?_)⟩
    have e' : pre = xs₀ := by simpa using e.symm
    subst hse
    refine hR hs h tk (e' ▸ hj) hk (kp.but hk hItp fun a ha q => ?_)
    obtain ⟨o, z⟩ := hOl a (hXO a ha)
    rw [hItp a q] at z; cases z
  | x :: xs, pre, e, s, ⟨hs, ts, hse⟩, hst, hj, kp, hR => by
    have aliveIt : ∀ a ∈ O, a ∉ It := fun a ha q => by obtain ⟨o, z⟩ := hOl a ha; rw [hItp a q] at z; cases z
    refine codeAny_of_tree ?_
    show wpAny _ A ((forTurn tg it body [] env).onRaise (fun x => do noteFrame x env; theTreesLotGoes x)) _ _ s
    refine wpAny_noted ?_
    unfold forTurn
    refine wpAny_bind (wpAny_standAt (wpAny_bind (wpAny_onRaise ?_)))
    refine itr.step (It ++ O) x xs s tg _ _ hT (fun a ha q => (List.mem_append.mp ha).elim id fun z => absurd q (hfpO a z)) (hlow pre _ hj) hst fun v h1 t1 hgo => ?_
    refine wpAny_bind (hgo _ _ fun h2 rv hst2 k2 => ?_)
    have hj2 := hstep pre _ _ hj k2
    have kp2 : KpX X h₀.objs.size s₀.heap h2 := by
      have q1 : KpX (X ++ It) h₀.objs.size s₀.heap s.heap := kp.mono fun a ha => .inl (List.mem_append_left _ ha)
      have q2 : KpX (X ++ It) h₀.objs.size s.heap h2 := k2.mono fun a ha => .inl (List.mem_append_right _ ha)
      exact (q1.trans q2).mono fun a ha => (List.mem_append.mp ha).elim .inl fun z => .inr (hItp a z)
    have key := hbody pre x xs { s with heap := h2, toks := t1 } v e ⟨h2, t1, by subst hse; rfl⟩ hj2 kp2 rv
    refine wpAny_bind (wpAny_mono key (fun _ s3 q3 => wpAny_bind (wpAny_mono q3 (fun f s4 q4 => ?_) fun _ _ z => z.elim)) fun _ _ z => z.elim)
    have cont : (∃ h tk, s4 = { { s with heap := h2, toks := t1 } with heap := h, toks := tk } ∧ J (pre ++ [x]) (It ++ O) h ∧ KpX X h₀.objs.size h2 h) → codeAny (model P w) A (.forLoop tg it body [] env) R s4 := by
      rintro ⟨h, tk, rfl, hj4, k4⟩
      refine for_loop hT itr hfpO hItp hXO hOl J hstep hlow hbody hret xs (pre ++ [x]) (by simp [e]) _ ⟨h, tk, by subst hse; rfl⟩ (itr.keep _ _ _ X hst2 k4 fun a ha => hfpO a (hXO a ha)) hj4 (kp2.trans k4) hR
    cases f with
    | next => exact wpAny_pure ⟨rfl, cont q4⟩
    | cont => exact wpAny_pure ⟨rfl, cont q4⟩
    | brk => exact q4.elim
    | ret v => exact wpAny_pure (hret v s4 q4)

theorem for_gen {tg iter : Expr} {body : List Stmt} {pos : Pos} {T : Expr → Prop} {xs : List PyData} (hit : ItE w h₀ k sc δ T iter xs) (hT : T tg) {O X : List Addr} {env : Env} {A : Around} {s : Shared} {Q : Flow → Shared → Prop} {E : Value → Shared → Prop}
    (ok : Ok h₀ k A s.heap) (er : EnvR O s.heap env sc δ) (hXO : ∀ a ∈ X, a ∈ O)
    (J : List PyData → List Addr → Heap → Prop)
    (h0 : ∀ It h, (∀ a ∈ It, s.heap.get? a = none) → (∀ a ∈ It, ∃ o, h.get? a = some o) → Kp h₀.objs.size s.heap h → J [] (It ++ O) h)
    (hstep : ∀ pre It h h', (∀ a ∈ It, s.heap.get? a = none) → J pre (It ++ O) h → KpX It h₀.objs.size h h' → J pre (It ++ O) h')
    (hlow : ∀ pre It h, J pre (It ++ O) h → ∀ a ∈ It ++ O, ∃ o, h.get? a = some o)
    (hend : ∀ It h h' tk, (∀ a ∈ It, s.heap.get? a = none) → J xs (It ++ O) h → (∀ b o, b ∉ It → h.get? b = some o → h'.get? b = some o) → KpX X h₀.objs.size s.heap h' → Q .next { s with heap := h', toks := tk })
    (hbody : ∀ It pre x post (s' : Shared) v, (∀ a ∈ It, s.heap.get? a = none) → xs = pre ++ x :: post → (∃ h tk, s' = { s with heap := h, toks := tk }) → J pre (It ++ O) s'.heap → KpX X h₀.objs.size s.heap s'.heap → Rd (It ++ O) s'.heap v x →
      wpAny (model P w) A (assign tg env v) (fun _ s2 => wpAny (model P w) A (execs body env) (TurnQ s' X h₀.objs.size (J (pre ++ [x]) (It ++ O)) Q) (fun _ _ => False) s2) (fun _ _ => False) s')
    (hs : ∀ x, foldedSetIterable iter env x = pure x := by intro _; rfl) :
    wpAny (model P w) A (exec (.For tg iter body [] pos) env) Q E s := by
  refine wpAny_For (hit O env A s _ _ ok er fun x h1 t1 k1 hgo => hgo _ _ fun it h2 t2 hitr k2 => ?_) hs
  obtain ⟨fp, It, St, itr, hst, hdead, hfp⟩ := hitr
  exact for_loop (s₀ := s) (Q := Q) hT itr (fun a ha q => hfp a q ha) hdead hXO er.low J (fun pre h h' => hstep pre It h h' hdead) (fun pre h => hlow pre It h) (fun pre x post s' v => hbody It pre x post s' v hdead) (fun v s' q => q) xs [] rfl _ ⟨h2, t2, rfl⟩ hst
    (h0 It h2 hdead (fun a ha => itr.live _ _ hst a (itr.sub a ha)) k2) k2.x fun h h' tk q1 q2 q3 => hend It h h' tk hdead q1 q2 q3
end
end Mine
end
section
open PySem.Calls PySem.Spec PySem.SeqAt
namespace Mine

inductive Out
  | nx (δ : Str → Option PyData)
  | rt (d : PyData)

noncomputable def Wr (X : List Addr) (env : Env) (sc : Scope) : Prop := ∀ x, sc.names.lookup x = some .local ∨ sc.names.lookup x = some .cell → Wrt X env sc x

noncomputable def StE (w : World) (h₀ : Heap) (k : Nat) (sc : Scope) (V : List Str) (δ : Str → Option PyData) (t : Env → Sem Flow) (o : Out) : Prop :=
  ∀ (O X : List Addr) (env : Env) (A : Around) (s : Shared) (Q : Flow → Shared → Prop) (E : Value → Shared → Prop), Ok h₀ k A s.heap → EnvR O s.heap env sc δ → Wr X env sc → (∀ a ∈ X, a ∈ O) → (∀ a ∈ X, h₀.get? a = none) →
    (match o with
      | .nx δ' => ∀ h tk, EnvR O h env sc δ' → KpX X h₀.objs.size s.heap h → (∀ y u, y ∉ V → Bound s.heap env sc y u → Bound h env sc y u) → Q .next { s with heap := h, toks := tk }
      | .rt d => ∀ v h tk, Rd O h v d → KpX X h₀.objs.size s.heap h → Q (.ret v) { s with heap := h, toks := tk }) →
    wpAny (model P w) A (t env) Q E s

section
variable {w : World} {h₀ : Heap} {k : Nat} {sc : Scope} {δ : Str → Option PyData} {V : List Str}

theorem Bound.off {h h' : Heap} {env : Env} {It : List Addr} (hf : Off It env) (hk : ∀ b o, b ∉ It → h.get? b = some o → h'.get? b = some o) {y u} (b : Bound h env sc y u) : Bound h' env sc y u :=
  b.stays (fun m ⟨o, es, ep, ho, q⟩ => ⟨o, es, ep, hk _ _ (fun q => (hf _ q).1 rfl) ho, q⟩) (fun c v e ⟨o, ho, q⟩ => ⟨o, hk _ _ (fun q => (hf _ q).2 _ c e rfl) ho, q⟩)
theorem Bound.kpx {h h' : Heap} {env : Env} {It : List Addr} {N : Nat} (hf : Off It env) (k : KpX It N h h') {y u} (b : Bound h env sc y u) : Bound h' env sc y u :=
  b.stays (fun m hm => k.ns (fun q => (hf _ q).1 rfl) hm) (fun c v e hv => k.isCell (fun q => (hf _ q).2 _ c e rfl) hv)

theorem st_assign {x : Str} {p pos : Pos} {e : Expr} {d : PyData} (he : EvE w h₀ k sc δ e d) (hx : sc.names.lookup x = some .local ∨ sc.names.lookup x = some .cell) (hV : x ∈ V)
    (hs : ∀ env, swapsWith e (some (.Name x p)) pos.line env = pure false := by intro _; rfl) : StE w h₀ k sc V δ (exec (.Assign [.Name x p] e pos)) (.nx (upd δ x d)) := by
  intro O X env A s Q E ok er hw hXO hX0 h
  refine wpAny_Assign_Name (he.then ok er fun v h1 t1 rv k1 ok1 er1 => ?_) (hs env)
  refine store_d (N := h₀.objs.size) (s := { s with heap := h1, toks := t1 }) er1 (hw x hx) hXO rv fun h2 t2 er2 k2 hb => ?_
  exact h h2 t2 er2 (k1.x.trans k2) fun y u hy b => hb y u (fun e => hy (e ▸ hV)) (b.kp k1)

theorem swaps_comp {elt gens scope pos x p line} (env : Env) : ∃ b, swapsWith (.ListComp elt gens scope pos) (some (.Name x p)) line env = pure b := ⟨_, rfl⟩

theorem st_assign_comp {x : Str} {p pos pos' : Pos} {elt : Expr} {gens : List Comprehension} {scope : Scope} {r : List PyData} (hc : CompR w h₀ k sc δ elt gens scope r) (hx : sc.names.lookup x = some .local ∨ sc.names.lookup x = some .cell) (hV : x ∈ V) :
    StE w h₀ k sc V δ (exec (.Assign [.Name x p] (.ListComp elt gens scope pos') pos)) (.nx (upd δ x (.list r))) := by
  intro O X env A s Q E ok er hw hXO hX0 h
  obtain ⟨b, hb⟩ := swaps_comp (elt := elt) (gens := gens) (scope := scope) (pos := pos') (x := x) (p := p) (line := pos.line) env
  cases b with
  | false =>
    refine wpAny_Assign_Name ((ev_comp hc).then ok er fun v h1 t1 rv k1 ok1 er1 => ?_) hb
    refine store_d (N := h₀.objs.size) (s := { s with heap := h1, toks := t1 }) er1 (hw x hx) hXO rv fun h2 t2 er2 k2 hb => ?_
    exact h h2 t2 er2 (k1.x.trans k2) fun y u hy b => hb y u (fun e => hy (e ▸ hV)) (b.kp k1)
  | true =>
    have has : firstAsync gens = false := by
      obtain ⟨hall, _, _, _, _, g, gs, rfl, _⟩ := hc
      obtain ⟨target, iter, ifs, az⟩ := g
      have := hall _ (.head _)
      simp only at this
      subst this; rfl
    rw [exec_Assign_Name_used _ _ _ _ hb]
    refine wpAny_bind (wpAny_standAt (wpAny_bind ?_))
    show wpAny _ _ (comprehension (.ListComp elt gens scope pos') scope env (firstIterPos gens pos') (newList []) (firstAsync gens) (firstIter gens env) (some (assign (.Name x p) env)) >>= fun _ => pure ()) _ _ _
    rw [has]
    refine wpAny_bind ?_
    refine comp_core (Q := fun _ s' => wpAny (model P w) A (pure ()) (fun _ s'' => wpAny (model P w) A (pure Flow.next) Q E s'') E s') hc ok er fun D C h1 t1 vs hD hC hDC hN hl rl kp => ?_
    have hCO : ∀ a ∈ O, a ≠ C := fun a ha q => by obtain ⟨o, e⟩ := er.low a ha; rw [q, hC] at e; cases e
    have hDO : D ∉ C :: O := fun q => by
      rcases List.mem_cons.mp q with q | q
      · exact hDC q
      · obtain ⟨o, e⟩ := er.low D q; rw [hD] at e; cases e
    have hCl : ∃ o, h1.get? C = some o := by obtain ⟨m, o, _, _, ho, _⟩ := hN; exact ⟨o, ho⟩
    have er1 : EnvR (C :: O) h1 env sc δ := er.more (N := h₀.objs.size) (fun a ha => by
      rcases List.mem_cons.mp ha with rfl | q
      · exact .inr hC
      · exact .inl q) kp fun a ha => by
      rcases List.mem_cons.mp ha with rfl | q
      · exact hCl
      · obtain ⟨o, e⟩ := er.low a q; exact kp.there e
    have hCoff : Off [C] env := er.off_fresh fun a ha => by rw [List.mem_singleton.mp ha]; exact hC
    have hCX : C ∉ X := fun q => hCO C (hXO C q) rfl
    refine wpAny_assign_Name (store_d (N := h₀.objs.size) (s := { s with heap := h1, toks := t1 }) (d := .list r) er1 (hw x hx) (fun a ha => .tail _ (hXO a ha)) (rd_list hl hDO rl) fun h2 t2 er2 k2 hb => ?_)
    obtain ⟨m, hN⟩ := hN
    refine ⟨m, k2.ns hCX hN, fun h3 hs3 => wpAny_pure (wpAny_pure ?_)⟩
    have hk3 : ∀ b o, b ∉ [C] → h2.get? b = some o → h3.get? b = some o := fun b o hb e => hs3.extBut b o (fun q => hb (by simp [q])) e
    refine h h3 t2 (er2.but hk3 (fun a ha => ⟨.tail _ ha, fun q => hCO a ha (List.mem_singleton.mp q)⟩) (fun a ha => by rw [List.mem_singleton.mp ha]; exact .head _) hCoff) ?_ fun y u hy b => (hb y u (fun e => hy (e ▸ hV)) (b.kp kp)).off hCoff hk3
    exact (kp.x.trans k2).but hk3 (fun a ha => by rw [List.mem_singleton.mp ha]; exact hC) fun a ha q => hCX (by rw [← List.mem_singleton.mp q]; exact ha)

theorem st_nil : StE w h₀ k sc V δ (execs []) (.nx δ) := fun O X env A s Q E ok er hw hXO hX0 h => wpAny_execs_nil (h s.heap s.toks er .refl fun _ _ _ b => b)
theorem st_seq {st : Stmt} {sts : List Stmt} {δ1 : Str → Option PyData} {o : Out} (a : StE w h₀ k sc V δ (exec st) (.nx δ1)) (b : StE w h₀ k sc V δ1 (execs sts) o) : StE w h₀ k sc V δ (execs (st :: sts)) o := by
  intro O X env A s Q E ok er hw hXO hX0 h
  refine wpAny_execs_cons (a O X env A s _ _ ok er hw hXO hX0 fun h1 t1 er1 k1 hb1 => ?_)
  refine b O X env A { s with heap := h1, toks := t1 } _ _ (ok.kpx k1 hX0) er1 hw hXO hX0 ?_
  cases o with
  | nx δ2 => exact fun h2 t2 er2 k2 hb2 => h h2 t2 er2 (k1.trans k2) fun y u hy b => hb2 y u hy (hb1 y u hy b)
  | rt d => exact fun v h2 t2 rv k2 => h v h2 t2 rv (k1.trans k2)
theorem st_stop {st : Stmt} {sts : List Stmt} {d : PyData} (a : StE w h₀ k sc V δ (exec st) (.rt d)) : StE w h₀ k sc V δ (execs (st :: sts)) (.rt d) := by
  intro O X env A s Q E ok er hw hXO hX0 h
  exact wpAny_execs_cons (a O X env A s _ _ ok er hw hXO hX0 h)
theorem st_ret {e : Expr} {pos : Pos} {d : PyData} (he : EvE w h₀ k sc δ e d) : StE w h₀ k sc V δ (exec (.Return (some e) pos)) (.rt d) := by
  intro O X env A s Q E ok er hw hXO hX0 h
  exact wpAny_Return_some (he.then ok er fun v h1 t1 rv k1 ok1 er1 => h v h1 t1 rv k1.x)
theorem st_if {test : Expr} {body orelse : List Stmt} {pos : Pos} {b : Bool} {o : Out} (ht : TrE w h₀ k sc δ test b) (ha : b = true → StE w h₀ k sc V δ (execs body) o) (hb : b = false → StE w h₀ k sc V δ (execs orelse) o) : StE w h₀ k sc V δ (exec (.If test body orelse pos)) o := by
  intro O X env A s Q E ok er hw hXO hX0 h
  refine wpAny_If (ht.then ok er fun h1 t1 k1 ok1 er1 => ?_)
  have key : ∀ {t : Env → Sem Flow}, StE w h₀ k sc V δ t o → wpAny (model P w) A (t env) Q E { s with heap := h1, toks := t1 } := fun {t} x => by
    refine x O X env A { s with heap := h1, toks := t1 } Q E ok1 er1 hw hXO hX0 ?_
    cases o with
    | nx δ2 => exact fun h2 t2 er2 k2 hb2 => h h2 t2 er2 (k1.x.trans k2) fun y u hy b => hb2 y u hy (b.kp k1)
    | rt d => exact fun v h2 t2 rv k2 => h v h2 t2 rv (k1.x.trans k2)
  cases b with
  | true => exact key (ha rfl)
  | false => exact key (hb rfl)
theorem st_forget {t : Env → Sem Flow} {δ' δ1 : Str → Option PyData} (x : StE w h₀ k sc V δ t (.nx δ1)) (hs : ∀ y d, δ' y = some d → δ1 y = some d) : StE w h₀ k sc V δ t (.nx δ') :=
  fun O X env A s Q E ok er hw hXO hX0 h => x O X env A s Q E ok er hw hXO hX0 fun h1 t1 er1 k1 hb => h h1 t1 (er1.forget hs) k1 hb
theorem st_for {tg iter : Expr} {body : List Stmt} {pos : Pos} {T : Expr → Prop} {xs : List PyData} (hit : ItE w h₀ k sc δ T iter xs) (hT : T tg) (Δ : List PyData → Str → Option PyData) (hΔ0 : ∀ y d, Δ [] y = some d → δ y = some d)
    (hn : ∀ x ∈ tnames tg, (sc.names.lookup x = some .local ∨ sc.names.lookup x = some .cell) ∧ x ∈ V)
    (hbody : ∀ pre x post, xs = pre ++ x :: post → ∃ δ1, BindT tg x (Δ pre) δ1 ∧ StE w h₀ k sc V δ1 (execs body) (.nx (Δ (pre ++ [x]))))
    (hs : ∀ env x, foldedSetIterable iter env x = pure x := by intro _ _; rfl) : StE w h₀ k sc V δ (exec (.For tg iter body [] pos)) (.nx (Δ xs)) := by
  intro O X env A s Q E ok er hw hXO hX0 h
  refine for_gen hit hT ok er hXO (fun pre O' g => EnvR O' g env sc (Δ pre) ∧ ∀ y u, y ∉ V → Bound s.heap env sc y u → Bound g env sc y u) (fun It g hd hl kp => ?_) (fun pre It g g' hd ⟨q1, q2⟩ kp => ?_) (fun pre It g ⟨q1, q2⟩ => q1.low)
    (fun It g g' tk hd ⟨q1, q2⟩ hk kp => ?_) (fun It pre x post s' v hd e hs' ⟨q1, q2⟩ kp rv => ?_) (hs env)
  · refine ⟨(er.more (fun a ha => (List.mem_append.mp ha).elim (fun q => .inr (hd a q)) .inl) kp fun a ha => (List.mem_append.mp ha).elim (hl a) fun q => ?_).forget hΔ0, fun y u hy b => b.kp kp⟩
    obtain ⟨o, e⟩ := er.low a q; exact kp.there e
  · have hoff := er.off_fresh hd
    exact ⟨q1.kpx kp (fun a ha => List.mem_append_left _ ha) hoff, fun y u hy b => (q2 y u hy b).kpx hoff kp⟩
  · have hoff := er.off_fresh hd
    refine h g' tk (q1.but hk (fun a ha => ⟨List.mem_append_right _ ha, fun q => ?_⟩) (fun a ha => List.mem_append_left _ ha) hoff) kp fun y u hy b => (q2 y u hy b).off hoff hk
    obtain ⟨o, e⟩ := er.low a ha; rw [hd a q] at e; cases e
  · obtain ⟨hh, tk, rfl⟩ := hs'
    obtain ⟨δ1, hb, hst⟩ := hbody pre x post e
    have ok' := ok.kpx kp hX0
    refine assign_d (N := h₀.objs.size) (s := { s with heap := hh, toks := tk }) (X := X) ok.hh q1 hb (fun x hx => hw x (hn x hx).1) (fun a ha => List.mem_append_right _ (hXO a ha)) rv fun h2 t2 er2 k2 hb2 => ?_
    refine hst (It ++ O) X env A { s with heap := h2, toks := t2 } _ _ (ok'.kpx k2 hX0) er2 hw (fun a ha => List.mem_append_right _ (hXO a ha)) hX0 fun h3 t3 er3 k3 hb3 => ?_
    exact ⟨h3, t3, rfl, ⟨er3, fun y u hy b => hb3 y u hy (hb2 y u (fun q => hy (hn y q).2) (q2 y u hy b))⟩, k2.trans k3⟩
end
end Mine
end
section
open PySem.Calls PySem.Spec PySem.SeqAt
namespace Mine

theorem bindL_skip {kd : Str → Option NameKind} {x : Str} {binds : List (Str × Value)} : ∀ {m : Str → Option Value}, (∀ p ∈ binds, p.1 ≠ x) → bindL kd binds m x = m x := by
  induction binds with
  | nil => intro m _; rfl
  | cons p r ih =>
    intro m h
    show bindL kd r (if kd p.1 = some .local then _ else m) x = _
    rw [ih fun q hq => h q (.tail _ hq)]
    split
    · exact if_neg fun e => h p (.head _) e.symm
    · rfl
theorem bindC_skip {kd : Str → Option NameKind} {x : Str} {binds : List (Str × Value)} : ∀ {m : Str → Option Value}, (∀ p ∈ binds, p.1 ≠ x) → bindC kd binds m x = m x := by
  induction binds with
  | nil => intro m _; rfl
  | cons p r ih =>
    intro m h
    show bindC kd r (if kd p.1 = some .local then m else _) x = _
    rw [ih fun q hq => h q (.tail _ hq)]
    split
    · rfl
    · exact if_neg fun e => h p (.head _) e.symm
theorem zip_names {names : List Str} {vs : List Value} {x : Str} (h : x ∉ names) : ∀ p ∈ names.zip vs, p.1 ≠ x := fun p hp e => h (e ▸ (List.of_mem_zip (a := p.1) (b := p.2) hp).1)
theorem bindL_at {kd : Str → Option NameKind} {x : Str} {v : Value} {names : List Str} : ∀ {vs : List Value} {m : Str → Option Value} {i : Nat}, names.Nodup → names[i]? = some x → vs[i]? = some v → kd x = some .local → bindL kd (names.zip vs) m x = some v := by
  induction names with
  | nil => intro vs m i _ h; cases h
  | cons n ns ih =>
    intro vs m i hd h1 h2 hk
    cases vs with
    | nil => cases h2
    | cons u us =>
      show bindL kd (ns.zip us) (if kd n = some .local then _ else m) x = _
      cases i with
      | zero =>
        cases h1; cases h2
        rw [bindL_skip (zip_names (List.nodup_cons.mp hd).1), if_pos hk]
        exact if_pos rfl
      | succ i => exact ih (List.nodup_cons.mp hd).2 h1 h2 hk
theorem bindC_at {kd : Str → Option NameKind} {x : Str} {v : Value} {names : List Str} : ∀ {vs : List Value} {m : Str → Option Value} {i : Nat}, names.Nodup → names[i]? = some x → vs[i]? = some v → kd x ≠ some .local → bindC kd (names.zip vs) m x = some v := by
  induction names with
  | nil => intro vs m i _ h; cases h
  | cons n ns ih =>
    intro vs m i hd h1 h2 hk
    cases vs with
    | nil => cases h2
    | cons u us =>
      show bindC kd (ns.zip us) (if kd n = some .local then m else _) x = _
      cases i with
      | zero =>
        cases h1; cases h2
        rw [bindC_skip (zip_names (List.nodup_cons.mp hd).1), if_neg hk]
        exact if_pos rfl
      | succ i => exact ih (List.nodup_cons.mp hd).2 h1 h2 hk

noncomputable def argD (names : List Str) (ds : List PyData) : Str → Option PyData := fun x => (names.zip ds).lookup x
theorem argD_at {names : List Str} {ds : List PyData} {x : Str} {d : PyData} (h : argD names ds x = some d) : ∃ i : Nat, names[i]? = some x ∧ ds[i]? = some d := by
  unfold argD at h
  have := PySem.mem_of_lookup h
  obtain ⟨i, hi⟩ := List.mem_iff_getElem?.mp this
  rw [List.getElem?_zip_eq_some] at hi
  exact ⟨i, hi⟩

noncomputable def fX (scope : Scope) (cells : List (Str × Addr)) (L : Addr) : List Addr := L :: scope.names.filterMap fun p => if p.2 = .cell then cells.lookup p.1 else none

section
variable {w : World} {h₀ : Heap} {k : Nat}

theorem frame_envR {O : List Addr} {s s₁ : Shared} {name : Str} {params : Arguments} {body : List Stmt} {scope : Scope} {pm cd doc : Value} {a : Addr} {names : List Str} {vs : List Value} {ds : List PyData} {N : Nat}
    (hkind : scope.kind = .function) (hnofree : ∀ p ∈ scope.names, p.2 ≠ .free) (hnd : names.Nodup) (hns : ∀ x ∈ names, scope.names.lookup x = some .local ∨ scope.names.lookup x = some .cell)
    (low : ∀ a ∈ O, ∃ o, s.heap.get? a = some o) (r : RdAll O s.heap vs ds)
    (x : InCallC s (callEnvC (docDef name params body scope pm cd doc) s.heap.objs.size a).locals (bindL (callEnvC (docDef name params body scope pm cd doc) s.heap.objs.size a).kindOf (names.zip vs) fun _ => none) (callEnvC (docDef name params body scope pm cd doc) s.heap.objs.size a).cells
        (bindC (callEnvC (docDef name params body scope pm cd doc) s.heap.objs.size a).kindOf (names.zip vs) fun _ => none) s₁) :
    let env := callEnvC (docDef name params body scope pm cd doc) s.heap.objs.size a
    let X := fX scope env.cells s.heap.objs.size
    EnvR (X ++ O) s₁.heap env scope (argD names ds) ∧ Wr X env scope ∧ (∀ b ∈ X, s.heap.get? b = none) ∧ Kp N s.heap s₁.heap := by
  intro env X
  have hk : ∀ y, env.kindOf y = scope.names.lookup y := fun y => rfl
  have hL : env.locals = s.heap.objs.size := rfl
  have hns1 : s₁.heap.Ns env.locals _ := x.toInCall.ns
  have hcells : ∀ y, scope.names.lookup y = some .cell → ∃ c, env.cells.lookup y = some c := fun y hy => cellsFrom_some (.inl (PySem.mem_of_lookup hy))
  have hX : ∀ b ∈ X, b = s.heap.objs.size ∨ ∃ y, env.cells.lookup y = some b := fun b hb => by
    rcases List.mem_cons.mp hb with e | hb
    · exact .inl e
    · obtain ⟨p, _, hp⟩ := List.mem_filterMap.mp hb
      split at hp
      · exact .inr ⟨p.1, hp⟩
      · cases hp
  have hXdead : ∀ b ∈ X, s.heap.get? b = none := fun b hb => by
    rcases hX b hb with e | ⟨y, e⟩
    · rw [e]; exact dead_size _ (Nat.le_refl _)
    · exact dead_size _ (Nat.le_of_lt (x.above y b (PySem.mem_of_lookup e)))
  have kp : Kp N s.heap s₁.heap := .of_keeps x.toInCall.keep
  refine ⟨⟨hkind, rfl, rfl, fun y kd q => .inl q, fun y d e => ?_, fun b hb => ?_, fun y z c h1 h2 => PySem.name_of_addr x.apart (PySem.mem_of_lookup h1) (PySem.mem_of_lookup h2), fun y q => ?_, ⟨_, hns1⟩, fun y c e => ⟨_, x.cell y c e⟩⟩, fun y q => ?_, hXdead, kp⟩
  · obtain ⟨i, h1, h2⟩ := argD_at e
    obtain ⟨v, hv, rv⟩ := Paired.get r h2
    refine ⟨v, (rv.more fun b hb => (List.mem_append.mp hb).elim (fun q => .inr (hXdead b q)) .inl).kp kp, ?_⟩
    rcases hns y (List.mem_of_getElem? h1) with q | q
    · exact .inl ⟨q, _, hns1, bindL_at hnd h1 hv q⟩
    · obtain ⟨c, hc⟩ := hcells y q
      refine .inr ⟨.inl q, c, hc, ?_⟩
      have := x.cell y c hc
      rwa [bindC_at hnd h1 hv (by rw [hk, q]; decide)] at this
  · rcases List.mem_append.mp hb with q | q
    · rcases hX b q with e | ⟨y, e⟩
      · obtain ⟨o, _, _, ho, _⟩ := hns1
        exact ⟨o, by rw [e]; exact ho⟩
      · obtain ⟨o, ho, _⟩ := x.cell y b e
        exact ⟨o, ho⟩
    · obtain ⟨o, e⟩ := low b q
      exact ⟨o, x.toInCall.keep b o e⟩
  · rcases q with q | q
    · exact hcells y q
    · exact absurd rfl (hnofree _ (PySem.mem_of_lookup q))
  · rcases q with q | q
    · exact .inl ⟨q, .head _⟩
    · obtain ⟨c, hc⟩ := hcells y q
      refine .inr ⟨q, c, hc, .tail _ (List.mem_filterMap.mpr ⟨(y, .cell), PySem.mem_of_lookup q, ?_⟩)⟩
      rw [if_pos rfl]; exact hc

noncomputable def DefAt (h₀ : Heap) (f : Addr) (name : Str) (params : Arguments) (body : List Stmt) (scope : Scope) : Prop :=
  ∃ o c' pm doc, h₀.get? f = some o ∧ o.data = .func (docDef name params body scope pm (.ref c') doc) ∧ h₀.CodeRec (.ref c') name

theorem Ok.deeper {A : Around} {s s₁ : Shared} {env : Env} {L : Addr} {m : Str → Option Value} (ok : Ok h₀ (k + 1) A s.heap) (hkind : env.scope.kind = .function) (hfr : env.frame = some L) (hn : s₁.heap.Ns L m) (hL : s.heap.get? L = none) (kp : Kp h₀.objs.size s.heap s₁.heap) :
    Ok h₀ k (A.deeper env) s₁.heap := by
  have o1 := ok.kp kp
  obtain ⟨fs, e, f⟩ := o1.frames
  refine ⟨ok.hh, ?_, ?_, ⟨env :: fs, by show A.frames.map (env :: ·) = _; rw [e]; rfl, Heap.FunFrames.cons (by rw [hkind]; decide) hfr hn (ok.dead hL) f⟩, o1.stays, by have := ok.lvl; omega, fun q => absurd q (by have := ok.lvl; omega)⟩
  · show A.depth + 1 + k ≤ 400; have := ok.depth; omega
  · show A.units + 3 + 100 * k ≤ 9000; have := ok.units; omega

theorem call_body {f : Addr} {name : Str} {params : Arguments} {body : List Stmt} {scope : Scope} {names : List Str} {ds : List PyData} {O : List Addr} {A : Around} {s : Shared} {vs : List Value} {Q : Value → Shared → Prop} {E : Value → Shared → Prop}
    (hlim : h₀.NoLimit) (hf : DefAt h₀ f name params body scope) (hbind : ∀ pm cd doc, bindArgs (docDef name params body scope pm cd doc) ⟨vs, []⟩ = pure (names.zip vs))
    (hkind : scope.kind = .function) (hnofree : ∀ p ∈ scope.names, p.2 ≠ .free) (hnd : names.Nodup) (hns : ∀ x ∈ names, scope.names.lookup x = some .local ∨ scope.names.lookup x = some .cell)
    (ok : Ok h₀ (k + 1) A s.heap) (low : ∀ a ∈ O, ∃ o, s.heap.get? a = some o) (r : RdAll O s.heap vs ds)
    (h : ∀ X env A' s₁, (∃ h₁ t₁, s₁ = { s with heap := h₁, toks := t₁ }) → EnvR (X ++ O) s₁.heap env scope (argD names ds) → Wr X env scope → (∀ b ∈ X, s.heap.get? b = none) → Kp h₀.objs.size s.heap s₁.heap → Ok h₀ k A' s₁.heap →
      (∃ L, env.frame = some L ∧ ∃ fs, A'.frames = some (env :: fs) ∧ s₁.heap.FunFrames h₀ (env :: fs)) →
      wpAny (model P w) A' (execs body env) (fun fl s' => Q (match fl with | .ret v => v | _ => .none) s')
        (fun e s' => wpAny (model P w) A' (leaving env e) (fun _ s'' => E e s'') (fun e' s'' => E e' s'') s') s₁)
    (hco : scope.isCoroutine = false := by rfl) (hgen : scope.isGenerator = false := by rfl) :
    wpAny (model P w) A (call (.ref f) vs) Q E s := by
  obtain ⟨o, c', pm, doc, ho, hdata, hcd⟩ := hf
  refine wpAny_call (codeAny_call_cells (fd := docDef name params body scope pm (.ref c') doc) (by have := ok.depth; have : recursionLimit = 1000 := rfl; omega) (ok.stays _ _ ho) hdata (hlim.keeps ok.stays) (hcd.keeps ok.stays) rfl (hbind pm (.ref c') doc) rfl (fun p hp => ?_) (fun s₁ x => ?_) hco hgen hkind)
  · have hm := (List.of_mem_zip (a := p.1) (b := p.2) hp).1
    rcases hns p.1 hm with q | q
    · exact .inl q
    · refine .inr ⟨q, ?_⟩
      obtain ⟨c, hc⟩ := cellsFrom_some (n := s.heap.objs.size + 1) (acc := []) (.inl (PySem.mem_of_lookup q))
      show (List.lookup p.1 (cellsFrom (s.heap.objs.size + 1) scope.names [])).isSome = true
      rw [hc]; rfl
  · obtain ⟨er, hw, hdead, kp⟩ := frame_envR (N := h₀.objs.size) hkind hnofree hnd hns low r x
    have okd := Ok.deeper (env := callEnvC (docDef name params body scope pm (.ref c') doc) s.heap.objs.size f) (s₁ := s₁) ok hkind rfl x.toInCall.ns (hdead _ (.head _)) kp
    obtain ⟨fs, e, ff⟩ := okd.frames
    have hfs : ∃ fs, (A.deeper (callEnvC (docDef name params body scope pm (.ref c') doc) s.heap.objs.size f)).frames = some (callEnvC (docDef name params body scope pm (.ref c') doc) s.heap.objs.size f :: fs) ∧ s₁.heap.FunFrames h₀ (callEnvC (docDef name params body scope pm (.ref c') doc) s.heap.objs.size f :: fs) := by
      obtain ⟨fs', e', f'⟩ := ok.frames
      refine ⟨fs', by show A.frames.map _ = _; rw [e']; rfl, ?_⟩
      have : (A.deeper (callEnvC (docDef name params body scope pm (.ref c') doc) s.heap.objs.size f)).frames = some (callEnvC (docDef name params body scope pm (.ref c') doc) s.heap.objs.size f :: fs') := by show A.frames.map _ = _; rw [e']; rfl
      rw [this] at e; cases e; exact ff
    exact h _ _ _ s₁ x.toInCall.same er hw hdead kp okd ⟨_, rfl, hfs⟩

theorem call_def {f : Addr} {name : Str} {params : Arguments} {body : List Stmt} {scope : Scope} {names : List Str} {ds : List PyData} {d : PyData} {V : List Str}
    (hlim : h₀.NoLimit) (hf : DefAt h₀ f name params body scope) (hbind : ∀ pm cd doc vs, vs.length = ds.length → bindArgs (docDef name params body scope pm cd doc) ⟨vs, []⟩ = pure (names.zip vs))
    (hkind : scope.kind = .function) (hnofree : ∀ p ∈ scope.names, p.2 ≠ .free) (hnd : names.Nodup) (hns : ∀ x ∈ names, scope.names.lookup x = some .local ∨ scope.names.lookup x = some .cell)
    (hb : StE w h₀ k scope V (argD names ds) (execs body) (.rt d))
    (hco : scope.isCoroutine = false := by rfl) (hgen : scope.isGenerator = false := by rfl) : CallE w h₀ (k + 1) (.ref f) ds d := by
  intro O A s vs Q E ok low r h
  refine call_body hlim hf (fun pm cd doc => hbind pm cd doc vs r.length) hkind hnofree hnd hns ok low r (fun X env A' s₁ hs er hw hdead kp ok' _ => ?_) hco hgen
  obtain ⟨h₁, t₁, rfl⟩ := hs
  refine hb (X ++ O) X env A' _ _ _ ok' er hw (fun a ha => List.mem_append_left _ ha) (fun a ha => ok.dead (hdead a ha)) fun v h2 t2 rv k2 => ?_
  exact h v h2 t2 (rv.sub fun a ha => List.mem_append_right _ ha) (((kp.x (X := X)).trans k2).kp hdead)
end
end Mine
end
section
open PySem.Calls PySem.Spec PySem.SeqAt
namespace Mine

theorem ints_of {O : List Addr} {h : Heap} : ∀ {vs : List Value} {ns : List Int}, RdAll O h vs (ns.map .int) → ∃ xs : List (Int × Tok), vs = xs.map (fun p => Value.int p.1 p.2) ∧ xs.map (·.1) = ns
  | _, [], .nil => ⟨[], rfl, rfl⟩
  | v :: vs, n :: ns, r => by
    cases r with
    | cons r1 r2 =>
      obtain ⟨t, rfl⟩ := r1.int_inv
      obtain ⟨xs, rfl, rfl⟩ := ints_of r2
      exact ⟨(n, t) :: xs, rfl, rfl⟩
theorem ints_arr {O : List Addr} {h : Heap} {vs : Array Value} {ns : List Int} (r : RdAll O h vs.toList (ns.map .int)) : ∃ xs : Array (Int × Tok), vs = intItems xs ∧ xs.toList.map (·.1) = ns := by
  obtain ⟨xs, e, hn⟩ := ints_of r
  refine ⟨xs.toArray, ?_, by simpa using hn⟩
  apply Array.ext'
  rw [e]; simp [intItems]

section
variable {w : World} {h₀ : Heap} {k : Nat} {sc : Scope} {δ : Str → Option PyData}

theorem one_arg {O : List Addr} {h : Heap} {vs : List Value} {d : PyData} (r : RdAll O h vs [d]) : ∃ v, vs = [v] ∧ Rd O h v d := by
  cases r with
  | cons r1 r2 => cases r2; exact ⟨_, rfl, r1⟩
theorem two_args {O : List Addr} {h : Heap} {vs : List Value} {d e : PyData} (r : RdAll O h vs [d, e]) : ∃ v u, vs = [v, u] ∧ Rd O h v d ∧ Rd O h u e := by
  cases r with
  | cons r1 r2 => cases r2 with
    | cons r2 r3 => cases r3; exact ⟨_, _, rfl, r1, r2⟩

theorem c_len {xs : List PyData} (hsz : xs.length ≤ sizeLine) : CallE w h₀ k (.builtin "len") [.list xs] (.int xs.length) := by
  intro O A s vs Q E ok low r h
  obtain ⟨v, rfl, rv⟩ := one_arg r
  obtain ⟨a, vs, rfl, hO, hl, rl⟩ := rv.list_inv
  have hlen := rl.length
  have hs : sizeLine = 2 ^ 24 := by decide +kernel
  have e : (vs.size : Int) = (xs.length : Int) := by simp at hlen; omega
  refine call_len_list hl.isList (by omega) ?_
  rw [e]
  exact h _ s.heap _ (rd_int _ _) (Kp.refl _ _)
theorem c_sum {ns : List Int} : CallE w h₀ k (.builtin "sum") [.list (ns.map .int)] (.int ns.sum) := by
  intro O A s vs Q E ok low r h
  obtain ⟨v, rfl, rv⟩ := one_arg r
  obtain ⟨a, vs, rfl, hO, hl, rl⟩ := rv.list_inv
  obtain ⟨xs, rfl, hx⟩ := ints_arr rl
  refine sum_intListG ok.hh hl.isList fun h' tk t' hk => ?_
  have e : preSum (numAt xs) xs.size = ns.sum := by rw [preSum_eq, hx, List.take_of_length_le (by rw [← hx]; simp)]
  rw [e]
  exact h _ h' tk (rd_int _ _) (.of_keeps hk)
theorem c_max {ns : List Int} {m : Int} (hm : m ∈ ns) (hle : ∀ a ∈ ns, a ≤ m) : CallE w h₀ k (.builtin "max") [.list (ns.map .int)] (.int m) := by
  intro O A s vs Q E ok low r h
  obtain ⟨v, rfl, rv⟩ := one_arg r
  obtain ⟨a, vs, rfl, hO, hl, rl⟩ := rv.list_inv
  obtain ⟨xs, rfl, hx⟩ := ints_arr rl
  have hsz : 0 < xs.size := by
    have := List.length_pos_of_mem hm
    rw [← hx] at this; simpa using this
  refine max_intList ok.hh hl.isList hsz fun v h' tk hv hk => ?_
  obtain ⟨t, rfl⟩ := intItems_at hv
  obtain ⟨h1, h2⟩ := argBest_gt (numAt xs) (xs.size - 1)
  have q1 : numAt xs (argBest (fun i j => decide (numAt xs i > numAt xs j)) (xs.size - 1)) ∈ ns := by
    rw [numAt_eq, hx]; exact getD_mem (by rw [← hx, List.length_map, Array.length_toList]; omega)
  have q2 : m ≤ numAt xs (argBest (fun i j => decide (numAt xs i > numAt xs j)) (xs.size - 1)) := by
    rw [← hx] at hm
    obtain ⟨j, hj, e⟩ := mem_getD hm
    rw [List.length_map, Array.length_toList] at hj
    rw [← numAt_eq] at e
    rw [← e]; exact h2 j (by omega)
  have e : numAt xs (argBest (fun i j => decide (numAt xs i > numAt xs j)) (xs.size - 1)) = m := Int.le_antisymm (hle _ q1) q2
  rw [e]
  exact h _ h' tk (rd_int _ _) (.of_keeps hk)
theorem c_min {a b : Int} : CallE w h₀ k (.builtin "min") [.int a, .int b] (.int (min a b)) := by
  intro O A s vs Q E ok low r h
  obtain ⟨v, u, rfl, r1, r2⟩ := two_args r
  obtain ⟨t, rfl⟩ := r1.int_inv
  obtain ⟨t', rfl⟩ := r2.int_inv
  refine min_two_ints ok.hh fun h' tk hk => h _ h' tk ?_ (.of_keeps hk)
  by_cases hc : b < a
  · rw [if_pos hc, Int.min_eq_right (Int.le_of_lt hc)]; exact rd_int _ _
  · rw [if_neg hc, Int.min_eq_left (Int.not_lt.mp hc)]; exact rd_int _ _

theorem bools_truth {A : Around} {h : Heap} {O : List Addr} {vs : Array Value} {bs : List Bool} (rl : RdAll O h vs.toList (bs.map .bool)) : TruthOf P w A (fun i v => vs[i]? = some v) (fun i => bs.getD i false) := by
  intro i v s' Q' E' hv hQ
  obtain ⟨d, hd, rd⟩ := Paired.get' rl (i := i) (a := v) (by simpa using hv)
  rw [List.getElem?_map, Option.map_eq_some_iff] at hd
  obtain ⟨c, hc, rfl⟩ := hd
  obtain rfl := rd.bool_inv
  have e : bs.getD i false = c := by rw [List.getD_eq_getElem?_getD, hc]; rfl
  rw [← e]
  exact wpAny_truthy_bool hQ
theorem all_getD (bs : List Bool) : (List.range bs.length).all (fun i => bs.getD i false) = bs.all id := by
  rw [Bool.eq_iff_iff]
  simp only [List.all_eq_true, List.mem_range]
  constructor
  · intro h b hb
    obtain ⟨i, hi, e⟩ := List.getElem_of_mem hb
    have := h i hi
    rw [List.getD_eq_getElem?_getD, List.getElem?_eq_getElem hi] at this
    simpa [e] using this
  · intro h i hi
    rw [List.getD_eq_getElem?_getD, List.getElem?_eq_getElem hi]
    exact h _ (List.getElem_mem hi)
theorem any_getD (bs : List Bool) : (List.range bs.length).any (fun i => bs.getD i false) = bs.any id := by
  rw [Bool.eq_iff_iff]
  simp only [List.any_eq_true, List.mem_range]
  constructor
  · rintro ⟨i, hi, h⟩
    rw [List.getD_eq_getElem?_getD, List.getElem?_eq_getElem hi] at h
    exact ⟨_, List.getElem_mem hi, h⟩
  · rintro ⟨b, hb, h⟩
    obtain ⟨i, hi, e⟩ := List.getElem_of_mem hb
    refine ⟨i, hi, ?_⟩
    rw [List.getD_eq_getElem?_getD, List.getElem?_eq_getElem hi]
    simpa [e] using h
theorem c_all {bs : List Bool} : CallE w h₀ k (.builtin "all") [.list (bs.map .bool)] (.bool (bs.all id)) := by
  intro O A s vs Q E ok low r h
  obtain ⟨v, rfl, rv⟩ := one_arg r
  obtain ⟨a, vs, rfl, hO, hl, rl⟩ := rv.list_inv
  have hlen := rl.length
  have hne : a ≠ s.heap.objs.size := by obtain ⟨n, ho⟩ := hl; exact Nat.ne_of_lt (Heap.lt_size ho)
  refine call_all_walk (wpAny_pyIter_list hl.isList ⟨_, _, _, _, _, _, fun i => bs.getD i false, rfl, Walks.list (A := A.in1) ok.hh _ a hne vs, ⟨⟨_, Heap.get?_push_size _ rfl, rfl, rfl⟩, hl.isList.push _⟩, bools_truth rl, fun h' tk hk => ?_⟩)
  have e : vs.size = bs.length := by simpa using hlen
  rw [e, all_getD]
  exact h _ h' tk (rd_bool _) (.of_keeps fun b o q => hk b o (fun z => Nat.ne_of_lt (Heap.lt_size q) (List.mem_singleton.mp z)) (Heap.get?_push_of_some _ q))
theorem c_any {bs : List Bool} : CallE w h₀ k (.builtin "any") [.list (bs.map .bool)] (.bool (bs.any id)) := by
  intro O A s vs Q E ok low r h
  obtain ⟨v, rfl, rv⟩ := one_arg r
  obtain ⟨a, vs, rfl, hO, hl, rl⟩ := rv.list_inv
  have hlen := rl.length
  have hne : a ≠ s.heap.objs.size := by obtain ⟨n, ho⟩ := hl; exact Nat.ne_of_lt (Heap.lt_size ho)
  refine call_any_walk (wpAny_pyIter_list hl.isList ⟨_, _, _, _, _, _, fun i => bs.getD i false, rfl, Walks.list (A := A.in1) ok.hh _ a hne vs, ⟨⟨_, Heap.get?_push_size _ rfl, rfl, rfl⟩, hl.isList.push _⟩, bools_truth rl, fun h' tk hk => ?_⟩)
  have e : vs.size = bs.length := by simpa using hlen
  rw [e, any_getD]
  exact h _ h' tk (rd_bool _) (.of_keeps fun b o q => hk b o (fun z => Nat.ne_of_lt (Heap.lt_size q) (List.mem_singleton.mp z)) (Heap.get?_push_of_some _ q))
theorem intsAre_of {O : List Addr} {h : Heap} : ∀ {vs : List Value} {ns : List Int}, RdAll O h vs (ns.map .int) → IntsAre vs ns
  | _, [], .nil => .nil
  | v :: vs, n :: ns, r => by
    cases r with
    | cons r1 r2 => obtain ⟨t, rfl⟩ := r1.int_inv; exact .cons n t (intsAre_of r2)
theorem of_intsAre {O : List Addr} {h : Heap} {vs : List Value} {ns : List Int} (r : IntsAre vs ns) : RdAll O h vs (ns.map .int) := by
  induction r with
  | nil => exact .nil
  | cons n t _ ih => exact .cons (.int n t) ih
theorem c_sorted {ns ns' : List Int} (h64 : ns.length < 64) (hp : ns'.Perm ns) (hs : ns'.Pairwise (· ≤ ·)) : CallE w h₀ k (.builtin "sorted") [.list (ns.map .int)] (.list (ns'.map .int)) := by
  intro O A s vs Q E ok low r h
  obtain ⟨v, rfl, rv⟩ := one_arg r
  obtain ⟨a, vs, rfl, hO, hl, rl⟩ := rv.list_inv
  have hlen := rl.length
  have hl' : s.heap.IsList a vs.toList.toArray := by simpa using hl.isList
  refine sorted_ints hl' (intsAre_of rl) (by simp at hlen; simp; omega) fun out ns2 hI hp2 hs2 => ?_
  have e : ns2 = ns' := ksm_same (hp2.trans hp.symm) hs2 hs
  subst e
  obtain ⟨n, he⟩ := sortedAll_at s.heap vs.toList out
  have hk : ∀ b o, s.heap.get? b = some o → (sortedAll s.heap vs.toList out).get? b = some o := fun b o q => sortedAll_old q
  refine h _ _ s.toks (rd_list ⟨n, he⟩ (fun q => ?_) (of_intsAre hI)) (.of_keeps hk)
  obtain ⟨o, q⟩ := low _ q
  exact absurd (Heap.lt_size q) (Nat.not_lt.mpr (Nat.le_succ _))

theorem ev_index {o e : Expr} {apos pos : Pos} {ns : List Int} {n : Int} {j : Nat} (ho : EvE w h₀ k sc δ o (.list (ns.map .int))) (he : EvE w h₀ k sc δ e (.int n)) (hj : ns.idxOf? n = some j) (hsz : ns.length ≤ sizeLine)
    (hbase : ∀ env, attributeBase o "index" env (eval o env) = eval o env := by intro _; rfl) (hline : (apos.endLine == pos.line) = true := by rfl) (htrees : ∀ env, backTo pos (starEach [e] env) = [(false, eval e env)] := by intro _; rfl) :
    EvE w h₀ k sc δ (.Call (.Attribute o "index" apos) [e] [] pos) (.int j) := by
  intro O env A s Q E ok er h
  refine wpAny_Call_method1_late (hbase env) hline (htrees env) (ho.then ok er fun v h1 t1 r1 k1 ok1 er1 => ?_)
  obtain ⟨l, vs, rfl, hO, hl, rl⟩ := r1.list_inv
  obtain ⟨nn, hn⟩ := id hl
  refine ⟨"list", "list.index", F.plainAttrs_list, F.slot_list_index, F.type_list_index, ⟨_, hn, rfl⟩, fun a ha => ?_, ?_⟩
  · cases ha; exact ⟨_, hn, rfl⟩
  refine callWith_builtin rfl (evalArgs_plain (spliced_cons (he.then (s := { s with heap := h1, toks := t1 }) ok1 er1 fun v2 h2 t2 r2 k2 ok2 er2 => spliced_nil ?_)))
  obtain ⟨u, rfl⟩ := r2.int_inv
  have hn2 := k2.get hn (by simp)
  obtain ⟨xs, hvs, hxs⟩ := ints_arr rl
  obtain ⟨hjlt, hjn, hjmin⟩ := List.idxOf?_eq_some_iff.mp hj
  have hsz2 : sizeLine = 2 ^ 24 := by decide +kernel
  have hlen : vs.size = ns.length := by have := rl.length; simpa using this
  have at' : ∀ m (hm : m < vs.size), ∃ t, vs[m] = .int (ns[m]'(by omega)) t := fun m hm => by
    obtain ⟨v, hv, rv⟩ := Paired.get rl (i := m) (b := .int (ns[m]'(by omega))) (by rw [List.getElem?_map, List.getElem?_eq_getElem (by omega)]; rfl)
    obtain ⟨t, rfl⟩ := rv.int_inv
    refine ⟨t, ?_⟩
    rw [Array.getElem?_toList, Array.getElem?_eq_getElem hm] at hv
    exact Option.some.inj hv
  refine call_meets F.slot_list_index ⟨_, hn2, rfl⟩ F.entry_list_index (F.args_list_index_2 _ _) (PySem.MeetsSeq.list_index l vs nn (.int n u) (fun y => match y with | .int i _ => i == n | _ => false) (fun y hy => ?_) j (by omega) (by omega) ?_ fun m hm hlt => ?_) ⟨hn2, ?_⟩
  · obtain ⟨i, hi, rfl⟩ := Array.getElem_of_mem hy
    obtain ⟨t, e⟩ := at' i hi
    rw [e]; exact PySem.MeetsSeq.EqGives.int _ n t u
  · obtain ⟨t, e⟩ := at' j (by omega)
    rw [e]
    simpa using hjn
  · obtain ⟨t, e⟩ := at' m hm
    rw [e]
    simpa using hjmin m hlt
  · exact h _ h2 _ (rd_int _ _) (k1.trans k2)
theorem mul_rep {A : Around} {E : Value → Shared → Prop} {s : Shared} {l : Addr} {vs : Array Value} {kk : Nat} {x : Int} {u : Tok} {Q : Value → Shared → Prop} (ho : s.heap.get? l = some { cls := .type "list", data := .seq vs kk })
    (hlo : -(2 ^ 63 : Int) ≤ x) (hhi : x < 2 ^ 63) (hsz : vs.size * x.toNat ≤ 2 ^ 24)
    (h : Q (.ref s.heap.objs.size) { s with heap := s.heap.push { cls := .type "list", data := .seq (List.foldl (fun x1 x2 => x1 ++ x2) #[] (List.replicate (if vs.isEmpty = true then 0 else x.toNat) vs)) } }) :
    wpAny (model P w) A (binaryOp .Mult (.ref l) (.int x u)) Q E s :=
  wpAny_binaryOp_repeat_ref (T := "list") (U := "int") (by decide) ⟨_, ho, rfl⟩ (fun s' => typeIs_int s' x u) noFill_list_mul F.fills_int_mul F.slot_int_rmul repeat_list F.slot_int_index.lookup
    (call_meets F.slot_int_rmul (typeIs_int s x u) F.entry_int_rmul (F.args_int_rmul_2 _ _) (lm_int_rmul_list_any x u l vs kk none #[])
      ⟨ho, rfl, ⟨_, ho, rfl⟩, call_meets F.slot_list_mul ⟨_, ho, rfl⟩ F.entry_list_mul (F.args_list_mul_2 _ _)
        (lm_list_mul_any l vs kk none #[] x u (by simp [Builtin.List.listFitsIndex]; omega) (by omega) (by simp [Builtin.List.listTooLong, sizeLine]; omega))
        ⟨ho, h⟩⟩)
end
end Mine
end
section
open PySem.Calls PySem.Spec PySem.SeqAt
namespace Mine
noncomputable def bodyAt (i : Nat) : List Stmt := match P.main.body[i]? with | some (.FunctionDef (body := b) ..) => b | _ => []
noncomputable def scopeAt (i : Nat) : Scope := match P.main.body[i]? with | some (.FunctionDef (scope := b) ..) => b | _ => default
noncomputable def parsAt (i : Nat) : Arguments := match P.main.body[i]? with | some (.FunctionDef (args := b) ..) => b | _ => default
noncomputable def nameAt (i : Nat) : Str := match P.main.body[i]? with | some (.FunctionDef (name := b) ..) => b | _ => default
noncomputable def argsAt (i : Nat) : List Str := (parsAt i).args.map (·.arg)

noncomputable def Le (δ' δ : Str → Option PyData) : Prop := ∀ y d, δ' y = some d → δ y = some d
noncomputable def LeOn (δ' δ : Str → Option PyData) : List Str → Prop
  | [] => True
  | x :: xs => (δ' x = none ∨ δ' x = δ x) ∧ LeOn δ' δ xs
theorem LeOn.at {δ' δ : Str → Option PyData} : ∀ {xs : List Str}, LeOn δ' δ xs → ∀ x ∈ xs, δ' x = none ∨ δ' x = δ x
  | x :: xs, h, y, hy => by
    rcases List.mem_cons.mp hy with rfl | hy
    · exact h.1
    · exact LeOn.at h.2 y hy
theorem le_of {δ' δ : Str → Option PyData} (xs : List Str) (h1 : LeOn δ' δ xs) (h2 : ∀ y, y ∉ xs → δ' y = none ∨ δ' y = δ y) : Le δ' δ := fun y d e => by
  have : δ' y = none ∨ δ' y = δ y := by
    by_cases hy : y ∈ xs
    · exact h1.at y hy
    · exact h2 y hy
  rcases this with q | q
  · rw [q] at e; cases e
  · rw [← q]; exact e
theorem Le.refl (δ : Str → Option PyData) : Le δ δ := fun _ _ e => e

noncomputable def HasDef (h₀ : Heap) (i : Nat) : Prop := ∃ f, Gl h₀ (nameAt i) (.ref f) ∧ DefAt h₀ f (nameAt i) (parsAt i) (bodyAt i) (scopeAt i)
structure Base (h₀ : Heap) : Prop where
  lim : h₀.NoLimit
  len : Gl h₀ "len" (.builtin "len")
  range : Gl h₀ "range" (.type "range")
  enum : Gl h₀ "enumerate" (.type "enumerate")
  zip : Gl h₀ "zip" (.type "zip")
  sum : Gl h₀ "sum" (.builtin "sum")
  max : Gl h₀ "max" (.builtin "max")
  min : Gl h₀ "min" (.builtin "min")
  all : Gl h₀ "all" (.builtin "all")
  any : Gl h₀ "any" (.builtin "any")
  sorted : Gl h₀ "sorted" (.builtin "sorted")

theorem len1_all {p : List Value → Prop} (h : ∀ a, p [a]) : ∀ {vs : List Value}, vs.length = 1 → p vs := fun {vs} e => by
  cases vs with
  | nil => cases e
  | cons a l => rw [List.length_eq_zero_iff.mp (Nat.succ.inj e)]; exact h a
theorem len2_all {p : List Value → Prop} (h : ∀ a b, p [a, b]) : ∀ {vs : List Value}, vs.length = 2 → p vs := fun {vs} e => by
  cases vs with
  | nil => cases e
  | cons a l => exact len1_all (p := fun l => p (a :: l)) (h a) (Nat.succ.inj e)
theorem len3_all {p : List Value → Prop} (h : ∀ a b c, p [a, b, c]) : ∀ {vs : List Value}, vs.length = 3 → p vs := fun {vs} e => by
  cases vs with
  | nil => cases e
  | cons a l => exact len2_all (p := fun l => p (a :: l)) (h a) (Nat.succ.inj e)

theorem DefAt.callee {h₀ f n p b s} (d : DefAt h₀ f n p b s) : CalleeOk h₀ (.ref f) := by
  obtain ⟨o, c', pm, doc, ho, hd, _⟩ := d
  exact .inr (.inr ⟨f, o, _, rfl, ho, hd⟩)
theorem callee_b {h₀ id} : CalleeOk h₀ (.builtin id) := .inl ⟨_, rfl⟩
section
variable {w : World} {h₀ : Heap} {k : Nat}

noncomputable def chooseF (many : Int) (few : Nat) : Int := (List.range few).foldl (fun found (at_ : Nat) => (found * (many - (at_ : Int))).fdiv ((at_ : Int) + 1)) 1

theorem rangeD_split {a c : Int} {n : Nat} {pre x post} (e : rangeD a c n = pre ++ x :: post) : pre = rangeD a c pre.length ∧ x = .int (a + pre.length * c) ∧ pre.length < n := by
  have hlen : n = pre.length + (post.length + 1) := by
    have := congrArg List.length e
    simpa [rangeD] using this
  have h1 : pre = (rangeD a c n).take pre.length := by rw [e]; simp
  have h2 : (rangeD a c n)[pre.length]? = some x := by rw [e]; simp
  refine ⟨?_, ?_, by omega⟩
  · rw [h1, rangeD, ← List.map_take, List.take_range]
    simp only [rangeD, List.length_map, List.length_range]
  · simp [rangeD, show pre.length < n by omega] at h2
    exact h2.symm

end
end Mine
end
section
open PySem.Calls PySem.Spec PySem.SeqAt
namespace Mine

theorem fm_range {α : Type} (xs : List α) (a : Nat) : ∀ c, ((List.range c).map (a + ·)).filterMap (xs[·]?) = (xs.drop a).take c
  | 0 => by simp
  | c + 1 => by
    rw [List.range_succ, List.map_append, List.filterMap_append, fm_range xs a c, List.take_add_one]
    congr 1
    simp [List.filterMap_cons]
    cases h : xs[a + c]? <;> simp
theorem pick_plain {α : Type} (xs : List α) (lo hi : Option Int) : pick xs lo hi none = (xs.drop (lo.elim 0 (clipAt xs.length))).take (hi.elim xs.length (clipAt xs.length) - lo.elim 0 (clipAt xs.length)) := by
  unfold pick
  rw [sliceBounds_plain]
  simp only
  rw [sliceRange_one, fm_range]
theorem clip_le {n a : Nat} (h : a ≤ n) : clipAt n (a : Int) = a := by
  unfold clipAt
  rw [if_neg (Int.not_lt.mpr (Int.natCast_nonneg a)), Int.min_eq_left (Int.ofNat_le.mpr h), Int.max_eq_right (Int.natCast_nonneg a)]; rfl
theorem pick_drop {α : Type} (xs : List α) {a : Nat} (h : a ≤ xs.length) : pick xs (some (a : Int)) none none = xs.drop a := by
  rw [pick_plain]
  simp only [Option.elim, clip_le h]
  exact List.take_of_length_le (by simp)
theorem pick_take {α : Type} (xs : List α) {a : Nat} (h : a ≤ xs.length) : pick xs none (some (a : Int)) none = xs.take a := by
  rw [pick_plain]
  simp [Option.elim, clip_le h]
end Mine
end
section
open PySem.Calls PySem.Spec PySem.SeqAt
namespace Mine

theorem szl : sizeLine = 16777216 := by decide +kernel

section
variable {w : World} {h₀ : Heap} {k : Nat} {sc : Scope} {δ : Str → Option PyData}

theorem ev_len (B : Base h₀) {e : Expr} {p pos : Pos} {xs : List PyData} (hx : sc.names.lookup ("len" : Str) = some .globalImplicit) (he : EvE w h₀ k sc δ e (.list xs)) (hsz : xs.length ≤ sizeLine)
    (hs : ∀ env, starEach [e] env = (false, eval e env) :: starEach [] env := by intro _; rfl) : EvE w h₀ k sc δ (.Call (.Name "len" p) [e] [] pos) (.int xs.length) :=
  ev_call hx B.len callee_b (evs_cons he evs_nil hs) (c_len hsz) hs
theorem ev_sum (B : Base h₀) {e : Expr} {p pos : Pos} {ns : List Int} (hx : sc.names.lookup ("sum" : Str) = some .globalImplicit) (he : EvE w h₀ k sc δ e (.list (ns.map .int)))
    (hs : ∀ env, starEach [e] env = (false, eval e env) :: starEach [] env := by intro _; rfl) : EvE w h₀ k sc δ (.Call (.Name "sum" p) [e] [] pos) (.int ns.sum) :=
  ev_call hx B.sum callee_b (evs_cons he evs_nil hs) c_sum hs
theorem ev_max (B : Base h₀) {e : Expr} {p pos : Pos} {ns : List Int} {m : Int} (hx : sc.names.lookup ("max" : Str) = some .globalImplicit) (he : EvE w h₀ k sc δ e (.list (ns.map .int))) (hm : m ∈ ns) (hle : ∀ a ∈ ns, a ≤ m)
    (hs : ∀ env, starEach [e] env = (false, eval e env) :: starEach [] env := by intro _; rfl) : EvE w h₀ k sc δ (.Call (.Name "max" p) [e] [] pos) (.int m) :=
  ev_call hx B.max callee_b (evs_cons he evs_nil hs) (c_max hm hle) hs
theorem ev_all (B : Base h₀) {e : Expr} {p pos : Pos} {bs : List Bool} (hx : sc.names.lookup ("all" : Str) = some .globalImplicit) (he : EvE w h₀ k sc δ e (.list (bs.map .bool)))
    (hs : ∀ env, starEach [e] env = (false, eval e env) :: starEach [] env := by intro _; rfl) : EvE w h₀ k sc δ (.Call (.Name "all" p) [e] [] pos) (.bool (bs.all id)) :=
  ev_call hx B.all callee_b (evs_cons he evs_nil hs) c_all hs
theorem ev_any (B : Base h₀) {e : Expr} {p pos : Pos} {bs : List Bool} (hx : sc.names.lookup ("any" : Str) = some .globalImplicit) (he : EvE w h₀ k sc δ e (.list (bs.map .bool)))
    (hs : ∀ env, starEach [e] env = (false, eval e env) :: starEach [] env := by intro _; rfl) : EvE w h₀ k sc δ (.Call (.Name "any" p) [e] [] pos) (.bool (bs.any id)) :=
  ev_call hx B.any callee_b (evs_cons he evs_nil hs) c_any hs
theorem ev_sorted (B : Base h₀) {e : Expr} {p pos : Pos} {ns ns' : List Int} (hx : sc.names.lookup ("sorted" : Str) = some .globalImplicit) (he : EvE w h₀ k sc δ e (.list (ns.map .int))) (h64 : ns.length < 64) (hp : ns'.Perm ns) (hso : ns'.Pairwise (· ≤ ·))
    (hs : ∀ env, starEach [e] env = (false, eval e env) :: starEach [] env := by intro _; rfl) : EvE w h₀ k sc δ (.Call (.Name "sorted" p) [e] [] pos) (.list (ns'.map .int)) :=
  ev_call hx B.sorted callee_b (evs_cons he evs_nil hs) (c_sorted h64 hp hso) hs
theorem ev_min (B : Base h₀) {e e' : Expr} {p pos : Pos} {a b : Int} (hx : sc.names.lookup ("min" : Str) = some .globalImplicit) (he : EvE w h₀ k sc δ e (.int a)) (he' : EvE w h₀ k sc δ e' (.int b))
    (hs : ∀ env, starEach [e, e'] env = (false, eval e env) :: starEach [e'] env := by intro _; rfl) (hs' : ∀ env, starEach [e'] env = (false, eval e' env) :: starEach [] env := by intro _; rfl) : EvE w h₀ k sc δ (.Call (.Name "min" p) [e, e'] [] pos) (.int (min a b)) :=
  ev_call hx B.min callee_b (evs_cons he (evs_cons he' evs_nil hs') hs) c_min hs (fun env => by rw [hs']; rfl)

theorem tests_one {c : Expr} {b : Bool} (h : TrE w h₀ k sc δ c b) : TestsE w h₀ k sc δ [c] b := ⟨b, h, fun e => e, fun e => e⟩

noncomputable abbrev CSide (sc scope : Scope) (tg : Expr) : Prop :=
  scope.kind = .function ∧ (∀ p ∈ scope.names, scope.names.lookup p.1 = some p.2) ∧ (∀ p ∈ scope.names, p.2 = .free → sc.names.lookup p.1 = some .cell ∨ sc.names.lookup p.1 = some .free) ∧
  (∀ x ∈ tnames tg, scope.names.lookup x = some .local ∨ scope.names.lookup x = some .cell)

theorem inner_own {scope : Scope} {x : Str} (h : scope.names.lookup x = some .local ∨ scope.names.lookup x = some .cell) : inner scope δ x = none := by
  unfold inner
  rw [if_neg]
  intro e
  rcases h with h | h <;> (rw [h] at e; cases e)

theorem comp_gen {elt target iter : Expr} {ifs : List Expr} {gs : List Comprehension} {scope : Scope} {r : List PyData} {T : Expr → Prop} {xs : List PyData} (f : PyData → List PyData) (hside : CSide sc scope target) (ha : ∀ g ∈ gs, g.is_async = 0) (hlen : r.length ≤ sizeLine) (hit : ItE w h₀ k sc δ T iter xs) (hT : T target) (hr : r = xs.flatMap f)
    (hb : ∀ x ∈ xs, ∃ δ' b, BindT target x (inner scope δ) δ' ∧ TestsE w h₀ k scope δ' ifs b ∧ (b = false → f x = []) ∧ (b = true → CmpB w h₀ k scope elt gs δ' (f x)))
    (hfs : ∀ env v, foldedSetIterable iter env v = pure v := by intro _ _; rfl) : CompR w h₀ k sc δ elt (⟨target, iter, ifs, 0⟩ :: gs) scope r := by
  refine ⟨fun g hg => ?_, hside.1, hside.2.1, hside.2.2.1, hlen, _, _, rfl, T, xs, f, hit, hT, fun x hx => ⟨hside.2.2.2 x hx, inner_own (hside.2.2.2 x hx)⟩, hr, hfs, hb⟩
  rcases List.mem_cons.mp hg with rfl | hg
  · rfl
  · exact ha g hg
theorem filter_flat {α β : Type} (p : α → Bool) (g : α → β) : ∀ xs : List α, (xs.filter p).map g = xs.flatMap fun x => if p x then [g x] else []
  | [] => rfl
  | x :: xs => by
    rw [List.filter_cons, List.flatMap_cons, ← filter_flat p g xs]
    cases p x <;> simp
end
end Mine
end
section
open Mine PySem.Calls PySem.Spec PySem.SeqAt
local macro_rules | `(tactic| walk_at "size") => `(tactic| first | assumption | (rw [szl]; omega) | (rw [szl]; simp only [List.length_append, List.length_cons, List.length_nil, List.length_map, List.length_take, List.length_drop, List.length_range] at *; omega) | (rw [szl]; simp at *; omega) | decide +kernel)
local macro_rules | `(tactic| walk_at "bin") => `(tactic| first | exact bin_add _ _ | exact bin_sub _ _ | (refine bin_mul _ _ ?_; exact IntMulOk.of_right (PySem.intBits_le_64 (by omega) (by omega))) | (refine bin_div _ _ ?_ ?_; (omega); exact PyProof.noPylong_small (by omega)) | (refine bin_mod _ _ ?_; omega) | (refine bin_addList _ _ ?_; walk_at "size"))
local macro_rules | `(tactic| walk_at "cmp") => `(tactic| first | exact cmp_lt _ _ | exact cmp_le _ _ | exact cmp_gt _ _ | exact cmp_eq_int _ _ | exact cmp_ne_int _ _)
local macro_rules | `(tactic| walk_at "evs") => `(tactic| first | exact evs_nil | (refine' evs_cons ?h1 ?h2; (case h1 => walk_at "ev"); (case h2 => walk_at "evs")))
local macro_rules | `(tactic| walk_at "opt") => `(tactic| first | exact opt_none | (refine' opt_some ?h1; (case h1 => walk_at "ev")))
local macro_rules | `(tactic| walk_at "tr") => `(tactic| first
  | (refine' tr_cmp ?h1 ?h2 ?h3; (case h1 => walk_at "ev"); (case h2 => walk_at "ev"); (case h3 => walk_at "cmp"))
  | (refine' tr_not ?h1; (case h1 => walk_at "tr"))
  | (refine' tr_val ?h1; (case h1 => walk_at "ev")))
local macro_rules | `(tactic| walk_at "ev") => `(tactic| first
  | assumption
  | exact ev_int | exact ev_bool | exact ev_name rfl
  | (refine' ev_bin ?h1 ?h2 ?h3; (case h1 => walk_at "ev"); (case h2 => walk_at "ev"); (case h3 => walk_at "bin"))
  | (refine' ev_cmp ?h1 ?h2 ?h3; (case h1 => walk_at "ev"); (case h2 => walk_at "ev"); (case h3 => walk_at "cmp"))
  | (refine' ev_list ?h1 ?h2; (case h1 => walk_at "evs"); (case h2 => walk_at "size"))
  | (refine' ev_tuple ?h1 ?h2; (case h1 => walk_at "evs"); (case h2 => walk_at "size"))
  | (refine' ev_slice ?h1 ?h2 ?h3 ?h4 ?h5 ?h6; (case h1 => walk_at "ev"); (case h2 => walk_at "opt"); (case h3 => walk_at "opt"); (case h4 => walk_at "opt"); (case h5 => simp); (case h6 => walk_at "size"))
  | (refine' ev_len (by assumption) (by decide +kernel) ?h1 ?h2; (case h1 => walk_at "ev"); (case h2 => walk_at "size")))
local macro_rules | `(tactic| walk_at "le") => `(tactic| first | (show LeOn _ _ _; repeat' (first | exact trivial | refine ⟨?_, ?_⟩ | exact Or.inr rfl | exact Or.inl rfl)) | (intro y hy; simp at hy; first | (exact Or.inr (by simp [upd, hy])) | (exact Or.inl (by simp [upd, hy]))))
section
open PySem.Calls PySem.Spec PySem.SeqAt
namespace Mine
section
variable {w : World} {h₀ : Heap} {k : Nat}
theorem c_choose (B : Base h₀) {f} (hf : DefAt h₀ f (nameAt 11) (parsAt 11) (bodyAt 11) (scopeAt 11)) (many : Int) (few : Nat) (h1 : -1000 ≤ many ∧ many ≤ 1000) (h2 : few ≤ 100) :
    CallE w h₀ (k + 1) (.ref f) [.int many, .int few] (.int (chooseF many few)) := by
  refine call_def (V := ["found", "at"]) (names := argsAt 11) B.lim hf (fun pm cd doc vs hl => by refine len2_all (p := fun vs => bindArgs _ ⟨vs, []⟩ = pure ((argsAt 11).zip vs)) (fun _ _ => rfl) hl) (by decide +kernel) (by decide +kernel) (by decide +kernel) (by decide +kernel) ?_
  refine st_seq (δ1 := upd (argD (argsAt 11) [.int many, .int few]) "found" (.int 1)) (st_assign (by walk_at "ev") (.inl (by decide +kernel)) (by decide +kernel)) ?_
  refine st_seq (δ1 := upd (argD (argsAt 11) [.int many, .int few]) "found" (.int (chooseF many few))) ?_ (st_stop (st_ret (ev_name rfl)))
  have hlen : (rangeD 0 1 ((few : Int)).toNat).length = few := by simp [rangeD]
  refine st_forget (st_for (Δ := fun pre => upd (argD (argsAt 11) [.int many, .int few]) "found" (.int (chooseF many pre.length))) (it_range1 (n := (few : Int)) (by decide +kernel) B.range (by walk_at "ev") (small_one (by omega) (by omega) (by omega) (by omega)))
    ⟨_, _, rfl⟩ (Le.refl _) (fun x hx => ⟨.inl ?_, ?_⟩) fun pre x post e => ?_) ?_
  · rw [List.mem_singleton.mp hx]; decide +kernel
  · rw [List.mem_singleton.mp hx]; decide +kernel
  · obtain ⟨hp, rfl, hlt⟩ := rangeD_split e
    refine ⟨_, .name, ?_⟩
    refine st_seq (st_assign (x := "found") (d := .int (chooseF many (pre.length + 1))) ?_ (.inl (by decide +kernel)) (by decide +kernel)) (st_forget st_nil ?_)
    · have e : chooseF many (pre.length + 1) = (chooseF many pre.length * (many - (0 + pre.length * 1))).fdiv ((0 + pre.length * 1) + 1) := by
        simp [chooseF, List.range_succ]
      rw [e]
      walk_at "ev"
    · simp only [List.length_append, List.length_singleton]
      refine le_of ["found", "at"] ?_ ?_
      · skip
        walk_at "le"
      · skip
        walk_at "le"
  · intro y d h
    rw [hlen]; exact h
end
end Mine
end
section
open PySem.Calls PySem.Spec PySem.SeqAt
namespace Mine
section
variable {w : World} {h₀ : Heap} {k : Nat}

noncomputable def wishRow (n : Int) (d : PyData) : List PyData := match d with
  | .list ds => (List.range (ds.length + 1)).map fun at_ => .list (ds.take at_ ++ [.int n] ++ ds.drop at_)
  | _ => []
noncomputable def wishD : Nat → List PyData
  | 0 => [.list []]
  | n + 1 => (wishD n).flatMap (wishRow n)
theorem wishD_mem : ∀ (n : Nat) (d : PyData), d ∈ wishD n → ∃ ds, d = .list ds ∧ ds.length = n
  | 0, d, h => ⟨[], by simpa [wishD] using h, rfl⟩
  | n + 1, d, h => by
    obtain ⟨e, he, h⟩ := List.mem_flatMap.mp h
    obtain ⟨ds, rfl, hl⟩ := wishD_mem n e he
    obtain ⟨a, ha, rfl⟩ := List.mem_map.mp h
    have ha : a < ds.length + 1 := by simpa using ha
    refine ⟨_, rfl, ?_⟩
    simp only [List.length_append, List.length_take, List.length_drop, List.length_singleton]
    omega
theorem wishD_len {n : Nat} (h : n ≤ 4) : (wishD n).length ≤ 24 := by
  have : ∀ m : Fin 5, (wishD m).length ≤ 24 := by decide
  exact this ⟨n, by omega⟩

theorem c_wishes (B : Base h₀) {f} (hf : DefAt h₀ f (nameAt 8) (parsAt 8) (bodyAt 8) (scopeAt 8)) (size : Nat) (h2 : size ≤ 4) :
    CallE w h₀ (k + 1) (.ref f) [.int size] (.list (wishD size)) := by
  refine call_def (V := ["rows", "name"]) (names := argsAt 8) B.lim hf (fun pm cd doc vs hl => by refine len1_all (p := fun vs => bindArgs _ ⟨vs, []⟩ = pure ((argsAt 8).zip vs)) (fun _ => rfl) hl) (by decide +kernel) (by decide +kernel) (by decide +kernel) (by decide +kernel) ?_
  refine st_seq (δ1 := upd (argD (argsAt 8) [.int size]) "rows" (.list [.list []])) (st_assign (by walk_at "ev") (by decide +kernel) (by decide +kernel)) ?_
  refine st_seq (δ1 := upd (argD (argsAt 8) [.int size]) "rows" (.list (wishD size))) ?_ (st_stop (st_ret (ev_name rfl)))
  have hlen : (rangeD 0 1 ((size : Int) - 0).toNat).length = size := by simp [rangeD]
  refine st_forget (st_for (Δ := fun pre => upd (argD (argsAt 8) [.int size]) "rows" (.list (wishD pre.length))) (it_range1 (n := (size : Int)) (by decide +kernel) B.range (by walk_at "ev") (small_one (by omega) (by omega) (by omega) (by omega)))
    ⟨_, _, rfl⟩ (Le.refl _) (by decide +kernel) fun pre x post e => ?_) ?_
  · obtain ⟨hp, rfl, hlt⟩ := rangeD_split e
    have hj : pre.length < 4 := by omega
    refine ⟨_, .name, ?_⟩
    refine st_seq (st_assign_comp (x := "rows") (r := wishD (pre.length + 1)) ?_ (by decide +kernel) (by decide +kernel)) (st_forget st_nil ?_)
    · refine comp_gen (wishRow (0 + pre.length * 1)) (by decide +kernel) (by decide +kernel) (by have := wishD_len (n := pre.length + 1) (by omega); rw [szl]; omega) (it_list (xs := wishD pre.length) (ev_name rfl)) (.inl ⟨_, _, rfl⟩) (by simp [wishD]) fun x hx => ?_
      obtain ⟨ds, rfl, hds⟩ := wishD_mem _ _ hx
      refine ⟨_, true, .name, rfl, (fun e => by cases e), fun _ => ?_⟩
      refine ⟨rfl, TName, rangeD 0 1 (((ds.length : Int) + 1)).toNat, fun at_ => match at_ with | .int a => [.list (ds.take a.toNat ++ [.int (0 + pre.length * 1)] ++ ds.drop a.toNat)] | _ => [], it_range1 (by decide +kernel) B.range (by walk_at "ev") (small_one (by omega) (by omega) (by omega) (by omega)), ⟨_, _, rfl⟩, ?_, ?_, fun _ _ => rfl, fun y hy => ?_⟩
      · intro x hx
        rw [List.mem_singleton.mp hx]
        exact ⟨by decide +kernel, rfl⟩
      · have e : (((ds.length : Int) + 1)).toNat = ds.length + 1 := by omega
        rw [e, rangeD, List.flatMap_map, wishRow, List.map_eq_flatMap]
        congr 1
        funext i
        simp
      · obtain ⟨i, hi, rfl⟩ := List.mem_map.mp hy
        have hi : i < ds.length + 1 := by simp at hi; omega
        refine ⟨_, true, .name, rfl, (fun e => by cases e), fun _ => ⟨_, rfl, ?_⟩⟩
        have e0 : ((0 : Int) + (i : Int) * 1) = (i : Int) := by omega
        rw [e0]
        have e1 : ((i : Int)).toNat = i := by simp
        rw [e1, ← pick_take ds (a := i) (by omega), ← pick_drop ds (a := i) (by omega)]
        have l1 : (pick ds none (some (i : Int)) none).length ≤ 4 := by rw [pick_take ds (a := i) (by omega)]; simp; omega
        have l2 : (pick ds (some (i : Int)) none none).length ≤ 4 := by rw [pick_drop ds (a := i) (by omega)]; simp; omega
        walk_at "ev"
    · simp only [List.length_append, List.length_singleton]
      refine le_of ["rows", "name"] ?_ ?_ <;> walk_at "le"
  · intro y d h
    have e : (rangeD 0 1 (size : Int).toNat).length = size := by simp [rangeD]
    rw [e]; exact h
end
end Mine
end
section
open PySem.Calls PySem.Spec PySem.SeqAt
namespace Mine

noncomputable def ix (ns : List Int) (n : Int) : Nat := (ns.idxOf? n).getD 0
noncomputable def LI (r : List Int) : PyData := .list (r.map .int)
noncomputable def PD (p : Int × Int) : PyData := .tuple [.int p.1, .int p.2]
theorem ints_inj : ∀ {a b : List Int}, a.map PyData.int = b.map PyData.int → a = b
  | [], [], _ => rfl
  | [], _ :: _, h => by simp at h
  | _ :: _, [], h => by simp at h
  | x :: xs, y :: ys, h => by
    simp only [List.map_cons, List.cons.injEq, PyData.int.injEq] at h
    rw [h.1, ints_inj h.2]
theorem LI_inj {a b : List Int} (h : LI a = LI b) : a = b := ints_inj (by simpa [LI] using h)
theorem PD_inj {a b : Int × Int} (h : PD a = PD b) : a = b := by
  simp only [PD, PyData.tuple.injEq, List.cons.injEq, PyData.int.injEq, and_true] at h
  exact Prod.ext h.1 h.2
theorem range_inj {a c : Int} (hc : c ≠ 0) {i j : Nat} (h : PyData.int (a + i * c) = PyData.int (a + j * c)) : i = j := by
  simp only [PyData.int.injEq] at h
  have : (i : Int) * c = (j : Int) * c := by omega
  have := Int.eq_of_mul_eq_mul_right hc this
  omega
theorem rInt_inj {i j : Nat} (h : PyData.int ((0 : Int) + i * 1) = PyData.int ((0 : Int) + j * 1)) : i = j := range_inj (by decide) h

section
variable {w : World} {h₀ : Heap} {k : Nat} {sc : Scope} {δ : Str → Option PyData}

open Classical in
noncomputable def onEnc {τ : Type} (enc : τ → PyData) (F : τ → List PyData) (d : PyData) : List PyData := if h : ∃ t, enc t = d then F h.choose else []
theorem onEnc_at {τ : Type} {enc : τ → PyData} (hinj : ∀ {a b}, enc a = enc b → a = b) (F : τ → List PyData) (t : τ) : onEnc enc F (enc t) = F t := by
  have h : ∃ u, enc u = enc t := ⟨t, rfl⟩
  unfold onEnc
  rw [dif_pos h, hinj h.choose_spec]
theorem flat_enc {τ : Type} {enc : τ → PyData} (hinj : ∀ {a b}, enc a = enc b → a = b) (F : τ → List PyData) (ts : List τ) : ts.flatMap F = (ts.map enc).flatMap (onEnc enc F) := by
  rw [List.flatMap_map]
  congr 1
  funext t
  exact (onEnc_at hinj F t).symm

theorem comp_genT {τ : Type} (enc : τ → PyData) (hinj : ∀ {a b}, enc a = enc b → a = b) {elt target iter : Expr} {ifs : List Expr} {gs : List Comprehension} {scope : Scope} {T : Expr → Prop} (ts : List τ) (F : τ → List PyData) (hside : CSide sc scope target) (ha : ∀ g ∈ gs, g.is_async = 0)
    (hlen : (ts.flatMap F).length ≤ sizeLine) (hit : ItE w h₀ k sc δ T iter (ts.map enc)) (hT : T target)
    (hb : ∀ t ∈ ts, ∃ δ' b, BindT target (enc t) (inner scope δ) δ' ∧ TestsE w h₀ k scope δ' ifs b ∧ (b = false → F t = []) ∧ (b = true → CmpB w h₀ k scope elt gs δ' (F t)))
    (hfs : ∀ env v, foldedSetIterable iter env v = pure v := by intro _ _; rfl) : CompR w h₀ k sc δ elt (⟨target, iter, ifs, 0⟩ :: gs) scope (ts.flatMap F) :=
  comp_gen (onEnc enc F) hside ha hlen hit hT (flat_enc hinj F ts) (fun x hx => by
    obtain ⟨t, ht, rfl⟩ := List.mem_map.mp hx
    obtain ⟨δ', b, h1, h2, h3, h4⟩ := hb t ht
    refine ⟨δ', b, h1, h2, ?_, ?_⟩ <;> rw [onEnc_at hinj]
    · exact h3
    · exact h4) hfs
theorem comp_mapT {τ : Type} (enc : τ → PyData) (hinj : ∀ {a b}, enc a = enc b → a = b) {elt target iter : Expr} {scope : Scope} {T : Expr → Prop} (ts : List τ) (g : τ → PyData) (hside : CSide sc scope target)
    (hlen : ts.length ≤ sizeLine) (hit : ItE w h₀ k sc δ T iter (ts.map enc)) (hT : T target)
    (hb : ∀ t ∈ ts, ∃ δ', BindT target (enc t) (inner scope δ) δ' ∧ EvE w h₀ k scope δ' elt (g t))
    (hfs : ∀ env v, foldedSetIterable iter env v = pure v := by intro _ _; rfl) : CompR w h₀ k sc δ elt [⟨target, iter, [], 0⟩] scope (ts.map g) := by
  rw [List.map_eq_flatMap]
  refine comp_genT enc hinj ts (fun t => [g t]) hside (fun _ h => by cases h) ?_ hit hT (fun t ht => ?_) hfs
  · rw [← List.map_eq_flatMap]; simpa using hlen
  · obtain ⟨δ', h1, h2⟩ := hb t ht
    exact ⟨δ', true, h1, rfl, (fun e => by cases e), fun _ => ⟨_, rfl, h2⟩⟩
theorem comp_filterT {τ : Type} (enc : τ → PyData) (hinj : ∀ {a b}, enc a = enc b → a = b) {elt target iter : Expr} {ifs : List Expr} {scope : Scope} {T : Expr → Prop} (ts : List τ) (p : τ → Bool) (g : τ → PyData) (hside : CSide sc scope target)
    (hlen : ts.length ≤ sizeLine) (hit : ItE w h₀ k sc δ T iter (ts.map enc)) (hT : T target)
    (hb : ∀ t ∈ ts, ∃ δ', BindT target (enc t) (inner scope δ) δ' ∧ TestsE w h₀ k scope δ' ifs (p t) ∧ (p t = true → EvE w h₀ k scope δ' elt (g t)))
    (hfs : ∀ env v, foldedSetIterable iter env v = pure v := by intro _ _; rfl) : CompR w h₀ k sc δ elt [⟨target, iter, ifs, 0⟩] scope ((ts.filter p).map g) := by
  rw [filter_flat]
  refine comp_genT enc hinj ts (fun t => if p t then [g t] else []) hside (fun _ h => by cases h) ?_ hit hT (fun t ht => ?_) hfs
  · rw [← filter_flat, List.length_map]; exact Nat.le_trans (List.length_filter_le _ _) hlen
  · obtain ⟨δ', h1, h2, h3⟩ := hb t ht
    exact ⟨δ', p t, h1, h2, (fun e => by simp [e]), fun e => ⟨g t, by simp [e], h3 e⟩⟩
theorem cmpB_mapT {τ : Type} (enc : τ → PyData) (hinj : ∀ {a b}, enc a = enc b → a = b) {elt target iter : Expr} {T : Expr → Prop} (ts : List τ) (g : τ → PyData) (hit : ItE w h₀ k sc δ T iter (ts.map enc)) (hT : T target)
    (hn : ∀ x ∈ tnames target, (sc.names.lookup x = some .local ∨ sc.names.lookup x = some .cell) ∧ δ x = none)
    (hb : ∀ t ∈ ts, ∃ δ', BindT target (enc t) δ δ' ∧ EvE w h₀ k sc δ' elt (g t))
    (hfs : ∀ env v, foldedSetIterable iter env v = pure v := by intro _ _; rfl) : CmpB w h₀ k sc elt [⟨target, iter, [], 0⟩] δ (ts.map g) := by
  refine ⟨rfl, T, _, onEnc enc (fun t => [g t]), hit, hT, hn, ?_, hfs, fun x hx => ?_⟩
  · rw [← flat_enc hinj]; exact List.map_eq_flatMap ..
  · obtain ⟨t, ht, rfl⟩ := List.mem_map.mp hx
    obtain ⟨δ', h1, h2⟩ := hb t ht
    refine ⟨δ', true, h1, rfl, (fun e => by cases e), fun _ => ?_⟩
    rw [onEnc_at hinj]
    exact ⟨_, rfl, h2⟩

theorem idx_some {ns : List Int} {n : Int} (h : n ∈ ns) : ns.idxOf? n = some (ix ns n) ∧ ix ns n < ns.length := by
  unfold ix
  cases e : ns.idxOf? n with
  | none => exact absurd h (List.idxOf?_eq_none_iff.mp e)
  | some j => exact ⟨rfl, (List.idxOf?_eq_some_iff.mp e).1⟩
theorem any_eqv (ns : List Int) (n : Int) : (ns.map PyData.int).any (fun y => PyData.eqv y (.int n)) = ns.contains n := by
  induction ns with
  | nil => rfl
  | cons x xs ih =>
    rw [List.map_cons, List.any_cons, ih, List.contains_cons]
    congr 1
    show (x == n) = (n == x)
    exact Bool.beq_comm
theorem ints_lay (ns : List Int) : PyData.canLayAll0 (ns.map .int) = true := by
  induction ns with
  | nil => rfl
  | cons x xs ih => simpa [PyData.canLayAll0, PyData.canLay0] using ih
theorem cmp_inI (n : Int) (ns : List Int) : BinE w h₀ k (compareOp .In) (.int n) (.list (ns.map .int)) (.bool (ns.contains n)) := by
  rw [← any_eqv]; exact cmp_in _ _ rfl (ints_lay ns)
theorem ev_itemI {v i : Expr} {p : Pos} {r : List Int} {n : Nat} (hv : EvE w h₀ k sc δ v (LI r)) (hi : EvE w h₀ k sc δ i (.int n)) (hn : n < r.length) (hsz : r.length ≤ 1000)
    (hs : ∀ o j, subscripted i false o j = operate [o, j] (getItem o j) := by intro _ _; with_unfolding_all rfl) : EvE w h₀ k sc δ (.Subscript v i p) (.int (r.getD n 0)) := by
  refine ev_item (xs := r.map .int) hv hi (by omega) (by omega) ?_ hs
  simp [List.getD_eq_getElem?_getD, hn]
end
end Mine
end
section
open PySem.Calls PySem.Spec PySem.SeqAt
namespace Mine
section
variable {w : World} {h₀ : Heap} {k : Nat}

noncomputable def innerF (free : List Int) (steps : List (Int × Int)) : List (Nat × Nat) := (steps.filter fun p => free.contains p.2).map fun p => (ix free p.1, ix free p.2)
noncomputable def rowsF (kk : Nat) : Nat → List (List Int)
  | 0 => [[]]
  | m + 1 => (rowsF kk m).flatMap fun r => (List.range kk).map fun h : Nat => r ++ [(h : Int)]
noncomputable def weakF (inn : List (Nat × Nat)) (r : List Int) : Bool := (inn.map fun p => decide (r.getD p.1 0 ≤ r.getD p.2 0)).all id
noncomputable def strictF (inn : List (Nat × Nat)) (r : List Int) : Bool := (inn.map fun p => decide (r.getD p.1 0 < r.getD p.2 0)).all id
noncomputable def heightsF (free : List Int) (steps : List (Int × Int)) (kk : Nat) : Nat × Nat :=
  let weak := (rowsF kk free.length).filter (weakF (innerF free steps))
  (weak.length, (weak.filter (strictF (innerF free steps))).length)

theorem rowsF_mem (kk : Nat) : ∀ (m : Nat) (r : List Int), r ∈ rowsF kk m → r.length = m
  | 0, r, h => by simp [rowsF] at h; simp [h]
  | m + 1, r, h => by
    obtain ⟨e, he, h⟩ := List.mem_flatMap.mp h
    obtain ⟨i, _, rfl⟩ := List.mem_map.mp h
    simp [rowsF_mem kk m e he]
theorem rowsF_len (kk : Nat) : ∀ m, (rowsF kk m).length = kk ^ m
  | 0 => rfl
  | m + 1 => by
    have : ∀ l : List (List Int), (l.flatMap fun r => (List.range kk).map fun h : Nat => r ++ [(h : Int)]).length = l.length * kk := by
      intro l
      induction l with
      | nil => simp
      | cons x xs ih => rw [List.flatMap_cons, List.length_append, ih, List.length_map, List.length_range, List.length_cons, Nat.succ_mul, Nat.add_comm]
    rw [rowsF, this, rowsF_len kk m, Nat.pow_succ]
theorem rowsF_le {kk m : Nat} (hk : kk ≤ 3) (hm : m ≤ 4) : (rowsF kk m).length ≤ 81 := by
  rw [rowsF_len]
  exact Nat.le_trans (Nat.pow_le_pow_left hk m) (Nat.le_trans (Nat.pow_le_pow_right (by decide) hm) (by decide))
noncomputable def ND (p : Nat × Nat) : PyData := .tuple [.int p.1, .int p.2]
theorem ND_inj {a b : Nat × Nat} (h : ND a = ND b) : a = b := by
  simp only [ND, PyData.tuple.injEq, List.cons.injEq, PyData.int.injEq, and_true] at h
  exact Prod.ext (by omega) (by omega)

theorem innerF_lt {free : List Int} {steps : List (Int × Int)} (hcl : ∀ p ∈ steps, p.2 ∈ free → p.1 ∈ free) {p : Nat × Nat} (h : p ∈ innerF free steps) : p.1 < free.length ∧ p.2 < free.length := by
  obtain ⟨q, hq, rfl⟩ := List.mem_map.mp h
  obtain ⟨h1, h2⟩ := List.mem_filter.mp hq
  have h2 : q.2 ∈ free := by simpa using h2
  exact ⟨(idx_some (hcl q h1 h2)).2, (idx_some h2).2⟩

theorem c_heights (B : Base h₀) {f} (hf : DefAt h₀ f (nameAt 13) (parsAt 13) (bodyAt 13) (scopeAt 13)) (free : List Int) (steps : List (Int × Int)) (kk : Nat) (hm : free.length ≤ 4) (hs : steps.length ≤ 6) (hk : kk ≤ 3) (hcl : ∀ p ∈ steps, p.2 ∈ free → p.1 ∈ free) :
    CallE w h₀ (k + 1) (.ref f) [LI free, .list (steps.map PD), .int kk] (.tuple [.int (heightsF free steps kk).1, .int (heightsF free steps kk).2]) := by
  refine call_def (V := ["inner", "rows", "name", "weak", "strict"]) (names := argsAt 13) B.lim hf (fun pm cd doc vs hl => by refine len3_all (p := fun vs => bindArgs _ ⟨vs, []⟩ = pure ((argsAt 13).zip vs)) (fun _ _ _ => rfl) hl) (by decide +kernel) (by decide +kernel) (by decide +kernel) (by decide +kernel) ?_
  have hin : ∀ p ∈ innerF free steps, p.1 < free.length ∧ p.2 < free.length := fun p hp => innerF_lt hcl hp
  have hinl : (innerF free steps).length ≤ 6 := by
    simp only [innerF, List.length_map]; exact Nat.le_trans (List.length_filter_le _ _) hs
  refine st_seq (δ1 := upd (argD (argsAt 13) [LI free, .list (steps.map PD), .int kk]) "inner" (.list ((innerF free steps).map ND))) (st_assign_comp (x := "inner") ?_ (by decide +kernel) (by decide +kernel)) ?_
  · rw [innerF, List.map_map]
    refine comp_filterT PD PD_inj steps _ (ND ∘ fun p => (ix free p.1, ix free p.2)) (by decide +kernel) (by rw [szl]; omega) (it_list (ev_name rfl)) (.inr ⟨_, _, _, rfl⟩) fun p hp => ?_
    refine ⟨_, .tup2, tests_one (tr_cmp (ev_name rfl) (ev_name rfl) (cmp_inI p.2 free)), fun hc => ?_⟩
    have h2 : p.2 ∈ free := by simpa using hc
    have h1 := hcl p hp h2
    refine ev_tuple (ds := [.int (ix free p.1), .int (ix free p.2)]) (evs_cons (ev_index (ev_name rfl) (ev_name rfl) (idx_some h1).1 (by rw [szl]; omega)) (evs_cons (ev_index (ev_name rfl) (ev_name rfl) (idx_some h2).1 (by rw [szl]; omega)) evs_nil)) (by rw [szl]; simp)
  unfold heightsF
  dsimp only
  generalize innerF free steps = inn at hin hinl
  refine st_seq (δ1 := upd (upd (argD (argsAt 13) [LI free, .list (steps.map PD), .int kk]) "inner" (.list (inn.map ND))) "rows" (.list [.list []])) (st_assign (by walk_at "ev") (by decide +kernel) (by decide +kernel)) ?_
  refine st_seq (δ1 := upd (upd (argD (argsAt 13) [LI free, .list (steps.map PD), .int kk]) "inner" (.list (inn.map ND))) "rows" (.list ((rowsF kk free.length).map LI))) ?_ ?_
  · refine st_forget (st_for (Δ := fun pre => upd (upd (argD (argsAt 13) [LI free, .list (steps.map PD), .int kk]) "inner" (.list (inn.map ND))) "rows" (.list ((rowsF kk pre.length).map LI))) (it_list (xs := free.map .int) (ev_name rfl)) (.inl ⟨_, _, rfl⟩) (Le.refl _) (by decide +kernel) fun pre x post e => ?_) ?_
    · have hlt : pre.length < free.length := by
        have := congrArg List.length e
        simp at this; omega
      refine ⟨_, .name, ?_⟩
      refine st_seq (st_assign_comp (x := "rows") (r := (rowsF kk (pre.length + 1)).map LI) ?_ (by decide +kernel) (by decide +kernel)) (st_forget st_nil ?_)
      · have hsz := rowsF_le (m := pre.length + 1) hk (by omega)
        have e2 : (rowsF kk (pre.length + 1)).map LI = (rowsF kk pre.length).flatMap fun r => (List.range kk).map fun h : Nat => LI (r ++ [(h : Int)]) := by
          rw [rowsF, List.map_flatMap]
          congr 1
          funext r
          rw [List.map_map]; rfl
        rw [e2]
        refine comp_genT LI LI_inj _ _ (by decide +kernel) (by decide +kernel) (by rw [← e2, szl]; simp; omega) (it_list (ev_name rfl)) (.inl ⟨_, _, rfl⟩) fun r hr => ?_
        have hrl := rowsF_mem kk _ r hr
        refine ⟨_, true, .name, rfl, (fun e => by cases e), fun _ => ?_⟩
        refine cmpB_mapT (fun i : Nat => .int ((0 : Int) + i * 1)) rInt_inj (List.range kk) _ (it_range1 (n := (kk : Int)) (by decide +kernel) B.range (ev_name rfl) (small_one (by omega) (by omega) (by omega) (by omega))) ⟨_, _, rfl⟩ (fun x hx => ?_) fun i hi => ?_
        · rw [List.mem_singleton.mp hx]
          exact ⟨by decide +kernel, rfl⟩
        · refine ⟨_, .name, ?_⟩
          have e3 : LI (r ++ [(i : Int)]) = .list (r.map .int ++ [.int ((0 : Int) + i * 1)]) := by simp [LI]
          rw [e3]
          refine ev_bin (dl := .list (r.map .int)) (dr := .list [.int ((0 : Int) + i * 1)]) (ev_name rfl) (by walk_at "ev") (bin_addList _ _ (by rw [szl]; simp; omega))
      · simp only [List.length_append, List.length_singleton]
        refine le_of ["inner", "rows", "name"] ?_ ?_ <;> walk_at "le"
    · intro y d h
      rw [List.length_map]; exact h
  have hsz := rowsF_le hk hm
  have hrl := rowsF_mem kk free.length
  generalize rowsF kk free.length = rows at hsz hrl
  refine st_seq (δ1 := upd (upd (upd (argD (argsAt 13) [LI free, .list (steps.map PD), .int kk]) "inner" (.list (inn.map ND))) "rows" (.list (rows.map LI))) "weak" (.list ((rows.filter (weakF inn)).map LI))) (st_assign_comp (x := "weak") ?_ (by decide +kernel) (by decide +kernel)) ?_
  · refine comp_filterT LI LI_inj rows (weakF inn) LI (by decide +kernel) (by rw [szl]; omega) (it_list (ev_name rfl)) (.inl ⟨_, _, rfl⟩) fun r hr => ⟨_, .name, tests_one (tr_val (ev_all B (bs := inn.map fun p => decide (r.getD p.1 0 ≤ r.getD p.2 0)) (by decide +kernel) (ev_comp ?_))), fun _ => ev_name rfl⟩
    rw [List.map_map]
    refine comp_mapT ND ND_inj inn _ (by decide +kernel) (by rw [szl]; omega) (it_list (ev_name rfl)) (.inr ⟨_, _, _, rfl⟩) fun p hp => ⟨_, .tup2, ?_⟩
    have h1 := hin p hp
    have h2 := hrl r hr
    exact ev_cmp (ev_itemI (r := r) (ev_name rfl) (ev_name rfl) (by omega) (by omega)) (ev_itemI (r := r) (ev_name rfl) (ev_name rfl) (by omega) (by omega)) (cmp_le _ _)
  have hwl : (rows.filter (weakF inn)).length ≤ 81 := Nat.le_trans (List.length_filter_le _ _) hsz
  have hwm : ∀ r ∈ rows.filter (weakF inn), r.length = free.length := fun r hr => hrl r (List.mem_filter.mp hr).1
  generalize rows.filter (weakF inn) = weak at hwl hwm
  refine st_seq (δ1 := upd (upd (upd (upd (argD (argsAt 13) [LI free, .list (steps.map PD), .int kk]) "inner" (.list (inn.map ND))) "rows" (.list (rows.map LI))) "weak" (.list (weak.map LI))) "strict" (.list ((weak.filter (strictF inn)).map LI))) (st_assign_comp (x := "strict") ?_ (by decide +kernel) (by decide +kernel)) ?_
  · refine comp_filterT LI LI_inj weak (strictF inn) LI (by decide +kernel) (by rw [szl]; omega) (it_list (ev_name rfl)) (.inl ⟨_, _, rfl⟩) fun r hr => ⟨_, .name, tests_one (tr_val (ev_all B (bs := inn.map fun p => decide (r.getD p.1 0 < r.getD p.2 0)) (by decide +kernel) (ev_comp ?_))), fun _ => ev_name rfl⟩
    rw [List.map_map]
    refine comp_mapT ND ND_inj inn _ (by decide +kernel) (by rw [szl]; omega) (it_list (ev_name rfl)) (.inr ⟨_, _, _, rfl⟩) fun p hp => ⟨_, .tup2, ?_⟩
    have h1 := hin p hp
    have h2 := hwm r hr
    exact ev_cmp (ev_itemI (r := r) (ev_name rfl) (ev_name rfl) (by omega) (by omega)) (ev_itemI (r := r) (ev_name rfl) (ev_name rfl) (by omega) (by omega)) (cmp_lt _ _)
  have hsl : (weak.filter (strictF inn)).length ≤ 81 := Nat.le_trans (List.length_filter_le _ _) hwl
  generalize weak.filter (strictF inn) = strict at hsl
  refine st_stop (st_ret (ev_tuple (ds := [.int weak.length, .int strict.length]) (evs_cons ?_ (evs_cons ?_ evs_nil)) (by rw [szl]; simp)))
  · have e : (weak.length : Int) = ((weak.map LI).length : Int) := by simp
    rw [e]
    exact ev_len B (by decide +kernel) (ev_name rfl) (by rw [szl]; simp; omega)
  · have e : (strict.length : Int) = ((strict.map LI).length : Int) := by simp
    rw [e]
    exact ev_len B (by decide +kernel) (ev_name rfl) (by rw [szl]; simp; omega)
end
end Mine
end
section
open PySem.Calls PySem.Spec PySem.SeqAt
namespace Mine
structure Own (O : List Addr) (h : Heap) (env : Env) (sc : Scope) (x : Str) (a : Addr) (ds : List PyData) : Prop where
  bound : Bound h env sc x (.ref a)
  mem : a ∈ O
  lst : ∃ vs, h.PlainList a vs ∧ RdAll O h vs.toList ds

section
variable {w : World} {h₀ : Heap} {k : Nat} {sc : Scope} {δ : Str → Option PyData} {N : Nat}

theorem ev_cast {e : Expr} {d d' : PyData} (h : d = d') (x : EvE w h₀ k sc δ e d) : EvE w h₀ k sc δ e d' := h ▸ x
theorem StE.run {V : List Str} {st : Stmt} {δ' : Str → Option PyData} (x : StE w h₀ k sc V δ (exec st) (.nx δ')) {O X : List Addr} {env : Env} {A : Around} {s : Shared} {Q : Flow → Shared → Prop} {E : Value → Shared → Prop}
    (ok : Ok h₀ k A s.heap) (er : EnvR O s.heap env sc δ) (hw : Wr X env sc) (hXO : ∀ a ∈ X, a ∈ O) (hX0 : ∀ a ∈ X, h₀.get? a = none)
    (h : ∀ h1 t1, EnvR O h1 env sc δ' → Ok h₀ k A h1 → KpX X h₀.objs.size s.heap h1 → (∀ y u, y ∉ V → Bound s.heap env sc y u → Bound h1 env sc y u) → Q .next { s with heap := h1, toks := t1 }) : wpAny (model P w) A (exec st env) Q E s :=
  x O X env A s Q E ok er hw hXO hX0 fun h1 t1 er1 k1 hb => h h1 t1 er1 (ok.kpx k1 hX0) k1 hb
theorem plain_off {O h env δ} {a : Addr} {vs} (er : EnvR O h env sc δ) (hl : h.PlainList a vs) : Off [a] env := fun b hb => by
  rw [List.mem_singleton.mp hb]
  refine ⟨?_, fun x c e => ?_⟩
  · obtain ⟨m, hm⟩ := er.loc
    exact list_ne_ns hl.isList hm
  · obtain ⟨v, hv⟩ := er.cel x c e
    exact list_ne_cell hl.isList hv
theorem Own.kp {O h h' env x a ds} (o : Own O h env sc x a ds) (k : Kp N h h') : Own O h' env sc x a ds :=
  ⟨o.bound.kp k, o.mem, let ⟨vs, h1, h2⟩ := o.lst; ⟨vs, k.plain h1, h2.kp k⟩⟩
theorem Own.kpx {O X h h' env x a ds} (o : Own O h env sc x a ds) (k : KpX X N h h') (hX : ∀ b ∈ X, b ∈ O) (ha : a ∉ X) (hb : Bound h' env sc x (.ref a)) : Own O h' env sc x a ds :=
  ⟨hb, o.mem, let ⟨vs, h1, h2⟩ := o.lst; ⟨vs, k.plain ha h1, h2.kpx k hX⟩⟩
theorem Own.more {O O' h h' env x a ds} (o : Own O h env sc x a ds) (hs : ∀ b ∈ O', b ∈ O ∨ h.get? b = none) (k : Kp N h h') (ha : a ∈ O') : Own O' h' env sc x a ds :=
  ⟨o.bound.kp k, ha, let ⟨vs, h1, h2⟩ := o.lst; ⟨vs, k.plain h1, (h2.more hs).kp k⟩⟩
theorem Own.but {O O' It h h' env x a ds} (o : Own O h env sc x a ds) (hk : ∀ b o, b ∉ It → h.get? b = some o → h'.get? b = some o) (hO : ∀ b ∈ O', b ∈ O ∧ b ∉ It) (hIt : ∀ b ∈ It, b ∈ O) (hf : Off It env) (ha : a ∈ O') : Own O' h' env sc x a ds :=
  ⟨o.bound.off hf hk, ha, let ⟨vs, h1, h2⟩ := o.lst; ⟨vs, h1.at fun o e => hk _ o (hO a ha).2 e, h2.mono fun v d r => rd_map (fun b o e hb _ => hk b o (fun q => hb (hIt b q)) e) (fun b hb _ q => hb (hO b q).1) r⟩⟩

theorem Own.env {O O' h env x a ds} (o : Own O h env sc x a ds) (er : EnvR O h env sc δ) (hs : ∀ b ∈ O', b ∈ O ∧ b ≠ a) : EnvR O' h env sc (upd δ x (.list ds)) := by
  have er' := er.less (O' := O') fun b hb => (hs b hb).1
  refine ⟨er.kind, er.glb, er.bi, er.kinds, fun y d e => ?_, er'.low, er.apart, er.cells, er.loc, er.cel⟩
  unfold upd at e
  split at e
  · rename_i hy
    cases e
    obtain ⟨vs, h1, h2⟩ := o.lst
    rw [hy]
    exact ⟨_, rd_list h1 (fun q => (hs a q).2 rfl) (h2.mono fun v d r => r.sub fun b hb => (hs b hb).1), o.bound⟩
  · obtain ⟨v, r, b⟩ := er'.val y d e
    exact ⟨v, r, b⟩

theorem ints_app {a : List Value} {b : List Int} {c d} (r : IntsAre a b) (h : IntsAre c d) : IntsAre (a ++ c) (b ++ d) := by
  induction r with
  | nil => exact h
  | cons n t _ ih => exact .cons n t ih
theorem ints_rep {a : List Value} {b : List Int} (h : IntsAre a b) : ∀ n, IntsAre (List.replicate n a).flatten (List.replicate n b).flatten
  | 0 => .nil
  | n + 1 => by simp only [List.replicate_succ, List.flatten_cons]; exact ints_app h (ints_rep h n)
theorem paired_set {α β : Type} {F : α → β → Prop} {v : α} {d : β} (h : F v d) {l : List α} {ds : List β} (r : Paired F l ds) : ∀ i, Paired F (l.set i v) (ds.set i d) := by
  induction r with
  | nil => intro i; exact .nil
  | cons a r ih =>
    intro i
    cases i with
    | zero => exact .cons h r
    | succ i => exact .cons a (ih i)

noncomputable def FrE (w : World) (h₀ : Heap) (k : Nat) (sc : Scope) (δ : Str → Option PyData) (e : Expr) (ds : List PyData) : Prop :=
  ∀ (O : List Addr) (env : Env) (A : Around) (s : Shared) (Q : Value → Shared → Prop) (E : Value → Shared → Prop), Ok h₀ k A s.heap → EnvR O s.heap env sc δ →
    (∀ a h tk vs, s.heap.get? a = none → h.PlainList a vs → RdAll (a :: O) h vs.toList ds → Kp h₀.objs.size s.heap h → Q (.ref a) { s with heap := h, toks := tk }) → wpAny (model P w) A (eval e env) Q E s

theorem fr_nil {p : Pos} : FrE w h₀ k sc δ (.List [] p) [] := by
  intro O env A s Q E ok er h
  refine List_ (spliced_nil ?_)
  refine wpAny_newObj_type (h _ _ s.toks #[] (dead_size _ (Nat.le_refl _)) ⟨0, Heap.get?_push_size _ rfl⟩ .nil (Kp.push _ _)) (by show (0 : Nat) ≤ sizeLine; exact Nat.zero_le _)
theorem fr_rep {l r : Expr} {p : Pos} {ns : List Int} {n : Nat} (hl : EvE w h₀ k sc δ l (.list (ns.map .int))) (hr : EvE w h₀ k sc δ r (.int n)) (hn : n ≤ 100) (hsz : ns.length ≤ 100) : FrE w h₀ k sc δ (.BinOp l .Mult r p) ((List.replicate n ns).flatten.map .int) := by
  intro O env A s Q E ok er h
  refine wpAny_BinOp (hl.then ok er fun va g1 t1 ra k1 ok1 er1 => ?_)
  refine hr.then (s := { s with heap := g1, toks := t1 }) ok1 er1 fun vb g2 t2 rb k2 ok2 er2 => ?_
  obtain ⟨u, rfl⟩ := rb.int_inv
  obtain ⟨l, vs, rfl, hO, hl, rl⟩ := (ra.kp k2).list_inv
  obtain ⟨kk, ho⟩ := hl
  have hlen : vs.size = ns.length := by have := rl.length; simpa using this
  obtain ⟨x, hx⟩ : ∃ x : Int, x = n := ⟨_, rfl⟩
  have hxn : x.toNat = n := by rw [hx]; simp
  rw [← hx]
  refine mul_rep (s := { s with heap := g2, toks := t2 }) ho (by omega) (by omega) ?_ (h _ _ t2 (List.replicate n vs.toList).flatten.toArray ?_ ⟨0, ?_⟩ ?_ ((k1.trans k2).trans (Kp.push _ _)))
  · rw [hxn]
    have : vs.size * n ≤ 100 * 100 := Nat.mul_le_mul (by omega) hn
    omega
  · cases e : s.heap.get? g2.objs.size with
    | none => rfl
    | some o => obtain ⟨o', q⟩ := (k1.trans k2).there e; rw [dead_size _ (Nat.le_refl _)] at q; cases q
  · rw [hxn, listMul_foldl_if]; exact Heap.get?_push_size _ rfl
  · simpa using of_intsAre (ints_rep (intsAre_of rl) n)

theorem own_new {O X : List Addr} {env : Env} {A : Around} {s : Shared} {x : Str} {p pos : Pos} {e : Expr} {ds : List PyData} {Q : Flow → Shared → Prop} {E : Value → Shared → Prop} (he : FrE w h₀ k sc δ e ds)
    (ok : Ok h₀ k A s.heap) (er : EnvR O s.heap env sc δ) (hw : Wrt X env sc x) (hXO : ∀ a ∈ X, a ∈ O) (hX0 : ∀ a ∈ X, h₀.get? a = none) (hδ : δ x = none)
    (h : ∀ a h1 t1, s.heap.get? a = none → a ∉ X → EnvR (a :: O) h1 env sc δ → Own (a :: O) h1 env sc x a ds → KpX X h₀.objs.size s.heap h1 → (∀ y u, y ≠ x → Bound s.heap env sc y u → Bound h1 env sc y u) → Q .next { s with heap := h1, toks := t1 })
    (hs : ∀ env, swapsWith e (some (.Name x p)) pos.line env = pure false := by intro _; rfl) : wpAny (model P w) A (exec (.Assign [.Name x p] e pos) env) Q E s := by
  refine wpAny_Assign_Name (he O env A s _ _ ok er fun a h1 t1 vs ha hl rl kp => ?_) (hs env)
  have er1 : EnvR (a :: O) h1 env sc δ := er.more (N := h₀.objs.size) (fun b hb => by
    rcases List.mem_cons.mp hb with rfl | q
    · exact .inr ha
    · exact .inl q) kp fun b hb => by
    rcases List.mem_cons.mp hb with rfl | q
    · obtain ⟨n, e⟩ := hl; exact ⟨_, e⟩
    · obtain ⟨o, e⟩ := er.low b q; exact kp.there e
  have haX : a ∉ X := fun q => by obtain ⟨o, e⟩ := er.low a (hXO a q); rw [ha] at e; cases e
  refine store_any (N := h₀.objs.size) (s := { s with heap := h1, toks := t1 }) δ er1 hw (fun b hb => .tail _ (hXO b hb)) (fun _ _ _ e => e) (fun d e => by rw [hδ] at e; cases e) fun h2 t2 er2 hb ho k2 => ?_
  exact h a h2 t2 ha haX er2 ⟨hb, .head _, vs, k2.plain haX hl, rl.kpx k2 fun b hb => .tail _ (hXO b hb)⟩ (kp.x.trans k2) fun y u hy b => ho y u hy (b.kp kp)

theorem own_set {O : List Addr} {env : Env} {A : Around} {s : Shared} {x : Str} {a : Addr} {ds : List PyData} {i : Nat} {u : Tok} {v : Value} {d : PyData} {Q : Unit → Shared → Prop} {E : Value → Shared → Prop}
    (er : EnvR O s.heap env sc δ) (o : Own O s.heap env sc x a ds) (hi : i < ds.length) (hsz : ds.length ≤ 1000) (r : Rd O s.heap v d)
    (h : ∀ h1, EnvR O h1 env sc δ → Own O h1 env sc x a (ds.set i d) → KpX [a] N s.heap h1 → Q () { s with heap := h1 }) : wpAny (model P w) A (setItem (.ref a) (.int i u) v) Q E s := by
  obtain ⟨vs, hl, rl⟩ := o.lst
  have hlen : vs.size = ds.length := by have := rl.length; simpa using this
  have hoff := plain_off er hl
  obtain ⟨n, ho⟩ := id hl
  refine ki_setAt ho (by omega) (by omega) (by omega) ?_
  have hs : Heap.SameBut a s.heap (s.heap.update a (Obj.mapSeq (·.setIfInBounds ((i : Int)).toNat v))) := Heap.SameBut.update ..
  have hl' : (s.heap.update a (Obj.mapSeq (·.setIfInBounds ((i : Int)).toNat v))).PlainList a (vs.setIfInBounds i v) := by
    have e := Heap.get?_update_self (Obj.mapSeq (·.setIfInBounds ((i : Int)).toNat v)) ho rfl
    exact ⟨_, e⟩
  have kx : KpX [a] N s.heap (s.heap.update a (Obj.mapSeq (·.setIfInBounds ((i : Int)).toNat v))) := .of_sameBut hs (.head _) (list_kind hl.isList hl'.isList)
  have hXO : ∀ b ∈ [a], b ∈ O := fun b hb => by rw [List.mem_singleton.mp hb]; exact o.mem
  refine h _ (er.kpx kx hXO hoff) ⟨o.bound.kpx hoff kx, o.mem, _, hl', ?_⟩ kx
  have r1 := rl.kpx kx hXO
  have r2 := r.kpx kx hXO
  rw [Array.toList_setIfInBounds]
  exact paired_set r2 r1 i
theorem own_aug {O : List Addr} {env : Env} {A : Around} {s : Shared} {x : Str} {a : Addr} {ns : List Int} {n : Nat} {c : Int} {i value : Expr} {p spos pos : Pos} {Q : Flow → Shared → Prop} {E : Value → Shared → Prop}
    (hi : EvE w h₀ k sc δ i (.int n)) (hv : EvE w h₀ k sc δ value (.int c)) (hn : n < ns.length) (hsz : ns.length ≤ 1000)
    (ok : Ok h₀ k A s.heap) (er : EnvR O s.heap env sc δ) (o : Own O s.heap env sc x a (ns.map .int))
    (h : ∀ h1 t1, EnvR O h1 env sc δ → Own O h1 env sc x a ((ns.set n (ns.getD n 0 + c)).map .int) → KpX [a] h₀.objs.size s.heap h1 → Q .next { s with heap := h1, toks := t1 })
    (hst : ∀ ov iv new, augStore i ov iv new = (do holding [new, ov, iv] (setItem ov iv new); release [new, ov, iv] []; pure .next) := by intro _ _ _; rfl)
    (hd : (x == ("__debug__" : Str)) = false := by decide) (hc : (x == ("__classdict__" : Str)) = false := by decide) :
    wpAny (model P w) A (exec (.AugAssign (.Subscript (.Name x p) i spos) .Add value pos) env) Q E s := by
  refine wpAny_AugAssign_SubscriptAny ?_ hst
  refine wpAny_Name (load_bound er o.bound ?_ hc) hd
  refine hi.then ok er fun vi h1 t1 r1 k1 ok1 er1 => ?_
  obtain ⟨u, rfl⟩ := r1.int_inv
  have o1 := o.kp k1
  obtain ⟨vs, hl, rl⟩ := id o1.lst
  have hx : (ns.map PyData.int)[n]? = some (.int (ns.getD n 0)) := by simp [List.getD_eq_getElem?_getD, hn]
  obtain ⟨v, hv1, rv⟩ := Paired.get rl hx
  obtain ⟨u2, rfl⟩ := rv.int_inv
  refine wpAny_getItem_list (s := { s with heap := h1, toks := t1 }) hl.isList (by omega) (by omega) (by simpa using hv1) ?_
  refine hv.then (s := { s with heap := h1, toks := t1 }) ok1 er1 fun v2 h2 t2 r2 k2 ok2 er2 => ?_
  obtain ⟨u3, rfl⟩ := r2.int_inv
  refine PySem.AutoIntOps.iadd_0 ?_
  have o2 := o1.kp k2
  refine own_set (N := h₀.objs.size) (s := { s with heap := h2, toks := t2 + 1 }) er2 o2 (i := n) (by simpa using hn) (by simpa using hsz) (rd_int (ns.getD n 0 + c) t2) fun h3 er3 o3 k3 => ?_
  refine h h3 _ er3 ?_ ((k1.trans k2).x.trans k3)
  rw [List.map_set]; exact o3

theorem own_append {O : List Addr} {env : Env} {A : Around} {s : Shared} {x : Str} {a : Addr} {ds : List PyData} {d : PyData} {e : Expr} {np apos pos spos : Pos} {Q : Flow → Shared → Prop} {E : Value → Shared → Prop}
    (he : EvE w h₀ k sc δ e d) (hsz : ds.length ≤ 1000) (ok : Ok h₀ k A s.heap) (er : EnvR O s.heap env sc δ) (o : Own O s.heap env sc x a ds)
    (h : ∀ h1 t1, EnvR O h1 env sc δ → Own O h1 env sc x a (ds ++ [d]) → KpX [a] h₀.objs.size s.heap h1 → Q .next { s with heap := h1, toks := t1 })
    (hbase : ∀ env, attributeBase (.Name x np) "append" env (eval (.Name x np) env) = eval (.Name x np) env := by intro _; rfl) (hline : (apos.endLine == pos.line) = true := by rfl) (htrees : ∀ env, backTo pos (starEach [e] env) = [(false, eval e env)] := by intro _; rfl)
    (hsw : ∀ env, swapsWith (.Call (.Attribute (.Name x np) "append" apos) [e] [] pos) none spos.line env = pure false := by intro _; rfl)
    (hd : (x == ("__debug__" : Str)) = false := by decide) (hc : (x == ("__classdict__" : Str)) = false := by decide) :
    wpAny (model P w) A (exec (.Expr (.Call (.Attribute (.Name x np) "append" apos) [e] [] pos) spos) env) Q E s := by
  refine wpAny_Expr_any ?_ (by unfold interactive; rw [er.kind]; rfl) (hsw env)
  refine wpAny_Call_append (hbase env) (by rw [htrees]; rfl) hline (htrees env) (wpAny_Name (load_bound er o.bound ?_ hc) hd)
  obtain ⟨vs, hl, rl⟩ := id o.lst
  obtain ⟨n, hn⟩ := id hl
  refine ⟨a, vs, rfl, ⟨_, n, hn, rfl, rfl, rfl⟩, ?_⟩
  refine he.then ok er fun v h1 t1 r1 k1 ok1 er1 => ?_
  have o1 := o.kp k1
  have hl1 := k1.plain hl
  have hlen := rl.length
  have hoff := plain_off er1 hl1
  have hXO : ∀ b ∈ [a], b ∈ O := fun b hb => by rw [List.mem_singleton.mp hb]; exact o.mem
  have hvs : vs.size ≤ sizeLine := by
    have e : sizeLine = 16777216 := by decide +kernel
    rw [e]; simp at hlen; omega
  refine wpAny_list_append_plain (s := { s with heap := h1, toks := t1 }) (hsz := hvs) hl1 fun h2 hl2 hs2 => ?_
  have k2 : KpX [a] h₀.objs.size h1 h2 := isList_kind hl1 hl2 hs2 (.head _)
  refine h h2 t1 (er1.kpx k2 hXO hoff) ⟨o1.bound.kpx hoff k2, o.mem, _, hl2, ?_⟩ (k1.x.trans k2)
  have q1 := (RdAll.kp rl k1).kpx k2 hXO
  have q2 := r1.kpx k2 hXO
  simpa using Paired.append q1 (Paired.cons q2 .nil)

theorem Wrt.mono {X X' : List Addr} {env : Env} {x : Str} (h : Wrt X env sc x) (hs : ∀ a ∈ X, a ∈ X') : Wrt X' env sc x := by
  rcases h with ⟨h1, h2⟩ | ⟨h1, c, h2, h3⟩
  · exact .inl ⟨h1, hs _ h2⟩
  · exact .inr ⟨h1, c, h2, hs _ h3⟩

theorem for_own {tg iter : Expr} {body : List Stmt} {pos : Pos} {T : Expr → Prop} {xs : List PyData} (hit : ItE w h₀ k sc δ T iter xs) (hT : T tg) {x : Str} {a : Addr} (D : List PyData → List PyData) {O X : List Addr} {env : Env} {A : Around} {s : Shared} {Q : Flow → Shared → Prop} {E : Value → Shared → Prop}
    (ok : Ok h₀ k A s.heap) (er : EnvR O s.heap env sc δ) (own : Own O s.heap env sc x a (D [])) (hw : Wr X env sc) (hXO : ∀ b ∈ X, b ∈ O) (hX0 : ∀ b ∈ X, h₀.get? b = none) (haX : a ∉ X) (ha0 : h₀.get? a = none)
    (hn : ∀ y ∈ tnames tg, (sc.names.lookup y = some .local ∨ sc.names.lookup y = some .cell) ∧ y ≠ x ∧ δ y = none)
    (hbody : ∀ pre y post, xs = pre ++ y :: post → ∃ δ1, BindT tg y δ δ1 ∧ ∀ (O' : List Addr) (s' : Shared) (Q' : Flow → Shared → Prop) (E' : Value → Shared → Prop), Ok h₀ k A s'.heap → EnvR O' s'.heap env sc δ1 → Own O' s'.heap env sc x a (D pre) → (∀ b ∈ X, b ∈ O') →
      (∀ h1 t1, EnvR O' h1 env sc δ → Own O' h1 env sc x a (D (pre ++ [y])) → KpX (a :: X) h₀.objs.size s'.heap h1 → Q' .next { s' with heap := h1, toks := t1 }) → wpAny (model P w) A (execs body env) Q' E' s')
    (h : ∀ h1 t1, EnvR O h1 env sc δ → Own O h1 env sc x a (D xs) → Ok h₀ k A h1 → KpX (a :: X) h₀.objs.size s.heap h1 → Q .next { s with heap := h1, toks := t1 })
    (hs : ∀ x, foldedSetIterable iter env x = pure x := by intro _; rfl) : wpAny (model P w) A (exec (.For tg iter body [] pos) env) Q E s := by
  have haX0 : ∀ b ∈ a :: X, h₀.get? b = none := fun b hb => (List.mem_cons.mp hb).elim (fun e => e ▸ ha0) (hX0 b)
  have haXO : ∀ b ∈ a :: X, b ∈ O := fun b hb => (List.mem_cons.mp hb).elim (fun e => e ▸ own.mem) (hXO b)
  refine for_gen hit hT ok er haXO (fun pre O' g => EnvR O' g env sc δ ∧ Own O' g env sc x a (D pre)) (fun It g hd hl kp => ?_) (fun pre It g g' hd ⟨q1, q2⟩ kp => ?_) (fun pre It g ⟨q1, q2⟩ => q1.low)
    (fun It g g' tk hd ⟨q1, q2⟩ hk kp => ?_) (fun It pre y post s' v hd e hs' ⟨q1, q2⟩ kp rv => ?_) hs
  · have hm : ∀ b ∈ It ++ O, b ∈ O ∨ s.heap.get? b = none := fun b hb => (List.mem_append.mp hb).elim (fun q => .inr (hd b q)) .inl
    refine ⟨er.more hm kp fun b hb => (List.mem_append.mp hb).elim (hl b) fun q => ?_, own.more hm kp (List.mem_append_right _ own.mem)⟩
    obtain ⟨o, e⟩ := er.low b q; exact kp.there e
  · have hoff := er.off_fresh hd
    refine ⟨q1.kpx kp (fun b hb => List.mem_append_left _ hb) hoff, q2.kpx kp (fun b hb => List.mem_append_left _ hb) (fun q => ?_) (q2.bound.kpx hoff kp)⟩
    obtain ⟨o, e⟩ := er.low a own.mem; rw [hd a q] at e; cases e
  · have hoff := er.off_fresh hd
    have hO : ∀ b ∈ O, b ∈ It ++ O ∧ b ∉ It := fun b hb => ⟨List.mem_append_right _ hb, fun q => by obtain ⟨o, e⟩ := er.low b hb; rw [hd b q] at e; cases e⟩
    exact h g' tk (q1.but hk hO (fun b hb => List.mem_append_left _ hb) hoff) (q2.but hk hO (fun b hb => List.mem_append_left _ hb) hoff own.mem) (ok.kpx kp haX0) kp
  · obtain ⟨hh, tk, rfl⟩ := hs'
    obtain ⟨δ1, hb, hst⟩ := hbody pre y post e
    have ok' := ok.kpx kp haX0
    have hXO' : ∀ b ∈ X, b ∈ It ++ O := fun b hb => List.mem_append_right _ (hXO b hb)
    refine assign_d (N := h₀.objs.size) (s := { s with heap := hh, toks := tk }) (X := X) ok.hh q1 hb (fun z hz => hw z (hn z hz).1) hXO' rv fun h2 t2 er2 k2 hb2 => ?_
    refine hst (It ++ O) { s with heap := h2, toks := t2 } _ _ (ok'.kpx k2 hX0) er2 (q2.kpx k2 hXO' haX (hb2 _ _ (fun q => (hn x q).2.1 rfl) q2.bound)) hXO' fun h3 t3 er3 own3 k3 => ?_
    exact ⟨h3, t3, rfl, ⟨er3, own3⟩, (k2.mono fun b hb => .inl (.tail _ hb)).trans k3⟩
end
end Mine
end
section
open PySem.Calls PySem.Spec PySem.SeqAt
namespace Mine
section
variable {w : World} {h₀ : Heap} {k : Nat}

noncomputable def labF (first order : List Int) : List Int := order.map fun n => (ix first n : Int)
noncomputable def fallOf (labels : List Int) : Nat := ((List.range (labels.length - 1)).filter fun i => decide (labels.getD i 0 > labels.getD (i + 1) 0)).length
noncomputable def talF (first : List Int) (orders : List (List Int)) : List Int :=
  orders.foldl (fun t o => t.set (fallOf (labF first o)) (t.getD (fallOf (labF first o)) 0 + 1)) (List.replicate (first.length + 1) [(0 : Int)]).flatten
theorem talF_len (first : List Int) : ∀ (orders : List (List Int)), (talF first orders).length = first.length + 1 := by
  have : ∀ (orders : List (List Int)) (t : List Int), (orders.foldl (fun t o => t.set (fallOf (labF first o)) (t.getD (fallOf (labF first o)) 0 + 1)) t).length = t.length := by
    intro orders
    induction orders with
    | nil => intro t; rfl
    | cons o os ih => intro t; rw [List.foldl_cons, ih, List.length_set]
  intro orders
  rw [talF, this]; simp
theorem fallOf_lt (l : List Int) : fallOf l < l.length + 1 := by
  have := List.length_filter_le (fun i => decide (l.getD i 0 > l.getD (i + 1) 0)) (List.range (l.length - 1))
  simp at this
  unfold fallOf
  simp
  omega

theorem sub1_toNat (n : Nat) : ((n : Int) - 1).toNat = n - 1 := by
  cases n with
  | zero => rfl
  | succ n => rw [Int.natCast_succ, Int.add_sub_cancel]; rfl
theorem c_falls (B : Base h₀) {f} (hf : DefAt h₀ f (nameAt 12) (parsAt 12) (bodyAt 12) (scopeAt 12)) (first : List Int) (orders : List (List Int)) (hm : first.length ≤ 4) (hn : orders.length ≤ 30) (ho : ∀ o ∈ orders, o.length = first.length ∧ ∀ n ∈ o, n ∈ first) (hfirst : orders.head? = some first) :
    CallE w h₀ (k + 1) (.ref f) [.list (orders.map LI)] (LI (talF first orders)) := by
  intro O A s vs Q E ok low r h
  refine call_body (names := argsAt 12) B.lim hf (fun pm cd doc => by refine len1_all (p := fun vs => bindArgs _ ⟨vs, []⟩ = pure ((argsAt 12).zip vs)) (fun _ => rfl) r.length) (by decide +kernel) (by decide +kernel) (by decide +kernel) (by decide +kernel) ok low r fun X env A' s₁ hs er hw hdead kp ok' _ => ?_
  obtain ⟨h₁, t₁, rfl⟩ := hs
  have hX0 : ∀ a ∈ X, h₀.get? a = none := fun a ha => ok.dead (hdead a ha)
  have hXO : ∀ a ∈ X, a ∈ X ++ O := fun a ha => List.mem_append_left _ ha
  refine wpAny_execs_cons (StE.run (V := ["first", "order", "labels"]) (st_assign (x := "first") (d := LI first) (ev_item (xs := orders.map LI) (n := 0) (ev_name rfl) ev_int (by decide) (by decide) ?_) (by decide +kernel) (by decide +kernel)) ok' er hw hXO hX0 fun h2 t2 er2 ok2 k2 _ => ?_)
  · cases orders with
    | nil => cases hfirst
    | cons o os => simp at hfirst; subst hfirst; rfl
  refine wpAny_execs_cons (own_new (s := { s with heap := h2, toks := t2 }) (x := "tally") (ds := (List.replicate (first.length + 1) [(0 : Int)]).flatten.map .int) (fr_rep (ns := [0]) (by walk_at "ev") ?_ (by omega) (by decide)) ok2 er2 (hw _ (by decide +kernel)) hXO hX0 rfl fun a h3 t3 ha haX er3 own3 k3 _ => ?_)
  · have e : ((first.length + 1 : Nat) : Int) = (((first.map PyData.int).length : Nat) : Int) + 1 := by simp
    rw [e]
    refine ev_bin (ev_len B (by decide +kernel) (ev_name rfl) (by rw [szl]; simp; omega)) ev_int (bin_add _ _)
  have ok3 := ok2.kpx k3 hX0
  have ha0 : h₀.get? a = none := ok2.dead ha
  refine wpAny_execs_cons (for_own (s := { s with heap := h3, toks := t3 }) (it_list (ev_name rfl)) (.inl ⟨_, _, rfl⟩) (fun pre => (talF first (orders.take pre.length)).map .int) ok3 er3 own3 hw (fun b hb => .tail _ (hXO b hb)) hX0 haX ha0 (fun y hy => ?_) (fun pre y post e => ?_) fun h4 t4 er4 own4 ok4 k4 => ?_)
  · rw [List.mem_singleton.mp hy]
    exact ⟨by decide +kernel, by decide +kernel, rfl⟩
  · have hlt : pre.length < orders.length := by
      have := congrArg List.length e
      simp at this; omega
    have hy : y = LI orders[pre.length] := by
      have : (orders.map LI)[pre.length]? = some y := by rw [e]; simp
      simp [hlt] at this
      exact this.symm
    obtain ⟨hol, hon⟩ := ho _ (List.getElem_mem hlt)
    have htake : orders.take (pre ++ [y]).length = orders.take pre.length ++ [orders[pre.length]] := by
      rw [List.length_append, List.length_singleton, List.take_add_one, List.getElem?_eq_getElem hlt]; rfl
    generalize orders[pre.length] = order at hy hol hon htake
    subst hy
    refine ⟨_, .name, fun O' s' Q' E' ok5 er5 own5 hXO5 hq => ?_⟩
    refine wpAny_execs_cons (StE.run (V := ["first", "order", "labels"]) (st_assign_comp (x := "labels") (r := (labF first order).map .int) ?_ (by decide +kernel) (by decide +kernel)) ok5 er5 hw hXO5 hX0 fun h6 t6 er6 ok6 k6 hb6 => ?_)
    · rw [labF, List.map_map]
      refine comp_mapT PyData.int (fun h => by simpa using h) order _ (by decide +kernel) (by rw [szl]; omega) (it_list (ev_name rfl)) (.inl ⟨_, _, rfl⟩) fun n hn' => ⟨_, .name, ?_⟩
      exact ev_index (ns := first) (ev_name rfl) (ev_name rfl) (idx_some (hon n hn')).1 (by rw [szl]; omega)
    have own6 := own5.kpx k6 hXO5 haX (hb6 _ _ (by decide +kernel) own5.bound)
    have hll : (labF first order).length = first.length := by simp [labF, hol]
    have e1 : (fallOf (labF first order) : Int) = (((((List.range ((labF first order).length - 1)).filter fun i => decide ((labF first order).getD i 0 > (labF first order).getD (i + 1) 0)).map fun i : Nat => PyData.int ((1 : Int) + i * 1)).length : Nat) : Int) := by
      simp [fallOf]
    refine wpAny_execs_cons (own_aug (s := { s' with heap := h6, toks := t6 }) (ns := talF first (orders.take pre.length)) (n := fallOf (labF first order)) (c := 1) (by
      rw [e1]
      refine ev_len B (by decide +kernel) (ev_comp (comp_filterT (T := TName) (fun i : Nat => PyData.int ((1 : Int) + i * 1)) (range_inj (by decide)) (List.range ((labF first order).length - 1)) _ _ ?_ ?_ ?_ ⟨_, _, rfl⟩ fun i hi => ?_)) ?_
      · decide +kernel
      · rw [szl, List.length_range]; omega
      · have e2 : (List.range ((labF first order).length - 1)).map (fun i : Nat => PyData.int ((1 : Int) + i * 1)) = rangeD 1 1 (((((labF first order).map PyData.int).length : Nat) : Int) - 1).toNat := by
          rw [rangeD, List.length_map, sub1_toNat]
        rw [e2]
        exact it_range2 (by decide +kernel) B.range ev_int (ev_len B (by decide +kernel) (ev_name rfl) (by rw [szl]; simp [hll]; omega)) (small_one (by omega) (by omega) (by rw [List.length_map]; omega) (by rw [List.length_map]; omega))
      · have hi2 : i < (labF first order).length - 1 := by simpa using hi
        have a1 : (1 + (i : Int) * 1 - 1) = ((i : Nat) : Int) := by omega
        have a2 : (1 + (i : Int) * 1) = ((i + 1 : Nat) : Int) := by omega
        refine ⟨_, .name, tests_one (tr_cmp (ev_itemI (r := labF first order) (n := i) (ev_name rfl) ?_ (by omega) (by omega)) (ev_itemI (r := labF first order) (n := i + 1) (ev_name rfl) ?_ (by omega) (by omega)) (cmp_gt _ _)), fun _ => ev_name rfl⟩
        · exact ev_cast (congrArg PyData.int a1) (ev_bin (ev_name rfl) ev_int (bin_sub _ _))
        · exact ev_cast (congrArg PyData.int a2) (ev_name rfl)
      · rw [szl, List.length_map]
        have := List.length_filter_le (fun i => decide ((labF first order).getD i 0 > (labF first order).getD (i + 1) 0)) (List.range ((labF first order).length - 1))
        rw [List.length_range] at this
        omega) ev_int (by have := fallOf_lt (labF first order); rw [talF_len]; omega) (by rw [talF_len]; omega) ok6 er6 own6 fun h7 t7 er7 own7 k7 => ?_)
    refine wpAny_execs_nil (hq h7 t7 (er7.forget ?_) ?_ ((k6.mono fun b hb => .inl (.tail _ hb)).trans (k7.mono fun b hb => .inl (by rw [List.mem_singleton.mp hb]; exact .head _))))
    · refine le_of ["first", "order", "labels"] ?_ ?_ <;> walk_at "le"
    · rw [htake]
      have e3 : talF first (orders.take pre.length ++ [order]) = (talF first (orders.take pre.length)).set (fallOf (labF first order)) ((talF first (orders.take pre.length)).getD (fallOf (labF first order)) 0 + 1) := by
        simp only [talF, List.foldl_append, List.foldl_cons, List.foldl_nil]
      rw [e3]; exact own7
  · have e5 : orders.take (orders.map LI).length = orders := by rw [List.length_map]; exact List.take_of_length_le (Nat.le_refl _)
    rw [e5] at own4
    obtain ⟨vs4, hl4, rl4⟩ := own4.lst
    refine wpAny_execs_cons (wpAny_Return_some (wpAny_Name (load_bound er4 own4.bound ?_ (by decide)) (by decide)))
    have haO : a ∉ O := fun q => by
      obtain ⟨o, e⟩ := low a q
      obtain ⟨o', e'⟩ := ((kp.x (X := X)).trans k2).there ⟨o, e⟩
      rw [ha] at e'; cases e'
    refine h _ h4 t4 (rd_list hl4 haO (rl4.mono fun v d r => r.sub fun b hb => .tail _ (List.mem_append_right _ hb))) ?_
    have q1 : KpX (a :: X) h₀.objs.size s.heap h4 := ((((kp.x (X := X)).trans k2).trans k3).mono fun b hb => .inl (.tail _ hb)).trans k4
    refine q1.kp fun b hb => ?_
    rcases List.mem_cons.mp hb with rfl | hb
    · cases e : s.heap.get? b with
      | none => rfl
      | some o =>
        obtain ⟨o', e'⟩ := ((kp.x (X := X)).trans k2).there ⟨o, e⟩
        rw [ha] at e'; cases e'
    · exact hdead b hb
end
end Mine
end
section
open PySem.Calls PySem.Spec PySem.SeqAt
namespace Mine
noncomputable def LB (r : List Bool) : PyData := .list (r.map .bool)
noncomputable def RowsAt (h : Heap) (rs : List Addr) (M : List (List Bool)) : Prop := Paired (fun r row => h.PlainList r (row.map Value.bool).toArray) rs M
noncomputable def Rows (O : List Addr) (hp : Heap) (vs : List Value) (ds : List PyData) (h : Heap) : Prop :=
  (∀ b o, hp.get? b = some o → ∃ o', h.get? b = some o') ∧ ∃ rs M, vs = rs.map Value.ref ∧ ds = M.map LB ∧ rs.Nodup ∧ (∀ r ∈ rs, r ∉ O ∧ hp.get? r = none) ∧ RowsAt h rs M
theorem RowsAt.keep {h h' : Heap} {rs M} (r : RowsAt h rs M) (hk : ∀ a ∈ rs, ∀ v, h.PlainList a v → h'.PlainList a v) : RowsAt h' rs M := by
  induction r with
  | nil => exact .nil
  | cons a r ih => exact .cons (hk _ (.head _) _ a) (ih fun b hb => hk b (.tail _ hb))
theorem RowsAt.alive {h : Heap} {rs M} (r : RowsAt h rs M) : ∀ a ∈ rs, ∃ o, h.get? a = some o := by
  induction r with
  | nil => intro a ha; cases ha
  | cons a r ih =>
    intro b hb
    rcases List.mem_cons.mp hb with rfl | hb
    · obtain ⟨n, e⟩ := a; exact ⟨_, e⟩
    · exact ih b hb

section
variable {w : World} {h₀ : Heap} {k : Nat} {sc : Scope} {δ : Str → Option PyData} {N : Nat}

theorem Rows.kpx {O X : List Addr} {hp vs ds h h'} (r : Rows O hp vs ds h) (k : KpX X N h h') (hX : ∀ a ∈ X, a ∈ O) : Rows O hp vs ds h' := by
  obtain ⟨h0, rs, M, h1, h2, h3, h4, h5⟩ := r
  exact ⟨fun b o e => k.there (h0 b o e), rs, M, h1, h2, h3, h4, h5.keep fun a ha v hl => k.plain (fun q => (h4 a ha).1 (hX a q)) hl⟩
theorem Rows.kp {O : List Addr} {hp vs ds h h'} (r : Rows O hp vs ds h) (k : Kp N h h') : Rows O hp vs ds h' := r.kpx (k.x (X := [])) fun a ha => by cases ha
theorem Rows.but {O It : List Addr} {hp vs ds h h'} (r : Rows O hp vs ds h) (hk : ∀ b o, b ∉ It → h.get? b = some o → h'.get? b = some o) (hIt : ∀ a ∈ It, a ∈ O) (hItp : ∀ a ∈ It, hp.get? a = none) : Rows O hp vs ds h' := by
  obtain ⟨h0, rs, M, h1, h2, h3, h4, h5⟩ := r
  refine ⟨fun b o e => ?_, rs, M, h1, h2, h3, h4, h5.keep fun a ha v hl => hl.at fun o e => hk _ o (fun q => (h4 a ha).1 (hIt a q)) e⟩
  obtain ⟨o', e'⟩ := h0 b o e
  exact ⟨o', hk b o' (fun q => by rw [hItp b q] at e; cases e) e'⟩
theorem rd_bools {O : List Addr} {h : Heap} : ∀ bs : List Bool, RdAll O h (bs.map Value.bool) (bs.map PyData.bool)
  | [] => .nil
  | b :: bs => .cons (.bool b) (rd_bools bs)

theorem bools_of {O : List Addr} {h : Heap} : ∀ {vs : List Value} {bs : List Bool}, RdAll O h vs (bs.map .bool) → vs = bs.map Value.bool
  | _, [], .nil => rfl
  | v :: vs, b :: bs, r => by
    cases r with
    | cons r1 r2 => rw [r1.bool_inv, bools_of r2]; rfl
theorem fr_compB {elt : Expr} {gens : List Comprehension} {scope : Scope} {pos : Pos} {bs : List Bool} (hc : CompR w h₀ k sc δ elt gens scope (bs.map .bool)) : FrE w h₀ k sc δ (.ListComp elt gens scope pos) (bs.map .bool) := by
  intro O env A s Q E ok er h
  have has : firstAsync gens = false := by
    obtain ⟨hall, _, _, _, _, g, gs, rfl, _⟩ := hc
    obtain ⟨target, iter, ifs, az⟩ := g
    have := hall _ (.head _)
    simp only at this
    subst this; rfl
  rw [eval_ListComp, has]
  refine comp_core hc ok er fun D C h' tk vs hD hC hDC hN hl rl kp => ?_
  obtain ⟨m, hN⟩ := hN
  refine ⟨m, hN, fun h'' hs => ?_⟩
  have hv := bools_of rl
  refine h D h'' tk vs hD (hl.at fun o e => hs.extBut _ o hDC e) ?_ fun b o e => ?_
  · rw [hv]; exact rd_bools bs
  · have hbC : b ≠ C := fun q => by rw [q, hC] at e; cases e
    rcases kp b o e with e1 | ⟨q1, q2, sl, e1⟩
    · exact .inl (hs.extBut b _ hbC e1)
    · exact .inr ⟨q1, q2, sl, hs.extBut b _ hbC e1⟩

theorem rows_loop {elt target iter : Expr} {pos : Pos} {it : Value} {D : Addr} {env : Env} {A : Around} {T : Expr → Prop} {O X fp It : List Addr} {St : List PyData → Heap → Prop} {hp : Heap}
    {f : PyData → List Bool} {R : Result → Shared → Prop}
    (itr : Itr w A h₀.objs.size T it fp It St) (hT : T target) (hItO : ∀ a ∈ It, a ∈ O) (hfpO : ∀ a ∈ O, a ∈ fp → a ∈ It) (hItp : ∀ a ∈ It, hp.get? a = none) (hIt0 : ∀ a ∈ It, h₀.get? a = none) (hIte : Off It env)
    (hXO : ∀ a ∈ X, a ∈ O) (hX0 : ∀ a ∈ X, h₀.get? a = none) (hXI : ∀ a ∈ X, a ∉ It) (hDO : D ∈ O) (hD0 : h₀.get? D = none) (hDI : D ∉ It) (hDX : D ∉ X) (hDe : Off [D] env)
    (hw : ∀ x, sc.names.lookup x = some .local ∨ sc.names.lookup x = some .cell → Wrt X env sc x) (hn : ∀ x ∈ tnames target, (sc.names.lookup x = some .local ∨ sc.names.lookup x = some .cell) ∧ δ x = none)
    (xs : List PyData) (hb : ∀ x ∈ xs, ∃ δ', BindT target x δ δ' ∧ FrE w h₀ k sc δ' elt ((f x).map .bool))
    (s : Shared) (hst : St xs s.heap) (ok : Ok h₀ k A s.heap) (er : EnvR O s.heap env sc δ) (hl : s.heap.PlainList D #[]) (hlen : xs.length ≤ sizeLine) (kp : KpX (D :: X) h₀.objs.size hp s.heap)
    (hR : ∀ h tk vs', (∀ O', (∀ a ∈ O', a ∈ O ∧ a ∉ It) → EnvR O' h env sc δ) → KpX (D :: X) h₀.objs.size hp h → h.PlainList D vs' → Rows O hp vs'.toList (xs.map fun x => LB (f x)) h → R (.ok .next) { s with heap := h, toks := tk }) :
    codeAny (model P w) A (.compLoop (.ListComp elt [⟨target, iter, [], 0⟩] sc pos) 0 it (.ref D) env) R s := by
  have e : (xs.map fun x => LB (f x)) = xs.flatMap fun x => [LB (f x)] := List.map_eq_flatMap ..
  refine comp_walk (f := fun x => [LB (f x)]) (Rows O hp) (fun _ _ _ _ r k => r.kpx k hItO) (fun _ _ _ _ r k => r.kpx k hXO) (fun _ _ _ _ r k => r.kp k) (fun _ _ _ _ r hk => r.but hk hItO hItp) (fun ag => (do let _ ← call (.builtin "list.append") [.ref D, ← eval elt env]) >>= fun _ => ag) (compTurn_last rfl rfl) itr hT hItO hfpO hItp hIt0 hIte hXO hX0 hXI hDO hD0 hDI hDX hDe (fun x hx => hw x (hn x hx).1) (fun x hx => (hn x hx).2) xs (fun x hx => ?_) s #[] [] hst ok er hl
    ⟨fun b o e => kp.there ⟨o, e⟩, [], [], rfl, rfl, .nil, (fun _ h => by cases h), .nil⟩ (by rw [← e]; simpa using hlen) kp fun h tk vs' e1 e2 e3 e4 => hR h tk vs' e1 e2 e3 (by rw [e]; exact e4)
  obtain ⟨δ', b1, hev⟩ := hb x hx
  refine ⟨δ', true, b1, rfl, (fun q => by cases q), fun _ ag s Q E vs ds ok er hl rl hlen h => ?_⟩
  refine wpAny_bind (wpAny_bind (hev O env A s _ _ ok er fun a h1 t1 ws ha hla rla k1 => wpAny_bind ?_))
  have hl1 := Kp.plain k1 hl
  have haD : a ≠ D := fun q => by obtain ⟨n, e⟩ := hl; rw [q, e] at ha; cases ha
  have hsz : vs.size ≤ sizeLine := by
    obtain ⟨_, rs, M, q1, q2, _, _, q5⟩ := rl
    have z := q5.length
    have : vs.size = ds.length := by rw [← Array.length_toList, q1, q2]; simpa using z
    simp at hlen; omega
  have er1 := er.kp k1
  refine wpAny_list_append_plain (s := { s with heap := h1, toks := t1 }) (hsz := hsz) hl1 fun h2 hl2 hs2 => wpAny_pure ?_
  have k2 : KpX [D] h₀.objs.size h1 h2 := isList_kind hl1 hl2 hs2 (.head _)
  have hDO' : ∀ a ∈ [D], a ∈ O := fun a ha => by rw [List.mem_singleton.mp ha]; exact hDO
  refine h h2 t1 _ (er1.kpx k2 hDO' hDe) (k1.x.trans (k2.mono fun a ha => .inl (by rw [List.mem_singleton.mp ha]; exact .head _))) hl2 ?_
  obtain ⟨q0, rs, M, q1, q2, q3, q4, q5⟩ := (rl.kp k1).kpx k2 hDO'
  have hars : a ∉ rs := fun q => by
    obtain ⟨_, rs', M', p1, p2, p3, p4, p5⟩ := rl
    have : rs' = rs := by
      have z : rs'.map Value.ref = rs.map Value.ref := p1.symm.trans q1
      exact List.map_inj_right (fun a b h => by simpa using h) |>.mp z
    subst this
    obtain ⟨o, e⟩ := p5.alive a q
    rw [ha] at e; cases e
  refine ⟨q0, rs ++ [a], M ++ [f x], by simp [q1], by simp [q2], ?_, fun r hr => ?_, Paired.append q5 (.cons ?_ .nil)⟩
  · rw [List.nodup_append]
    exact ⟨q3, by simp, fun b hb c hc => by rw [List.mem_singleton.mp hc]; exact fun z => hars (z ▸ hb)⟩
  · rcases List.mem_append.mp hr with z | z
    · exact q4 r z
    · rw [List.mem_singleton.mp z]
      refine ⟨fun z => ?_, ?_⟩
      · obtain ⟨o, e⟩ := er.low a z; rw [ha] at e; cases e
      · cases e : hp.get? a with
        | none => rfl
        | some o => obtain ⟨o', e'⟩ := rl.1 a o e; rw [ha] at e'; cases e'
  · have e : ws = ((f x).map Value.bool).toArray := by
      apply Array.ext'
      rw [bools_of rla]
    have := k2.plain (fun z => haD (List.mem_singleton.mp z)) hla
    rw [e] at this; exact this
theorem rows_core {elt target iter : Expr} {scope : Scope} {pos pos' : Pos} {T : Expr → Prop} {xs : List PyData} {f : PyData → List Bool} (hside : CSide sc scope target) (hlen : xs.length ≤ sizeLine) (hit : ItE w h₀ k sc δ T iter xs) (hT : T target)
    (hb : ∀ x ∈ xs, ∃ δ', BindT target x (inner scope δ) δ' ∧ FrE w h₀ k scope δ' elt ((f x).map .bool)) (hfs : ∀ env v, foldedSetIterable iter env v = pure v) {use : Option (Value → Sem Unit)} {O : List Addr} {env : Env} {A : Around} {s : Shared} {Q : Value → Shared → Prop} {E : Value → Shared → Prop}
    (ok : Ok h₀ k A s.heap) (er : EnvR O s.heap env sc δ)
    (hK : ∀ D C h tk vs, s.heap.get? D = none → s.heap.get? C = none → D ≠ C → (∃ m, h.Ns C m) → h.PlainList D vs → Rows (D :: C :: O) s.heap vs.toList (xs.map fun x => LB (f x)) h → Kp h₀.objs.size s.heap h → compPost (model P w) A E use Q (.ref D) C (.ok .next) { s with heap := h, toks := tk }) :
    wpAny (model P w) A (comprehension (.ListComp elt [⟨target, iter, [], 0⟩] scope pos) scope env pos' (newList []) false (firstIter [⟨target, iter, [], 0⟩] env) use) Q E s := by
  obtain ⟨hkind, hnames, hfree, hnm⟩ := hside
  refine wpAny_comprehension_free (cl := closL env scope.names []) rfl (hfs env) (closureFor_eq fun n hn => er.cells n (hfree _ hn rfl)) hkind (fun x hx hl => by rw [← hl]; exact hnames x hx) ?_
  refine hit O env A s _ _ ok er fun x h1 t1 k1 hgo => hgo _ _ fun it h2 t2 hitr k2 => ?_
  obtain ⟨fp, It, St, itr, hst, hdead, hfp⟩ := hitr
  refine wpAny_newObj_type (hd := by size_fits) (newEnv_comp ?_)
  dsimp only
  have hD : h2.get? h2.objs.size = none := dead_size _ (Nat.le_refl _)
  generalize hH3 : h2.push { cls := .type "list", dict := none, data := .seq ([] : List Value).toArray } = h3
  have hsz3 : h3.objs.size = h2.objs.size + 1 := by rw [← hH3]; exact Heap.size_push ..
  have k3 : Kp h₀.objs.size h2 h3 := by rw [← hH3]; exact Kp.push _ _
  have hlD : h3.PlainList h2.objs.size #[] := by rw [← hH3]; exact ⟨0, Heap.get?_push_size _ rfl⟩
  have fpl : ∀ a ∈ fp, a < h2.objs.size := fun a ha => by obtain ⟨o, e⟩ := itr.live _ _ hst a ha; exact Heap.lt_size e
  have Itl : ∀ a ∈ It, a < h2.objs.size := fun a ha => fpl a (itr.sub a ha)
  have deadS : ∀ a, h2.objs.size ≤ a → s.heap.get? a = none := fun a ha => by
    cases e : s.heap.get? a with
    | none => rfl
    | some o => obtain ⟨o', q⟩ := k2.there e; rw [dead_size _ ha] at q; cases q
  have aliveO : ∀ a ∈ O, a < h2.objs.size := fun a ha => by obtain ⟨o, e⟩ := er.low a ha; obtain ⟨o', q⟩ := k2.there e; exact Heap.lt_size q
  have er3 : EnvR (h2.objs.size :: It ++ O) h3 env sc δ := er.more (N := h₀.objs.size) (fun a ha => by
    rcases List.mem_append.mp ha with q | q
    · rcases List.mem_cons.mp q with rfl | q
      · exact .inr (deadS _ (Nat.le_refl _))
      · exact .inr (hdead a q)
    · exact .inl q) (k2.trans k3) fun a ha => by
    rcases List.mem_append.mp ha with q | q
    · rcases List.mem_cons.mp q with rfl | q
      · obtain ⟨n, e⟩ := hlD; exact ⟨_, e⟩
      · obtain ⟨o, e⟩ := itr.live _ _ hst a (itr.sub a q); exact k3.there e
    · obtain ⟨o, e⟩ := er.low a q; exact (k2.trans k3).there e
  obtain ⟨er4, hw, hcX, hcell⟩ := cEnvR er3 hkind hnames hfree
  have ok3 := ok.kp (k2.trans k3)
  have k4 : Kp h₀.objs.size h3 (pushCells (h3.push { cls := .type "dict", data := .dict #[] }) scope.names) := .of_keeps fun b o e => pushCells_keeps _ _ _ _ (Heap.get?_push_of_some _ e)
  generalize hH4 : pushCells (h3.push { cls := .type "dict", data := .dict #[] }) scope.names = h4 at er4 k4
  have outer : ∀ x c, (cEnv scope env h3.objs.size).cells.lookup x = some c → c < h2.objs.size ∧ (∃ o, s.heap.get? c = some o) ∨ h3.objs.size < c := fun x c q => by
    rcases hcell x c q with ⟨y, e⟩ | q
    · obtain ⟨v, o, ho, _⟩ := er.cel y c e
      obtain ⟨o', q⟩ := k2.there ho
      exact .inl ⟨Heap.lt_size q, o, ho⟩
    · exact .inr q
  have hDc : ∀ a ∈ cX scope env h3.objs.size, h2.objs.size + 1 ≤ a := fun a ha => hsz3 ▸ hcX a ha
  have key : ∀ st, st = ({ s with heap := h4, toks := t2 } : Shared) → codeAny (model P w) A (.compLoop (.ListComp elt [⟨target, iter, [], 0⟩] scope pos) 0 it (.ref h2.objs.size) (cEnv scope env h3.objs.size)) (compPost (model P w) A E use Q (.ref h2.objs.size) h3.objs.size) st := by
    rintro st rfl
    refine rows_loop itr hT (O := cX scope env h3.objs.size ++ (h2.objs.size :: It ++ O)) (X := cX scope env h3.objs.size) (hp := s.heap)
      (fun a ha => List.mem_append_right _ (List.mem_append_left _ (.tail _ ha))) (fun a ha q => ?_) hdead (fun a ha => ok.dead (hdead a ha)) (fun a ha => ⟨?_, fun x c q => ?_⟩)
      (fun a ha => List.mem_append_left _ ha) (fun a ha => ok3.dead (dead_size _ (hcX a ha))) (fun a ha q => ?_) (List.mem_append_right _ (List.mem_append_left _ (.head _))) (ok.dead (deadS _ (Nat.le_refl _))) (fun q => ?_) (fun q => ?_) (fun a ha => ⟨?_, fun x c q => ?_⟩)
      hw (fun x hx => ⟨hnm x hx, inner_own (hnm x hx)⟩) xs hb _ (itr.keep _ _ _ [] hst (k3.trans k4).x fun a ha => by cases ha) (ok3.kp k4) er4 (Kp.plain k4 hlD) hlen ((k2.trans k3).trans k4).x fun h tk vs' e1 e2 e3 e4 => ?_
    · rcases List.mem_append.mp ha with z | z
      · exact absurd (fpl a q) (Nat.not_lt.mpr (Nat.le_trans (Nat.le_succ _) (hDc a z)))
      rcases List.mem_append.mp z with z | z
      · rcases List.mem_cons.mp z with rfl | z
        · exact absurd (fpl _ q) (Nat.lt_irrefl _)
        · exact z
      · exact absurd z (hfp a q)
    · exact ne_nat (.inl (show a < h3.objs.size by rw [hsz3]; exact Nat.lt_succ_of_lt (Itl a ha)))
    · rcases outer x c q with ⟨_, o, z⟩ | z
      · intro e; rw [← e, hdead a ha] at z; cases z
      · exact ne_nat (.inl (Nat.lt_trans (show a < h3.objs.size by rw [hsz3]; exact Nat.lt_succ_of_lt (Itl a ha)) z))
    · exact absurd (Itl a q) (Nat.not_lt.mpr (Nat.le_trans (Nat.le_succ _) (hDc a ha)))
    · exact absurd (Itl _ q) (Nat.lt_irrefl _)
    · exact absurd (hDc _ q) (Nat.not_succ_le_self _)
    · rw [List.mem_singleton.mp ha]; exact ne_nat (.inl (show h2.objs.size < h3.objs.size by rw [hsz3]; exact Nat.lt_succ_self _))
    · rw [List.mem_singleton.mp ha]
      rcases outer x c q with ⟨z, _⟩ | z
      · exact ne_nat (.inr z)
      · exact ne_nat (.inl (Nat.lt_trans (show h2.objs.size < h3.objs.size by rw [hsz3]; exact Nat.lt_succ_self _) z))
    · refine hK h2.objs.size h3.objs.size h tk vs' (deadS _ (Nat.le_refl _)) (deadS _ (by rw [hsz3]; exact Nat.le_succ _)) (ne_nat (.inl (show h2.objs.size < h3.objs.size by rw [hsz3]; exact Nat.lt_succ_self _))) ?_ e3 ?_ ?_
      · exact (e1 [] (fun a ha => by cases ha)).loc
      · obtain ⟨z0, rs, M, z1, z2, z3, z4, z5⟩ := e4
        refine ⟨z0, rs, M, z1, z2, z3, fun r hr => ⟨fun q => (z4 r hr).1 ?_, (z4 r hr).2⟩, z5⟩
        rcases List.mem_cons.mp q with rfl | q
        · exact List.mem_append_right _ (List.mem_append_left _ (.head _))
        rcases List.mem_cons.mp q with rfl | q
        · exact List.mem_append_left _ (.head _)
        · exact List.mem_append_right _ (List.mem_append_right _ q)
      · refine e2.kp fun a ha => ?_
        rcases List.mem_cons.mp ha with rfl | ha
        · exact deadS _ (Nat.le_refl _)
        · exact deadS _ (Nat.le_trans (Nat.le_succ _) (hDc a ha))
  show codeAny (model P w) A (.compStart (.ListComp elt [⟨target, iter, [], 0⟩] scope pos) 0 it (.ref h2.objs.size) (cEnv scope env h3.objs.size)) _ _
  refine start_at rfl (key _ rfl) fun E' => ?_
  exact itr.self _ _ _ _ (itr.keep _ _ _ [] hst (k3.trans k4).x fun a ha => by cases ha) (key _ rfl)

end
end Mine
end
section
open PySem.Calls PySem.Spec PySem.SeqAt
namespace Mine
structure Mat (O : List Addr) (h : Heap) (env : Env) (sc : Scope) (x : Str) (L : Addr) (rs : List Addr) (M : List (List Bool)) : Prop where
  bound : Bound h env sc x (.ref L)
  mem : ∀ a ∈ L :: rs, a ∈ O
  lst : h.PlainList L (rs.map Value.ref).toArray
  rows : RowsAt h rs M
  nd : (L :: rs).Nodup

section
variable {w : World} {h₀ : Heap} {k : Nat} {sc : Scope} {δ : Str → Option PyData} {N : Nat}

theorem rows_new {elt target iter : Expr} {scope : Scope} {p pos pos' : Pos} {x : Str} {T : Expr → Prop} {xs : List PyData} {f : PyData → List Bool} (hside : CSide sc scope target) (hlen : xs.length ≤ sizeLine) (hit : ItE w h₀ k sc δ T iter xs) (hT : T target)
    (hb : ∀ x ∈ xs, ∃ δ', BindT target x (inner scope δ) δ' ∧ FrE w h₀ k scope δ' elt ((f x).map .bool)) {O X : List Addr} {env : Env} {A : Around} {s : Shared} {Q : Flow → Shared → Prop} {E : Value → Shared → Prop}
    (ok : Ok h₀ k A s.heap) (er : EnvR O s.heap env sc δ) (hw : Wrt X env sc x) (hXO : ∀ a ∈ X, a ∈ O) (hδ : δ x = none)
    (h : ∀ L rs h1 t1, (∀ a ∈ L :: rs, s.heap.get? a = none) → EnvR (L :: rs ++ O) h1 env sc δ → Mat (L :: rs ++ O) h1 env sc x L rs (xs.map f) → KpX X h₀.objs.size s.heap h1 → Q .next { s with heap := h1, toks := t1 })
    (hfs : ∀ env v, foldedSetIterable iter env v = pure v := by intro _ _; rfl) : wpAny (model P w) A (exec (.Assign [.Name x p] (.ListComp elt [⟨target, iter, [], 0⟩] scope pos') pos) env) Q E s := by
  have unpack : ∀ {D C : Addr} {g : Heap} {vs : Array Value}, s.heap.get? D = none → s.heap.get? C = none → (∃ m, g.Ns C m) → g.PlainList D vs → Rows (D :: C :: O) s.heap vs.toList (xs.map fun x => LB (f x)) g →
      ∃ rs, vs = (rs.map Value.ref).toArray ∧ rs.Nodup ∧ (∀ r ∈ rs, r ≠ D ∧ r ≠ C ∧ r ∉ O ∧ s.heap.get? r = none) ∧ RowsAt g rs (xs.map f) := by
    intro D C g vs hD hC hN hl ⟨_, rs, M, q1, q2, q3, q4, q5⟩
    have hM : M = xs.map f := by
      have : (xs.map f).map LB = M.map LB := by rw [← q2, List.map_map]; rfl
      have inj : ∀ a b, LB a = LB b → a = b := by
        intro a
        induction a with
        | nil => intro b hb; cases b with
          | nil => rfl
          | cons y ys => simp [LB] at hb
        | cons y ys ih => intro b hb; cases b with
          | nil => simp [LB] at hb
          | cons z zs =>
            simp only [LB, List.map_cons, PyData.list.injEq, List.cons.injEq, PyData.bool.injEq] at hb
            rw [hb.1, ih zs (by simp only [LB, hb.2])]
      exact ((List.map_inj_right (fun a b => inj a b)).mp this).symm
    refine ⟨rs, Array.ext' (by rw [q1]), q3, fun r hr => ?_, hM ▸ q5⟩
    obtain ⟨z1, z2⟩ := q4 r hr
    exact ⟨fun e => z1 (e ▸ .head _), fun e => z1 (e ▸ .tail _ (.head _)), fun e => z1 (.tail _ (.tail _ e)), z2⟩
  obtain ⟨b, hb'⟩ := swaps_comp (elt := elt) (gens := [⟨target, iter, [], 0⟩]) (scope := scope) (pos := pos') (x := x) (p := p) (line := pos.line) env
  cases b with
  | false =>
    refine wpAny_Assign_Name ?_ hb'
    rw [eval_ListComp]
    refine rows_core hside hlen hit hT hb hfs ok er fun D C g t1 vs hD hC hDC hN hl rl kp => ?_
    obtain ⟨rs, rfl, q3, q4, q5⟩ := unpack hD hC hN hl rl
    obtain ⟨m, hN⟩ := hN
    refine ⟨m, hN, fun g2 hs => ?_⟩
    have kp2 : Kp h₀.objs.size s.heap g2 := fun b o e => by
      have hbC : b ≠ C := fun q => by rw [q, hC] at e; cases e
      rcases kp b o e with e1 | ⟨z1, z2, sl, e1⟩
      · exact .inl (hs.extBut b _ hbC e1)
      · exact .inr ⟨z1, z2, sl, hs.extBut b _ hbC e1⟩
    have hl2 := hl.at fun o e => hs.extBut D o hDC e
    have q6 : RowsAt g2 rs (xs.map f) := q5.keep fun a ha v hv => hv.at fun o e => hs.extBut a o (q4 a ha).2.1 e
    have hdead : ∀ a ∈ D :: rs, s.heap.get? a = none := fun a ha => (List.mem_cons.mp ha).elim (fun e => e ▸ hD) fun e => (q4 a e).2.2.2
    have er1 : EnvR (D :: rs ++ O) g2 env sc δ := er.more (fun a ha => (List.mem_append.mp ha).elim (fun q => .inr (hdead a q)) .inl) kp2 fun a ha => by
      rcases List.mem_append.mp ha with q | q
      · rcases List.mem_cons.mp q with rfl | q
        · obtain ⟨n, e⟩ := hl2; exact ⟨_, e⟩
        · exact q6.alive a q
      · obtain ⟨o, e⟩ := er.low a q; exact kp2.there e
    have hX : ∀ a ∈ D :: rs, a ∉ X := fun a ha q => by obtain ⟨o, e⟩ := er.low a (hXO a q); rw [hdead a ha] at e; cases e
    refine store_any (N := h₀.objs.size) (s := { s with heap := g2, toks := t1 }) δ er1 hw (fun b hb => List.mem_append_right _ (hXO b hb)) (fun _ _ _ e => e) (fun d e => by rw [hδ] at e; cases e) fun h2 t2 er2 hbd ho k2 => ?_
    exact h D rs h2 t2 hdead er2 ⟨hbd, fun a ha => List.mem_append_left _ ha, k2.plain (hX D (.head _)) hl2, q6.keep fun a ha v hv => k2.plain (hX a (.tail _ ha)) hv, List.nodup_cons.mpr ⟨fun e => (q4 D e).1 rfl, q3⟩⟩ (kp2.x.trans k2)
  | true =>
    rw [exec_Assign_Name_used _ _ _ _ hb']
    refine wpAny_bind (wpAny_standAt (wpAny_bind ?_))
    show wpAny _ _ (comprehension (.ListComp elt [⟨target, iter, [], 0⟩] scope pos') scope env (firstIterPos [⟨target, iter, [], 0⟩] pos') (newList []) (firstAsync [⟨target, iter, [], 0⟩]) (firstIter [⟨target, iter, [], 0⟩] env) (some (assign (.Name x p) env)) >>= fun _ => pure ()) _ _ _
    refine wpAny_bind ?_
    refine rows_core (Q := fun _ s' => wpAny (model P w) A (pure ()) (fun _ s'' => wpAny (model P w) A (pure Flow.next) Q E s'') E s') hside hlen hit hT hb hfs ok er fun D C g t1 vs hD hC hDC hN hl rl kp => ?_
    obtain ⟨rs, rfl, q3, q4, q5⟩ := unpack hD hC hN hl rl
    obtain ⟨m, hN⟩ := hN
    have hdead : ∀ a ∈ D :: rs, s.heap.get? a = none := fun a ha => (List.mem_cons.mp ha).elim (fun e => e ▸ hD) fun e => (q4 a e).2.2.2
    have hdeadC : ∀ a ∈ C :: (D :: rs), s.heap.get? a = none := fun a ha => (List.mem_cons.mp ha).elim (fun e => e ▸ hC) (hdead a)
    have er1 : EnvR (C :: (D :: rs) ++ O) g env sc δ := er.more (fun a ha => (List.mem_append.mp ha).elim (fun q => .inr (hdeadC a q)) .inl) kp fun a ha => by
      rcases List.mem_append.mp ha with q | q
      · rcases List.mem_cons.mp q with rfl | q
        · obtain ⟨o, _, _, e, _⟩ := hN; exact ⟨o, e⟩
        rcases List.mem_cons.mp q with rfl | q
        · obtain ⟨n, e⟩ := hl; exact ⟨_, e⟩
        · exact q5.alive a q
      · obtain ⟨o, e⟩ := er.low a q; exact kp.there e
    have hX : ∀ a ∈ C :: (D :: rs), a ∉ X := fun a ha q => by obtain ⟨o, e⟩ := er.low a (hXO a q); rw [hdeadC a ha] at e; cases e
    refine wpAny_assign_Name (store_any (N := h₀.objs.size) (s := { s with heap := g, toks := t1 }) δ er1 hw (fun b hb => List.mem_append_right _ (hXO b hb)) (fun _ _ _ e => e) (fun d e => by rw [hδ] at e; cases e) fun h2 t2 er2 hbd ho k2 => ?_)
    refine ⟨m, k2.ns (hX C (.head _)) hN, fun h3 hs3 => wpAny_pure (wpAny_pure ?_)⟩
    have hk3 : ∀ b o, b ∉ [C] → h2.get? b = some o → h3.get? b = some o := fun b o hb e => hs3.extBut b o (fun q => hb (by simp [q])) e
    have hCoff : Off [C] env := er.off_fresh fun a ha => by rw [List.mem_singleton.mp ha]; exact hC
    have hCne : ∀ a ∈ D :: rs, a ≠ C := fun a ha => (List.mem_cons.mp ha).elim (fun e => e ▸ hDC) fun e => (q4 a e).2.1
    refine h D rs h3 t2 hdead (er2.but hk3 (fun a ha => ⟨List.mem_cons_of_mem _ ha, fun q => ?_⟩) (fun a ha => by rw [List.mem_singleton.mp ha]; exact .head _) hCoff) ⟨hbd.off hCoff hk3, fun a ha => List.mem_append_left _ ha, ?_, ?_, List.nodup_cons.mpr ⟨fun e => (q4 D e).1 rfl, q3⟩⟩ ?_
    · have q := List.mem_singleton.mp q
      rcases List.mem_append.mp ha with z | z
      · exact hCne a z q
      · obtain ⟨o, e⟩ := er.low a z; rw [q, hC] at e; cases e
    · exact (k2.plain (hX D (.tail _ (.head _))) hl).at fun o e => hs3.extBut D o hDC e
    · exact (q5.keep fun a ha v hv => k2.plain (hX a (.tail _ (.tail _ ha))) hv).keep fun a ha v hv => hv.at fun o e => hs3.extBut a o (q4 a ha).2.1 e
    · exact (kp.x.trans k2).but hk3 (fun a ha => by rw [List.mem_singleton.mp ha]; exact hC) fun a ha q => hX C (.head _) (by rw [← List.mem_singleton.mp q]; exact ha)
end
end Mine
end
section
open PySem.Calls PySem.Spec PySem.SeqAt
namespace Mine
structure HInv (N : Nat) (Y : List Addr) (H : List Addr → Heap → Prop) : Prop where
  kpx : ∀ {O X : List Addr} {h h' : Heap}, H O h → KpX X N h h' → (∀ a ∈ X, a ∈ O) → (∀ a ∈ X, a ∉ Y) → H O h'
  but : ∀ {O O' It : List Addr} {h h' : Heap}, H O h → (∀ b o, b ∉ It → h.get? b = some o → h'.get? b = some o) → (∀ b ∈ O', b ∈ O ∧ b ∉ It) → (∀ b ∈ It, b ∈ O) → (∀ a ∈ Y, a ∈ O') → H O' h'
  more : ∀ {O O' : List Addr} {h h' : Heap}, H O h → (∀ b ∈ O', b ∈ O ∨ h.get? b = none) → Kp N h h' → (∀ a ∈ Y, a ∈ O') → H O' h'

section
variable {w : World} {h₀ : Heap} {k : Nat} {sc : Scope} {δ : Str → Option PyData} {N : Nat}

theorem for_inv {tg iter : Expr} {body : List Stmt} {pos : Pos} {T : Expr → Prop} {xs : List PyData} (hit : ItE w h₀ k sc δ T iter xs) (hT : T tg) {Y : List Addr} (Δ : List PyData → Str → Option PyData) (I : List PyData → List Addr → Heap → Prop) (NB : List (Str × Value))
    {O X : List Addr} {env : Env} {A : Around} {s : Shared} {Q : Flow → Shared → Prop} {E : Value → Shared → Prop}
    (ok : Ok h₀ k A s.heap) (er : EnvR O s.heap env sc δ) (hΔ0 : ∀ y d, Δ [] y = some d → δ y = some d) (hI : ∀ pre, HInv h₀.objs.size Y (I pre)) (h0 : I [] O s.heap) (hb0 : ∀ p ∈ NB, Bound s.heap env sc p.1 p.2) (hYO : ∀ a ∈ Y, a ∈ O) (hY0 : ∀ a ∈ Y, h₀.get? a = none)
    (hw : Wr X env sc) (hXO : ∀ b ∈ X, b ∈ O) (hX0 : ∀ b ∈ X, h₀.get? b = none) (hXY : ∀ a ∈ X, a ∉ Y)
    (hn : ∀ y ∈ tnames tg, (sc.names.lookup y = some .local ∨ sc.names.lookup y = some .cell) ∧ ∀ p ∈ NB, p.1 ≠ y)
    (hbody : ∀ pre y post, xs = pre ++ y :: post → ∃ δ1, BindT tg y (Δ pre) δ1 ∧ ∀ (O' : List Addr) (s' : Shared) (Q' : Flow → Shared → Prop) (E' : Value → Shared → Prop), Ok h₀ k A s'.heap → EnvR O' s'.heap env sc δ1 → I pre O' s'.heap → (∀ p ∈ NB, Bound s'.heap env sc p.1 p.2) →
      (∀ b ∈ X, b ∈ O') → (∀ b ∈ Y, b ∈ O') → (∃ h1 t1, s' = { s with heap := h1, toks := t1 }) → KpX (Y ++ X) h₀.objs.size s.heap s'.heap → (∀ v s'', Q (.ret v) s'' → Q' (.ret v) s'') → (∀ b ∈ O, b ∈ O') →
      (∀ h1 t1, EnvR O' h1 env sc (Δ (pre ++ [y])) → I (pre ++ [y]) O' h1 → (∀ p ∈ NB, Bound h1 env sc p.1 p.2) → KpX (Y ++ X) h₀.objs.size s'.heap h1 → Q' .next { s' with heap := h1, toks := t1 }) → wpAny (model P w) A (execs body env) Q' E' s')
    (h : ∀ h1 t1, EnvR O h1 env sc (Δ xs) → I xs O h1 → (∀ p ∈ NB, Bound h1 env sc p.1 p.2) → Ok h₀ k A h1 → KpX (Y ++ X) h₀.objs.size s.heap h1 → Q .next { s with heap := h1, toks := t1 })
    (hs : ∀ x, foldedSetIterable iter env x = pure x := by intro _; rfl) : wpAny (model P w) A (exec (.For tg iter body [] pos) env) Q E s := by
  have hZ0 : ∀ b ∈ Y ++ X, h₀.get? b = none := fun b hb => (List.mem_append.mp hb).elim (hY0 b) (hX0 b)
  have hZO : ∀ b ∈ Y ++ X, b ∈ O := fun b hb => (List.mem_append.mp hb).elim (hYO b) (hXO b)
  refine for_gen hit hT ok er hZO (fun pre O' g => EnvR O' g env sc (Δ pre) ∧ I pre O' g ∧ ∀ p ∈ NB, Bound g env sc p.1 p.2) (fun It g hd hl kp => ?_) (fun pre It g g' hd ⟨q1, q2, q3⟩ kp => ?_) (fun pre It g ⟨q1, q2, q3⟩ => q1.low)
    (fun It g g' tk hd ⟨q1, q2, q3⟩ hk kp => ?_) (fun It pre y post s' v hd e hs' ⟨q1, q2, q3⟩ kp rv => ?_) hs
  · have hm : ∀ b ∈ It ++ O, b ∈ O ∨ s.heap.get? b = none := fun b hb => (List.mem_append.mp hb).elim (fun q => .inr (hd b q)) .inl
    refine ⟨(er.more hm kp fun b hb => (List.mem_append.mp hb).elim (hl b) fun q => ?_).forget hΔ0, (hI _).more h0 hm kp fun a ha => List.mem_append_right _ (hYO a ha), fun p hp => (hb0 p hp).kp kp⟩
    obtain ⟨o, e⟩ := er.low b q; exact kp.there e
  · have hoff := er.off_fresh hd
    refine ⟨q1.kpx kp (fun b hb => List.mem_append_left _ hb) hoff, (hI _).kpx q2 kp (fun b hb => List.mem_append_left _ hb) (fun a ha q => ?_), fun p hp => (q3 p hp).kpx hoff kp⟩
    obtain ⟨o, e⟩ := er.low a (hYO a q); rw [hd a ha] at e; cases e
  · have hoff := er.off_fresh hd
    have hO : ∀ b ∈ O, b ∈ It ++ O ∧ b ∉ It := fun b hb => ⟨List.mem_append_right _ hb, fun q => by obtain ⟨o, e⟩ := er.low b hb; rw [hd b q] at e; cases e⟩
    exact h g' tk (q1.but hk hO (fun b hb => List.mem_append_left _ hb) hoff) ((hI _).but q2 hk hO (fun b hb => List.mem_append_left _ hb) hYO) (fun p hp => (q3 p hp).off hoff hk) (ok.kpx kp hZ0) kp
  · obtain ⟨hh, tk, rfl⟩ := hs'
    obtain ⟨δ1, hb, hst⟩ := hbody pre y post e
    have ok' := ok.kpx kp hZ0
    have hXO' : ∀ b ∈ X, b ∈ It ++ O := fun b hb => List.mem_append_right _ (hXO b hb)
    refine assign_d (N := h₀.objs.size) (s := { s with heap := hh, toks := tk }) (X := X) ok.hh q1 hb (fun z hz => hw z (hn z hz).1) hXO' rv fun h2 t2 er2 k2 hb2 => ?_
    refine hst (It ++ O) { s with heap := h2, toks := t2 } _ _ (ok'.kpx k2 hX0) er2 ((hI _).kpx q2 k2 hXO' hXY) (fun p hp => hb2 _ _ (fun q => (hn _ q).2 p hp rfl) (q3 p hp)) hXO' (fun b hb => List.mem_append_right _ (hYO b hb)) ⟨h2, t2, rfl⟩ (kp.trans (k2.mono fun b hb => .inl (List.mem_append_right _ hb)))
      (fun v s'' q => q) (fun b hb => List.mem_append_right _ hb) fun h3 t3 er3 i3 b3 k3 => ?_
    exact ⟨h3, t3, rfl, ⟨er3, i3, b3⟩, (k2.mono fun b hb => .inl (List.mem_append_right _ hb)).trans k3⟩

theorem nb1 {x y : Str} {v : Value} (h : x ≠ y) : ∀ p ∈ [(x, v)], p.1 ≠ y := fun p hp => by rw [List.mem_singleton.mp hp]; exact h
noncomputable def MatH (L : Addr) (rs : List Addr) (M : List (List Bool)) (O : List Addr) (h : Heap) : Prop := h.PlainList L (rs.map Value.ref).toArray ∧ RowsAt h rs M
theorem matH_inv {L rs M} : HInv N (L :: rs) (MatH L rs M) where
  kpx := fun ⟨h1, h2⟩ k _ hY => ⟨k.plain (fun q => hY L q (.head _)) h1, h2.keep fun a ha v hv => k.plain (fun q => hY a q (.tail _ ha)) hv⟩
  but := fun ⟨h1, h2⟩ hk hO _ hY => ⟨h1.at fun o e => hk _ o (hO L (hY L (.head _))).2 e, h2.keep fun a ha v hv => hv.at fun o e => hk _ o (hO a (hY a (.tail _ ha))).2 e⟩
  more := fun ⟨h1, h2⟩ _ k _ => ⟨k.plain h1, h2.keep fun a ha v hv => k.plain hv⟩

theorem rows_rd {h : Heap} {rs : List Addr} {M : List (List Bool)} (r : RowsAt h rs M) : RdAll [] h (rs.map Value.ref) (M.map LB) := by
  induction r with
  | nil => exact .nil
  | cons a r ih =>
    refine .cons (rd_list a List.not_mem_nil ?_) ih
    simpa using rd_bools _
theorem matH_env {O env h x L rs M} (m : MatH L rs M O h) (er : EnvR O h env sc δ) (hb : Bound h env sc x (.ref L)) : EnvR [] h env sc (upd δ x (.list (M.map LB))) := by
  have er' := er.less (O' := []) fun b hb => by cases hb
  refine ⟨er.kind, er.glb, er.bi, er.kinds, fun y d e => ?_, er'.low, er.apart, er.cells, er.loc, er.cel⟩
  unfold upd at e
  split at e
  · rename_i hy
    cases e
    rw [hy]
    exact ⟨_, rd_list m.1 List.not_mem_nil (by simpa using rows_rd m.2), hb⟩
  · exact er'.val y d e

theorem rowsAt_get {h : Heap} {rs : List Addr} {M : List (List Bool)} (r : RowsAt h rs M) {i : Nat} (hi : i < M.length) : ∃ a, rs[i]? = some a ∧ h.PlainList a ((M.getD i []).map Value.bool).toArray := by
  obtain ⟨a, h1, h2⟩ := Paired.get r (i := i) (b := M.getD i []) (by simp [List.getD_eq_getElem?_getD, hi])
  exact ⟨a, h1, h2⟩
theorem rowsAt_set {h h' : Heap} {rs : List Addr} {M : List (List Bool)} (r : RowsAt h rs M) (hnd : rs.Nodup) {i : Nat} {a : Addr} {row : List Bool} (ha : rs[i]? = some a) (hl : h'.PlainList a (row.map Value.bool).toArray) (hk : ∀ b, b ≠ a → ∀ v, h.PlainList b v → h'.PlainList b v) : RowsAt h' rs (M.set i row) := by
  induction r generalizing i with
  | nil => simp at ha
  | @cons b rr l₁ l₂ q r ih =>
    obtain ⟨hb, hnd'⟩ := List.nodup_cons.mp hnd
    cases i with
    | zero =>
      simp at ha; subst ha
      exact .cons hl (RowsAt.keep r fun c hc v hv => hk c (fun e => hb (e ▸ hc)) v hv)
    | succ i =>
      have ha : l₁[i]? = some a := by simpa using ha
      exact .cons (hk b (fun e => hb (by rw [e]; exact List.mem_of_getElem? ha)) _ q) (ih hnd' ha)
end
end Mine
end
section
open PySem.Calls PySem.Spec PySem.SeqAt
namespace Mine
section
variable {w : World} {h₀ : Heap} {k : Nat} {sc : Scope} {δ : Str → Option PyData} {N : Nat}

noncomputable def at2 (M : List (List Bool)) (a b : Nat) : Bool := (M.getD a []).getD b false
noncomputable def leadsTurn (c a b : Nat) (M : List (List Bool)) : List (List Bool) := M.set a ((M.getD a []).set b (at2 M a b || (at2 M a c && at2 M c b)))
noncomputable def leads0 (n : Nat) (steps : List (Int × Int)) : List (List Bool) := (List.range n).map fun (a : Nat) => (List.range n).map fun (b : Nat) => steps.contains ((a : Int), (b : Int))
noncomputable def turnsB (c a : Nat) (m : Nat) (M : List (List Bool)) : List (List Bool) := (List.range m).foldl (fun M b => leadsTurn c a b M) M
noncomputable def turnsA (n c : Nat) (m : Nat) (M : List (List Bool)) : List (List Bool) := (List.range m).foldl (fun M a => turnsB c a n M) M
noncomputable def turnsC (n : Nat) (m : Nat) (M : List (List Bool)) : List (List Bool) := (List.range m).foldl (fun M c => turnsA n c n M) M
noncomputable def leadsF (n : Nat) (steps : List (Int × Int)) : List (List Bool) := turnsC n n (leads0 n steps)

noncomputable def Sq (n : Nat) (M : List (List Bool)) : Prop := M.length = n ∧ ∀ r ∈ M, r.length = n
theorem Sq.row {n M} (h : Sq n M) {a : Nat} (ha : a < n) : (M.getD a []).length = n := by
  rw [List.getD_eq_getElem?_getD, List.getElem?_eq_getElem (by rw [h.1]; exact ha)]
  exact h.2 _ (List.getElem_mem _)
theorem Sq.turn {n M} (h : Sq n M) {a : Nat} (ha : a < n) (c b : Nat) : Sq n (leadsTurn c a b M) := by
  refine ⟨by rw [leadsTurn, List.length_set, h.1], fun r hr => ?_⟩
  rcases List.mem_or_eq_of_mem_set hr with q | q
  · exact h.2 r q
  · rw [q, List.length_set, h.row ha]
theorem foldl_inv {α β : Type} {P : β → Prop} (f : β → α → β) : ∀ (l : List α) (b : β), P b → (∀ a ∈ l, ∀ b, P b → P (f b a)) → P (l.foldl f b)
  | [], b, h, _ => h
  | a :: l, b, h, hs => foldl_inv f l (f b a) (hs a (.head _) b h) fun a ha => hs a (.tail _ ha)
theorem Sq.b {n M} (h : Sq n M) {a : Nat} (ha : a < n) (c m : Nat) : Sq n (turnsB c a m M) := foldl_inv (P := Sq n) _ _ _ h fun b _ M hM => hM.turn ha c b
theorem Sq.a {n M} (h : Sq n M) (c : Nat) {m : Nat} (hm : m ≤ n) : Sq n (turnsA n c m M) := foldl_inv (P := Sq n) _ _ _ h fun a ha M hM => hM.b (by have := List.mem_range.mp ha; omega) c n
theorem Sq.c {n M} (h : Sq n M) (m : Nat) : Sq n (turnsC n m M) := foldl_inv (P := Sq n) _ _ _ h fun c _ M hM => hM.a c (Nat.le_refl _)
theorem sq0 (n steps) : Sq n (leads0 n steps) := by
  refine ⟨by simp [leads0], fun r hr => ?_⟩
  obtain ⟨a, _, rfl⟩ := List.mem_map.mp hr
  simp

theorem any_eqvP (steps : List (Int × Int)) (p : Int × Int) : (steps.map PD).any (fun y => PyData.eqv y (PD p)) = steps.contains p := by
  induction steps with
  | nil => rfl
  | cons x xs ih =>
    rw [List.map_cons, List.any_cons, ih, List.contains_cons]
    congr 1
    obtain ⟨a, b⟩ := x
    obtain ⟨c, d⟩ := p
    have e : PyData.eqv (PD (a, b)) (PD (c, d)) = ((a == c) && ((b == d) && true)) := by rfl
    rw [e]
    show _ = ((c, d) == (a, b))
    rw [Bool.and_true]
    show ((a == c) && (b == d)) = ((c == a) && (d == b))
    rw [Bool.beq_comm (a := a), Bool.beq_comm (a := b)]
theorem pairs_lay (steps : List (Int × Int)) : PyData.canLayAll0 (steps.map PD) = true := by
  induction steps with
  | nil => rfl
  | cons x xs ih =>
    show (PyData.canLay0 (PD x) && PyData.canLayAll0 (xs.map PD)) = true
    rw [ih]; rfl
theorem cmp_inP (p : Int × Int) (steps : List (Int × Int)) : BinE w h₀ k (compareOp .In) (PD p) (.list (steps.map PD)) (.bool (steps.contains p)) := by
  rw [← any_eqvP]; exact cmp_in _ _ rfl (pairs_lay steps)

theorem ev_item2 {v i j : Expr} {p q : Pos} {M : List (List Bool)} {n a b : Nat} (hM : Sq n M) (hn : n ≤ 100) (ha : a < n) (hb : b < n) (hv : EvE w h₀ k sc δ v (.list (M.map LB))) (hi : EvE w h₀ k sc δ i (.int a)) (hj : EvE w h₀ k sc δ j (.int b))
    (hs : ∀ o j, subscripted i false o j = operate [o, j] (getItem o j) := by intro _ _; with_unfolding_all rfl) (hs' : ∀ o i, subscripted j false o i = operate [o, i] (getItem o i) := by intro _ _; with_unfolding_all rfl) :
    EvE w h₀ k sc δ (.Subscript (.Subscript v i p) j q) (.bool (at2 M a b)) := by
  have hr := hM.row ha
  refine ev_item (xs := (M.getD a []).map .bool) (n := (b : Int)) (ev_item (xs := M.map LB) (n := (a : Int)) (d := LB (M.getD a [])) hv hi (by omega) (by omega) ?_ hs) hj (by omega) (by omega) ?_ hs'
  · have h1 := hM.1
    simp [List.getD_eq_getElem?_getD, List.getElem?_eq_getElem (show a < M.length by omega)]
  · have e : ((b : Int)).toNat = b := by simp
    rw [e, List.getElem?_map, List.getElem?_eq_getElem (by rw [hr]; exact hb)]
    simp only [at2, Option.map_some]
    rw [List.getD_eq_getElem?_getD (l := M.getD a []), List.getElem?_eq_getElem (by rw [hr]; exact hb)]
    rfl

theorem mat_turn {O : List Addr} {env : Env} {A : Around} {s : Shared} {L : Addr} {rs : List Addr} {M : List (List Bool)} {n a b : Nat} {xa xb : Expr} {p1 p2 p3 pos : Pos} {value : Expr} {v' : Bool} {Q : Flow → Shared → Prop} {E : Value → Shared → Prop}
    (hM : Sq n M) (hn : n ≤ 100) (ha : a < n) (hb : b < n) (ok : Ok h₀ k A s.heap) (er : EnvR O s.heap env sc δ) (m : MatH L rs M O s.heap) (hbd : Bound s.heap env sc "leads" (.ref L)) (hnd : (L :: rs).Nodup) (hYO : ∀ r ∈ L :: rs, r ∈ O)
    (hv : EvE w h₀ k sc (upd δ "leads" (.list (M.map LB))) value (.bool v')) (hxa : EvE w h₀ k sc δ xa (.int a)) (hxb : EvE w h₀ k sc δ xb (.int b))
    (h : ∀ h1 t1, EnvR O h1 env sc δ → MatH L rs (M.set a ((M.getD a []).set b v')) O h1 → Bound h1 env sc "leads" (.ref L) → KpX (L :: rs) h₀.objs.size s.heap h1 → Q .next { s with heap := h1, toks := t1 })
    (hsw : ∀ env, swapsWith value (some (.Subscript (.Subscript (.Name "leads" p1) xa p2) xb p3)) pos.line env = pure false := by intro _; rfl) (hs1 : ∀ o j, subscripted xa false o j = operate [o, j] (getItem o j) := by intro _ _; with_unfolding_all rfl) :
    wpAny (model P w) A (exec (.Assign [.Subscript (.Subscript (.Name "leads" p1) xa p2) xb p3] value pos) env) Q E s := by
  refine wpAny_Assign_Subscript ?_ (hsw env)
  refine hv.then ok (matH_env m er hbd) fun vv h1 t1 rv k1 ok1 _ => ?_
  obtain rfl := rv.bool_inv
  have er1 := er.kp k1
  have m1 := matH_inv.more m (fun b hb => .inl hb) k1 hYO
  have hb1 := hbd.kp k1
  refine Subscript_ (wpAny_Name (load_bound (s := { s with heap := h1, toks := t1 }) er1 hb1 ?_ (by decide)) (by decide))
  refine hxa.then (s := { s with heap := h1, toks := t1 }) ok1 er1 fun va h2 t2 ra k2 ok2 er2 => ?_
  obtain ⟨u, rfl⟩ := ra.int_inv
  have m2 := matH_inv.more m1 (fun b hb => .inl hb) k2 hYO
  have hb2 := hb1.kp k2
  have hlen : a < M.length := by rw [hM.1]; exact ha
  obtain ⟨r, hr, hrl⟩ := rowsAt_get m2.2 hlen
  refine tail_any (Heap.IsList.typeIs (s := { s with heap := h2, toks := t2 }) m2.1.isList) slot_list_getitem.lookup (wpAny_getItem_list (s := { s with heap := h2, toks := t2 }) m2.1.isList (x := .ref r) (by omega) (by omega) (by simpa using hr) ?_) (hs1 _ _)
  refine hxb.then (s := { s with heap := h2, toks := t2 }) ok2 er2 fun vb h3 t3 rb k3 ok3 er3 => ?_
  obtain ⟨u', rfl⟩ := rb.int_inv
  have m3 := matH_inv.more m2 (fun b hb => .inl hb) k3 hYO
  have hb3 := hb2.kp k3
  have hrl3 := k3.plain hrl
  obtain ⟨nn, hro⟩ := id hrl3
  have hrow := hM.row ha
  refine ki_setAt (s := { s with heap := h3, toks := t3 }) hro (by omega) (by omega) (by rw [List.size_toArray, List.length_map]; omega) ?_
  have hsb : Heap.SameBut r h3 (h3.update r (Obj.mapSeq (·.setIfInBounds ((b : Int)).toNat (.bool v')))) := Heap.SameBut.update ..
  have hl' : (h3.update r (Obj.mapSeq (·.setIfInBounds ((b : Int)).toNat (.bool v')))).PlainList r ((((M.getD a []).set b v').map Value.bool).toArray) := by
    have e := Heap.get?_update_self (Obj.mapSeq (·.setIfInBounds ((b : Int)).toNat (Value.bool v'))) hro rfl
    have e2 : (((M.getD a []).map Value.bool).toArray).setIfInBounds ((b : Int)).toNat (Value.bool v') = (((M.getD a []).set b v').map Value.bool).toArray := by
      apply Array.ext'
      simp [List.map_set]
    rw [← e2]
    exact ⟨_, e⟩
  have hrL : r ∈ L :: rs := .tail _ (List.mem_of_getElem? hr)
  have kx : KpX [r] h₀.objs.size h3 (h3.update r (Obj.mapSeq (·.setIfInBounds ((b : Int)).toNat (.bool v')))) := .of_sameBut hsb (.head _) (list_kind hrl3.isList hl'.isList)
  have hoff := plain_off er3 hrl3
  have hX : ∀ c ∈ [r], c ∈ O := fun c hc => by rw [List.mem_singleton.mp hc]; exact hYO r hrL
  obtain ⟨hLn, hrn⟩ := List.nodup_cons.mp hnd
  refine h _ t3 (er3.kpx kx hX hoff) ⟨kx.plain (fun q => hLn (by rw [List.mem_singleton.mp q]; exact List.mem_of_getElem? hr)) m3.1, ?_⟩ (hb3.kpx hoff kx) (((k1.trans k2).trans k3).x.trans (kx.mono fun c hc => .inl (by rw [List.mem_singleton.mp hc]; exact hrL)))
  exact rowsAt_set m3.2 hrn hr hl' fun c hc v hv => kx.plain (fun q => hc (List.mem_singleton.mp q)) hv

theorem range_at {n : Nat} {pre x post} (e : rangeD 0 1 ((n : Int)).toNat = pre ++ x :: post) : x = .int ((pre.length : Nat) : Int) ∧ pre.length < n := by
  obtain ⟨_, h2, h3⟩ := rangeD_split e
  refine ⟨?_, by simpa using h3⟩
  rw [h2]; congr 1; omega
theorem turn_succ {f : List (List Bool) → Nat → List (List Bool)} (m : Nat) (M : List (List Bool)) : (List.range (m + 1)).foldl f M = f ((List.range m).foldl f M) m := by
  rw [List.range_succ, List.foldl_append]; rfl

theorem rows_rdO {O : List Addr} {h : Heap} {rs : List Addr} {M : List (List Bool)} (r : RowsAt h rs M) (hO : ∀ a ∈ rs, a ∉ O) : RdAll O h (rs.map Value.ref) (M.map LB) := by
  induction r with
  | nil => exact .nil
  | cons a r ih =>
    refine .cons (rd_list a (hO _ (.head _)) ?_) (ih fun b hb => hO b (.tail _ hb))
    simpa using rd_bools _

theorem c_leads (B : Base h₀) {f} (hf : DefAt h₀ f (nameAt 10) (parsAt 10) (bodyAt 10) (scopeAt 10)) (n : Nat) (steps : List (Int × Int)) (hn : n ≤ 4) (hst : steps.length ≤ 6) :
    CallE w h₀ (k + 1) (.ref f) [.int n, .list (steps.map PD)] (.list ((leadsF n steps).map LB)) := by
  intro O A s vs Q E ok low r h
  refine call_body (names := argsAt 10) B.lim hf (fun pm cd doc => by refine len2_all (p := fun vs => bindArgs _ ⟨vs, []⟩ = pure ((argsAt 10).zip vs)) (fun _ _ => rfl) r.length) (by decide +kernel) (by decide +kernel) (by decide +kernel) (by decide +kernel) ok low r fun X env A' s₁ hs er hw hdead kp ok' _ => ?_
  obtain ⟨h₁, t₁, rfl⟩ := hs
  have hX0 : ∀ a ∈ X, h₀.get? a = none := fun a ha => ok.dead (hdead a ha)
  have hXO : ∀ a ∈ X, a ∈ X ++ O := fun a ha => List.mem_append_left _ ha
  have rng : ∀ {sc δ} {e : Expr} {p pos : Pos}, sc.names.lookup ("range" : Str) = some .globalImplicit → EvE w h₀ k sc δ e (.int n) → (∀ env, starEach [e] env = (false, eval e env) :: starEach [] env) → ItE w h₀ k sc δ TName (.Call (.Name "range" p) [e] [] pos) (rangeD 0 1 ((n : Int)).toNat) :=
    fun h1 h2 h3 => it_range1 h1 B.range h2 (small_one (by omega) (by omega) (by omega) (by omega)) h3
  refine wpAny_execs_cons (rows_new (x := "leads") (T := TName) (xs := rangeD 0 1 ((n : Int)).toNat) (f := fun d => match d with | .int a => (List.range n).map fun (b : Nat) => steps.contains (a, (b : Int)) | _ => []) (by decide +kernel) (by rw [szl]; simp [rangeD]; omega) (rng (by decide +kernel) (ev_name rfl) (fun _ => rfl)) ⟨_, _, rfl⟩ (fun d hd => ?_) ok' er (hw _ (by decide +kernel)) hXO rfl fun L rs h2 t2 hLd er2 m2 k2 => ?_)
  · obtain ⟨a, ha, rfl⟩ := List.mem_map.mp hd
    refine ⟨_, .name, fr_compB (bs := (List.range n).map fun (b : Nat) => steps.contains ((0 : Int) + a * 1, (b : Int))) ?_⟩
    rw [List.map_map]
    refine comp_mapT (T := TName) (fun i : Nat => .int ((0 : Int) + i * 1)) rInt_inj (List.range n) _ (by decide +kernel) (by rw [szl]; simp; omega) ?_ ⟨_, _, rfl⟩ fun b hb => ⟨_, .name, ?_⟩
    · have e : (List.range n).map (fun i : Nat => PyData.int ((0 : Int) + i * 1)) = rangeD 0 1 ((n : Int)).toNat := by simp [rangeD]
      rw [e]
      exact rng (by decide +kernel) (ev_name rfl) (fun _ => rfl)
    · have e : ((b : Nat) : Int) = 0 + (b : Int) * 1 := by omega
      have := cmp_inP (w := w) (h₀ := h₀) (k := k) ((0 : Int) + a * 1, (0 : Int) + b * 1) steps
      simp only [Function.comp]
      rw [show steps.contains ((0 : Int) + a * 1, ((b : Nat) : Int)) = steps.contains ((0 : Int) + a * 1, (0 : Int) + b * 1) by rw [← e]]
      exact ev_cmp (dl := PD ((0 : Int) + a * 1, (0 : Int) + b * 1)) (ev_tuple (ds := [.int ((0 : Int) + a * 1), .int ((0 : Int) + b * 1)]) (evs_cons (ev_name rfl) (evs_cons (ev_name rfl) evs_nil)) (by rw [szl]; simp)) (ev_name rfl) this
  have e0 : ((rangeD 0 1 ((n : Int)).toNat).map fun d => match d with | .int a => (List.range n).map fun (b : Nat) => steps.contains (a, (b : Int)) | _ => []) = leads0 n steps := by
    simp [rangeD, leads0]
  rw [e0] at m2
  have hY0 : ∀ a ∈ L :: rs, h₀.get? a = none := fun a ha => ok'.dead (hLd a ha)
  have hXY : ∀ a ∈ X, a ∉ L :: rs := fun a ha q => by obtain ⟨o, e⟩ := er.low a (hXO a ha); rw [hLd a q] at e; cases e
  have ok2 := ok'.kpx k2 hX0
  have hsq := sq0 n steps
  refine wpAny_execs_cons (for_inv (s := { s with heap := h2, toks := t2 }) (rng (by decide +kernel) (ev_name rfl) (fun _ => rfl)) ⟨_, _, rfl⟩ (Y := L :: rs) (fun _ => argD (argsAt 10) [.int n, .list (steps.map PD)]) (fun pre => MatH L rs (turnsC n pre.length (leads0 n steps))) [("leads", .ref L)]
    ok2 er2 (Le.refl _) (fun _ => matH_inv) ⟨m2.lst, m2.rows⟩ (fun p hp => by rw [List.mem_singleton.mp hp]; exact m2.bound) m2.mem hY0 hw (fun b hb => List.mem_append_right _ (hXO b hb)) hX0 hXY (fun y hy => by rw [List.mem_singleton.mp hy]; exact ⟨by decide +kernel, nb1 (by decide +kernel)⟩) (fun pre y post e => ?_) fun h3 t3 er3 i3 b3 ok3 k3 => ?_)
  · obtain ⟨rfl, hc⟩ := range_at e
    have hsqc := hsq.c pre.length
    rw [show turnsC n (pre ++ [PyData.int ((pre.length : Nat) : Int)]).length (leads0 n steps) = turnsA n pre.length n (turnsC n pre.length (leads0 n steps)) by rw [List.length_append]; exact turn_succ _ _]
    generalize pre.length = c at hc hsqc
    generalize turnsC n c (leads0 n steps) = Mc at hsqc
    refine ⟨_, .name, fun O' s' Q' E' ok4 er4 i4 b4 hXO4 hYO4 _ _ _ _ hq => ?_⟩
    refine wpAny_execs_cons (for_inv (s := s') (rng (by decide +kernel) (ev_name rfl) (fun _ => rfl)) ⟨_, _, rfl⟩ (Y := L :: rs) (fun _ => upd (argD (argsAt 10) [.int n, .list (steps.map PD)]) "c" (.int c)) (fun pre => MatH L rs (turnsA n c pre.length Mc)) [("leads", .ref L)]
      ok4 er4 (Le.refl _) (fun _ => matH_inv) i4 b4 hYO4 hY0 hw hXO4 hX0 hXY (fun y hy => by rw [List.mem_singleton.mp hy]; exact ⟨by decide +kernel, nb1 (by decide +kernel)⟩) (fun pre y post e => ?_) fun h5 t5 er5 i5 b5 ok5 k5 => ?_)
    · obtain ⟨rfl, ha⟩ := range_at e
      have hsqa := hsqc.a c (m := pre.length) (by omega)
      rw [show turnsA n c (pre ++ [PyData.int ((pre.length : Nat) : Int)]).length Mc = turnsB c pre.length n (turnsA n c pre.length Mc) by rw [List.length_append]; exact turn_succ _ _]
      generalize pre.length = a at ha hsqa
      generalize turnsA n c a Mc = Ma at hsqa
      refine ⟨_, .name, fun O5 s5 Q5 E5 ok5 er5 i5 b5 hXO5 hYO5 _ _ _ _ hq5 => ?_⟩
      refine wpAny_execs_cons (for_inv (s := s5) (rng (by decide +kernel) (ev_name rfl) (fun _ => rfl)) ⟨_, _, rfl⟩ (Y := L :: rs) (fun _ => upd (upd (argD (argsAt 10) [.int n, .list (steps.map PD)]) "c" (.int c)) "a" (.int a)) (fun pre => MatH L rs (turnsB c a pre.length Ma)) [("leads", .ref L)]
        ok5 er5 (Le.refl _) (fun _ => matH_inv) i5 b5 hYO5 hY0 hw hXO5 hX0 hXY (fun y hy => by rw [List.mem_singleton.mp hy]; exact ⟨by decide +kernel, nb1 (by decide +kernel)⟩) (fun pre y post e => ?_) fun h7 t7 er7 i7 b7 ok7 k7 => ?_)
      · obtain ⟨rfl, hb⟩ := range_at e
        have hsqb := hsqa.b ha c pre.length
        rw [show turnsB c a (pre ++ [PyData.int ((pre.length : Nat) : Int)]).length Ma = leadsTurn c a pre.length (turnsB c a pre.length Ma) by rw [List.length_append]; exact turn_succ _ _]
        generalize pre.length = b at hb hsqb
        generalize turnsB c a b Ma = Mb at hsqb
        refine ⟨_, .name, fun O6 s6 Q6 E6 ok6 er6 i6 b6 hXO6 hYO6 _ _ _ _ hq6 => ?_⟩
        refine wpAny_execs_cons (mat_turn (v' := at2 Mb a b || (at2 Mb a c && at2 Mb c b)) hsqb (by omega) ha hb ok6 er6 i6 (b6 _ (.head _)) m2.nd hYO6 ?_ (ev_name rfl) (ev_name rfl) fun h8 t8 er8 m8 b8 k8 => wpAny_execs_nil (hq6 h8 t8 (er8.forget ?_) m8 (fun p hp => by rw [List.mem_singleton.mp hp]; exact b8) (k8.mono fun q hq => .inl (List.mem_append_left _ hq))))
        · have e1 : PyData.bool (at2 Mb a b || (at2 Mb a c && at2 Mb c b)) = (if at2 Mb a b then .bool true else (if at2 Mb a c then .bool (at2 Mb c b) else .bool false)) := by
            cases at2 Mb a b <;> cases at2 Mb a c <;> rfl
          rw [e1]
          refine ev_or (ev_item2 hsqb (by omega) ha hb (ev_name rfl) (ev_name rfl) (ev_name rfl)) fun _ => ev_and (ev_item2 hsqb (by omega) ha hc (ev_name rfl) (ev_name rfl) (ev_name rfl)) fun _ => ev_item2 hsqb (by omega) hc hb (ev_name rfl) (ev_name rfl) (ev_name rfl)
        · refine le_of ["c", "a", "b"] ?_ ?_ <;> walk_at "le"
      · have e2 : turnsB c a (rangeD 0 1 ((n : Int)).toNat).length Ma = turnsB c a n Ma := by simp [rangeD]
        rw [e2] at i7
        refine wpAny_execs_nil (hq5 h7 t7 (er7.forget ?_) i7 b7 k7)
        refine le_of ["c", "a"] ?_ ?_ <;> walk_at "le"
    · have e2 : turnsA n c (rangeD 0 1 ((n : Int)).toNat).length Mc = turnsA n c n Mc := by simp [rangeD]
      rw [e2] at i5
      refine wpAny_execs_nil (hq h5 t5 (er5.forget ?_) i5 b5 k5)
      refine le_of ["c"] ?_ ?_ <;> walk_at "le"
  · have e2 : turnsC n (rangeD 0 1 ((n : Int)).toNat).length (leads0 n steps) = leadsF n steps := by simp [rangeD, leadsF]
    rw [e2] at i3
    refine wpAny_execs_cons (wpAny_Return_some (wpAny_Name (load_bound er3 (b3 _ (.head _)) ?_ (by decide)) (by decide)))
    have hLs : ∀ a ∈ L :: rs, s.heap.get? a = none := fun a ha => by
      cases e : s.heap.get? a with
      | none => rfl
      | some o => obtain ⟨o', e'⟩ := kp.there e; rw [hLd a ha] at e'; cases e'
    have hnO : ∀ a ∈ L :: rs, a ∉ O := fun a ha q => by obtain ⟨o, e⟩ := low a q; rw [hLs a ha] at e; cases e
    refine h _ h3 t3 (rd_list i3.1 (hnO L (.head _)) (by simpa using rows_rdO i3.2 fun a ha => hnO a (.tail _ ha))) ?_
    have q1 : KpX (L :: rs ++ X) h₀.objs.size s.heap h3 := (((kp.x (X := X)).trans k2).mono fun b hb => .inl (List.mem_append_right _ hb)).trans k3
    exact q1.kp fun b hb => (List.mem_append.mp hb).elim (hLs b) (hdead b)
end
end Mine
end
section
open PySem.Calls PySem.Spec PySem.SeqAt
namespace Mine
noncomputable def pairsF (n : Nat) : List (Int × Int) := (List.range n).flatMap fun b : Nat => (List.range b).map fun a : Nat => ((a : Int), (b : Int))
noncomputable def baseF (m : Nat) : List Int := [1, 0, 0, 4, 2, 3].take m
noncomputable def cellsF (ns : List Int) (m : Nat) : List Int := (baseF m).zipIdx.map fun p => p.1 + (pick ns (some (p.2 : Int)) none (some (m : Int))).sum
noncomputable def stepOf (p : (Int × Int) × Int) : List (Int × Int) := if p.2.fmod 4 = 1 then [p.1] else if p.2.fmod 4 = 2 then [(p.1.2, p.1.1)] else []
noncomputable def stepsF (n : Nat) (cells : List Int) : List (Int × Int) := ((pairsF n).zip cells).flatMap stepOf
noncomputable def namesF (n : Nat) (rot : Int) : List Int := (List.range n).map fun i : Nat => (rot + i).fmod n
noncomputable def toldF (names : List Int) (steps : List (Int × Int)) : List (Int × List Int) := names.map fun m => (m, (steps.filter fun p => p.2 == m).map (·.1))
noncomputable def freeB (n : Nat) (leads : List (List Bool)) (a : Nat) : Bool := !((List.range n).map fun c => at2 leads c c && (decide (c = a) || at2 leads c a)).any id
noncomputable def freeF (n : Nat) (leads : List (List Bool)) : List Int := ((List.range n).filter (freeB n leads)).map fun a : Nat => (a : Int)
noncomputable abbrev Run := Bool × List Int × Bool
noncomputable def mostF (runs : List Run) : Nat := (runs.map fun r => r.2.1.length).foldl Nat.max 0
noncomputable def ordStep (most : Nat) (os : List (List Int)) (r : Run) : List (List Int) := if decide (r.2.1.length = most) && !os.contains r.2.1 then os ++ [r.2.1] else os
noncomputable def ordersF (most : Nat) (runs : List Run) : List (List Int) := runs.foldl (ordStep most) []
noncomputable def sumW (tally : List Int) (most kk : Nat) : Int := ((List.range most).map fun f : Nat => tally.getD f 0 * chooseF ((kk : Int) + most - 1 - f) most).sum
noncomputable def sumS (tally : List Int) (most kk : Nat) : Int := ((List.range most).map fun f : Nat => tally.getD f 0 * chooseF ((kk : Int) + f) most).sum
noncomputable def toldD (told : List (Int × List Int)) : PyData := .list (told.map fun p => .tuple [.int p.1, LI p.2])
noncomputable def RD (r : Run) : PyData := .tuple [.bool r.1, LI r.2.1, .bool r.2.2]

theorem pick_map {α β : Type} (f : α → β) (xs : List α) (lo hi st : Option Int) : pick (xs.map f) lo hi st = (pick xs lo hi st).map f := by
  unfold pick
  rw [List.length_map]
  generalize sliceRange _ _ _ = is
  induction is with
  | nil => rfl
  | cons i is ih =>
    simp only [List.filterMap_cons, List.getElem?_map]
    cases xs[i]? with
    | none => simpa using ih
    | some x =>
      simp only [Option.map_some, List.map_cons]
      congr 1
      simpa using ih

structure Good (n : Nat) (steps : List (Int × Int)) (runs : List Run) : Prop where
  close : ∀ p ∈ steps, p.2 ∈ freeF n (leadsF n steps) → p.1 ∈ freeF n (leadsF n steps)
  fair : ∀ r ∈ runs, r.2.2 = true ∧ r.1 = decide ((freeF n (leadsF n steps)).length < n)
  most : mostF runs ≤ 4
  short : ∀ r ∈ runs, r.2.1.length ≤ 4
  some : ∃ r ∈ runs, r.2.1.length = mostF runs
  ne : ordersF (mostF runs) runs ≠ []
  perm : ∀ o ∈ ordersF (mostF runs) runs, (freeF n (leadsF n steps)).Perm o
  lead : ∀ a b : Nat, (a : Int) ∈ freeF n (leadsF n steps) → (b : Int) ∈ freeF n (leadsF n steps) → a ≠ b → at2 (leadsF n steps) a b = ((ordersF (mostF runs) runs).map fun o => decide ((ix o a : Int) < ix o b)).all id
  heights : ∀ kk, 1 ≤ kk → kk ≤ min (mostF runs) 3 → ((heightsF (freeF n (leadsF n steps)) steps kk).1 : Int) = sumW (talF ((ordersF (mostF runs) runs).headD []) (ordersF (mostF runs) runs)) (mostF runs) kk ∧
    ((heightsF (freeF n (leadsF n steps)) steps kk).2 : Int) = sumS (talF ((ordersF (mostF runs) runs).headD []) (ordersF (mostF runs) runs)) (mostF runs) kk

section
variable {w : World} {h₀ : Heap} {k : Nat}

theorem eqv_ints : ∀ (a b : List Int), PyData.eqvAll (a.map .int) (b.map .int) = (a == b)
  | [], [] => rfl
  | [], _ :: _ => rfl
  | _ :: _, [] => rfl
  | x :: xs, y :: ys => by
    show (PyData.eqv (.int x) (.int y) && PyData.eqvAll (xs.map .int) (ys.map .int)) = _
    rw [eqv_ints xs ys]; rfl
theorem any_eqvL (os : List (List Int)) (o : List Int) : (os.map LI).any (fun y => PyData.eqv y (LI o)) = os.contains o := by
  induction os with
  | nil => rfl
  | cons x xs ih =>
    rw [List.map_cons, List.any_cons, ih, List.contains_cons]
    congr 1
    show PyData.eqvAll (x.map .int) (o.map .int) = (o == x)
    rw [eqv_ints]; exact Bool.beq_comm
theorem ints_layB (o : List Int) : PyData.canLay0 (LI o) = true := by
  show PyData.canLayAll0 (o.map .int) = true
  exact ints_lay o
theorem lists_lay (os : List (List Int)) : PyData.canLayAll0 (os.map LI) = true := by
  induction os with
  | nil => rfl
  | cons x xs ih =>
    show (PyData.canLay0 (LI x) && PyData.canLayAll0 (xs.map LI)) = true
    rw [ih, ints_layB]; rfl
theorem depth_ints : ∀ o : List Int, PyData.depthAll (o.map .int) = 0
  | [] => rfl
  | x :: xs => by
    show max 0 (PyData.depthAll (xs.map .int)) = 0
    rw [depth_ints xs]; rfl
theorem shaped_LI (o : List Int) : shaped (LI o) = true := by
  unfold shaped
  rw [ints_layB, Bool.true_and]
  apply decide_eq_true
  show PyData.depthAll (o.map .int) + 1 ≤ 64
  rw [depth_ints]; omega
theorem cmp_notInL (o : List Int) (os : List (List Int)) : BinE w h₀ k (compareOp .NotIn) (LI o) (.list (os.map LI)) (.bool (!os.contains o)) := by
  rw [← any_eqvL]; exact cmp_notIn _ _ (shaped_LI o) (lists_lay os)
theorem cmp_eqL (a b : List Int) : BinE w h₀ k (compareOp .Eq) (LI a) (LI b) (.bool (a == b)) := by
  rw [← eqv_ints]; exact cmp_eq _ _ (shaped_LI a) (shaped_LI b)
theorem cmp_eqB (a b : Bool) : BinE w h₀ k (compareOp .Eq) (.bool a) (.bool b) (.bool (a == b)) := cmp_eq _ _ rfl rfl
theorem cmp_neB (a b : Bool) : BinE w h₀ k (compareOp .NotEq) (.bool a) (.bool b) (.bool (!(a == b))) := cmp_ne _ _ rfl rfl
theorem cmp_neP (a b c d : Int) : BinE w h₀ k (compareOp .NotEq) (.tuple [.int a, .int b]) (.tuple [.int c, .int d]) (.bool (!((a == c) && ((b == d) && true)))) := cmp_ne _ _ rfl rfl

theorem RD_inj {a b : Run} (h : RD a = RD b) : a = b := by
  simp only [RD, PyData.tuple.injEq, List.cons.injEq, PyData.bool.injEq, and_true] at h
  obtain ⟨h1, h2, h3⟩ := h
  exact Prod.ext h1 (Prod.ext (LI_inj h2) h3)
noncomputable def TD1 (p : Int × List Int) : PyData := .tuple [.int p.1, LI p.2]
theorem mostF_mem {runs : List Run} : ∀ r ∈ runs, r.2.1.length ≤ mostF runs := by
  have : ∀ (l : List Nat) (b : Nat), b ≤ l.foldl Nat.max b ∧ ∀ x ∈ l, x ≤ l.foldl Nat.max b := by
    intro l
    induction l with
    | nil => intro b; exact ⟨Nat.le_refl _, fun _ h => by cases h⟩
    | cons x xs ih =>
      intro b
      obtain ⟨h1, h2⟩ := ih (Nat.max b x)
      refine ⟨Nat.le_trans (Nat.le_max_left b x) h1, fun y hy => ?_⟩
      rcases List.mem_cons.mp hy with rfl | hy
      · exact Nat.le_trans (Nat.le_max_right b y) h1
      · exact h2 y hy
  intro r hr
  exact (this _ 0).2 _ (List.mem_map_of_mem hr)
theorem ordersF_mem {most : Nat} : ∀ (runs : List Run) (os : List (List Int)), (∀ o ∈ os, o.length = most) → (∀ o ∈ runs.foldl (ordStep most) os, o.length = most) ∧ (runs.foldl (ordStep most) os).length ≤ os.length + runs.length
  | [], os, h => ⟨h, Nat.le_add_right _ _⟩
  | r :: rs, os, h => by
    have key : (∀ o ∈ ordStep most os r, o.length = most) ∧ (ordStep most os r).length ≤ os.length + 1 := by
      unfold ordStep
      split
      · rename_i q
        simp only [Bool.and_eq_true, decide_eq_true_eq] at q
        refine ⟨fun o ho => ?_, by simp⟩
        rcases List.mem_append.mp ho with z | z
        · exact h o z
        · rw [List.mem_singleton.mp z]; exact q.1
      · exact ⟨h, Nat.le_succ _⟩
    obtain ⟨h1, h2⟩ := ordersF_mem rs (ordStep most os r) key.1
    exact ⟨h1, by have := key.2; simp only [List.foldl_cons, List.length_cons]; omega⟩

noncomputable def wishesL : Nat → List (List Int)
  | 0 => [[]]
  | n + 1 => (wishesL n).flatMap fun r => (List.range (r.length + 1)).map fun i => r.take i ++ [(n : Int)] ++ r.drop i
theorem wishD_eq : ∀ n, wishD n = (wishesL n).map LI
  | 0 => rfl
  | n + 1 => by
    rw [wishD, wishesL, wishD_eq n, List.map_flatMap, List.flatMap_map]
    congr 1
    funext r
    show (List.range ((r.map PyData.int).length + 1)).map _ = _
    rw [List.map_map, List.length_map]
    congr 1
    funext i
    simp [LI, List.map_take, List.map_drop]
end
end Mine
end
section
open PySem.Calls PySem.Spec PySem.SeqAt
namespace Mine
section
variable {w : World} {h₀ : Heap} {k : Nat}

noncomputable def lV : List Str := ["size", "pairs", "cells", "pair", "z", "names", "told", "leads", "free", "runs", "ring", "gone", "fair", "most", "order", "a", "b", "tally", "k", "weak", "strict"]
noncomputable def zE (p : (Int × Int) × Int) : PyData := .tuple [PD p.1, .int p.2]
theorem zip_enc (ps : List (Int × Int)) (cs : List Int) : zipD (ps.map PD) (cs.map .int) = (ps.zip cs).map zE := by
  unfold zipD
  rw [List.zip_map, List.map_map]; rfl
theorem enum_enc (cs : List Int) : enumD (cs.map .int) = cs.zipIdx.map fun p : Int × Nat => PyData.tuple [.int p.2, .int p.1] := by
  unfold enumD
  rw [List.zipIdx_map, List.map_map]; rfl
theorem enum_inj {a b : Int × Nat} (h : PyData.tuple [.int (a.2 : Int), .int a.1] = PyData.tuple [.int (b.2 : Int), .int b.1]) : a = b := by
  simp only [PyData.tuple.injEq, List.cons.injEq, PyData.int.injEq, and_true] at h
  exact Prod.ext h.2 (by omega)
noncomputable def D1 (ns : List Int) (n : Nat) : Str → Option PyData := upd (upd (upd (argD (argsAt 14) [.list (ns.map .int)]) "size" (.int n)) "pairs" (.list ((pairsF n).map PD))) "cells" (.list ((cellsF ns (pairsF n).length).map .int))
noncomputable def D2 (ns : List Int) (n : Nat) (steps : List (Int × Int)) : Str → Option PyData := upd (D1 ns n) "steps" (.list (steps.map PD))

theorem law_first (B : Base h₀) (ns : List Int) (hns : ns.length ≤ 63) (n : Nat) (hn : n = if ns.length < 2 then 3 else 4) {O X : List Addr} {env : Env} {A : Around} {s : Shared} {Q : Flow → Shared → Prop} {E : Value → Shared → Prop}
    (ok : Ok h₀ k A s.heap) (er : EnvR O s.heap env (scopeAt 14) (argD (argsAt 14) [.list (ns.map .int)])) (hw : Wr X env (scopeAt 14)) (hXO : ∀ a ∈ X, a ∈ O) (hX0 : ∀ a ∈ X, h₀.get? a = none)
    (h : ∀ h1 t1, EnvR O h1 env (scopeAt 14) (D1 ns n) → Ok h₀ k A h1 → KpX X h₀.objs.size s.heap h1 → wpAny (model P w) A (execs ((bodyAt 14).drop 3) env) Q E { s with heap := h1, toks := t1 }) :
    wpAny (model P w) A (execs (bodyAt 14) env) Q E s := by
  have hn34 : n = 3 ∨ n = 4 := by rw [hn]; split <;> simp
  have hpl : (pairsF n).length ≤ 6 ∧ 0 < (pairsF n).length := by rcases hn34 with rfl | rfl <;> decide
  refine wpAny_execs_cons (StE.run (V := lV) (st_assign (x := "size") (d := .int n) (ev_ifexp (c := decide (((ns.map PyData.int).length : Int) < 2)) (tr_cmp (ev_len B (by decide +kernel) (ev_name rfl) (by rw [szl]; simp; omega)) ev_int (cmp_lt _ _)) (fun hc => ?_) (fun hc => ?_)) (by decide +kernel) (by decide +kernel)) ok er hw hXO hX0 fun h1 t1 er1 ok1 k1 _ => ?_)
  · have : ns.length < 2 := by have := of_decide_eq_true hc; simp at this; omega
    rw [if_pos this] at hn
    rw [hn]; exact ev_int
  · have : ¬ ns.length < 2 := by have := of_decide_eq_false hc; simp at this; omega
    rw [if_neg this] at hn
    rw [hn]; exact ev_int
  refine wpAny_execs_cons (StE.run (s := { s with heap := h1, toks := t1 }) (V := lV) (st_assign_comp (x := "pairs") (r := (pairsF n).map PD) ?_ (by decide +kernel) (by decide +kernel)) ok1 er1 hw hXO hX0 fun h2 t2 er2 ok2 k2 _ => ?_)
  · rw [pairsF, List.map_flatMap]
    refine comp_genT (T := TName) (fun i : Nat => .int ((0 : Int) + i * 1)) rInt_inj (List.range n) _ (by decide +kernel) (by decide +kernel) ?_ ?_ ⟨_, _, rfl⟩ fun b hb => ⟨_, true, .name, rfl, (fun e => by cases e), fun _ => ?_⟩
    · rw [← List.map_flatMap, List.length_map, szl]
      have := hpl.1
      unfold pairsF at this
      omega
    · have e : (List.range n).map (fun i : Nat => PyData.int ((0 : Int) + i * 1)) = rangeD 0 1 ((n : Int)).toNat := by simp [rangeD]
      rw [e]
      exact it_range1 (by decide +kernel) B.range (ev_name rfl) (small_one (by omega) (by omega) (by omega) (by omega))
    · have hbn : b < n := List.mem_range.mp hb
      rw [List.map_map]
      refine cmpB_mapT (T := TName) (fun i : Nat => .int ((0 : Int) + i * 1)) rInt_inj (List.range b) _ ?_ ⟨_, _, rfl⟩ (fun x hx => ?_) fun a ha => ⟨_, .name, ?_⟩
      · have e : (List.range b).map (fun i : Nat => PyData.int ((0 : Int) + i * 1)) = rangeD 0 1 ((0 : Int) + b * 1).toNat := by rw [rangeD]; congr 2; omega
        rw [e]
        exact it_range1 (by decide +kernel) B.range (ev_name rfl) (small_one (by omega) (by omega) (by omega) (by omega))
      · rw [List.mem_singleton.mp hx]
        exact ⟨by decide +kernel, rfl⟩
      · have e : PD ((a : Int), (b : Int)) = .tuple [.int ((0 : Int) + a * 1), .int ((0 : Int) + b * 1)] := by
          simp only [PD]; congr 2 <;> simp
        show EvE _ _ _ _ _ _ (PD ((a : Int), (b : Int)))
        rw [e]
        exact ev_tuple (evs_cons (ev_name rfl) (evs_cons (ev_name rfl) evs_nil)) (by rw [szl]; simp)
  refine wpAny_execs_cons (StE.run (s := { s with heap := h2, toks := t2 }) (V := lV) (st_assign_comp (x := "cells") (r := (cellsF ns (pairsF n).length).map .int) ?_ (by decide +kernel) (by decide +kernel)) ok2 er2 hw hXO hX0 fun h3 t3 er3 ok3 k3 _ => ?_)
  · generalize (pairsF n) = pairs at hpl er2
    rw [cellsF, List.map_map]
    have hb : (baseF pairs.length).length ≤ 6 := by rw [baseF, List.length_take]; exact Nat.min_le_right _ _
    refine comp_mapT (T := TTup) (fun p : Int × Nat => PyData.tuple [.int p.2, .int p.1]) enum_inj ((baseF pairs.length).zipIdx) _ (by decide +kernel) (by rw [szl]; simp; omega) ?_ ⟨_, _, _, rfl⟩ fun p hp => ⟨_, .tup2, ?_⟩
    · rw [← enum_enc]
      have e : (baseF pairs.length).map PyData.int = pick [PyData.int 1, .int 0, .int 0, .int 4, .int 2, .int 3] none (some ((pairs.length : Nat) : Int)) none := by
        rw [pick_take _ (by simp; omega), baseF, List.map_take]; rfl
      rw [e]
      refine it_enum (by decide +kernel) B.enum (ev_slice (ev_list (by walk_at "evs") (by rw [szl]; simp)) opt_none (opt_some (ev_cast (by rw [List.length_map]) (ev_len B (xs := pairs.map PD) (by decide +kernel) (ev_name rfl) (by rw [szl]; simp; omega)))) opt_none (by simp) (by rw [szl]; simp))
    · refine ev_bin (ev_name rfl) (ev_sum B (by decide +kernel) ?_) (bin_add _ _)
      rw [← pick_map]
      refine ev_slice (ev_name rfl) (opt_some (ev_name rfl)) opt_none (opt_some (ev_cast (by rw [List.length_map]) (ev_len B (xs := pairs.map PD) (by decide +kernel) (ev_name rfl) (by rw [szl]; simp; omega)))) (fun e => by have := hpl.2; simp only [Option.some.injEq] at e; omega) (by rw [szl, List.length_map]; omega)
  exact h h3 t3 er3 ok3 ((k1.trans k2).trans k3)

theorem law_steps (B : Base h₀) (ns : List Int) (hns : ns.length ≤ 63) (n : Nat) (hn : n = 3 ∨ n = 4) {O X : List Addr} {env : Env} {A : Around} {s : Shared} {Q : Flow → Shared → Prop} {E : Value → Shared → Prop}
    (ok : Ok h₀ k A s.heap) (er : EnvR O s.heap env (scopeAt 14) (D1 ns n)) (hw : Wr X env (scopeAt 14)) (hXO : ∀ a ∈ X, a ∈ O) (hX0 : ∀ a ∈ X, h₀.get? a = none)
    (h : ∀ h1 t1, EnvR O h1 env (scopeAt 14) (D2 ns n (stepsF n (cellsF ns (pairsF n).length))) → Ok h₀ k A h1 → KpX X h₀.objs.size s.heap h1 → wpAny (model P w) A (execs ((bodyAt 14).drop 5) env) Q E { s with heap := h1, toks := t1 }) :
    wpAny (model P w) A (execs ((bodyAt 14).drop 3) env) Q E s := by
  have hpl : (pairsF n).length ≤ 6 ∧ 0 < (pairsF n).length := by rcases hn with rfl | rfl <;> decide
  refine wpAny_execs_cons (own_new (x := "steps") (ds := []) fr_nil ok er (hw _ (by decide +kernel)) hXO hX0 rfl fun a h1 t1 ha haX er1 own1 k1 _ => ?_)
  have ok1 := ok.kpx k1 hX0
  have ha0 : h₀.get? a = none := ok.dead ha
  have hfl : ∀ l : List ((Int × Int) × Int), (l.flatMap stepOf).length ≤ l.length := by
    intro l
    induction l with
    | nil => exact Nat.le_refl _
    | cons x xs ih =>
      rw [List.flatMap_cons, List.length_append, List.length_cons]
      have : (stepOf x).length ≤ 1 := by unfold stepOf; split <;> (try split) <;> simp
      omega
  have hzl : ((pairsF n).zip (cellsF ns (pairsF n).length)).length ≤ 6 := by rw [List.length_zip]; omega
  refine wpAny_execs_cons (for_own (s := { s with heap := h1, toks := t1 }) (it_zip (ds := (pairsF n).map PD) (es := (cellsF ns (pairsF n).length).map .int) (by decide +kernel) B.zip (ev_name rfl) (ev_name rfl)) ⟨_, _, _, rfl⟩
    (fun pre => ((((pairsF n).zip (cellsF ns (pairsF n).length)).take pre.length).flatMap stepOf).map PD) ok1 er1 own1 hw (fun b hb => .tail _ (hXO b hb)) hX0 haX ha0 (fun y hy => ?_) (fun pre y post e => ?_) fun h4 t4 er4 own4 ok4 k4 => ?_)
  · have hy : y = "pair" ∨ y = "z" := by simpa [tnames_name, tnames_two, tnames_three] using hy
    rcases hy with rfl | rfl <;> exact ⟨by decide +kernel, by decide +kernel, rfl⟩
  · rw [zip_enc] at e
    have hlt : pre.length < ((pairsF n).zip (cellsF ns (pairsF n).length)).length := by
      have := congrArg List.length e
      simp at this; simp; omega
    have hy : y = zE (((pairsF n).zip (cellsF ns (pairsF n).length))[pre.length]) := by
      have h1 : (((pairsF n).zip (cellsF ns (pairsF n).length)).map zE)[pre.length]? = some y := by rw [e]; simp
      rw [List.getElem?_map, List.getElem?_eq_getElem hlt] at h1
      simpa using h1.symm
    have htake : ((pairsF n).zip (cellsF ns (pairsF n).length)).take (pre ++ [y]).length = ((pairsF n).zip (cellsF ns (pairsF n).length)).take pre.length ++ [((pairsF n).zip (cellsF ns (pairsF n).length))[pre.length]] := by
      rw [List.length_append, List.length_singleton, List.take_add_one, List.getElem?_eq_getElem hlt]; rfl
    have hsz : ((((pairsF n).zip (cellsF ns (pairsF n).length)).take pre.length).flatMap stepOf).length ≤ 6 := Nat.le_trans (hfl _) (by rw [List.length_take]; omega)
    generalize ((pairsF n).zip (cellsF ns (pairsF n).length))[pre.length] = p at hy htake
    subst hy
    obtain ⟨p, z⟩ := p
    refine ⟨_, .tup2, fun O' s' Q' E' ok5 er5 own5 hXO5 hq => ?_⟩
    have hle : ∀ {h7 : Heap}, EnvR O' h7 env (scopeAt 14) (upd (upd (D1 ns n) "pair" (PD p)) "z" (.int z)) → EnvR O' h7 env (scopeAt 14) (D1 ns n) := fun er7 => er7.forget (by
      refine le_of ["pair", "z"] ?_ ?_ <;> walk_at "le")
    rw [htake, List.flatMap_append, List.map_append] at hq
    refine wpAny_execs_cons (wpAny_If ((tr_cmp (ev_bin (ev_name rfl) ev_int (bin_mod _ _ (by decide))) ev_int (cmp_eq_int _ _)).then ok5 er5 fun h6 t6 k6 ok6 er6 => ?_))
    have own6 := own5.kp k6
    by_cases c1 : z.fmod 4 = 1
    · have e1 : (z.fmod 4 == 1) = true := by simpa using c1
      rw [e1]
      refine wpAny_execs_cons (own_append (s := { s' with heap := h6, toks := t6 }) (d := PD p) (ev_name rfl) (by rw [List.length_map]; omega) ok6 er6 own6 fun h7 t7 er7 own7 k7 => wpAny_execs_nil (wpAny_execs_nil (hq h7 t7 (hle er7) ?_ (k6.x.trans (k7.mono fun b hb => .inl (by rw [List.mem_singleton.mp hb]; exact .head _))))))
      simpa [stepOf, c1] using own7
    · have e1 : (z.fmod 4 == 1) = false := by simpa using c1
      rw [e1]
      refine wpAny_execs_cons (wpAny_If ((tr_cmp (ev_bin (ev_name rfl) ev_int (bin_mod _ _ (by decide))) ev_int (cmp_eq_int _ _)).then (s := { s' with heap := h6, toks := t6 }) ok6 er6 fun h7 t7 k7 ok7 er7 => ?_))
      have own7 := own6.kp k7
      by_cases c2 : z.fmod 4 = 2
      · have e2 : (z.fmod 4 == 2) = true := by simpa using c2
        rw [e2]
        refine wpAny_execs_cons (own_append (s := { s' with heap := h7, toks := t7 }) (d := .tuple [.int p.2, .int p.1]) (ev_tuple (evs_cons (ev_itemT (xs := [.int p.1, .int p.2]) (n := 1) (ev_name rfl) ev_int (by decide) (by decide) rfl) (evs_cons (ev_itemT (xs := [.int p.1, .int p.2]) (n := 0) (ev_name rfl) ev_int (by decide) (by decide) rfl) evs_nil)) (by rw [szl]; simp)) (by rw [List.length_map]; omega) ok7 er7 own7 fun h8 t8 er8 own8 k8 => wpAny_execs_nil (wpAny_execs_nil (wpAny_execs_nil (hq h8 t8 (hle er8) ?_ ((k6.x.trans k7.x).trans (k8.mono fun b hb => .inl (by rw [List.mem_singleton.mp hb]; exact .head _)))))))
        simpa [stepOf, c1, c2, PD] using own8
      · have e2 : (z.fmod 4 == 2) = false := by simpa using c2
        rw [e2]
        refine wpAny_execs_nil (wpAny_execs_nil (wpAny_execs_nil (hq h7 t7 (hle er7) ?_ (k6.x.trans k7.x))))
        simpa [stepOf, c1, c2] using own7
  · have e5 : ((pairsF n).zip (cellsF ns (pairsF n).length)).take (zipD ((pairsF n).map PD) ((cellsF ns (pairsF n).length).map .int)).length = (pairsF n).zip (cellsF ns (pairsF n).length) := by
      rw [zip_enc, List.length_map]; exact List.take_of_length_le (Nat.le_refl _)
    rw [e5] at own4
    have haO : ∀ b ∈ O, b ∈ a :: O ∧ b ≠ a := fun b hb => ⟨.tail _ hb, fun q => by obtain ⟨o, e⟩ := er.low b hb; rw [q, ha] at e; cases e⟩
    have q1 : KpX (a :: X) h₀.objs.size s.heap h4 := (k1.mono fun b hb => .inl (.tail _ hb)).trans k4
    exact h h4 t4 (own4.env er4 haO) ok4 (q1.mono fun b hb => (List.mem_cons.mp hb).elim (fun e => .inr (e ▸ ha)) .inl)
end
end Mine
end
section
open PySem.Calls PySem.Spec PySem.SeqAt
namespace Mine
section
variable {w : World} {h₀ : Heap} {k : Nat}

structure Funs (h₀ : Heap) : Prop where
  wishes : HasDef h₀ 8
  leads : HasDef h₀ 10
  choose : HasDef h₀ 11
  falls : HasDef h₀ 12
  heights : HasDef h₀ 13

noncomputable def rotF (ns : List Int) (n : Nat) : Int := (cellsF ns (pairsF n).length).sum
noncomputable def TOLD (ns : List Int) (n : Nat) (steps : List (Int × Int)) : List (Int × List Int) := toldF (namesF n (rotF ns n)) steps
noncomputable def D3 (ns : List Int) (n : Nat) (steps : List (Int × Int)) : Str → Option PyData := upd (upd (upd (D2 ns n steps) "names" (LI (namesF n (rotF ns n)))) "told" (toldD (TOLD ns n steps))) "leads" (.list ((leadsF n steps).map LB))
noncomputable def D4 (ns : List Int) (n : Nat) (steps : List (Int × Int)) (run : List Int → Run) : Str → Option PyData :=
  upd (upd (upd (D3 ns n steps) "free" (LI (freeF n (leadsF n steps)))) "runs" (.list (((wishesL n).map run).map RD))) "most" (.int (mostF ((wishesL n).map run)))

theorem namesF_len (n : Nat) (rot : Int) : (namesF n rot).length = n := by simp [namesF]
theorem gl_run {i : Nat} {f : Addr} (h : Gl h₀ (nameAt i) (.ref f)) {x : Str} (e : nameAt i = x) : Gl h₀ x (.ref f) := e ▸ h

theorem law_told (B : Base h₀) (Fs : Funs h₀) (ns : List Int) (hns : ns.length ≤ 63) (n : Nat) (hn : n = 3 ∨ n = 4) (steps : List (Int × Int)) (hst : steps.length ≤ 6) {O X : List Addr} {env : Env} {A : Around} {s : Shared} {Q : Flow → Shared → Prop} {E : Value → Shared → Prop}
    (ok : Ok h₀ (k + 1) A s.heap) (er : EnvR O s.heap env (scopeAt 14) (D2 ns n steps)) (hw : Wr X env (scopeAt 14)) (hXO : ∀ a ∈ X, a ∈ O) (hX0 : ∀ a ∈ X, h₀.get? a = none)
    (h : ∀ h1 t1, EnvR O h1 env (scopeAt 14) (D3 ns n steps) → Ok h₀ (k + 1) A h1 → KpX X h₀.objs.size s.heap h1 → wpAny (model P w) A (execs ((bodyAt 14).drop 8) env) Q E { s with heap := h1, toks := t1 }) :
    wpAny (model P w) A (execs ((bodyAt 14).drop 5) env) Q E s := by
  have hpl : (pairsF n).length ≤ 6 ∧ 0 < (pairsF n).length := by rcases hn with rfl | rfl <;> decide
  have hn4 : n ≤ 4 ∧ 0 < n := by omega
  refine wpAny_execs_cons (StE.run (V := lV) (st_assign_comp (x := "names") (r := (namesF n (rotF ns n)).map .int) ?_ (by decide +kernel) (by decide +kernel)) ok er hw hXO hX0 fun h1 t1 er1 ok1 k1 _ => ?_)
  · rw [namesF, List.map_map]
    refine comp_mapT (T := TName) (fun i : Nat => .int ((0 : Int) + i * 1)) rInt_inj (List.range n) _ (by decide +kernel) (by rw [szl]; simp; omega) ?_ ⟨_, _, rfl⟩ fun i hi => ⟨_, .name, ?_⟩
    · have e : (List.range n).map (fun i : Nat => PyData.int ((0 : Int) + i * 1)) = rangeD 0 1 ((n : Int)).toNat := by simp [rangeD]
      rw [e]
      exact it_range1 (by decide +kernel) B.range (ev_name rfl) (small_one (by omega) (by omega) (by omega) (by omega))
    · refine ev_cast (d := .int ((rotF ns n + ((0 : Int) + i * 1)).fmod n)) ?_ (ev_bin (ev_bin (ev_sum B (by decide +kernel) (ev_name rfl)) (ev_name rfl) (bin_add _ _)) (ev_name rfl) (bin_mod _ _ (by omega)))
      show PyData.int _ = PyData.int _
      congr 3; omega
  refine wpAny_execs_cons (StE.run (s := { s with heap := h1, toks := t1 }) (V := lV) (st_assign_comp (x := "told") (r := (TOLD ns n steps).map TD1) ?_ (by decide +kernel) (by decide +kernel)) ok1 er1 hw hXO hX0 fun h2 t2 er2 ok2 k2 _ => ?_)
  · rw [TOLD, toldF, List.map_map]
    refine comp_mapT PyData.int (fun h => by simpa using h) (namesF n (rotF ns n)) _ (by decide +kernel) (by rw [szl, namesF_len]; omega) (it_list (ev_name rfl)) (.inl ⟨_, _, rfl⟩) fun m hm => ⟨_, .name, ?_⟩
    refine ev_tuple (evs_cons (ev_name rfl) (evs_cons (ev_comp ?_) evs_nil)) (by rw [szl]; simp)
    rw [List.map_map]
    refine comp_filterT PD PD_inj steps (fun p => p.2 == m) (fun p => PyData.int p.1) (by decide +kernel) (by rw [szl]; omega) (it_list (ev_name rfl)) (.inr ⟨_, _, _, rfl⟩) fun p hp => ⟨_, .tup2, tests_one (tr_cmp (ev_name rfl) (ev_name rfl) (cmp_eq_int _ _)), fun _ => ev_name rfl⟩
  obtain ⟨f, g1, g2⟩ := Fs.leads
  refine wpAny_execs_cons (StE.run (s := { s with heap := h2, toks := t2 }) (V := lV) (st_assign (x := "leads") (d := .list ((leadsF n steps).map LB)) (ev_call (x := "_law_leads") (f := .ref f) (by decide +kernel) (gl_run g1 (by decide +kernel)) g2.callee (evs_cons (ev_name rfl) (evs_cons (ev_name rfl) evs_nil)) (c_leads B g2 n steps hn4.1 hst)) (by decide +kernel) (by decide +kernel)) ok2 er2 hw hXO hX0 fun h3 t3 er3 ok3 k3 _ => ?_)
  exact h h3 t3 er3 ok3 ((k1.trans k2).trans k3)

theorem law_runs (B : Base h₀) (Fs : Funs h₀) (ns : List Int) (n : Nat) (hn : n = 3 ∨ n = 4) (steps : List (Int × Int)) (run : List Int → Run)
    {fr : Addr} (gr : Gl h₀ "_law_run" (.ref fr)) (cr : CalleeOk h₀ (.ref fr)) (hrun : ∀ wish ∈ wishesL n, CallE w h₀ (k + 1) (.ref fr) [toldD (TOLD ns n steps), LI wish] (RD (run wish)))
    (hlen : ∀ wish ∈ wishesL n, (run wish).2.1.length ≤ 4) (hsome : ∃ r ∈ (wishesL n).map run, r.2.1.length = mostF ((wishesL n).map run)) {O X : List Addr} {env : Env} {A : Around} {s : Shared} {Q : Flow → Shared → Prop} {E : Value → Shared → Prop}
    (ok : Ok h₀ (k + 1) A s.heap) (er : EnvR O s.heap env (scopeAt 14) (D3 ns n steps)) (hw : Wr X env (scopeAt 14)) (hXO : ∀ a ∈ X, a ∈ O) (hX0 : ∀ a ∈ X, h₀.get? a = none)
    (h : ∀ h1 t1, EnvR O h1 env (scopeAt 14) (D4 ns n steps run) → Ok h₀ (k + 1) A h1 → KpX X h₀.objs.size s.heap h1 → wpAny (model P w) A (execs ((bodyAt 14).drop 11) env) Q E { s with heap := h1, toks := t1 }) :
    wpAny (model P w) A (execs ((bodyAt 14).drop 8) env) Q E s := by
  have hn4 : n ≤ 4 ∧ 0 < n := by omega
  have hwl : (wishesL n).length ≤ 24 := by rcases hn with rfl | rfl <;> decide +kernel
  have hsq := (sq0 n steps).c n
  refine wpAny_execs_cons (StE.run (V := lV) (st_assign_comp (x := "free") (r := (freeF n (leadsF n steps)).map .int) ?_ (by decide +kernel) (by decide +kernel)) ok er hw hXO hX0 fun h1 t1 er1 ok1 k1 _ => ?_)
  · rw [freeF, List.map_map]
    have e : (List.range n).map (fun i : Nat => PyData.int ((0 : Int) + i * 1)) = rangeD 0 1 ((n : Int)).toNat := by simp [rangeD]
    refine comp_filterT (T := TName) (fun i : Nat => .int ((0 : Int) + i * 1)) rInt_inj (List.range n) (freeB n (leadsF n steps)) _ (by decide +kernel) (by rw [szl]; simp; omega) ?_ ⟨_, _, rfl⟩ fun a ha => ⟨_, .name, tests_one (tr_not (tr_val (ev_any B (bs := (List.range n).map fun c => at2 (leadsF n steps) c c && (decide (c = a) || at2 (leadsF n steps) c a)) (by decide +kernel) (ev_comp ?_)))), fun _ => ?_⟩
    · rw [e]
      exact it_range1 (by decide +kernel) B.range (ev_name rfl) (small_one (by omega) (by omega) (by omega) (by omega))
    · have han := List.mem_range.mp ha
      rw [List.map_map]
      refine comp_mapT (T := TName) (fun i : Nat => .int ((0 : Int) + i * 1)) rInt_inj (List.range n) _ (by decide +kernel) (by rw [szl]; simp; omega) ?_ ⟨_, _, rfl⟩ fun c hc => ⟨_, .name, ?_⟩
      · rw [e]
        exact it_range1 (by decide +kernel) B.range (ev_name rfl) (small_one (by omega) (by omega) (by omega) (by omega))
      · have hcn := List.mem_range.mp hc
        have e1 : PyData.bool (at2 (leadsF n steps) c c && (decide (c = a) || at2 (leadsF n steps) c a)) = (if at2 (leadsF n steps) c c then (if ((0 : Int) + c * 1 == (0 : Int) + a * 1) then .bool true else .bool (at2 (leadsF n steps) c a)) else .bool false) := by
          have e2 : decide (c = a) = ((0 : Int) + c * 1 == (0 : Int) + a * 1) := by
            by_cases q : c = a
            · subst q; simp
            · have : ¬ ((0 : Int) + c * 1 = (0 : Int) + a * 1) := by omega
              rw [decide_eq_false q, beq_eq_false_iff_ne.mpr this]
          rw [e2]
          cases at2 (leadsF n steps) c c <;> cases ((0 : Int) + c * 1 == (0 : Int) + a * 1) <;> rfl
        show EvE _ _ _ _ _ _ (PyData.bool (at2 (leadsF n steps) c c && (decide (c = a) || at2 (leadsF n steps) c a)))
        rw [e1]
        have ec : ∀ j : Nat, PyData.int ((0 : Int) + j * 1) = PyData.int (j : Int) := fun j => by congr 1; omega
        exact ev_and (ev_item2 hsq (by omega) hcn hcn (ev_name rfl) (ev_cast (ec c) (ev_name rfl)) (ev_cast (ec c) (ev_name rfl))) fun _ => ev_or (ev_cmp (ev_name rfl) (ev_name rfl) (cmp_eq_int _ _)) fun _ => ev_item2 hsq (by omega) hcn han (ev_name rfl) (ev_cast (ec c) (ev_name rfl)) (ev_cast (ec a) (ev_name rfl))
    · refine ev_cast (d := .int ((0 : Int) + a * 1)) ?_ (ev_name rfl)
      have e3 : (0 : Int) + (a : Int) * 1 = (a : Int) := by omega
      rw [e3]; rfl
  obtain ⟨fw, gw, dw⟩ := Fs.wishes
  refine wpAny_execs_cons (StE.run (s := { s with heap := h1, toks := t1 }) (V := lV) (st_assign_comp (x := "runs") (r := ((wishesL n).map run).map RD) ?_ (by decide +kernel) (by decide +kernel)) ok1 er1 hw hXO hX0 fun h2 t2 er2 ok2 k2 _ => ?_)
  · rw [List.map_map]
    refine comp_mapT LI LI_inj (wishesL n) _ (by decide +kernel) (by rw [szl]; omega) (it_list (ev_cast (by rw [wishD_eq]) (ev_call (x := "_law_wishes") (f := .ref fw) (by decide +kernel) (gl_run gw (by decide +kernel)) dw.callee (evs_cons (ev_name rfl) evs_nil) (c_wishes B dw n hn4.1)))) (.inl ⟨_, _, rfl⟩) fun wish hwi => ⟨_, .name, ?_⟩
    exact ev_call (x := "_law_run") (f := .ref fr) (by decide +kernel) gr cr (evs_cons (ev_name rfl) (evs_cons (ev_name rfl) evs_nil)) (hrun wish hwi)
  refine wpAny_execs_cons (StE.run (s := { s with heap := h2, toks := t2 }) (V := lV) (st_assign (x := "most") (d := .int (mostF ((wishesL n).map run))) (ev_max B (ns := ((wishesL n).map run).map fun r => (r.2.1.length : Int)) (by decide +kernel) (ev_comp ?_) ?_ ?_) (by decide +kernel) (by decide +kernel)) ok2 er2 hw hXO hX0 fun h3 t3 er3 ok3 k3 _ => ?_)
  · rw [show (((wishesL n).map run).map fun r : Run => (r.2.1.length : Int)).map PyData.int = ((wishesL n).map run).map (fun r : Run => PyData.int (r.2.1.length : Int)) from List.map_map]
    refine comp_mapT RD RD_inj ((wishesL n).map run) _ (by decide +kernel) (by rw [szl, List.length_map]; omega) (it_list (ev_name rfl)) (.inr ⟨_, _, _, rfl⟩) fun r hr => ⟨_, .tup3, ?_⟩
    refine ev_cast (by show PyData.int _ = PyData.int _; rw [List.length_map]) (ev_len B (xs := r.2.1.map .int) (by decide +kernel) (ev_name rfl) ?_)
    obtain ⟨wish, hwi, rfl⟩ := List.mem_map.mp hr
    have := hlen wish hwi
    rw [szl, List.length_map]; omega
  · obtain ⟨r, hr, e⟩ := hsome
    rw [← e]
    exact List.mem_map_of_mem (f := fun r : Run => (r.2.1.length : Int)) hr
  · intro a ha
    obtain ⟨r, hr, rfl⟩ := List.mem_map.mp ha
    have := mostF_mem r hr
    omega
  exact h h3 t3 er3 ok3 ((k1.trans k2).trans k3)
end
end Mine
end
section
open PySem.Calls PySem.Spec PySem.SeqAt
namespace Mine
section
variable {w : World} {h₀ : Heap} {k : Nat} {sc : Scope} {δ : Str → Option PyData}

theorem tr_cast {e : Expr} {b b' : Bool} (h : b = b') (x : TrE w h₀ k sc δ e b) : TrE w h₀ k sc δ e b' := h ▸ x
theorem all_true {α : Type} (l : List α) : (l.map fun _ => true).all id = true := by
  induction l with
  | nil => rfl
  | cons x xs ih => simpa using ih
theorem foldl_take {α β : Type} (f : β → α → β) (b : β) (l : List α) (i : Nat) (h : i < l.length) : (l.take (i + 1)).foldl f b = f ((l.take i).foldl f b) l[i] := by
  rw [List.take_add_one, List.getElem?_eq_getElem h, List.foldl_append]; rfl

noncomputable def D5 (ns : List Int) (n : Nat) (steps : List (Int × Int)) (run : List Int → Run) : Str → Option PyData :=
  upd (D4 ns n steps run) "orders" (.list ((ordersF (mostF ((wishesL n).map run)) ((wishesL n).map run)).map LI))

theorem freeF_sorted (n : Nat) (L : List (List Bool)) : (freeF n L).Pairwise (· ≤ ·) := by
  unfold freeF
  rw [List.pairwise_map]
  exact (List.Pairwise.filter _ (List.pairwise_le_range (n := n))).imp fun h => by omega
theorem freeF_len (n : Nat) (L : List (List Bool)) : (freeF n L).length ≤ n := by
  unfold freeF
  rw [List.length_map]
  exact Nat.le_trans (List.length_filter_le _ _) (by simp)
theorem freeF_mem {n : Nat} {L : List (List Bool)} {a : Int} (h : a ∈ freeF n L) : ∃ j : Nat, a = j ∧ j < n := by
  obtain ⟨j, hj, rfl⟩ := List.mem_map.mp h
  exact ⟨j, rfl, List.mem_range.mp (List.mem_filter.mp hj).1⟩

theorem law_orders (B : Base h₀) (ns : List Int) (n : Nat) (hn : n = 3 ∨ n = 4) (steps : List (Int × Int)) (run : List Int → Run) (hlen : ∀ r ∈ (wishesL n).map run, r.2.1.length ≤ 4)
    {O X : List Addr} {env : Env} {A : Around} {s : Shared} {Q : Flow → Shared → Prop} {E : Value → Shared → Prop}
    (ok : Ok h₀ k A s.heap) (er : EnvR O s.heap env (scopeAt 14) (D4 ns n steps run)) (hw : Wr X env (scopeAt 14)) (hXO : ∀ a ∈ X, a ∈ O) (hX0 : ∀ a ∈ X, h₀.get? a = none)
    (h : ∀ h1 t1, EnvR O h1 env (scopeAt 14) (D5 ns n steps run) → Ok h₀ k A h1 → KpX X h₀.objs.size s.heap h1 → wpAny (model P w) A (execs ((bodyAt 14).drop 13) env) Q E { s with heap := h1, toks := t1 }) :
    wpAny (model P w) A (execs ((bodyAt 14).drop 11) env) Q E s := by
  have hwl : (wishesL n).length ≤ 24 := by rcases hn with rfl | rfl <;> decide +kernel
  unfold D4 at er
  unfold D5 D4 at h
  generalize hr : (wishesL n).map run = runs at er h hlen
  have hrl : runs.length ≤ 24 := by rw [← hr, List.length_map]; exact hwl
  generalize hm : mostF runs = most at er h
  refine wpAny_execs_cons (own_new (x := "orders") (ds := []) fr_nil ok er (hw _ (by decide +kernel)) hXO hX0 rfl fun a h1 t1 ha haX er1 own1 k1 _ => ?_)
  have ok1 := ok.kpx k1 hX0
  have ha0 : h₀.get? a = none := ok.dead ha
  refine wpAny_execs_cons (for_own (s := { s with heap := h1, toks := t1 }) (it_list (xs := runs.map RD) (ev_name rfl)) (.inr ⟨_, _, _, rfl⟩)
    (fun pre => (ordersF most (runs.take pre.length)).map LI) ok1 er1 own1 hw (fun b hb => .tail _ (hXO b hb)) hX0 haX ha0 (fun y hy => ?_) (fun pre y post e => ?_) fun h4 t4 er4 own4 ok4 k4 => ?_)
  · have hy : y = "ring" ∨ y = "gone" ∨ y = "fair" := by simpa [tnames_name, tnames_two, tnames_three] using hy
    rcases hy with rfl | rfl | rfl <;> exact ⟨by decide +kernel, by decide +kernel, rfl⟩
  · have hlt : pre.length < runs.length := by
      have := congrArg List.length e
      simp at this; omega
    have hy : y = RD runs[pre.length] := by
      have : (runs.map RD)[pre.length]? = some y := by rw [e]; simp
      simp [hlt] at this
      exact this.symm
    have hstep : ordersF most (runs.take (pre ++ [y]).length) = ordStep most (ordersF most (runs.take pre.length)) runs[pre.length] := by
      rw [List.length_append, List.length_singleton]
      exact foldl_take _ _ _ _ hlt
    have hol := (ordersF_mem (most := most) (runs.take pre.length) [] (fun _ q => by cases q)).2
    have hos : (ordersF most (runs.take pre.length)).length ≤ 24 := by
      unfold ordersF
      have : (runs.take pre.length).length ≤ 24 := by rw [List.length_take]; omega
      have q : ([] : List (List Int)).length = 0 := rfl
      omega
    rw [hstep]
    generalize ordersF most (runs.take pre.length) = os at hos
    have hg := hlen _ (List.getElem_mem hlt)
    generalize runs[pre.length] = r at hy hg
    subst hy
    obtain ⟨ring, gone, fair⟩ := r
    refine ⟨_, .tup3, fun O' s' Q' E' ok5 er5 own5 hXO5 hq => ?_⟩
    refine wpAny_execs_cons (wpAny_If (TrE.then (b := decide (gone.length = most) && !os.contains gone) (tr_and (tr_cast (b := (((gone.map PyData.int).length : Nat) : Int) == (most : Int)) ?_ (tr_cmp (ev_len B (by decide +kernel) (ev_name rfl) ?_) (ev_name rfl) (cmp_eq_int _ _))) fun _ => tr_cmp (ev_name rfl) (ev_name rfl) (cmp_notInL _ _)) ok5 (own5.env (O' := []) er5 (fun _ q => by cases q)) fun h6 t6 k6 ok6 _ => ?_))
    · rw [List.length_map]
      by_cases q : gone.length = most
      · rw [q]; simp
      · rw [decide_eq_false q]; simp; omega
    · rw [szl, List.length_map]; have : gone.length ≤ 4 := hg; omega
    have er6 := er5.kp k6
    have own6 := own5.kp k6
    have hle : ∀ {h7 : Heap} {δ' : Str → Option PyData}, Le δ' (upd (upd (upd δ' "ring" (.bool ring)) "gone" (LI gone)) "fair" (.bool fair)) ∨ True := fun {_ _} => .inr trivial
    by_cases c : (decide (gone.length = most) && !os.contains gone) = true
    · rw [ordStep, if_pos c] at hq
      rw [c]
      refine wpAny_execs_cons (own_append (s := { s' with heap := h6, toks := t6 }) (d := LI gone) (ev_name rfl) (by rw [List.length_map]; omega) ok6 er6 own6 fun h7 t7 er7 own7 k7 => wpAny_execs_nil (wpAny_execs_nil (hq h7 t7 (er7.forget ?_) ?_ (k6.x.trans (k7.mono fun b hb => .inl (by rw [List.mem_singleton.mp hb]; exact .head _))))))
      · refine le_of ["ring", "gone", "fair"] ?_ ?_ <;> walk_at "le"
      · rw [List.map_append]; exact own7
    · rw [ordStep, if_neg c] at hq
      rw [Bool.eq_false_iff.mpr c]
      refine wpAny_execs_nil (wpAny_execs_nil (hq h6 t6 (er6.forget ?_) own6 k6.x))
      refine le_of ["ring", "gone", "fair"] ?_ ?_ <;> walk_at "le"
  · have e5 : runs.take (runs.map RD).length = runs := by rw [List.length_map]; exact List.take_of_length_le (Nat.le_refl _)
    rw [e5] at own4
    have haO : ∀ b ∈ O, b ∈ a :: O ∧ b ≠ a := fun b hb => ⟨.tail _ hb, fun q => by obtain ⟨o, e⟩ := er.low b hb; rw [q, ha] at e; cases e⟩
    have q1 : KpX (a :: X) h₀.objs.size s.heap h4 := (k1.mono fun b hb => .inl (.tail _ hb)).trans k4
    exact h h4 t4 (own4.env er4 haO) ok4 (q1.mono fun b hb => (List.mem_cons.mp hb).elim (fun e => .inr (e ▸ ha)) .inl)

theorem law_tests (B : Base h₀) (ns : List Int) (n : Nat) (hn : n = 3 ∨ n = 4) (steps : List (Int × Int)) (run : List Int → Run) (G : Good n steps ((wishesL n).map run))
    {O X : List Addr} {env : Env} {A : Around} {s : Shared} {Q : Flow → Shared → Prop} {E : Value → Shared → Prop}
    (ok : Ok h₀ k A s.heap) (er : EnvR O s.heap env (scopeAt 14) (D5 ns n steps run)) (hw : Wr X env (scopeAt 14)) (hXO : ∀ a ∈ X, a ∈ O) (hX0 : ∀ a ∈ X, h₀.get? a = none)
    (h : ∀ h1 t1, EnvR O h1 env (scopeAt 14) (D5 ns n steps run) → Ok h₀ k A h1 → KpX X h₀.objs.size s.heap h1 → wpAny (model P w) A (execs ((bodyAt 14).drop 15) env) Q E { s with heap := h1, toks := t1 }) :
    wpAny (model P w) A (execs ((bodyAt 14).drop 13) env) Q E s := by
  have hwl : (wishesL n).length ≤ 24 := by rcases hn with rfl | rfl <;> decide +kernel
  have hfl := freeF_len n (leadsF n steps)
  have hfs := freeF_sorted n (leadsF n steps)
  have hol := (ordersF_mem (most := mostF ((wishesL n).map run)) ((wishesL n).map run) [] (fun _ q => by cases q)).2
  have hos : (ordersF (mostF ((wishesL n).map run)) ((wishesL n).map run)).length ≤ 24 := by
    unfold ordersF
    rw [List.length_map] at hol
    have q : ([] : List (List Int)).length = 0 := rfl
    omega
  refine wpAny_execs_cons (StE.run (V := lV) (st_if (b := false) (o := .nx (D5 ns n steps run)) (tr_cast (b := !(((wishesL n).map run).map fun _ => true).all id) (by rw [all_true]; rfl) (tr_not (tr_val (ev_all B (by decide +kernel) (ev_comp ?_))))) (fun q => by cases q) (fun _ => st_nil)) ok er hw hXO hX0 fun h1 t1 er1 ok1 k1 _ => ?_)
  · rw [show ((((wishesL n).map run).map fun _ : Run => true).map PyData.bool) = ((wishesL n).map run).map (fun r : Run => PyData.bool true) from List.map_map]
    refine comp_mapT RD RD_inj ((wishesL n).map run) _ (by decide +kernel) (by rw [szl, List.length_map]; omega) (it_list (ev_name rfl)) (.inr ⟨_, _, _, rfl⟩) fun r hr => ⟨_, .tup3, ?_⟩
    obtain ⟨g1, g2⟩ := G.fair r hr
    refine ev_cast (d := if r.2.2 then .bool (r.1 == decide (((((freeF n (leadsF n steps)).map PyData.int).length : Nat) : Int) < (n : Int))) else .bool false) ?_ (ev_and (ev_name rfl) fun _ => ev_cmp (ev_name rfl) (ev_cmp (ev_len B (by decide +kernel) (ev_name rfl) ?_) (ev_name rfl) (cmp_lt _ _)) (cmp_eqB _ _))
    · rw [g1, g2, if_pos rfl, List.length_map]
      have : decide (((freeF n (leadsF n steps)).length : Int) < (n : Int)) = decide ((freeF n (leadsF n steps)).length < n) := by
        by_cases q : (freeF n (leadsF n steps)).length < n
        · rw [decide_eq_true q, decide_eq_true (by omega)]
        · rw [decide_eq_false q, decide_eq_false (by omega)]
      rw [this, beq_self_eq_true]
    · rw [szl, List.length_map]; omega
  refine wpAny_execs_cons (StE.run (s := { s with heap := h1, toks := t1 }) (V := lV) (st_if (b := false) (o := .nx (D5 ns n steps run)) (tr_cast (b := !((ordersF (mostF ((wishesL n).map run)) ((wishesL n).map run)).map fun _ => true).all id) (by rw [all_true]; rfl) (tr_not (tr_val (ev_all B (by decide +kernel) (ev_comp ?_))))) (fun q => by cases q) (fun _ => st_nil)) ok1 er1 hw hXO hX0 fun h2 t2 er2 ok2 k2 _ => ?_)
  · rw [show (((ordersF (mostF ((wishesL n).map run)) ((wishesL n).map run)).map fun _ : List Int => true).map PyData.bool) = (ordersF (mostF ((wishesL n).map run)) ((wishesL n).map run)).map (fun r : List Int => PyData.bool true) from List.map_map]
    refine comp_mapT LI LI_inj (ordersF (mostF ((wishesL n).map run)) ((wishesL n).map run)) _ (by decide +kernel) (by rw [szl]; omega) (it_list (ev_name rfl)) (.inl ⟨_, _, rfl⟩) fun o ho => ⟨_, .name, ?_⟩
    have hp := G.perm o ho
    have hpl := hp.length_eq
    refine ev_cast (d := .bool (freeF n (leadsF n steps) == freeF n (leadsF n steps))) (by rw [beq_self_eq_true]) (ev_cmp (ev_sorted B (ns := o) (ns' := freeF n (leadsF n steps)) (by decide +kernel) (ev_name rfl) (by omega) hp hfs) (ev_name rfl) (cmp_eqL _ _))
  exact h h2 t2 er2 ok2 (k1.trans k2)
end
end Mine
end
section
open PySem.Calls PySem.Spec PySem.SeqAt
namespace Mine
section
variable {w : World} {h₀ : Heap} {k : Nat}

theorem choose_small : ∀ m < 8, ∀ q < 5, -1000 ≤ chooseF ((m : Nat) : Int) q ∧ chooseF ((m : Nat) : Int) q ≤ 1000 := by decide +kernel
theorem st_skip {sc : Scope} {V : List Str} {δ : Str → Option PyData} {test : Expr} {body : List Stmt} {pos : Pos} (ht : TrE w h₀ k sc δ test false) : StE w h₀ k sc V δ (exec (.If test body [] pos)) (.nx δ) :=
  st_if ht (fun q => by cases q) (fun _ => st_nil)

theorem law_pairs (B : Base h₀) (ns : List Int) (n : Nat) (hn : n = 3 ∨ n = 4) (steps : List (Int × Int)) (run : List Int → Run) (G : Good n steps ((wishesL n).map run))
    {O X : List Addr} {env : Env} {A : Around} {s : Shared} {Q : Flow → Shared → Prop} {E : Value → Shared → Prop}
    (ok : Ok h₀ k A s.heap) (er : EnvR O s.heap env (scopeAt 14) (D5 ns n steps run)) (hw : Wr X env (scopeAt 14)) (hXO : ∀ a ∈ X, a ∈ O) (hX0 : ∀ a ∈ X, h₀.get? a = none)
    (h : ∀ h1 t1, EnvR O h1 env (scopeAt 14) (D5 ns n steps run) → Ok h₀ k A h1 → KpX X h₀.objs.size s.heap h1 → wpAny (model P w) A (execs ((bodyAt 14).drop 16) env) Q E { s with heap := h1, toks := t1 }) :
    wpAny (model P w) A (execs ((bodyAt 14).drop 15) env) Q E s := by
  have hwl : (wishesL n).length ≤ 24 := by rcases hn with rfl | rfl <;> decide +kernel
  have hsq := (sq0 n steps).c n
  have hol := (ordersF_mem (most := mostF ((wishesL n).map run)) ((wishesL n).map run) [] (fun _ q => by cases q)).2
  have hos : (ordersF (mostF ((wishesL n).map run)) ((wishesL n).map run)).length ≤ 24 := by
    unfold ordersF
    rw [List.length_map] at hol
    have q : ([] : List (List Int)).length = 0 := rfl
    omega
  have hmem : ∀ {pre post : List PyData} {x : PyData}, (freeF n (leadsF n steps)).map PyData.int = pre ++ x :: post → ∃ j : Nat, x = .int j ∧ j < n ∧ (j : Int) ∈ freeF n (leadsF n steps) := by
    intro pre post x e
    have : x ∈ (freeF n (leadsF n steps)).map PyData.int := by rw [e]; simp
    obtain ⟨a, ha, rfl⟩ := List.mem_map.mp this
    obtain ⟨j, rfl, hj⟩ := freeF_mem ha
    exact ⟨j, rfl, hj, ha⟩
  refine wpAny_execs_cons (StE.run (V := lV) (st_for (Δ := fun _ => D5 ns n steps run) (it_list (xs := (freeF n (leadsF n steps)).map .int) (ev_name rfl)) (.inl ⟨_, _, rfl⟩) (fun _ _ e => e) (fun y hy => ?_) fun pre x post e => ?_) ok er hw hXO hX0 fun h1 t1 er1 ok1 k1 _ => ?_)
  · rw [List.mem_singleton.mp hy]; exact ⟨by decide +kernel, by decide +kernel⟩
  · obtain ⟨a, rfl, han, ha⟩ := hmem e
    refine ⟨_, .name, st_forget (δ1 := upd (D5 ns n steps run) "a" (.int a)) (st_seq (st_for (Δ := fun _ => upd (D5 ns n steps run) "a" (.int a)) (it_list (xs := (freeF n (leadsF n steps)).map .int) (ev_name rfl)) (.inl ⟨_, _, rfl⟩) (fun _ _ e => e) (fun y hy => ?_) fun pre x post e => ?_) st_nil) (by refine le_of ["a"] ?_ ?_ <;> walk_at "le")⟩
    · rw [List.mem_singleton.mp hy]; exact ⟨by decide +kernel, by decide +kernel⟩
    · obtain ⟨b, rfl, hbn, hb⟩ := hmem e
      refine ⟨_, .name, st_forget (δ1 := upd (upd (D5 ns n steps run) "a" (.int a)) "b" (.int b)) (st_seq (st_skip ?_) st_nil) (by refine le_of ["b"] ?_ ?_ <;> walk_at "le")⟩
      by_cases q : a = b
      · subst q
        refine tr_cast (b := (!((a : Int) == (a : Int))) && false) (by simp) (tr_and (tr_cmp (ev_name rfl) (ev_name rfl) (cmp_ne_int _ _)) fun q => by simp at q)
      · have g := G.lead a b ha hb q
        refine tr_cast (b := (!((a : Int) == (b : Int))) && !(at2 (leadsF n steps) a b == ((ordersF (mostF ((wishesL n).map run)) ((wishesL n).map run)).map fun o => decide ((ix o a : Int) < ix o b)).all id)) (by rw [g, beq_self_eq_true]; simp) (tr_and (tr_cmp (ev_name rfl) (ev_name rfl) (cmp_ne_int _ _)) fun _ => tr_cmp (ev_item2 hsq (by omega) han hbn (ev_name rfl) (ev_name rfl) (ev_name rfl)) (ev_all B (by decide +kernel) (ev_comp ?_)) (cmp_neB _ _))
        rw [show (((ordersF (mostF ((wishesL n).map run)) ((wishesL n).map run)).map fun o : List Int => decide ((ix o a : Int) < ix o b)).map PyData.bool) = (ordersF (mostF ((wishesL n).map run)) ((wishesL n).map run)).map (fun o : List Int => PyData.bool (decide ((ix o a : Int) < ix o b))) from List.map_map]
        refine comp_mapT LI LI_inj (ordersF (mostF ((wishesL n).map run)) ((wishesL n).map run)) _ (by decide +kernel) (by rw [szl]; omega) (it_list (ev_name rfl)) (.inl ⟨_, _, rfl⟩) fun o ho => ⟨_, .name, ?_⟩
        have hp := G.perm o ho
        have hpl := hp.length_eq
        have hfl := freeF_len n (leadsF n steps)
        exact ev_cmp (ev_index (ns := o) (ev_name rfl) (ev_name rfl) (idx_some (hp.subset ha)).1 (by rw [szl]; omega)) (ev_index (ns := o) (ev_name rfl) (ev_name rfl) (idx_some (hp.subset hb)).1 (by rw [szl]; omega)) (cmp_lt _ _)
  exact h h1 t1 er1 ok1 k1

noncomputable def firstF (runs : List Run) : List Int := (ordersF (mostF runs) runs).headD []
noncomputable def tallyF (runs : List Run) : List Int := talF (firstF runs) (ordersF (mostF runs) runs)
noncomputable def D6 (ns : List Int) (n : Nat) (steps : List (Int × Int)) (run : List Int → Run) : Str → Option PyData := upd (D5 ns n steps run) "tally" (LI (tallyF ((wishesL n).map run)))

theorem law_tally (B : Base h₀) (Fs : Funs h₀) (ns : List Int) (n : Nat) (hn : n = 3 ∨ n = 4) (steps : List (Int × Int)) (run : List Int → Run) (G : Good n steps ((wishesL n).map run))
    {O X : List Addr} {env : Env} {A : Around} {s : Shared} {Q : Flow → Shared → Prop} {E : Value → Shared → Prop}
    (ok : Ok h₀ (k + 1) A s.heap) (er : EnvR O s.heap env (scopeAt 14) (D5 ns n steps run)) (hw : Wr X env (scopeAt 14)) (hXO : ∀ a ∈ X, a ∈ O) (hX0 : ∀ a ∈ X, h₀.get? a = none)
    (h : (tallyF ((wishesL n).map run)).length = mostF ((wishesL n).map run) + 1 → ∀ h1 t1, EnvR O h1 env (scopeAt 14) (D6 ns n steps run) → Ok h₀ (k + 1) A h1 → KpX X h₀.objs.size s.heap h1 → wpAny (model P w) A (execs ((bodyAt 14).drop 17) env) Q E { s with heap := h1, toks := t1 }) :
    wpAny (model P w) A (execs ((bodyAt 14).drop 16) env) Q E s := by
  have hwl : (wishesL n).length ≤ 24 := by rcases hn with rfl | rfl <;> decide +kernel
  have hol := ordersF_mem (most := mostF ((wishesL n).map run)) ((wishesL n).map run) [] (fun _ q => by cases q)
  have hos : (ordersF (mostF ((wishesL n).map run)) ((wishesL n).map run)).length ≤ 24 := by
    unfold ordersF
    have h2 := hol.2
    rw [List.length_map] at h2
    have q : ([] : List (List Int)).length = 0 := rfl
    omega
  have hfl := freeF_len n (leadsF n steps)
  have hhead : (ordersF (mostF ((wishesL n).map run)) ((wishesL n).map run)).head? = some (firstF ((wishesL n).map run)) := by
    unfold firstF
    have := G.ne
    cases e : ordersF (mostF ((wishesL n).map run)) ((wishesL n).map run) with
    | nil => exact absurd e this
    | cons o os => rfl
  have hfm : firstF ((wishesL n).map run) ∈ ordersF (mostF ((wishesL n).map run)) ((wishesL n).map run) := List.mem_of_head? hhead
  have hfp := G.perm _ hfm
  have hfpl := hfp.length_eq
  have hfl2 : (firstF ((wishesL n).map run)).length = mostF ((wishesL n).map run) := hol.1 _ hfm
  obtain ⟨f, g1, g2⟩ := Fs.falls
  refine wpAny_execs_cons (StE.run (V := lV) (st_assign (x := "tally") (d := LI (tallyF ((wishesL n).map run))) (ev_call (x := "_law_falls") (f := .ref f) (by decide +kernel) (gl_run g1 (by decide +kernel)) g2.callee (evs_cons (ev_name rfl) evs_nil) (c_falls B g2 (firstF ((wishesL n).map run)) (ordersF (mostF ((wishesL n).map run)) ((wishesL n).map run)) (by omega) (by omega) (fun o ho => ?_) hhead)) (by decide +kernel) (by decide +kernel)) ok er hw hXO hX0 fun h1 t1 er1 ok1 k1 _ => ?_)
  · have hp := G.perm o ho
    exact ⟨by have := hp.length_eq; omega, fun x hx => hfp.subset (hp.symm.subset hx)⟩
  · exact h (by unfold tallyF; rw [talF_len, hfl2]) h1 t1 er1 ok1 k1

theorem law_end (B : Base h₀) (Fs : Funs h₀) (ns : List Int) (n : Nat) (hn : n = 3 ∨ n = 4) (steps : List (Int × Int)) (hst : steps.length ≤ 6) (run : List Int → Run) (G : Good n steps ((wishesL n).map run))
    (htl : (tallyF ((wishesL n).map run)).length = mostF ((wishesL n).map run) + 1)
    {O X : List Addr} {env : Env} {A : Around} {s : Shared} {Q : Flow → Shared → Prop} {E : Value → Shared → Prop}
    (ok : Ok h₀ (k + 1) A s.heap) (er : EnvR O s.heap env (scopeAt 14) (D6 ns n steps run)) (hw : Wr X env (scopeAt 14)) (hXO : ∀ a ∈ X, a ∈ O) (hX0 : ∀ a ∈ X, h₀.get? a = none)
    (h : ∀ h1 t1 u, Ok h₀ (k + 1) A h1 → KpX X h₀.objs.size s.heap h1 → u = .bool true → Q (.ret u) { s with heap := h1, toks := t1 }) :
    wpAny (model P w) A (execs ((bodyAt 14).drop 17) env) Q E s := by
  have hm4 := G.most
  have hfl := freeF_len n (leadsF n steps)
  have gH := G.heights
  have gC := G.close
  have gT : talF ((ordersF (mostF ((wishesL n).map run)) ((wishesL n).map run)).headD []) (ordersF (mostF ((wishesL n).map run)) ((wishesL n).map run)) = tallyF ((wishesL n).map run) := rfl
  rw [gT] at gH
  clear gT G
  unfold D6 D5 D4 at er
  generalize hr : (wishesL n).map run = runs at er gH hm4 htl
  generalize hmo : mostF runs = most at er gH hm4 htl
  generalize tallyF runs = tally at er gH htl
  generalize horders : ordersF most runs = orders at er
  clear hr hmo horders
  obtain ⟨fc, gc, dc⟩ := Fs.choose
  obtain ⟨fh, gh, dh⟩ := Fs.heights
  generalize hδ : upd (upd (upd (upd (upd (D3 ns n steps) "free" (LI (freeF n (leadsF n steps)))) "runs" (.list (runs.map RD))) "most" (.int (most : Int))) "orders" (.list (orders.map LI))) "tally" (LI tally) = δ at er
  refine wpAny_execs_cons (StE.run (V := lV) (st_for (Δ := fun _ => δ) (it_range2 (a := 1) (b := min (most : Int) 3 + 1) (by decide +kernel) B.range ev_int (ev_bin (ev_min B (by decide +kernel) (ev_name (by rw [← hδ]; rfl)) ev_int) ev_int (bin_add _ _)) (small_one (by omega) (by omega) (by omega) (by omega))) ⟨_, _, rfl⟩ (fun _ _ e => e) (fun y hy => ?_) fun pre x post e => ?_) ok er hw hXO hX0 fun h1 t1 er1 ok1 k1 _ => ?_)
  · rw [List.mem_singleton.mp hy]; exact ⟨by decide +kernel, by decide +kernel⟩
  · obtain ⟨_, rfl, hlt⟩ := rangeD_split e
    have ek : (1 : Int) + (pre.length : Int) * 1 = ((pre.length + 1 : Nat) : Int) := by omega
    rw [ek]
    generalize hkk : pre.length + 1 = kk
    have h1k : 1 ≤ kk ∧ kk ≤ min most 3 := by omega
    obtain ⟨gw, gs⟩ := gH kk h1k.1 h1k.2
    have hk1 := h1k.1
    have hk3 : kk ≤ 3 := Nat.le_trans h1k.2 (Nat.min_le_right _ _)
    have hft : ∀ f < most, f < tally.length := fun f hf => by rw [htl]; exact Nat.lt_succ_of_lt hf
    have hts : tally.length ≤ 1000 := by rw [htl]; exact Nat.le_trans (Nat.succ_le_succ hm4) (by decide)
    clear e ek hlt h1k hkk htl
    subst hδ
    refine ⟨_, .name, st_forget (st_seq (st_assign (x := "weak") (d := .int (sumW tally most kk)) (ev_sum B (by decide +kernel) (ev_comp ?_)) (by decide +kernel) (by decide +kernel)) (st_seq (st_assign (x := "strict") (d := .int (sumS tally most kk)) (ev_sum B (by decide +kernel) (ev_comp ?_)) (by decide +kernel) (by decide +kernel)) (st_seq (st_skip (tr_cast ?_ (tr_cmp (ev_call (x := "_law_heights") (f := .ref fh) (by decide +kernel) (gl_run gh (by decide +kernel)) dh.callee (evs_cons (ev_name rfl) (evs_cons (ev_name rfl) (evs_cons (ev_name rfl) evs_nil))) (c_heights B dh (freeF n (leadsF n steps)) steps kk (by omega) hst (by omega) gC)) (ev_tuple (evs_cons (ev_name rfl) (evs_cons (ev_name rfl) evs_nil)) (by rw [szl]; simp)) (cmp_neP _ _ _ _)))) st_nil))) (by refine le_of ["k", "weak", "strict"] ?_ ?_ <;> walk_at "le")⟩
    · rw [show ((List.range most).map fun f : Nat => tally.getD f 0 * chooseF ((kk : Int) + most - 1 - f) most).map PyData.int = (List.range most).map (fun f : Nat => PyData.int (tally.getD f 0 * chooseF ((kk : Int) + most - 1 - f) most)) from List.map_map]
      refine comp_mapT (T := TName) (fun i : Nat => .int ((0 : Int) + i * 1)) rInt_inj (List.range most) _ (by decide +kernel) (by rw [szl]; simp; omega) ?_ ⟨_, _, rfl⟩ fun f hf => ⟨_, .name, ?_⟩
      · have e : (List.range most).map (fun i : Nat => PyData.int ((0 : Int) + i * 1)) = rangeD 0 1 ((most : Int)).toNat := by simp [rangeD]
        rw [e]
        exact it_range1 (by decide +kernel) B.range (ev_name rfl) (small_one (by omega) (by omega) (by omega) (by omega))
      · have hf := List.mem_range.mp hf
        have ef : PyData.int ((0 : Int) + f * 1) = PyData.int (f : Int) := by congr 1; omega
        have ht := hft f hf
        have eb : (kk : Int) + most - 1 - f = ((kk + most - 1 - f : Nat) : Int) := by omega
        have hc := choose_small (kk + most - 1 - f) (by omega) most (by omega)
        rw [← eb] at hc
        clear eb
        exact ev_bin (ev_itemI (ev_name rfl) (ev_cast ef (ev_name rfl)) ht hts) (ev_call (x := "_law_choose") (f := .ref fc) (by decide +kernel) (gl_run gc (by decide +kernel)) dc.callee (evs_cons (ev_bin (ev_bin (ev_bin (ev_name rfl) (ev_name rfl) (bin_add _ _)) ev_int (bin_sub _ _)) (ev_cast ef (ev_name rfl)) (bin_sub _ _)) (evs_cons (ev_name rfl) evs_nil)) (c_choose B dc _ most (by clear hc; omega) (Nat.le_trans hm4 (by decide)))) (bin_mul _ _ (IntMulOk.of_right (PySem.intBits_le_64 (by omega) (by omega))))
    · rw [show ((List.range most).map fun f : Nat => tally.getD f 0 * chooseF ((kk : Int) + f) most).map PyData.int = (List.range most).map (fun f : Nat => PyData.int (tally.getD f 0 * chooseF ((kk : Int) + f) most)) from List.map_map]
      refine comp_mapT (T := TName) (fun i : Nat => .int ((0 : Int) + i * 1)) rInt_inj (List.range most) _ (by decide +kernel) (by rw [szl]; simp; omega) ?_ ⟨_, _, rfl⟩ fun f hf => ⟨_, .name, ?_⟩
      · have e : (List.range most).map (fun i : Nat => PyData.int ((0 : Int) + i * 1)) = rangeD 0 1 ((most : Int)).toNat := by simp [rangeD]
        rw [e]
        exact it_range1 (by decide +kernel) B.range (ev_name rfl) (small_one (by omega) (by omega) (by omega) (by omega))
      · have hf := List.mem_range.mp hf
        have ef : PyData.int ((0 : Int) + f * 1) = PyData.int (f : Int) := by congr 1; omega
        have ht := hft f hf
        have eb : (kk : Int) + f = ((kk + f : Nat) : Int) := rfl
        have hc := choose_small (kk + f) (by omega) most (by omega)
        rw [← eb] at hc
        clear eb
        exact ev_bin (ev_itemI (ev_name rfl) (ev_cast ef (ev_name rfl)) ht hts) (ev_call (x := "_law_choose") (f := .ref fc) (by decide +kernel) (gl_run gc (by decide +kernel)) dc.callee (evs_cons (ev_bin (ev_name rfl) (ev_cast ef (ev_name rfl)) (bin_add _ _)) (evs_cons (ev_name rfl) evs_nil)) (c_choose B dc _ most (by clear hc; omega) (Nat.le_trans hm4 (by decide)))) (bin_mul _ _ (IntMulOk.of_right (PySem.intBits_le_64 (by omega) (by omega))))
    · rw [gw, gs, beq_self_eq_true, beq_self_eq_true]; rfl
  · refine wpAny_execs_cons (wpAny_Return_some (ev_bool.then (s := { s with heap := h1, toks := t1 }) ok1 er1 fun u h2 t2 r2 k2 ok2 _ => ?_))
    exact h h2 t2 u ok2 (k1.trans k2.x) r2.bool_inv
end
end Mine
end
section
open PySem.Calls PySem.Spec PySem.SeqAt
namespace Mine
section
variable {w : World} {h₀ : Heap} {k : Nat}

noncomputable def sizeF (ns : List Int) : Nat := if ns.length < 2 then 3 else 4
noncomputable def stF (ns : List Int) : List (Int × Int) := stepsF (sizeF ns) (cellsF ns (pairsF (sizeF ns)).length)
theorem sizeF_or (ns : List Int) : sizeF ns = 3 ∨ sizeF ns = 4 := by unfold sizeF; split <;> simp
theorem stF_len (ns : List Int) : (stF ns).length ≤ 6 := by
  have hpl : (pairsF (sizeF ns)).length ≤ 6 := by rcases sizeF_or ns with e | e <;> rw [e] <;> decide
  have : ∀ l : List ((Int × Int) × Int), (l.flatMap stepOf).length ≤ l.length := by
    intro l
    induction l with
    | nil => exact Nat.le_refl _
    | cons x xs ih =>
      rw [List.flatMap_cons, List.length_append, List.length_cons]
      have : (stepOf x).length ≤ 1 := by unfold stepOf; split <;> (try split) <;> simp
      omega
  refine Nat.le_trans (this _) ?_
  rw [List.length_zip]; omega

end
end Mine
end
section
open PySem.Calls PySem.Spec PySem.SeqAt
namespace Mine
structure Node where
  name : Int
  np : Int
  suc : List Int

noncomputable def hasN (ns : List Node) (x : Int) : Bool := ns.any fun p => p.name == x
noncomputable def getN (ns : List Node) (x : Int) : Option Node := ns.find? fun p => p.name == x
noncomputable def updN (ns : List Node) (x : Int) (f : Node → Node) : List Node := ns.map fun p => if p.name == x then f p else p
noncomputable def infoN (ns : List Node) (x : Int) : List Node := if hasN ns x then ns else ns ++ [⟨x, 0, []⟩]
noncomputable def predN (name : Int) (ns : List Node) (p : Int) : List Node := updN (infoN ns p) p fun q => { q with suc := q.suc ++ [name] }
noncomputable def addF (ns : List Node) (name : Int) (preds : List Int) : List Node :=
  preds.foldl (predN name) (updN (infoN ns name) name fun q => { q with np := q.np + preds.length })
noncomputable def toldN (told : List (Int × List Int)) : List Node := told.foldl (fun ns p => addF ns p.1 p.2) []
noncomputable def readyF (ns : List Node) : List Int := (ns.filter fun p => p.np == 0).map (·.name)
structure Srch where
  stack : List Int
  its : List (List Int)
  seen : List Int
  n2s : List (Int × Nat)
noncomputable def stepS : Nat → Srch → Option (Option Int × Srch)
  | 0, _ => none
  | k + 1, s => match s.stack.getLast?, s.its.getLast? with
    | some t, some (x :: r) => some (some x, { s with its := s.its.dropLast ++ [r] })
    | some t, some [] => if s.n2s.any (·.1 == t) then stepS k { stack := s.stack.dropLast, its := s.its.dropLast, seen := s.seen, n2s := s.n2s.filter (·.1 != t) } else none
    | none, _ => some (none, s)
    | _, none => none
noncomputable def loopS (ns : List Node) : Nat → Int → Srch → Option (Bool × Srch)
  | 0, _, _ => none
  | k + 1, x, s =>
    let go (s : Srch) : Option (Bool × Srch) := match stepS 40 s with
      | some (some y, s') => loopS ns k y s'
      | some (none, s') => some (false, s')
      | none => none
    if s.seen.contains x then (if s.n2s.any (·.1 == x) then some (true, s) else go s)
    else match getN ns x with
      | some p => go { stack := s.stack ++ [x], its := s.its ++ [p.suc], seen := s.seen ++ [x], n2s := s.n2s ++ [(x, s.stack.length)] }
      | none => none
noncomputable def cycS (ns : List Node) : List Int → Srch → Option Bool
  | [], _ => some false
  | x :: xs, s => if s.seen.contains x then cycS ns xs s else match loopS ns 40 x s with
    | some (true, _) => some true
    | some (false, s') => cycS ns xs s'
    | none => none
noncomputable def ringF (ns : List Node) : Option Bool := cycS ns (ns.map (·.name)) ⟨[], [], [], []⟩
structure St where
  ns : List Node
  ready : List Int
  passed : Int
  fin : Int
noncomputable def outF (s : St) : St := { ns := s.ready.foldl (fun ns x => updN ns x fun q => { q with np := -1 }) s.ns, ready := [], passed := s.passed + s.ready.length, fin := s.fin }
noncomputable def sucF (s : St) (x : Int) : St := { s with ns := updN s.ns x fun q => { q with np := q.np - 1 }, ready := if (getN s.ns x).any fun q => q.np - 1 == 0 then s.ready ++ [x] else s.ready }
inductive DoneR where
  | bad
  | refused
  | ok (s : St)
noncomputable def doneF (s : St) (x : Int) : DoneR := match getN s.ns x with
  | none => .refused
  | some q => if q.np == -1 then
      let s1 : St := { s with ns := updN s.ns x fun q => { q with np := -2 } }
      if q.suc.all fun y => hasN s1.ns y then .ok { (q.suc.foldl sucF s1) with fin := s.fin + 1 } else .bad
    else if decide (q.np ≥ 0) || q.np == -2 then .refused else .bad
noncomputable def walkF (ring : Bool) : List Int → St → List Int → List Int → Option Run
  | [], s, out, gone => some (ring, gone, !(decide (s.fin < s.passed) || !s.ready.isEmpty))
  | x :: xs, s, out, gone =>
    let out' := out ++ s.ready
    match doneF (outF s) x with
    | .bad => none
    | .refused => some (ring, gone, !out'.contains x)
    | .ok s' => if out'.contains x then walkF ring xs s' out' (gone ++ [x]) else some (ring, gone ++ [x], false)
noncomputable def runF (told : List (Int × List Int)) (wish : List Int) : Option Run :=
  (ringF (toldN told)).bind fun ring => walkF ring wish ⟨toldN told, readyF (toldN told), 0, 0⟩ [] []
end Mine
end
section
open PySem.Calls PySem.Spec PySem.SeqAt
namespace Mine
theorem newEnvF {M : Model} {A : Around} {E : Value → Shared → Prop} {s : Shared} {scope : Scope} {globals : Addr} {binds : List (Str × Value)} {qual : Str} {func : Option Addr} {code : Value} {builtins : Addr} {Q : Env → Shared → Prop}
    (hk : scope.kind = .function) (hkind : ∀ x ∈ binds, scope.names.lookup x.1 = some .local ∨ (scope.names.lookup x.1 = some .cell ∧ ((cellsFrom (s.heap.objs.size + 1) scope.names []).lookup x.1).isSome = true))
    (hQ : ∀ env, env = newEnv scope s.heap.objs.size globals (cellsFrom (s.heap.objs.size + 1) scope.names []) qual func code none builtins →
      ∀ s', InCallC s env.locals (bindL env.kindOf binds fun _ => none) env.cells (bindC env.kindOf binds fun _ => none) s' → ClsIs s'.heap env.locals frm → Q env s') :
    wpAny M A (newFunctionEnv scope globals [] binds qual func code none builtins) Q E s := by
  have tree : ∃ k : Addr → Sem Env, newFunctionEnv scope globals [] binds qual func code none builtins = alloc { cls := frm, data := .dict #[] } >>= k ∧ ∀ a, KC (k a) := by
    refine ⟨_, rfl, fun a => .bind (.each fun x _ cs => ?_) fun cs => .bind (.each fun x hx _ => .bind (.store hk ((hkind x hx).imp id And.left)) fun _ => .pure _) fun _ => .pure _⟩
    dsimp only
    split
    · exact .bind (.alloc fun _ => .pure _) fun _ => .pure _
    · exact .pure _
  obtain ⟨k, e, hkc⟩ := tree
  have known := wpAny_newFunctionEnv_cells (M := M) (A := A) (E := E) (s := s) (globals := globals) (qual := qual) (func := func) (code := code) (builtins := builtins)
    (Q := fun env s' => env = newEnv scope s.heap.objs.size globals (cellsFrom (s.heap.objs.size + 1) scope.names []) qual func code none builtins ∧ InCallC s env.locals (bindL env.kindOf binds fun _ => none) env.cells (bindC env.kindOf binds fun _ => none) s') hk hkind fun env he s' x => ⟨he, x⟩
  rw [e] at known ⊢
  refine wpAny_mono (KC.first hkc rfl known) (fun env s' ⟨⟨he, x⟩, c⟩ => hQ env he s' x ?_) fun _ _ z => z
  rw [he]; exact c
end Mine
end
section
open PySem.Calls PySem.Spec PySem.SeqAt
namespace Mine
theorem hideQE {α : Type} {M : Model} {A : Around} {c : Sem α} {Q : α → Shared → Prop} {E : Value → Shared → Prop} {s : Shared} (h : ∀ (Q' : α → Shared → Prop) (E' : Value → Shared → Prop), (∀ v s, Q v s → Q' v s) → (∀ e s, E e s → E' e s) → wpAny M A c Q' E' s) : wpAny M A c Q E s :=
  h Q E (fun _ _ x => x) fun _ _ x => x
structure Sep (F : List Addr) (H : Heap → Prop) : Prop where
  live : ∀ h, H h → ∀ b ∈ F, ∃ o, h.get? b = some o ∧ o.cls ≠ .type "frame"
  loc : ∀ h h', H h → (∀ b ∈ F, ∀ o, h.get? b = some o → h'.get? b = some o) → H h'

section
variable {w : World} {h₀ : Heap} {k : Nat} {sc : Scope} {δ : Str → Option PyData} {N : Nat} {X F : List Addr} {H : Heap → Prop}

theorem Sep.kpx {h h' : Heap} (S : Sep F H) (x : H h) (q : KpX X N h h') (hd : ∀ a ∈ X, a ∉ F) : H h' := S.loc h h' x fun b hb o e => by
  obtain ⟨o', e', hc⟩ := S.live h x b hb
  rw [e] at e'; cases e'
  exact q.get (fun z => hd b z hb) e hc
theorem Sep.kp {h h' : Heap} (S : Sep F H) (x : H h) (q : Kp N h h') : H h' := S.loc h h' x fun b hb o e => by
  obtain ⟨o', e', hc⟩ := S.live h x b hb
  rw [e] at e'; cases e'
  exact q.get e hc

noncomputable def updV (ν : Str → Option Value) (x : Str) (v : Value) : Str → Option Value := fun y => if y = x then some v else ν y

structure Cx (X F : List Addr) (h : Heap) (env : Env) (sc : Scope) (δ : Str → Option PyData) (ν : Str → Option Value) (H : Heap → Prop) : Prop where
  er : EnvR (F ++ X) h env sc δ
  nb : ∀ y v, ν y = some v → Bound h env sc y v
  hp : H h
  sep : Sep F H
  dis : ∀ a ∈ X, a ∉ F
  own : Off F env

variable {ν : Str → Option Value} {env : Env}

theorem Cx.kp {h h' : Heap} (c : Cx X F h env sc δ ν H) (q : Kp N h h') : Cx X F h' env sc δ ν H :=
  ⟨c.er.kp q, fun y v e => (c.nb y v e).kp q, c.sep.kp c.hp q, c.sep, c.dis, c.own⟩
theorem Cx.forget {h : Heap} {δ' : Str → Option PyData} {ν' : Str → Option Value} (c : Cx X F h env sc δ ν H) (h1 : ∀ y d, δ' y = some d → δ y = some d) (h2 : ∀ y v, ν' y = some v → ν y = some v) : Cx X F h env sc δ' ν' H :=
  ⟨c.er.forget h1, fun y v e => c.nb y v (h2 y v e), c.hp, c.sep, c.dis, c.own⟩

theorem Cx.turn {h h' : Heap} {F' : List Addr} {H' : Heap → Prop} (c : Cx X F h env sc δ ν H) (q : KpX F N h h') (hF : ∀ a ∈ F', a ∈ F ∨ h.get? a = none) (S : Sep F' H') (x : H' h') : Cx X F' h' env sc δ ν H' := by
  have e1 := c.er.kpx q (fun a ha => List.mem_append_left _ ha) c.own
  have hX : ∀ a ∈ X, a ∉ F' := fun a ha z => (hF a z).elim (c.dis a ha) fun e => by
    obtain ⟨o, e'⟩ := c.er.low a (List.mem_append_right _ ha); rw [e] at e'; cases e'
  refine ⟨⟨e1.kind, e1.glb, e1.bi, e1.kinds, fun y d e => ?_, fun a ha => ?_, e1.apart, e1.cells, e1.loc, e1.cel⟩, fun y v e => (c.nb y v e).kpx c.own q, x, S, hX, fun a ha => (hF a ha).elim (c.own a) fun e => c.er.off_fresh (X := [a]) (fun b hb => by rw [List.mem_singleton.mp hb]; exact e) a (.head _)⟩
  · obtain ⟨v, r, b⟩ := c.er.val y d e
    refine ⟨v, ?_, b.kpx c.own q⟩
    exact (r.more (O' := F ++ (F' ++ X)) fun a ha => by
      rcases List.mem_append.mp ha with z | z
      · exact .inl (List.mem_append_left _ z)
      rcases List.mem_append.mp z with z | z
      · exact (hF a z).imp (List.mem_append_left _) id
      · exact .inl (List.mem_append_right _ z)).kpx q (fun a ha => List.mem_append_left _ ha) |>.sub fun a ha => List.mem_append_right _ ha
  · rcases List.mem_append.mp ha with z | z
    · obtain ⟨o, e, _⟩ := S.live h' x a z; exact ⟨o, e⟩
    · exact q.there (c.er.low a (List.mem_append_right _ z))

theorem EnvR.put {O : List Addr} {h : Heap} (er : EnvR O h env sc δ) {x : Str} {v : Value} {d : PyData} (b : Bound h env sc x v) (r : Rd O h v d) : EnvR O h env sc (upd δ x d) :=
  ⟨er.kind, er.glb, er.bi, er.kinds, fun y d' e => by
    unfold upd at e
    split at e
    · rename_i hy; cases e; subst hy; exact ⟨v, r, b⟩
    · exact er.val y d' e, er.low, er.apart, er.cells, er.loc, er.cel⟩
theorem Cx.put {h : Heap} (c : Cx X F h env sc δ ν H) {x : Str} {v : Value} {d : PyData} (hx : ν x = some v) (r : Rd (F ++ X) h v d) : Cx X F h env sc (upd δ x d) ν H :=
  ⟨c.er.put (c.nb x v hx) r, c.nb, c.hp, c.sep, c.dis, c.own⟩

theorem Cx.store {A : Around} {s : Shared} {x : Str} {v : Value} {Q : Unit → Shared → Prop} {E : Value → Shared → Prop} (c : Cx X F s.heap env sc δ ν H) (hw : Wrt X env sc x) (hδ : δ x = none)
    (h : ∀ h1 t1, Cx X F h1 env sc δ (updV ν x v) H → KpX X N s.heap h1 → Q () { s with heap := h1, toks := t1 }) : wpAny (model P w) A (storeName env x v) Q E s := by
  refine store_any (N := N) δ c.er hw (fun a ha => List.mem_append_right _ ha) (fun _ _ _ e => e) (fun d e => by rw [hδ] at e; cases e) fun h' tk er' hb ho kp => ?_
  refine h h' tk ⟨er', fun y u e => ?_, c.sep.kpx c.hp kp c.dis, c.sep, c.dis, c.own⟩ kp
  unfold updV at e
  split at e
  · rename_i hy; cases e; subst hy; exact hb
  · rename_i hy; exact ho y u hy (c.nb y u e)
noncomputable def RE (w : World) (h₀ : Heap) (k : Nat) (X F : List Addr) (env : Env) (sc : Scope) (δ : Str → Option PyData) (ν : Str → Option Value) (H : Heap → Prop) (e : Expr) (v : Value) : Prop :=
  ∀ (A : Around) (s : Shared) (Q : Value → Shared → Prop) (E : Value → Shared → Prop), Ok h₀ k A s.heap → Cx X F s.heap env sc δ ν H →
    (∀ h1 t1, Ok h₀ k A h1 → Cx X F h1 env sc δ ν H → Kp h₀.objs.size s.heap h1 → Q v { s with heap := h1, toks := t1 }) → wpAny (model P w) A (eval e env) Q E s
theorem re_name {x : Str} {v : Value} {p : Pos} (hx : ν x = some v) (hd : (x == ("__debug__" : Str)) = false := by decide) (hc : (x == ("__classdict__" : Str)) = false := by decide) : RE w h₀ k X F env sc δ ν H (.Name x p) v :=
  fun A s Q E ok c h => wpAny_Name (load_bound c.er (c.nb x v hx) (h s.heap s.toks ok c (.refl _ _)) hc) hd
theorem EvE.cx {e : Expr} {d : PyData} (x : EvE w h₀ k sc δ e d) {A : Around} {s : Shared} {Q : Value → Shared → Prop} {E : Value → Shared → Prop} (ok : Ok h₀ k A s.heap) (c : Cx X F s.heap env sc δ ν H)
    (h : ∀ v h1 t1, Rd (F ++ X) h1 v d → Ok h₀ k A h1 → Cx X F h1 env sc δ ν H → Kp h₀.objs.size s.heap h1 → Q v { s with heap := h1, toks := t1 }) : wpAny (model P w) A (eval e env) Q E s :=
  x.then ok c.er fun v h1 t1 r q ok1 _ => h v h1 t1 r ok1 (c.kp q) q

noncomputable def frs (fs : List Env) : List Addr := fs.filterMap (·.frame)
structure FrI (h₀ : Heap) (A : Around) (h : Heap) : Prop where
  fr : ∀ fs, A.frames = some fs → ∀ L ∈ frs fs, h₀.objs.size ≤ L ∧ ClsIs h L (.type "frame")
  low : ∃ o, h.get? h₀.objs.size = some o
theorem FrI.kpx {A : Around} {h h' : Heap} (x : FrI h₀ A h) (q : KpX X N h h') : FrI h₀ A h' :=
  ⟨fun fs e L hL => let ⟨h1, o, h2, h3⟩ := x.fr fs e L hL; let ⟨o', e', _, c⟩ := q.aliveC h2; ⟨h1, o', e', c.trans h3⟩, q.there x.low⟩
theorem FrI.kp {A : Around} {h h' : Heap} (x : FrI h₀ A h) (q : Kp N h h') : FrI h₀ A h' := x.kpx (X := []) q.x
theorem frs_cons {env : Env} {fs : List Env} {L : Addr} (h : env.frame = some L) : frs (env :: fs) = L :: frs fs := by
  unfold frs; rw [List.filterMap_cons, h]
theorem FrI.call {A A' : Around} {h h1 h2 : Heap} {env : Env} {fs : List Env} {L : Addr} (x : FrI h₀ A h) (k1 : Kp N h h1) (k2 : Kp N h1 h2) (e1 : A.frames = some fs) (e2 : A'.frames = some (env :: fs)) (hf : env.frame = some L) (hL : h1.objs.size ≤ L) (hc : ClsIs h2 L (.type "frame")) : FrI h₀ A' h2 := by
  have x1 := x.kp k1
  have x2 := x1.kp k2
  refine ⟨fun fs' e L' hL' => ?_, x2.low⟩
  rw [e2] at e; cases e
  rw [frs_cons hf] at hL'
  rcases List.mem_cons.mp hL' with rfl | q
  · obtain ⟨o, ho⟩ := x1.low
    exact ⟨Nat.le_trans (Nat.le_of_lt (Heap.lt_size ho)) hL, hc⟩
  · exact x2.fr fs e1 L' q
theorem FrI.top {A : Around} {h : Heap} (t : TopF h₀ A h) : FrI h₀ A h := by
  obtain ⟨t1, o, t2, t3⟩ := t
  exact ⟨fun fs e L hL => by rw [t1 fs e L hL]; exact ⟨Nat.le_refl _, o, t2, t3⟩, o, t2⟩
theorem cells_none : ∀ {names : List (Str × NameKind)}, (∀ p ∈ names, p.2 ≠ .cell) → ∀ n acc, cellsFrom n names acc = acc
  | [], _, _, _ => rfl
  | (x, kd) :: r, h, n, acc => by
    unfold cellsFrom
    have : (kd == NameKind.cell) = false := by
      have := h (x, kd) (.head _)
      cases kd <;> first | rfl | exact absurd rfl this
    rw [this]
    exact cells_none (fun p hp => h p (.tail _ hp)) n acc

noncomputable def Fn (h₀ : Heap) (f : Addr) (ps : Arguments) (body : List Stmt) (sc : Scope) (dV : Value) : Prop :=
  ∃ o name qual doc pm cdv ct, h₀.get? f = some o ∧ o.data = .func (fnOf name qual ps body sc dV .none doc pm none cdv ct) ∧ h₀.CodeRec cdv qual

theorem code_fn {f : Addr} {ps : Arguments} {body : List Stmt} {dV : Value} {names : List Str} {args : Args} {A : Around} {s : Shared} {R : Result → Shared → Prop} {PB : Heap → List Value → Prop} (hlim : h₀.NoLimit) (hf : Fn h₀ f ps body sc dV)
    (hbind : ∀ name qual doc pm cdv ct (A : Around) (E : Value → Shared → Prop) (Q : List (Str × Value) → Shared → Prop), (∀ h1 vs, PB h1 vs → Q (names.zip vs) { s with heap := h1 }) → wpAny (model P w) A (bindArgs (fnOf name qual ps body sc dV .none doc pm none cdv ct) args) Q E s)
    (hPB : ∀ h1 vs, PB h1 vs → Kp h₀.objs.size s.heap h1) (hnd : names.Nodup) (hloc : ∀ x ∈ names, sc.names.lookup x = some .local) (hnc : ∀ p ∈ sc.names, p.2 ≠ .cell ∧ p.2 ≠ .free)
    (ok : Ok h₀ (k + 1) A s.heap)
    (h : ∀ h1 vs L env A' h2 t2, PB h1 vs → h1.get? L = none → EnvR [L] h2 env sc (fun _ => none) → Wr [L] env sc → (∀ (i : Nat) y v, names[i]? = some y → vs[i]? = some v → Bound h2 env sc y v) → env.locals = L → env.cells = [] → Kp h₀.objs.size h1 h2 → Ok h₀ k A' h2 →
      (env.frame = some L ∧ (∃ fs, A.frames = some fs ∧ A'.frames = some (env :: fs) ∧ h2.FunFrames h₀ (env :: fs)) ∧ h1.objs.size ≤ L ∧ ClsIs h2 L (.type "frame")) →
      wpAny (model P w) A' (execs body env) (fun fl s' => R (.ok (.ret (match fl with | .ret v => v | _ => .none))) s')
        (fun e s' => wpAny (model P w) A' (leaving env e) (fun _ s'' => R (.error e) s'') (fun e' s'' => R (.error e') s'') s') { s with heap := h2, toks := t2 })
    (hkind : sc.kind = .function := by rfl) (hco : sc.isCoroutine = false := by rfl) (hgen : sc.isGenerator = false := by rfl) :
    codeAny (model P w) A (.call (.ref f) args) R s := by
  obtain ⟨o, name, qual, doc, pm, cdv, ct, ho, hdata, hcd⟩ := hf
  refine codeAny_call_function (by have := ok.depth; have : recursionLimit = 1000 := rfl; omega) (ok.stays _ _ ho) hdata hco hgen rfl (hcd.keeps ok.stays) (hbind name qual doc pm cdv ct _ _ _ fun h1 vs pb => ?_)
  have kp1 := hPB h1 vs pb
  have ok1 := ok.kp kp1
  refine newEnvF (s := { s with heap := h1 }) hkind (fun p hp => .inl (hloc p.1 (List.of_mem_zip (a := p.1) (b := p.2) hp).1)) (fun env he s₁ x cl => ?_)
  have hcs : cellsFrom (h1.objs.size + 1) sc.names [] = [] := cells_none (fun p hp => (hnc p hp).1) _ _
  have hE : env.frame = some h1.objs.size ∧ env.locals = h1.objs.size ∧ env.cells = [] ∧ env.scope = sc ∧ env.globals = mainGlobals ∧ env.builtins = builtinsNs := by
    rw [he]; exact ⟨rfl, rfl, hcs, rfl, rfl, rfl⟩
  obtain ⟨hE1, hE2, hE3, hE4, hE5, hE6⟩ := hE
  have hko : ∀ y, env.kindOf y = sc.names.lookup y := fun y => by show env.scope.names.lookup y = _; rw [hE4]
  have hns := x.toInCall.ns
  have keep := x.toInCall.keep
  obtain ⟨h2, t2, rfl⟩ := x.toInCall.same
  rw [hE2] at hns cl
  have kp2 : Kp h₀.objs.size h1 h2 := .of_keeps keep
  have hL : h1.get? h1.objs.size = none := dead_size _ (Nat.le_refl _)
  refine ⟨hlim.keeps fun b o e => keep b o (ok1.stays b o e), codeAny_func ?_⟩
  have hkE : env.scope.kind = .function := by rw [hE4]; exact hkind
  have okd := Ok.deeper (env := env) (s := { s with heap := h1 }) (s₁ := { s with heap := h2 }) ok1 hkE hE1 hns hL kp2
  have hfs : ∃ fs, A.frames = some fs ∧ (A.deeper env).frames = some (env :: fs) ∧ h2.FunFrames h₀ (env :: fs) := by
    obtain ⟨fs, e, ff⟩ := okd.frames
    obtain ⟨fs', e', f'⟩ := ok.frames
    have : (A.deeper env).frames = some (env :: fs') := by show A.frames.map _ = _; rw [e']; rfl
    rw [this] at e; cases e; exact ⟨_, e', this, ff⟩
  refine h h1 vs h1.objs.size env _ h2 _ pb hL ⟨hkE, hE5, hE6, fun y kd q => .inl (by rw [hko]; exact q), fun y d e => (by cases e), fun b hb => ?_, fun x y c e => (by rw [hE3] at e; cases e), fun x q => ?_, ⟨_, hE2 ▸ hns⟩, fun x c e => (by rw [hE3] at e; cases e)⟩ (fun y q => ?_) (fun i y v e1 e2 => .inl ⟨hloc y (List.mem_of_getElem? e1), _, hE2 ▸ hns, ?_⟩) hE2 hE3 kp2 okd ⟨hE1, hfs, Nat.le_refl _, cl⟩
  · rw [List.mem_singleton.mp hb]
    obtain ⟨o, _, _, e, _⟩ := hns; exact ⟨o, e⟩
  · rcases q with q | q
    · exact absurd rfl (hnc _ (PySem.mem_of_lookup q)).1
    · exact absurd rfl (hnc _ (PySem.mem_of_lookup q)).2
  · rcases q with q | q
    · exact .inl ⟨q, by rw [hE2]; exact .head _⟩
    · exact absurd rfl (hnc _ (PySem.mem_of_lookup q)).1
  · exact bindL_at hnd e1 e2 (by rw [hko]; exact hloc y (List.mem_of_getElem? e1))
end
end Mine
end
section
open PySem.Calls PySem.Spec PySem.SeqAt Builtin Builtin.ObjectAttr
set_option maxRecDepth 100000
namespace Mine
noncomputable def Ent (e : DictEntry) (p : Str × Value) : Prop := (∃ t, e.key = .str p.1 t) ∧ e.val = p.2
noncomputable def AD (h : Heap) (dx : Addr) (al : List (Str × Value)) : Prop := ∃ es n, h.get? dx = some (dictOf es n) ∧ Paired Ent es al
noncomputable def putA (name : Str) (v : Value) : List (Str × Value) → List (Str × Value)
  | [] => [(name, v)]
  | p :: r => if p.1 = name then (p.1, v) :: r else p :: putA name v r
theorem isStr_str (a b : Str) (t : Tok) : (Value.str a t).isStr b = (a == b) := rfl
theorem ent_find {name : Str} {es : List DictEntry} {al : List (Str × Value)} (r : Paired Ent es al) : (es.find? (·.key.isStr name)).map (·.val) = al.lookup name := by
  induction r with
  | nil => rfl
  | @cons e p es al h _ ih =>
    obtain ⟨⟨t, h1⟩, h2⟩ := h
    rw [List.find?_cons, List.lookup_cons, h1, isStr_str]
    have e1 : (name == p.1) = (p.1 == name) := Bool.beq_comm
    rw [e1]
    cases q : (p.1 == name) with
    | true => simp [h2]
    | false => simpa using ih
theorem ent_refKey {es : List DictEntry} {al : List (Str × Value)} (r : Paired Ent es al) : es.any (·.refKey) = false := by
  induction r with
  | nil => rfl
  | cons h _ ih =>
    obtain ⟨⟨t, h1⟩, h2⟩ := h
    rw [List.any_cons, ih, DictEntry.refKey, h1]; rfl
theorem ent_getL {name : Str} {es : List DictEntry} {al : List (Str × Value)} (r : Paired Ent es al) : getL name es = some (al.lookup name) := by
  unfold getL
  have := ent_find (name := name) r
  cases q : es.find? (·.key.isStr name) with
  | some e => rw [q] at this; rw [← this]; rfl
  | none => rw [q] at this; rw [← this, ent_refKey r]; rfl
theorem ent_putL {name : Str} {hsh : Int} {t : Tok} {v : Value} {es : List DictEntry} {al : List (Str × Value)} (r : Paired Ent es al) : Paired Ent (putL name hsh (.str name t) v es) (putA name v al) := by
  induction r with
  | nil => exact .cons ⟨⟨t, rfl⟩, rfl⟩ .nil
  | @cons e p es al h r ih =>
    obtain ⟨⟨u, h1⟩, h2⟩ := h
    unfold putL putA
    rw [h1, isStr_str]
    by_cases q : p.1 = name
    · rw [if_pos (by simpa using q), if_pos q]
      exact .cons ⟨⟨u, rfl⟩, rfl⟩ r
    · rw [if_neg (by simpa using q), if_neg q]
      exact .cons ⟨⟨u, h1⟩, h2⟩ ih
theorem putA_len (name : Str) (v : Value) : ∀ al, (putA name v al).length ≤ al.length + 1
  | [] => Nat.le_refl _
  | p :: r => by
    unfold putA
    split
    · simp
    · have := putA_len name v r; simp; omega
theorem AD.sameBut {h h' : Heap} {a b al} (x : AD h a al) (hs : Heap.SameBut b h h') (hab : a ≠ b) : AD h' a al := let ⟨es, n, e, r⟩ := x; ⟨es, n, (hs.2 a hab).trans e, r⟩

structure ClsK (K : Frag) (C : Addr) : Prop where
  ga : findIn K (.ref C) "__getattribute__" = some (some (.builtin "object.__getattribute__"))
  gk : findIn K (.ref C) "__getattr__" = some none
  sa : findIn K (.ref C) "__setattr__" = some (some (.builtin "object.__setattr__"))
  po : plainOver K C = true
  makes : makesIn K C = true

section
variable {w : World} {h₀ : Heap} {k : Nat} {A : Around} {E : Value → Shared → Prop} {s : Shared} {K : Frag} {C x dx : Addr} {al : List (Str × Value)} {name : Str}

theorem inst_dict {es : List DictEntry} {n : Nat} (hx : s.heap.get? x = some (instObj C dx)) (hd : s.heap.get? dx = some (dictOf es n)) : InstAt s.heap x (instObj C dx) C (some (dictOf es n)) := ⟨hx, rfl, rfl, hd⟩

theorem get_attr {v : Value} {expr : Bool} {Q : Value → Shared → Prop} (X : K.In s.heap) (c : ClsK K C) (hh : hasDictIn K C = true) (ha : findIn K (.ref C) name = some none) (hx : s.heap.get? x = some (instObj C dx)) (hd : AD s.heap dx al)
    (hl : al.lookup name = some v) (hv : handedIn v = true) (h : Q v { s with toks := s.toks + 1 }) : wpAny (model P w) A (getAttr (.ref x) name expr) Q E s := by
  obtain ⟨es, n, e, r⟩ := hd
  refine get_value X (inst_dict hx e) c.ga (findObj_own hh ha rfl ?_) hv h
  show getL name es = _
  rw [ent_getL r, hl]

theorem osa_ad {v : Value} {tk : Tok} {R : Result → Shared → Prop} (X : K.In s.heap) (c : ClsK K C) (hh : hasDictIn K C = true) (ht : takerIn K C name = some none) (hx : s.heap.get? x = some (instObj C dx)) (hd : AD s.heap dx al) (hz : al.length ≤ 100)
    (h : ∀ h', AD h' dx (putA name v al) → Heap.SameBut dx s.heap h' → R (.ok (.ret .none)) { s with heap := h', toks := s.toks + 1 }) :
    codeAny (model P w) A (.call (.builtin "object.__setattr__") ⟨[.ref x, .str name tk, v], []⟩) R s := by
  obtain ⟨es, n, e, r⟩ := hd
  have I := inst_dict hx e
  refine osa_open X I c.po ht fun b => ?_
  obtain ⟨cd, hc, hd'⟩ := any_some hh
  refine wpAny_bind (wpAny_pure (wpAny_bind (wpAny_bind (wpAny_loadPart hx (wpAny_bind ((looks_clsIn X hc).here ?_))))))
  rw [hd']
  refine wpAny_pure (a := some dx) (wpAny_bind (wpAny_pure (wpAny_bind ?_)))
  unfold nsSet
  refine wpAny_bind (wpAny_bind (wpAny_askSetting (wpAny_pure (wpAny_bind (wpAny_mkText (wpAny_bind (wpAny_loadPart e ?_)))))))
  dsimp only
  have cc : (!es.toArray.any (·.key.isStr name) && es.toArray.any (·.refKey)) = false := by
    rw [← Array.any_toList, ← Array.any_toList]
    show (!es.any (·.key.isStr name) && es.any (·.refKey)) = false
    rw [ent_refKey r, Bool.and_false]
  rw [aRefKeyMayBeTheName_at, cc]
  refine wpAny_updatePart e ?_
  have e' : (s.heap.update dx (Obj.putName name (PyData.keyHash w.params name) (.str name s.toks) v)).get? dx = some (dictOf (putL name (PyData.keyHash w.params name) (.str name s.toks) v es) (putN name es n)) := by
    have := Heap.get?_update_self (Obj.putName name (PyData.keyHash w.params name) (.str name s.toks) v) e (by rw [putName_dict]; rfl)
    rw [this, putName_dict]
  have r' := ent_putL (name := name) (hsh := PyData.keyHash w.params name) (t := s.toks) (v := v) r
  refine wpAny_bind (wpAny_lookBehind e' (pastItsLine_dict ?_) ?_)
  · have h1 := r'.length
    have h2 := putA_len name v al
    rw [List.size_toArray, sizeLine_eq, h1]; omega
  · exact wpAny_pure (h _ ⟨_, _, e', r'⟩ (Heap.SameBut.update ..))
theorem set_attr {v : Value} {Q : Unit → Shared → Prop} (X : K.In s.heap) (c : ClsK K C) (hh : hasDictIn K C = true) (ht : takerIn K C name = some none) (hx : s.heap.get? x = some (instObj C dx)) (hd : AD s.heap dx al) (hz : al.length ≤ 100)
    (h : ∀ h', AD h' dx (putA name v al) → Heap.SameBut dx s.heap h' → Q () { s with heap := h', toks := s.toks + 2 }) : wpAny (model P w) A (setAttr (.ref x) name v) Q E s := by
  obtain ⟨es, n, e, r⟩ := id hd
  exact set_plain X (inst_dict hx e) c.sa (osa_ad (s := { s with toks := s.toks + 1 }) X c hh ht hx hd hz fun h' a b => h h' a b)
end
end Mine
end
section
open PySem.Calls PySem.Spec PySem.SeqAt Builtin Builtin.ObjectAttr Builtin.Getset_descriptor
set_option maxRecDepth 100000
set_option maxHeartbeats 4000000
namespace Mine
structure SlotK (K : Frag) (C : Addr) (name : Str) (p i : Nat) : Prop where
  find : findIn K (.ref C) name = some (some (.ref p))
  get : specialIn K (.ref p) "__get__" = some (some (.builtin "member_descriptor.__get__"))
  takes : takesIn K (.ref p) = some true
  taker : takerIn K C name = some (some (.ref p))
  typ : typeIn K (.ref p) = some (.type "member_descriptor")
  slot : slotIn K p C = some i
  lt : i < 1000

section
variable {w : World} {h₀ : Heap} {k : Nat} {A : Around} {E : Value → Shared → Prop} {s : Shared} {K : Frag} {C x dx : Addr} {name : Str} {p i : Nat} {sl : Array (Option Value)} {od : Obj}

theorem inst_slots (hx : s.heap.get? x = some ⟨.ref C, some dx, .plain, sl⟩) (hd : s.heap.get? dx = some od) : InstAt s.heap x ⟨.ref C, some dx, .plain, sl⟩ C (some od) := ⟨hx, rfl, rfl, hd⟩

theorem get_slotM {v : Value} {expr : Bool} {Q : Value → Shared → Prop} (X : K.In s.heap) (c : ClsK K C) (hc : (clsIn K C).isSome = true) (S : SlotK K C name p i) (hx : s.heap.get? x = some ⟨.ref C, some dx, .plain, sl⟩) (hd : s.heap.get? dx = some od)
    (hv : (sl[i]?).join = some v) (hh : handedIn v = true) (h : Q v { s with toks := s.toks + 1 }) : wpAny (model P w) A (getAttr (.ref x) name expr) Q E s :=
  get_bind X (inst_slots hx hd) c.ga (findObj_data hc S.find S.get S.takes) c.gk (wpAny_call (slot_get (s := { s with toks := s.toks + 1 }) X (inst_slots (s := { s with toks := s.toks + 1 }) hx hd) S.slot hv (handed_on hh h)))

theorem slot_setM {v : Value} {R : Result → Shared → Prop} {ox : Obj} {od : Option Obj} (X : K.In s.heap) (I : InstAt s.heap x ox C od) (hp : slotIn K p C = some i) (hi : i < 1000)
    (h : R (.ok (.ret .none)) { s with heap := s.heap.update x fun o => { o with slots := (o.slots ++ Array.replicate (i + 1 - o.slots.size) none).setIfInBounds i (some v) } }) :
    codeAny (model P w) A (.call (.builtin "member_descriptor.__set__") ⟨[.ref p, .ref x, v], []⟩) R s := by
  obtain ⟨n, tn, owner, behind, tb, d, sl, cd, ho, hc, hm, hb, rfl⟩ := slot_of X hp
  obtain ⟨hh, g, dr, t, os⟩ := s
  have L0 := I.type (M := model P w)
  have L1 := looks_mroIn (M := model P w) X hm
  have L2 : Looks (model P w) hh (Slots.slotNamesOf (.ref C)) cd.slotNames := (looks_clsIn X hc).andThen .now
  have hx := I.at_
  dsimp only at ho hx L0 L1
  have f0 := looks_field (M := model P w) ho 0 (v := .str n tn) rfl
  have f1 := looks_field (M := model P w) ho 1 (v := owner) rfl
  have f3 := looks_field (M := model P w) ho 3 (v := .builtin "proto.slot#set") rfl
  have f4 := looks_field (M := model P w) ho 4 (v := .int behind tb) rfl
  refine codeAny_call_builtin KF.slot_mset.plain KF.entry_mset (KF.slot_mset.check _ _ _ _ _ _ _ _ ⟨_, ho, rfl⟩ (KF.args_mset _ _ _) ?_)
  unfold Builtin.«member_descriptor.__set__» descrSet descrStoreThrough descrCheckInstance descrNameAndClass isInstance
  have f5 : Looks (model P w) hh (descrItself (.ref p)) [.ref p] := ((Looks.ld (part := none) ho).andThen .now).andThen (Looks.of_pure (by kernel_rfl))
  repeat lk
  refine ⟨Code.quiet_builtin _ (by decide +kernel), codeAny_builtin KF.entry_slotset ?_⟩
  unfold Builtin.«proto.slot#set» Slots.target
  repeat lk
  rw [if_neg hb]
  refine wpAny_pure (wpAny_bind ?_)
  unfold setSlotAt
  dsimp only
  rw [if_neg (by rw [sizeLine_eq]; omega)]
  exact wpAny_updatePart hx (wpAny_pure h)

theorem set_slotM {v : Value} {Q : Unit → Shared → Prop} (X : K.In s.heap) (c : ClsK K C) (S : SlotK K C name p i) (hx : s.heap.get? x = some ⟨.ref C, some dx, .plain, sl⟩) (hd : s.heap.get? dx = some od)
    (h : ∀ h', h'.get? x = some ⟨.ref C, some dx, .plain, (sl ++ Array.replicate (i + 1 - sl.size) none).setIfInBounds i (some v)⟩ → Heap.SameBut x s.heap h' → Q () { s with heap := h', toks := s.toks + 1 }) :
    wpAny (model P w) A (setAttr (.ref x) name v) Q E s := by
  have I := inst_slots hx hd
  refine set_plain X I c.sa (osa_descr (s := { s with toks := s.toks + 1 }) KF.slot_mset X I c.po S.taker S.typ (slot_setM (s := { s with toks := s.toks + 1 }) X I S.slot S.lt ?_))
  exact h _ (Heap.get?_update_self _ hx rfl) (Heap.SameBut.update ..)
end
end Mine
end
section
open PySem.Calls PySem.Spec PySem.SeqAt Builtin Builtin.ObjectAttr
set_option maxRecDepth 100000
namespace Mine
noncomputable def methD (c j : Nat) : Option (Arguments × List Stmt × Scope) := match P.main.body[c]? with
  | some (.ClassDef (body := b) ..) => (match b[j]? with | some (.FunctionDef (args := a) (body := d) (scope := s) ..) => some (a, d, s) | _ => none)
  | _ => none
noncomputable def mPars (c j : Nat) : Arguments := match methD c j with | some (a, _, _) => a | _ => default
noncomputable def mBody (c j : Nat) : List Stmt := match methD c j with | some (_, b, _) => b | _ => []
noncomputable def mScope (c j : Nat) : Scope := match methD c j with | some (_, _, s) => s | _ => default

structure SK (K : Frag) (h₀ : Heap) : Prop where
  inn : K.In h₀
  lim : h₀.NoLimit
  sysm : ∃ o, h₀.get? sysModules = some o
  ts : ClsK K 137
  tsd : hasDictIn K 137 = true
  ni : ClsK K 40
  nic : (clsIn K 40).isSome = true
  no : ∀ n ∈ (["_node2info", "_ready_nodes", "_npassedout", "_nfinished"] : List Str), findIn K (.ref 137) n = some none ∧ takerIn K 137 n = some none
  sNode : SlotK K 40 "node" 41 0
  sPred : SlotK K 40 "npredecessors" 42 1
  sSuc : SlotK K 40 "successors" 43 2
  meth : ∀ p ∈ ([("__init__", 73), ("_get_nodeinfo", 80), ("add", 87), ("prepare", 92), ("get_ready", 99), ("is_active", 106), ("done", 120), ("_find_cycle", 127)] : List (Str × Nat)), findIn K (.ref 137) p.1 = some (some (.ref p.2)) ∧ typeIn K (.ref p.2) = some (.type "function") ∧ keepIn K (.ref p.2) = true
  niInit : findIn K (.ref 40) "__init__" = some (some (.ref 36)) ∧ typeIn K (.ref 36) = some (.type "function")
  keeps : keepIn K (.ref 40) = true ∧ keepIn K (.ref 137) = true
  f36 : Fn h₀ 36 (mPars 4 1) (mBody 4 1) (mScope 4 1) .none
  f73 : Fn h₀ 73 (mPars 6 0) (mBody 6 0) (mScope 6 0) (.ref 66)
  f80 : Fn h₀ 80 (mPars 6 1) (mBody 6 1) (mScope 6 1) .none
  f87 : Fn h₀ 87 (mPars 6 2) (mBody 6 2) (mScope 6 2) .none
  f92 : Fn h₀ 92 (mPars 6 3) (mBody 6 3) (mScope 6 3) .none
  f99 : Fn h₀ 99 (mPars 6 4) (mBody 6 4) (mScope 6 4) .none
  f106 : Fn h₀ 106 (mPars 6 5) (mBody 6 5) (mScope 6 5) .none
  f120 : Fn h₀ 120 (mPars 6 7) (mBody 6 7) (mScope 6 7) .none
  f127 : Fn h₀ 127 (mPars 6 8) (mBody 6 8) (mScope 6 8) .none
  dflt : ∃ o n, h₀.get? 66 = some o ∧ o.data = .seq #[.none] n
  gNI : Gl h₀ "_NodeInfo" (.ref 40)
  gTS : Gl h₀ "TopologicalSorter" (.ref 137)

noncomputable def argV (names : List Str) (vs : List Value) : Str → Option Value := fun x => (names.zip vs).lookup x

section
variable {w : World} {h₀ : Heap} {k : Nat} {sc : Scope} {F : List Addr} {H : Heap → Prop} {env : Env} {K : Frag}

theorem cx_frame {names : List Str} {vs : List Value} {L : Addr} {h : Heap} (er : EnvR [L] h env sc (fun _ => none)) (hb : ∀ (i : Nat) y v, names[i]? = some y → vs[i]? = some v → Bound h env sc y v) (e1 : env.locals = L) (e2 : env.cells = [])
    (x : H h) (S : Sep F H) (hL : L ∉ F) : Cx [L] F h env sc (fun _ => none) (argV names vs) H := by
  refine ⟨⟨er.kind, er.glb, er.bi, er.kinds, fun y d e => (by cases e), fun a ha => ?_, er.apart, er.cells, er.loc, er.cel⟩, fun y v e => ?_, x, S, fun a ha => by rw [List.mem_singleton.mp ha]; exact hL, fun a ha => ⟨fun q => hL (by rw [← e1, ← q]; exact ha), fun y c e => by rw [e2] at e; cases e⟩⟩
  · rcases List.mem_append.mp ha with q | q
    · obtain ⟨o, e, _⟩ := S.live h x a q; exact ⟨o, e⟩
    · exact er.low a q
  · have := PySem.mem_of_lookup e
    obtain ⟨i, hi⟩ := List.mem_iff_getElem?.mp this
    rw [List.getElem?_zip_eq_some] at hi
    exact hb i y v hi.1 hi.2

noncomputable def NiH (x dx : Addr) (sl : Array (Option Value)) (h : Heap) : Prop := h.get? x = some ⟨.ref 40, some dx, .plain, sl⟩ ∧ h.get? dx = some emptyDict
theorem niH_sep {x dx : Addr} {sl : Array (Option Value)} : Sep [x, dx] (NiH x dx sl) := by
  refine ⟨fun h ⟨h1, h2⟩ b hb => ?_, fun h h' ⟨h1, h2⟩ q => ⟨q x (.head _) _ h1, q dx (.tail _ (.head _)) _ h2⟩⟩
  rcases List.mem_cons.mp hb with rfl | hb
  · exact ⟨_, h1, by simp⟩
  · rw [List.mem_singleton.mp hb]; exact ⟨_, h2, by simp⟩

theorem KpX.sameObj {h h' : Heap} {X : List Addr} {N : Nat} {a : Addr} {o : Obj} (hs : Heap.SameBut a h h') (ha : a ∈ X) (e : h'.get? a = some o) {o₀ : Obj} (e0 : h.get? a = some o₀) (hc : o.cls = o₀.cls) (hf : ∀ vs, o.data ≠ .fields vs) : KpX X N h h' :=
  .of_sameBut hs ha ⟨o, e, fun ⟨vs, q⟩ => absurd q (hf vs), fun o₁ q => by rw [e0] at q; cases q; exact hc⟩

theorem SK.kin {h : Heap} (B : SK K h₀) (st : h₀.StaysIn h) : K.In h := B.inn.keeps st

theorem RE.cx {X : List Addr} {δ : Str → Option PyData} {ν : Str → Option Value} {e : Expr} {v : Value} (x : RE w h₀ k X F env sc δ ν H e v) {A : Around} {s : Shared} {Q : Value → Shared → Prop} {E : Value → Shared → Prop} (ok : Ok h₀ k A s.heap) (c : Cx X F s.heap env sc δ ν H)
    (h : ∀ h1 t1, Ok h₀ k A h1 → Cx X F h1 env sc δ ν H → Kp h₀.objs.size s.heap h1 → Q v { s with heap := h1, toks := t1 }) : wpAny (model P w) A (eval e env) Q E s := x A s Q E ok c h

theorem m_niInit (B : SK K h₀) {x dx : Addr} {n : Int} {u : Tok} {A : Around} {s : Shared} {R : Result → Shared → Prop} (ok : Ok h₀ (k + 1) A s.heap) (hx : NiH x dx #[] s.heap) (hne : x ≠ dx) (h0 : h₀.get? x = none ∧ h₀.get? dx = none)
    (h : ∀ l t h1 t1, NiH x dx #[some (.int n u), some (.int 0 t), some (.ref l)] h1 → h1.PlainList l #[] → s.heap.get? l = none → KpX [x] h₀.objs.size s.heap h1 → R (.ok (.ret .none)) { s with heap := h1, toks := t1 }) :
    codeAny (model P w) A (.call (.ref 36) ⟨[.ref x, .int n u], []⟩) R s := by
  refine code_fn (names := ["self", "node"]) (PB := fun h1 vs => h1 = s.heap ∧ vs = [.ref x, .int n u]) B.lim B.f36 (fun name qual doc pm cdv ct A E Q hq => ?_) (fun h1 vs ⟨e, _⟩ => e ▸ .refl _ _) (by decide) (by decide +kernel) (by decide +kernel) ok fun h1 vs L env A' h2 t2 pb hL er hw hb e1 e2 kp ok2 _ => ?_
  · have e : bindArgs (fnOf name qual (mPars 4 1) (mBody 4 1) (mScope 4 1) .none .none doc pm none cdv ct) ⟨[.ref x, .int n u], []⟩ = pure ((["self", "node"] : List Str).zip [.ref x, .int n u]) := rfl
    rw [e]; exact wpAny_pure (hq _ _ ⟨rfl, rfl⟩)
  obtain ⟨rfl, rfl⟩ := pb
  have hLF : L ∉ [x, dx] := fun q => by
    rcases List.mem_cons.mp q with rfl | q
    · rw [hx.1] at hL; cases hL
    · rw [List.mem_singleton.mp q, hx.2] at hL; cases hL
  have hF0 : ∀ a ∈ [x, dx], h₀.get? a = none := fun a ha => by
    rcases List.mem_cons.mp ha with rfl | ha
    · exact h0.1
    · rw [List.mem_singleton.mp ha]; exact h0.2
  have hx2 : NiH x dx #[] h2 := niH_sep.kp hx kp
  have c2 := cx_frame (names := ["self", "node"]) er hb e1 e2 hx2 niH_sep hLF
  refine wpAny_execs_cons (plainObj_wpAny_Assign_Attribute (RE.cx (re_name (v := .int n u) rfl) ok2 c2 fun h3 t3 ok3 c3 k3 => RE.cx (re_name (v := .ref x) rfl) (s := { s with heap := h3, toks := t3 }) ok3 c3 fun h4 t4 ok4 c4 k4 => ?_))
  refine set_slotM (s := { s with heap := h4, toks := t4 }) (B.kin ok4.stays) B.ni B.sNode c4.hp.1 c4.hp.2 fun h5 x5 s5 => ?_
  have n5 : NiH x dx #[some (.int n u)] h5 := ⟨x5, (s5.2 dx (Ne.symm hne)).trans c4.hp.2⟩
  have k5 : KpX [x, dx] h₀.objs.size h4 h5 := .sameObj s5 (.head _) x5 c4.hp.1 rfl (fun _ q => by cases q)
  have c5 := c4.turn k5 (fun a ha => .inl ha) niH_sep n5
  have ok5 := ok4.kpx k5 hF0
  refine wpAny_execs_cons (plainObj_wpAny_Assign_Attribute (EvE.cx (d := .int 0) ev_int (s := { s with heap := h5, toks := t4 + 1 }) ok5 c5 fun v6 h6 t6 r6 ok6 c6 k6 => RE.cx (re_name (v := .ref x) rfl) (s := { s with heap := h6, toks := t6 }) ok6 c6 fun h7 t7 ok7 c7 k7 => ?_))
  obtain ⟨t, rfl⟩ := r6.int_inv
  refine set_slotM (s := { s with heap := h7, toks := t7 }) (B.kin ok7.stays) B.ni B.sPred c7.hp.1 c7.hp.2 fun h8 x8 s8 => ?_
  have n8 : NiH x dx #[some (.int n u), some (.int 0 t)] h8 := ⟨x8, (s8.2 dx (Ne.symm hne)).trans c7.hp.2⟩
  have k8 : KpX [x, dx] h₀.objs.size h7 h8 := .sameObj s8 (.head _) x8 c7.hp.1 rfl (fun _ q => by cases q)
  have c8 := c7.turn k8 (fun a ha => .inl ha) niH_sep n8
  have ok8 := ok7.kpx k8 hF0
  refine wpAny_execs_cons (plainObj_wpAny_Assign_Attribute (fr_nil ([x, dx] ++ [L]) env A' { s with heap := h8, toks := t7 + 1 } _ _ ok8 c8.er fun l h9 t9 vs hl l9 rl k9 => RE.cx (re_name (v := .ref x) rfl) (s := { s with heap := h9, toks := t9 }) (ok8.kp k9) (c8.kp k9) fun h10 t10 ok10 c10 k10 => ?_))
  refine set_slotM (s := { s with heap := h10, toks := t10 }) (B.kin ok10.stays) B.ni B.sSuc c10.hp.1 c10.hp.2 fun h11 x11 s11 => ?_
  have n11 : NiH x dx #[some (.int n u), some (.int 0 t), some (.ref l)] h11 := ⟨x11, (s11.2 dx (Ne.symm hne)).trans c10.hp.2⟩
  have k11 : KpX [x] h₀.objs.size h10 h11 := .sameObj s11 (.head _) x11 c10.hp.1 rfl (fun _ q => by cases q)
  have hlx : l ≠ x := fun q => by rw [q, c8.hp.1] at hl; cases hl
  have hvs : vs = #[] := by cases rl' : vs.toList with | nil => exact Array.toList_eq_nil_iff.mp rl' | cons _ _ => rw [rl'] at rl; cases rl
  have k5' : KpX [x] h₀.objs.size h4 h5 := .sameObj s5 (.head _) x5 c4.hp.1 rfl (fun _ q => by cases q)
  have k8' : KpX [x] h₀.objs.size h7 h8 := .sameObj s8 (.head _) x8 c7.hp.1 rfl (fun _ q => by cases q)
  have kall : KpX [x] h₀.objs.size s.heap h8 := ((kp.trans (k3.trans k4)).x.trans k5').trans ((k6.trans k7).x.trans k8')
  refine wpAny_execs_nil (h l t h11 _ n11 ?_ ?_ (kall.trans ((k9.trans k10).x.trans k11)))
  · rw [← hvs]; exact k11.plain (fun q => hlx (List.mem_singleton.mp q)) (k10.plain l9)
  · cases e : s.heap.get? l with
    | none => rfl
    | some o => obtain ⟨o', e'⟩ := kall.there ⟨o, e⟩; rw [hl] at e'; cases e'
end
end Mine
end
section
open PySem.Calls PySem.Spec PySem.SeqAt Builtin Builtin.ObjectAttr
set_option maxRecDepth 100000
namespace Mine
structure NIa where
  i : Addr
  di : Addr
  l : Addr
  nd : Node
noncomputable def NIa.fp (p : NIa) : List Addr := [p.i, p.di, p.l]
noncomputable def NIa.At (p : NIa) (h : Heap) : Prop := ∃ t1 t2 vs, NiH p.i p.di #[some (.int p.nd.name t1), some (.int p.nd.np t2), some (.ref p.l)] h ∧ h.PlainList p.l vs ∧ IntsAre vs.toList p.nd.suc
structure SS where
  x : Addr
  dx : Addr
  d : Addr
  ps : List NIa
  rd : Option (Addr × List Int)
  pa : Int
  fi : Int
noncomputable def SS.rv (S : SS) : Value := match S.rd with | none => .none | some (r, _) => .ref r
noncomputable def SS.attrs (S : SS) (t t' : Tok) : List (Str × Value) := [("_node2info", .ref S.d), ("_ready_nodes", S.rv), ("_npassedout", .int S.pa t), ("_nfinished", .int S.fi t')]
noncomputable def SS.rdl (S : SS) : List Addr := match S.rd with | none => [] | some (r, _) => [r]
noncomputable def SS.fp (S : SS) : List Addr := S.x :: S.dx :: S.d :: (S.rdl ++ S.ps.flatMap NIa.fp)
noncomputable def SS.nodes (S : SS) : List Node := S.ps.map (·.nd)
noncomputable def SS.kvs (S : SS) : List (Int × Value) := S.ps.map fun p => (p.nd.name, .ref p.i)
structure SS.At (w : World) (h₀ : Heap) (S : SS) (h : Heap) : Prop where
  x : h.get? S.x = some (instObj 137 S.dx)
  ad : ∃ t t', AD h S.dx (S.attrs t t')
  d : h.DictOf (intKind P w) S.d S.kvs
  ps : ∀ p ∈ S.ps, p.At h
  rd : ∀ r l, S.rd = some (r, l) → ∃ vs, h.PlainList r vs ∧ IntsAre vs.toList l
  nd : S.fp.Nodup
  dead : ∀ a ∈ S.fp, h₀.get? a = none

section
variable {w : World} {h₀ : Heap} {k : Nat} {K : Frag}

theorem AD.stay {h h' : Heap} {a : Addr} {al : List (Str × Value)} (x : AD h a al) (q : ∀ o, h.get? a = some o → h'.get? a = some o) : AD h' a al := let ⟨es, n, e, r⟩ := x; ⟨es, n, q _ e, r⟩
theorem NIa.at_sep (p : NIa) : Sep p.fp p.At := by
  refine ⟨fun h ⟨t1, t2, vs, h1, ⟨n, h2⟩, h3⟩ b hb => ?_, fun h h' ⟨t1, t2, vs, h1, ⟨n, h2⟩, h3⟩ q => ⟨t1, t2, vs, ⟨q _ (.head _) _ h1.1, q _ (.tail _ (.head _)) _ h1.2⟩, ⟨n, q _ (.tail _ (.tail _ (.head _))) _ h2⟩, h3⟩⟩
  rcases List.mem_cons.mp hb with rfl | hb
  · exact ⟨_, h1.1, by simp⟩
  rcases List.mem_cons.mp hb with rfl | hb
  · exact ⟨_, h1.2, by simp⟩
  · rw [List.mem_singleton.mp hb]; exact ⟨_, h2, by simp⟩
theorem SS.mem_ps {S : SS} {p : NIa} (h : p ∈ S.ps) {a : Addr} (ha : a ∈ p.fp) : a ∈ S.fp :=
  .tail _ (.tail _ (.tail _ (List.mem_append_right _ (List.mem_flatMap.mpr ⟨p, h, ha⟩))))
theorem SS.mem_rd {S : SS} {r : Addr} {l : List Int} (h : S.rd = some (r, l)) : r ∈ S.fp := .tail _ (.tail _ (.tail _ (List.mem_append_left _ (by unfold SS.rdl; rw [h]; exact .head _))))
theorem SS.sep {S : SS} : Sep S.fp (S.At w h₀) := by
  refine ⟨fun h a b hb => ?_, fun h h' a q => ⟨q _ (.head _) _ a.x, ?_, ?_, fun p hp => ?_, fun r l e => ?_, a.nd, a.dead⟩⟩
  · rcases List.mem_cons.mp hb with rfl | hb
    · exact ⟨_, a.x, by simp⟩
    rcases List.mem_cons.mp hb with rfl | hb
    · obtain ⟨t, t', es, n, e, _⟩ := a.ad; exact ⟨_, e, by simp⟩
    rcases List.mem_cons.mp hb with rfl | hb
    · obtain ⟨o, es, ep, e, hc, _⟩ := a.d; exact ⟨_, e, by rw [hc.1]; decide⟩
    rcases List.mem_append.mp hb with hb | hb
    · unfold SS.rdl at hb
      split at hb
      · cases hb
      · rename_i r l e
        obtain ⟨vs, ⟨n, e'⟩, _⟩ := a.rd r l e
        rw [List.mem_singleton.mp hb]; exact ⟨_, e', by simp⟩
    · obtain ⟨p, hp, hb⟩ := List.mem_flatMap.mp hb
      exact p.at_sep.live h (a.ps p hp) b hb
  · obtain ⟨t, t', e⟩ := a.ad
    exact ⟨t, t', e.stay fun o e => q _ (.tail _ (.head _)) o e⟩
  · obtain ⟨o, es, ep, e, r⟩ := a.d
    exact ⟨o, es, ep, q _ (.tail _ (.tail _ (.head _))) _ e, r⟩
  · exact p.at_sep.loc h h' (a.ps p hp) fun b hb o e => q b (S.mem_ps hp hb) o e
  · obtain ⟨vs, ⟨n, e1⟩, e2⟩ := a.rd r l e
    exact ⟨vs, ⟨n, q _ (S.mem_rd e) _ e1⟩, e2⟩

structure Turned (w : World) (h₀ : Heap) (S S' : SS) (h h' : Heap) : Prop where
  at_ : S'.At w h₀ h'
  new : ∀ a ∈ S'.fp, a ∈ S.fp ∨ h.get? a = none
  keep : KpX S.fp h₀.objs.size h h'
  same : S'.x = S.x ∧ S'.dx = S.dx ∧ S'.d = S.d

variable {X F : List Addr} {env : Env} {sc : Scope} {δ : Str → Option PyData} {ν : Str → Option Value} {S : SS}

theorem SS.ne_sys (B : SK K h₀) {h : Heap} (a : S.At w h₀ h) : (S.d == sysModules) = false := by
  have e := a.dead S.d (.tail _ (.tail _ (.head _)))
  obtain ⟨o, e'⟩ := B.sysm
  simp only [beq_eq_false_iff_ne, ne_eq]
  intro q
  rw [q, e'] at e; cases e

theorem at_self (B : SK K h₀) {H : Heap → Prop} {p pos : Pos} {name : Str} (hx : ν "self" = some (.ref S.x)) (hn : name ∈ (["_node2info", "_ready_nodes", "_npassedout", "_nfinished"] : List Str)) {A : Around} {s : Shared} {Q : Value → Shared → Prop} {E : Value → Shared → Prop}
    (ok : Ok h₀ k A s.heap) (c : Cx X F s.heap env sc δ ν H) (hH : ∀ h, H h → S.At w h₀ h)
    (h : ∀ v t t' h1 t1, (S.attrs t t').lookup name = some v → AD h1 S.dx (S.attrs t t') → Ok h₀ k A h1 → Cx X F h1 env sc δ ν H → Kp h₀.objs.size s.heap h1 → Q v { s with heap := h1, toks := t1 }) :
    wpAny (model P w) A (eval (.Attribute (.Name "self" p) name pos) env) Q E s := by
  refine Attribute_Name_ (RE.cx (re_name (v := .ref S.x) hx) ok c fun h1 t1 ok1 c1 k1 => ?_)
  have a1 := hH _ c1.hp
  obtain ⟨t, t', ad⟩ := a1.ad
  have hv : ∃ v, (S.attrs t t').lookup name = some v ∧ handedIn v = true := by
    simp only [List.mem_cons, List.not_mem_nil, or_false] at hn
    rcases hn with rfl | rfl | rfl | rfl
    · exact ⟨_, rfl, rfl⟩
    · refine ⟨S.rv, rfl, ?_⟩
      unfold SS.rv; split <;> rfl
    · exact ⟨_, rfl, rfl⟩
    · exact ⟨_, rfl, rfl⟩
  obtain ⟨v, hl, hv⟩ := hv
  exact get_attr (s := { s with heap := h1, toks := t1 }) (B.kin ok1.stays) B.ts B.tsd (B.no name hn).1 a1.x ad hl hv (h v t t' h1 (t1 + 1) hl ad ok1 c1 k1)
end
end Mine
end
section
open PySem.Calls PySem.Spec PySem.SeqAt Builtin Builtin.ObjectAttr
set_option maxRecDepth 100000
namespace Mine
section
variable {w : World} {h₀ : Heap} {k : Nat} {K : Frag} {S : SS}

theorem Ok.underNew {A : Around} {h : Heap} {C : Addr} {rest : List Value} {kw : List (Str × Value)} (ok : Ok h₀ (k + 1) A h) : Ok h₀ k (A.under (.builtin "type.__call__" ⟨.ref C :: rest, kw⟩)) h := by
  refine ⟨ok.hh, ?_, ?_, ?_, ok.stays, by have := ok.lvl; omega, fun q => absurd q (by have := ok.lvl; omega)⟩
  · have e : (A.under (.builtin "type.__call__" ⟨.ref C :: rest, kw⟩)).depth = A.depth + 1 := rfl
    have := ok.depth; rw [e]; omega
  · have e : (A.under (.builtin "type.__call__" ⟨.ref C :: rest, kw⟩)).units = A.units + (Code.builtin "type.__call__" ⟨.ref C :: rest, kw⟩).cUnits := rfl
    have e2 : (Code.builtin "type.__call__" ⟨.ref C :: rest, kw⟩).cUnits = 1 := rfl
    have := ok.units; rw [e]; omega
  · obtain ⟨fs, e, f⟩ := ok.frames
    exact ⟨fs, e, f⟩

theorem meth_frame {f : Addr} {ps : Arguments} {body : List Stmt} {sc : Scope} {names : List Str} {vs : List Value} {A : Around} {s : Shared} {Q : Value → Shared → Prop} {E : Value → Shared → Prop} (B : SK K h₀) (hf : Fn h₀ f ps body sc .none)
    (hbind : ∀ name qual doc pm cdv ct, bindArgs (fnOf name qual ps body sc .none .none doc pm none cdv ct) ⟨vs, []⟩ = pure (names.zip vs)) (hnd : names.Nodup) (hloc : ∀ x ∈ names, sc.names.lookup x = some .local) (hnc : ∀ p ∈ sc.names, p.2 ≠ .cell ∧ p.2 ≠ .free)
    (ok : Ok h₀ (k + 1) A s.heap) (at_ : S.At w h₀ s.heap)
    (h : ∀ L env A' h2 t2, s.heap.get? L = none → Cx [L] S.fp h2 env sc (fun _ => none) (argV names vs) (S.At w h₀) → Wr [L] env sc → Kp h₀.objs.size s.heap h2 → Ok h₀ k A' h2 → h₀.get? L = none →
      (env.frame = some L ∧ (∃ fs, A.frames = some fs ∧ A'.frames = some (env :: fs) ∧ h2.FunFrames h₀ (env :: fs)) ∧ s.heap.objs.size ≤ L ∧ ClsIs h2 L (.type "frame")) →
      wpAny (model P w) A' (execs body env) (fun fl s' => Q (match fl with | .ret v => v | _ => .none) s')
        (fun e s' => wpAny (model P w) A' (leaving env e) (fun _ s'' => E e s'') (fun e' s'' => E e' s'') s') { s with heap := h2, toks := t2 })
    (hkind : sc.kind = .function := by rfl) (hco : sc.isCoroutine = false := by rfl) (hgen : sc.isGenerator = false := by rfl) :
    wpAny (model P w) A (call (.ref f) vs) Q E s := by
  refine wpAny_call (code_fn (names := names) (PB := fun h1 us => h1 = s.heap ∧ us = vs) B.lim hf (fun name qual doc pm cdv ct A E Q hq => ?_) (fun h1 us ⟨e, _⟩ => e ▸ .refl _ _) hnd hloc hnc ok (fun h1 us L env A' h2 t2 pb hL er hw hb e1 e2 kp ok2 fr => ?_) hkind hco hgen)
  · rw [hbind]; exact wpAny_pure (hq _ _ ⟨rfl, rfl⟩)
  obtain ⟨rfl, rfl⟩ := pb
  have hLF : L ∉ S.fp := fun q => by
    obtain ⟨o, e, _⟩ := SS.sep.live _ at_ L q
    rw [hL] at e; cases e
  exact h L env A' h2 t2 hL (cx_frame er hb e1 e2 (SS.sep.kp at_ kp) SS.sep hLF) hw kp ok2 (ok.dead hL) fr

theorem valueAt_kvs (S : SS) (n : Int) : valueAt S.kvs n = (S.ps.find? fun p => p.nd.name == n).map fun p => .ref p.i := by
  unfold SS.kvs valueAt
  induction S.ps with
  | nil => rfl
  | cons p ps ih =>
    rw [List.map_cons, List.find?_cons, List.find?_cons]
    by_cases q : p.nd.name = n
    · simp [q]
    · have e1 : decide (p.nd.name = n) = false := decide_eq_false q
      have e2 : (p.nd.name == n) = false := by simpa using q
      rw [e1, e2]; exact ih
theorem hasN_iff (S : SS) (n : Int) : hasN S.nodes n = (S.ps.find? fun p => p.nd.name == n).isSome := by
  unfold hasN SS.nodes
  induction S.ps with
  | nil => rfl
  | cons p ps ih =>
    rw [List.map_cons, List.any_cons, List.find?_cons, ih]
    cases (p.nd.name == n) <;> simp
end
end Mine
end
section
open PySem.Calls PySem.Spec PySem.SeqAt Builtin Builtin.ObjectAttr
set_option maxRecDepth 100000
namespace Mine
section
variable {w : World} {h₀ : Heap} {k : Nat} {K : Frag} {S : SS}

theorem wpAny_assign_Sub {M : Model} {A : Around} {E : Value → Shared → Prop} {s : Shared} {env : Env} {o i : Expr} {pos : Pos} {v : Value} {Q : Unit → Shared → Prop}
    (h : wpAny M A (eval o env) (fun ov s₁ => wpAny M A (eval i env) (fun iv s₂ => wpAny M A (setItem ov iv v) Q E s₂) E s₁) E s) : wpAny M A (assign (.Subscript o i pos) env v) Q E s := by
  rw [assign_Subscript]
  exact wpAny_bind (wpAny_holding (wpAny_mono h (fun ov s₁ h₁ => wpAny_bind (wpAny_holding (wpAny_mono h₁ (fun iv s₂ h₂ => wpAny_bind (wpAny_standAt (wpAny_bind (wpAny_holding (wpAny_mono h₂ (fun _ _ h₃ => wpAny_release h₃) fun _ _ e => e))))) fun _ _ e => e))) fun _ _ e => e))

theorem SS.fp_add (S : SS) (p : NIa) : ({ S with ps := S.ps ++ [p] } : SS).fp = S.fp ++ p.fp := by
  unfold SS.fp SS.rdl
  simp [List.flatMap_append]
theorem stored_new {kvs : List (Int × Value)} {n : Int} {v : Value} (h : valueAt kvs n = none) : stored kvs n v = kvs ++ [(n, v)] := by
  unfold stored
  rw [if_neg]
  intro q
  unfold valueAt at h
  rw [Option.map_eq_none_iff, List.find?_eq_none] at h
  obtain ⟨x, hx, hq⟩ := List.any_eq_true.mp q
  exact h x hx hq

theorem m_info (B : SK K h₀) {n : Int} {u : Tok} (hsz : S.ps.length ≤ 1000) {A : Around} {s : Shared} {Q : Value → Shared → Prop} {E : Value → Shared → Prop} (ok : Ok h₀ (k + 3) A s.heap) (at_ : S.At w h₀ s.heap)
    (h : ∀ (S' : SS) (p : NIa) h1 t1, Turned w h₀ S S' s.heap h1 → S'.nodes = infoN S.nodes n → p ∈ S'.ps → p.nd.name = n → S'.rd = S.rd ∧ S'.pa = S.pa ∧ S'.fi = S.fi → S'.ps.length ≤ S.ps.length + 1 → Q (.ref p.i) { s with heap := h1, toks := t1 }) :
    wpAny (model P w) A (call (.ref 80) [.ref S.x, .int n u]) Q E s := by
  refine meth_frame (names := ["self", "node"]) B B.f80 (fun _ _ _ _ _ _ => rfl) (by decide) (by decide +kernel) (by decide +kernel) ok at_ fun L env A' h2 t2 hL c2 hw kp ok2 hL0 _ => ?_
  have hX0 : ∀ a ∈ [L], h₀.get? a = none := fun a ha => by rw [List.mem_singleton.mp ha]; exact hL0
  refine hideQE fun Q₁ E₁ hQ₁ _ => ?_
  refine wpAny_execs_cons (wpAny_If (wpAny_isTrue_Compare1 (wpAny_NamedExpr (wpAny_Call_method1_late rfl rfl rfl (at_self (s := { s with heap := h2, toks := t2 }) B rfl (by decide) ok2 c2 (fun _ x => x) fun v t t' h3 t3 hl had ok3 c3 k3 => ?_)))))
  have hv : some (Value.ref S.d) = some v := hl
  cases hv
  refine ⟨"dict", "dict.get", PySem.F.plainAttrs_dict, PySem.F.slot_dict_get, PySem.F.type_dict_get, c3.hp.d.typeIs (s := { s with heap := h3, toks := t3 }), c3.hp.d.mapOf.noDict, wpAny_dict_get1 (knd := intKind P w) (S.ne_sys B c3.hp) (RE.cx (re_name (v := .int n u) rfl) (s := { s with heap := h3, toks := t3 }) ok3 c3 fun h4 t4 ok4 c4 k4 => ⟨n, _, intKind_is P w n u, c4.hp.d.mapOf, ?_⟩)⟩
  refine wpAny_assign_Name (c4.store (N := h₀.objs.size) (s := { s with heap := h4, toks := t4 + 1 }) (hw "result" (.inl (by decide +kernel))) rfl fun h5 t5 c5 k5 => wpAny_Constant_none ?_)
  have ok5 := ok4.kpx k5 hX0
  have k25 : KpX [L] h₀.objs.size s.heap h5 := ((kp.trans k3).trans k4).x.trans k5
  have kS : ∀ {h' : Heap}, KpX [L] h₀.objs.size s.heap h' → KpX S.fp h₀.objs.size s.heap h' := fun q => q.mono fun a ha => .inr (by rw [List.mem_singleton.mp ha]; exact hL)
  rw [valueAt_kvs] at c5 ⊢
  cases e : S.ps.find? fun p => p.nd.name == n with
  | some p =>
    rw [e] at c5
    refine wpAny_is_other rfl (by intro q; cases q) (wpAny_truthy_bool (wpAny_execs_nil ?_))
    refine wpAny_execs_cons (wpAny_Return_some (RE.cx (re_name (v := .ref p.i) rfl) (s := { s with heap := h5, toks := t5 }) ok5 c5 fun h6 t6 ok6 c6 k6 => ?_))
    refine hQ₁ _ _ ?_
    refine h S p h6 t6 ⟨c6.hp, fun a ha => .inl ha, kS (k25.trans k6.x), rfl, rfl, rfl⟩ ?_ (List.mem_of_find?_eq_some e) (by simpa using List.find?_some e) ⟨rfl, rfl, rfl⟩ (Nat.le_succ _)
    unfold infoN; rw [hasN_iff, e]; rfl
  | none =>
    rw [e] at c5
    refine wpAny_is_self rfl (wpAny_truthy_bool ?_)
    refine wpAny_execs_cons (wpAny_Assign_two (Call_Name (trees := _) rfl (load_gl (s := { s with heap := h5, toks := t5 }) ok5 c5.er (by decide +kernel) B.gNI (callWith_K (K := K) B.inn B.keeps.1 (spliced_cons (RE.cx (re_name (v := .int n u) rfl) (s := { s with heap := h5, toks := t5 }) ok5 c5 fun h6 t6 ok6 c6 k6 => spliced_nil ⟨B.kin ok6.stays, ?_⟩)) rfl rfl))))
    have X6 := B.kin ok6.stays
    have d6 : ∀ a, h6.objs.size ≤ a → h6.get? a = none := fun a ha => dead_size _ ha
    have kpp : Kp h₀.objs.size h6 ((h6.push emptyDict).push (instObj 40 h6.objs.size)) := (Kp.push _ _).trans (Kp.push _ _)
    have okp := ok6.kp kpp
    refine wpAny_call (make_core (makes_of X6 B.ni.makes) (looks_findIn X6 B.niInit.1) (fun self => bind_fn X6 self B.niInit.2) (.inl rfl) ?_)
    refine m_niInit (k := k) (s := { s with heap := (h6.push emptyDict).push (instObj 40 h6.objs.size), toks := t6 }) B (dx := h6.objs.size) okp.underNew ⟨?_, ?_⟩ (Nat.succ_ne_self _) ⟨ok6.dead (d6 _ (Nat.le_succ _)), ok6.dead (d6 _ (Nat.le_refl _))⟩ fun l t8 h8 tk8 n8 l8 dl k8 => ⟨rfl, ?_⟩
    · have := Heap.get?_push_size (h6.push emptyDict) (o := instObj 40 h6.objs.size) rfl
      rwa [Heap.size_push] at this
    · exact Heap.get?_push_of_some _ (Heap.get?_push_size _ rfl)
    have k68 : Kp h₀.objs.size h6 h8 := (kpp.x.trans k8).kp fun a ha => by rw [List.mem_singleton.mp ha]; exact d6 _ (Nat.le_succ _)
    have ok8 := ok6.kp k68
    have c8 := c6.kp k68
    have hl6 : h6.get? l = none := by
      cases q : h6.get? l with
      | none => rfl
      | some o => obtain ⟨o', e'⟩ := kpp.there q; rw [dl] at e'; cases e'
    have hxi : ((h6.push emptyDict).push (instObj 40 h6.objs.size)).get? (h6.objs.size + 1) = some (instObj 40 h6.objs.size) := by
      have := Heap.get?_push_size (h6.push emptyDict) (o := instObj 40 h6.objs.size) rfl
      rwa [Heap.size_push] at this
    have hdi : ((h6.push emptyDict).push (instObj 40 h6.objs.size)).get? h6.objs.size = some emptyDict := Heap.get?_push_of_some _ (Heap.get?_push_size _ rfl)
    have hl1 : l ≠ h6.objs.size + 1 := fun q => by rw [q, hxi] at dl; cases dl
    have hl2 : l ≠ h6.objs.size := fun q => by rw [q, hdi] at dl; cases dl
    have hnew : ∀ a ∈ NIa.fp ⟨h6.objs.size + 1, h6.objs.size, l, ⟨n, 0, []⟩⟩, h6.get? a = none := fun a ha => by
      rcases List.mem_cons.mp ha with rfl | ha
      · exact d6 _ (Nat.le_succ _)
      rcases List.mem_cons.mp ha with rfl | ha
      · exact d6 _ (Nat.le_refl _)
      · rw [List.mem_singleton.mp ha]; exact hl6
    have hnS : ∀ a ∈ NIa.fp ⟨h6.objs.size + 1, h6.objs.size, l, ⟨n, 0, []⟩⟩, a ∉ S.fp := fun a ha q => by
      obtain ⟨o, e', _⟩ := SS.sep.live _ c6.hp a q
      rw [hnew a ha] at e'; cases e'
    refine wpAny_assign_Sub (at_self (s := { s with heap := h8, toks := tk8 }) B rfl (by decide) ok8 c8 (fun _ x => x) fun v9 t9 t9' h9 tk9 hl9 had9 ok9 c9 k9 => ?_)
    have hv9 : some (Value.ref S.d) = some v9 := hl9
    cases hv9
    refine RE.cx (re_name (v := .int n u) rfl) (s := { s with heap := h9, toks := tk9 }) ok9 c9 fun h10 t10 ok10 c10 k10 => ?_
    refine wpAny_setItem_pairs (knd := intKind P w) (s := { s with heap := h10, toks := t10 }) (intKind_is P w n u) c10.hp.d (fun h11 d11 s11 => ?_) (by rw [SS.kvs, List.length_map, szl]; omega)
    rw [stored_new (by rw [valueAt_kvs, e]; rfl)] at d11
    have nd := c10.hp.nd
    have hne : ∀ a ∈ S.fp, a ≠ S.d → ∀ o, h10.get? a = some o → h11.get? a = some o := fun a _ hd o e' => (s11.2 a hd).trans e'
    have hxd : S.x ≠ S.d ∧ S.dx ≠ S.d ∧ ∀ a ∈ S.rdl ++ S.ps.flatMap NIa.fp, a ≠ S.d := by
      unfold SS.fp at nd
      obtain ⟨n1, nd⟩ := List.nodup_cons.mp nd
      obtain ⟨n2, nd⟩ := List.nodup_cons.mp nd
      obtain ⟨n3, nd⟩ := List.nodup_cons.mp nd
      exact ⟨fun q => n1 (by rw [q]; exact .tail _ (.head _)), fun q => n2 (by rw [q]; exact .head _), fun a ha q => n3 (q ▸ ha)⟩
    have k811 : KpX S.fp h₀.objs.size h8 h11 := (k9.trans k10).x.trans (by
      obtain ⟨o, es, ep, e', hx', hd', _⟩ := d11
      obtain ⟨o0, _, _, e0, hx0, _⟩ := c10.hp.d
      exact .sameObj s11 (.tail _ (.tail _ (.head _))) e' e0 (by rw [hx'.1, hx0.1]) (fun vs q => by rw [hd'] at q; cases q))
    have hnd : ∀ a ∈ NIa.fp ⟨h6.objs.size + 1, h6.objs.size, l, ⟨n, 0, []⟩⟩, ∀ o, h8.get? a = some o → o.cls ≠ .type "frame" → h11.get? a = some o := fun a ha o e' hc => k811.get (hnS a ha) e' hc
    have at' : ({ S with ps := S.ps ++ [⟨h6.objs.size + 1, h6.objs.size, l, ⟨n, 0, []⟩⟩] } : SS).At w h₀ h11 := by
      refine ⟨hne _ (.head _) hxd.1 _ c10.hp.x, ?_, ?_, fun p hp => ?_, fun r l' er => ?_, ?_, fun a ha => ?_⟩
      · obtain ⟨t, t', a⟩ := c10.hp.ad
        exact ⟨t, t', a.stay fun o e' => hne _ (.tail _ (.head _)) hxd.2.1 o e'⟩
      · have e1 : ({ S with ps := S.ps ++ [⟨h6.objs.size + 1, h6.objs.size, l, ⟨n, 0, []⟩⟩] } : SS).kvs = S.kvs ++ [(n, .ref (h6.objs.size + 1))] := by unfold SS.kvs; rw [List.map_append]; rfl
        rw [e1]; exact d11
      · rcases List.mem_append.mp hp with hp | hp
        · exact p.at_sep.loc _ _ (c10.hp.ps p hp) fun b hb o e' => hne b (S.mem_ps hp hb) (hxd.2.2 b (List.mem_append_right _ (List.mem_flatMap.mpr ⟨p, hp, hb⟩))) o e'
        · rw [List.mem_singleton.mp hp]
          obtain ⟨m, l8'⟩ := l8
          refine ⟨u, _, #[], ⟨hnd _ (.head _) _ n8.1 (by simp), hnd _ (.tail _ (.head _)) _ n8.2 (by simp)⟩, ⟨m, hnd _ (.tail _ (.tail _ (.head _))) _ l8' (by simp)⟩, .nil⟩
      · obtain ⟨vs, ⟨m, e1⟩, e2⟩ := c10.hp.rd r l' er
        have hr : r ∈ S.rdl := by unfold SS.rdl; rw [show S.rd = some (r, l') from er]; exact .head _
        exact ⟨vs, ⟨m, hne r (S.mem_rd er) (hxd.2.2 r (List.mem_append_left _ hr)) _ e1⟩, e2⟩
      · rw [SS.fp_add, List.nodup_append]
        refine ⟨nd, ?_, fun a ha b hb q => hnS b hb (q ▸ ha)⟩
        show [h6.objs.size + 1, h6.objs.size, l].Nodup
        simp only [List.nodup_cons, List.mem_cons, List.not_mem_nil, or_false, not_or, not_false_iff, List.nodup_nil, and_true]
        exact ⟨⟨Nat.succ_ne_self _, Ne.symm hl1⟩, Ne.symm hl2⟩
      · rw [SS.fp_add] at ha
        rcases List.mem_append.mp ha with ha | ha
        · exact c10.hp.dead a ha
        · exact ok6.dead (hnew a ha)
    have ok11 : Ok h₀ (k + 2) A' h11 := ok8.kpx k811 c8.hp.dead
    have hd8 : ∀ a ∈ NIa.fp ⟨h6.objs.size + 1, h6.objs.size, l, ⟨n, 0, []⟩⟩, a ∉ [L] := fun a ha q => by
      rw [List.mem_singleton.mp q] at ha
      obtain ⟨o, e'⟩ := c6.er.low L (List.mem_append_right _ (.head _))
      rw [hnew L ha] at e'; cases e'
    have k611 : KpX S.fp h₀.objs.size h6 h11 := k68.x.trans k811
    have c11 : Cx [L] ({ S with ps := S.ps ++ [⟨h6.objs.size + 1, h6.objs.size, l, ⟨n, 0, []⟩⟩] } : SS).fp h11 env (mScope 6 1) _ _ (({ S with ps := S.ps ++ [⟨h6.objs.size + 1, h6.objs.size, l, ⟨n, 0, []⟩⟩] } : SS).At w h₀) :=
      c6.turn k611 (fun a ha => by rw [SS.fp_add] at ha; exact (List.mem_append.mp ha).imp id (hnew a)) SS.sep at'
    refine wpAny_assign_Name (c11.store (N := h₀.objs.size) (s := { s with heap := h11, toks := t10 + 1 }) (hw "result" (.inl (by decide +kernel))) rfl fun h12 t12 c12 k12 => ?_)
    have ok12 := ok11.kpx k12 hX0
    refine wpAny_execs_nil ?_
    refine wpAny_execs_cons (wpAny_Return_some (RE.cx (re_name (v := .ref (h6.objs.size + 1)) rfl) (s := { s with heap := h12, toks := t12 }) ok12 c12 fun h13 t13 ok13 c13 k13 => ?_))
    have k26 : KpX [L] h₀.objs.size s.heap h6 := k25.trans k6.x
    refine hQ₁ _ _ ?_
    refine h _ ⟨h6.objs.size + 1, h6.objs.size, l, ⟨n, 0, []⟩⟩ h13 t13 ⟨c13.hp, fun a ha => ?_, ?_, rfl, rfl, rfl⟩ ?_ (List.mem_append_right _ (.head _)) rfl ⟨rfl, rfl, rfl⟩ (by simp)
    · rw [SS.fp_add] at ha
      refine (List.mem_append.mp ha).imp id fun q => ?_
      cases q' : s.heap.get? a with
      | none => rfl
      | some o => obtain ⟨o', e'⟩ := k26.there ⟨o, q'⟩; rw [hnew a q] at e'; cases e'
    · have q1 : KpX (S.fp ++ [L]) h₀.objs.size s.heap h11 := ((kS k26).trans k611).mono fun a ha => .inl (List.mem_append_left _ ha)
      have q2 : KpX (S.fp ++ [L]) h₀.objs.size h11 h13 := (k12.trans k13.x).mono fun a ha => .inl (List.mem_append_right _ ha)
      exact (q1.trans q2).mono fun a ha => (List.mem_append.mp ha).imp id fun q => by rw [List.mem_singleton.mp q]; exact hL
    · unfold infoN SS.nodes
      rw [show hasN (S.ps.map (·.nd)) n = false from by have := hasN_iff S n; unfold SS.nodes at this; rw [this, e]; rfl]
      simp
end
end Mine
end
section
open PySem.Calls PySem.Spec PySem.SeqAt Builtin Builtin.ObjectAttr
set_option maxRecDepth 100000
namespace Mine
noncomputable def IsSq (b : Bool) (h : Heap) (a : Addr) (vs : Array Value) : Prop := if b then h.IsTuple a vs else h.IsList a vs
noncomputable def IsSqIter (b : Bool) (h : Heap) (it a : Addr) (i : Nat) : Prop := if b then h.IsTupleIter it a i else h.IsListIter it a i
section
variable {w : World} {h₀ : Heap} {k : Nat} {K : Frag} {S : SS} {N : Nat}

theorem IsSq.kpx {b : Bool} {h h' : Heap} {a : Addr} {vs} {X : List Addr} (x : IsSq b h a vs) (q : KpX X N h h') (ha : a ∉ X) : IsSq b h' a vs := by
  cases b with
  | false => exact q.isList ha x
  | true =>
    obtain ⟨o, ho, hc, r⟩ := (x : h.IsTuple a vs)
    exact (⟨o, q.get ha ho (by rw [hc]; decide), hc, r⟩ : h'.IsTuple a vs)
theorem IsSqIter.kpx {b : Bool} {h h' : Heap} {it a : Addr} {i} {X : List Addr} (x : IsSqIter b h it a i) (q : KpX X N h h') (ha : it ∉ X) : IsSqIter b h' it a i := by
  cases b with
  | false =>
    obtain ⟨o, ho, hc, r⟩ := (x : h.IsListIter it a i)
    exact (⟨o, q.get ha ho (by rw [hc]; decide), hc, r⟩ : h'.IsListIter it a i)
  | true =>
    obtain ⟨o, ho, hc, r⟩ := (x : h.IsTupleIter it a i)
    exact (⟨o, q.get ha ho (by rw [hc]; decide), hc, r⟩ : h'.IsTupleIter it a i)
theorem IsSqIter.alive {b : Bool} {h : Heap} {it a : Addr} {i} (x : IsSqIter b h it a i) : ∃ o, h.get? it = some o ∧ ∃ vs, o.data = .fields vs := by
  cases b with
  | false => obtain ⟨o, ho, _, r⟩ := (x : h.IsListIter it a i); exact ⟨o, ho, _, r⟩
  | true => obtain ⟨o, ho, _, r⟩ := (x : h.IsTupleIter it a i); exact ⟨o, ho, _, r⟩
theorem IsSqIter.cls {b : Bool} {h : Heap} {it a : Addr} {i} (x : IsSqIter b h it a i) : ∃ o, h.get? it = some o ∧ (∃ vs, o.data = .fields vs) ∧ o.cls = .type (if b then "tuple_iterator" else "list_iterator") := by
  cases b with
  | false => obtain ⟨o, ho, hc, r⟩ := (x : h.IsListIter it a i); exact ⟨o, ho, ⟨_, r⟩, hc⟩
  | true => obtain ⟨o, ho, hc, r⟩ := (x : h.IsTupleIter it a i); exact ⟨o, ho, ⟨_, r⟩, hc⟩
theorem IsSq.alive {b : Bool} {h : Heap} {a : Addr} {vs} (x : IsSq b h a vs) : ∃ o, h.get? a = some o := by
  cases b with
  | false => obtain ⟨o, ho, _⟩ := (x : h.IsList a vs); exact ⟨o, ho⟩
  | true => obtain ⟨o, ho, _⟩ := (x : h.IsTuple a vs); exact ⟨o, ho⟩

theorem pyIter_sq {b : Bool} {a : Addr} {vs : Array Value} {A : Around} {s : Shared} {Q : Value → Shared → Prop} {E : Value → Shared → Prop} (x : IsSq b s.heap a vs)
    (h : ∀ it h1, s.heap.get? it = none → IsSqIter b h1 it a 0 → IsSq b h1 a vs → Kp N s.heap h1 → Q (.ref it) { s with heap := h1 }) : wpAny (model P w) A (pyIter (.ref a)) Q E s := by
  cases b with
  | false => exact wpAny_pyIter_list (show s.heap.IsList a vs from x) (h _ _ (dead_size _ (Nat.le_refl _)) (show Heap.IsListIter _ _ _ _ from ⟨_, Heap.get?_push_size _ rfl, rfl, rfl⟩) (show Heap.IsList _ _ _ from Heap.IsList.push x _) (Kp.push _ _))
  | true => exact wpAny_pyIter_tuple (show s.heap.IsTuple a vs from x) (h _ _ (dead_size _ (Nat.le_refl _)) (show Heap.IsTupleIter _ _ _ _ from ⟨_, Heap.get?_push_size _ rfl, rfl, rfl⟩) (show Heap.IsTuple _ _ _ from Heap.IsTuple.push x _) (Kp.push _ _))
theorem pyNext_sq {b : Bool} {it a : Addr} {i : Nat} {vs : Array Value} {v : Value} {A : Around} {s : Shared} {Q : Option Value → Shared → Prop} {E : Value → Shared → Prop} (hi : IsSqIter b s.heap it a i) (x : IsSq b s.heap a vs) (hne : a ≠ it) (hv : vs[i]? = some v)
    (h : ∀ h1, IsSqIter b h1 it a (i + 1) → IsSq b h1 a vs → KpX [it] N s.heap h1 → (∀ c o, c ≠ it → s.heap.get? c = some o → h1.get? c = some o) → Q (some v) { s with heap := h1 }) : wpAny (model P w) A (pyNext (.ref it)) Q E s := by
  have key : ∀ h1, IsSqIter b h1 it a (i + 1) → Heap.SameBut it s.heap h1 → Q (some v) { s with heap := h1 } := fun h1 h2 hs => by
    obtain ⟨o, ho, ⟨vs', hd⟩, hc⟩ := h2.cls
    obtain ⟨o1, ho1, ⟨vs1, hd1⟩, hc1⟩ := hi.cls
    have kp : KpX [it] N s.heap h1 := .of_sameBut hs (.head _) ⟨o, ho, fun _ => ⟨o1, ho1, vs1, hd1⟩, fun o₀ q => by rw [ho1] at q; cases q; rw [hc, hc1]⟩
    exact h h1 h2 (x.kpx kp fun q => hne (List.mem_singleton.mp q)) kp fun c o hc e => hs.extBut c o hc e
  cases b with
  | false => exact wpAny_pyNext_list_item (show s.heap.IsListIter it a i from hi) (show s.heap.IsList a vs from x) hv key
  | true => exact wpAny_pyNext_tuple_item (show s.heap.IsTupleIter it a i from hi) (show s.heap.IsTuple a vs from x) hv key
theorem pyEnd_sq {b : Bool} {it a : Addr} {i : Nat} {vs : Array Value} {A : Around} {s : Shared} {Q : Option Value → Shared → Prop} {E : Value → Shared → Prop} (hh : A.handled = none) (hi : IsSqIter b s.heap it a i) (x : IsSq b s.heap a vs) (hv : vs[i]? = none)
    (h : ∀ h1, (∀ c o, c ≠ it → s.heap.get? c = some o → h1.get? c = some o) → Q none { s with heap := h1 }) : wpAny (model P w) A (pyNext (.ref it)) Q E s := by
  cases b with
  | false => exact wpAny_pyNext_list_end hh (show s.heap.IsListIter it a i from hi) (show s.heap.IsList a vs from x) hv fun h1 q => h h1 fun c o hc e => q c o hc e
  | true => exact wpAny_pyNext_tuple_end hh (show s.heap.IsTupleIter it a i from hi) (show s.heap.IsTuple a vs from x) hv fun h1 q => h h1 fun c o hc e => q c o hc e

noncomputable def TurnR (N : Nat) (it a : Addr) (s' : Shared) (J : Heap → Prop) (Q : Flow → Shared → Prop) : Flow → Shared → Prop
  | .ret v, s'' => Q (.ret v) s''
  | .brk, _ => False
  | _, s'' => ∃ h tk X, s'' = { s' with heap := h, toks := tk } ∧ J h ∧ KpX X N s'.heap h ∧ a ∉ X ∧ it ∉ X

theorem loop_sq {tg : Expr} (hT : TName tg) {body : List Stmt} {b : Bool} {it a : Addr} {vs : Array Value} {env : Env} {A : Around} {s₀ : Shared} {R : Result → Shared → Prop} {Q : Flow → Shared → Prop} (hh : A.handled = none) (hne : a ≠ it) (J : Nat → Heap → Prop)
    (hstep : ∀ i h h', J i h → KpX [it] N h h' → (∃ o, h.get? it = some o) → J i h')
    (hbody : ∀ i v (s' : Shared), vs[i]? = some v → (∃ h tk, s' = { s₀ with heap := h, toks := tk }) → J i s'.heap → (∃ o, s'.heap.get? it = some o) → (∃ o, s'.heap.get? a = some o) →
      wpAny (model P w) A (assign tg env v) (fun _ s2 => wpAny (model P w) A (execs body env) (TurnR N it a s' (J (i + 1)) Q) (notedBy (model P w) A env fun e s' => R (.error e) s') s2) (notedBy (model P w) A env fun e s' => R (.error e) s') s')
    (hret : ∀ v s', Q (.ret v) s' → R (.ok (.ret v)) s')
    (hR : ∀ h h' tk, J vs.size h → (∀ c o, c ≠ it → h.get? c = some o → h'.get? c = some o) → R (.ok .next) { s₀ with heap := h', toks := tk }) :
    ∀ (n i : Nat), i + n = vs.size → ∀ (s : Shared), (∃ h tk, s = { s₀ with heap := h, toks := tk }) → IsSqIter b s.heap it a i → IsSq b s.heap a vs → J i s.heap → codeAny (model P w) A (.forLoop tg (.ref it) body [] env) R s
  | 0, i, hn, s, ⟨hs, ts, hse⟩, hi, hx, hj => by
    refine codeAny_of_tree ?_
    show wpAny _ A ((forTurn tg (.ref it) body [] env).onRaise (fun x => do noteFrame x env; theTreesLotGoes x)) _ _ s
    refine wpAny_noted ?_
    unfold forTurn
    refine wpAny_bind (wpAny_standAt (wpAny_bind (wpAny_onRaise ?_)))
    refine pyEnd_sq hh hi hx (by rw [Array.getElem?_eq_none_iff]; omega) fun h1 hk => wpAny_pure ⟨rfl, codeAny_block (wpAny_execs_nil ?_)⟩
    have e' : i = vs.size := by omega
    subst hse
    exact hR hs h1 ts (e' ▸ hj) hk
  | n + 1, i, hn, s, ⟨hs, ts, hse⟩, hi, hx, hj => by
    refine codeAny_of_tree ?_
    show wpAny _ A ((forTurn tg (.ref it) body [] env).onRaise (fun x => do noteFrame x env; theTreesLotGoes x)) _ _ s
    refine wpAny_noted ?_
    unfold forTurn
    refine wpAny_bind (wpAny_standAt (wpAny_bind (wpAny_onRaise ?_)))
    have hlt : i < vs.size := by omega
    refine pyNext_sq (N := N) hi hx hne (Array.getElem?_eq_getElem hlt) fun h1 hi1 hx1 k1 _ => ?_
    obtain ⟨oi, hoi, _⟩ := hi.alive
    obtain ⟨oi1, hoi1, _⟩ := hi1.alive
    obtain ⟨x, p, rfl⟩ := hT
    have key := hbody i _ { s with heap := h1 } (Array.getElem?_eq_getElem hlt) ⟨h1, ts, by subst hse; rfl⟩ (hstep i _ _ hj k1 ⟨oi, hoi⟩) ⟨oi1, hoi1⟩ hx1.alive
    refine wpAny_bind (wpAny_pure (a := ()) ?_)
    refine wpAny_bind (wpAny_mono key (fun _ s3 q3 => wpAny_bind (wpAny_mono q3 (fun f s4 q4 => ?_) fun _ _ z => z)) fun _ _ z => z)
    have cont : (∃ h tk X, s4 = { { s with heap := h1 } with heap := h, toks := tk } ∧ J (i + 1) h ∧ KpX X N h1 h ∧ a ∉ X ∧ it ∉ X) → codeAny (model P w) A (.forLoop (.Name x p) (.ref it) body [] env) R s4 := by
      rintro ⟨h, tk, X, rfl, hj4, k4, ha, hit⟩
      exact loop_sq ⟨x, p, rfl⟩ hh hne J hstep hbody hret hR n (i + 1) (by omega) _ ⟨h, tk, by subst hse; rfl⟩ (hi1.kpx k4 hit) (hx1.kpx k4 ha) hj4
    cases f with
    | next => exact wpAny_pure ⟨rfl, cont q4⟩
    | cont => exact wpAny_pure ⟨rfl, cont q4⟩
    | brk => exact q4.elim
    | ret v => exact wpAny_pure (hret v s4 q4)

theorem Cx.step {X F : List Addr} {h h' : Heap} {env : Env} {sc : Scope} {δ : Str → Option PyData} {ν : Str → Option Value} {H : Heap → Prop} {it : Addr} (c : Cx (it :: X) F h env sc δ ν H) (q : KpX [it] N h h') (off : Off [it] env) : Cx (it :: X) F h' env sc δ ν H :=
  ⟨c.er.kpx q (fun a ha => by rw [List.mem_singleton.mp ha]; exact List.mem_append_right _ (.head _)) off, fun y v e => (c.nb y v e).kpx off q, c.sep.kpx c.hp q (fun a ha => by rw [List.mem_singleton.mp ha]; exact c.dis it (.head _)), c.sep, c.dis, c.own⟩
theorem Cx.addX {X F : List Addr} {h h' : Heap} {env : Env} {sc : Scope} {δ : Str → Option PyData} {ν : Str → Option Value} {H : Heap → Prop} {it : Addr} (c : Cx X F h env sc δ ν H) (hit : h.get? it = none) (q : Kp N h h') (al : ∃ o, h'.get? it = some o) : Cx (it :: X) F h' env sc δ ν H := by
  have hF : it ∉ F := fun z => by obtain ⟨o, e, _⟩ := c.sep.live _ c.hp it z; rw [hit] at e; cases e
  refine ⟨c.er.more (fun a ha => ?_) q fun a ha => ?_, fun y v e => (c.nb y v e).kp q, c.sep.kp c.hp q, c.sep, fun a ha => ?_, c.own⟩
  · rcases List.mem_append.mp ha with z | z
    · exact .inl (List.mem_append_left _ z)
    · rcases List.mem_cons.mp z with rfl | z
      · exact .inr hit
      · exact .inl (List.mem_append_right _ z)
  · rcases List.mem_append.mp ha with z | z
    · exact q.there (c.er.low a (List.mem_append_left _ z)).choose_spec
    · rcases List.mem_cons.mp z with rfl | z
      · exact al
      · exact q.there (c.er.low a (List.mem_append_right _ z)).choose_spec
  · rcases List.mem_cons.mp ha with rfl | ha
    · exact hF
    · exact c.dis a ha
theorem Cx.endX {X F : List Addr} {h h' : Heap} {env : Env} {sc : Scope} {δ : Str → Option PyData} {ν : Str → Option Value} {H : Heap → Prop} {it : Addr} (c : Cx (it :: X) F h env sc δ ν H) (hX : it ∉ X) (hk : ∀ b o, b ≠ it → h.get? b = some o → h'.get? b = some o) (off : Off [it] env) : Cx X F h' env sc δ ν H := by
  have hk' : ∀ b o, b ∉ [it] → h.get? b = some o → h'.get? b = some o := fun b o hb e => hk b o (fun q => hb (by rw [q]; exact .head _)) e
  refine ⟨c.er.but hk' (fun a ha => ?_) (fun a ha => by rw [List.mem_singleton.mp ha]; exact List.mem_append_right _ (.head _)) off, fun y v e => (c.nb y v e).off off hk', c.sep.loc _ _ c.hp fun b hb o e => hk b o (fun q => c.dis it (.head _) (q ▸ hb)) e, c.sep, fun a ha => c.dis a (.tail _ ha), c.own⟩
  rcases List.mem_append.mp ha with z | z
  · exact ⟨List.mem_append_left _ z, fun q => c.dis it (.head _) (List.mem_singleton.mp q ▸ z)⟩
  · exact ⟨List.mem_append_right _ (.tail _ z), fun q => hX (List.mem_singleton.mp q ▸ z)⟩

theorem Cx.storeW {X F W : List Addr} {env : Env} {sc : Scope} {δ : Str → Option PyData} {ν : Str → Option Value} {H : Heap → Prop} {A : Around} {s : Shared} {x : Str} {v : Value} {Q : Unit → Shared → Prop} {E : Value → Shared → Prop} (hWX : ∀ a ∈ W, a ∈ X) (c : Cx X F s.heap env sc δ ν H) (hw : Wrt W env sc x) (hδ : δ x = none)
    (h : ∀ h1 t1, Cx X F h1 env sc δ (updV ν x v) H → KpX W N s.heap h1 → Q () { s with heap := h1, toks := t1 }) : wpAny (model P w) A (storeName env x v) Q E s := by
  refine store_any (N := N) δ c.er hw (fun a ha => List.mem_append_right _ (hWX a ha)) (fun _ _ _ e => e) (fun d e => by rw [hδ] at e; cases e) fun h' tk er' hb ho kp => ?_
  refine h h' tk ⟨er', fun y u e => ?_, c.sep.kpx c.hp kp (fun a ha => c.dis a (hWX a ha)), c.sep, c.dis, c.own⟩ kp
  unfold updV at e
  split at e
  · rename_i hy; cases e; subst hy; exact hb
  · rename_i hy; exact ho y u hy (c.nb y u e)

inductive ForPost (w : World) (h₀ : Heap) (S : SS) (W X : List Addr) (env : Env) (sc : Scope) (δ : Str → Option PyData) (ν : Str → Option Value) (a : Addr) (Pr : Nat → SS → Prop) (n : Nat) (s' s'' : Shared) : Prop
  | mk (h : Heap) (tk : Nat) (S'' : SS) (Y : List Addr) (e : s'' = { s' with heap := h, toks := tk }) (c : Cx X S''.fp h env sc δ ν (S''.At w h₀)) (p : Pr n S'') (nw : ∀ c ∈ S''.fp, c ∈ S.fp ∨ s'.heap.get? c = none) (k : KpX Y h₀.objs.size s'.heap h) (hn : a ∉ Y) (hY : ∀ c ∈ Y, c ∈ S.fp ∨ c ∈ W)
      (sm : S''.x = S.x ∧ S''.dx = S.dx ∧ S''.d = S.d)
inductive ForJ (w : World) (h₀ : Heap) (k : Nat) (S : SS) (W X : List Addr) (A : Around) (env : Env) (sc : Scope) (δ : Str → Option PyData) (ν : Str → Option Value) (Pr : Nat → SS → Prop) (hs : Heap) (i : Nat) (g : Heap) : Prop
  | mk (S' : SS) (p : Pr i S') (ok : Ok h₀ k A g) (c : Cx X S'.fp g env sc δ ν (S'.At w h₀)) (hn : ∀ c ∈ S'.fp, c ∈ S.fp ∨ hs.get? c = none) (kk : KpX (S.fp ++ W) h₀.objs.size hs g) (sm : S'.x = S.x ∧ S'.dx = S.dx ∧ S'.d = S.d)
theorem for_cx {x : Str} {xp : Pos} {iter : Expr} {body : List Stmt} {pos : Pos} {b : Bool} {a : Addr} {X : List Addr} {vs : Array Value} {env : Env} {sc : Scope} {δ : Str → Option PyData} {ν : Str → Option Value} (Pr : Nat → SS → Prop) {W : List Addr} {A : Around} {s : Shared} {Q : Flow → Shared → Prop} {E : Value → Shared → Prop}
    (ok : Ok h₀ k A s.heap) (hS0 : ∀ c ∈ S.fp, h₀.get? c = none) (hWX : ∀ c ∈ W, c ∈ X) (hw : Wrt W env sc x) (hδ : δ x = none) (hX0 : ∀ c ∈ X, h₀.get? c = none) (hP : Pr 0 S) (haX : a ∉ X)
    (hev : ∀ (Q' : Value → Shared → Prop), (∀ h1 t1, Ok h₀ k A h1 → Cx X S.fp h1 env sc δ ν (S.At w h₀) → Kp h₀.objs.size s.heap h1 → IsSq b h1 a vs → Q' (.ref a) { s with heap := h1, toks := t1 }) → wpAny (model P w) A (eval iter env) Q' E s)
    (hbody : ∀ it i v (S' : SS) (s' : Shared), vs[i]? = some v → Pr i S' → Ok h₀ k A s'.heap → Cx (it :: X) S'.fp s'.heap env sc δ (updV ν x v) (S'.At w h₀) → (∀ c ∈ it :: X, h₀.get? c = none) → (∃ o, s'.heap.get? a = some o) → S'.x = S.x ∧ S'.dx = S.dx ∧ S'.d = S.d → KpX (S.fp ++ W) h₀.objs.size s.heap s'.heap → (∃ g tk, s' = { s with heap := g, toks := tk }) →
      wpAny (model P w) A (execs body env) (fun f s'' => match f with
        | .ret v => Q (.ret v) s''
        | .brk => False
        | _ => ForPost w h₀ S' W (it :: X) env sc δ ν a Pr (i + 1) s' s'')
        (notedBy (model P w) A env (cameBackBy (model P w) A env E)) s')
    (h : ∀ (S' : SS) h1 t1, Pr vs.size S' → Ok h₀ k A h1 → Cx X S'.fp h1 env sc δ ν (S'.At w h₀) → (∀ c ∈ S'.fp, c ∈ S.fp ∨ s.heap.get? c = none) → KpX (S.fp ++ W) h₀.objs.size s.heap h1 → S'.x = S.x ∧ S'.dx = S.dx ∧ S'.d = S.d → Q .next { s with heap := h1, toks := t1 })
    (hs : ∀ v, foldedSetIterable iter env v = pure v := by intro _; rfl) : wpAny (model P w) A (exec (.For (.Name x xp) iter body [] pos) env) Q E s := by
  refine wpAny_For (hev _ fun h1 t1 ok1 c1 k1 x1 => pyIter_sq (N := h₀.objs.size) (s := { s with heap := h1, toks := t1 }) x1 fun it h2 hit i2 x2 k2 => ?_) hs
  have hne : a ≠ it := fun q => by obtain ⟨o, e⟩ := x1.alive; rw [q, hit] at e; cases e
  have hits : s.heap.get? it = none := by
    cases e : s.heap.get? it with
    | none => rfl
    | some o => obtain ⟨o', e'⟩ := k1.there e; rw [hit] at e'; cases e'
  have hitX : it ∉ X := fun q => by obtain ⟨o, e⟩ := c1.er.low it (List.mem_append_right _ q); rw [hit] at e; cases e
  have off : Off [it] env := c1.er.off_fresh fun c hc => by rw [List.mem_singleton.mp hc]; exact hit
  have hitS : it ∉ S.fp := fun q => by obtain ⟨o, e, _⟩ := SS.sep.live _ c1.hp it q; rw [hit] at e; cases e
  have hit0 : h₀.get? it = none := ok1.dead hit
  let J : Nat → Heap → Prop := ForJ w h₀ k S W (it :: X) A env sc δ ν Pr s.heap
  obtain ⟨oi, hoi, _⟩ := i2.alive
  have j0 : J 0 h2 := ⟨S, hP, ok1.kp k2, c1.addX hit k2 ⟨oi, hoi⟩, fun c hc => .inl hc, (k1.trans k2).x, ⟨rfl, rfl, rfl⟩⟩
  refine loop_sq (N := h₀.objs.size) (s₀ := s) (Q := Q) ⟨x, xp, rfl⟩ ok1.hh hne J (fun i g g' j q al => ?_) (fun i v s' hv hs' hj al ala => ?_) (fun v s' q => q) (fun g g' tk hj hk => ?_) vs.size 0 (Nat.zero_add _) _ ⟨h2, t1, rfl⟩ i2 x2 j0
  · obtain ⟨S', p, ok', c, hn, kk, e⟩ := j
    refine ⟨S', p, ok'.kpx q (fun c hc => by rw [List.mem_singleton.mp hc]; exact hit0), c.step q off, hn, ?_, e⟩
    have q1 : KpX ((S.fp ++ W) ++ [it]) h₀.objs.size s.heap g := kk.mono fun c hc => .inl (List.mem_append_left _ hc)
    have q2 : KpX ((S.fp ++ W) ++ [it]) h₀.objs.size g g' := q.mono fun c hc => .inl (List.mem_append_right _ hc)
    exact (q1.trans q2).mono fun c hc => (List.mem_append.mp hc).imp id fun z => by rw [List.mem_singleton.mp z]; exact hits
  · obtain ⟨S', p, ok', c, hn, kk, e⟩ := hj
    obtain ⟨hp, tk, rfl⟩ := hs'
    refine wpAny_assign_Name (Cx.storeW (N := h₀.objs.size) (s := { s with heap := hp, toks := tk }) (fun c hc => .tail _ (hWX c hc)) c hw hδ fun h3 t3 c3 k3 => ?_)
    have hX0' : ∀ c ∈ it :: X, h₀.get? c = none := fun c hc => (List.mem_cons.mp hc).elim (fun q => q ▸ hit0) (hX0 c)
    have ok3 := ok'.kpx k3 fun z hz => hX0 z (hWX z hz)
    refine wpAny_mono (hbody it i v S' { s with heap := h3, toks := t3 } hv p ok3 c3 hX0' (k3.there ala) e (kk.trans (k3.mono fun z hz => .inl (List.mem_append_right _ hz))) ⟨h3, t3, rfl⟩) (fun f s'' q => ?_) fun _ _ q => q
    have key : ForPost w h₀ S' W (it :: X) env sc δ ν a Pr (i + 1) { s with heap := h3, toks := t3 } s'' →
        ∃ h tk X', s'' = { { s with heap := hp, toks := tk } with heap := h, toks := tk } ∧ J (i + 1) h ∧ KpX X' h₀.objs.size hp h ∧ a ∉ X' ∧ it ∉ X' := by
      rintro ⟨h5, t5, S'', Y, rfl, c5, p5, hn5, k5, haY, hY, ⟨e1, e2, e3⟩⟩
      refine ⟨h5, t5, Y ++ W, rfl, ⟨S'', p5, ok3.kpx k5 (fun z hz => (hY z hz).elim (c.hp.dead z) fun q => hX0 z (hWX z q)), c5, fun z hz => ?_, ?_, e1.trans e.1, e2.trans e.2.1, e3.trans e.2.2⟩, ?_, ?_, ?_⟩
      · rcases hn5 z hz with q | q
        · exact hn z q
        · right
          cases e' : s.heap.get? z with
          | none => rfl
          | some o => obtain ⟨o', e2'⟩ := k3.there (kk.there ⟨o, e'⟩); rw [q] at e2'; cases e2'
      · have q1 : KpX ((S.fp ++ W) ++ Y) h₀.objs.size s.heap hp := kk.mono fun z hz => .inl (List.mem_append_left _ hz)
        have q2 : KpX ((S.fp ++ W) ++ Y) h₀.objs.size hp h3 := k3.mono fun z hz => .inl (List.mem_append_left _ (List.mem_append_right _ hz))
        have q3 : KpX ((S.fp ++ W) ++ Y) h₀.objs.size h3 h5 := k5.mono fun z hz => .inl (List.mem_append_right _ hz)
        refine ((q1.trans q2).trans q3).mono fun z hz => ?_
        rcases List.mem_append.mp hz with q | q
        · exact .inl q
        · rcases hY z q with q | q
          · exact (hn z q).imp (List.mem_append_left _) id
          · exact .inl (List.mem_append_right _ q)
      · exact (k3.mono fun z hz => .inl (List.mem_append_right _ hz)).trans (k5.mono fun z hz => .inl (List.mem_append_left _ hz))
      · exact fun q => (List.mem_append.mp q).elim haY fun q => haX (hWX _ q)
      · exact fun q => (List.mem_append.mp q).elim (fun q => (hY it q).elim (c.dis it (.head _)) fun q => hitX (hWX _ q)) fun q => hitX (hWX _ q)
    cases f with
    | next => exact key q
    | cont => exact key q
    | brk => exact q.elim
    | ret v => exact q
  · obtain ⟨S', p, ok', c, hn, kk, e⟩ := hj
    have k' : KpX (S.fp ++ W) h₀.objs.size s.heap g' := kk.but (It := [it]) (fun b o hb e => hk b o (fun q => hb (by rw [q]; exact .head _)) e) (fun c hc => by rw [List.mem_singleton.mp hc]; exact hits) fun c hc q => by
      rw [List.mem_singleton.mp q] at hc
      rcases List.mem_append.mp hc with z | z
      · exact hitS z
      · exact hitX (hWX _ z)
    exact h S' g' tk p (ok.kpx k' fun z hz => (List.mem_append.mp hz).elim (hS0 z) fun q => hX0 z (hWX z q)) (c.endX hitX hk off) hn k' e
end
end Mine
end
section
open PySem.Calls PySem.Spec PySem.SeqAt Builtin Builtin.ObjectAttr
set_option maxRecDepth 100000
namespace Mine
theorem nodup_map_inj {α β : Type} {f : α → β} : ∀ {l : List α}, (l.map f).Nodup → ∀ {a b}, a ∈ l → b ∈ l → f a = f b → a = b
  | x :: xs, h, a, b, ha, hb, e => by
    rw [List.map_cons, List.nodup_cons] at h
    rcases List.mem_cons.mp ha with ea | ha'
    · rcases List.mem_cons.mp hb with eb | hb'
      · rw [ea, eb]
      · exact absurd (List.mem_map.mpr ⟨b, hb', by rw [← e, ea]⟩) h.1
    · rcases List.mem_cons.mp hb with eb | hb'
      · exact absurd (List.mem_map.mpr ⟨a, ha', by rw [e, eb]⟩) h.1
      · exact nodup_map_inj h.2 ha' hb' e
theorem flat_apart {α β : Type} {f : α → List β} : ∀ {l : List α}, (l.flatMap f).Nodup → ∀ {a b}, a ∈ l → b ∈ l → a ≠ b → ∀ x ∈ f a, x ∉ f b
  | y :: ys, h, a, b, ha, hb, hne, x, hx, hx' => by
    rw [List.flatMap_cons, List.nodup_append] at h
    rcases List.mem_cons.mp ha with ea | ha'
    · rcases List.mem_cons.mp hb with eb | hb'
      · exact hne (ea.trans eb.symm)
      · exact h.2.2 x (ea ▸ hx) x (List.mem_flatMap.mpr ⟨b, hb', hx'⟩) rfl
    · rcases List.mem_cons.mp hb with eb | hb'
      · exact h.2.2 x (eb ▸ hx') x (List.mem_flatMap.mpr ⟨a, ha', hx⟩) rfl
      · exact flat_apart h.2.1 ha' hb' hne x hx hx'

noncomputable def SS.updF (S : SS) (n : Int) (f : Node → Node) : SS := { S with ps := S.ps.map fun q => if q.nd.name == n then { q with nd := f q.nd } else q }
theorem SS.updF_nodes (S : SS) (n : Int) (f : Node → Node) : (S.updF n f).nodes = updN S.nodes n f := by
  unfold SS.nodes SS.updF updN
  rw [List.map_map, List.map_map]
  apply List.map_congr_left
  intro q _
  show (if q.nd.name == n then ({ q with nd := f q.nd } : NIa) else q).nd = if q.nd.name == n then f q.nd else q.nd
  split <;> rfl
theorem SS.updF_flat (ps : List NIa) (n : Int) (f : Node → Node) : (ps.map fun q => if q.nd.name == n then ({ q with nd := f q.nd } : NIa) else q).flatMap NIa.fp = ps.flatMap NIa.fp := by
  rw [List.flatMap_map]
  congr 1
  funext q
  show NIa.fp (if q.nd.name == n then ({ q with nd := f q.nd } : NIa) else q) = _
  split <;> rfl
theorem SS.updF_fp (S : SS) (n : Int) (f : Node → Node) : (S.updF n f).fp = S.fp := by
  unfold SS.fp
  rw [show (S.updF n f).ps.flatMap NIa.fp = S.ps.flatMap NIa.fp from SS.updF_flat S.ps n f]; rfl
theorem SS.updF_kvs (S : SS) (n : Int) {f : Node → Node} (hf : ∀ q, (f q).name = q.name) : (S.updF n f).kvs = S.kvs := by
  unfold SS.kvs SS.updF
  rw [List.map_map]
  apply List.map_congr_left
  intro q _
  show ((if q.nd.name == n then ({ q with nd := f q.nd } : NIa) else q).nd.name, Value.ref (if q.nd.name == n then ({ q with nd := f q.nd } : NIa) else q).i) = _
  split
  · rw [hf]
  · rfl

section
variable {w : World} {h₀ : Heap} {k : Nat} {K : Frag} {S : SS} {N : Nat}

theorem SS.names_nodup {h : Heap} (a : S.At w h₀ h) : (S.ps.map fun p => p.nd.name).Nodup := by
  obtain ⟨o, es, ep, _, _, _, _, _, nd⟩ := a.d
  unfold SS.kvs at nd
  rw [List.map_map] at nd
  exact nd
theorem SS.uniq {h : Heap} (a : S.At w h₀ h) {p q : NIa} (hp : p ∈ S.ps) (hq : q ∈ S.ps) (e : p.nd.name = q.nd.name) : p = q := nodup_map_inj (SS.names_nodup a) hp hq e
theorem SS.ps_nodup {h : Heap} (a : S.At w h₀ h) : (S.ps.flatMap NIa.fp).Nodup := by
  have := a.nd
  unfold SS.fp at this
  exact (List.nodup_append.mp (List.nodup_cons.mp (List.nodup_cons.mp (List.nodup_cons.mp this).2).2).2).2.1
theorem SS.off_ps {h : Heap} (a : S.At w h₀ h) {p : NIa} (hp : p ∈ S.ps) : S.x ∉ p.fp ∧ S.dx ∉ p.fp ∧ S.d ∉ p.fp ∧ ∀ r ∈ S.rdl, r ∉ p.fp := by
  have nd := a.nd
  unfold SS.fp at nd
  have hm : ∀ b ∈ p.fp, b ∈ S.ps.flatMap NIa.fp := fun b hb => List.mem_flatMap.mpr ⟨p, hp, hb⟩
  obtain ⟨n1, nd⟩ := List.nodup_cons.mp nd
  obtain ⟨n2, nd⟩ := List.nodup_cons.mp nd
  obtain ⟨n3, nd⟩ := List.nodup_cons.mp nd
  obtain ⟨_, _, n4⟩ := List.nodup_append.mp nd
  exact ⟨fun q => n1 (.tail _ (.tail _ (List.mem_append_right _ (hm _ q)))), fun q => n2 (.tail _ (List.mem_append_right _ (hm _ q))), fun q => n3 (List.mem_append_right _ (hm _ q)), fun r hr q => n4 r hr r (hm _ q) rfl⟩

theorem SS.At.updF {h h' : Heap} (a : S.At w h₀ h) {p : NIa} (hp : p ∈ S.ps) {f : Node → Node} (hf : ∀ q, (f q).name = q.name) (hk : ∀ c ∈ S.fp, c ∉ p.fp → ∀ o, h.get? c = some o → h'.get? c = some o)
    (hp' : ({ p with nd := f p.nd } : NIa).At h') : (S.updF p.nd.name f).At w h₀ h' := by
  obtain ⟨ox, odx, od, ord⟩ := SS.off_ps a hp
  refine ⟨hk _ (.head _) ox _ a.x, ?_, ?_, fun q hq => ?_, fun r l e => ?_, (SS.updF_fp S _ f).symm ▸ a.nd, fun c hc => a.dead c (by rwa [SS.updF_fp] at hc)⟩
  · obtain ⟨t, t', ad⟩ := a.ad
    exact ⟨t, t', ad.stay fun o e => hk _ (.tail _ (.head _)) odx o e⟩
  · rw [SS.updF_kvs S _ hf]
    obtain ⟨o, es, ep, e, r⟩ := a.d
    exact ⟨o, es, ep, hk _ (.tail _ (.tail _ (.head _))) od _ e, r⟩
  · obtain ⟨q0, hq0, rfl⟩ := List.mem_map.mp hq
    by_cases e : q0.nd.name = p.nd.name
    · have := SS.uniq a hq0 hp e
      subst this
      show (if q0.nd.name == q0.nd.name then ({ q0 with nd := f q0.nd } : NIa) else q0).At h'
      rw [if_pos (by simp)]; exact hp'
    · show (if q0.nd.name == p.nd.name then ({ q0 with nd := f q0.nd } : NIa) else q0).At h'
      rw [if_neg (by simpa using e)]
      exact q0.at_sep.loc _ _ (a.ps q0 hq0) fun b hb o e' => hk b (S.mem_ps hq0 hb) (flat_apart (SS.ps_nodup a) hq0 hp (fun z => e (by rw [z])) b hb) o e'
  · obtain ⟨vs, ⟨m, e1⟩, e2⟩ := a.rd r l e
    have hr : r ∈ S.rdl := by unfold SS.rdl; rw [show S.rd = some (r, l) from e]; exact .head _
    exact ⟨vs, ⟨m, hk r (S.mem_rd e) (ord r hr) _ e1⟩, e2⟩

noncomputable def methods : List (Str × Nat) := [("__init__", 73), ("_get_nodeinfo", 80), ("add", 87), ("prepare", 92), ("get_ready", 99), ("is_active", 106), ("done", 120), ("_find_cycle", 127)]
theorem attrs_meth {t t' : Tok} : ∀ p ∈ methods, (S.attrs t t').lookup p.1 = none := by
  intro p hp
  simp only [methods, List.mem_cons, List.not_mem_nil, or_false] at hp
  rcases hp with rfl | rfl | rfl | rfl | rfl | rfl | rfl | rfl <;> rfl

variable {X : List Addr} {env : Env} {sc : Scope} {δ : Str → Option PyData} {ν : Str → Option Value}

theorem self_meth (B : SK K h₀) {name : Str} {f : Nat} {Q : Value × List Value → Shared → Prop} {pl : Sem Bool} {A : Around} {s : Shared} {E : Value → Shared → Prop} (hm : (name, f) ∈ methods) (ok : Ok h₀ k A s.heap) (at_ : S.At w h₀ s.heap)
    (h : Q (.ref f, [.ref S.x]) s) : wpAny (model P w) A (getMethod (.ref S.x) name pl) Q E s := by
  obtain ⟨t, t', ad⟩ := at_.ad
  obtain ⟨es, n, e, r⟩ := ad
  obtain ⟨m1, m2, m3⟩ := B.meth (name, f) hm
  refine method_fn (B.kin ok.stays) (inst_dict at_.x e) B.ts.ga B.ts.gk m1 m2 ?_ h
  show (getL name es).map _ = _
  rw [ent_getL r, attrs_meth (name, f) hm]; rfl
theorem self_call1 (B : SK K h₀) {pl : Sem Bool} {name : Str} {f : Nat} {e : Expr} {v : Value} {p apos pos : Pos} {A : Around} {s : Shared} {Q : Value → Shared → Prop} {E : Value → Shared → Prop} (hm : (name, f) ∈ methods) (hx : ν "self" = some (.ref S.x)) (hv : RE w h₀ k X S.fp env sc δ ν (S.At w h₀) e v)
    (ok : Ok h₀ k A s.heap) (c : Cx X S.fp s.heap env sc δ ν (S.At w h₀))
    (h : ∀ h1 t1, Ok h₀ k A h1 → Cx X S.fp h1 env sc δ ν (S.At w h₀) → Kp h₀.objs.size s.heap h1 → wpAny (model P w) A (call (.ref f) [.ref S.x, v]) Q E { s with heap := h1, toks := t1 })
    (he : eval (.Call (.Attribute (.Name "self" p) name apos) [e] [] pos) env = (do
      let ov ← eval (.Name "self" p) env
      standAt apos.atName
      let (f, first) ← holding [ov] (getMethod ov name pl)
      callWith pos f first (backTo pos (starEach [e] env)) (backToKw pos (keywordEach [] env))) := by rfl) (hst : starEach [e] env = (false, eval e env) :: starEach [] env := by rfl) :
    wpAny (model P w) A (eval (.Call (.Attribute (.Name "self" p) name apos) [e] [] pos) env) Q E s := by
  refine methodCall_KW (pl := pl) (RE.cx (re_name (v := .ref S.x) hx) ok c fun h1 t1 ok1 c1 k1 => self_meth (s := { s with heap := h1, toks := t1 }) B hm ok1 c1.hp ?_) he
  refine callWith_K (K := K) B.inn (B.meth (name, f) hm).2.2 ?_ hst rfl
  rw [hst]
  exact spliced_cons (RE.cx hv (s := { s with heap := h1, toks := t1 }) ok1 c1 fun h2 t2 ok2 c2 k2 => spliced_nil ⟨B.kin ok2.stays, h h2 t2 ok2 c2 (k1.trans k2)⟩)
end
end Mine
end
section
open PySem.Calls PySem.Spec PySem.SeqAt Builtin Builtin.ObjectAttr
set_option maxRecDepth 100000
namespace Mine
noncomputable def Bnd (ns : List Node) (c : Nat) : Prop := ns.length ≤ c ∧ ∀ q ∈ ns, q.suc.length ≤ c
theorem Bnd.mono {ns : List Node} {c c' : Nat} (h : Bnd ns c) (hc : c ≤ c') : Bnd ns c' := ⟨by have := h.1; omega, fun q hq => by have := h.2 q hq; omega⟩
theorem Bnd.info {ns : List Node} {c : Nat} (h : Bnd ns c) (x : Int) : Bnd (infoN ns x) (c + 1) := by
  unfold infoN
  split
  · exact h.mono (Nat.le_succ _)
  · refine ⟨by rw [List.length_append]; have := h.1; simp; omega, fun q hq => ?_⟩
    rcases List.mem_append.mp hq with hq | hq
    · have := h.2 q hq; omega
    · rw [List.mem_singleton.mp hq]; exact Nat.zero_le _
theorem Bnd.upd {ns : List Node} {c d : Nat} (h : Bnd ns c) (x : Int) {f : Node → Node} (hf : ∀ q, (f q).suc.length ≤ q.suc.length + d) : Bnd (updN ns x f) (c + d) := by
  refine ⟨by unfold updN; rw [List.length_map]; have := h.1; omega, fun q hq => ?_⟩
  obtain ⟨p, hp, rfl⟩ := List.mem_map.mp hq
  have := h.2 p hp
  split
  · have := hf p; omega
  · omega
theorem Bnd.pred {ns : List Node} {c : Nat} (h : Bnd ns c) (name p : Int) : Bnd (predN name ns p) (c + 2) := by
  unfold predN
  exact (h.info p).upd (d := 1) p fun q => by simp

section
variable {w : World} {h₀ : Heap} {k : Nat} {K : Frag} {S : SS} {N : Nat}
theorem SS.len_nodes (S : SS) : S.ps.length = S.nodes.length := by unfold SS.nodes; rw [List.length_map]

theorem ints_get {vs : List Value} {ns : List Int} (h : IntsAre vs ns) : ∀ {i : Nat} {v : Value}, vs[i]? = some v → ∃ n t, ns[i]? = some n ∧ v = .int n t := by
  induction h with
  | nil => intro i v e; simp at e
  | cons n t r ih =>
    intro i v e
    cases i with
    | zero => simp at e; exact ⟨n, t, rfl, e.symm⟩
    | succ i => exact ih (by simpa using e)
theorem ints_length {vs : List Value} {ns : List Int} (h : IntsAre vs ns) : vs.length = ns.length := by
  induction h with
  | nil => rfl
  | cons n t r ih => simp [ih]

theorem suc_append (B : SK K h₀) {X : List Addr} {env : Env} {sc : Scope} {δ : Str → Option PyData} {ν : Str → Option Value} {x y : Str} {p : NIa} {n : Int} {u : Tok} {xp yp apos2 apos pos spos : Pos} {A : Around} {s : Shared} {Q : Flow → Shared → Prop} {E : Value → Shared → Prop}
    (hx : ν x = some (.ref p.i)) (hy : ν y = some (.int n u)) (hp : p ∈ S.ps) (hsz : p.nd.suc.length ≤ 1000) (ok : Ok h₀ k A s.heap) (c : Cx X S.fp s.heap env sc δ ν (S.At w h₀))
    (h : ∀ h1 t1, Ok h₀ k A h1 → Cx X S.fp h1 env sc δ ν ((S.updF p.nd.name fun q => { q with suc := q.suc ++ [n] }).At w h₀) → KpX S.fp h₀.objs.size s.heap h1 → Q .next { s with heap := h1, toks := t1 })
    (hline : (apos.endLine == pos.line) = true) (hx1 : (x == ("__debug__" : Str)) = false := by decide) (hx2 : (x == ("__classdict__" : Str)) = false := by decide) (hy1 : (y == ("__debug__" : Str)) = false := by decide) (hy2 : (y == ("__classdict__" : Str)) = false := by decide)
    (hbase : attributeBase (.Attribute (.Name x xp) "successors" apos2) "append" env (eval (.Attribute (.Name x xp) "successors" apos2) env) = eval (.Attribute (.Name x xp) "successors" apos2) env := by rfl)
    (htrees : backTo pos (starEach [.Name y yp] env) = [(false, eval (.Name y yp) env)] := by rfl) (hsw : swapsWith (.Call (.Attribute (.Attribute (.Name x xp) "successors" apos2) "append" apos) [.Name y yp] [] pos) none spos.line env = pure false := by rfl) :
    wpAny (model P w) A (exec (.Expr (.Call (.Attribute (.Attribute (.Name x xp) "successors" apos2) "append" apos) [.Name y yp] [] pos) spos) env) Q E s := by
  refine wpAny_Expr_any ?_ (by unfold interactive; rw [c.er.kind]; rfl) hsw
  refine wpAny_Call_append hbase (by rw [htrees]; rfl) hline htrees (Attribute_Name_ (RE.cx (re_name (v := .ref p.i) hx hx1 hx2) ok c fun h1 t1 ok1 c1 k1 => ?_))
  obtain ⟨t1', t2, vs, ni, ⟨m, l⟩, hin⟩ := c1.hp.ps p hp
  refine get_slotM (s := { s with heap := h1, toks := t1 }) (B.kin ok1.stays) B.ni B.nic B.sSuc ni.1 ni.2 (v := .ref p.l) rfl rfl ⟨p.l, vs, rfl, ⟨_, m, l, rfl, rfl, rfl⟩, ?_⟩
  refine RE.cx (re_name (v := .int n u) hy hy1 hy2) (s := { s with heap := h1, toks := t1 + 1 }) ok1 c1 fun h2 t2' ok2 c2 k2 => ?_
  have l2 : h2.PlainList p.l vs := k2.plain ⟨m, l⟩
  have ni2 : NiH p.i p.di #[some (.int p.nd.name t1'), some (.int p.nd.np t2), some (.ref p.l)] h2 := niH_sep.kp ni k2
  have hvl := ints_length hin
  refine wpAny_list_append_plain (s := { s with heap := h2, toks := t2' }) (hsz := by rw [szl, ← Array.length_toList]; omega) l2 fun h3 l3 s3 => ?_
  have hmem : ∀ b ∈ p.fp, b ∈ S.fp := fun b hb => S.mem_ps hp hb
  have hnd : p.i ≠ p.l ∧ p.di ≠ p.l := by
    have := SS.ps_nodup c2.hp
    have h2 : p.fp.Nodup := by
      have : ∀ (l : List NIa), (l.flatMap NIa.fp).Nodup → ∀ q ∈ l, q.fp.Nodup := by
        intro l
        induction l with
        | nil => intro _ q hq; cases hq
        | cons y ys ih =>
          intro hn q hq
          rw [List.flatMap_cons, List.nodup_append] at hn
          rcases List.mem_cons.mp hq with rfl | hq
          · exact hn.1
          · exact ih hn.2.1 q hq
      exact this _ ‹_› p hp
    unfold NIa.fp at h2
    simp only [List.nodup_cons, List.mem_cons, List.not_mem_nil, or_false, not_or] at h2
    exact ⟨h2.1.2, h2.2.1⟩
  have k3 : KpX S.fp h₀.objs.size h2 h3 := by
    obtain ⟨m3, e3⟩ := l3
    obtain ⟨m2, e2⟩ := l2
    exact .sameObj s3 (hmem _ (.tail _ (.tail _ (.head _)))) e3 e2 rfl (fun _ q => by cases q)
  have at3 : (S.updF p.nd.name fun q => { q with suc := q.suc ++ [n] }).At w h₀ h3 := by
    refine c2.hp.updF hp (fun _ => rfl) (fun b hb hb' o e => s3.extBut b o (fun q => hb' (by rw [q]; exact .tail _ (.tail _ (.head _)))) e) ⟨t1', t2, vs.push (.int n u), ⟨s3.extBut _ _ hnd.1 ni2.1, s3.extBut _ _ hnd.2 ni2.2⟩, l3, ?_⟩
    rw [Array.toList_push]
    exact ints_app hin (.cons n u .nil)
  have ok3 : Ok h₀ k A h3 := ok2.kpx k3 c2.hp.dead
  refine h h3 t2' ok3 ?_ ((k1.trans k2).x.trans k3)
  have := c2.turn k3 (fun a ha => .inl (by rwa [SS.updF_fp] at ha)) SS.sep at3
  rwa [SS.updF_fp] at this
end
end Mine
end
section
open PySem.Calls PySem.Spec PySem.SeqAt Builtin Builtin.ObjectAttr
set_option maxRecDepth 100000
namespace Mine
section
variable {w : World} {h₀ : Heap} {k : Nat} {K : Frag} {S : SS} {N : Nat} {X : List Addr} {env : Env} {sc : Scope} {δ : Str → Option PyData} {ν : Str → Option Value}

theorem np_get (B : SK K h₀) {p : NIa} (hp : p ∈ S.ps) {expr : Bool} {A : Around} {s : Shared} {Q : Value → Shared → Prop} {E : Value → Shared → Prop} (ok : Ok h₀ k A s.heap) (at_ : S.At w h₀ s.heap)
    (h : ∀ t, Q (.int p.nd.np t) { s with toks := s.toks + 1 }) : wpAny (model P w) A (getAttr (.ref p.i) "npredecessors" expr) Q E s := by
  obtain ⟨t1, t2, vs, ni, l, hin⟩ := at_.ps p hp
  exact get_slotM (B.kin ok.stays) B.ni B.nic B.sPred ni.1 ni.2 (v := .int p.nd.np t2) rfl rfl (h t2)

theorem NIa.fp_nodup {h : Heap} (a : S.At w h₀ h) {p : NIa} (hp : p ∈ S.ps) : p.fp.Nodup := by
  have : ∀ (l : List NIa), (l.flatMap NIa.fp).Nodup → ∀ q ∈ l, q.fp.Nodup := by
    intro l
    induction l with
    | nil => intro _ q hq; cases hq
    | cons y ys ih =>
      intro hn q hq
      rw [List.flatMap_cons, List.nodup_append] at hn
      rcases List.mem_cons.mp hq with rfl | hq
      · exact hn.1
      · exact ih hn.2.1 q hq
  exact this _ (SS.ps_nodup a) p hp

theorem np_set (B : SK K h₀) {p : NIa} (hp : p ∈ S.ps) {f : Node → Node} {v : Int} {tv : Tok} (hf : ∀ q, (f q).name = q.name) (hf2 : (f p.nd).np = v) (hf3 : (f p.nd).suc = p.nd.suc) {A : Around} {s : Shared} {Q : Unit → Shared → Prop} {E : Value → Shared → Prop}
    (ok : Ok h₀ k A s.heap) (c : Cx X S.fp s.heap env sc δ ν (S.At w h₀))
    (h : ∀ h1, Ok h₀ k A h1 → Cx X S.fp h1 env sc δ ν ((S.updF p.nd.name f).At w h₀) → KpX [p.i] h₀.objs.size s.heap h1 → Q () { s with heap := h1, toks := s.toks + 1 }) :
    wpAny (model P w) A (setAttr (.ref p.i) "npredecessors" (.int v tv)) Q E s := by
  obtain ⟨t1, t2, vs, ni, l, hin⟩ := c.hp.ps p hp
  refine set_slotM (B.kin ok.stays) B.ni B.sPred ni.1 ni.2 fun h1 x1 s1 => ?_
  have hmem : p.i ∈ S.fp := S.mem_ps hp (.head _)
  have nd := NIa.fp_nodup c.hp hp
  unfold NIa.fp at nd
  simp only [List.nodup_cons, List.mem_cons, List.not_mem_nil, or_false, not_or] at nd
  have k1' : KpX [p.i] h₀.objs.size s.heap h1 := .sameObj s1 (.head _) x1 ni.1 rfl (fun _ q => by cases q)
  have k1 : KpX S.fp h₀.objs.size s.heap h1 := k1'.mono fun a ha => .inl (by rw [List.mem_singleton.mp ha]; exact hmem)
  have at1 : (S.updF p.nd.name f).At w h₀ h1 := by
    obtain ⟨m, l⟩ := l
    refine c.hp.updF hp hf (fun b hb hb' o e => s1.extBut b o (fun q => hb' (by rw [q]; exact .head _)) e) ⟨t1, tv, vs, ⟨?_, s1.extBut _ _ (Ne.symm nd.1.1) ni.2⟩, ⟨m, s1.extBut _ _ (Ne.symm nd.1.2) l⟩, ?_⟩
    · rw [x1]
      simp only [hf, hf2]
      rfl
    · show IntsAre vs.toList (f p.nd).suc
      rw [hf3]; exact hin
  have c1 := c.turn k1 (fun a ha => .inl (by rwa [SS.updF_fp] at ha)) SS.sep at1
  rw [SS.updF_fp] at c1
  exact h h1 (ok.kpx k1 c.hp.dead) c1 k1'

theorem updF_same (S : SS) (n : Int) (f : Node → Node) : (S.updF n f).x = S.x ∧ (S.updF n f).dx = S.dx ∧ (S.updF n f).d = S.d ∧ (S.updF n f).rd = S.rd ∧ (S.updF n f).pa = S.pa ∧ (S.updF n f).fi = S.fi := ⟨rfl, rfl, rfl, rfl, rfl, rfl⟩
theorem Cx.updEq {S' : SS} {h : Heap} (e : S'.fp = S.fp) (c : Cx X S.fp h env sc δ ν (S'.At w h₀)) : Cx X S'.fp h env sc δ ν (S'.At w h₀) := by rw [e]; exact c
theorem Cx.wk {F : List Addr} {H : Heap → Prop} {h : Heap} {x : Str} {v : Value} (hν : ν x = none) (c : Cx X F h env sc δ (updV ν x v) H) : Cx X F h env sc δ ν H :=
  c.forget (fun _ _ e => e) fun y u e => by
    unfold updV
    rw [if_neg (fun q => by rw [q, hν] at e; cases e)]; exact e

theorem m_addC (B : SK K h₀) (B0 : Base h₀) {n : Int} {u : Tok} {pv : List Value} {preds : List Int} (hpv : IntsAre pv preds) {c : Nat} (hb : Bnd S.nodes c) (hc : c + 2 * preds.length + 10 ≤ 900) (hrd : S.rd = none) {A : Around} {s : Shared} {Q : Value → Shared → Prop} {E : Value → Shared → Prop} (ok : Ok h₀ (k + 4) A s.heap) (at_ : S.At w h₀ s.heap)
    (h : ∀ (S' : SS) h1 t1, Turned w h₀ S S' s.heap h1 → S'.nodes = addF S.nodes n preds → S'.rd = none ∧ S'.pa = S.pa ∧ S'.fi = S.fi → Q .none { s with heap := h1, toks := t1 }) :
    codeAny (model P w) A (.call (.ref 87) ⟨.ref S.x :: .int n u :: pv, []⟩) (fun r s' => match r with | .ok (.ret v) => Q v s' | .ok _ => False | .error e => E e s') s := by
  have hpl := ints_length hpv
  refine code_fn (k := k + 3) (names := ["self", "node", "predecessors"]) (PB := fun h1 us => h1 = s.heap.push { cls := .type "tuple", data := .seq pv.toArray } ∧ us = [.ref S.x, .int n u, .ref s.heap.objs.size]) B.lim B.f87 (fun name qual doc pm cdv ct A E Q hq => ?_) (fun h1 us ⟨e, _⟩ => e ▸ Kp.push _ _) (by decide) (by decide +kernel) (by decide +kernel) ok fun h1 us L env A' h2 t2 pb hL er hw hbn e1 e2 kp ok2 _ => ?_
  · have e : bindArgs (fnOf name qual (mPars 6 2) (mBody 6 2) (mScope 6 2) .none .none doc pm none cdv ct) ⟨.ref S.x :: .int n u :: pv, []⟩ = (newTuple pv >>= fun t => pure [(("self" : Str), .ref S.x), (("node" : Str), .int n u), (("predecessors" : Str), t)]) := by
      cases pv <;> rfl
    rw [e]
    refine wpAny_bind (wpAny_newTuple (wpAny_pure (hq _ _ ⟨rfl, rfl⟩)) (by rw [szl]; omega))
  obtain ⟨rfl, rfl⟩ := pb
  have hT0 : s.heap.get? s.heap.objs.size = none := dead_size _ (Nat.le_refl _)
  have hT1 : (s.heap.push { cls := .type "tuple", data := .seq pv.toArray }).IsTuple s.heap.objs.size pv.toArray := ⟨_, Heap.get?_push_size _ rfl, rfl, 0, rfl⟩
  have kT : Kp h₀.objs.size s.heap (s.heap.push { cls := .type "tuple", data := .seq pv.toArray }) := Kp.push _ _
  generalize s.heap.push { cls := .type "tuple", data := .seq pv.toArray } = hP at *
  generalize hTe : s.heap.objs.size = T at *
  have hLs : s.heap.get? L = none := by
    cases e : s.heap.get? L with
    | none => rfl
    | some o => obtain ⟨o', e'⟩ := kT.there e; rw [hL] at e'; cases e'
  have hTL : T ≠ L := fun q => by obtain ⟨o, e, _⟩ := hT1; rw [q, hL] at e; cases e
  have atP := SS.sep.kp at_ kT
  have hLF : L ∉ S.fp := fun q => by obtain ⟨o, e, _⟩ := SS.sep.live _ at_ L q; rw [hLs] at e; cases e
  have hTF : T ∉ S.fp := fun q => by obtain ⟨o, e, _⟩ := SS.sep.live _ at_ T q; rw [hT0] at e; cases e
  have hL0 : h₀.get? L = none := ok.dead hLs
  have hX0 : ∀ a ∈ [L], h₀.get? a = none := fun a ha => by rw [List.mem_singleton.mp ha]; exact hL0
  have c2 := cx_frame (names := ["self", "node", "predecessors"]) er hbn e1 e2 (SS.sep.kp atP kp) (SS.sep (w := w) (h₀ := h₀)) hLF
  have tup2 : IsSq true h2 T pv.toArray := IsSq.kpx (b := true) (X := []) hT1 kp.x (fun q => by cases q)
  refine hideQE fun Q₁ E₁ hQ₁ _ => ?_
  refine wpAny_execs_cons (wpAny_If (wpAny_isTrue_Compare1 (at_self (s := { s with heap := h2, toks := t2 }) B rfl (by decide) ok2 c2 (fun _ x => x) fun v t t' h3 t3 hl had ok3 c3 k3 => wpAny_Constant_none ?_)))
  have hv : some S.rv = some v := hl
  have hrv : S.rv = .none := by unfold SS.rv; rw [hrd]
  rw [hrv] at hv; cases hv
  refine wpAny_isNot_self rfl (wpAny_truthy_bool (wpAny_execs_nil ?_))
  refine wpAny_execs_cons (wpAny_Assign_Name (self_call1 B (f := 80) (by decide) rfl (re_name (v := .int n u) rfl) (s := { s with heap := h3, toks := t3 }) ok3 c3 fun h4 t4 ok4 c4 k4 => m_info (k := k) (s := { s with heap := h4, toks := t4 }) B (by rw [SS.len_nodes]; have := hb.1; omega) ok4 c4.hp fun S1 p h5 t5 T1 hn1 hp1 hpn hs1 _ => ?_))
  have c5 := c4.turn T1.keep T1.new SS.sep T1.at_
  have ok5 : Ok h₀ (k + 3) A' h5 := ok4.kpx T1.keep at_.dead
  refine c5.store (N := h₀.objs.size) (s := { s with heap := h5, toks := t5 }) (hw _ (.inl (by decide +kernel))) rfl fun h6 t6 c6 k6 => ?_
  have ok6 := ok5.kpx k6 hX0
  have alive : ∀ {h' : Heap} {b : Addr}, KpX (S.fp ++ [L]) h₀.objs.size s.heap h' → h'.get? b = none → s.heap.get? b = none := fun q e => by
    rename_i h' b
    cases e' : s.heap.get? b with
    | none => rfl
    | some o => obtain ⟨o', e2⟩ := q.there ⟨o, e'⟩; rw [e] at e2; cases e2
  have K6 : KpX (S.fp ++ [L]) h₀.objs.size s.heap h6 := (((kT.trans kp).trans (k3.trans k4)).x.trans (T1.keep.mono fun a ha => .inl (List.mem_append_left _ ha))).trans (k6.mono fun a ha => .inl (List.mem_append_right _ ha))
  have new1 : ∀ a ∈ S1.fp, a ∈ S.fp ∨ s.heap.get? a = none := fun a ha => (T1.new a ha).imp id fun q => alive (h' := h4) ((kT.trans kp).trans (k3.trans k4)).x q
  have tupK : ∀ {h' : Heap} {b : List Addr}, True := trivial
  have hT1F : T ∉ S1.fp := fun q => (T1.new T q).elim hTF fun e => by
    obtain ⟨o, e'⟩ := (IsSq.kpx (b := true) (X := []) tup2 (k3.trans k4).x (fun q => by cases q)).alive
    rw [e] at e'; cases e'
  have tup6 : IsSq true h6 T pv.toArray := ((tup2.kpx (X := []) (k3.trans k4).x (fun q => by cases q)).kpx T1.keep hTF).kpx k6 (fun q => hTL (List.mem_singleton.mp q))
  refine wpAny_execs_cons (wpAny_AugAssign_AttributeAny (RE.cx (re_name (v := .ref p.i) rfl) (s := { s with heap := h6, toks := t6 }) ok6 c6 fun h7 t7 ok7 c7 k7 => np_get (s := { s with heap := h7, toks := t7 }) B hp1 ok7 c7.hp fun tnp => ?_))
  refine Call_Name1 (load_gl (s := { s with heap := h7, toks := t7 + 1 }) ok7 c7.er (by decide +kernel) B0.len (callWith_builtin1 (RE.cx (re_name (v := .ref T) rfl) (s := { s with heap := h7, toks := t7 + 1 }) ok7 c7 fun h8 t8 ok8 c8 k8 => ?_)))
  have tup8 : IsSq true h8 T pv.toArray := tup6.kpx (X := []) (k7.trans k8).x (fun q => by cases q)
  refine len_tuple (s := { s with heap := h8, toks := t8 }) (items := pv.toArray) tup8 (by rw [List.size_toArray]; omega) ?_
  refine PySem.AutoIntOps.iadd_0 ?_
  have hS2 : ∀ q : Node, ({ q with np := q.np + preds.length } : Node).name = q.name := fun _ => rfl
  refine np_set (s := { s with heap := h8, toks := t8 + 1 + 1 + 1 }) B hp1 (f := fun q => { q with np := q.np + preds.length }) hS2 (by show p.nd.np + (preds.length : Int) = p.nd.np + (pv.toArray.size : Int); rw [List.size_toArray, hpl]) rfl ok8 c8 fun h9 ok9 c9 k9 => ?_
  have c9 := Cx.updEq (SS.updF_fp S1 p.nd.name _) c9
  rw [hpn] at c9
  have k9' : KpX S1.fp h₀.objs.size h8 h9 := k9.mono fun a ha => .inl (by rw [List.mem_singleton.mp ha]; exact S1.mem_ps hp1 (.head _))
  have K9 : KpX (S.fp ++ [L]) h₀.objs.size s.heap h9 := by
    have q1 : KpX ((S.fp ++ [L]) ++ S1.fp) h₀.objs.size s.heap h8 := (K6.trans (k7.trans k8).x).mono fun a ha => .inl (List.mem_append_left _ ha)
    have q2 : KpX ((S.fp ++ [L]) ++ S1.fp) h₀.objs.size h8 h9 := k9'.mono fun a ha => .inl (List.mem_append_right _ ha)
    exact (q1.trans q2).mono fun a ha => (List.mem_append.mp ha).elim .inl fun q => (new1 a q).imp (List.mem_append_left _) id
  have tup9 : IsSq true h9 T pv.toArray := tup8.kpx k9' hT1F
  generalize hS2e : S1.updF n (fun q => { q with np := q.np + preds.length }) = S2 at c9
  have fp2 : S2.fp = S1.fp := by rw [← hS2e]; exact SS.updF_fp _ _ _
  have nd2 : S2.nodes = updN (infoN S.nodes n) n (fun q => { q with np := q.np + preds.length }) := by rw [← hS2e, SS.updF_nodes, hn1]
  have rd2 : S2.rd = none ∧ S2.pa = S.pa ∧ S2.fi = S.fi := by rw [← hS2e]; exact ⟨hs1.1.trans hrd, hs1.2⟩
  have sm2 : S2.x = S.x ∧ S2.dx = S.dx ∧ S2.d = S.d := by rw [← hS2e]; exact T1.same
  have b2 : Bnd S2.nodes (c + 1) := by rw [nd2]; exact (hb.info n).upd (d := 0) n fun q => Nat.le_refl _
  have new2 : ∀ a ∈ S2.fp, a ∈ S.fp ∨ s.heap.get? a = none := fun a ha => new1 a (fp2 ▸ ha)
  refine wpAny_execs_cons (for_cx (S := S2) (b := true) (a := T) (X := [L]) (vs := pv.toArray) (s := { s with heap := h9, toks := t8 + 1 + 1 + 1 + 1 }) (fun i S' => S'.nodes = (preds.take i).foldl (predN n) S2.nodes ∧ Bnd S'.nodes (c + 1 + 2 * i) ∧ (S'.rd = none ∧ S'.pa = S.pa ∧ S'.fi = S.fi) ∧ T ∉ S'.fp) ok9 (fun a ha => c9.hp.dead a ha) (fun _ q => q) (hw _ (.inl (by decide +kernel))) rfl hX0 ⟨rfl, b2, rd2, fp2 ▸ hT1F⟩ (fun q => hTL (List.mem_singleton.mp q)) (fun Q' hq => RE.cx (re_name (v := .ref T) rfl) (s := { s with heap := h9, toks := t8 + 1 + 1 + 1 + 1 }) ok9 (c9.forget (fun _ _ e => e) (fun y v e => e)) fun h10 t10 ok10 c10 k10 => hq h10 t10 ok10 c10 k10 (tup9.kpx (X := []) k10.x (fun q => by cases q))) (fun it i v S' s' hv hpr ok' c' hX0' hal hsm _ _ => ?_) fun S' h1 t1 hpr ok' c' hnew kk hsm => ?_)
  · refine hideQE fun Q₂ E₂ hQ₂ _ => ?_
    obtain ⟨m, tm, hm, rfl⟩ := ints_get hpv (i := i) (by simpa using hv)
    obtain ⟨hnod, hbd, hrd', hTS⟩ := hpr
    have hlt : i < preds.length := (List.getElem?_eq_some_iff.mp hm).1
    have hsx : S'.x = S.x := hsm.1.trans sm2.1
    refine wpAny_execs_cons (wpAny_Assign_Name (self_call1 B (f := 80) (by decide) (by rw [hsx]; rfl) (re_name (v := .int m tm) rfl) ok' c' fun h4 t4 ok4 c4 k4 => m_info (k := k) (s := { s' with heap := h4, toks := t4 }) B (by rw [SS.len_nodes]; have := hbd.1; omega) ok4 c4.hp fun S3 p3 h5 t5 T3 hn3 hp3 hpn3 hs3 _ => ?_))
    have c5 := c4.turn T3.keep T3.new SS.sep T3.at_
    have ok5 : Ok h₀ (k + 3) A' h5 := ok4.kpx T3.keep c4.hp.dead
    refine Cx.storeW (N := h₀.objs.size) (W := [L]) (s := { s' with heap := h5, toks := t5 }) (fun a ha => .tail _ ha) c5 (hw _ (.inl (by decide +kernel))) rfl fun h6 t6 c6 k6 => ?_
    have ok6 := ok5.kpx k6 hX0
    have hb3 : Bnd S3.nodes (c + 1 + 2 * i + 1) := by rw [hn3]; exact hbd.info m
    refine wpAny_execs_cons (suc_append (S := S3) (s := { s' with heap := h6, toks := t6 }) B (x := "pred_info") (y := "node") (p := p3) (n := n) (u := u) rfl rfl hp3 (by have := hb3.2 p3.nd (List.mem_map.mpr ⟨p3, hp3, rfl⟩); omega) ok6 c6 (fun h7 t7 ok7 c7 k7 => wpAny_execs_nil ?_) rfl)
    have alive4 : ∀ {b : Addr}, h4.get? b = none → s'.heap.get? b = none := fun e => by
      rename_i b
      cases e' : s'.heap.get? b with
      | none => rfl
      | some o => obtain ⟨o', e2⟩ := k4.there e'; rw [e] at e2; cases e2
    have new3 : ∀ z ∈ S3.fp, z ∈ S'.fp ∨ s'.heap.get? z = none := fun z hz => (T3.new z hz).imp id alive4
    have hS4fp : (S3.updF p3.nd.name fun q => { q with suc := q.suc ++ [n] }).fp = S3.fp := SS.updF_fp _ _ _
    have hT3 : T ∉ S3.fp := fun q => (new3 T q).elim hTS fun e => by obtain ⟨o, e'⟩ := hal; rw [e] at e'; cases e'
    refine hQ₂ _ _ ?_
    refine ⟨h7, t7, S3.updF p3.nd.name fun q => { q with suc := q.suc ++ [n] }, S'.fp ++ [L], rfl, Cx.wk rfl (Cx.wk rfl (Cx.updEq hS4fp c7)), ⟨?_, ?_, ⟨hs3.1.trans hrd'.1, hs3.2.1.trans hrd'.2.1, hs3.2.2.trans hrd'.2.2⟩, by rw [hS4fp]; exact hT3⟩, fun z hz => new3 z (hS4fp ▸ hz), ?_, fun q => (List.mem_append.mp q).elim hTS fun q => hTL (List.mem_singleton.mp q), fun z hz => List.mem_append.mp hz, T3.same⟩
    · rw [SS.updF_nodes, hn3, hpn3, foldl_take _ _ _ _ hlt, ← hnod]
      have : preds[i] = m := (List.getElem?_eq_some_iff.mp hm).2
      rw [this]; rfl
    · rw [SS.updF_nodes]
      refine (hb3.upd (d := 1) _ fun q => ?_).mono (by omega)
      simp
    · have q1 : KpX ((S'.fp ++ [L]) ++ S3.fp) h₀.objs.size s'.heap h5 := (k4.x.trans T3.keep).mono fun z hz => .inl (List.mem_append_left _ (List.mem_append_left _ hz))
      have q2 : KpX ((S'.fp ++ [L]) ++ S3.fp) h₀.objs.size h5 h6 := k6.mono fun z hz => .inl (List.mem_append_left _ (List.mem_append_right _ hz))
      have q3 : KpX ((S'.fp ++ [L]) ++ S3.fp) h₀.objs.size h6 h7 := k7.mono fun z hz => .inl (List.mem_append_right _ hz)
      exact ((q1.trans q2).trans q3).mono fun z hz => (List.mem_append.mp hz).elim .inl fun q => (new3 z q).imp (List.mem_append_left _) id
  · obtain ⟨hnod, hbd, hrd', hTS⟩ := hpr
    refine wpAny_execs_nil (hQ₁ _ _ (h S' h1 t1 ⟨c'.hp, fun a ha => ?_, ?_, hsm.1.trans sm2.1, hsm.2.1.trans sm2.2.1, hsm.2.2.trans sm2.2.2⟩ ?_ hrd'))
    · rcases hnew a ha with q | q
      · exact new2 a q
      · exact .inr (alive K9 q)
    · have q1 : KpX ((S.fp ++ [L]) ++ (S2.fp ++ [L])) h₀.objs.size s.heap h9 := K9.mono fun z hz => .inl (List.mem_append_left _ hz)
      have q2 : KpX ((S.fp ++ [L]) ++ (S2.fp ++ [L])) h₀.objs.size h9 h1 := kk.mono fun z hz => .inl (List.mem_append_right _ hz)
      refine (q1.trans q2).mono fun z hz => ?_
      have key : z ∈ S.fp ∨ z = L ∨ s.heap.get? z = none := by
        rcases List.mem_append.mp hz with q | q
        · exact (List.mem_append.mp q).imp id fun q => .inl (List.mem_singleton.mp q)
        · rcases List.mem_append.mp q with q | q
          · exact (new2 z q).imp id .inr
          · exact .inr (.inl (List.mem_singleton.mp q))
      rcases key with q | rfl | q
      · exact .inl q
      · exact .inr hLs
      · exact .inr q
    · rw [hnod, nd2, List.size_toArray, hpl, List.take_length]; rfl
end
end Mine
end
section
open PySem.Calls PySem.Spec PySem.SeqAt Builtin Builtin.ObjectAttr
set_option maxRecDepth 100000
namespace Mine
section
variable {w : World} {h₀ : Heap} {k : Nat} {K : Frag} {S : SS}

noncomputable def TsH (x dx : Addr) (al : List (Str × Value)) (h : Heap) : Prop := h.get? x = some (instObj 137 dx) ∧ AD h dx al
theorem tsH_sep {x dx : Addr} {al : List (Str × Value)} : Sep [x, dx] (TsH x dx al) := by
  refine ⟨fun h ⟨h1, h2⟩ b hb => ?_, fun h h' ⟨h1, h2⟩ q => ⟨q x (.head _) _ h1, h2.stay fun o e => q dx (.tail _ (.head _)) o e⟩⟩
  rcases List.mem_cons.mp hb with rfl | hb
  · exact ⟨_, h1, by simp⟩
  · obtain ⟨es, n, e, _⟩ := h2
    rw [List.mem_singleton.mp hb]; exact ⟨_, e, by simp⟩
theorem ts_turn {x dx : Addr} {al al' : List (Str × Value)} {h h' : Heap} {N : Nat} (hne : x ≠ dx) (hx : TsH x dx al h) (ad : AD h' dx al') (hs : Heap.SameBut dx h h') : TsH x dx al' h' ∧ KpX [x, dx] N h h' ∧ KpX [dx] N h h' := by
  obtain ⟨es, n, e, r⟩ := id ad
  obtain ⟨es0, n0, e0, _⟩ := hx.2
  exact ⟨⟨(hs.2 x hne).trans hx.1, ad⟩, .sameObj hs (.tail _ (.head _)) e e0 rfl (fun _ q => by cases q), .sameObj hs (.head _) e e0 rfl (fun _ q => by cases q)⟩

theorem putA_le {n : Str} {v : Value} {al : List (Str × Value)} {c : Nat} (h : al.length ≤ c) : (putA n v al).length ≤ c + 1 := by
  have := putA_len n v al; omega
theorem m_init (B : SK K h₀) {x dx : Addr} {A : Around} {s : Shared} {R : Result → Shared → Prop} (ok : Ok h₀ (k + 1) A s.heap) (hx : TsH x dx [] s.heap) (hne : x ≠ dx) (h0 : h₀.get? x = none ∧ h₀.get? dx = none)
    (h : ∀ d t t' h1 t1, TsH x dx [("_node2info", .ref d), ("_ready_nodes", .none), ("_npassedout", .int 0 t), ("_nfinished", .int 0 t')] h1 → h1.DictOf (intKind P w) d [] → s.heap.get? d = none → KpX [dx] h₀.objs.size s.heap h1 → R (.ok (.ret .none)) { s with heap := h1, toks := t1 }) :
    codeAny (model P w) A (.call (.ref 73) ⟨[.ref x], []⟩) R s := by
  obtain ⟨od, nd, hod, hdd⟩ := B.dflt
  refine code_fn (names := ["self", "graph"]) (PB := fun h1 vs => h1 = s.heap ∧ vs = [.ref x, .none]) B.lim B.f73 (fun name qual doc pm cdv ct A E Q hq => ?_) (fun h1 vs ⟨e, _⟩ => e ▸ .refl _ _) (by decide) (by decide +kernel) (by decide +kernel) ok fun h1 vs L env A' h2 t2 pb hL er hw hb e1 e2 kp ok2 _ => ?_
  · exact BindsTo.of_defaults (T := 66) rfl (ok.stays _ _ hod) hdd rfl rfl _ _ _ _ (hq s.heap [.ref x, .none] ⟨rfl, rfl⟩)
  obtain ⟨rfl, rfl⟩ := pb
  have hLF : L ∉ [x, dx] := fun q => by
    obtain ⟨o, e, _⟩ := tsH_sep.live _ hx L q
    rw [hL] at e; cases e
  have hF0 : ∀ a ∈ [x, dx], h₀.get? a = none := fun a ha => by
    rcases List.mem_cons.mp ha with rfl | ha
    · exact h0.1
    · rw [List.mem_singleton.mp ha]; exact h0.2
  have c2 := cx_frame (names := ["self", "graph"]) er hb e1 e2 (tsH_sep.kp hx kp) tsH_sep hLF
  refine wpAny_execs_cons (plainObj_wpAny_Assign_Attribute (wpAny_Dict_empty (s := { s with heap := h2, toks := t2 }) ?_))
  have hd2 : h2.get? h2.objs.size = none := dead_size _ (Nat.le_refl _)
  have kd : Kp h₀.objs.size h2 (h2.push emptyDict) := Kp.push _ _
  have dd : (h2.push emptyDict).DictOf (intKind P w) h2.objs.size [] := Heap.DictOf.new h2
  show wpAny (model P w) A' (PySem.eval _ env) _ _ { s with heap := h2.push emptyDict, toks := t2 }
  generalize h2.push emptyDict = h3 at kd dd
  generalize h2.objs.size = d at hd2 dd
  have hds : s.heap.get? d = none := by
    cases e : s.heap.get? d with
    | none => rfl
    | some o => obtain ⟨o', e'⟩ := kp.there e; rw [hd2] at e'; cases e'
  have hdx : d ≠ dx ∧ d ≠ x := by
    refine ⟨fun q => ?_, fun q => ?_⟩
    · obtain ⟨o, e, _⟩ := tsH_sep.live _ hx dx (.tail _ (.head _)); rw [← q, hds] at e; cases e
    · obtain ⟨o, e, _⟩ := tsH_sep.live _ hx x (.head _); rw [← q, hds] at e; cases e
  have keepD : ∀ {h h' : Heap}, KpX [dx] h₀.objs.size h h' → h.DictOf (intKind P w) d [] → h'.DictOf (intKind P w) d [] := fun q ⟨o, es, ep, e, hc, r⟩ => ⟨o, es, ep, q.get (fun z => hdx.1 (List.mem_singleton.mp z)) e (by rw [hc.1]; decide), hc, r⟩
  refine RE.cx (re_name (v := .ref x) rfl) (s := { s with heap := h3, toks := t2 }) (ok2.kp kd) (c2.kp kd) fun h4 t4 ok4 c4 k4 => ?_
  refine set_attr (s := { s with heap := h4, toks := t4 }) (B.kin ok4.stays) B.ts B.tsd (B.no _ (by decide)).2 c4.hp.1 c4.hp.2 (by decide) fun h5 ad5 s5 => ?_
  obtain ⟨x5, kk5, k5⟩ := ts_turn (N := h₀.objs.size) hne c4.hp ad5 s5
  have ok5 := ok4.kpx kk5 hF0
  have c5 := c4.turn kk5 (fun a ha => .inl ha) tsH_sep x5
  refine wpAny_execs_cons (plainObj_wpAny_Assign_Attribute (wpAny_Constant_none (RE.cx (re_name (v := .ref x) rfl) (s := { s with heap := h5, toks := t4 + 2 }) ok5 c5 fun h6 t6 ok6 c6 k6 => ?_)))
  refine set_attr (s := { s with heap := h6, toks := t6 }) (B.kin ok6.stays) B.ts B.tsd (B.no _ (by decide)).2 c6.hp.1 c6.hp.2 (Nat.le_trans (putA_le (c := 0) (Nat.le_refl _)) (by decide)) fun h7 ad7 s7 => ?_
  obtain ⟨x7, kk7, k7⟩ := ts_turn (N := h₀.objs.size) hne c6.hp ad7 s7
  have ok7 := ok6.kpx kk7 hF0
  have c7 := c6.turn kk7 (fun a ha => .inl ha) tsH_sep x7
  refine wpAny_execs_cons (plainObj_wpAny_Assign_Attribute (EvE.cx (d := .int 0) ev_int (s := { s with heap := h7, toks := t6 + 2 }) ok7 c7 fun v8 h8 t8 r8 ok8 c8 k8 => RE.cx (re_name (v := .ref x) rfl) (s := { s with heap := h8, toks := t8 }) ok8 c8 fun h9 t9 ok9 c9 k9 => ?_))
  obtain ⟨tp, rfl⟩ := r8.int_inv
  refine set_attr (s := { s with heap := h9, toks := t9 }) (B.kin ok9.stays) B.ts B.tsd (B.no _ (by decide)).2 c9.hp.1 c9.hp.2 (Nat.le_trans (putA_le (putA_le (c := 0) (Nat.le_refl _))) (by decide)) fun h10 ad10 s10 => ?_
  obtain ⟨x10, kk10, k10⟩ := ts_turn (N := h₀.objs.size) hne c9.hp ad10 s10
  have ok10 := ok9.kpx kk10 hF0
  have c10 := c9.turn kk10 (fun a ha => .inl ha) tsH_sep x10
  refine wpAny_execs_cons (plainObj_wpAny_Assign_Attribute (EvE.cx (d := .int 0) ev_int (s := { s with heap := h10, toks := t9 + 2 }) ok10 c10 fun v11 h11 t11 r11 ok11 c11 k11 => RE.cx (re_name (v := .ref x) rfl) (s := { s with heap := h11, toks := t11 }) ok11 c11 fun h12 t12 ok12 c12 k12 => ?_))
  obtain ⟨tf, rfl⟩ := r11.int_inv
  refine set_attr (s := { s with heap := h12, toks := t12 }) (B.kin ok12.stays) B.ts B.tsd (B.no _ (by decide)).2 c12.hp.1 c12.hp.2 (Nat.le_trans (putA_le (putA_le (putA_le (c := 0) (Nat.le_refl _)))) (by decide)) fun h13 ad13 s13 => ?_
  obtain ⟨x13, kk13, k13⟩ := ts_turn (N := h₀.objs.size) hne c12.hp ad13 s13
  have ok13 := ok12.kpx kk13 hF0
  have c13 := c12.turn kk13 (fun a ha => .inl ha) tsH_sep x13
  refine wpAny_execs_cons (wpAny_If (wpAny_isTrue_Compare1 (RE.cx (re_name (v := .none) rfl) (s := { s with heap := h13, toks := t12 + 2 }) ok13 c13 fun h14 t14 ok14 c14 k14 => wpAny_Constant_none (wpAny_isNot_self rfl (wpAny_truthy_bool (wpAny_execs_nil (wpAny_execs_nil ?_)))))))
  have kall : KpX [dx] h₀.objs.size h3 h14 := ((((k4.x.trans k5).trans (k6.x.trans k7)).trans ((k8.trans k9).x.trans k10)).trans ((k11.trans k12).x.trans k13)).trans k14.x
  exact h d tp tf h14 t14 c14.hp (keepD kall dd) hds ((kp.trans kd).x.trans kall)
end
end Mine
end
section
open PySem.Calls PySem.Spec PySem.SeqAt Builtin Builtin.ObjectAttr
set_option maxRecDepth 100000
namespace Mine
structure SG (h₀ : Heap) : Prop where
  out : ∃ t, Gl h₀ "_NODE_OUT" (.int (-1) t)
  done : ∃ t, Gl h₀ "_NODE_DONE" (.int (-2) t)
  tuple : Gl h₀ "tuple" (.type "tuple")
  bool : Gl h₀ "bool" (.type "bool")
  set : Gl h₀ "set" (.type "set")
  iter : Gl h₀ "iter" (.builtin "iter")

section
variable {w : World} {h₀ : Heap} {k : Nat} {K : Frag} {S : SS} {N : Nat} {X : List Addr} {env : Env} {sc : Scope} {δ : Str → Option PyData} {ν : Str → Option Value}

theorem SS.At.attr {S' : SS} {h h' : Heap} (a : S.At w h₀ h) (hsame : S'.x = S.x ∧ S'.dx = S.dx ∧ S'.d = S.d ∧ S'.ps = S.ps) (ad : ∃ t t', AD h' S.dx (S'.attrs t t')) (hs : Heap.SameBut S.dx h h')
    (hrd : ∀ r l, S'.rd = some (r, l) → ∃ vs, h'.PlainList r vs ∧ IntsAre vs.toList l) (nd : S'.fp.Nodup) (dead : ∀ c ∈ S'.fp, h₀.get? c = none) : S'.At w h₀ h' := by
  obtain ⟨e1, e2, e3, e4⟩ := hsame
  have hn := a.nd
  have hk : ∀ c ∈ S.fp, c ≠ S.dx → ∀ o, h.get? c = some o → h'.get? c = some o := fun c _ hc o e => (hs.2 c hc).trans e
  have hxd : S.x ≠ S.dx ∧ S.d ≠ S.dx ∧ ∀ c ∈ S.ps.flatMap NIa.fp, c ≠ S.dx := by
    unfold SS.fp at hn
    obtain ⟨n1, hn⟩ := List.nodup_cons.mp hn
    obtain ⟨n2, hn⟩ := List.nodup_cons.mp hn
    exact ⟨fun q => n1 (by rw [q]; exact .head _), fun q => n2 (by rw [← q]; exact .head _), fun c hc q => n2 (by rw [← q]; exact .tail _ (List.mem_append_right _ hc))⟩
  refine ⟨?_, ?_, ?_, fun p hp => ?_, hrd, nd, dead⟩
  · rw [e1, e2]; exact hk _ (.head _) hxd.1 _ a.x
  · rw [e2]; exact ad
  · have : S'.kvs = S.kvs := by unfold SS.kvs; rw [e4]
    rw [this, e3]
    obtain ⟨o, es, ep, e, r⟩ := a.d
    exact ⟨o, es, ep, hk _ (.tail _ (.tail _ (.head _))) hxd.2.1 _ e, r⟩
  · rw [e4] at hp
    exact p.at_sep.loc _ _ (a.ps p hp) fun b hb o e => hk b (S.mem_ps hp hb) (hxd.2.2 b (List.mem_flatMap.mpr ⟨p, hp, hb⟩)) o e

theorem set_num (B : SK K h₀) {S' : SS} {name : Str} {v : Value} (hn : name ∈ (["_node2info", "_ready_nodes", "_npassedout", "_nfinished"] : List Str)) (hput : ∀ t t', ∃ u u', putA name v (S.attrs t t') = S'.attrs u u') (hsame : S'.x = S.x ∧ S'.dx = S.dx ∧ S'.d = S.d ∧ S'.ps = S.ps ∧ S'.rd = S.rd)
    {A : Around} {s : Shared} {Q : Unit → Shared → Prop} {E : Value → Shared → Prop} (ok : Ok h₀ k A s.heap) (c : Cx X S.fp s.heap env sc δ ν (S.At w h₀))
    (h : ∀ h1, Ok h₀ k A h1 → Cx X S'.fp h1 env sc δ ν (S'.At w h₀) → KpX S.fp h₀.objs.size s.heap h1 → Q () { s with heap := h1, toks := s.toks + 2 }) : wpAny (model P w) A (setAttr (.ref S.x) name v) Q E s := by
  obtain ⟨t, t', ad⟩ := c.hp.ad
  have hfp : S'.fp = S.fp := by unfold SS.fp SS.rdl; rw [hsame.1, hsame.2.1, hsame.2.2.1, hsame.2.2.2.1, hsame.2.2.2.2]
  refine set_attr (B.kin ok.stays) B.ts B.tsd (B.no name hn).2 c.hp.x ad (by show 4 ≤ 100; decide) fun h1 ad1 s1 => ?_
  obtain ⟨u, u', e⟩ := hput t t'
  have k1 : KpX S.fp h₀.objs.size s.heap h1 := by
    obtain ⟨es, n, e', _⟩ := id ad1
    obtain ⟨es0, n0, e0, _⟩ := id ad
    exact .sameObj s1 (.tail _ (.head _)) e' e0 rfl (fun _ q => by cases q)
  rw [e] at ad1
  have at1 : S'.At w h₀ h1 := c.hp.attr ⟨hsame.1, hsame.2.1, hsame.2.2.1, hsame.2.2.2.1⟩ ⟨u, u', ad1⟩ s1 (fun r l er => by
    rw [hsame.2.2.2.2] at er
    obtain ⟨vs, ⟨m, e1⟩, e2⟩ := c.hp.rd r l er
    have hr : r ≠ S.dx := fun q => by
      have hn := c.hp.nd
      unfold SS.fp at hn
      have n2 := (List.nodup_cons.mp (List.nodup_cons.mp hn).2).1
      exact n2 (by rw [← q]; exact .tail _ (List.mem_append_left _ (by unfold SS.rdl; rw [er]; exact .head _)))
    exact ⟨vs, ⟨m, (s1.2 r hr).trans e1⟩, e2⟩) (hfp ▸ c.hp.nd) (fun b hb => c.hp.dead b (hfp ▸ hb))
  exact h h1 (ok.kpx k1 c.hp.dead) (c.turn k1 (fun a ha => .inl (hfp ▸ ha)) SS.sep at1) k1

theorem SS.At.ready {h h' : Heap} {r : Addr} {l l' : List Int} {vs : Array Value} (a : S.At w h₀ h) (hr : S.rd = some (r, l)) (hs : Heap.SameBut r h h') (hl : h'.PlainList r vs) (hi : IntsAre vs.toList l') : ({ S with rd := some (r, l') } : SS).At w h₀ h' := by
  have hfp : ({ S with rd := some (r, l') } : SS).fp = S.fp := by unfold SS.fp SS.rdl; rw [hr]
  have hn := a.nd
  have hrl : S.rdl = [r] := by unfold SS.rdl; rw [hr]
  have hk : ∀ c ∈ S.fp, c ≠ r → ∀ o, h.get? c = some o → h'.get? c = some o := fun c _ hc o e => (hs.2 c hc).trans e
  have hxd : S.x ≠ r ∧ S.dx ≠ r ∧ S.d ≠ r ∧ ∀ c ∈ S.ps.flatMap NIa.fp, c ≠ r := by
    unfold SS.fp at hn
    rw [hrl] at hn
    obtain ⟨n1, hn⟩ := List.nodup_cons.mp hn
    obtain ⟨n2, hn⟩ := List.nodup_cons.mp hn
    obtain ⟨n3, hn⟩ := List.nodup_cons.mp hn
    obtain ⟨_, _, n4⟩ := List.nodup_append.mp hn
    exact ⟨fun q => n1 (by rw [q]; exact .tail _ (.tail _ (.head _))), fun q => n2 (by rw [q]; exact .tail _ (.head _)), fun q => n3 (by rw [q]; exact .head _), fun c hc q => n4 r (.head _) c hc q.symm⟩
  refine ⟨hk _ (.head _) hxd.1 _ a.x, ?_, ?_, fun p hp => ?_, fun r' l'' e => ?_, hfp ▸ hn, fun c hc => a.dead c (hfp ▸ hc)⟩
  · obtain ⟨t, t', ad⟩ := a.ad
    have : ({ S with rd := some (r, l') } : SS).attrs t t' = S.attrs t t' := by unfold SS.attrs SS.rv; rw [hr]
    exact ⟨t, t', by rw [this]; exact ad.stay fun o e => hk _ (.tail _ (.head _)) hxd.2.1 o e⟩
  · obtain ⟨o, es, ep, e, q⟩ := a.d
    exact ⟨o, es, ep, hk _ (.tail _ (.tail _ (.head _))) hxd.2.2.1 _ e, q⟩
  · exact p.at_sep.loc _ _ (a.ps p hp) fun b hb o e => hk b (S.mem_ps hp hb) (hxd.2.2.2 b (List.mem_flatMap.mpr ⟨p, hp, hb⟩)) o e
  · cases e; exact ⟨vs, hl, hi⟩

theorem hasN_upd (ns : List Node) (x y : Int) {f : Node → Node} (hf : ∀ q, (f q).name = q.name) : hasN (updN ns x f) y = hasN ns y := by
  unfold hasN updN
  rw [List.any_map]
  congr 1
  funext q
  show ((if q.name == x then f q else q).name == y) = _
  split
  · rw [hf]
  · rfl
theorem find_of_has {n : Int} (h : hasN S.nodes n = true) : ∃ p ∈ S.ps, p.nd.name = n ∧ (S.ps.find? fun p => p.nd.name == n) = some p := by
  rw [hasN_iff] at h
  obtain ⟨p, e⟩ := Option.isSome_iff_exists.mp h
  exact ⟨p, List.mem_of_find?_eq_some e, by simpa using List.find?_some e, e⟩

theorem n2i_item (B : SK K h₀) {x y : Str} {xp yp pos : Pos} {n : Int} {u : Tok} {p : NIa} (hx : ν x = some (.ref S.d)) (hy : ν y = some (.int n u)) (hf : (S.ps.find? fun p => p.nd.name == n) = some p) {A : Around} {s : Shared} {Q : Value → Shared → Prop} {E : Value → Shared → Prop} (ok : Ok h₀ k A s.heap) (c : Cx X S.fp s.heap env sc δ ν (S.At w h₀))
    (h : ∀ h1 t1, Ok h₀ k A h1 → Cx X S.fp h1 env sc δ ν (S.At w h₀) → Kp h₀.objs.size s.heap h1 → Q (.ref p.i) { s with heap := h1, toks := t1 })
    (hx1 : (x == ("__debug__" : Str)) = false := by decide) (hx2 : (x == ("__classdict__" : Str)) = false := by decide) (hy1 : (y == ("__debug__" : Str)) = false := by decide) (hy2 : (y == ("__classdict__" : Str)) = false := by decide)
    (ht : ∀ o r, letTemporaryGo (.Name x xp) o r = pure () := by intro _ _; rfl) :
    wpAny (model P w) A (eval (.Subscript (.Name x xp) (.Name y yp) pos) env) Q E s := by
  refine wpAny_Subscript_Name_late (RE.cx (re_name (v := .ref S.d) hx hx1 hx2) ok c fun h1 t1 ok1 c1 k1 => RE.cx (re_name (v := .int n u) hy hy1 hy2) (s := { s with heap := h1, toks := t1 }) ok1 c1 fun h2 t2 ok2 c2 k2 => ?_) ht
  exact ⟨"dict", _, slot_dict_getitem.lookup, c2.hp.d.typeIs (s := { s with heap := h2, toks := t2 }), wpAny_getItem_of (knd := intKind P w) (s := { s with heap := h2, toks := t2 }) (intKind_is P w n u) c2.hp.d.mapOf (v := .ref p.i) (by rw [valueAt_kvs, hf]; rfl) (h h2 (t2 + 1) ok2 c2 (k1.trans k2))⟩
end
end Mine
end
section
open PySem.Calls PySem.Spec PySem.SeqAt Builtin Builtin.ObjectAttr
set_option maxRecDepth 100000
namespace Mine
section
variable {w : World} {h₀ : Heap} {k : Nat} {K : Frag} {S : SS} {N : Nat} {X : List Addr} {env : Env} {sc : Scope} {δ : Str → Option PyData} {ν : Str → Option Value}

noncomputable def outN (ns : List Node) (x : Int) : List Node := updN ns x fun q => { q with np := -1 }
theorem hasN_fold (l : List Int) (y : Int) : ∀ ns, hasN (l.foldl outN ns) y = hasN ns y := by
  induction l with
  | nil => intro ns; rfl
  | cons x xs ih => intro ns; rw [List.foldl_cons, ih]; exact hasN_upd ns x y fun _ => rfl

theorem m_ready (B : SK K h₀) (B0 : Base h₀) (G : SG h₀) {r : Addr} {l : List Int} (hrd : S.rd = some (r, l)) (hl : l.length ≤ 900) (hhas : ∀ x ∈ l, hasN S.nodes x = true) {A : Around} {s : Shared} {Q : Value → Shared → Prop} {E : Value → Shared → Prop} (ok : Ok h₀ (k + 1) A s.heap) (at_ : S.At w h₀ s.heap)
    (h : ∀ (S' : SS) T vs h1 t1, Turned w h₀ S S' s.heap h1 → S'.nodes = l.foldl outN S.nodes → S'.rd = some (r, []) ∧ S'.pa = S.pa + l.length ∧ S'.fi = S.fi → h1.get? T = some { cls := .type "tuple", data := .seq vs } → IntsAre vs.toList l → s.heap.get? T = none → T ∉ S'.fp → Q (.ref T) { s with heap := h1, toks := t1 }) :
    wpAny (model P w) A (call (.ref 99) [.ref S.x]) Q E s := by
  refine meth_frame (names := ["self"]) B B.f99 (fun _ _ _ _ _ _ => rfl) (by decide) (by decide +kernel) (by decide +kernel) ok at_ fun L env A' h2 t2 hLs c2 hw kp ok2 hL0 _ => ?_
  have hX0 : ∀ a ∈ [L], h₀.get? a = none := fun a ha => by rw [List.mem_singleton.mp ha]; exact hL0
  have hrv : S.rv = .ref r := by unfold SS.rv; rw [hrd]
  refine hideQE fun Q₁ E₁ hQ₁ _ => ?_
  refine wpAny_execs_cons (wpAny_If (wpAny_isTrue_Compare1 (at_self (s := { s with heap := h2, toks := t2 }) B rfl (by decide) ok2 c2 (fun _ x => x) fun v t t' h3 t3 hlv had ok3 c3 k3 => wpAny_Constant_none ?_)))
  have hv : some S.rv = some v := hlv
  rw [hrv] at hv; cases hv
  refine wpAny_is_other rfl (by intro q; cases q) (wpAny_truthy_bool (wpAny_execs_nil ?_))
  refine wpAny_execs_cons (wpAny_Assign_Name (Call_Name1 (load_gl (s := { s with heap := h3, toks := t3 }) ok3 c3.er (by decide +kernel) G.tuple (callWith_type1 (at_self (s := { s with heap := h3, toks := t3 }) B rfl (by decide) ok3 c3 (fun _ x => x) fun v t t' h4 t4 hlv had ok4 c4 k4 => ?_)))))
  have hv : some S.rv = some v := hlv
  rw [hrv] at hv; cases hv
  obtain ⟨vs, ⟨m, hl4⟩, hin⟩ := c4.hp.rd r l hrd
  have hvl := ints_length hin
  refine call_tuple_list (s := { s with heap := h4, toks := t4 }) (hsz := by rw [szl, ← Array.length_toList]; omega) ⟨_, hl4, rfl, m, rfl⟩ fun h' hk' => ?_
  have hT' : h'.get? h'.objs.size = none := dead_size _ (Nat.le_refl _)
  have hT1 : IsSq true (h'.push { cls := .type "tuple", data := .seq vs }) h'.objs.size vs := (show Heap.IsTuple _ _ _ from ⟨_, Heap.get?_push_size _ rfl, rfl, 0, rfl⟩)
  have hTo : (h'.push { cls := .type "tuple", data := .seq vs }).get? h'.objs.size = some { cls := .type "tuple", data := .seq vs } := Heap.get?_push_size _ rfl
  have k45 : Kp h₀.objs.size h4 (h'.push { cls := .type "tuple", data := .seq vs }) := (Kp.of_keeps hk').trans (Kp.push _ _)
  generalize h'.push { cls := .type "tuple", data := .seq vs } = h5 at hT1 k45 hTo
  have hT4 : h4.get? h'.objs.size = none := by
    cases e : h4.get? h'.objs.size with
    | none => rfl
    | some o => rw [hk' _ o e] at hT'; cases hT'
  generalize h'.objs.size = T at hT1 hT4 hTo
  have k24 : Kp h₀.objs.size s.heap h4 := (kp.trans k3).trans k4
  have hTs : s.heap.get? T = none := by
    cases e : s.heap.get? T with
    | none => rfl
    | some o => obtain ⟨o', e'⟩ := k24.there e; rw [hT4] at e'; cases e'
  have hTF : T ∉ S.fp := fun q => by obtain ⟨o, e, _⟩ := SS.sep.live _ at_ T q; rw [hTs] at e; cases e
  have hTL : T ≠ L := fun q => by obtain ⟨o, e⟩ := c4.er.low L (List.mem_append_right _ (.head _)); rw [← q, hT4] at e; cases e
  have c5 := c4.kp k45
  have ok5 := ok4.kp k45
  refine c5.store (N := h₀.objs.size) (s := { s with heap := h5, toks := t4 }) (hw _ (.inl (by decide +kernel))) rfl fun h6 t6 c6 k6 => ?_
  have ok6 := ok5.kpx k6 hX0
  have tup6 := hT1.kpx k6 (fun q => hTL (List.mem_singleton.mp q))
  refine wpAny_execs_cons (wpAny_Assign_Name (at_self (s := { s with heap := h6, toks := t6 }) B rfl (by decide) ok6 c6 (fun _ x => x) fun v t t' h7 t7 hlv had ok7 c7 k7 => ?_))
  have hv : some (Value.ref S.d) = some v := hlv
  cases hv
  refine c7.store (N := h₀.objs.size) (s := { s with heap := h7, toks := t7 }) (hw _ (.inl (by decide +kernel))) rfl fun h8 t8 c8 k8 => ?_
  have ok8 := ok7.kpx k8 hX0
  have tup8 := (tup6.kpx (X := []) k7.x (fun q => by cases q)).kpx k8 (fun q => hTL (List.mem_singleton.mp q))
  have K8 : KpX (S.fp ++ [L]) h₀.objs.size s.heap h8 := (((k24.trans k45).x.trans (k6.mono fun a ha => .inl (List.mem_append_right _ ha))).trans k7.x).trans (k8.mono fun a ha => .inl (List.mem_append_right _ ha))
  have K58 : KpX (S.fp ++ [L]) h₀.objs.size h5 h8 := ((k6.mono fun a ha => .inl (List.mem_append_right _ ha)).trans k7.x).trans (k8.mono fun a ha => .inl (List.mem_append_right _ ha))
  obtain ⟨tm, gout⟩ := G.out
  refine wpAny_execs_cons (for_cx (S := S) (b := true) (a := T) (X := [L]) (vs := vs) (s := { s with heap := h8, toks := t8 }) (fun i S' => S'.nodes = (l.take i).foldl outN S.nodes ∧ S'.fp = S.fp ∧ (S'.rd = S.rd ∧ S'.pa = S.pa ∧ S'.fi = S.fi)) ok8 at_.dead (fun _ q => q) (hw _ (.inl (by decide +kernel))) rfl hX0 ⟨rfl, rfl, rfl, rfl, rfl⟩ (fun q => hTL (List.mem_singleton.mp q)) (fun Q' hq => RE.cx (re_name (v := .ref T) rfl) (s := { s with heap := h8, toks := t8 }) ok8 c8 fun h10 t10 ok10 c10 k10 => hq h10 t10 ok10 c10 k10 (tup8.kpx (X := []) k10.x (fun q => by cases q))) (fun it i v S' s' hv hpr ok' c' hX0' hal hsm _ _ => ?_) fun S' h9 t9 hpr ok9 c9 hnew kk hsm => ?_)
  · refine hideQE fun Q₂ E₂ hQ₂ _ => ?_
    obtain ⟨x, tx, hx, rfl⟩ := ints_get hin (i := i) (by simpa using hv)
    obtain ⟨hnod, hfp, hre⟩ := hpr
    have hxl : x ∈ l := List.mem_of_getElem? hx
    have hlt : i < l.length := (List.getElem?_eq_some_iff.mp hx).1
    obtain ⟨p, hp, hpn, hpf⟩ := find_of_has (S := S') (n := x) (by rw [hnod, hasN_fold]; exact hhas x hxl)
    refine wpAny_execs_cons (plainObj_wpAny_Assign_Attribute (load_gl ok' c'.er (by decide +kernel) gout (n2i_item B (n := x) (u := tx) (p := p) (by rw [hsm.2.2]; rfl) rfl hpf ok' c' fun h4 t4 ok4 c4 k4 => ?_)))
    refine np_set (s := { s' with heap := h4, toks := t4 }) B hp (f := fun q => { q with np := -1 }) (fun _ => rfl) rfl rfl ok4 c4 fun h5 ok5 c5 k5 => wpAny_execs_nil ?_
    refine hQ₂ _ _ ?_
    refine ⟨h5, t4 + 1, S'.updF p.nd.name fun q => { q with np := -1 }, [p.i], rfl, Cx.wk rfl (Cx.updEq (SS.updF_fp _ _ _) c5), ⟨?_, ?_, hre⟩, fun z hz => .inl (by rwa [SS.updF_fp] at hz), k4.x.trans k5, fun q => hTF (hfp ▸ (List.mem_singleton.mp q ▸ S'.mem_ps hp (.head _))), fun z hz => .inl (by rw [List.mem_singleton.mp hz]; exact S'.mem_ps hp (.head _)), rfl, rfl, rfl⟩
    · rw [SS.updF_nodes, hpn, foldl_take _ _ _ _ hlt, ← hnod]
      have : l[i] = x := (List.getElem?_eq_some_iff.mp hx).2
      rw [this]; rfl
    · rw [SS.updF_fp, hfp]
  · obtain ⟨hnod, hfp, hre⟩ := hpr
    have hrd' : S'.rd = some (r, l) := hre.1.trans hrd
    have K9 : KpX (S.fp ++ [L]) h₀.objs.size s.heap h9 := K8.trans kk
    have tup9 : IsSq true h9 T vs := tup8.kpx kk fun q => (List.mem_append.mp q).elim hTF fun q => hTL (List.mem_singleton.mp q)
    refine wpAny_execs_cons (wpAny_Expr_any (wpAny_Call_method0_late rfl rfl (at_self (S := S') (s := { s with heap := h9, toks := t9 }) B (by rw [hsm.1]; rfl) (by decide) ok9 c9 (fun _ x => x) fun v t t' h10 t10 hlv had ok10 c10 k10 => ?_)) (by unfold interactive; rw [c9.er.kind]; rfl))
    have hrv' : S'.rv = .ref r := by unfold SS.rv; rw [hrd']
    have hv : some S'.rv = some v := hlv
    rw [hrv'] at hv; cases hv
    obtain ⟨vs', ⟨m', hl10⟩, hin'⟩ := c10.hp.rd r l hrd'
    have hvl' := ints_length hin'
    have L10 : PySem.IsL h10 r vs' m' := hl10
    refine ⟨"list", "list.clear", PySem.F.plainAttrs_list, PySem.F.slot_list_clear, PySem.F.type_list_clear, ⟨_, hl10, rfl⟩, (fun a e => by cases e; exact ⟨_, hl10, rfl⟩), PySem.P.clear_list (s := { s with heap := h10, toks := t10 }) hl10 ?_ (by rw [szl, ← Array.length_toList]; omega)⟩
    have e11 := L10.update fun _ => #[]
    have s11 : Heap.SameBut r h10 (h10.update r (Obj.mapSeq fun _ => #[])) := Heap.SameBut.update ..
    have k11 : KpX S.fp h₀.objs.size h10 (h10.update r (Obj.mapSeq fun _ => #[])) := .sameObj s11 (S.mem_rd hrd) e11 hl10 rfl (fun _ q => by cases q)
    generalize h10.update r (Obj.mapSeq fun _ => #[]) = h11 at e11 s11 k11
    have at11 : ({ S' with rd := some (r, []) } : SS).At w h₀ h11 := c10.hp.ready hrd' s11 ⟨_, e11⟩ .nil
    have hfp3 : ({ S' with rd := some (r, []) } : SS).fp = S.fp := by
      rw [← hfp]; unfold SS.fp SS.rdl; rw [hrd']
    have k11' : KpX S'.fp h₀.objs.size h10 h11 := by rw [hfp]; exact k11
    have c11 := c10.turn k11' (fun a ha => .inl (by rw [hfp, ← hfp3]; exact ha)) SS.sep at11
    have ok11 := ok10.kpx k11' c10.hp.dead
    have tup11 := (tup9.kpx (X := []) k10.x (fun q => by cases q)).kpx k11 hTF
    refine wpAny_execs_cons (wpAny_AugAssign_AttributeAny (RE.cx (re_name (v := .ref S.x) rfl) (s := { s with heap := h11, toks := t10 }) ok11 c11 fun h12 t12 ok12 c12 k12 => ?_))
    obtain ⟨t, t', ad⟩ := c12.hp.ad
    refine get_attr (s := { s with heap := h12, toks := t12 }) (B.kin ok12.stays) B.ts B.tsd (B.no "_npassedout" (by decide)).1 (by rw [← hsm.1]; exact c12.hp.x) ad (v := .int S'.pa t) rfl rfl ?_
    refine Call_Name1 (load_gl (s := { s with heap := h12, toks := t12 + 1 }) ok12 c12.er (by decide +kernel) B0.len (callWith_builtin1 (RE.cx (re_name (v := .ref T) rfl) (s := { s with heap := h12, toks := t12 + 1 }) ok12 c12 fun h13 t13 ok13 c13 k13 => ?_)))
    have tup13 := tup11.kpx (X := []) (k12.trans k13).x (fun q => by cases q)
    refine len_tuple (s := { s with heap := h13, toks := t13 }) (items := vs) tup13 (by rw [← Array.length_toList]; omega) ?_
    refine PySem.AutoIntOps.iadd_0 ?_
    rw [← hsm.1]
    refine set_num (s := { s with heap := h13, toks := t13 + 1 + 1 + 1 }) B (S := { S' with rd := some (r, []) }) (S' := { S' with rd := some (r, []), pa := S'.pa + (vs.size : Int) }) (by decide) (fun t t' => ⟨t13 + 1 + 1, t', rfl⟩) ⟨rfl, rfl, rfl, rfl, rfl⟩ ok13 c13 fun h14 ok14 c14 k14 => ?_
    refine wpAny_execs_cons (wpAny_Return_some (RE.cx (re_name (v := .ref T) rfl) (s := { s with heap := h14, toks := t13 + 1 + 1 + 1 + 2 }) ok14 c14 fun h15 t15 ok15 c15 k15 => ?_))
    have k14' : KpX S.fp h₀.objs.size h13 h14 := by rw [← hfp3]; exact k14
    have K515 : KpX (S.fp ++ [L]) h₀.objs.size h5 h15 := (((((K58.trans kk).trans k10.x).trans (k11.mono fun a ha => .inl (List.mem_append_left _ ha))).trans (k12.trans k13).x).trans (k14'.mono fun a ha => .inl (List.mem_append_left _ ha))).trans k15.x
    have tup15 := K515.get (fun q => (List.mem_append.mp q).elim hTF fun q => hTL (List.mem_singleton.mp q)) hTo (by simp)
    have hfp4 : ({ S' with rd := some (r, []), pa := S'.pa + (vs.size : Int) } : SS).fp = S.fp := hfp3
    have K15 : KpX (S.fp ++ [L]) h₀.objs.size s.heap h15 := (((((K9.trans k10.x).trans (k11.mono fun a ha => .inl (List.mem_append_left _ ha))).trans (k12.trans k13).x).trans (k14'.mono fun a ha => .inl (List.mem_append_left _ ha)))).trans k15.x
    refine hQ₁ _ _ ?_
    refine h _ T vs h15 t15 ⟨c15.hp, fun a ha => .inl (hfp4 ▸ ha), K15.mono fun a ha => (List.mem_append.mp ha).imp id fun q => by rw [List.mem_singleton.mp q]; exact hLs, hsm⟩ ?_ ⟨rfl, ?_, hre.2.2⟩ tup15 hin hTs (by rw [hfp4]; exact hTF)
    · show S'.nodes = _
      rw [hnod, ← Array.length_toList, hvl, List.take_length]
    · show S'.pa + (vs.size : Int) = _
      rw [hre.2.1, ← Array.length_toList, hvl]
end
end Mine
end
section
open PySem.Calls PySem.Spec PySem.SeqAt Builtin Builtin.ObjectAttr
set_option maxRecDepth 100000
namespace Mine
theorem meets_bool_list (l : Addr) (items : Array Value) (hfit : (items.size : Int) < 2 ^ 63) :
    Meets (Builtin.«bool.__new__» ⟨[.type "bool", .ref l], []⟩) (fun _ R s => s.heap.IsList l items ∧ R (.ok (.ret (.bool (!items.isEmpty)))) { s with toks := s.toks + 1 + 1 }) :=
  Meets.of_wp fun prog w A R s hs => by
    obtain ⟨hl, hs⟩ := hs
    have f1 := PySem.F.conv_sub_bool
    repeat (any_goals (first | assumption | (with_reducible refine wpAny_truthy_list hl hfit ?_) | wp_step))
    all_goals first | exact ⟨_, rfl, hs⟩ | exact hs | skip
theorem call_bool_list {prog : Program} {w : World} {A : Around} {E : Value → Shared → Prop} {s : Shared} {l : Addr} {items : Array Value} {Q : Value → Shared → Prop} (hfit : (items.size : Int) < 2 ^ 63) (hl : s.heap.IsList l items) (h : Q (.bool (!items.isEmpty)) { s with toks := s.toks + 1 + 1 }) :
    wpAny (model prog w) A (call (.type "bool") [.ref l]) Q E s :=
  call_bool_1 (meets_bool_list l items hfit) (show _ ∧ wants (fun obj s₁ => s₁.TypeIs obj "bool" ∧ Q obj s₁) E _ _ from ⟨hl, rfl, h⟩)

section
variable {w : World} {h₀ : Heap} {k : Nat} {K : Frag} {S : SS}
theorem m_active (B : SK K h₀) (B0 : Base h₀) (G : SG h₀) {r : Addr} {l : List Int} (hrd : S.rd = some (r, l)) (hl : l.length ≤ 900) {A : Around} {s : Shared} {Q : Value → Shared → Prop} {E : Value → Shared → Prop} (ok : Ok h₀ (k + 1) A s.heap) (at_ : S.At w h₀ s.heap)
    (h : ∀ h1 t1, S.At w h₀ h1 → Kp h₀.objs.size s.heap h1 → Q (.bool (decide (S.fi < S.pa) || !l.isEmpty)) { s with heap := h1, toks := t1 }) :
    wpAny (model P w) A (call (.ref 106) [.ref S.x]) Q E s := by
  refine meth_frame (names := ["self"]) B B.f106 (fun _ _ _ _ _ _ => rfl) (by decide) (by decide +kernel) (by decide +kernel) ok at_ fun L env A' h2 t2 hLs c2 hw kp ok2 hL0 _ => ?_
  have hrv : S.rv = .ref r := by unfold SS.rv; rw [hrd]
  refine wpAny_execs_cons (wpAny_If (wpAny_isTrue_Compare1 (at_self (s := { s with heap := h2, toks := t2 }) B rfl (by decide) ok2 c2 (fun _ x => x) fun v t t' h3 t3 hlv had ok3 c3 k3 => wpAny_Constant_none ?_)))
  have hv : some S.rv = some v := hlv
  rw [hrv] at hv; cases hv
  refine wpAny_is_other rfl (by intro q; cases q) (wpAny_truthy_bool (wpAny_execs_nil ?_))
  refine wpAny_execs_cons (wpAny_Return_some (wpAny_Or2 (wpAny_Compare1 (at_self (s := { s with heap := h3, toks := t3 }) B rfl (by decide) ok3 c3 (fun _ x => x) fun v t t' h4 t4 hlv had ok4 c4 k4 => at_self (s := { s with heap := h4, toks := t4 }) B rfl (by decide) ok4 c4 (fun _ x => x) fun v' u u' h5 t5 hlv' had' ok5 c5 k5 => ?_))))
  have hv : some (Value.int S.fi t') = some v := hlv
  cases hv
  have hv' : some (Value.int S.pa u) = some v' := hlv'
  cases hv'
  refine PyProof.Rows.lt_int (wpAny_truthy_bool ?_)
  have k5' : Kp h₀.objs.size s.heap h5 := ((kp.trans k3).trans k4).trans k5
  cases e : decide (S.fi < S.pa) with
  | true =>
    have := h h5 t5 c5.hp k5'
    rw [e] at this
    exact this
  | false =>
    refine Call_Name1 (load_gl (s := { s with heap := h5, toks := t5 }) ok5 c5.er (by decide +kernel) G.bool (callWith_type1 (at_self (s := { s with heap := h5, toks := t5 }) B rfl (by decide) ok5 c5 (fun _ x => x) fun v t t' h6 t6 hlv had ok6 c6 k6 => ?_)))
    have hv : some S.rv = some v := hlv
    rw [hrv] at hv; cases hv
    obtain ⟨vs, ⟨m, hl6⟩, hin⟩ := c6.hp.rd r l hrd
    have hvl := ints_length hin
    refine call_bool_list (s := { s with heap := h6, toks := t6 }) (items := vs) (by rw [← Array.length_toList]; omega) ⟨_, hl6, rfl, m, rfl⟩ ?_
    have := h h6 (t6 + 1 + 1) c6.hp (k5'.trans k6)
    rw [e] at this
    have e2 : (!vs.isEmpty) = (false || !l.isEmpty) := by
      rw [Bool.false_or]
      congr 1
      cases l with
      | nil => have : vs.size = 0 := by rw [← Array.length_toList, hvl]; rfl
               simpa using this
      | cons x xs => have : vs.size ≠ 0 := by rw [← Array.length_toList, hvl]; simp
                     simp [Array.isEmpty]; intro q; rw [q] at this; exact this rfl
    rw [← e2] at this
    exact this
end
end Mine
end
section
open PySem.Calls PySem.Spec PySem.SeqAt
namespace Mine
section
variable {w : World} {h₀ : Heap} {k : Nat}
theorem code_top {f : Addr} {name : Str} {params : Arguments} {body : List Stmt} {scope : Scope} {names : List Str} {ds : List PyData} {O : List Addr} {A : Around} {s : Shared} {vs : List Value} {R : Result → Shared → Prop}
    (hlim : h₀.NoLimit) (hf : DefAt h₀ f name params body scope) (hbind : ∀ pm cd doc, bindArgs (docDef name params body scope pm cd doc) ⟨vs, []⟩ = pure (names.zip vs))
    (hkind : scope.kind = .function) (hnofree : ∀ p ∈ scope.names, p.2 ≠ .free) (hnd : names.Nodup) (hns : ∀ x ∈ names, scope.names.lookup x = some .local ∨ scope.names.lookup x = some .cell)
    (hA : A.handled = none ∧ A.frames = some [] ∧ A.depth + 51 ≤ 400 ∧ A.units + 5100 ≤ 9000) (hs0 : s.heap = h₀) (low : ∀ a ∈ O, ∃ o, s.heap.get? a = some o) (r : RdAll O s.heap vs ds)
    (h : ∀ X env A' s₁, (∃ h₁ t₁, s₁ = { s with heap := h₁, toks := t₁ }) → EnvR (X ++ O) s₁.heap env scope (argD names ds) → Wr X env scope → (∀ b ∈ X, s.heap.get? b = none) → Kp h₀.objs.size s.heap s₁.heap → Ok h₀ 50 A' s₁.heap →
      wpAny (model P w) A' (execs body env) (fun fl s' => R (.ok (.ret (match fl with | .ret v => v | _ => .none))) s')
        (fun e s' => wpAny (model P w) A' (leaving env e) (fun _ s'' => R (.error e) s'') (fun e' s'' => R (.error e') s'') s') s₁)
    (hco : scope.isCoroutine = false := by rfl) (hgen : scope.isGenerator = false := by rfl) :
    codeAny (model P w) A (.call (.ref f) ⟨vs, []⟩) R s := by
  obtain ⟨o, c', pm, doc, ho, hdata, hcd⟩ := hf
  have st : h₀.StaysIn s.heap := fun b o e => by rw [hs0]; exact e
  refine codeAny_call_function (fd := docDef name params body scope pm (.ref c') doc) (by have := hA.2.2.1; have : recursionLimit = 1000 := rfl; omega) (st _ _ ho) hdata hco hgen rfl (hcd.keeps st) ?_
  rw [hbind]
  refine wpAny_pure (newEnvF hkind (fun p hp => ?_) fun env he s₁ x cl => ?_)
  · have hm := (List.of_mem_zip (a := p.1) (b := p.2) hp).1
    rcases hns p.1 hm with q | q
    · exact .inl q
    · refine .inr ⟨q, ?_⟩
      obtain ⟨c, hc⟩ := cellsFrom_some (n := s.heap.objs.size + 1) (acc := []) (.inl (PySem.mem_of_lookup q))
      show (List.lookup p.1 (cellsFrom (s.heap.objs.size + 1) scope.names [])).isSome = true
      rw [hc]; rfl
  · subst he
    obtain ⟨er, hw, hdead, kp⟩ := frame_envR (name := name) (params := params) (body := body) (pm := pm) (cd := .ref c') (doc := doc) (a := f) (N := h₀.objs.size) hkind hnofree hnd hns low r x
    refine ⟨(hlim.keeps st).keeps x.toInCall.keep, codeAny_func (h _ _ _ s₁ x.toInCall.same er hw hdead kp ⟨hA.1, ?_, ?_, ⟨_, by show A.frames.map _ = _; rw [hA.2.1]; rfl, Heap.FunFrames.cons (by show scope.kind ≠ _; rw [hkind]; decide) rfl x.toInCall.ns (by rw [← hs0]; exact hdead _ (.head _)) (show s₁.heap.FunFrames h₀ [] from trivial)⟩, kp.stays st, Nat.le_refl _, fun _ => ⟨fun fs e L hL => ?_, ?_⟩⟩)⟩
    · show A.depth + 1 + 50 ≤ 400; have := hA.2.2.1; omega
    · show A.units + 3 + 100 * 50 ≤ 9000; have := hA.2.2.2; omega
    · have e2 : A.frames.map _ = some fs := e
      rw [hA.2.1] at e2
      cases e2
      rw [← hs0]
      have hL' : L ∈ [s.heap.objs.size] := hL
      exact List.mem_singleton.mp hL'
    · rw [← hs0]; exact cl
end
end Mine
end
section
open PySem.Calls PySem.Spec PySem.SeqAt
namespace Mine
section
variable {w : World} {h₀ : Heap} {k : Nat}
theorem law_top (B : Base h₀) (Fs : Funs h₀) {f fr : Addr} (hf : DefAt h₀ f (nameAt 14) (parsAt 14) (bodyAt 14) (scopeAt 14)) (ns : List Int) (hns : ns.length ≤ 63) (run : List Int → Run)
    (gr : Gl h₀ "_law_run" (.ref fr)) (cr : CalleeOk h₀ (.ref fr)) (hrun : ∀ wish ∈ wishesL (sizeF ns), CallE w h₀ 50 (.ref fr) [toldD (TOLD ns (sizeF ns) (stF ns)), LI wish] (RD (run wish)))
    (G : Good (sizeF ns) (stF ns) ((wishesL (sizeF ns)).map run)) {O : List Addr} {A : Around} {s : Shared} {v : Value} {R : Result → Shared → Prop}
    (hA : A.handled = none ∧ A.frames = some [] ∧ A.depth + 51 ≤ 400 ∧ A.units + 5100 ≤ 9000) (hs0 : s.heap = h₀) (low : ∀ a ∈ O, ∃ o, s.heap.get? a = some o) (r : Rd O s.heap v (.list (ns.map .int)))
    (h : ∀ h1 t1, Kp h₀.objs.size s.heap h1 → R (.ok (.ret (.bool true))) { s with heap := h1, toks := t1 }) : codeAny (model P w) A (.call (.ref f) ⟨[v], []⟩) R s := by
  refine code_top (ds := [.list (ns.map .int)]) (names := argsAt 14) B.lim hf (fun pm cd doc => rfl) (by decide +kernel) (by decide +kernel) (by decide +kernel) (by decide +kernel) hA hs0 low (.cons r .nil) fun X env A' s₁ hs er hw hdead kp ok' => ?_
  obtain ⟨h₁, t₁, rfl⟩ := hs
  have hX0 : ∀ a ∈ X, h₀.get? a = none := fun a ha => by rw [← hs0]; exact hdead a ha
  have hXO : ∀ a ∈ X, a ∈ X ++ O := fun a ha => List.mem_append_left _ ha
  have hn := sizeF_or ns
  have hst := stF_len ns
  refine law_first (s := { s with heap := h₁, toks := t₁ }) B ns hns (sizeF ns) rfl ok' er hw hXO hX0 fun h2 t2 er2 ok2 k2 => ?_
  refine law_steps (s := { s with heap := h2, toks := t2 }) B ns hns (sizeF ns) hn ok2 er2 hw hXO hX0 fun h3 t3 er3 ok3 k3 => ?_
  refine law_told (k := 49) (s := { s with heap := h3, toks := t3 }) B Fs ns hns (sizeF ns) hn (stF ns) hst ok3 er3 hw hXO hX0 fun h4 t4 er4 ok4 k4 => ?_
  refine law_runs (k := 49) (s := { s with heap := h4, toks := t4 }) B Fs ns (sizeF ns) hn (stF ns) run gr cr hrun (fun wish hwi => G.short _ (List.mem_map_of_mem hwi)) G.some ok4 er4 hw hXO hX0 fun h5 t5 er5 ok5 k5 => ?_
  refine law_orders (s := { s with heap := h5, toks := t5 }) B ns (sizeF ns) hn (stF ns) run G.short ok5 er5 hw hXO hX0 fun h6 t6 er6 ok6 k6 => ?_
  refine law_tests (s := { s with heap := h6, toks := t6 }) B ns (sizeF ns) hn (stF ns) run G ok6 er6 hw hXO hX0 fun h7 t7 er7 ok7 k7 => ?_
  refine law_pairs (s := { s with heap := h7, toks := t7 }) B ns (sizeF ns) hn (stF ns) run G ok7 er7 hw hXO hX0 fun h8 t8 er8 ok8 k8 => ?_
  refine law_tally (k := 49) (s := { s with heap := h8, toks := t8 }) B Fs ns (sizeF ns) hn (stF ns) run G ok8 er8 hw hXO hX0 fun htl h9 t9 er9 ok9 k9 => ?_
  refine law_end (k := 49) (s := { s with heap := h9, toks := t9 }) B Fs ns (sizeF ns) hn (stF ns) hst run G htl ok9 er9 hw hXO hX0 fun h10 t10 u ok10 k10 hu => ?_
  subst hu
  have q : KpX X h₀.objs.size s.heap h10 := ((kp.x (X := X)).trans k2).trans (k3.trans (k4.trans (k5.trans (k6.trans (k7.trans (k8.trans (k9.trans k10)))))))
  exact h h10 t10 (q.kp hdead)
end
end Mine
end
section
open PySem.Calls PySem.Spec PySem.SeqAt
namespace Mine
end Mine
end
section
open PySem.Calls PySem.Spec PySem.SeqAt
namespace Mine
section
variable {M : Model} {A : Around} {E : Value → Shared → Prop} {s : Shared}
theorem notes_made {base h : Heap} {env : Env} {outer : List Env} {L e : Addr} {cls : Value} {args : List Value} {Q : Unit → Shared → Prop}
    (hfr : A.frames = some (env :: outer)) (hf : env.frame = some L) (hkb : base.StaysIn h) (hl : h.FunFrames base (env :: outer)) (hx : Heap.MadeExcOf h s.heap e cls args)
    (hQ : ∀ h' t, Heap.HeldW base (env :: outer) e cls (.ref t) L h' → s.heap.UpToSlots h' → Q () { s with heap := h' }) : wpAny M A (noteFrame (.ref e) env) Q E s := by
  obtain ⟨t, he, htn, ht⟩ := hx.there
  have fresh : ∀ b, h.get? b = none → base.get? b = none := fun b hb => by
    cases hq : base.get? b with
    | none => rfl
    | some o' => have := hkb b o' hq; rw [hb] at this; cases this
  unfold noteFrame
  simp only [hf]
  refine wpAny_bind (wpAny_field he rfl (x := .none) rfl ?_)
  rw [if_neg (by decide)]
  refine wpAny_entryW (hadNext := false) hfr (hl.of_keeps fun b o hb _ => ⟨o, hx.keeps b o hb, rfl⟩) hf he (fun b o hb => hx.keeps b o (hkb b o hb)) (fresh e hx.new) rfl (by simp) rfl fun h' hN => ?_
  obtain ⟨k1, k2, k3, k4⟩ := hN
  exact hQ h' t ⟨k1, fresh e hx.new, k2, k3⟩ k4
theorem came_back {base : Heap} {env : Env} {l : List Env} {L e : Addr} {cls a0 : Value} (hf : env.frame = some L) (hh : Heap.HeldW base l e cls a0 L s.heap)
    (hQ : ∀ h', Heap.HeldW base l e cls a0 L h' → s.heap.UpToSlots h' → E (.ref e) { s with heap := h' }) : cameBackBy M A env E (.ref e) s := by
  obtain ⟨k1, k2, k3, oe, vs, T, oT, ts, he, hcls, hd, h1, hnT, hTe, hT, hdT, h3⟩ := hh
  have hsz3 : 3 < ts.size := (Array.getElem?_eq_some_iff.mp h3).1
  unfold cameBackBy
  refine wpAny_bind (wpAny_field he hd h1 ?_)
  rw [if_neg (by simp)]
  unfold setFlight
  refine wpAny_bind (wpAny_field he hd h1 ?_)
  rw [if_pos (show (Value.ref T != Value.none) = true from by simp)]
  have other : ∀ b, b ≠ T → (s.heap.update T (Obj.mapFields (·.setIfInBounds 3 (env.frame.elim Value.none fun f => rawInt f)))).get? b = s.heap.get? b := fun b hb => Heap.get?_update_other _ _ (Ne.symm hb)
  have noRecord : ∀ b o, s.heap.get? b = some o → (∀ vs, o.data ≠ .fields vs) → b ≠ T := fun b o hb hnf q => by
    rw [q, hT] at hb; injection hb with hb; subst hb; exact hnf ts hdT
  refine wpAny_setField hT hdT hsz3 (hQ _ ⟨fun b o hbo => (other b fun q => by rw [q, hnT] at hbo; cases hbo).trans (k1 b o hbo), k2, k3.of_keeps fun b o hb hnf => ⟨o, (other b (noRecord b o hb hnf)).trans hb, rfl⟩, ?_⟩ fun b o hb hnf => ⟨o.slots, (other b (noRecord b o hb hnf)).trans hb⟩)
  exact ⟨oe, vs, T, _, _, (other e (Ne.symm hTe)).trans he, hcls, hd, h1, hnT, hTe, Heap.get?_update_self _ hT (Obj.isFreed_of_fields (Obj.data_mapFields hdT _)), Obj.data_mapFields hdT _, by simp [hsz3, hf]⟩
end
end Mine
end
section
open PySem.Calls PySem.Spec PySem.SeqAt Builtin Builtin.ObjectAttr
set_option maxRecDepth 100000
namespace Mine
section
variable {w : World} {h₀ : Heap} {k : Nat} {K : Frag} {S : SS} {N : Nat} {X F : List Addr} {env : Env} {sc : Scope} {δ : Str → Option PyData} {ν : Str → Option Value} {H : Heap → Prop}

theorem fstr_node {c1 c2 : Str} {n : Int} {u : Tok} {k1 k2 : Nat} {q1 q2 q3 q4 pos : Pos} (hn : n.natAbs.log2 < 1920) (hν : ν "node" = some (.int n u)) (hc1 : c1.length ≤ 100) (hc2 : c2.length ≤ 100) (hr : (Str.ofString (toString n)).length ≤ 1000)
    {A : Around} {s : Shared} {Q : Value → Shared → Prop} {E : Value → Shared → Prop} (ok : Ok h₀ k A s.heap) (c : Cx X F s.heap env sc δ ν H)
    (h : ∀ x t h1 t1, Ok h₀ k A h1 → Cx X F h1 env sc δ ν H → Kp h₀.objs.size s.heap h1 → Q (.str x t) { s with heap := h1, toks := t1 }) :
    wpAny (model P w) A (eval (.JoinedStr [.Constant (.str c1) k1 q1, .FormattedValue (.Name "node" q2) 114 none q3, .Constant (.str c2) k2 q4] pos) env) Q E s := by
  refine wpAny_JoinedStr ?_
  refine wpAny_Constant_str ⟨c1, s.toks, rfl, ?_, ?_⟩
  · rw [strLen_append, szl]; have : Str.empty.length = 0 := rfl; omega
  refine wpAny_FormattedValue_repr (RE.cx (re_name (v := .int n u) hν) (s := { s with toks := s.toks + 1 }) ok c fun h1 t1 ok1 c1' k1' => pyReprObj_int (s := { s with heap := h1, toks := t1 }) hn ?_)
  have hz : ∀ y : Str, (Str.empty ++ c1 ++ y).length = c1.length + y.length := fun y => by rw [strLen_append, strLen_append]; have : Str.empty.length = 0 := rfl; omega
  have key : ∀ tk, Joins (model P w) A E [eval (.Constant (.str c2) k2 q4) env] (Str.empty ++ c1 ++ (Str.ofString (toString n))) (fun out s₁ => out.length ≤ sizeLine ∧ Q (.str out s₁.toks) { s₁ with toks := s₁.toks + 1 }) { s with heap := h1, toks := tk } := fun tk => by
    have hlen : (Str.empty ++ c1 ++ (Str.ofString (toString n)) ++ c2).length ≤ sizeLine := by rw [strLen_append, hz, szl]; omega
    exact wpAny_Constant_str ⟨c2, _, rfl, hlen, hlen, h _ _ h1 _ ok1 c1' k1'⟩
  have hl2 : (Str.empty ++ c1 ++ (Str.ofString (toString n))).length ≤ sizeLine := by rw [hz, szl]; omega
  exact wpAny_formatField_str ⟨_, _, rfl, hl2, key _⟩ ⟨_, _, rfl, hl2, key _⟩
end
end Mine
end
section
open PySem.Calls PySem.Spec PySem.SeqAt Builtin Builtin.ObjectAttr
set_option maxRecDepth 100000
namespace Mine
structure Hid (N : Nat) (hr : Heap) (as : List Addr) (B : Heap) : Prop where
  keep : ∀ b o, b ∉ as → hr.get? b = some o → B.get? b = some o
  fr : ∀ L ∈ as, N ≤ L ∧ ∃ o, hr.get? L = some o ∧ o.cls = .type "frame" ∧ ∀ vs, o.data ≠ .fields vs
theorem Hid.kp {N : Nat} {hr h' B : Heap} {as : List Addr} (x : Hid N hr as B) (st : B.StaysIn h') (u : hr.UpToSlots h') : Kp N hr h' := fun b o e => by
  by_cases hb : b ∈ as
  · obtain ⟨h1, o', e', h2, h3⟩ := x.fr b hb
    rw [e] at e'; cases e'
    obtain ⟨sl, e2⟩ := u b o e h3
    exact .inr ⟨h1, h2, sl, e2⟩
  · exact .inl (st b o (x.keep b o hb e))
theorem Hid.of {h₀ h : Heap} {A : Around} {l : List Env} (fi : FrI h₀ A h) (hfr : A.frames = some l) (hl : h.FunFrames h₀ l) : Hid h₀.objs.size h (frs l) (hideAll h (frs l)) := by
  refine ⟨fun b o hb e => hideAll_get _ e hb, fun L hL => ?_⟩
  obtain ⟨h1, o, h2, h3⟩ := fi.fr l hfr L hL
  obtain ⟨_, o', h4, h5⟩ := hl.mem hL
  rw [h2] at h4; cases h4
  exact ⟨h1, o, h2, h3, h5⟩
noncomputable def Raised (N : Nat) (hr : Heap) (fs : List Env) (cls : Value) (e : Addr) (h' : Heap) : Prop :=
  ∃ as B a0, Heap.FlyingW B fs e cls a0 h' ∧ Hid N hr as B ∧ hr.UpToSlots h'

section
variable {M : Model} {A : Around} {E : Value → Shared → Prop} {s : Shared}
theorem leaves_held {base : Heap} {env : Env} {outer : List Env} {L e : Addr} {cls a0 : Value} {Q : Unit → Shared → Prop} (hf : env.frame = some L)
    (hh : Heap.HeldW base (env :: outer) e cls a0 L s.heap) (hQ : ∀ h', Heap.FlyingW base outer e cls a0 h' → s.heap.UpToSlots h' → Q () { s with heap := h' }) : wpAny M A (leaving env (.ref e)) Q E s := by
  unfold leaving
  refine wpAny_bind (wpAny_noteFrame_againW hf hh.2.2.2 (wpAny_landsW hh fun h' ⟨k1, k2, ⟨_, _, k3⟩, k4⟩ hs => hQ h' ⟨k1, k2, k3, k4⟩ hs))

theorem frames_hidden {base h : Heap} {l : List Env} (f : h.FunFrames base l) : h.FunFrames (hideAll h (frs l)) l :=
  funFrames_hide f fun env he a ha => List.mem_filterMap.mpr ⟨env, he, ha⟩

theorem raise_loop {h₀ h : Heap} {env : Env} {outer : List Env} {L e : Addr} {cls : Value} {args : List Value} (hfr : A.frames = some (env :: outer)) (hf : env.frame = some L) (hl : h.FunFrames h₀ (env :: outer)) (fi : FrI h₀ A h) (hx : Heap.MadeExcOf h s.heap e cls args)
    (hE : ∀ h', Raised h₀.objs.size h outer cls e h' → E (.ref e) { s with heap := h' }) :
    notedBy M A env (cameBackBy M A env fun e s' => wpAny M A (leaving env e) (fun _ s'' => E e s'') (fun e' s'' => E e' s'') s') (.ref e) s := by
  refine notes_made hfr hf (fun b o q => of_hideAll _ q) (frames_hidden hl) hx fun h1 t hh1 u1 => ?_
  refine came_back hf hh1 fun h2 hh2 u2 => ?_
  refine leaves_held hf hh2 fun h3 fl u3 => hE h3 ⟨_, _, _, fl, Hid.of fi hfr hl, ((Heap.UpToSlots.of_keeps hx.keeps).trans u1).trans (u2.trans u3)⟩
theorem raise_plain {h₀ h : Heap} {env : Env} {outer : List Env} {L e : Addr} {cls : Value} {args : List Value} (hfr : A.frames = some (env :: outer)) (hf : env.frame = some L) (hl : h.FunFrames h₀ (env :: outer)) (fi : FrI h₀ A h) (hx : Heap.MadeExcOf h s.heap e cls args)
    (hE : ∀ h', Raised h₀.objs.size h outer cls e h' → E (.ref e) { s with heap := h' }) :
    wpAny M A (leaving env (.ref e)) (fun _ s'' => E (.ref e) s'') (fun e' s'' => E e' s'') s := by
  refine wpAny_leaves_madeW hfr hf (fun b o q => of_hideAll _ q) (frames_hidden hl) hx fun h1 t fl _ _ u1 => ?_
  exact hE h1 ⟨_, _, _, fl, Hid.of fi hfr hl, (Heap.UpToSlots.of_keeps hx.keeps).trans u1⟩
end

structure SX (h₀ : Heap) : Prop where
  ve : Gl h₀ "ValueError" (.type "ValueError")
  ce : Gl h₀ "CycleError" (.ref 55)
  si : Gl h₀ "StopIteration" (.type "StopIteration")
  own : ∃ mg, OwnCls "CycleError" 55 [.type "ValueError", .type "Exception", .type "BaseException", .type "object"] "ValueError.__new__" mg h₀

section
variable {w : World} {h₀ : Heap} {k : Nat} {K : Frag} {S : SS} {N : Nat} {X F : List Addr} {env : Env} {sc : Scope} {δ : Str → Option PyData} {ν : Str → Option Value} {H : Heap → Prop}
theorem raise_node (G : SX h₀) {c1 c2 : Str} {n : Int} {u : Tok} {k1 k2 : Nat} {q1 q2 q3 q4 p1 np cpos pos : Pos} (hx : sc.names.lookup ("ValueError" : Str) = some .globalImplicit) (hn : n.natAbs.log2 < 1920) (hν : ν "node" = some (.int n u)) (hc1 : c1.length ≤ 100) (hc2 : c2.length ≤ 100) (hr : (Str.ofString (toString n)).length ≤ 1000)
    {A : Around} {s : Shared} {Q : Flow → Shared → Prop} {E : Value → Shared → Prop} (ok : Ok h₀ k A s.heap) (c : Cx X F s.heap env sc δ ν H)
    (h : ∀ e h1 h2 t1 args, Ok h₀ k A h1 → Cx X F h1 env sc δ ν H → Kp h₀.objs.size s.heap h1 → Heap.MadeExcOf h1 h2 e (.type "ValueError") args → E (.ref e) { s with heap := h2, toks := t1 }) :
    wpAny (model P w) A (exec (.Raise (some (.Call (.Name "ValueError" np) [.JoinedStr [.Constant (.str c1) k1 q1, .FormattedValue (.Name "node" q2) 114 none q3, .Constant (.str c2) k2 q4] p1] [] cpos)) none pos) env) Q E s := by
  refine Raise_madeB PySem.F.excCall_ValueError PySem.F.excRaise_ValueError ok.hh (load_gl ok c.er hx G.ve ⟨rfl, ?_⟩)
  refine spliced_cons (fstr_node (pos := p1) hn hν hc1 hc2 hr ok c fun x t h1 t1 ok1 c1 k1 => spliced_nil ⟨(by show 1 ≤ sizeLine; rw [szl]; decide), fun h' e hm => ?_⟩)
  exact h e h1 h' t1 _ ok1 c1 k1 hm.of
end
end Mine
end
section
open PySem.Calls PySem.Spec PySem.SeqAt Builtin Builtin.ObjectAttr
set_option maxRecDepth 100000
namespace Mine
section
variable {w : World} {h₀ : Heap} {k : Nat} {K : Frag} {S : SS} {N : Nat} {X : List Addr} {env : Env} {sc : Scope} {δ : Str → Option PyData} {ν : Str → Option Value}

theorem getN_find (S : SS) (n : Int) : getN S.nodes n = (S.ps.find? fun p => p.nd.name == n).map (·.nd) := by
  unfold getN SS.nodes
  rw [List.find?_map]; rfl
theorem SS.updF_l (S : SS) (n : Int) (f : Node → Node) : (S.updF n f).ps.map (·.l) = S.ps.map (·.l) := by
  unfold SS.updF
  rw [List.map_map]
  apply List.map_congr_left
  intro q _
  show (if q.nd.name == n then ({ q with nd := f q.nd } : NIa) else q).l = q.l
  split <;> rfl
theorem SS.updF_mem {p : NIa} (hp : p ∈ S.ps) (f : Node → Node) : ({ p with nd := f p.nd } : NIa) ∈ (S.updF p.nd.name f).ps :=
  List.mem_map.mpr ⟨p, hp, by rw [if_pos (by simp)]⟩
theorem SS.i_ne_l {h : Heap} (a : S.At w h₀ h) {p q : NIa} (hp : p ∈ S.ps) (hq : q ∈ S.ps) : p.i ≠ q.l := fun e => by
  by_cases hpq : p = q
  · subst hpq
    have nd := NIa.fp_nodup a hp
    unfold NIa.fp at nd
    simp only [List.nodup_cons, List.mem_cons, List.not_mem_nil, or_false, not_or] at nd
    exact nd.1.2 e
  · exact flat_apart (SS.ps_nodup a) hp hq hpq p.i (.head _) (by rw [e]; exact .tail _ (.tail _ (.head _)))

theorem ready_append (B : SK K h₀) {y : Str} {r : Addr} {l : List Int} {n : Int} {u : Tok} {xp yp apos2 apos pos spos : Pos} {A : Around} {s : Shared} {Q : Flow → Shared → Prop} {E : Value → Shared → Prop}
    (hx : ν "self" = some (.ref S.x)) (hy : ν y = some (.int n u)) (hr : S.rd = some (r, l)) (hsz : l.length ≤ 1000) (ok : Ok h₀ k A s.heap) (c : Cx X S.fp s.heap env sc δ ν (S.At w h₀))
    (h : ∀ h1 t1, Ok h₀ k A h1 → Cx X S.fp h1 env sc δ ν (({ S with rd := some (r, l ++ [n]) } : SS).At w h₀) → KpX [r] h₀.objs.size s.heap h1 → Q .next { s with heap := h1, toks := t1 })
    (hline : (apos.endLine == pos.line) = true) (hy1 : (y == ("__debug__" : Str)) = false := by decide) (hy2 : (y == ("__classdict__" : Str)) = false := by decide)
    (hbase : attributeBase (.Attribute (.Name "self" xp) "_ready_nodes" apos2) "append" env (eval (.Attribute (.Name "self" xp) "_ready_nodes" apos2) env) = eval (.Attribute (.Name "self" xp) "_ready_nodes" apos2) env := by rfl)
    (htrees : backTo pos (starEach [.Name y yp] env) = [(false, eval (.Name y yp) env)] := by rfl) (hsw : swapsWith (.Call (.Attribute (.Attribute (.Name "self" xp) "_ready_nodes" apos2) "append" apos) [.Name y yp] [] pos) none spos.line env = pure false := by rfl) :
    wpAny (model P w) A (exec (.Expr (.Call (.Attribute (.Attribute (.Name "self" xp) "_ready_nodes" apos2) "append" apos) [.Name y yp] [] pos) spos) env) Q E s := by
  refine wpAny_Expr_any ?_ (by unfold interactive; rw [c.er.kind]; rfl) hsw
  refine wpAny_Call_append hbase (by rw [htrees]; rfl) hline htrees (at_self B hx (by decide) ok c (fun _ x => x) fun v t t' h1 t1 hlv had ok1 c1 k1 => ?_)
  have hrv : S.rv = .ref r := by unfold SS.rv; rw [hr]
  have hv : some S.rv = some v := hlv
  rw [hrv] at hv; cases hv
  obtain ⟨vs, ⟨m, l1⟩, hin⟩ := c1.hp.rd r l hr
  refine ⟨r, vs, rfl, ⟨_, m, l1, rfl, rfl, rfl⟩, ?_⟩
  refine RE.cx (re_name (v := .int n u) hy hy1 hy2) (s := { s with heap := h1, toks := t1 }) ok1 c1 fun h2 t2' ok2 c2 k2 => ?_
  have l2 : h2.PlainList r vs := k2.plain ⟨m, l1⟩
  have hvl := ints_length hin
  refine wpAny_list_append_plain (s := { s with heap := h2, toks := t2' }) (hsz := by rw [szl, ← Array.length_toList]; omega) l2 fun h3 l3 s3 => ?_
  have k3' : KpX [r] h₀.objs.size h2 h3 := by
    obtain ⟨m3, e3⟩ := l3
    obtain ⟨m2, e2⟩ := l2
    exact .sameObj s3 (.head _) e3 e2 rfl (fun _ q => by cases q)
  have k3 : KpX S.fp h₀.objs.size h2 h3 := k3'.mono fun a ha => .inl (by rw [List.mem_singleton.mp ha]; exact S.mem_rd hr)
  have at3 : ({ S with rd := some (r, l ++ [n]) } : SS).At w h₀ h3 := c2.hp.ready hr s3 l3 (by rw [Array.toList_push]; exact ints_app hin (.cons n u .nil))
  have hfp : ({ S with rd := some (r, l ++ [n]) } : SS).fp = S.fp := by unfold SS.fp SS.rdl; rw [hr]
  have c3 := c2.turn k3 (fun a ha => .inl (by rwa [hfp] at ha)) SS.sep at3
  rw [hfp] at c3
  exact h h3 t2' (ok2.kpx k3 c2.hp.dead) c3 ((k1.trans k2).x.trans k3')
end
end Mine
end
section
open PySem.Calls PySem.Spec PySem.SeqAt Builtin Builtin.ObjectAttr
set_option maxRecDepth 100000
namespace Mine
section
variable {w : World} {h₀ : Heap} {k : Nat} {K : Frag} {S : SS} {N : Nat} {X : List Addr} {env : Env} {sc : Scope} {δ : Str → Option PyData} {ν : Str → Option Value}
structure Sy (S : SS) (r : Addr) (s : St) : Prop where
  ns : S.nodes = s.ns
  rd : S.rd = some (r, s.ready)
  pa : S.pa = s.passed
  fi : S.fi = s.fin

noncomputable def forBody : Option Stmt → List Stmt
  | some (.For (body := b) ..) => b
  | _ => []
noncomputable def innerB : List Stmt := forBody (forBody (mBody 6 7)[2]?)[4]?

theorem updV_ne {x y : Str} {v u : Value} (h : ν y = some u) (hne : y ≠ x := by decide) : updV ν x v y = some u := (if_neg hne).trans h
theorem turn_suc (B : SK K h₀) {L r pl : Addr} {Y : List Addr} (hLY : ∀ a ∈ [L], a ∈ Y) {y : Int} {uy : Tok} {st : St} {A : Around} {s : Shared} {Q : Flow → Shared → Prop} {E : Value → Shared → Prop} (hw : Wr [L] env (mScope 6 7))
    (hself : ν "self" = some (.ref S.x)) (hn2i : ν "n2i" = some (.ref S.d)) (hy : ν "successor" = some (.int y uy)) (hν : ν "successor_info" = none) (hδ : δ "successor_info" = none) (sy : Sy S r st) (hhas : hasN st.ns y = true) (hsz : st.ready.length ≤ 1000) (hpl : pl ∈ S.ps.map (·.l)) (hL0 : h₀.get? L = none)
    (ok : Ok h₀ k A s.heap) (c : Cx Y S.fp s.heap env (mScope 6 7) δ ν (S.At w h₀))
    (h : ∀ (S' : SS) h1 t1, Ok h₀ k A h1 → Cx Y S'.fp h1 env (mScope 6 7) δ ν (S'.At w h₀) → Sy S' r (sucF st y) → S'.fp = S.fp → S'.ps.map (·.l) = S.ps.map (·.l) → (∀ a ∈ ([r] : List Addr), a ∈ S.fp) → (∃ i ∈ S.fp, i ≠ pl ∧ r ≠ pl ∧ KpX [i, r, L] h₀.objs.size s.heap h1) → S'.x = S.x ∧ S'.dx = S.dx ∧ S'.d = S.d → Q .next { s with heap := h1, toks := t1 }) :
    wpAny (model P w) A (execs innerB env) Q E s := by
  have hX0 : ∀ a ∈ [L], h₀.get? a = none := fun a ha => by rw [List.mem_singleton.mp ha]; exact hL0
  obtain ⟨p, hp, hpn, hpf⟩ := find_of_has (S := S) (n := y) (by rw [sy.ns]; exact hhas)
  have hrF : r ∈ S.fp := S.mem_rd sy.rd
  have hrpl : r ≠ pl := fun q => by
    obtain ⟨p3, hp3, e3⟩ := List.mem_map.mp hpl
    exact (SS.off_ps c.hp hp3).2.2.2 r (by unfold SS.rdl; rw [sy.rd]; exact .head _) (by rw [q, ← e3]; exact .tail _ (.tail _ (.head _)))
  have hipl : p.i ≠ pl := by
    obtain ⟨p3, hp3, e3⟩ := List.mem_map.mp hpl
    rw [← e3]; exact SS.i_ne_l c.hp hp hp3
  refine wpAny_execs_cons (wpAny_Assign_Name (n2i_item B (n := y) (u := uy) (p := p) hn2i hy hpf ok c fun h1 t1 ok1 c1 k1 => ?_))
  refine Cx.storeW (N := h₀.objs.size) (W := [L]) (s := { s with heap := h1, toks := t1 }) hLY c1 (hw _ (.inl (by decide +kernel))) hδ fun h2 t2 c2 k2 => ?_
  have ok2 := ok1.kpx k2 hX0
  have hν2 : (updV ν "successor_info" (.ref p.i)) "successor_info" = some (.ref p.i) := rfl
  refine wpAny_execs_cons (wpAny_AugAssign_AttributeAny (RE.cx (re_name (v := .ref p.i) hν2) (s := { s with heap := h2, toks := t2 }) ok2 c2 fun h3 t3 ok3 c3 k3 => np_get (s := { s with heap := h3, toks := t3 }) B hp ok3 c3.hp fun tnp => ?_))
  refine EvE.cx (d := .int 1) ev_int (s := { s with heap := h3, toks := t3 + 1 }) ok3 c3 fun v4 h4 t4 r4 ok4 c4 k4 => ?_
  obtain ⟨t1', rfl⟩ := r4.int_inv
  refine PySem.AutoIntOps.isub_0 ?_
  refine np_set (s := { s with heap := h4, toks := t4 + 1 }) B hp (f := fun q => { q with np := q.np - 1 }) (fun _ => rfl) rfl rfl ok4 c4 fun h5 ok5 c5 k5 => ?_
  have c5 := Cx.updEq (SS.updF_fp S p.nd.name _) c5
  have hp5 := SS.updF_mem hp (fun q => { q with np := q.np - 1 })
  have sm := updF_same S p.nd.name (fun q => { q with np := q.np - 1 })
  have hnod : (S.updF p.nd.name fun q => { q with np := q.np - 1 }).nodes = updN st.ns y fun q => { q with np := q.np - 1 } := by rw [SS.updF_nodes, hpn, sy.ns]
  have hll := SS.updF_l S p.nd.name (fun q => { q with np := q.np - 1 })
  have hfp5 := SS.updF_fp S p.nd.name (fun q => { q with np := q.np - 1 })
  have hget : getN st.ns y = some p.nd := by rw [← sy.ns, getN_find, hpf]; rfl
  generalize hS5 : S.updF p.nd.name (fun q => { q with np := q.np - 1 }) = S5 at *
  have K5 : KpX [p.i, r, L] h₀.objs.size s.heap h5 := ((k1.x.trans (k2.mono fun a ha => .inl (.tail _ (.tail _ ha)))).trans (k3.trans k4).x).trans (k5.mono fun a ha => .inl (by rw [List.mem_singleton.mp ha]; exact .head _))
  refine wpAny_execs_cons (wpAny_If (wpAny_isTrue_Compare1 (Attribute_Name_ (RE.cx (re_name (v := .ref p.i) hν2) (s := { s with heap := h5, toks := t4 + 1 + 1 }) ok5 c5 fun h6 t6 ok6 c6 k6 => np_get (s := { s with heap := h6, toks := t6 }) B hp5 ok6 c6.hp fun tnp2 => ?_))))
  refine EvE.cx (d := .int 0) ev_int (s := { s with heap := h6, toks := t6 + 1 }) ok6 c6 fun v7 h7 t7 r7 ok7 c7 k7 => ?_
  obtain ⟨t0, rfl⟩ := r7.int_inv
  refine PyProof.Rows.eq_int (wpAny_truthy_bool ?_)
  have hany : (getN st.ns y).any (fun q => q.np - 1 == 0) = (p.nd.np - 1 == 0) := by rw [hget]; rfl
  have K7 : KpX [p.i, r, L] h₀.objs.size s.heap h7 := K5.trans (k6.trans k7).x
  have hwk : ∀ {S' : SS} {h' : Heap}, Cx Y S'.fp h' env (mScope 6 7) δ (updV ν "successor_info" (.ref p.i)) (S'.At w h₀) → Cx Y S'.fp h' env (mScope 6 7) δ ν (S'.At w h₀) := fun z => Cx.wk hν z
  have hiF : p.i ∈ S.fp := S.mem_ps hp (.head _)
  cases e0 : (p.nd.np - 1 == 0) with
  | true =>
    show wpAny (model P w) A (execs _ env) _ _ _
    refine wpAny_execs_cons (ready_append (S := S5) (ν := updV ν "successor_info" (.ref p.i)) (s := { s with heap := h7, toks := t7 }) B (y := "successor") (r := r) (l := st.ready) (n := y) (u := uy) (by rw [sm.1]; exact updV_ne hself) (updV_ne hy) (by rw [sm.2.2.2.1]; exact sy.rd) hsz ok7 c7 (fun h8 t8 ok8 c8 k8 => wpAny_execs_nil (wpAny_execs_nil ?_)) rfl)
    have hfp8 : ({ S5 with rd := some (r, st.ready ++ [y]) } : SS).fp = S5.fp := by unfold SS.fp SS.rdl; rw [sm.2.2.2.1, sy.rd]
    refine h _ h8 t8 ok8 (hwk (Cx.updEq hfp8 c8)) ⟨?_, ?_, ?_, ?_⟩ (hfp8.trans hfp5) hll (fun a ha => by rw [List.mem_singleton.mp ha]; exact hrF) ⟨p.i, hiF, hipl, hrpl, K7.trans (k8.mono fun a ha => .inl (by rw [List.mem_singleton.mp ha]; exact .tail _ (.head _)))⟩ ⟨sm.1, sm.2.1, sm.2.2.1⟩
    · show S5.nodes = _; rw [hnod]; rfl
    · show some _ = some _
      unfold sucF; simp only [hany, e0, if_true]
    · show S5.pa = _; rw [sm.2.2.2.2.1, sy.pa]; rfl
    · show S5.fi = _; rw [sm.2.2.2.2.2, sy.fi]; rfl
  | false =>
    refine wpAny_execs_nil (wpAny_execs_nil ?_)
    refine h S5 h7 t7 ok7 (hwk c7) ⟨?_, ?_, ?_, ?_⟩ hfp5 hll (fun a ha => by rw [List.mem_singleton.mp ha]; exact hrF) ⟨p.i, hiF, hipl, hrpl, K7⟩ ⟨sm.1, sm.2.1, sm.2.2.1⟩
    · rw [hnod]; rfl
    · rw [sm.2.2.2.1, sy.rd]
      unfold sucF; simp only [hany, e0]; rfl
    · rw [sm.2.2.2.2.1, sy.pa]; rfl
    · rw [sm.2.2.2.2.2, sy.fi]; rfl
end
end Mine
end
section
open PySem.Calls PySem.Spec PySem.SeqAt Builtin Builtin.ObjectAttr
set_option maxRecDepth 100000
namespace Mine
section
variable {w : World} {h₀ : Heap} {k : Nat} {K : Frag} {S : SS} {N : Nat}
theorem Kp.slots {h h' : Heap} (x : Kp N h h') : h.UpToSlots h' := fun b o e _ => x.data e
theorem small_int {x : Int} (h : 0 ≤ x ∧ x ≤ 3) : x.natAbs.log2 < 1920 ∧ (Str.ofString (toString x)).length ≤ 1000 := by
  obtain ⟨n, rfl⟩ := Int.eq_ofNat_of_zero_le h.1
  have : ∀ m : Fin 4, ((m : Nat) : Int).natAbs.log2 < 1920 ∧ (Str.ofString (toString ((m : Nat) : Int))).length ≤ 1000 := by decide +kernel
  exact this ⟨n, by omega⟩
theorem sucF_fold_len (l : List Int) : ∀ st : St, (l.foldl sucF st).ready.length ≤ st.ready.length + l.length := by
  induction l with
  | nil => intro st; exact Nat.le_refl _
  | cons x xs ih =>
    intro st
    have := ih (sucF st x)
    have h2 : (sucF st x).ready.length ≤ st.ready.length + 1 := by
      unfold sucF; dsimp only; split <;> simp
    rw [List.foldl_cons, List.length_cons]; omega
theorem hasN_suc (l : List Int) (y : Int) : ∀ st : St, hasN (l.foldl sucF st).ns y = hasN st.ns y := by
  induction l with
  | nil => intro st; rfl
  | cons x xs ih => intro st; rw [List.foldl_cons, ih]; exact hasN_upd st.ns x y fun _ => rfl
theorem sucF_fin (l : List Int) : ∀ st : St, (l.foldl sucF st).fin = st.fin := by
  induction l with
  | nil => intro st; rfl
  | cons x xs ih => intro st; rw [List.foldl_cons, ih]; rfl
noncomputable abbrev Cx.nu {X F : List Addr} {h : Heap} {env : Env} {sc : Scope} {δ : Str → Option PyData} {ν : Str → Option Value} {H : Heap → Prop} (_ : Cx X F h env sc δ ν H) : Str → Option Value := ν
theorem m_done (B : SK K h₀) (G : SG h₀) (GX : SX h₀) {r : Addr} {st : St} (sy : Sy S r st) {x : Int} {u : Tok} (hhas : hasN st.ns x = true) {c : Nat} (hbd : Bnd st.ns c) (hl : st.ready.length + c ≤ 900) (hx : 0 ≤ x ∧ x ≤ 3) (hbad : doneF st x ≠ .bad)
    {A : Around} {s : Shared} {Q : Value → Shared → Prop} {E : Value → Shared → Prop} (ok : Ok h₀ (k + 1) A s.heap) (fi : FrI h₀ A s.heap) (at_ : S.At w h₀ s.heap)
    (hO : ∀ st', doneF st x = .ok st' → ∀ (S' : SS) h1 t1, Turned w h₀ S S' s.heap h1 → Sy S' r st' → Q .none { s with heap := h1, toks := t1 })
    (hR : doneF st x = .refused → ∀ fs, A.frames = some fs → ∀ e L hr h1 t1, s.heap.get? L = none → L ∉ S.fp → Turned w h₀ S S s.heap hr → Raised h₀.objs.size hr fs (.type "ValueError") e h1 → E (.ref e) { s with heap := h1, toks := t1 }) :
    wpAny (model P w) A (call (.ref 120) [.ref S.x, .int x u]) Q E s := by
  refine wpAny_call (code_fn (k := k) (names := ["self", "nodes"]) (PB := fun h1 us => h1 = s.heap.push { cls := .type "tuple", data := .seq #[.int x u] } ∧ us = [.ref S.x, .ref s.heap.objs.size]) B.lim B.f120 (fun name qual doc pm cdv ct A E Q hq => ?_) (fun h1 us ⟨e, _⟩ => e ▸ Kp.push _ _) (by decide) (by decide +kernel) (by decide +kernel) ok fun h1 us L env A' h2 t2 pb hL er hw hbn e1 e2 kp ok2 fr => ?_)
  · have e : bindArgs (fnOf name qual (mPars 6 7) (mBody 6 7) (mScope 6 7) .none .none doc pm none cdv ct) ⟨[.ref S.x, .int x u], []⟩ = (newTuple [.int x u] >>= fun t => pure [(("self" : Str), .ref S.x), (("nodes" : Str), t)]) := rfl
    rw [e]
    refine wpAny_bind (wpAny_newTuple (wpAny_pure (hq _ _ ⟨rfl, rfl⟩)) (by show 1 ≤ sizeLine; rw [szl]; decide))
  obtain ⟨rfl, rfl⟩ := pb
  have hT0 : s.heap.get? s.heap.objs.size = none := dead_size _ (Nat.le_refl _)
  have hT1 : (s.heap.push { cls := .type "tuple", data := .seq #[.int x u] }).IsTuple s.heap.objs.size #[.int x u] := ⟨_, Heap.get?_push_size _ rfl, rfl, 0, rfl⟩
  have kT : Kp h₀.objs.size s.heap (s.heap.push { cls := .type "tuple", data := .seq #[.int x u] }) := Kp.push _ _
  generalize s.heap.push { cls := .type "tuple", data := .seq #[.int x u] } = hP at *
  generalize hTe : s.heap.objs.size = T at *
  have hLs : s.heap.get? L = none := by
    cases e : s.heap.get? L with
    | none => rfl
    | some o => obtain ⟨o', e'⟩ := kT.there e; rw [hL] at e'; cases e'
  have hTL : T ≠ L := fun q => by obtain ⟨o, e, _⟩ := hT1; rw [q, hL] at e; cases e
  have atP := SS.sep.kp at_ kT
  have hLF : L ∉ S.fp := fun q => by obtain ⟨o, e, _⟩ := SS.sep.live _ at_ L q; rw [hLs] at e; cases e
  have hTF : T ∉ S.fp := fun q => by obtain ⟨o, e, _⟩ := SS.sep.live _ at_ T q; rw [hT0] at e; cases e
  have hL0 : h₀.get? L = none := ok.dead hLs
  have hX0 : ∀ a ∈ [L], h₀.get? a = none := fun a ha => by rw [List.mem_singleton.mp ha]; exact hL0
  have c2 := cx_frame (names := ["self", "nodes"]) er hbn e1 e2 (SS.sep.kp atP kp) (SS.sep (w := w) (h₀ := h₀)) hLF
  have tup2 : IsSq true h2 T #[.int x u] := IsSq.kpx (b := true) (X := []) hT1 kp.x (fun q => by cases q)
  have hrv : S.rv = .ref r := by unfold SS.rv; rw [sy.rd]
  refine wpAny_execs_cons (wpAny_If (wpAny_isTrue_Compare1 (at_self (s := { s with heap := h2, toks := t2 }) B rfl (by decide) ok2 c2 (fun _ x => x) fun v t t' h3 t3 hlv had ok3 c3 k3 => wpAny_Constant_none ?_)))
  have hv : some S.rv = some v := hlv
  rw [hrv] at hv; cases hv
  refine wpAny_is_other rfl (by intro q; cases q) (wpAny_truthy_bool (wpAny_execs_nil ?_))
  refine wpAny_execs_cons (wpAny_Assign_Name (at_self (s := { s with heap := h3, toks := t3 }) B rfl (by decide) ok3 c3 (fun _ x => x) fun v t t' h7 t7 hlv had ok7 c7 k7 => ?_))
  have hv : some (Value.ref S.d) = some v := hlv
  cases hv
  refine c7.store (N := h₀.objs.size) (s := { s with heap := h7, toks := t7 }) (hw _ (.inl (by decide +kernel))) rfl fun h8 t8 c8 k8 => ?_
  have ok8 := ok7.kpx k8 hX0
  have k37o := k3.trans k7
  have k8o := k8
  have K8 : KpX [L] h₀.objs.size s.heap h8 := ((kT.trans kp).trans (k3.trans k7)).x.trans k8
  have tup8 : IsSq true h8 T #[.int x u] := (tup2.kpx (X := []) (k3.trans k7).x (fun q => by cases q)).kpx k8 (fun q => hTL (List.mem_singleton.mp q))
  obtain ⟨p, hp, hpn, hpf⟩ := find_of_has (S := S) (n := x) (by rw [sy.ns]; exact hhas)
  have hget : getN st.ns x = some p.nd := by rw [← sy.ns, getN_find, hpf]; rfl
  obtain ⟨tmo, gout⟩ := G.out
  obtain ⟨tmd, gdone⟩ := G.done
  obtain ⟨sm1, sm2⟩ := small_int hx
  have hsuc : p.nd.suc.length ≤ c := hbd.2 p.nd (by rw [← sy.ns]; exact List.mem_map.mpr ⟨p, hp, rfl⟩)
  refine wpAny_execs_cons (for_cx (S := S) (b := true) (a := T) (X := [L]) (vs := #[.int x u]) (s := { s with heap := h8, toks := t8 }) (fun i S' => (i = 0 ∧ S' = S) ∨ (i = 1 ∧ S'.fp = S.fp ∧ ∃ st', doneF st x = .ok st' ∧ Sy S' r st')) ok8 at_.dead (fun _ q => q) (hw _ (.inl (by decide +kernel))) rfl hX0 (.inl ⟨rfl, rfl⟩) (fun q => hTL (List.mem_singleton.mp q)) (fun Q' hq => RE.cx (re_name (v := .ref T) rfl) (s := { s with heap := h8, toks := t8 }) ok8 c8 fun h10 t10 ok10 c10 k10 => hq h10 t10 ok10 c10 k10 (tup8.kpx (X := []) k10.x (fun q => by cases q))) (fun it i v S' s' hv hpr ok' c' hX0' hal hsm hkk hse => ?_) fun S' h9 t9 hpr ok9 c9 hnew kk hsm => ?_)
  · have hi : i = 0 ∧ v = .int x u := by
      cases i with
      | zero => simp at hv; exact ⟨rfl, hv.symm⟩
      | succ i => simp at hv
    obtain ⟨rfl, rfl⟩ := hi
    rcases hpr with ⟨_, rfl⟩ | ⟨q, _⟩
    case inr => cases q
    have hXi : ∀ a ∈ [L], a ∈ it :: [L] := fun a ha => .tail _ ha
    refine hideQE fun Q₂ E₂ hQ₂ hE₂ => ?_
    refine wpAny_execs_cons (wpAny_If (wpAny_isTrue_Compare1 (wpAny_NamedExpr (wpAny_Call_method1_late rfl rfl rfl (RE.cx (re_name (v := .ref S'.d) rfl) ok' c' fun h3 t3 ok3 c3 k3 => ?_)))))
    refine ⟨"dict", "dict.get", PySem.F.plainAttrs_dict, PySem.F.slot_dict_get, PySem.F.type_dict_get, c3.hp.d.typeIs (s := { s' with heap := h3, toks := t3 }), c3.hp.d.mapOf.noDict, wpAny_dict_get1 (knd := intKind P w) (S'.ne_sys B c3.hp) (RE.cx (re_name (v := .int x u) rfl) (s := { s' with heap := h3, toks := t3 }) ok3 c3 fun h4 t4 ok4 c4 k4 => ⟨x, _, intKind_is P w x u, c4.hp.d.mapOf, ?_⟩)⟩
    refine wpAny_assign_Name (Cx.storeW (N := h₀.objs.size) (W := [L]) (s := { s' with heap := h4, toks := t4 + 1 }) hXi c4 (hw "nodeinfo" (.inl (by decide +kernel))) rfl fun h5 t5 c5 k5 => wpAny_Constant_none ?_)
    have ok5 := ok4.kpx k5 hX0
    rw [valueAt_kvs, hpf] at c5 ⊢
    refine wpAny_is_other rfl (by intro q; cases q) (wpAny_truthy_bool (wpAny_execs_nil ?_))
    refine wpAny_execs_cons (wpAny_Assign_Name (Attribute_Name_ (RE.cx (re_name (v := .ref p.i) rfl) (s := { s' with heap := h5, toks := t5 }) ok5 c5 fun h6 t6 ok6 c6 k6 => np_get (s := { s' with heap := h6, toks := t6 }) B hp ok6 c6.hp fun tnp => ?_)))
    refine Cx.storeW (N := h₀.objs.size) (W := [L]) (s := { s' with heap := h6, toks := t6 + 1 }) hXi c6 (hw "stat" (.inl (by decide +kernel))) rfl fun h7 t7 c7 k7 => ?_
    have ok7 := ok6.kpx k7 hX0
    have K7 : KpX [L] h₀.objs.size s'.heap h7 := (((k3.trans k4).x.trans k5).trans k6.x).trans k7
    refine wpAny_execs_cons (wpAny_If (wpAny_isTrue_Compare1 (RE.cx (re_name (v := .int p.nd.np tnp) rfl) (s := { s' with heap := h7, toks := t7 }) ok7 c7 fun h8 t8 ok8 c8 k8 => load_gl (s := { s' with heap := h8, toks := t8 }) ok8 c8.er (by decide +kernel) gout (PyProof.Rows.ne_int (wpAny_truthy_bool ?_)))))
    cases e0 : (p.nd.np != -1) with
    | true =>
      have raise : doneF st x = .refused → ∀ {h9 : Heap} {s9 : Shared} {e : Addr} {args : List Value}, (∃ h t, s9 = { s with heap := h, toks := t }) → Ok h₀ k A' h9 → S'.At w h₀ h9 → Kp h₀.objs.size h8 h9 → Heap.MadeExcOf h9 s9.heap e (.type "ValueError") args →
          E₂ (.ref e) s9 := by
        intro hd h9 s9 e args ⟨hh, tt, hs9⟩ ok9 at9 k9 hm
        refine hE₂ _ _ ?_
        obtain ⟨hf, ⟨fs, hA, hA', _⟩, hLz, hLc⟩ := fr
        have fi2 := ((((fi.call kT kp hA hA' hf hLz hLc).kpx (k37o.x.trans k8o)).kpx hkk).kpx K7).kp (k8.trans k9)
        obtain ⟨fs', q, ff⟩ := ok9.frames
        rw [hA'] at q; cases q
        refine raise_loop hA' hf ff fi2 hm fun h' rz => ?_
        subst hs9
        refine hR hd fs hA e L h9 h' tt hLs hLF ⟨at9, fun a ha => .inl ha, ?_, rfl, rfl, rfl⟩ rz
        have q1 : KpX (S'.fp ++ [L]) h₀.objs.size s.heap s'.heap := (K8.mono fun z hz => .inl (List.mem_append_right _ hz)).trans hkk
        refine (q1.trans ((K7.trans (k8.trans k9).x).mono fun z hz => .inl (List.mem_append_right _ hz))).mono fun z hz => ?_
        rcases List.mem_append.mp hz with q | q
        · exact .inl q
        · rw [List.mem_singleton.mp q]; exact .inr hLs
      have hne : (p.nd.np == -1) = false := by
        have : (p.nd.np != -1) = !(p.nd.np == -1) := rfl
        rw [this] at e0; simpa using e0
      have hd : doneF st x = if decide (p.nd.np ≥ 0) || p.nd.np == -2 then .refused else .bad := by
        unfold doneF; rw [hget]; simp only [hne]; rfl
      show wpAny (model P w) A' (execs _ env) _ _ _
      refine wpAny_execs_cons (wpAny_If (wpAny_isTrue_Compare1 (RE.cx (re_name (v := .int p.nd.np tnp) rfl) (s := { s' with heap := h8, toks := t8 }) ok8 c8 fun h9 t9 ok9 c9 k9 => EvE.cx (d := .int 0) ev_int (s := { s' with heap := h9, toks := t9 }) ok9 c9 fun v10 h10 t10 r10 ok10 c10 k10 => ?_)))
      obtain ⟨t0, rfl⟩ := r10.int_inv
      refine PyProof.Rows.ge_int (wpAny_truthy_bool ?_)
      cases e1 : decide ((0 : Int) ≤ p.nd.np) with
      | true =>
        show wpAny (model P w) A' (execs _ env) _ _ _
        refine wpAny_execs_cons (raise_node (s := { s' with heap := h10, toks := t10 }) GX (by decide +kernel) sm1 rfl (by decide +kernel) (by decide +kernel) sm2 ok10 c10 fun e h11 h12 t12 args ok11 c11 k11 hm => raise ?_ ⟨h12, t12, ?_⟩ ok11 c11.hp ((k9.trans k10).trans k11) hm)
        · rw [hd]; simp only [ge_iff_le, e1, Bool.true_or, if_true]
        · obtain ⟨g, tk, rfl⟩ := hse; rfl
      | false =>
        show wpAny (model P w) A' (execs _ env) _ _ _
        refine wpAny_execs_cons (wpAny_If (wpAny_isTrue_Compare1 (RE.cx (re_name (v := .int p.nd.np tnp) rfl) (s := { s' with heap := h10, toks := t10 }) ok10 c10 fun h11 t11 ok11 c11 k11 => load_gl (s := { s' with heap := h11, toks := t11 }) ok11 c11.er (by decide +kernel) gdone (PyProof.Rows.eq_int (wpAny_truthy_bool ?_)))))
        cases e2 : (p.nd.np == -2) with
        | true =>
          show wpAny (model P w) A' (execs _ env) _ _ _
          refine wpAny_execs_cons (raise_node (s := { s' with heap := h11, toks := t11 }) GX (by decide +kernel) sm1 rfl (by decide +kernel) (by decide +kernel) sm2 ok11 c11 fun e h12 h13 t13 args ok12 c12 k12 hm => raise ?_ ⟨h13, t13, ?_⟩ ok12 c12.hp (((k9.trans k10).trans k11).trans k12) hm)
          · rw [hd]; simp only [ge_iff_le, e1, e2, Bool.or_true, if_true]
          · obtain ⟨g, tk, rfl⟩ := hse; rfl
        | false => exact absurd (by rw [hd]; simp only [ge_iff_le, e1, e2]; rfl) hbad
    | false =>
      refine wpAny_execs_nil ?_
      have hnp : p.nd.np = -1 := by simpa using e0
      have hd : doneF st x = if p.nd.suc.all fun y => hasN (updN st.ns x fun q => { q with np := -2 }) y then .ok { (p.nd.suc.foldl sucF { st with ns := updN st.ns x fun q => { q with np := -2 } }) with fin := st.fin + 1 } else .bad := by
        unfold doneF; rw [hget]; simp only [hnp]; rfl
      have hall : (p.nd.suc.all fun y => hasN (updN st.ns x fun q => { q with np := -2 }) y) = true := by
        cases q : (p.nd.suc.all fun y => hasN (updN st.ns x fun q => { q with np := -2 }) y) with
        | true => rfl
        | false => rw [q] at hd; exact absurd hd hbad
      rw [hall, if_pos rfl] at hd
      refine wpAny_execs_cons (plainObj_wpAny_Assign_Attribute (load_gl (s := { s' with heap := h8, toks := t8 }) ok8 c8.er (by decide +kernel) gdone (RE.cx (re_name (v := .ref p.i) rfl) (s := { s' with heap := h8, toks := t8 }) ok8 c8 fun h9 t9 ok9 c9 k9 => ?_)))
      refine np_set (s := { s' with heap := h9, toks := t9 }) B hp (f := fun q => { q with np := -2 }) (fun _ => rfl) rfl rfl ok9 c9 fun h10 ok10 c10 k10 => ?_
      have c10 := Cx.updEq (SS.updF_fp S' p.nd.name _) c10
      have hp10 := SS.updF_mem hp (fun q => { q with np := -2 })
      have sm := updF_same S' p.nd.name (fun q => { q with np := -2 })
      have hfp1 := SS.updF_fp S' p.nd.name (fun q => { q with np := -2 })
      have hnod : (S'.updF p.nd.name fun q => { q with np := -2 }).nodes = updN st.ns x fun q => { q with np := -2 } := by rw [SS.updF_nodes, hpn, sy.ns]
      generalize hS1 : S'.updF p.nd.name (fun q => { q with np := -2 }) = S1 at *
      have sy1 : Sy S1 r { st with ns := updN st.ns x fun q => { q with np := -2 } } := ⟨hnod, sm.2.2.2.1.trans sy.rd, sm.2.2.2.2.1.trans sy.pa, sm.2.2.2.2.2.trans sy.fi⟩
      generalize hst1 : ({ st with ns := updN st.ns x fun q => { q with np := -2 } } : St) = st1 at *
      have hst1n : st1.ns = updN st.ns x fun q => { q with np := -2 } := by rw [← hst1]
      have hst1r : st1.ready = st.ready := by rw [← hst1]
      have K10 : KpX (S'.fp ++ [L]) h₀.objs.size s'.heap h10 := (K7.mono fun z hz => .inl (List.mem_append_right _ hz)).trans ((k8.trans k9).x.trans (k10.mono fun z hz => .inl (List.mem_append_left _ (by rw [List.mem_singleton.mp hz]; exact S'.mem_ps hp (.head _)))))
      obtain ⟨tn1, tn2, vs, _, l10, hin⟩ := c10.hp.ps _ hp10
      have hvl := ints_length hin
      have hplS : p.l ∈ S1.fp := S1.mem_ps hp10 (.tail _ (.tail _ (.head _)))
      have hplX : p.l ∉ it :: [L] := fun q => c10.dis p.l q hplS
      have hitX : ∀ c ∈ it :: [L], h₀.get? c = none := hX0'
      refine wpAny_execs_cons (for_cx (S := S1) (δ := fun _ => none) (ν := c10.nu) (b := false) (a := p.l) (X := it :: [L]) (vs := vs) (s := { s' with heap := h10, toks := t9 + 1 }) (fun i S2 => S2.fp = S1.fp ∧ S2.ps.map (·.l) = S1.ps.map (·.l) ∧ Sy S2 r ((p.nd.suc.take i).foldl sucF st1)) ok10 c10.hp.dead hXi (hw _ (.inl (by decide +kernel))) rfl hitX ⟨rfl, rfl, sy1⟩ hplX (fun Q' hq => Attribute_Name_ (RE.cx (re_name (v := .ref p.i) rfl) (s := { s' with heap := h10, toks := t9 + 1 }) ok10 c10 fun h11 t11 ok11 c11 k11 => ?_)) (fun it2 i v S2 s2 hv2 hpr2 ok2' c2' hX02 hal2 hsm2 hkk2 hse2 => ?_) fun S2 h11 t11 hpr2 ok11 c11 hnew2 kk2 hsm2 => ?_)
      · obtain ⟨tm1, tm2, vs', ni, _, _⟩ := c11.hp.ps _ hp10
        exact get_slotM (s := { s' with heap := h11, toks := t11 }) (B.kin ok11.stays) B.ni B.nic B.sSuc ni.1 ni.2 (v := .ref p.l) rfl rfl (hq h11 (t11 + 1) ok11 c11 k11 (show h11.IsList _ _ from k11.isList l10.isList))
      · refine hideQE fun Q₃ E₃ hQ₃ _ => ?_
        obtain ⟨y, ty, hy, rfl⟩ := ints_get hin (i := i) (by simpa using hv2)
        obtain ⟨hfp2, hll2, sy2⟩ := hpr2
        have hlt : i < p.nd.suc.length := (List.getElem?_eq_some_iff.mp hy).1
        have hyi : p.nd.suc[i] = y := (List.getElem?_eq_some_iff.mp hy).2
        have hys : y ∈ p.nd.suc := List.mem_of_getElem? hy
        refine turn_suc (S := S2) (s := s2) (L := L) (r := r) (pl := p.l) (y := y) (uy := ty) (st := (p.nd.suc.take i).foldl sucF st1) B (fun a ha => .tail _ (hXi a ha)) hw (by rw [hsm2.1, sm.1]; exact updV_ne (updV_ne (updV_ne (updV_ne rfl)))) (by rw [hsm2.2.2, sm.2.2.1]; rfl) rfl rfl rfl sy2 ?_ ?_ ?_ hL0 ok2' c2' fun S3 h12 t12 ok12 c12 sy3 hfp3 hll3 hrm hK hsm3 => ?_
        · rw [hasN_suc, hst1n]; exact List.all_eq_true.mp hall y hys
        · have := sucF_fold_len (p.nd.suc.take i) st1
          rw [hst1r, List.length_take] at this; omega
        · rw [hll2]; exact List.mem_map.mpr ⟨_, hp10, rfl⟩
        · obtain ⟨i', hi', hne1, hne2, k12⟩ := hK
          refine hQ₃ _ _ ?_
          refine ⟨h12, t12, S3, [i', r, L], rfl, Cx.wk rfl c12, ⟨hfp3.trans hfp2, hll3.trans hll2, ?_⟩, fun z hz => .inl (hfp3 ▸ hz), k12, ?_, fun z hz => ?_, hsm3⟩
          · rw [foldl_take _ _ _ _ hlt, hyi]; exact sy3
          · intro q
            rcases List.mem_cons.mp q with q | q
            · exact hne1 q.symm
            rcases List.mem_cons.mp q with q | q
            · exact hne2 q.symm
            · exact hplX (.tail _ q)
          · rcases List.mem_cons.mp hz with q | q
            · exact .inl (q ▸ hi')
            rcases List.mem_cons.mp q with q | q
            · exact .inl (q ▸ hrm r (.head _))
            · exact .inr q
      · obtain ⟨hfp2, hll2, sy2⟩ := hpr2
        rw [← Array.length_toList, hvl, List.take_length] at sy2
        refine wpAny_execs_cons (wpAny_AugAssign_AttributeAny (RE.cx (re_name (v := .ref S2.x) (by rw [hsm2.1, sm.1]; rfl)) (s := { s' with heap := h11, toks := t11 }) ok11 c11 fun h12 t12 ok12 c12 k12 => ?_))
        obtain ⟨t, t', ad⟩ := c12.hp.ad
        refine get_attr (s := { s' with heap := h12, toks := t12 }) (B.kin ok12.stays) B.ts B.tsd (B.no "_nfinished" (by decide)).1 c12.hp.x ad (v := .int S2.fi t') rfl rfl ?_
        refine EvE.cx (d := .int 1) ev_int (s := { s' with heap := h12, toks := t12 + 1 }) ok12 c12 fun v13 h13 t13 r13 ok13 c13 k13 => ?_
        obtain ⟨tone, rfl⟩ := r13.int_inv
        refine PySem.AutoIntOps.iadd_0 ?_
        refine set_num (s := { s' with heap := h13, toks := t13 + 1 }) B (S := S2) (S' := { S2 with fi := S2.fi + 1 }) (by decide) (fun t t' => ⟨t, t13, rfl⟩) ⟨rfl, rfl, rfl, rfl, rfl⟩ ok13 c13 fun h14 ok14 c14 k14 => wpAny_execs_nil ?_
        have hfp3 : ({ S2 with fi := S2.fi + 1 } : SS).fp = S'.fp := hfp2.trans hfp1
        refine hQ₂ _ _ ?_
        refine ⟨h14, _, { S2 with fi := S2.fi + 1 }, S'.fp ++ [L], rfl, Cx.wk rfl (Cx.wk rfl (Cx.wk rfl c14)), .inr ⟨rfl, hfp3, _, hd, ⟨sy2.ns, sy2.rd, sy2.pa, ?_⟩⟩, fun z hz => .inl (hfp3 ▸ hz), ?_, fun q => (List.mem_append.mp q).elim hTF fun q => hTL (List.mem_singleton.mp q), fun z hz => List.mem_append.mp hz, hsm2.1.trans sm.1, hsm2.2.1.trans sm.2.1, hsm2.2.2.trans sm.2.2.1⟩
        · show S2.fi + 1 = st.fin + 1
          rw [sy2.fi, sucF_fin, ← hst1]
        · have q1 : KpX (S'.fp ++ [L]) h₀.objs.size h10 h11 := by rw [← hfp1]; exact kk2
          have q2 : KpX (S'.fp ++ [L]) h₀.objs.size h13 h14 := k14.mono fun z hz => .inl (List.mem_append_left _ (by rw [hfp2, hfp1] at hz; exact hz))
          exact ((K10.trans q1).trans (k12.trans k13).x).trans q2
  · rcases hpr with ⟨q, _⟩ | ⟨_, hfp, st', hd, sy'⟩
    · cases q
    · refine wpAny_execs_nil (hO st' hd S' h9 t9 ⟨c9.hp, fun a ha => .inl (hfp ▸ ha), ?_, hsm⟩ sy')
      have q1 : KpX (S.fp ++ [L]) h₀.objs.size s.heap h8 := K8.mono fun z hz => .inl (List.mem_append_right _ hz)
      refine (q1.trans kk).mono fun z hz => ?_
      rcases List.mem_append.mp hz with q | q
      · exact .inl q
      · rw [List.mem_singleton.mp q]; exact .inr hLs
end
end Mine
end
section
open PySem.Calls PySem.Spec PySem.SeqAt Builtin Builtin.ObjectAttr
set_option maxRecDepth 100000
namespace Mine
namespace LI
theorem slot_ga : Slot "list_iterator" "__getattribute__" "object.__getattribute__" :=
  .of (owner := "object") (n := "__getattribute__") (by rw [typeLookup_type, builtinLookup_eq_fast]; kernel_rfl) (by decide +kernel) (by decide +kernel) (by decide +kernel)
    (by first | exact .inl (by decide +kernel) | exact .inr (by decide +kernel)) (by rw [isSubtype_type]; kernel_rfl)
theorem ga_none : typeLookup (.type "list_iterator") "__getattr__" = pure none := by rw [typeLookup_type, builtinLookup_eq_fast]; kernel_rfl
theorem typ : typeOf (.builtin "list_iterator.__next__") = pure (.type "wrapper_descriptor") := by first | kernel_rfl | (show builtinType _ = _; rw [builtinType_eq_fast]; kernel_rfl)
theorem slot_get : Slot "wrapper_descriptor" "__get__" "wrapper_descriptor.__get__" :=
  .of (owner := "wrapper_descriptor") (n := "__get__") (by rw [typeLookup_type, builtinLookup_eq_fast]; kernel_rfl) (by decide +kernel) (by decide +kernel) (by decide +kernel)
    (by first | exact .inl (by decide +kernel) | exact .inr (by decide +kernel)) (by rw [isSubtype_type]; kernel_rfl)
theorem no_set : typeLookup (.type "wrapper_descriptor") "__set__" = pure none := by rw [typeLookup_type, builtinLookup_eq_fast]; kernel_rfl
theorem no_del : typeLookup (.type "wrapper_descriptor") "__delete__" = pure none := by rw [typeLookup_type, builtinLookup_eq_fast]; kernel_rfl
theorem entry_get : entryFor table "wrapper_descriptor.__get__" = some Builtin.«wrapper_descriptor.__get__» := by first | exact entryFor_of_tree (by kernel_rfl) | exact entryFor_of_fast (by kernel_rfl)
theorem args_get (a b c : Value) : argsOk "wrapper_descriptor.__get__" ⟨[a, b, c], []⟩ := by unfold argsOk; kernel_rfl
theorem sub_own : isSubtype (.type "list_iterator") (.type "list_iterator") = pure true := by rw [isSubtype_type]; kernel_rfl
theorem owner : (".".intercalate ("list_iterator.__next__".cutAt '.').dropLast) = "list_iterator" := by
  have e0 : "list_iterator.__next__".cutAt '.' = ["list_iterator", "__next__"] := by first | rfl | decide +kernel
  rw [e0]; decide +kernel
theorem sub_owner : isSubtype (.type "list_iterator") (.type (".".intercalate ("list_iterator.__next__".cutAt '.').dropLast)) = pure true := by rw [owner]; exact sub_own
end LI

noncomputable def wrapObj (it : Addr) : Obj := { cls := .type "method-wrapper", dict := none, data := .fields #[.builtin "list_iterator.__next__", .ref it] }
section
variable {prog : Program} {w : World} {A : Around} {E : Value → Shared → Prop} {h : Heap} {g : Array GenState} {d : Drawn} {t : Nat} {os : OsState} {a l : Addr} {i : Nat}
theorem li_get {R : Result → Shared → Prop} {ob : Obj} (hx : h.get? a = some ob) (hc : ob.cls = .type "list_iterator") (hq : R (.ok (.ret (.ref h.objs.size))) ⟨h.push (wrapObj a), g, d, t, os⟩) :
    codeAny (model prog w) A (.call (.builtin "wrapper_descriptor.__get__") ⟨[.builtin "list_iterator.__next__", .ref a, .type "list_iterator"], []⟩) R ⟨h, g, d, t, os⟩ := by
  have hT : (⟨h, g, d, t, os⟩ : Shared).TypeIs (.ref a) "list_iterator" := ⟨_, hx, hc⟩
  have hT5 : (⟨h, g, d, t, os⟩ : Shared).TypeIs (.builtin "list_iterator.__next__") "wrapper_descriptor" := LI.typ
  have f8 := LI.sub_owner
  refine codeAny_call_builtin LI.slot_get.plain LI.entry_get (LI.slot_get.check _ _ _ _ _ _ _ _ hT5 (LI.args_get _ _ _) ?_)
  repeat (any_goals (first | assumption | wp_step))

theorem li_entry {tk : Tok} {Q : Fin → Shared → Prop} {ob : Obj} (hx : h.get? a = some ob) (hc : ob.cls = .type "list_iterator") (hd : ob.dict = none) {vs : Array Value} (hf : ob.data = .fields vs) (hq : Q (.done (.ret (.ref h.objs.size))) ⟨h.push (wrapObj a), g, d, t, os⟩) :
    wpAny (model prog w) A (Builtin.«object.__getattribute__» ⟨[.ref a, .str "__next__" tk], []⟩) Q E ⟨h, g, d, t, os⟩ := by
  have hT : (⟨h, g, d, t, os⟩ : Shared).TypeIs (.ref a) "list_iterator" := ⟨_, hx, hc⟩
  have hT5 : (⟨h, g, d, t, os⟩ : Shared).TypeIs (.builtin "list_iterator.__next__") "wrapper_descriptor" := LI.typ
  have f4 := slot_listiter_next.lookup
  have f5 := LI.typ
  have f6 := LI.slot_get.lookup
  have f7 := LI.no_set
  have f8 := LI.no_del
  obtain ⟨c0, d0, dt0, sl0⟩ := ob
  dsimp only at hc hd hf
  subst hc hd hf
  repeat (any_goals (first | assumption | wp_step))
  refine li_get hx rfl ?_
  repeat (any_goals (first | assumption | wp_step))
end
end Mine
end
section
open PySem.Calls PySem.Spec PySem.SeqAt Builtin Builtin.ObjectAttr
set_option maxRecDepth 100000
namespace Mine
section
variable {prog : Program} {w : World} {A : Around} {E : Value → Shared → Prop} {a l : Addr} {i : Nat}
theorem get_next {s : Shared} {Q : Value → Shared → Prop} {ob : Obj} (hx : s.heap.get? a = some ob) (hc : ob.cls = .type "list_iterator") (hd : ob.dict = none) {vs : Array Value} (hf : ob.data = .fields vs)
    (hq : Q (.ref s.heap.objs.size) { s with heap := s.heap.push (wrapObj a), toks := s.toks + 1 }) : wpAny (model prog w) A (getAttr (.ref a) "__next__" true) Q E s := by
  obtain ⟨h, g, d, t, os⟩ := s
  obtain ⟨c0, d0, dt0, sl0⟩ := ob
  dsimp only at hc hd hf
  subst hc hd hf
  have hT : ∀ t, (⟨h, g, d, t, os⟩ : Shared).TypeIs (.ref a) "list_iterator" := fun t => ⟨_, hx, rfl⟩
  have f3 := LI.slot_ga.lookup
  have f4 := LI.slot_ga.bind (.ref a)
  have f5 := LI.ga_none
  unfold getAttr getAttrBy
  repeat (any_goals (first | assumption | exact hT _ | ((with_reducible show wpAny _ _ (call (Value.builtin "object.__getattribute__") _) _ _ _); refine wpAny_call (codeAny_call_builtin LI.slot_ga.plain PySem.F.entry_object_getattribute (LI.slot_ga.check _ _ _ _ _ _ _ _ (hT _) (PySem.F.args_object_getattribute_2 _ _) (li_entry hx rfl rfl rfl ?_)))) | wp_step))

theorem iter_plain : plainId "iter" = true := by decide +kernel
theorem iter_kind : builtinKind "iter" = none := by decide +kernel
theorem call_iter {s : Shared} {x : Value} {Q : Value → Shared → Prop} (h : wpAny (model prog w) A.in1 (pyIter x) Q E s) : wpAny (model prog w) A (call (.builtin "iter") [x]) Q E s := by
  refine Calls.call_function_entry iter_kind iter_plain kdk_entry_iter (kdk_args_iter _) ?_
  unfold Builtin.«iter»
  refine wpAny_bind (wpAny_of_eq (a := [x]) (by first | rfl | kernel_rfl) ?_)
  dsimp only
  exact wpAny_bind (wpAny_mono h (fun v s' hq => wpAny_pure ⟨_, rfl, hq⟩) fun _ _ e => e)

theorem bound_check {s : Shared} {x : Value} {Q : Unit → Shared → Prop} (h : Q () s) : wpAny (model prog w) A (checkBoundCall "list_iterator.__next__" ⟨[x], []⟩) Q E s := by
  unfold checkBoundCall
  repeat (any_goals (first | assumption | wp_step))
theorem call_wrap {s : Shared} {m it : Addr} {R : Result → Shared → Prop} (hm : s.heap.get? m = some (wrapObj it))
    (h : codeAny (model prog w) A (.builtin "list_iterator.__next__" ⟨[.ref it], []⟩) R s) : codeAny (model prog w) A (.call (.ref m) ⟨[], []⟩) R s := by
  refine codeAny_of_tree ?_
  show wpAny _ _ (callAny (.ref m) ⟨[], []⟩) _ _ _
  unfold callAny
  dsimp only
  refine wpAny_bind (wpAny_load hm ?_)
  refine wpAny_bind (bound_check ?_)
  refine wpAny_pure ⟨Code.quiet_builtin _ (by decide +kernel), h⟩
end
end Mine
end
section
open PySem.Calls PySem.Spec PySem.SeqAt Builtin Builtin.ObjectAttr
set_option maxRecDepth 100000
namespace Mine
section
variable {prog : Program} {w : World} {A : Around} {E : Value → Shared → Prop} {s : Shared} {it l m : Addr} {i : Nat}
theorem next_item {items : Array Value} {x : Value} {R : Result → Shared → Prop} (hit : s.heap.IsListIter it l i) (hl : s.heap.IsList l items) (hx : items[i]? = some x)
    (hQ : ∀ h', h'.IsListIter it l (i + 1) → Heap.SameBut it s.heap h' → R (.ok (.ret x)) { s with heap := h' }) : codeAny (model prog w) A (.builtin "list_iterator.__next__" ⟨[.ref it], []⟩) R s := by
  obtain ⟨o, ho, hc, hd⟩ := id hit
  obtain ⟨ol, hol, _, nl, hdl⟩ := hl
  refine codeAny_builtin entry_listiter_next ?_
  show wpAny _ _ (field (.ref it) 0 >>= _) _ _ s
  refine wpAny_bind (wpAny_field ho hd (x := .ref l) rfl ?_)
  show wpAny _ _ (if (Value.ref l == Value.none) = true then _ else _) _ _ s
  rw [if_neg (show ¬ ((Value.ref l == Value.none) = true) from Bool.false_ne_true)]
  show wpAny _ _ (field (.ref it) 1 >>= _) _ _ s
  refine wpAny_bind (wpAny_field ho hd (x := .int i 0) rfl ?_)
  show wpAny _ _ (seqItems? (.ref l) >>= _) _ _ s
  refine wpAny_bind (wpAny_seqItems hol hdl ?_)
  simp only [Int.toNat_natCast, hx]
  refine wpAny_bind (wpAny_setField ho hd (by simp) (wpAny_pure (hQ _ ?_ (Heap.SameBut.update ..))))
  exact ⟨_, Heap.get?_update_self _ ho (Obj.isFreed_of_fields (Obj.data_mapFields hd _)), (Obj.cls_mapFields ..).trans hc, by
    rw [Obj.data_mapFields hd]; simp [rawInt]⟩

theorem next_end {items : Array Value} {R : Result → Shared → Prop} (hh : A.handled = none) (hit : s.heap.IsListIter it l i) (hl : s.heap.IsList l items) (hx : items[i]? = none)
    (hQ : ∀ h1 h' e, Heap.SameBut it s.heap h1 → (∃ o, h1.get? it = some o ∧ o.cls = .type "list_iterator" ∧ ∃ vs, o.data = .fields vs) → Heap.MadeExcOf h1 h' e (.type "StopIteration") [] → R (.error (.ref e)) { s with heap := h' }) :
    codeAny (model prog w) A (.builtin "list_iterator.__next__" ⟨[.ref it], []⟩) R s := by
  obtain ⟨o, ho, hc, hd⟩ := id hit
  obtain ⟨ol, hol, _, nl, hdl⟩ := hl
  refine codeAny_builtin entry_listiter_next ?_
  show wpAny _ _ (field (.ref it) 0 >>= _) _ _ s
  refine wpAny_bind (wpAny_field ho hd (x := .ref l) rfl ?_)
  show wpAny _ _ (if (Value.ref l == Value.none) = true then _ else _) _ _ s
  rw [if_neg (show ¬ ((Value.ref l == Value.none) = true) from Bool.false_ne_true)]
  show wpAny _ _ (field (.ref it) 1 >>= _) _ _ s
  refine wpAny_bind (wpAny_field ho hd (x := .int i 0) rfl ?_)
  show wpAny _ _ (seqItems? (.ref l) >>= _) _ _ s
  refine wpAny_bind (wpAny_seqItems hol hdl ?_)
  simp only [Int.toNat_natCast, hx]
  refine wpAny_bind (wpAny_rule (wpAny_bind (wpAny_setField ho hd (by simp) ?_)))
  have hs1 : Heap.SameBut it s.heap (s.heap.update it (Obj.mapFields (·.setIfInBounds 0 Value.none))) := Heap.SameBut.update ..
  have ho1 : (s.heap.update it (Obj.mapFields (·.setIfInBounds 0 Value.none))).get? it = some (Obj.mapFields (·.setIfInBounds 0 Value.none) o) := Heap.get?_update_self _ ho (Obj.isFreed_of_fields (Obj.data_mapFields hd _))
  have hQ1 := fun h' e hm => hQ _ h' e hs1 ⟨_, ho1, (Obj.cls_mapFields ..).trans hc, _, Obj.data_mapFields hd _⟩ hm
  generalize s.heap.update it (Obj.mapFields (·.setIfInBounds 0 Value.none)) = h1 at hQ1
  show wpAny _ _ (newExc (.type "StopIteration") [] >>= _) _ _ _
  refine wpAny_bind ?_
  simp only [newExc, newTuple]
  refine wpAny_bind (wpAny_newObj_type ?_ (by size_fits))
  refine wpAny_bind (m := firstArgMember _ _) (wpAny_of_eq (a := Value.none) (by first | rfl | (simp only [firstArgMember]; rfl)) ?_)
  refine wpAny_newObj_type ?_ (by size_fits)
  simp only [raiseNew]
  refine wpAny_bind (wpAny_handled ?_)
  rw [show (A.under (Code.builtin "list_iterator.__next__" { pos := [Value.ref it] })).handled = none from hh]
  refine wpAny_bind (wpAny_pure (wpAny_throw ?_))
  have e1 : (h1.push { cls := .type "tuple", data := .seq #[] }).get? h1.objs.size = some { cls := .type "tuple", data := .seq #[] } := Heap.get?_push_size _ rfl
  refine hQ1 _ _ ⟨fun b o e => Heap.get?_push_of_some _ (Heap.get?_push_of_some _ e), ?_, h1.objs.size, Heap.get?_push_size _ rfl, dead_size _ (Nat.le_refl _), Heap.get?_push_of_some _ e1⟩
  exact dead_size _ (by rw [Heap.size_push]; exact Nat.le_succ _)

theorem callWith_wrap {pos : Pos} {Q : Value → Shared → Prop} (hm : s.heap.get? m = some (wrapObj it)) (h : wpAny (model prog w) A (call (.ref m) []) Q E s) : wpAny (model prog w) A (callWith pos (.ref m) [] [] []) Q E s := by
  unfold callWith
  refine wpAny_bind (wpAny_holding (evalArgs_empty (wpAny_bind (wpAny_standAt ?_))))
  refine wpAny_bind (m := keeperOf (.ref m)) ?_
  unfold keeperOf
  refine wpAny_bind (wpAny_load hm ?_)
  refine wpAny_pure ?_
  exact wpAny_bind (wpAny_mono h (fun r s₂ hr => wpAny_bind (wpAny_holding (wpAny_point (wpAny_pure hr)))) fun _ _ x => x)

theorem Call_Sub0 {env : Env} {o i : Expr} {p pos : Pos} {Q : Value → Shared → Prop} (h : wpAny (model prog w) A (eval (.Subscript o i p) env) (fun f s₁ => wpAny (model prog w) A (callWith pos f [] [] []) Q E s₁) E s) :
    wpAny (model prog w) A (eval (.Call (.Subscript o i p) [] [] pos) env) Q E s := by
  have e : eval (.Call (.Subscript o i p) [] [] pos) env = (do callWith pos (← eval (.Subscript o i p) env) [] (backTo pos (starEach [] env)) (backToKw pos (keywordEach [] env))) := rfl
  rw [e]
  exact wpAny_bind h
end
end Mine
end
section
open PySem.Calls PySem.Spec PySem.SeqAt Builtin Builtin.ObjectAttr
set_option maxRecDepth 100000
namespace Mine
section
variable {w : World} {h₀ : Heap} {k : Nat} {X F : List Addr} {env : Env} {sc : Scope} {δ : Str → Option PyData} {ν : Str → Option Value} {H : Heap → Prop} {A : Around} {E : Value → Shared → Prop} {s : Shared}

theorem load_glS {O : List Addr} {Q : Value → Shared → Prop} {x : Str} {v : Value} {p : Pos} (st : h₀.StaysIn s.heap) (er : EnvR O s.heap env sc δ) (hx : sc.names.lookup x = some .globalImplicit) (g : Gl h₀ x v) (h : Q v s) (hd : (x == ("__debug__" : Str)) = false := by decide) :
    wpAny (model P w) A (eval (.Name x p) env) Q E s := by
  have hk : env.kindOf x = some .globalImplicit := by
    rcases er.kinds _ _ hx with q | ⟨q, _⟩
    · exact q
    · cases q
  obtain ⟨mg, h1, h2⟩ := g.stays st
  refine Name_function_global er.kind hk ?_ hd
  rcases h2 with h2 | ⟨h2, mb, h3, h4⟩
  · exact loadGlobal_global (by rw [er.glb]; exact h1) h2 h
  · exact loadGlobal_builtin (by rw [er.glb]; exact h1) h2 (by rw [er.bi]; exact h3) h4 h
theorem name_cx {Q : Value → Shared → Prop} {x : Str} {v : Value} {p : Pos} (hx : ν x = some v) (c : Cx X F s.heap env sc δ ν H) (h : Q v s) (hd : (x == ("__debug__" : Str)) = false := by decide) (hc : (x == ("__classdict__" : Str)) = false := by decide) :
    wpAny (model P w) A (eval (.Name x p) env) Q E s := wpAny_Name (load_bound c.er (c.nb x v hx) h hc) hd

theorem landed {T : String} {B hr : Heap} {as : List Addr} {outer : List Env} {e L : Addr} {a0 : Value} {x : Str} {np pos : Pos} {b₀ : Stmt} {suite : List Stmt} {rest : List ExceptHandler} {Q : Flow → Shared → Prop}
    (hexc : isSubtype (.type T) (.type "BaseException") = pure true) (hnt : isSubtype (.type ((Manifest.find? T).elim "type" fun x => x.metatype)) (.type "tuple") = pure false) (hsub : isSubtype (.type T) (.type T) = pure true)
    (hid : Hid h₀.objs.size hr as B) (u : hr.UpToSlots s.heap) (hh : Heap.HeldW B (env :: outer) e (.type T) a0 L s.heap) (g : Gl h₀ x (.type T)) (c : Cx X F hr env sc δ ν H) (st : h₀.StaysIn hr) (hx : sc.names.lookup x = some .globalImplicit)
    (k : ∀ h' E', Kp h₀.objs.size hr h' → wpAny (model P w) (A.mark (some (.ref e))) (execs (b₀ :: suite) env) Q E' { s with heap := h' }) (hd : (x == ("__debug__" : Str)) = false := by decide) :
    wpAny (model P w) A (setFlight (.ref e) none) (fun _ s₃ => wpAny (model P w) A (handleBy (.ref e) env (.ExceptHandler (some (.Name x np)) none (b₀ :: suite) pos :: rest)) Q E s₃) E s := by
  refine wpAny_landsW hh fun h5 fl5 u5 => ?_
  have k5 := hid.kp fl5.1 (u.trans u5)
  obtain ⟨ob, hob, hobc⟩ := fl5.there
  refine wpAny_handleBy_builtin (X := T) (T := T) (b := true) hexc hnt hsub (load_glS (k5.stays st) (c.kp k5).er hx g ⟨rfl, ⟨ob, hob, hobc⟩, ?_⟩ hd)
  refine lands_againW fl5 fun h6 fl6 u6 => ?_
  exact k h6 _ (hid.kp fl6.1 ((u.trans u5).trans u6))

theorem caught_made {T : String} {h : Heap} {outer : List Env} {e L : Addr} {args : List Value} {x : Str} {np pos : Pos} {b₀ : Stmt} {suite : List Stmt} {rest : List ExceptHandler} {Q : Flow → Shared → Prop}
    (hexc : isSubtype (.type T) (.type "BaseException") = pure true) (hnt : isSubtype (.type ((Manifest.find? T).elim "type" fun x => x.metatype)) (.type "tuple") = pure false) (hsub : isSubtype (.type T) (.type T) = pure true)
    (hfr : A.frames = some (env :: outer)) (hf : env.frame = some L) (hl : h.FunFrames h₀ (env :: outer)) (fi : FrI h₀ A h) (hx : Heap.MadeExcOf h s.heap e (.type T) args) (g : Gl h₀ x (.type T)) (c : Cx X F h env sc δ ν H) (st : h₀.StaysIn h) (hxs : sc.names.lookup x = some .globalImplicit)
    (k : ∀ h' E', Kp h₀.objs.size h h' → wpAny (model P w) (A.mark (some (.ref e))) (execs (b₀ :: suite) env) Q E' { s with heap := h' }) (hd : (x == ("__debug__" : Str)) = false := by decide) :
    wpAny (model P w) A (noteFrame (.ref e) env) (fun _ s₂ => wpAny (model P w) A (setFlight (.ref e) none) (fun _ s₃ => wpAny (model P w) A (handleBy (.ref e) env (.ExceptHandler (some (.Name x np)) none (b₀ :: suite) pos :: rest)) Q E s₃) E s₂) E s := by
  refine notes_made hfr hf (fun b o q => of_hideAll _ q) (frames_hidden hl) hx fun h1 t hh1 u1 => ?_
  exact landed (s := { s with heap := h1 }) hexc hnt hsub (Hid.of fi hfr hl) ((Heap.UpToSlots.of_keeps hx.keeps).trans u1) hh1 g c st hxs k hd
theorem caught_call {T : String} {hr : Heap} {outer : List Env} {e L : Addr} {x : Str} {np pos : Pos} {b₀ : Stmt} {suite : List Stmt} {rest : List ExceptHandler} {Q : Flow → Shared → Prop}
    (hexc : isSubtype (.type T) (.type "BaseException") = pure true) (hnt : isSubtype (.type ((Manifest.find? T).elim "type" fun x => x.metatype)) (.type "tuple") = pure false) (hsub : isSubtype (.type T) (.type T) = pure true)
    (hfr : A.frames = some (env :: outer)) (hf : env.frame = some L) (R : Raised h₀.objs.size hr (env :: outer) (.type T) e s.heap) (g : Gl h₀ x (.type T)) (c : Cx X F hr env sc δ ν H) (st : h₀.StaysIn hr) (hxs : sc.names.lookup x = some .globalImplicit)
    (k : ∀ h' E', Kp h₀.objs.size hr h' → wpAny (model P w) (A.mark (some (.ref e))) (execs (b₀ :: suite) env) Q E' { s with heap := h' }) (hd : (x == ("__debug__" : Str)) = false := by decide) :
    wpAny (model P w) A (noteFrame (.ref e) env) (fun _ s₂ => wpAny (model P w) A (setFlight (.ref e) none) (fun _ s₃ => wpAny (model P w) A (handleBy (.ref e) env (.ExceptHandler (some (.Name x np)) none (b₀ :: suite) pos :: rest)) Q E s₃) E s₂) E s := by
  obtain ⟨as, B, a0, fl, hid, u⟩ := R
  refine wpAny_looks_onW hfr hf fl fun h1 hh1 u1 => ?_
  exact landed (s := { s with heap := h1 }) hexc hnt hsub hid (u.trans u1) hh1 g c st hxs k hd
theorem caught_own {C : Addr} {y : Str} {bmB : List Value} {newId : String} {mg : Str → Option Value} {hr : Heap} {outer : List Env} {e L : Addr} {x : Str} {np pos : Pos} {b₀ : Stmt} {suite : List Stmt} {rest : List ExceptHandler} {Q : Flow → Shared → Prop}
    (O : OwnCls y C bmB newId mg h₀) (hbase : bmB.contains (.type "BaseException") = true)
    (hfr : A.frames = some (env :: outer)) (hf : env.frame = some L) (R : Raised h₀.objs.size hr (env :: outer) (.ref C) e s.heap) (g : Gl h₀ x (.ref C)) (c : Cx X F hr env sc δ ν H) (st : h₀.StaysIn hr) (hxs : sc.names.lookup x = some .globalImplicit)
    (k : ∀ h' E', Kp h₀.objs.size hr h' → wpAny (model P w) (A.mark (some (.ref e))) (execs (b₀ :: suite) env) Q E' { s with heap := h' }) (hd : (x == ("__debug__" : Str)) = false := by decide) :
    wpAny (model P w) A (noteFrame (.ref e) env) (fun _ s₂ => wpAny (model P w) A (setFlight (.ref e) none) (fun _ s₃ => wpAny (model P w) A (handleBy (.ref e) env (.ExceptHandler (some (.Name x np)) none (b₀ :: suite) pos :: rest)) Q E s₃) E s₂) E s := by
  obtain ⟨as, B, a0, fl, hid, u⟩ := R
  refine wpAny_looks_onW hfr hf fl fun h1 hh1 u1 => ?_
  refine wpAny_landsW (s := { s with heap := h1 }) hh1 fun h5 fl5 u5 => ?_
  have k5 := hid.kp fl5.1 ((u.trans u1).trans u5)
  obtain ⟨ob, hob, hobc⟩ := fl5.there
  refine wpAny_handleBy_cons (codeAny_handlers_test (load_glS (k5.stays st) (c.kp k5).er hxs g ?_ hd)) (by intro q; cases q)
  obtain ⟨bm, N, nm, qn, bs, hdct, sn, sub, ab, col, dd, k0, k1, k2, k3, k4, mN, hC, hN, hni, TL⟩ := (O.keeps (k5.stays st)).obj
  refine wpAny_excMatches_sub_self hC hob hobc (TL.hasType hbase) (codeAny_handlers_suite ?_)
  refine lands_againW fl5 fun h6 fl6 u6 => ?_
  exact k h6 _ (hid.kp fl6.1 (((u.trans u1).trans u5).trans u6))
end
end Mine
end
section
open PySem.Calls PySem.Spec PySem.SeqAt Builtin Builtin.ObjectAttr
set_option maxRecDepth 100000
namespace Mine
structure El where
  m : Addr
  it : Addr
  l : Addr
  nm : Int
  suc : List Int
  i : Nat
noncomputable def El.fp (e : El) : List Addr := [e.m, e.it]
noncomputable def El.At (S : SS) (e : El) (h : Heap) : Prop := h.get? e.m = some (wrapObj e.it) ∧ h.IsListIter e.it e.l e.i ∧ ∃ p ∈ S.ps, p.l = e.l ∧ p.nd.suc = e.suc
structure CY where
  st : Addr
  its : Addr
  se : Addr
  n2 : Addr
  els : List El
  stk : List Int
  wr : List Addr
  seen : List Int
  n2s : List (Int × Nat)
noncomputable def CY.own (c : CY) : List Addr := c.st :: c.its :: c.se :: c.n2 :: c.els.flatMap El.fp
noncomputable def CY.fp (S : SS) (c : CY) : List Addr := S.fp ++ c.own
noncomputable def KvR (kv : Int × Value) (p : Int × Nat) : Prop := kv.1 = p.1 ∧ ∃ t, kv.2 = .int p.2 t
structure CY.At (w : World) (h₀ : Heap) (S : SS) (c : CY) (h : Heap) : Prop where
  s : S.At w h₀ h
  st : ∃ vs, h.PlainList c.st vs ∧ IntsAre vs.toList c.stk
  its : h.PlainList c.its (c.wr.map Value.ref).toArray
  se : ∃ n, n ≤ c.seen.length ∧ h.SetOf (intKind P w) c.se (fun k => c.seen.contains k) n
  n2 : ∃ kvs, h.DictOf (intKind P w) c.n2 kvs ∧ Paired KvR kvs c.n2s
  els : ∀ e ∈ c.els, e.At S h
  nd : (c.fp S).Nodup
  dead : ∀ a ∈ c.own, h₀.get? a = none

section
variable {w : World} {h₀ : Heap} {k : Nat} {K : Frag} {S : SS} {c : CY} {h h' : Heap}

theorem El.live {e : El} (x : e.At S h) {b : Addr} (hb : b ∈ e.fp) : ∃ o, h.get? b = some o ∧ o.cls ≠ .type "frame" := by
  rcases List.mem_cons.mp hb with rfl | hb
  · exact ⟨_, x.1, by simp [wrapObj]⟩
  · obtain ⟨o, ho, hc, _⟩ := x.2.1
    rw [List.mem_singleton.mp hb]; exact ⟨o, ho, by rw [hc]; decide⟩
theorem El.stay {e : El} (x : e.At S h) (q : ∀ b ∈ e.fp, ∀ o, h.get? b = some o → h'.get? b = some o) : e.At S h' := by
  obtain ⟨o, ho, r⟩ := x.2.1
  exact ⟨q _ (.head _) _ x.1, ⟨o, q _ (.tail _ (.head _)) _ ho, r⟩, x.2.2⟩
theorem setOf_stay {a : Addr} {f : Int → Bool} {n : Nat} (x : h.SetOf (intKind P w) a f n) (q : ∀ o, h.get? a = some o → h'.get? a = some o) : h'.SetOf (intKind P w) a f n :=
  let ⟨o, es, ep, t, e, r⟩ := x; ⟨o, es, ep, t, q _ e, r⟩
theorem dictOf_stay {a : Addr} {kvs : List (Int × Value)} (x : h.DictOf (intKind P w) a kvs) (q : ∀ o, h.get? a = some o → h'.get? a = some o) : h'.DictOf (intKind P w) a kvs :=
  let ⟨o, es, ep, e, r⟩ := x; ⟨o, es, ep, q _ e, r⟩
theorem plain_stay {a : Addr} {vs : Array Value} (x : h.PlainList a vs) (q : ∀ o, h.get? a = some o → h'.get? a = some o) : h'.PlainList a vs := let ⟨n, e⟩ := x; ⟨n, q _ e⟩
theorem CY.sep : Sep (c.fp S) (c.At w h₀ S) := by
  refine ⟨fun h x b hb => ?_, fun h h' x q => ?_⟩
  · rcases List.mem_append.mp hb with hb | hb
    · exact SS.sep.live h x.s b hb
    rcases List.mem_cons.mp hb with rfl | hb
    · obtain ⟨vs, ⟨n, e⟩, _⟩ := x.st; exact ⟨_, e, by simp⟩
    rcases List.mem_cons.mp hb with rfl | hb
    · obtain ⟨n, e⟩ := x.its; exact ⟨_, e, by simp⟩
    rcases List.mem_cons.mp hb with rfl | hb
    · obtain ⟨_, _, o, es, ep, t, e, hx, _⟩ := x.se; exact ⟨_, e, by rw [hx.1]; decide⟩
    rcases List.mem_cons.mp hb with rfl | hb
    · obtain ⟨_, ⟨o, es, ep, e, hx, _⟩, _⟩ := x.n2; exact ⟨_, e, by rw [hx.1]; decide⟩
    · obtain ⟨e, he, hb⟩ := List.mem_flatMap.mp hb
      exact El.live (x.els e he) hb
  · have m : ∀ b ∈ c.own, ∀ o, h.get? b = some o → h'.get? b = some o := fun b hb => q b (List.mem_append_right _ hb)
    refine ⟨SS.sep.loc h h' x.s fun b hb => q b (List.mem_append_left _ hb), ?_, ?_, ?_, ?_, fun e he => ?_, x.nd, x.dead⟩
    · obtain ⟨vs, p, r⟩ := x.st; exact ⟨vs, plain_stay p (m _ (.head _)), r⟩
    · exact plain_stay x.its (m _ (.tail _ (.head _)))
    · obtain ⟨n, hn, p⟩ := x.se; exact ⟨n, hn, setOf_stay p (m _ (.tail _ (.tail _ (.head _))))⟩
    · obtain ⟨kvs, p, r⟩ := x.n2; exact ⟨kvs, dictOf_stay p (m _ (.tail _ (.tail _ (.tail _ (.head _))))), r⟩
    · exact El.stay (x.els e he) fun b hb => m b (.tail _ (.tail _ (.tail _ (.tail _ (List.mem_flatMap.mpr ⟨e, he, hb⟩)))))

structure CY.Ap (S : SS) (c : CY) : Prop where
  sS : ∀ a ∈ c.own, a ∉ S.fp
  st : c.st ≠ c.its ∧ c.st ≠ c.se ∧ c.st ≠ c.n2
  its : c.its ≠ c.se ∧ c.its ≠ c.n2
  se : c.se ≠ c.n2
  el : ∀ e ∈ c.els, c.st ∉ e.fp ∧ c.its ∉ e.fp ∧ c.se ∉ e.fp ∧ c.n2 ∉ e.fp
  els : (c.els.flatMap El.fp).Nodup
theorem CY.At.ap (x : c.At w h₀ S h) : c.Ap S := by
  have nd := x.nd
  unfold CY.fp at nd
  obtain ⟨_, n2, n3⟩ := List.nodup_append.mp nd
  unfold CY.own at n2
  obtain ⟨a1, n2⟩ := List.nodup_cons.mp n2
  obtain ⟨a2, n2⟩ := List.nodup_cons.mp n2
  obtain ⟨a3, n2⟩ := List.nodup_cons.mp n2
  obtain ⟨a4, n2⟩ := List.nodup_cons.mp n2
  have fm : ∀ e ∈ c.els, ∀ b ∈ e.fp, b ∈ c.els.flatMap El.fp := fun e he b hb => List.mem_flatMap.mpr ⟨e, he, hb⟩
  refine ⟨fun a ha q => n3 a q a ha rfl, ⟨fun q => a1 (by rw [q]; exact .head _), fun q => a1 (by rw [q]; exact .tail _ (.head _)), fun q => a1 (by rw [q]; exact .tail _ (.tail _ (.head _)))⟩, ⟨fun q => a2 (by rw [q]; exact .head _), fun q => a2 (by rw [q]; exact .tail _ (.head _))⟩, fun q => a3 (by rw [q]; exact .head _), fun e he => ⟨fun q => a1 (.tail _ (.tail _ (.tail _ (fm e he _ q)))), fun q => a2 (.tail _ (.tail _ (fm e he _ q))), fun q => a3 (.tail _ (fm e he _ q)), fun q => a4 (fm e he _ q)⟩, n2⟩

theorem CY.At.rest (x : c.At w h₀ S h) {a : Addr} (ha : a ∈ c.own) (q : ∀ b, b ≠ a → ∀ o, h.get? b = some o → h'.get? b = some o) :
    S.At w h₀ h' ∧ (a ≠ c.st → ∃ vs, h'.PlainList c.st vs ∧ IntsAre vs.toList c.stk) ∧ (a ≠ c.its → h'.PlainList c.its (c.wr.map Value.ref).toArray) ∧
      (a ≠ c.se → ∃ n, n ≤ c.seen.length ∧ h'.SetOf (intKind P w) c.se (fun k => c.seen.contains k) n) ∧ (a ≠ c.n2 → ∃ kvs, h'.DictOf (intKind P w) c.n2 kvs ∧ Paired KvR kvs c.n2s) ∧
      (∀ e ∈ c.els, a ∉ e.fp → e.At S h') := by
  have ap := x.ap
  refine ⟨SS.sep.loc h h' x.s fun b hb => q b fun z => ap.sS a ha (z ▸ hb), fun hn => ?_, fun hn => ?_, fun hn => ?_, fun hn => ?_, fun e he hn => ?_⟩
  · obtain ⟨vs, p, r⟩ := x.st; exact ⟨vs, plain_stay p (q _ (Ne.symm hn)), r⟩
  · exact plain_stay x.its (q _ (Ne.symm hn))
  · obtain ⟨n, hn', p⟩ := x.se; exact ⟨n, hn', setOf_stay p (q _ (Ne.symm hn))⟩
  · obtain ⟨kvs, p, r⟩ := x.n2; exact ⟨kvs, dictOf_stay p (q _ (Ne.symm hn)), r⟩
  · exact El.stay (x.els e he) fun b hb => q b fun z => hn (z ▸ hb)
end
end Mine
end
section
open PySem.Calls PySem.Spec PySem.SeqAt Builtin Builtin.ObjectAttr
set_option maxRecDepth 100000
namespace Mine
section
variable {w : World} {h₀ : Heap} {k : Nat} {K : Frag} {S : SS} {c c' : CY} {X : List Addr} {env : Env} {sc : Scope} {δ : Str → Option PyData} {ν : Str → Option Value} {A : Around} {E : Value → Shared → Prop} {s : Shared} {N : Nat}

noncomputable abbrev CyX (w : World) (h₀ : Heap) (S : SS) (c : CY) (X : List Addr) (h : Heap) (env : Env) (sc : Scope) (δ : Str → Option PyData) (ν : Str → Option Value) : Prop := Cx X (c.fp S) h env sc δ ν (c.At w h₀ S)

theorem cy_turn {h h' : Heap} {a : Addr} (C : CyX w h₀ S c X h env sc δ ν) (ha : a ∈ c.own) (hk : KpX [a] N h h') (hF : ∀ b ∈ c'.own, b ∈ c.own ∨ h.get? b = none) (x' : c'.At w h₀ S h') : CyX w h₀ S c' X h' env sc δ ν :=
  C.turn (hk.mono fun b hb => .inl (by rw [List.mem_singleton.mp hb]; exact List.mem_append_right _ ha)) (fun b hb => (List.mem_append.mp hb).elim (fun q => .inl (List.mem_append_left _ q)) fun q => (hF b q).imp (List.mem_append_right _) id) CY.sep x'

theorem list_kp {a : Addr} {h h' : Heap} {vs vs' : Array Value} (p : h.PlainList a vs) (p' : h'.PlainList a vs') (hs : Heap.SameBut a h h') : KpX [a] N h h' := by
  obtain ⟨n, e⟩ := p
  obtain ⟨n', e'⟩ := p'
  exact .sameObj hs (.head _) e' e rfl (fun _ q => by cases q)
theorem dict_kp {a : Addr} {h h' : Heap} {vs vs' : List (Int × Value)} (p : h.DictOf (intKind P w) a vs) (p' : h'.DictOf (intKind P w) a vs') (hs : Heap.SameBut a h h') : KpX [a] N h h' := by
  obtain ⟨o, es, ep, e, hx, _⟩ := p
  obtain ⟨o', es', ep', e', hx', hd', _⟩ := p'
  exact .sameObj hs (.head _) e' e (by rw [hx.1, hx'.1]) (fun _ q => by rw [hd'] at q; cases q)
theorem set_kp {a : Addr} {h h' : Heap} {f f' : Int → Bool} {n n' : Nat} (p : h.SetOf (intKind P w) a f n) (p' : h'.SetOf (intKind P w) a f' n') (hs : Heap.SameBut a h h') : KpX [a] N h h' := by
  obtain ⟨o, es, ep, t, e, hx, _⟩ := p
  obtain ⟨o', es', ep', t', e', hx', hd', _⟩ := p'
  exact .sameObj hs (.head _) e' e (by rw [hx.1, hx'.1]) (fun _ q => by rw [hd'] at q; cases q)

theorem pop_arr {vs : Array Value} {l : List Value} {y : Value} (h : vs.toList = l ++ [y]) : vs[vs.size - 1]? = some y ∧ (vs.eraseIdxIfInBounds (vs.size - 1)).toList = l := by
  have hz : vs.size = l.length + 1 := by rw [← Array.length_toList, h]; simp
  have e1 : vs.size - 1 = l.length := by omega
  refine ⟨?_, ?_⟩
  · rw [e1, ← Array.getElem?_toList, h]; simp
  · rw [e1]
    rw [Array.toList_eraseIdxIfInBounds, h, List.eraseIdx_append_of_length_le (Nat.le_refl _)]
    simp
theorem ints_cons_inv {vs : List Value} {n : Int} {l : List Int} (r : IntsAre vs (n :: l)) : ∃ t ws, vs = .int n t :: ws ∧ IntsAre ws l := by
  cases r with
  | cons _ t r => exact ⟨t, _, rfl, r⟩
theorem ints_nil_inv {vs : List Value} (r : IntsAre vs []) : vs = [] := by cases r; rfl
theorem ints_snoc : ∀ {l : List Int} {vs : List Value} {x : Int}, IntsAre vs (l ++ [x]) → ∃ ws t, vs = ws ++ [.int x t] ∧ IntsAre ws l
  | [], _, x, r => by
    obtain ⟨t, ws, e, r'⟩ := ints_cons_inv r
    exact ⟨[], t, by rw [e, ints_nil_inv r']; rfl, .nil⟩
  | y :: l, _, x, r => by
    obtain ⟨t, vs, e0, r⟩ := ints_cons_inv r
    obtain ⟨ws, u, e, r'⟩ := ints_snoc r
    exact ⟨.int y t :: ws, u, by rw [e0, e]; rfl, .cons y t r'⟩

theorem op_pop_st {xp apos pos : Pos} {Q : Value → Shared → Prop} {l : List Int} {x : Int} (hν : ν "stack" = some (.ref c.st)) (hst : c.stk = l ++ [x]) (hsz : c.stk.length ≤ 900) (C : CyX w h₀ S c X s.heap env sc δ ν) (hline : (apos.endLine == pos.line) = true)
    (h : ∀ t h1, CyX w h₀ S { c with stk := l } X h1 env sc δ ν → KpX [c.st] N s.heap h1 → Q (.int x t) { s with heap := h1 }) :
    wpAny (model P w) A (eval (.Call (.Attribute (.Name "stack" xp) "pop" apos) [] [] pos) env) Q E s := by
  refine wpAny_Call_method0_late rfl hline (name_cx hν C ?_)
  obtain ⟨vs, p, r⟩ := C.hp.st
  have r' := r
  rw [hst] at r'
  obtain ⟨ws, t, e, rw'⟩ := ints_snoc r'
  obtain ⟨e1, e2⟩ := pop_arr e
  obtain ⟨n, ho⟩ := id p
  have hvz : vs.size ≤ sizeLine := by rw [← Array.length_toList, ints_length r, szl]; omega
  refine ⟨"list", "list.pop", PySem.F.plainAttrs_list, PySem.F.slot_list_pop, PySem.F.type_list_pop, ⟨_, ho, rfl⟩, (fun a e => by cases e; exact ⟨_, ho, rfl⟩), PySem.P.pop_list (n := n) ho e1 ?_ hvz⟩
  have L := PySem.IsL.update (n := n) ho fun xs => xs.eraseIdxIfInBounds (vs.size - 1)
  have hs : Heap.SameBut c.st s.heap (s.heap.update c.st (Obj.mapSeq fun xs => xs.eraseIdxIfInBounds (vs.size - 1))) := Heap.SameBut.update ..
  generalize s.heap.update c.st (Obj.mapSeq fun xs => xs.eraseIdxIfInBounds (vs.size - 1)) = h1 at L hs
  have p1 : h1.PlainList c.st (vs.eraseIdxIfInBounds (vs.size - 1)) := ⟨_, L⟩
  have kk : KpX [c.st] N s.heap h1 := list_kp p p1 hs
  obtain ⟨q1, q2, q3, q4, q5, q6⟩ := C.hp.rest (.head _) (fun b hb o e => (hs.2 b hb).trans e)
  have ap := C.hp.ap
  refine h t h1 (cy_turn C (.head _) kk (fun b hb => .inl hb) ⟨q1, ⟨_, p1, by rw [e2]; exact rw'⟩, q3 ap.st.1, q4 ap.st.2.1, q5 ap.st.2.2, fun e he => q6 e he (ap.el e he).1, C.hp.nd, C.hp.dead⟩) kk

theorem op_pop_its {xp apos pos : Pos} {Q : Value → Shared → Prop} {l : List Addr} {m : Addr} (hν : ν "itstack" = some (.ref c.its)) (hw : c.wr = l ++ [m]) (hsz : c.wr.length ≤ 900) (C : CyX w h₀ S c X s.heap env sc δ ν) (hline : (apos.endLine == pos.line) = true)
    (h : ∀ h1, CyX w h₀ S { c with wr := l } X h1 env sc δ ν → KpX [c.its] N s.heap h1 → Q (.ref m) { s with heap := h1 }) :
    wpAny (model P w) A (eval (.Call (.Attribute (.Name "itstack" xp) "pop" apos) [] [] pos) env) Q E s := by
  refine wpAny_Call_method0_late rfl hline (name_cx hν C ?_)
  have p := C.hp.its
  have e : (c.wr.map Value.ref).toArray.toList = l.map Value.ref ++ [.ref m] := by rw [hw]; simp
  obtain ⟨e1, e2⟩ := pop_arr e
  obtain ⟨n, ho⟩ := id p
  have hvz : (c.wr.map Value.ref).toArray.size ≤ sizeLine := by rw [szl]; simp; omega
  refine ⟨"list", "list.pop", PySem.F.plainAttrs_list, PySem.F.slot_list_pop, PySem.F.type_list_pop, ⟨_, ho, rfl⟩, (fun a e => by cases e; exact ⟨_, ho, rfl⟩), PySem.P.pop_list (n := n) ho e1 ?_ hvz⟩
  generalize hV : (c.wr.map Value.ref).toArray = vs at *
  have L := PySem.IsL.update (n := n) ho fun xs => xs.eraseIdxIfInBounds (vs.size - 1)
  have hs : Heap.SameBut c.its s.heap (s.heap.update c.its (Obj.mapSeq fun xs => xs.eraseIdxIfInBounds (vs.size - 1))) := Heap.SameBut.update ..
  generalize s.heap.update c.its (Obj.mapSeq fun xs => xs.eraseIdxIfInBounds (vs.size - 1)) = h1 at L hs
  have p1 : h1.PlainList c.its (vs.eraseIdxIfInBounds (vs.size - 1)) := ⟨_, L⟩
  have kk : KpX [c.its] N s.heap h1 := list_kp p p1 hs
  have ha : c.its ∈ c.own := .tail _ (.head _)
  obtain ⟨q1, q2, q3, q4, q5, q6⟩ := C.hp.rest ha (fun b hb o e => (hs.2 b hb).trans e)
  have ap := C.hp.ap
  refine h h1 (cy_turn C ha kk (fun b hb => .inl hb) ⟨q1, q2 (Ne.symm ap.st.1), ?_, q4 ap.its.1, q5 ap.its.2, fun e he => q6 e he (ap.el e he).2.1, C.hp.nd, C.hp.dead⟩) kk
  have : (l.map Value.ref).toArray = vs.eraseIdxIfInBounds (vs.size - 1) := by apply Array.ext'; rw [e2]
  show h1.PlainList c.its (l.map Value.ref).toArray
  rw [this]; exact p1

theorem kv_find {kvs : List (Int × Value)} {n2s : List (Int × Nat)} (r : Paired KvR kvs n2s) (x : Int) : (valueAt kvs x).isSome = n2s.any (·.1 == x) := by
  unfold valueAt
  rw [Option.isSome_map]
  induction r with
  | nil => rfl
  | @cons kv p kvs n2s h _ ih =>
    rw [List.find?_cons, List.any_cons, h.1]
    by_cases q : p.1 = x
    · simp [q]
    · have e1 : decide (p.1 = x) = false := decide_eq_false q
      have e2 : (p.1 == x) = false := by simpa using q
      rw [e1, e2]; simpa using ih
theorem kv_without {kvs : List (Int × Value)} {n2s : List (Int × Nat)} (r : Paired KvR kvs n2s) (x : Int) : Paired KvR (without kvs x) (n2s.filter (·.1 != x)) := by
  unfold without
  induction r with
  | nil => exact .nil
  | @cons kv p kvs n2s h _ ih =>
    rw [List.filter_cons, List.filter_cons, h.1]
    by_cases q : p.1 = x
    · simpa [q] using ih
    · have e1 : decide (p.1 ≠ x) = true := decide_eq_true q
      have e2 : (p.1 != x) = true := by simpa using q
      rw [if_pos e1, if_pos e2]; exact .cons h ih

theorem op_del {Q : Unit → Shared → Prop} {x : Int} {t : Tok} (hin : c.n2s.any (·.1 == x) = true) (hsz : c.n2s.length ≤ 900) (C : CyX w h₀ S c X s.heap env sc δ ν)
    (h : ∀ h1 t1, CyX w h₀ S { c with n2s := c.n2s.filter (·.1 != x) } X h1 env sc δ ν → KpX [c.n2] N s.heap h1 → Q () { s with heap := h1, toks := t1 }) : wpAny (model P w) A (delItem (.ref c.n2) (.int x t)) Q E s := by
  obtain ⟨kvs, hD, r⟩ := C.hp.n2
  have hkey := intKind_is P w x t
  unfold delItem
  try with_reducible refine wpAny_holding ?_
  refine wpAny_bind (wpAny_sequenceKey hD.typeIs (by decide) ?_)
  refine wpAny_bind (wpAny_callSpecial?_slot (name := Str.ofString "__delitem__") hD.typeIs PySem.F.slot_dict_delitem
    (call_meetsIn PySem.F.slot_dict_delitem hD.typeIs PySem.F.entry_dict_delitem (PySem.F.args_dict_delitem_2 _ _) (meets_dict_delitem_pairs (intKind P w) c.n2 hkey) ⟨kvs, hD, (by rw [r.length, szl]; omega), by rw [kv_find r]; exact hin, fun h1 p1 hs => ?_⟩))
  have kk : KpX [c.n2] N s.heap h1 := dict_kp hD p1 hs
  have ha : c.n2 ∈ c.own := .tail _ (.tail _ (.tail _ (.head _)))
  obtain ⟨q1, q2, q3, q4, q5, q6⟩ := C.hp.rest ha (fun b hb o e => (hs.2 b hb).trans e)
  have ap := C.hp.ap
  exact wpAny_pure (h h1 _ (cy_turn C ha kk (fun b hb => .inl hb) ⟨q1, q2 (Ne.symm ap.st.2.2), q3 (Ne.symm ap.its.2), q4 (Ne.symm ap.se), ⟨_, p1, kv_without r x⟩, fun e he => q6 e he (ap.el e he).2.2.2, C.hp.nd, C.hp.dead⟩) kk)
end
end Mine
end
section
open PySem.Calls PySem.Spec PySem.SeqAt Builtin Builtin.ObjectAttr
set_option maxRecDepth 100000
namespace Mine
section
variable {w : World} {h₀ : Heap} {k : Nat} {K : Frag} {S : SS} {c c' : CY} {X : List Addr} {env : Env} {sc : Scope} {δ : Str → Option PyData} {ν : Str → Option Value} {A : Around} {E : Value → Shared → Prop} {s : Shared} {N : Nat}

theorem Attribute_any {value : Expr} {attr : Str} {pos : Pos} {Q : Value → Shared → Prop} (h : wpAny (model P w) A (eval value env) (fun o s₁ => wpAny (model P w) A (getAttr o attr true) Q E s₁) E s)
    (hb : attributeBase value attr env (eval value env) = eval value env := by rfl) : wpAny (model P w) A (eval (.Attribute value attr pos) env) Q E s := by
  rw [arm_eval_Attribute, hb]
  exact wpAny_bind (wpAny_mono h (fun o s₁ h₁ => wpAny_bind (wpAny_standAt (wpAny_bind (wpAny_holding (wpAny_mono h₁ (fun r s₂ h₂ => wpAny_bind (wpAny_letTemporaryGo (wpAny_pure h₂))) fun _ _ y => y))))) fun _ _ y => y)

theorem op_in_seen {Q : Value → Shared → Prop} {x : Int} {t : Tok} (C : CyX w h₀ S c X s.heap env sc δ ν) (h : Q (.bool (c.seen.contains x)) { s with toks := s.toks + 1 }) : wpAny (model P w) A (compareOp .In (.int x t) (.ref c.se)) Q E s := by
  obtain ⟨n, hn, p⟩ := C.hp.se
  exact wpAny_inSet_of (intKind_is P w x t) rfl p h
theorem n2_ne_sys (B : SK K h₀) {h : Heap} (x : c.At w h₀ S h) : (c.n2 == sysModules) = false := by
  have e := x.dead c.n2 (.tail _ (.tail _ (.tail _ (.head _))))
  obtain ⟨o, e'⟩ := B.sysm
  simp only [beq_eq_false_iff_ne, ne_eq]
  intro q
  rw [q, e'] at e; cases e
theorem op_in_n2 (B : SK K h₀) {Q : Value → Shared → Prop} {x : Int} {t : Tok} (C : CyX w h₀ S c X s.heap env sc δ ν) (h : Q (.bool (c.n2s.any (·.1 == x))) { s with toks := s.toks + 1 }) : wpAny (model P w) A (compareOp .In (.int x t) (.ref c.n2)) Q E s := by
  obtain ⟨kvs, p, r⟩ := C.hp.n2
  exact wpAny_in_of (intKind_is P w x t) (n2_ne_sys B C.hp) p.mapOf (by rw [kv_find r]; exact h)

theorem op_seen {xp yp apos pos spos : Pos} {Q : Flow → Shared → Prop} {x : Int} {t : Tok} (hν : ν "seen" = some (.ref c.se)) (hy : ν "node" = some (.int x t)) (hx : c.seen.contains x = false) (hsz : c.seen.length ≤ 900) (C : CyX w h₀ S c X s.heap env sc δ ν) (hline : (apos.endLine == pos.line) = true)
    (h : ∀ h1 t1, CyX w h₀ S { c with seen := c.seen ++ [x] } X h1 env sc δ ν → KpX [c.se] N s.heap h1 → Q .next { s with heap := h1, toks := t1 })
    (htrees : backTo pos (starEach [.Name "node" yp] env) = [(false, eval (.Name "node" yp) env)] := by rfl) (hsw : swapsWith (.Call (.Attribute (.Name "seen" xp) "add" apos) [.Name "node" yp] [] pos) none spos.line env = pure false := by rfl) :
    wpAny (model P w) A (exec (.Expr (.Call (.Attribute (.Name "seen" xp) "add" apos) [.Name "node" yp] [] pos) spos) env) Q E s := by
  refine wpAny_Expr_any ?_ (by unfold interactive; rw [C.er.kind]; rfl) hsw
  refine wpAny_Call_method1_late rfl hline htrees (name_cx hν C ?_)
  obtain ⟨n, hn, p⟩ := C.hp.se
  refine ⟨"set", "set.add", PySem.F.plainAttrs_set, PySem.F.slot_set_add, PySem.F.type_set_add, p.typeIs, p.noDict, ?_⟩
  refine Calls.callWith_builtin rfl (Calls.evalArgs_plain (Calls.spliced_cons (name_cx hy C (Calls.spliced_nil ?_))))
  refine call_set_add (intKind_is P w x t) rfl p (by unfold scanBound; omega) fun h1 hs p1 => ?_
  have e1 : (fun k' => c.seen.contains k' || decide (k' = x)) = fun k' => (c.seen ++ [x]).contains k' := by
    funext k'
    simp [List.contains_eq_mem, List.mem_append]
  rw [hx] at p1
  have kk : KpX [c.se] N s.heap h1 := set_kp p p1 hs
  have ha : c.se ∈ c.own := .tail _ (.tail _ (.head _))
  obtain ⟨q1, q2, q3, q4, q5, q6⟩ := C.hp.rest ha (fun b hb o e => (hs.2 b hb).trans e)
  have ap := C.hp.ap
  refine h h1 _ (cy_turn C ha kk (fun b hb => .inl hb) ⟨q1, q2 (Ne.symm ap.st.2.1), q3 (Ne.symm ap.its.1), ⟨n + 1, by simp; exact hn, ?_⟩, q5 ap.se, fun e he => q6 e he (ap.el e he).2.2.1, C.hp.nd, C.hp.dead⟩) kk
  show h1.SetOf (intKind P w) c.se (fun k => (c.seen ++ [x]).contains k) (n + 1)
  rw [← e1]; simpa using p1

theorem op_push {xp yp apos pos spos : Pos} {Q : Flow → Shared → Prop} {x : Int} {t : Tok} (hν : ν "stack" = some (.ref c.st)) (hy : ν "node" = some (.int x t)) (hsz : c.stk.length ≤ 900) (C : CyX w h₀ S c X s.heap env sc δ ν) (hline : (apos.endLine == pos.line) = true)
    (h : ∀ h1, CyX w h₀ S { c with stk := c.stk ++ [x] } X h1 env sc δ ν → KpX [c.st] N s.heap h1 → Q .next { s with heap := h1 })
    (hbase : attributeBase (.Name "stack" xp) "append" env (eval (.Name "stack" xp) env) = eval (.Name "stack" xp) env := by rfl)
    (htrees : backTo pos (starEach [.Name "node" yp] env) = [(false, eval (.Name "node" yp) env)] := by rfl) (hsw : swapsWith (.Call (.Attribute (.Name "stack" xp) "append" apos) [.Name "node" yp] [] pos) none spos.line env = pure false := by rfl) :
    wpAny (model P w) A (exec (.Expr (.Call (.Attribute (.Name "stack" xp) "append" apos) [.Name "node" yp] [] pos) spos) env) Q E s := by
  refine wpAny_Expr_any ?_ (by unfold interactive; rw [C.er.kind]; rfl) hsw
  refine wpAny_Call_append hbase (by rw [htrees]; rfl) hline htrees (name_cx hν C ?_)
  obtain ⟨vs, ⟨n, p⟩, r⟩ := C.hp.st
  refine ⟨c.st, vs, rfl, ⟨_, n, p, rfl, rfl, rfl⟩, name_cx hy C ?_⟩
  refine wpAny_list_append_plain (hsz := by rw [szl, ← Array.length_toList, ints_length r]; omega) ⟨n, p⟩ fun h1 p1 hs => ?_
  have kk : KpX [c.st] N s.heap h1 := list_kp ⟨n, p⟩ p1 hs
  obtain ⟨q1, q2, q3, q4, q5, q6⟩ := C.hp.rest (.head _) (fun b hb o e => (hs.2 b hb).trans e)
  have ap := C.hp.ap
  exact h h1 (cy_turn C (.head _) kk (fun b hb => .inl hb) ⟨q1, ⟨_, p1, by rw [Array.toList_push]; exact ints_app r (.cons x t .nil)⟩, q3 ap.st.1, q4 ap.st.2.1, q5 ap.st.2.2, fun e he => q6 e he (ap.el e he).1, C.hp.nd, C.hp.dead⟩) kk

theorem kv_stored {kvs : List (Int × Value)} {n2s : List (Int × Nat)} (r : Paired KvR kvs n2s) {x : Int} {n : Nat} {t : Tok} (hno : n2s.any (·.1 == x) = false) : Paired KvR (stored kvs x (.int n t)) (n2s ++ [(x, n)]) := by
  rw [stored_new (by have := kv_find r x; rw [hno] at this; simpa using this)]
  exact Paired.append r (.cons ⟨rfl, t, rfl⟩ .nil)

theorem op_n2 (B0 : Base h₀) {np xp yp sp lp pos spos : Pos} {Q : Flow → Shared → Prop} {x : Int} {t : Tok} (hν : ν "stack" = some (.ref c.st)) (hn2 : ν "node2stacki" = some (.ref c.n2)) (hy : ν "node" = some (.int x t)) (hlen : sc.names.lookup ("len" : Str) = some .globalImplicit) (hno : c.n2s.any (·.1 == x) = false) (hsz : c.stk.length ≤ 900) (hsz2 : c.n2s.length ≤ 900)
    (ok : Ok h₀ k A s.heap) (C : CyX w h₀ S c X s.heap env sc δ ν)
    (h : ∀ h1 t1, CyX w h₀ S { c with n2s := c.n2s ++ [(x, c.stk.length)] } X h1 env sc δ ν → KpX [c.n2] N s.heap h1 → Q .next { s with heap := h1, toks := t1 })
    (hs : swapsWith (.Call (.Name "len" lp) [.Name "stack" sp] [] pos) (some (.Subscript (.Name "node2stacki" np) (.Name "node" xp) yp)) spos.line env = pure false := by rfl) :
    wpAny (model P w) A (exec (.Assign [.Subscript (.Name "node2stacki" np) (.Name "node" xp) yp] (.Call (.Name "len" lp) [.Name "stack" sp] [] pos) spos) env) Q E s := by
  refine wpAny_Assign_Subscript (Call_Name1 (load_gl ok C.er hlen B0.len (callWith_builtin1 (name_cx hν C ?_)))) hs
  obtain ⟨vs, ⟨n, p⟩, r⟩ := C.hp.st
  have hz : vs.size = c.stk.length := by rw [← Array.length_toList, ints_length r]
  refine call_len_list (items := vs) ⟨_, p, rfl, n, rfl⟩ (by omega) ?_
  refine name_cx (s := { s with toks := s.toks + 1 + 1 }) hn2 C ?_
  refine name_cx (s := { s with toks := s.toks + 1 + 1 }) hy C ?_
  obtain ⟨kvs, hD, rk⟩ := C.hp.n2
  rw [hz]
  refine wpAny_setItem_pairs (knd := intKind P w) (s := { s with toks := s.toks + 1 + 1 }) (intKind_is P w x t) hD (fun h1 p1 hs => ?_) (by rw [rk.length, szl]; omega)
  have kk : KpX [c.n2] N s.heap h1 := dict_kp hD p1 hs
  have ha : c.n2 ∈ c.own := .tail _ (.tail _ (.tail _ (.head _)))
  obtain ⟨q1, q2, q3, q4, q5, q6⟩ := C.hp.rest ha (fun b hb o e => (hs.2 b hb).trans e)
  have ap := C.hp.ap
  exact h h1 _ (cy_turn C ha kk (fun b hb => .inl hb) ⟨q1, q2 (Ne.symm ap.st.2.2), q3 (Ne.symm ap.its.2), q4 (Ne.symm ap.se), ⟨_, p1, kv_stored rk hno⟩, fun e he => q6 e he (ap.el e he).2.2.2, C.hp.nd, C.hp.dead⟩) kk

theorem op_truth {xp : Pos} {Q : Bool → Shared → Prop} (hν : ν "stack" = some (.ref c.st)) (hsz : c.stk.length ≤ 900) (C : CyX w h₀ S c X s.heap env sc δ ν) (h : Q (!c.stk.isEmpty) { s with toks := s.toks + 1 + 1 }) :
    wpAny (model P w) A (isTrue (.Name "stack" xp) env (eval (.Name "stack" xp) env)) Q E s := by
  refine wpAny_isTrue_value (name_cx hν C ?_) rfl
  obtain ⟨vs, ⟨n, p⟩, r⟩ := C.hp.st
  have hz : vs.size = c.stk.length := by rw [← Array.length_toList, ints_length r]
  refine wpAny_truthy_list (items := vs) ⟨_, p, rfl, n, rfl⟩ (by omega) ?_
  have : vs.isEmpty = c.stk.isEmpty := by
    cases hc : c.stk with
    | nil => rw [hc] at hz; simpa using hz
    | cons a b => rw [hc] at hz; simp at hz; simp [Array.isEmpty]; intro q; rw [q] at hz; simp at hz
  rw [this]; exact h

theorem op_top {xp ip up pos : Pos} {n0 : Nat} {Q : Value → Shared → Prop} {l : List Addr} {m : Addr} (hν : ν "itstack" = some (.ref c.its)) (hw : c.wr = l ++ [m]) (hsz : c.wr.length ≤ 900) (ok : Ok h₀ k A s.heap) (C : CyX w h₀ S c X s.heap env sc δ ν)
    (h : ∀ h1 t1, Ok h₀ k A h1 → CyX w h₀ S c X h1 env sc δ ν → Kp h₀.objs.size s.heap h1 → Q (.ref m) { s with heap := h1, toks := t1 })
    (hs : ∀ o j, subscripted (.UnaryOp .USub (.Constant (.int 1) n0 ip) up) false o j = operate [o, j] (getItem o j) := by intro _ _; with_unfolding_all rfl) :
    wpAny (model P w) A (eval (.Subscript (.Name "itstack" xp) (.UnaryOp .USub (.Constant (.int 1) n0 ip) up) pos) env) Q E s := by
  refine Subscript_ (name_cx hν C (wpAny_UnaryOp (EvE.cx (d := .int 1) ev_int ok C fun v h1 t1 r1 ok1 C1 k1 => ?_)))
  obtain ⟨t, rfl⟩ := r1.int_inv
  refine PyProof.Rows.neg_int ?_
  obtain ⟨n, p⟩ := C1.hp.its
  have hz : (c.wr.map Value.ref).toArray.size = l.length + 1 := by rw [hw]; simp
  refine tail_any (s := { s with heap := h1, toks := t1 + 1 }) (Heap.IsList.typeIs (s := { s with heap := h1, toks := t1 + 1 }) ⟨_, p, rfl, n, rfl⟩) slot_list_getitem.lookup (wpAny_getItem_list_neg (s := { s with heap := h1, toks := t1 + 1 }) (items := (c.wr.map Value.ref).toArray) (x := .ref m) ⟨_, p, rfl, n, rfl⟩ (by decide) (by rw [hz]; omega) (by decide) ?_ (h h1 (t1 + 1) ok1 C1 k1)) (hs _ _)
  have e1 : ((-1 : Int) + ((c.wr.map Value.ref).toArray.size : Nat)).toNat = l.length := by rw [hz]; omega
  rw [e1, hw]; simp

theorem op_it (B : SK K h₀) (G : SG h₀) {xp np yp ip sp p1 p2 p3 apos pos spos : Pos} {Q : Flow → Shared → Prop} {x : Int} {t : Tok} {p : NIa} (hν : ν "itstack" = some (.ref c.its)) (hn2i : ν "n2i" = some (.ref S.d)) (hy : ν "node" = some (.int x t)) (hf : (S.ps.find? fun p => p.nd.name == x) = some p) (hit : sc.names.lookup ("iter" : Str) = some .globalImplicit) (hsz : c.wr.length ≤ 900)
    (ok : Ok h₀ k A s.heap) (C : CyX w h₀ S c X s.heap env sc δ ν) (hline : (apos.endLine == pos.line) = true)
    (h : ∀ m it h1 t1, CyX w h₀ S { c with wr := c.wr ++ [m], els := c.els ++ [⟨m, it, p.l, x, p.nd.suc, 0⟩] } X h1 env sc δ ν → (∀ a ∈ ([m, it] : List Addr), s.heap.get? a = none) → KpX [c.its] h₀.objs.size s.heap h1 → Q .next { s with heap := h1, toks := t1 })
    (hbase : attributeBase (.Name "itstack" xp) "append" env (eval (.Name "itstack" xp) env) = eval (.Name "itstack" xp) env := by rfl)
    (htrees : backTo pos (starEach [.Attribute (.Call (.Name "iter" ip) [.Attribute (.Subscript (.Name "n2i" np) (.Name "node" yp) sp) "successors" p1] [] p2) "__next__" p3] env) = [(false, eval (.Attribute (.Call (.Name "iter" ip) [.Attribute (.Subscript (.Name "n2i" np) (.Name "node" yp) sp) "successors" p1] [] p2) "__next__" p3) env)] := by rfl)
    (hsw : swapsWith (.Call (.Attribute (.Name "itstack" xp) "append" apos) [.Attribute (.Call (.Name "iter" ip) [.Attribute (.Subscript (.Name "n2i" np) (.Name "node" yp) sp) "successors" p1] [] p2) "__next__" p3] [] pos) none spos.line env = pure false := by rfl) :
    wpAny (model P w) A (exec (.Expr (.Call (.Attribute (.Name "itstack" xp) "append" apos) [.Attribute (.Call (.Name "iter" ip) [.Attribute (.Subscript (.Name "n2i" np) (.Name "node" yp) sp) "successors" p1] [] p2) "__next__" p3] [] pos) spos) env) Q E s := by
  have hp : p ∈ S.ps := List.mem_of_find?_eq_some hf
  refine wpAny_Expr_any ?_ (by unfold interactive; rw [C.er.kind]; rfl) hsw
  refine wpAny_Call_append hbase (by rw [htrees]; rfl) hline htrees (name_cx hν C ?_)
  obtain ⟨n, pl⟩ := C.hp.its
  have hvz : (c.wr.map Value.ref).toArray.size ≤ sizeLine := by rw [szl]; simp; omega
  refine ⟨c.its, _, rfl, ⟨_, n, pl, rfl, rfl, rfl⟩, ?_⟩
  refine Attribute_any (Call_Name1 (load_gl ok C.er hit G.iter (callWith_builtin1 (Attribute_any (wpAny_Subscript_Name_late (name_cx hn2i C (name_cx hy C ?_)))))))
  refine ⟨"dict", _, slot_dict_getitem.lookup, C.hp.s.d.typeIs, wpAny_getItem_of (knd := intKind P w) (intKind_is P w x t) C.hp.s.d.mapOf (v := .ref p.i) (by rw [valueAt_kvs, hf]; rfl) ?_⟩
  obtain ⟨t1', t2, vs, ni, ⟨ml, l⟩, hin⟩ := C.hp.s.ps p hp
  refine get_slotM (s := { s with toks := s.toks + 1 }) (B.kin ok.stays) B.ni B.nic B.sSuc ni.1 ni.2 (v := .ref p.l) rfl rfl ?_
  refine call_iter (s := { s with toks := s.toks + 1 + 1 }) (wpAny_pyIter_list (s := { s with toks := s.toks + 1 + 1 }) (items := vs) ⟨_, l, rfl, ml, rfl⟩ ?_)
  have hit0 : s.heap.get? s.heap.objs.size = none := dead_size _ (Nat.le_refl _)
  have hiG : (s.heap.push { cls := .type "list_iterator", data := .fields #[.ref p.l, .int 0 0] }).get? s.heap.objs.size = some { cls := .type "list_iterator", data := .fields #[.ref p.l, .int 0 0] } := Heap.get?_push_size _ rfl
  have ki : Kp h₀.objs.size s.heap (s.heap.push { cls := .type "list_iterator", data := .fields #[.ref p.l, .int 0 0] }) := Kp.push _ _
  have kiA : ∀ b o, s.heap.get? b = some o → (s.heap.push { cls := .type "list_iterator", data := .fields #[.ref p.l, .int 0 0] }).get? b = some o := fun b o e => Heap.get?_push_of_some _ e
  show wpAny (model P w) A (getAttr (.ref s.heap.objs.size) _ true) _ _ { s with heap := s.heap.push { cls := .type "list_iterator", data := .fields #[.ref p.l, .int 0 0] }, toks := s.toks + 1 + 1 }
  generalize s.heap.push { cls := .type "list_iterator", data := .fields #[.ref p.l, .int 0 0] } = hi at *
  generalize s.heap.objs.size = it at *
  refine get_next (s := { s with heap := hi, toks := s.toks + 1 + 1 }) hiG rfl rfl rfl ?_
  have hm0 : hi.get? hi.objs.size = none := dead_size _ (Nat.le_refl _)
  have hmG : (hi.push (wrapObj it)).get? hi.objs.size = some (wrapObj it) := Heap.get?_push_size _ rfl
  have km : Kp h₀.objs.size hi (hi.push (wrapObj it)) := Kp.push _ _
  have kmA : ∀ b o, hi.get? b = some o → (hi.push (wrapObj it)).get? b = some o := fun b o e => Heap.get?_push_of_some _ e
  show wpAny (model P w) A (call _ [_, .ref hi.objs.size]) _ _ { s with heap := hi.push (wrapObj it), toks := s.toks + 1 + 1 + 1 }
  generalize hi.push (wrapObj it) = hm at *
  generalize hi.objs.size = m at *
  have hms : s.heap.get? m = none := by
    cases e : s.heap.get? m with
    | none => rfl
    | some o => rw [kiA m o e] at hm0; cases hm0
  have hmi : m ≠ it := fun q => by rw [q, hiG] at hm0; cases hm0
  refine wpAny_list_append_plain (s := { s with heap := hm, toks := s.toks + 1 + 1 + 1 }) (hsz := hvz) ⟨n, kmA _ _ (kiA _ _ pl)⟩ fun h1 pl1 hs => ?_
  have hao : c.its ∈ c.own := .tail _ (.head _)
  have kl : KpX [c.its] h₀.objs.size hm h1 := list_kp ⟨n, kmA _ _ (kiA _ _ pl)⟩ pl1 hs
  have kk : KpX [c.its] h₀.objs.size s.heap h1 := (ki.trans km).x.trans kl
  have hkeep : ∀ b, b ≠ c.its → ∀ o, s.heap.get? b = some o → h1.get? b = some o := fun b hb o e => (hs.2 b hb).trans (kmA _ _ (kiA _ _ e))
  obtain ⟨q1, q2, q3, q4, q5, q6⟩ := C.hp.rest hao hkeep
  have ap := C.hp.ap
  have hnew : ∀ a ∈ ([m, it] : List Addr), s.heap.get? a = none := fun a ha => by
    rcases List.mem_cons.mp ha with rfl | ha
    · exact hms
    · rw [List.mem_singleton.mp ha]; exact hit0
  have hnF : ∀ a ∈ ([m, it] : List Addr), a ∉ c.fp S := fun a ha q => by
    obtain ⟨o, e, _⟩ := CY.sep.live _ C.hp a q
    rw [hnew a ha] at e; cases e
  have hne : ∀ a ∈ ([m, it] : List Addr), a ≠ c.its := fun a ha q => hnF a ha (by rw [q]; exact List.mem_append_right _ hao)
  have hown : ∀ (cc : CY), cc.own = cc.st :: cc.its :: cc.se :: cc.n2 :: cc.els.flatMap El.fp := fun _ => rfl
  have hfpE : CY.own { c with wr := c.wr ++ [m], els := c.els ++ [⟨m, it, p.l, x, p.nd.suc, 0⟩] } = c.own ++ [m, it] := by
    rw [hown, hown]; simp [El.fp]
  refine h m it h1 _ (cy_turn C hao kk (fun b hb => ?_) ⟨q1, q2 (Ne.symm ap.st.1), ?_, q4 ap.its.1, q5 ap.its.2, fun e he => ?_, ?_, fun a ha => ?_⟩) hnew kk
  · rw [hfpE] at hb
    exact (List.mem_append.mp hb).imp id (hnew b)
  · have : ((c.wr ++ [m]).map Value.ref).toArray = (c.wr.map Value.ref).toArray.push (.ref m) := by simp
    show h1.PlainList c.its ((c.wr ++ [m]).map Value.ref).toArray
    rw [this]; exact pl1
  · rcases List.mem_append.mp he with he | he
    · exact q6 e he (ap.el e he).2.1
    · rw [List.mem_singleton.mp he]
      refine ⟨(hs.2 m (hne m (.head _))).trans hmG, ⟨_, (hs.2 it (hne it (.tail _ (.head _)))).trans (kmA _ _ hiG), rfl, rfl⟩, p, hp, rfl, rfl⟩
  · unfold CY.fp
    rw [hfpE, ← List.append_assoc, List.nodup_append]
    refine ⟨C.hp.nd, ?_, fun a ha b hb q => hnF b hb (q ▸ ha)⟩
    simp [hmi]
  · rw [hfpE] at ha
    rcases List.mem_append.mp ha with q | q
    · exact C.hp.dead a q
    · exact ok.dead (hnew a q)
end
end Mine
end
section
open PySem.Calls PySem.Spec PySem.SeqAt Builtin Builtin.ObjectAttr
set_option maxRecDepth 100000
namespace Mine
section
variable {w : World} {h₀ : Heap} {k : Nat} {K : Frag} {S : SS} {c c' : CY} {X : List Addr} {env : Env} {sc : Scope} {δ : Str → Option PyData} {ν : Str → Option Value} {A : Around} {E : Value → Shared → Prop} {s : Shared} {N : Nat}

theorem iter_kp {it l : Addr} {i : Nat} {h h' : Heap} (x : h.IsListIter it l i) (hs : Heap.SameBut it h h') (x' : ∃ o, h'.get? it = some o ∧ o.cls = .type "list_iterator") : KpX [it] N h h' := by
  obtain ⟨o, ho, hc, hd⟩ := x
  obtain ⟨o', ho', hc'⟩ := x'
  exact .of_sameBut hs (.head _) ⟨o', ho', fun _ => ⟨o, ho, _, hd⟩, fun o₀ q => by rw [ho] at q; cases q; rw [hc, hc']⟩

theorem op_next {L : List El} {e : El} {Q : Value → Shared → Prop} (hels : c.els = L ++ [e]) (ok : Ok h₀ k A s.heap) (C : CyX w h₀ S c X s.heap env sc δ ν)
    (hI : ∀ y t h1, e.suc[e.i]? = some y → CyX w h₀ S { c with els := L ++ [{ e with i := e.i + 1 }] } X h1 env sc δ ν → KpX [e.it] N s.heap h1 → Q (.int y t) { s with heap := h1 })
    (hE : e.suc[e.i]? = none → ∀ h1 h2 x, CyX w h₀ S { c with els := L } X h1 env sc δ ν → KpX [e.it] N s.heap h1 → Heap.MadeExcOf h1 h2 x (.type "StopIteration") [] → E (.ref x) { s with heap := h2 }) :
    wpAny (model P w) A (call (.ref e.m) []) Q E s := by
  have he : e ∈ c.els := by rw [hels]; simp
  obtain ⟨hm, hit, p, hp, hpl, hps⟩ := C.hp.els e he
  obtain ⟨t1, t2, vs, ni, ⟨n, l⟩, hin⟩ := C.hp.s.ps p hp
  rw [hpl] at l
  rw [hps] at hin
  have hl : s.heap.IsList e.l vs := ⟨_, l, rfl, n, rfl⟩
  have hao : e.it ∈ c.own := .tail _ (.tail _ (.tail _ (.tail _ (List.mem_flatMap.mpr ⟨e, he, .tail _ (.head _)⟩))))
  have ap := C.hp.ap
  have nd := ap.els
  rw [hels, List.flatMap_append] at nd
  obtain ⟨_, nd2, nd3⟩ := List.nodup_append.mp nd
  have hfe : ([e] : List El).flatMap El.fp = [e.m, e.it] := by simp [El.fp]
  rw [hfe] at nd2 nd3
  have hmi : e.m ≠ e.it := by
    simp only [List.nodup_cons, List.mem_cons, List.not_mem_nil, or_false] at nd2
    exact nd2.1
  have hoff : ∀ e' ∈ L, e.it ∉ e'.fp := fun e' he' q => nd3 e.it (List.mem_flatMap.mpr ⟨e', he', q⟩) e.it (.tail _ (.head _)) rfl
  have hae := ap.el e he
  have hmem : e.it ∈ e.fp := .tail _ (.head _)
  have ne1 : e.it ≠ c.st := fun q => hae.1 (by rw [← q]; exact hmem)
  have ne2 : e.it ≠ c.its := fun q => hae.2.1 (by rw [← q]; exact hmem)
  have ne3 : e.it ≠ c.se := fun q => hae.2.2.1 (by rw [← q]; exact hmem)
  have ne4 : e.it ≠ c.n2 := fun q => hae.2.2.2 (by rw [← q]; exact hmem)
  refine wpAny_call (call_wrap hm ?_)
  cases hv : vs[e.i]? with
  | some v =>
    obtain ⟨y, ty, hy, rfl⟩ := ints_get hin (i := e.i) (by simpa using hv)
    refine next_item hit hl hv fun h1 it1 hs => ?_
    have kk : KpX [e.it] N s.heap h1 := iter_kp hit hs (let ⟨o, a, b, _⟩ := it1; ⟨o, a, b⟩)
    obtain ⟨q1, q2, q3, q4, q5, q6⟩ := C.hp.rest hao (fun b hb o e => (hs.2 b hb).trans e)
    have hown : CY.own { c with els := L ++ [{ e with i := e.i + 1 }] } = c.own := by
      unfold CY.own; rw [hels]; simp [El.fp]
    have hfp : CY.fp S { c with els := L ++ [{ e with i := e.i + 1 }] } = c.fp S := by unfold CY.fp; rw [hown]
    refine hI y ty h1 hy (cy_turn C hao kk (fun b hb => .inl (by rwa [hown] at hb)) ⟨q1, q2 ne1, q3 ne2, q4 ne3, q5 ne4, fun e' he' => ?_, hfp ▸ C.hp.nd, fun a ha => C.hp.dead a (by rwa [hown] at ha)⟩) kk
    rcases List.mem_append.mp he' with q | q
    · exact q6 e' (by rw [hels]; exact List.mem_append_left _ q) (hoff e' q)
    · rw [List.mem_singleton.mp q]
      exact ⟨(hs.2 e.m hmi).trans hm, it1, p, hp, hpl, hps⟩
  | none =>
    have hz : e.suc[e.i]? = none := by
      rw [List.getElem?_eq_none_iff, ← ints_length hin, Array.length_toList]
      exact Array.getElem?_eq_none_iff.mp hv
    refine next_end ok.hh hit hl hv fun h1 h2 x hs hx hmade => ?_
    have kk : KpX [e.it] N s.heap h1 := iter_kp hit hs (let ⟨o, a, b, _⟩ := hx; ⟨o, a, b⟩)
    obtain ⟨q1, q2, q3, q4, q5, q6⟩ := C.hp.rest hao (fun b hb o e => (hs.2 b hb).trans e)
    have hsub : ∀ b ∈ CY.own { c with els := L }, b ∈ c.own := fun b hb => by
      have h1 : c.own = CY.own { c with els := L } ++ [e.m, e.it] := by unfold CY.own; rw [hels]; simp [El.fp]
      rw [h1]; exact List.mem_append_left _ hb
    have hnd : (CY.fp S { c with els := L }).Nodup := by
      have h1 : c.fp S = CY.fp S { c with els := L } ++ [e.m, e.it] := by unfold CY.fp CY.own; rw [hels]; simp [El.fp]
      have := C.hp.nd
      rw [h1] at this
      exact (List.nodup_append.mp this).1
    refine hE hz h1 h2 x (cy_turn C hao kk (fun b hb => .inl (hsub b hb)) ⟨q1, q2 ne1, q3 ne2, q4 ne3, q5 ne4, fun e' he' => ?_, hnd, fun a ha => C.hp.dead a (hsub a ha)⟩) kk hmade
    exact q6 e' (by rw [hels]; exact List.mem_append_left _ he') (hoff e' he')

theorem op_ret {sp np xp ip slp p1 xp2 lp pos : Pos} {Q : Value → Shared → Prop} {x : Int} {t : Tok} (hν : ν "stack" = some (.ref c.st)) (hn2 : ν "node2stacki" = some (.ref c.n2)) (hy : ν "node" = some (.int x t)) (hin : c.n2s.any (·.1 == x) = true) (hsz : c.stk.length ≤ 900)
    (C : CyX w h₀ S c X s.heap env sc δ ν)
    (h : ∀ l vs h1 t1, h1.PlainList l vs → 1 ≤ vs.size ∧ vs.size ≤ 2000 → Kp N s.heap h1 → s.heap.get? l = none → Q (.ref l) { s with heap := h1, toks := t1 }) :
    wpAny (model P w) A (eval (.BinOp (.Subscript (.Name "stack" sp) (.Slice (some (.Subscript (.Name "node2stacki" np) (.Name "node" xp) ip)) none none slp) p1) .Add (.List [.Name "node" xp2] lp) pos) env) Q E s := by
  obtain ⟨vs, ⟨n, p⟩, r⟩ := C.hp.st
  obtain ⟨kvs, hD, rk⟩ := C.hp.n2
  have hz : vs.size = c.stk.length := by rw [← Array.length_toList, ints_length r]
  obtain ⟨v, hv, j, u, hvj⟩ : ∃ v, valueAt kvs x = some v ∧ ∃ j u, v = .int j u := by
    have h1 := kv_find rk x
    rw [hin] at h1
    obtain ⟨v, hv⟩ := Option.isSome_iff_exists.mp h1
    refine ⟨v, hv, ?_⟩
    unfold valueAt at hv
    obtain ⟨kv, hk, rfl⟩ := Option.map_eq_some_iff.mp hv
    have hm := List.mem_of_find?_eq_some hk
    obtain ⟨i, hi⟩ := List.mem_iff_getElem?.mp hm
    obtain ⟨b, hb, _, tt, ht⟩ := Paired.get' rk hi
    exact ⟨_, tt, ht⟩
  subst hvj
  refine wpAny_BinOp (Subscript_ (name_cx hν C (wpAny_Slice ?_)))
  rw [evalPart_some]
  refine wpAny_Subscript_Name_late (name_cx hn2 C (name_cx hy C ?_))
  refine ⟨"dict", _, slot_dict_getitem.lookup, hD.typeIs, wpAny_getItem_of (knd := intKind P w) (intKind_is P w x t) hD.mapOf hv ?_⟩
  refine wpAny_pure (wpAny_pure ?_)
  have k1 : Kp N s.heap (s.heap.push { cls := .type "slice", data := .fields #[.int j u, .none, .none] }) := Kp.push _ _
  have kA1 : ∀ b o, s.heap.get? b = some o → (s.heap.push { cls := .type "slice", data := .fields #[.int j u, .none, .none] }).get? b = some o := fun b o e => Heap.get?_push_of_some _ e
  have key : ∀ Q' : Value → Shared → Prop, (Q' (.ref (s.heap.push { cls := .type "slice", data := .fields #[.int j u, .none, .none] }).objs.size) { s with heap := (s.heap.push { cls := .type "slice", data := .fields #[.int j u, .none, .none] }).push { cls := .type "list", data := .seq (slicePick vs (some j) none none) }, toks := s.toks + 1 }) →
      wpAny (model P w) A (getItem (.ref c.st) (.ref s.heap.objs.size)) Q' E { s with heap := s.heap.push { cls := .type "slice", data := .fields #[.int j u, .none, .none] }, toks := s.toks + 1 } := fun Q' q =>
    wpAny_getItem_list_slice (s := { s with heap := s.heap.push { cls := .type "slice", data := .fields #[.int j u, .none, .none] }, toks := s.toks + 1 }) (items := vs) ⟨_, kA1 _ _ p, rfl, n, rfl⟩ (Heap.IsSliceOf.new ..) (.int j u) .none .none (by simp) q (by rw [szl]; omega)
  refine tail_any (s := { s with heap := s.heap.push { cls := .type "slice", data := .fields #[.int j u, .none, .none] }, toks := s.toks + 1 }) (Heap.IsList.typeIs (s := { s with heap := s.heap.push { cls := .type "slice", data := .fields #[.int j u, .none, .none] }, toks := s.toks + 1 }) ⟨_, kA1 _ _ p, rfl, n, rfl⟩) slot_list_getitem.lookup (key _ ?_) (by rfl)
  have hpz := slicePick_size_le vs (some j) none none
  generalize hh1 : s.heap.push { cls := .type "slice", data := .fields #[.int j u, .none, .none] } = g1 at *
  have k2 : Kp N g1 (g1.push { cls := .type "list", data := .seq (slicePick vs (some j) none none) }) := Kp.push _ _
  have e2 : (g1.push { cls := .type "list", data := .seq (slicePick vs (some j) none none) }).get? g1.objs.size = some { cls := .type "list", data := .seq (slicePick vs (some j) none none) } := Heap.get?_push_size _ rfl
  generalize g1.push { cls := .type "list", data := .seq (slicePick vs (some j) none none) } = g2 at *
  generalize g1.objs.size = a2 at *
  have C2 := (C.kp k1).kp k2
  refine List_ (wpAny_items_cons (name_cx (s := { s with heap := g2, toks := s.toks + 1 }) hy C2 (wpAny_pure ?_)) rfl)
  refine wpAny_newObj_type ?_ (by show (1 : Nat) ≤ sizeLine; rw [szl]; decide)
  have k3 : Kp N g2 (g2.push { cls := .type "list", data := .seq #[.int x t] }) := Kp.push _ _
  have e3 : (g2.push { cls := .type "list", data := .seq #[.int x t] }).get? g2.objs.size = some { cls := .type "list", data := .seq #[.int x t] } := Heap.get?_push_size _ rfl
  have e23 : (g2.push { cls := .type "list", data := .seq #[.int x t] }).get? a2 = some { cls := .type "list", data := .seq (slicePick vs (some j) none none) } := Heap.get?_push_of_some _ e2
  show wpAny (model P w) A (binaryOp .Add (.ref a2) (.ref g2.objs.size)) Q E { s with heap := g2.push { cls := .type "list", data := .seq #[.int x t] }, toks := s.toks + 1 }
  generalize g2.push { cls := .type "list", data := .seq #[.int x t] } = g3 at *
  generalize g2.objs.size = a3 at *
  refine concat_meets (s := { s with heap := g3, toks := s.toks + 1 }) ⟨_, e23, rfl⟩ ⟨_, e3, rfl⟩ noFill_list_add seq_list_add PySem.F.slot_list_add PySem.F.entry_list_add (PySem.F.args_list_add_2 _ _) (list_addW a2 a3 _ _ 0 0 none none #[] #[] (by rw [szl]; simp; omega)) ⟨e23, e3, ?_⟩
  have kk := (k1.trans k2).trans k3
  refine h _ _ _ _ ⟨0, Heap.get?_push_size _ rfl⟩ ?_ (kk.trans (Kp.push _ _)) ?_
  · simp; omega
  · cases e : s.heap.get? g3.objs.size with
    | none => rfl
    | some o => obtain ⟨o', e'⟩ := kk.there e; rw [dead_size _ (Nat.le_refl _)] at e'; cases e'
end
end Mine
end
section
open PySem.Calls PySem.Spec PySem.SeqAt Builtin Builtin.ObjectAttr
set_option maxRecDepth 100000
namespace Mine
noncomputable def whB : Option Stmt → List Stmt
  | some (.While (body := b) ..) => b
  | _ => []
noncomputable def whE : Option Stmt → List Stmt
  | some (.While (orelse := b) ..) => b
  | _ => []
noncomputable def whT : Option Stmt → Expr
  | some (.While (test := t) ..) => t
  | _ => .Name "" ⟨0, 0, 0, 0⟩
noncomputable def forB : List Stmt := forBody (mBody 6 8)[5]?
noncomputable def outB : List Stmt := whB forB[1]?
noncomputable def inT : Expr := whT outB[1]?
noncomputable def inB : List Stmt := whB outB[1]?
noncomputable def inE : List Stmt := whE outB[1]?

structure Iv (c : CY) (q : Srch) : Prop where
  stk : c.stk = q.stack
  nm : c.els.map (·.nm) = q.stack
  its : q.its = c.els.map fun e => e.suc.drop e.i
  wr : c.wr = c.els.map (·.m)
  seen : c.seen = q.seen
  n2s : c.n2s = q.n2s
  sub : ∀ p ∈ q.n2s, q.seen.contains p.1 = true
  l1 : q.stack.length ≤ q.seen.length
  l2 : q.n2s.length ≤ q.seen.length
  l3 : q.seen.length ≤ 900

theorem Kp.step {N : Nat} {X : List Addr} {h0 h h' : Heap} (k : Kp N h0 h) (q : KpX X N h h') (hd : ∀ a ∈ X, h0.get? a = none) : Kp N h0 h' := ((k.x (X := X)).trans q).kp hd
theorem Kp.dead {N : Nat} {h0 h : Heap} (k : Kp N h0 h) {a : Addr} (e : h.get? a = none) : h0.get? a = none := by
  cases e' : h0.get? a with
  | none => rfl
  | some o => obtain ⟨o', e2⟩ := k.there e'; rw [e] at e2; cases e2
theorem KpX.stepX {N : Nat} {Z Y : List Addr} {h0 h h' : Heap} (k : KpX Z N h0 h) (q : KpX Y N h h') (hd : ∀ a ∈ Y, a ∈ Z ∨ h0.get? a = none) : KpX Z N h0 h' := by
  have q1 : KpX (Z ++ Y) N h0 h := k.mono fun a ha => .inl (List.mem_append_left _ ha)
  have q2 : KpX (Z ++ Y) N h h' := q.mono fun a ha => .inl (List.mem_append_right _ ha)
  exact (q1.trans q2).mono fun a ha => (List.mem_append.mp ha).elim .inl (hd a)
theorem KpX.deadX {N : Nat} {Z : List Addr} {h0 h : Heap} (k : KpX Z N h0 h) {a : Addr} (e : h.get? a = none) : h0.get? a = none := by
  cases e' : h0.get? a with
  | none => rfl
  | some o => obtain ⟨o', e2⟩ := k.there ⟨o, e'⟩; rw [e] at e2; cases e2
section
variable {w : World} {h₀ : Heap} {k : Nat} {K : Frag} {S : SS} {X Z : List Addr} {env : Env} {ν : Str → Option Value} {A : Around}

structure Nu (S : SS) (c : CY) (ν : Str → Option Value) : Prop where
  self : ν "self" = some (.ref S.x)
  n2i : ν "n2i" = some (.ref S.d)
  stack : ν "stack" = some (.ref c.st)
  itstack : ν "itstack" = some (.ref c.its)
  seen : ν "seen" = some (.ref c.se)
  n2 : ν "node2stacki" = some (.ref c.n2)
  node : ν "node" = none

structure Lp (w : World) (h₀ : Heap) (k : Nat) (S : SS) (X : List Addr) (env : Env) (A : Around) (Z : List Addr) (h00 h : Heap) (c : CY) (q : Srch) (ν0 ν : Str → Option Value) : Prop where
  ok : Ok h₀ k A h
  cx : CyX w h₀ S c X h env (mScope 6 8) (fun _ => none) ν
  iv : Iv c q
  nu : Nu S c ν0
  le : ∀ y v, ν0 y = some v → ν y = some v
  fr : ∀ a ∈ c.own, a ∈ Z ∨ h00.get? a = none
  kp : KpX Z h₀.objs.size h00 h
  fi : FrI h₀ A h

theorem Lp.step {h00 h h' : Heap} {c c' : CY} {q q' : Srch} {ν0 ν : Str → Option Value} {Y : List Addr} (p : Lp w h₀ k S X env A Z h00 h c q ν0 ν) (kk : KpX Y h₀.objs.size h h') (hY : ∀ a ∈ Y, a ∈ c.own) (cx : CyX w h₀ S c' X h' env (mScope 6 8) (fun _ => none) ν) (iv : Iv c' q')
    (hs : c'.st = c.st ∧ c'.its = c.its ∧ c'.se = c.se ∧ c'.n2 = c.n2) (hf : ∀ a ∈ c'.own, a ∈ c.own ∨ h.get? a = none) : Lp w h₀ k S X env A Z h00 h' c' q' ν0 ν :=
  ⟨p.ok.kpx kk fun a ha => p.cx.hp.dead a (hY a ha), cx, iv, ⟨p.nu.self, p.nu.n2i, hs.1 ▸ p.nu.stack, hs.2.1 ▸ p.nu.itstack, hs.2.2.1 ▸ p.nu.seen, hs.2.2.2 ▸ p.nu.n2, p.nu.node⟩, p.le, fun a ha => (hf a ha).elim (p.fr a) (fun e => .inr (p.kp.deadX e)), p.kp.stepX kk fun a ha => p.fr a (hY a ha), p.fi.kpx kk⟩
theorem Lp.kp1 {h00 h h' : Heap} {c : CY} {q : Srch} {ν0 ν : Str → Option Value} (p : Lp w h₀ k S X env A Z h00 h c q ν0 ν) (kk : Kp h₀.objs.size h h') : Lp w h₀ k S X env A Z h00 h' c q ν0 ν :=
  ⟨p.ok.kp kk, p.cx.kp kk, p.iv, p.nu, p.le, p.fr, p.kp.trans kk.x, p.fi.kp kk⟩
theorem Lp.store {h00 : Heap} {s : Shared} {c : CY} {q : Srch} {ν0 ν : Str → Option Value} {W : List Addr} {y : Int} {t : Tok} {Q : Unit → Shared → Prop} {E : Value → Shared → Prop} (p : Lp w h₀ k S X env A Z h00 s.heap c q ν0 ν) (hWX : ∀ a ∈ W, a ∈ X) (hw : Wrt W env (mScope 6 8) "node") (hW : ∀ a ∈ W, h₀.get? a = none ∧ (a ∈ Z ∨ h00.get? a = none))
    (h : ∀ h1 t1, Lp w h₀ k S X env A Z h00 h1 c q ν0 (updV ν0 "node" (.int y t)) → KpX W h₀.objs.size s.heap h1 → Q () { s with heap := h1, toks := t1 }) : wpAny (model P w) A (storeName env "node" (.int y t)) Q E s := by
  refine Cx.storeW (N := h₀.objs.size) hWX p.cx hw rfl fun h1 t1 c1 k1 => ?_
  refine h h1 t1 ⟨p.ok.kpx k1 fun a ha => (hW a ha).1, c1.forget (fun _ _ e => e) fun z v e => ?_, p.iv, p.nu, fun z v e => ?_, p.fr, p.kp.stepX k1 fun a ha => (hW a ha).2, p.fi.kpx k1⟩ k1
  · unfold updV at *
    split
    · rename_i hz; rw [if_pos hz] at e; exact e
    · rename_i hz; rw [if_neg hz] at e; exact p.le z v e
  · unfold updV
    rw [if_neg (fun hz => by rw [hz, p.nu.node] at e; cases e)]; exact e

inductive InnerJ (w : World) (h₀ : Heap) (k : Nat) (S : SS) (X : List Addr) (env : Env) (A : Around) (Z : List Addr) (h00 : Heap) (ν0 : Str → Option Value) (r : Option Int) (q' : Srch) (s₀ : Shared) (n : Nat) (s : Shared) : Prop
  | mk (q : Srch) (h : Heap) (t : Nat) (c : CY) (ν : Str → Option Value) (e : stepS n q = some (r, q')) (p : Lp w h₀ k S X env A Z h00 h c q ν0 ν) (es : s = { s₀ with heap := h, toks := t })
theorem cy_inner (B : SK K h₀) (B0 : Base h₀) (hSI : Gl h₀ "StopIteration" (.type "StopIteration")) {L : Addr} {W : List Addr} {h00 : Heap} {ν0 : Str → Option Value} {r : Option Int} {q' : Srch} {s₀ : Shared} {R : Result → Shared → Prop}
    (hWX : ∀ a ∈ W, a ∈ X) (hw : Wr W env (mScope 6 8)) (hW : ∀ a ∈ W, h₀.get? a = none ∧ (a ∈ Z ∨ h00.get? a = none)) (hf : env.frame = some L) {outer : List Env} (hfr : A.frames = some (env :: outer))
    (hN : ∀ y t c ν h1 t1, r = some y → Lp w h₀ k S X env A Z h00 h1 c q' ν0 ν → ν "node" = some (.int y t) → R (.ok .next) { s₀ with heap := h1, toks := t1 })
    (hB : ∀ c ν h1 t1, r = none → Lp w h₀ k S X env A Z h00 h1 c q' ν0 ν → R (.ok .brk) { s₀ with heap := h1, toks := t1 })
    (n : Nat) {q : Srch} (hq : stepS n q = some (r, q')) {h : Heap} {t : Nat} {c : CY} {ν : Str → Option Value} (p : Lp w h₀ k S X env A Z h00 h c q ν0 ν) :
    codeAny (model P w) A (.whileLoop inT inB inE env) R { s₀ with heap := h, toks := t } := by
  refine codeAny_whileLoop (InnerJ w h₀ k S X env A Z h00 ν0 r q' s₀) (fun n s => ?_) n ⟨q, h, t, c, ν, hq, p, rfl⟩
  rintro ⟨q, h, t, c, ν, hq, p, rfl⟩
  have iv := p.iv
  have hstk : c.stk.length ≤ 900 := by rw [iv.stk]; have := iv.l1; have := iv.l3; omega
  have hwr : c.wr.length ≤ 900 := by
    have h1 : c.wr.length = c.stk.length := by rw [iv.wr, iv.stk, ← iv.nm, List.length_map, List.length_map]
    omega
  have hn2 : c.n2s.length ≤ 900 := by rw [iv.n2s]; have := iv.l2; have := iv.l3; omega
  refine op_truth (s := { s₀ with heap := h, toks := t }) (p.le _ _ p.nu.stack) hstk p.cx ?_
  cases n with
  | zero => cases hq
  | succ n =>
  rcases List.eq_nil_or_concat q.stack with hs | ⟨l, x, hs⟩
  · -- empty
    have he : (!c.stk.isEmpty) = false := by rw [iv.stk, hs]; rfl
    rw [he]
    show wpAny (model P w) A (execs inE env) _ _ _
    have hr : r = none ∧ q = q' := by
      unfold stepS at hq
      rw [hs] at hq
      simp at hq
      exact ⟨hq.1.symm, hq.2⟩
    obtain ⟨hr, rfl⟩ := hr
    exact wpAny_execs_cons (wpAny_Break (hB c ν h _ hr p))
  · rw [List.concat_eq_append] at hs
    have he : (!c.stk.isEmpty) = true := by rw [iv.stk, hs]; simp
    rw [he]
    show wpAny (model P w) A (execs inB env) _ _ _
    refine hideQE fun Q₁ E₁ hQ₁ _ => ?_
    obtain ⟨L0, e, hels, hnm0, hnme⟩ : ∃ L0 e, c.els = L0 ++ [e] ∧ L0.map (·.nm) = l ∧ e.nm = x := by
      have h1 := iv.nm
      rw [hs] at h1
      obtain ⟨a, b, h2, h3, h4⟩ := List.map_eq_append_iff.mp h1
      obtain ⟨e, h5, h6⟩ := List.map_eq_singleton_iff.mp h4
      exact ⟨a, e, by rw [h2, h5], h3, h6⟩
    have hits : q.its = L0.map (fun e => e.suc.drop e.i) ++ [e.suc.drop e.i] := by rw [iv.its, hels]; simp
    have hwre : c.wr = L0.map (·.m) ++ [e.m] := by rw [iv.wr, hels]; simp
    have hec : e ∈ c.els := by rw [hels]; simp
    have hio : e.it ∈ c.own := .tail _ (.tail _ (.tail _ (.tail _ (List.mem_flatMap.mpr ⟨e, hec, .tail _ (.head _)⟩))))
    refine wpAny_execs_cons (wpAny_Try_except ?_)
    refine wpAny_execs_cons (wpAny_Assign_Name (Call_Sub0 (op_top (s := { s₀ with heap := h, toks := t + 1 + 1 }) (p.le _ _ p.nu.itstack) hwre hwr p.ok p.cx fun h1 t1 ok1 C1 k1 => ?_)))
    have p1 := p.kp1 k1
    refine callWith_wrap (s := { s₀ with heap := h1, toks := t1 }) (C1.hp.els e hec).1 (op_next (N := h₀.objs.size) (s := { s₀ with heap := h1, toks := t1 }) hels p1.ok p1.cx (fun y ty h2 hy C2 k2 => ?_) (fun hz h2 h3 ex C2 k2 hm => ?_))
    · -- a successor
      have hdrop : e.suc.drop e.i = y :: e.suc.drop (e.i + 1) := by
        obtain ⟨h1, h2⟩ := List.getElem?_eq_some_iff.mp hy
        rw [List.drop_eq_getElem_cons h1, h2]
      have hq2 : r = some y ∧ q' = { q with its := L0.map (fun e => e.suc.drop e.i) ++ [e.suc.drop (e.i + 1)] } := by
        unfold stepS at hq
        rw [hs, hits, hdrop] at hq
        simp at hq
        exact ⟨hq.1.symm, by rw [← hq.2, ← hs]⟩
      obtain ⟨hr, rfl⟩ := hq2
      have hown : CY.own { c with els := L0 ++ [{ e with i := e.i + 1 }] } = c.own := by
        unfold CY.own; rw [hels]; simp [El.fp]
      have p2 : Lp w h₀ k S X env A Z h00 h2 { c with els := L0 ++ [{ e with i := e.i + 1 }] } { q with its := L0.map (fun e => e.suc.drop e.i) ++ [e.suc.drop (e.i + 1)] } ν0 ν :=
        p1.step k2 (fun a ha => by rw [List.mem_singleton.mp ha]; exact hio) C2 ⟨iv.stk, by rw [← iv.nm, hels]; simp, by simp, by rw [hwre]; simp, iv.seen, iv.n2s, iv.sub, iv.l1, iv.l2, iv.l3⟩ ⟨rfl, rfl, rfl, rfl⟩ (fun a ha => .inl (by rwa [hown] at ha))
      refine p2.store (s := { s₀ with heap := h2, toks := t1 }) hWX (hw _ (.inl (by decide +kernel))) hW fun h3 t3 p3 k3 => ?_
      exact wpAny_execs_cons (wpAny_Break (hQ₁ _ _ (hN y ty _ _ h3 t3 hr p3 rfl)))
    · -- none left
      have hdrop : e.suc.drop e.i = [] := List.drop_eq_nil_iff.mpr (List.getElem?_eq_none_iff.mp hz)
      have hq2 : q.n2s.any (·.1 == x) = true ∧ stepS n { stack := l, its := L0.map (fun e => e.suc.drop e.i), seen := q.seen, n2s := q.n2s.filter (·.1 != x) } = some (r, q') := by
        unfold stepS at hq
        rw [hs, hits, hdrop] at hq
        simp only [List.getLast?_append, List.getLast?_singleton, Option.some_or, List.dropLast_concat] at hq
        split at hq
        · rename_i ha; exact ⟨ha, hq⟩
        · cases hq
      obtain ⟨hany, hq2⟩ := hq2
      have okC2 : Ok h₀ k A h2 := p1.ok.kpx k2 fun a ha => by rw [List.mem_singleton.mp ha]; exact p1.cx.hp.dead _ hio
      have fi2 := p1.fi.kpx k2
      obtain ⟨fs, hfs, ff⟩ := okC2.frames
      rw [hfr] at hfs; cases hfs
      refine caught_made (s := { s₀ with heap := h3, toks := t1 }) (by rw [isSubtype_type]; kernel_rfl) (by rw [isSubtype_type]; kernel_rfl) (by rw [isSubtype_type]; kernel_rfl) hfr hf ff fi2 hm hSI C2 okC2.stays (by decide +kernel) fun h4 E' k4 => ?_
      have C4 := C2.kp k4
      refine wpAny_execs_cons (wpAny_Delete (wpAny_deleteEach_cons (delete_Subscript (name_cx (s := { s₀ with heap := h4, toks := t1 }) (p.le _ _ p.nu.n2) C4 ?_))))
      refine op_pop_st (c := { c with els := L0 }) (N := h₀.objs.size) (s := { s₀ with heap := h4, toks := t1 }) (l := l) (x := x) (p.le _ _ p.nu.stack) (by rw [← hs, ← iv.stk]) hstk C4 rfl fun t5 h5 C5 k5 => ?_
      refine op_del (c := { c with els := L0, stk := l }) (N := h₀.objs.size) (s := { s₀ with heap := h5, toks := t1 }) (by rw [← iv.n2s] at hany; exact hany) hn2 C5 fun h6 t6 C6 k6 => ?_
      refine wpAny_deleteEach_nil ?_
      refine wpAny_execs_cons (wpAny_Expr_any (op_pop_its (c := { c with els := L0, stk := l, n2s := c.n2s.filter (·.1 != x) }) (N := h₀.objs.size) (s := { s₀ with heap := h6, toks := t6 }) (p.le _ _ p.nu.itstack) hwre hwr C6 rfl fun h7 C7 k7 => ?_) (by unfold interactive; rw [C6.er.kind]; rfl))
      refine wpAny_execs_nil (wpAny_execs_nil (hQ₁ _ _ ⟨n, Nat.lt_succ_self n, _, h7, t6, { c with els := L0, stk := l, n2s := c.n2s.filter (·.1 != x), wr := L0.map (·.m) }, ν, hq2, ?_, rfl⟩))
      have kk : KpX [e.it, c.st, c.n2, c.its] h₀.objs.size h1 h7 :=
        (((k2.mono fun a ha => .inl (by rw [List.mem_singleton.mp ha]; exact .head _)).trans k4.x).trans (k5.mono fun a ha => .inl (by rw [List.mem_singleton.mp ha]; exact .tail _ (.head _)))).trans
          ((k6.mono fun a ha => .inl (by rw [List.mem_singleton.mp ha]; exact .tail _ (.tail _ (.head _)))).trans (k7.mono fun a ha => .inl (by rw [List.mem_singleton.mp ha]; exact .tail _ (.tail _ (.tail _ (.head _))))))
      have hY : ∀ a ∈ [e.it, c.st, c.n2, c.its], a ∈ c.own := fun a ha => by
        rcases List.mem_cons.mp ha with rfl | ha
        · exact hio
        rcases List.mem_cons.mp ha with rfl | ha
        · exact .head _
        rcases List.mem_cons.mp ha with rfl | ha
        · exact .tail _ (.tail _ (.tail _ (.head _)))
        · rw [List.mem_singleton.mp ha]; exact .tail _ (.head _)
      have hl1 : l.length + 1 ≤ q.seen.length := by have := iv.l1; rw [hs] at this; simpa using this
      have hfl : (q.n2s.filter (·.1 != x)).length ≤ q.n2s.length := List.length_filter_le _ _
      refine p1.step kk hY C7 ⟨rfl, hnm0, rfl, rfl, iv.seen, by show c.n2s.filter _ = _; rw [iv.n2s], fun a ha => iv.sub a (List.mem_filter.mp ha).1, by show l.length ≤ q.seen.length; omega, by have := iv.l2; show (q.n2s.filter (·.1 != x)).length ≤ q.seen.length; omega, iv.l3⟩ ⟨rfl, rfl, rfl, rfl⟩ (fun a ha => .inl ?_)
      have : c.own = CY.own { c with els := L0 } ++ [e.m, e.it] := by unfold CY.own; rw [hels]; simp [El.fp]
      rw [this]; exact List.mem_append_left _ ha
end
end Mine
end
section
open PySem.Calls PySem.Spec PySem.SeqAt Builtin Builtin.ObjectAttr
set_option maxRecDepth 100000
namespace Mine
theorem stepS_seen : ∀ (n : Nat) {q q' : Srch} {r : Option Int}, stepS n q = some (r, q') → q'.seen = q.seen
  | 0, _, _, _, h => by cases h
  | n + 1, q, q', r, h => by
    unfold stepS at h
    split at h
    · cases h; rfl
    · split at h
      · have := stepS_seen n h; exact this
      · cases h
    · cases h; rfl
    · cases h
theorem stepS_none : ∀ (n : Nat) {q q' : Srch}, stepS n q = some (none, q') → q'.stack = []
  | 0, _, _, h => by cases h
  | n + 1, q, q', h => by
    unfold stepS at h
    split at h
    · cases h
    · split at h
      · have := stepS_none n h; exact this
      · cases h
    · cases h; rename_i e; simpa using e
    · cases h
noncomputable def goS (ns : List Node) (k : Nat) (s : Srch) : Option (Bool × Srch) := match stepS 40 s with
  | some (some y, s') => loopS ns k y s'
  | some (none, s') => some (false, s')
  | none => none
theorem loopS_eq (ns : List Node) (k : Nat) (x : Int) (s : Srch) : loopS ns (k + 1) x s = if s.seen.contains x then (if s.n2s.any (·.1 == x) then some (true, s) else goS ns k s)
    else match getN ns x with
      | some p => goS ns k { stack := s.stack ++ [x], its := s.its ++ [p.suc], seen := s.seen ++ [x], n2s := s.n2s ++ [(x, s.stack.length)] }
      | none => none := rfl
theorem loopS_false (ns : List Node) : ∀ (n : Nat) {x : Int} {q q' : Srch}, loopS ns n x q = some (false, q') → q'.stack = []
  | 0, _, _, _, h => by cases h
  | n + 1, x, q, q', h => by
    have go : ∀ q, goS ns n q = some (false, q') → q'.stack = [] := fun q h => by
      unfold goS at h
      split at h
      · exact loopS_false ns n h
      · rename_i s' e; cases h; exact stepS_none 40 e
      · cases h
    rw [loopS_eq] at h
    split at h
    · split at h
      · cases h
      · exact go _ h
    · split at h
      · exact go _ h
      · cases h
theorem loopS_seen (ns : List Node) : ∀ (n : Nat) {x : Int} {q q' : Srch} {b : Bool}, loopS ns n x q = some (b, q') → q'.seen.length ≤ q.seen.length + n
  | 0, _, _, _, _, h => by cases h
  | n + 1, x, q, q', b, h => by
    have go : ∀ q, goS ns n q = some (b, q') → q'.seen.length ≤ q.seen.length + n := fun q h => by
      unfold goS at h
      split at h
      · rename_i y s' e
        have := loopS_seen ns n h
        rw [stepS_seen 40 e] at this; exact this
      · rename_i s' e; cases h; rw [stepS_seen 40 e]; omega
      · cases h
    rw [loopS_eq] at h
    split at h
    · split at h
      · cases h; omega
      · have := go _ h; omega
    · split at h
      · have := go _ h; simp at this; omega
      · cases h
noncomputable def ifE : Option Stmt → List Stmt
  | some (.If (orelse := b) ..) => b
  | _ => []
noncomputable def outT : Expr := whT forB[1]?
noncomputable def outE : List Stmt := whE forB[1]?

section
variable {w : World} {h₀ : Heap} {k : Nat} {K : Frag} {S : SS} {X Z : List Addr} {env : Env} {A : Around}
theorem cy_push (B : SK K h₀) (B0 : Base h₀) (G : SG h₀) {h00 : Heap} {c : CY} {q : Srch} {ν0 ν : Str → Option Value} {x : Int} {u : Tok} {nd : Node} {s : Shared} {Q : Flow → Shared → Prop} {E : Value → Shared → Prop}
    (p : Lp w h₀ k S X env A Z h00 s.heap c q ν0 ν) (hy : ν "node" = some (.int x u)) (hx : q.seen.contains x = false) (hnd : getN S.nodes x = some nd) (hz : q.seen.length + 1 ≤ 900)
    (h : ∀ c' h1 t1, Lp w h₀ k S X env A Z h00 h1 c' { stack := q.stack ++ [x], its := q.its ++ [nd.suc], seen := q.seen ++ [x], n2s := q.n2s ++ [(x, q.stack.length)] } ν0 ν → Q .next { s with heap := h1, toks := t1 }) :
    wpAny (model P w) A (execs (ifE outB[0]?) env) Q E s := by
  have iv := p.iv
  have hstk : c.stk.length ≤ 900 := by rw [iv.stk]; have := iv.l1; have := iv.l3; omega
  have hwr : c.wr.length ≤ 900 := by
    have h1 : c.wr.length = c.stk.length := by rw [iv.wr, iv.stk, ← iv.nm, List.length_map, List.length_map]
    omega
  have hn2 : c.n2s.length ≤ 900 := by rw [iv.n2s]; have := iv.l2; have := iv.l3; omega
  obtain ⟨pp, hpf, hpn⟩ : ∃ pp, (S.ps.find? fun p => p.nd.name == x) = some pp ∧ pp.nd = nd := by
    rw [getN_find] at hnd
    exact Option.map_eq_some_iff.mp hnd
  have hno : c.n2s.any (·.1 == x) = false := by
    rw [iv.n2s]
    cases e : q.n2s.any (·.1 == x) with
    | false => rfl
    | true =>
      obtain ⟨a, ha, hb⟩ := List.any_eq_true.mp e
      have := iv.sub a ha
      rw [beq_iff_eq.mp hb, hx] at this; cases this
  refine wpAny_execs_cons (op_seen (N := h₀.objs.size) (p.le _ _ p.nu.seen) hy (by rw [iv.seen]; exact hx) (by rw [iv.seen]; omega) p.cx rfl fun h1 t1 C1 k1 => ?_)
  have ok1 := p.ok.kpx k1 fun a ha => by rw [List.mem_singleton.mp ha]; exact p.cx.hp.dead _ (.tail _ (.tail _ (.head _)))
  refine wpAny_execs_cons (op_it (c := { c with seen := c.seen ++ [x] }) (s := { s with heap := h1, toks := t1 }) B G (p.le _ _ p.nu.itstack) (p.le _ _ p.nu.n2i) hy hpf (by decide +kernel) hwr ok1 C1 rfl fun m it h2 t2 C2 hnew k2 => ?_)
  have ok2 := ok1.kpx k2 fun a ha => by rw [List.mem_singleton.mp ha]; exact p.cx.hp.dead _ (.tail _ (.head _))
  refine wpAny_execs_cons (op_n2 (c := { c with seen := c.seen ++ [x], wr := c.wr ++ [m], els := c.els ++ [⟨m, it, pp.l, x, pp.nd.suc, 0⟩] }) (N := h₀.objs.size) (s := { s with heap := h2, toks := t2 }) B0 (p.le _ _ p.nu.stack) (p.le _ _ p.nu.n2) hy (by decide +kernel) hno hstk hn2 ok2 C2 fun h3 t3 C3 k3 => ?_)
  refine wpAny_execs_cons (op_push (c := { c with seen := c.seen ++ [x], wr := c.wr ++ [m], els := c.els ++ [⟨m, it, pp.l, x, pp.nd.suc, 0⟩], n2s := c.n2s ++ [(x, c.stk.length)] }) (N := h₀.objs.size) (s := { s with heap := h3, toks := t3 }) (p.le _ _ p.nu.stack) hy hstk C3 rfl fun h4 C4 k4 => wpAny_execs_nil ?_)
  have kk : KpX [c.se, c.its, c.n2, c.st] h₀.objs.size s.heap h4 :=
    ((k1.mono fun a ha => .inl (by rw [List.mem_singleton.mp ha]; exact .head _)).trans (k2.mono fun a ha => .inl (by rw [List.mem_singleton.mp ha]; exact .tail _ (.head _)))).trans
      ((k3.mono fun a ha => .inl (by rw [List.mem_singleton.mp ha]; exact .tail _ (.tail _ (.head _)))).trans (k4.mono fun a ha => .inl (by rw [List.mem_singleton.mp ha]; exact .tail _ (.tail _ (.tail _ (.head _))))))
  have hY : ∀ a ∈ [c.se, c.its, c.n2, c.st], a ∈ c.own := fun a ha => by
    rcases List.mem_cons.mp ha with rfl | ha
    · exact .tail _ (.tail _ (.head _))
    rcases List.mem_cons.mp ha with rfl | ha
    · exact .tail _ (.head _)
    rcases List.mem_cons.mp ha with rfl | ha
    · exact .tail _ (.tail _ (.tail _ (.head _)))
    · rw [List.mem_singleton.mp ha]; exact .head _
  have hb1 := iv.l1
  have hb2 := iv.l2
  refine h _ h4 t3 (p.step kk hY C4 ⟨?_, ?_, ?_, ?_, ?_, ?_, ?_, ?_, ?_, ?_⟩ ⟨rfl, rfl, rfl, rfl⟩ fun a ha => ?_)
  · show c.stk ++ [x] = q.stack ++ [x]; rw [iv.stk]
  · show (c.els ++ [_]).map El.nm = q.stack ++ [x]; rw [List.map_append, show c.els.map El.nm = q.stack from iv.nm]; rfl
  · show q.its ++ [nd.suc] = (c.els ++ [_]).map _; rw [List.map_append, iv.its, ← hpn]; rfl
  · show c.wr ++ [m] = (c.els ++ [_]).map El.m; rw [List.map_append, iv.wr]; rfl
  · show c.seen ++ [x] = q.seen ++ [x]; rw [iv.seen]
  · show c.n2s ++ [(x, c.stk.length)] = q.n2s ++ [(x, q.stack.length)]; rw [iv.n2s, iv.stk]
  · intro a ha
    have : a ∈ q.n2s ++ [(x, q.stack.length)] := ha
    rcases List.mem_append.mp this with z | z
    · have := iv.sub a z
      show (q.seen ++ [x]).contains a.1 = true
      simp only [List.contains_eq_mem, decide_eq_true_eq] at this ⊢
      exact List.mem_append_left _ this
    · rw [List.mem_singleton.mp z]
      show (q.seen ++ [x]).contains x = true
      simp
  · show (q.stack ++ [x]).length ≤ (q.seen ++ [x]).length; simp; omega
  · show (q.n2s ++ [(x, q.stack.length)]).length ≤ (q.seen ++ [x]).length; simp; omega
  · show (q.seen ++ [x]).length ≤ 900; simp; omega
  · have hown : ∀ (cc : CY), cc.own = cc.st :: cc.its :: cc.se :: cc.n2 :: cc.els.flatMap El.fp := fun _ => rfl
    have : CY.own { c with seen := c.seen ++ [x], wr := c.wr ++ [m], els := c.els ++ [⟨m, it, pp.l, x, pp.nd.suc, 0⟩], n2s := c.n2s ++ [(x, c.stk.length)], stk := c.stk ++ [x] } = c.own ++ [m, it] := by rw [hown, hown]; simp [El.fp]
    rw [this] at ha
    rcases List.mem_append.mp ha with z | z
    · exact .inl z
    · right
      cases e : s.heap.get? a with
      | none => rfl
      | some o => obtain ⟨o', e'⟩ := k1.there ⟨o, e⟩; have := hnew a z; rw [e'] at this; cases this

inductive OuterJ (w : World) (h₀ : Heap) (k : Nat) (S : SS) (X : List Addr) (env : Env) (A : Around) (Z : List Addr) (h00 : Heap) (ν0 : Str → Option Value) (b : Bool) (q' : Srch) (s₀ : Shared) (M : Nat) (n : Nat) (s : Shared) : Prop
  | mk (q : Srch) (x : Int) (u : Tok) (h : Heap) (t : Nat) (c : CY) (ν : Str → Option Value) (e : loopS S.nodes n x q = some (b, q')) (p : Lp w h₀ k S X env A Z h00 h c q ν0 ν) (hy : ν "node" = some (.int x u)) (hm : q.seen.length + n ≤ M) (es : s = { s₀ with heap := h, toks := t })
theorem cy_outer (B : SK K h₀) (B0 : Base h₀) (G : SG h₀) (hSI : Gl h₀ "StopIteration" (.type "StopIteration")) {L : Addr} {W : List Addr} {h00 : Heap} {ν0 : Str → Option Value} {b : Bool} {q' : Srch} {s₀ : Shared} {R : Result → Shared → Prop} {M : Nat} (hM : M ≤ 900)
    (hWX : ∀ a ∈ W, a ∈ X) (hw : Wr W env (mScope 6 8)) (hW : ∀ a ∈ W, h₀.get? a = none ∧ (a ∈ Z ∨ h00.get? a = none)) (hf : env.frame = some L) {outer : List Env} (hfr : A.frames = some (env :: outer))
    (hT : b = true → ∀ l vs h1 t1, h1.PlainList l vs → 1 ≤ vs.size ∧ vs.size ≤ 2000 → KpX Z h₀.objs.size h00 h1 → S.At w h₀ h1 → h00.get? l = none → R (.ok (.ret (.ref l))) { s₀ with heap := h1, toks := t1 })
    (hF : ∀ c ν h1 t1, b = false → Lp w h₀ k S X env A Z h00 h1 c q' ν0 ν → R (.ok .next) { s₀ with heap := h1, toks := t1 })
    (n : Nat) {q : Srch} {x : Int} {u : Tok} (hq : loopS S.nodes n x q = some (b, q')) {h : Heap} {t : Nat} {c : CY} {ν : Str → Option Value} (p : Lp w h₀ k S X env A Z h00 h c q ν0 ν) (hy : ν "node" = some (.int x u)) (hm : q.seen.length + n ≤ M) :
    codeAny (model P w) A (.whileLoop outT outB outE env) R { s₀ with heap := h, toks := t } := by
  refine codeAny_whileLoop (OuterJ w h₀ k S X env A Z h00 ν0 b q' s₀ M) (fun n s => ?_) n ⟨q, x, u, h, t, c, ν, hq, p, hy, hm, rfl⟩
  rintro ⟨q, x, u, h, t, c, ν, hq, p, hy, hm, rfl⟩
  refine (tr_val ev_bool : TrE w h₀ k (mScope 6 8) (fun _ => none) outT true).then (s := { s₀ with heap := h, toks := t }) p.ok p.cx.er fun h1 t1 k1 _ _ => ?_
  replace p := p.kp1 k1
  show wpAny (model P w) A (execs outB env) _ _ _
  cases n with
  | zero => cases hq
  | succ n =>
  refine hideQE fun Q₁ E₁ hQ₁ _ => ?_
  rw [loopS_eq] at hq
  have inner : ∀ (q : Srch) (c : CY) (h2 : Heap) (t2 : Nat), goS S.nodes n q = some (b, q') → Lp w h₀ k S X env A Z h00 h2 c q ν0 ν → q.seen.length + n ≤ M →
      ∀ (Q : Flow → Shared → Prop) (E : Value → Shared → Prop), (∀ s, (∃ m, m < n + 1 ∧ OuterJ w h₀ k S X env A Z h00 ν0 b q' s₀ M m s) → Q .next s) → (∀ s, R (.ok .next) s → Q .brk s) →
      wpAny (model P w) A (execs (outB.drop 1) env) Q E { s₀ with heap := h2, toks := t2 } := by
    intro q c h2 t2 hg p hm Q E hQ1 hQ2
    unfold goS at hg
    cases hs : stepS 40 q with
    | none => rw [hs] at hg; cases hg
    | some rq =>
      obtain ⟨r, q2⟩ := rq
      rw [hs] at hg
      have hsn := stepS_seen 40 hs
      refine wpAny_execs_cons (wpAny_While (cy_inner (s₀ := s₀) B B0 hSI hWX hw hW hf hfr (fun y ty c ν h3 t3 hr p3 hy3 => ?_) (fun c ν h3 t3 hr p3 => ?_) 40 hs p))
      · subst hr
        exact wpAny_execs_nil (hQ1 _ ⟨n, Nat.lt_succ_self n, q2, y, ty, h3, t3, c, ν, hg, p3, hy3, by rw [hsn]; exact hm, rfl⟩)
      · subst hr
        cases hg
        exact hQ2 _ (hF c ν h3 t3 rfl p3)
  refine wpAny_execs_cons (wpAny_If (wpAny_isTrue_Compare1 (name_cx (s := { s₀ with heap := h1, toks := t1 }) hy p.cx ?_)))
  refine name_cx (s := { s₀ with heap := h1, toks := t1 }) (p.le _ _ p.nu.seen) p.cx (op_in_seen (s := { s₀ with heap := h1, toks := t1 }) p.cx (wpAny_truthy_bool ?_))
  rw [p.iv.seen]
  cases hsx : q.seen.contains x with
  | true =>
    rw [hsx, if_pos rfl] at hq
    refine wpAny_execs_cons (wpAny_If (wpAny_isTrue_Compare1 (name_cx (s := { s₀ with heap := h1, toks := t1 + 1 }) hy p.cx ?_)))
    refine name_cx (s := { s₀ with heap := h1, toks := t1 + 1 }) (p.le _ _ p.nu.n2) p.cx (op_in_n2 (s := { s₀ with heap := h1, toks := t1 + 1 }) B p.cx (wpAny_truthy_bool ?_))
    rw [p.iv.n2s]
    cases hn : q.n2s.any (·.1 == x) with
    | true =>
      rw [hn, if_pos rfl] at hq
      cases hq
      refine wpAny_execs_cons (wpAny_Return_some (op_ret (N := h₀.objs.size) (s := { s₀ with heap := h1, toks := t1 + 1 + 1 }) (p.le _ _ p.nu.stack) (p.le _ _ p.nu.n2) hy (by rw [p.iv.n2s]; exact hn) (by rw [p.iv.stk]; have := p.iv.l1; have := p.iv.l3; omega) p.cx fun l vs h3 t3 pl hz k3 hd => ?_))
      exact hQ₁ _ _ (hT rfl l vs h3 t3 pl hz (p.kp.trans k3.x) (SS.sep.kp p.cx.hp.s k3) (p.kp.deadX hd))
    | false =>
      rw [hn] at hq
      refine wpAny_execs_nil (wpAny_execs_nil (inner q c h1 _ hq p (by omega) _ _ (fun s z => hQ₁ _ _ z) fun s z => hQ₁ _ _ z))
  | false =>
    rw [hsx] at hq
    cases hnd : getN S.nodes x with
    | none => rw [hnd] at hq; cases hq
    | some nd =>
      rw [hnd] at hq
      refine cy_push (s := { s₀ with heap := h1, toks := t1 + 1 }) B B0 G p hy hsx hnd (by omega) fun c' h3 t3 p3 => ?_
      exact inner _ c' h3 t3 hq p3 (by simp; omega) _ _ (fun s z => hQ₁ _ _ z) fun s z => hQ₁ _ _ z
end
end Mine
end
section
open PySem.Calls PySem.Spec PySem.SeqAt Builtin Builtin.ObjectAttr
set_option maxRecDepth 100000
namespace Mine
section
variable {w : World} {h₀ : Heap} {k : Nat} {K : Frag} {S : SS} {X Z F : List Addr} {env : Env} {A : Around} {sc : Scope} {ν : Str → Option Value} {H : Heap → Prop}

theorem loop_dict {tg : Expr} (hT : TName tg) {body : List Stmt} {it d : Addr} {kvs : List (Int × Value)} {ep : Nat} {R : Result → Shared → Prop} (hh : A.handled = none) (J : Nat → Shared → Prop)
    (hJ : ∀ i s, J i s → s.heap.IsKeyIter it d i kvs.length ep ∧ s.heap.DictAt (intKind P w) d kvs ep)
    (hbody : ∀ i x v u s h1, J i s → kvs[i]? = some (x, v) → h1.IsKeyIter it d (i + 1) kvs.length ep → Heap.SameBut it s.heap h1 →
      wpAny (model P w) A (assign tg env (.int x u)) (fun _ s2 => wpAny (model P w) A (execs body env) (fun f s3 => match f with | .ret v => R (.ok (.ret v)) s3 | .brk => False | _ => J (i + 1) s3) (notedBy (model P w) A env fun e s' => R (.error e) s') s2) (notedBy (model P w) A env fun e s' => R (.error e) s') { s with heap := h1 })
    (hend : ∀ s h1, J kvs.length s → Heap.ExtBut it s.heap h1 → R (.ok .next) { s with heap := h1 }) :
    ∀ (n i : Nat), i + n = kvs.length → ∀ (s : Shared), J i s → codeAny (model P w) A (.forLoop tg (.ref it) body [] env) R s
  | 0, i, hn, s, hj => by
    refine codeAny_of_tree ?_
    show wpAny _ A ((forTurn tg (.ref it) body [] env).onRaise (fun x => do noteFrame x env; theTreesLotGoes x)) _ _ s
    refine wpAny_noted ?_
    unfold forTurn
    refine wpAny_bind (wpAny_standAt (wpAny_bind (wpAny_onRaise ?_)))
    have hi : i = kvs.length := by omega
    subst hi
    obtain ⟨h1, h2⟩ := hJ _ _ hj
    exact wpAny_pyNext_dict_end hh h1 h2 (by simp) fun h1 hk => wpAny_pure ⟨rfl, codeAny_block (wpAny_execs_nil (hend s h1 hj hk))⟩
  | n + 1, i, hn, s, hj => by
    refine codeAny_of_tree ?_
    show wpAny _ A ((forTurn tg (.ref it) body [] env).onRaise (fun x => do noteFrame x env; theTreesLotGoes x)) _ _ s
    refine wpAny_noted ?_
    unfold forTurn
    refine wpAny_bind (wpAny_standAt (wpAny_bind (wpAny_onRaise ?_)))
    have hlt : i < kvs.length := by omega
    obtain ⟨h1, h2⟩ := hJ _ _ hj
    obtain ⟨x, v, hkv⟩ : ∃ x v, kvs[i]? = some (x, v) := ⟨_, _, List.getElem?_eq_getElem hlt⟩
    refine wpAny_pyNext_dict_item h1 h2 (k := x) (v := v) hkv fun key h3 hkey hi3 hs3 => ?_
    obtain ⟨u, rfl⟩ := Value.isInt_shape (show key.isInt x = true from hkey)
    obtain ⟨y, p, rfl⟩ := hT
    have key := hbody i x v u s h3 hj hkv hi3 hs3
    refine wpAny_bind (wpAny_pure (a := ()) ?_)
    refine wpAny_bind (wpAny_mono key (fun _ s4 q4 => wpAny_bind (wpAny_mono q4 (fun f s5 q5 => ?_) fun _ _ z => z)) fun _ _ z => z)
    have cont : J (i + 1) s5 → codeAny (model P w) A (.forLoop (.Name y p) (.ref it) body [] env) R s5 := fun hj5 =>
      loop_dict ⟨y, p, rfl⟩ hh J hJ hbody hend n (i + 1) (by omega) s5 hj5
    cases f with
    | next => exact wpAny_pure ⟨rfl, cont q5⟩
    | cont => exact wpAny_pure ⟨rfl, cont q5⟩
    | brk => exact q5.elim
    | ret v => exact wpAny_pure q5

theorem Cx.widen {h : Heap} {F' : List Addr} {H' : Heap → Prop} (c : Cx X F h env sc (fun _ => none) ν H) (S' : Sep F' H') (x : H' h) (dis : ∀ a ∈ X, a ∉ F') (own : Off F' env) : Cx X F' h env sc (fun _ => none) ν H' := by
  refine ⟨⟨c.er.kind, c.er.glb, c.er.bi, c.er.kinds, fun y d e => (by cases e), fun a ha => ?_, c.er.apart, c.er.cells, c.er.loc, c.er.cel⟩, c.nb, x, S', dis, own⟩
  rcases List.mem_append.mp ha with q | q
  · obtain ⟨o, e, _⟩ := S'.live h x a q; exact ⟨o, e⟩
  · exact c.er.low a (List.mem_append_right _ q)
theorem Kp.ext {N : Nat} {h0 h h' : Heap} {it : Addr} (k : Kp N h0 h) (q : ∀ b o, b ≠ it → h.get? b = some o → h'.get? b = some o) (hit : h0.get? it = none) : Kp N h0 h' := fun b o e => by
  have hb : b ≠ it := fun z => by rw [z, hit] at e; cases e
  rcases k b o e with e1 | ⟨h1, h2, sl, e1⟩
  · exact .inl (q b o hb e1)
  · exact .inr ⟨h1, h2, sl, q b _ hb e1⟩
end
end Mine
end
section
open PySem.Calls PySem.Spec PySem.SeqAt Builtin Builtin.ObjectAttr
set_option maxRecDepth 100000
namespace Mine
section
variable {w : World} {h₀ : Heap} {k : Nat} {K : Frag} {S : SS} {X Z F : List Addr} {env : Env} {sc : Scope} {ν : Str → Option Value} {H : Heap → Prop} {N : Nat}

theorem KpX.keyIter {h h' : Heap} {it d : Addr} {i n ep : Nat} (q : KpX Z N h h') (x : h.IsKeyIter it d i n ep) (ha : it ∉ Z) : h'.IsKeyIter it d i n ep := by
  obtain ⟨o, ho, hc, r⟩ := x
  exact ⟨o, q.get ha ho (by rw [hc]; decide), hc, r⟩
theorem KpX.dictAt {h h' : Heap} {d : Addr} {kvs : List (Int × Value)} {ep : Nat} (q : KpX Z N h h') (x : h.DictAt (intKind P w) d kvs ep) (ha : d ∉ Z) : h'.DictAt (intKind P w) d kvs ep := by
  obtain ⟨o, es, ho, hc, r⟩ := x
  exact ⟨o, es, q.get ha ho (by rw [hc.1]; decide), hc, r⟩
theorem setOf_fresh {h : Heap} {a : Addr} {led : Bool} (e : h.get? a = some { cls := .type "set", dict := none, data := .set #[] 0 (.fresh 0 0 led) }) : h.SetOf (intKind P w) a (fun k => ([] : List Int).contains k) 0 :=
  ⟨_, #[], 0, _, e, ⟨rfl, rfl, rfl⟩, rfl, fun e he => by simp at he, fun k => by simp, by decide, by rfl, rfl⟩
theorem Lp.own {A : Around} {h00 h : Heap} {c c0 : CY} {q : Srch} {ν0 ν : Str → Option Value} (p : Lp w h₀ k S X env A Z h00 h c q ν0 ν) (n0 : Nu S c0 ν0) (hs : q.stack = []) : c.own = [c0.st, c0.its, c0.se, c0.n2] := by
  have e1 : c.els = [] := by have := p.iv.nm; rw [hs] at this; simpa using this
  have e2 : c.st = c0.st := by have h1 := p.nu.stack; rw [n0.stack] at h1; injection h1 with h2; injection h2 with h3; exact h3.symm
  have e3 : c.its = c0.its := by have h1 := p.nu.itstack; rw [n0.itstack] at h1; injection h1 with h2; injection h2 with h3; exact h3.symm
  have e4 : c.se = c0.se := by have h1 := p.nu.seen; rw [n0.seen] at h1; injection h1 with h2; injection h2 with h3; exact h3.symm
  have e5 : c.n2 = c0.n2 := by have h1 := p.nu.n2; rw [n0.n2] at h1; injection h1 with h2; injection h2 with h3; exact h3.symm
  unfold CY.own
  rw [e1, e2, e3, e4, e5]; rfl

inductive NamesJ (w : World) (h₀ : Heap) (k : Nat) (S : SS) (env : Env) (A : Around) (L it : Addr) (ep : Nat) (c0 : CY) (ν0 : Str → Option Value) (h000 : Heap) (s₀ : Shared) (b : Bool) (i : Nat) (s : Shared) : Prop
  | mk (h : Heap) (t : Nat) (c : CY) (q : Srch) (ν : Str → Option Value) (e : s = { s₀ with heap := h, toks := t }) (p : Lp w h₀ k S [it, L] env A [c0.st, c0.its, c0.se, c0.n2, L] h h c q ν0 ν) (kp : Kp h₀.objs.size h000 h)
      (hi : h.IsKeyIter it S.d i S.kvs.length ep) (hD : h.DictAt (intKind P w) S.d S.kvs ep) (hc : cycS S.nodes ((S.nodes.map (·.name)).drop i) q = some b) (hs : q.stack = []) (hz : q.seen.length ≤ 40 * i)
theorem cy_names (B : SK K h₀) (B0 : Base h₀) (G : SG h₀) (hSI : Gl h₀ "StopIteration" (.type "StopIteration")) {b : Bool} (hlen : S.ps.length ≤ 20) {A : Around} {L it : Addr} {ep : Nat} {c0 : CY} {ν0 : Str → Option Value} {h000 : Heap} {s₀ : Shared} {R : Result → Shared → Prop} {xp : Pos}
    (n0 : Nu S c0 ν0) (hw : Wr [L] env (mScope 6 8)) (hf : env.frame = some L) {outer : List Env} (hfr : A.frames = some (env :: outer)) (hoff : Off [it] env) (hh : A.handled = none)
    (hd0 : ∀ a ∈ [it, c0.st, c0.its, c0.se, c0.n2, L], h₀.get? a = none ∧ h000.get? a = none) (hitZ : it ∉ [c0.st, c0.its, c0.se, c0.n2, L]) (hdZ : S.d ∉ [c0.st, c0.its, c0.se, c0.n2, L]) (hdi : S.d ≠ it)
    (hret : ∀ l vs h1 t1, b = true → h1.PlainList l vs → 1 ≤ vs.size ∧ vs.size ≤ 2000 → Kp h₀.objs.size h000 h1 → S.At w h₀ h1 → h000.get? l = none → R (.ok (.ret (.ref l))) { s₀ with heap := h1, toks := t1 })
    (hend : ∀ h1 t1, b = false → Kp h₀.objs.size h000 h1 → S.At w h₀ h1 → R (.ok .next) { s₀ with heap := h1, toks := t1 })
    {h : Heap} {t : Nat} (p : Lp w h₀ k S [it, L] env A [c0.st, c0.its, c0.se, c0.n2, L] h h c0 ⟨[], [], [], []⟩ ν0 ν0) (kp : Kp h₀.objs.size h000 h) (hit : h.IsKeyIter it S.d 0 S.kvs.length ep) (hD : h.DictAt (intKind P w) S.d S.kvs ep) (hring : ringF S.nodes = some b) :
    codeAny (model P w) A (.forLoop (.Name "node" xp) (.ref it) forB [] env) R { s₀ with heap := h, toks := t } := by
  have hkl : S.kvs.length = S.ps.length := by unfold SS.kvs; rw [List.length_map]
  have hZd : ∀ a ∈ [c0.st, c0.its, c0.se, c0.n2, L], h000.get? a = none := fun a ha => (hd0 a (.tail _ ha)).2
  have hown0 : ∀ a ∈ [c0.st, c0.its, c0.se, c0.n2], a ∈ [c0.st, c0.its, c0.se, c0.n2, L] := fun a ha => by
    simp only [List.mem_cons, List.not_mem_nil, or_false] at ha ⊢
    rcases ha with h | h | h | h <;> simp [h]
  have hLZ : L ∈ [c0.st, c0.its, c0.se, c0.n2, L] := by simp
  let J : Nat → Shared → Prop := NamesJ w h₀ k S env A L it ep c0 ν0 h000 s₀ b
  refine loop_dict (w := w) (ep := ep) (d := S.d) ⟨_, _, rfl⟩ hh J (fun i s hj => ?_) (fun i x v u s h1 hj hkv it1 sb => ?_) (fun s h1 hj hk => ?_) S.kvs.length 0 (Nat.zero_add _) _ ⟨h, t, c0, _, ν0, rfl, p, kp, hit, hD, hring, rfl, Nat.le_refl _⟩
  · obtain ⟨h, t, c, q, ν, rfl, p, kp, hi, hD, _, _, _⟩ := hj
    exact ⟨hi, hD⟩
  · obtain ⟨h, t, c, q, ν, rfl, p, kp, hi, hD, hc, hs, hz⟩ := hj
    have hilt : i < S.ps.length := by rw [← hkl]; exact (List.getElem?_eq_some_iff.mp hkv).1
    have hkk : KpX [it] h₀.objs.size h h1 := by
      obtain ⟨o, ho, hc, hd⟩ := hi
      obtain ⟨o', ho', hc', _⟩ := it1
      exact .of_sameBut sb (.head _) ⟨o', ho', fun _ => ⟨o, ho, _, hd⟩, fun o₀ q => by rw [ho] at q; cases q; rw [hc, hc']⟩
    have hown := p.own n0 hs
    have p1 : Lp w h₀ k S [it, L] env A [c0.st, c0.its, c0.se, c0.n2, L] h1 h1 c q ν0 ν :=
      ⟨p.ok.kpx hkk fun a ha => by rw [List.mem_singleton.mp ha]; exact (hd0 it (.head _)).1, p.cx.step hkk hoff, p.iv, p.nu, p.le, fun a ha => .inl (hown0 a (hown ▸ ha)), .refl, p.fi.kpx hkk⟩
    have hD1 : h1.DictAt (intKind P w) S.d S.kvs ep := hkk.dictAt hD (fun q => hdi (List.mem_singleton.mp q))
    have kp1 : Kp h₀.objs.size h000 h1 := kp.step hkk fun a ha => by rw [List.mem_singleton.mp ha]; exact (hd0 it (.head _)).2
    have next : ∀ {h3 : Heap} {t3 : Nat} {c3 : CY} {q3 : Srch} {ν3 : Str → Option Value}, Lp w h₀ k S [it, L] env A [c0.st, c0.its, c0.se, c0.n2, L] h1 h3 c3 q3 ν0 ν3 → cycS S.nodes ((S.nodes.map (·.name)).drop (i + 1)) q3 = some b → q3.stack = [] → q3.seen.length ≤ 40 * (i + 1) → J (i + 1) { s₀ with heap := h3, toks := t3 } := by
      intro h3 t3 c3 q3 ν3 p3 hc3 hs3 hz3
      refine ⟨h3, t3, c3, q3, ν3, rfl, ⟨p3.ok, p3.cx, p3.iv, p3.nu, p3.le, fun a ha => .inl (hown0 a (p3.own n0 hs3 ▸ ha)), .refl, p3.fi⟩, kp1.step p3.kp hZd, p3.kp.keyIter it1 hitZ, p3.kp.dictAt hD1 hdZ, hc3, hs3, hz3⟩
    have hx : (S.nodes.map (·.name)).drop i = x :: (S.nodes.map (·.name)).drop (i + 1) := by
      have hl : i < (S.nodes.map (·.name)).length := by rw [List.length_map]; unfold SS.nodes; rw [List.length_map]; exact hilt
      rw [List.drop_eq_getElem_cons hl]
      congr 1
      have h1 : (S.nodes.map (·.name))[i]? = some x := by
        unfold SS.nodes
        unfold SS.kvs at hkv
        rw [List.getElem?_map] at hkv
        rw [List.getElem?_map, List.getElem?_map]
        cases hp : S.ps[i]? with
        | none => rw [hp] at hkv; cases hkv
        | some pp => rw [hp] at hkv; cases hkv; rfl
      exact (List.getElem?_eq_some_iff.mp h1).2
    rw [hx] at hc
    refine wpAny_assign_Name (p1.store (W := [L]) (y := x) (t := u) (s := { s₀ with heap := h1, toks := t }) (fun a ha => .tail _ ha) (hw _ (.inl (by decide +kernel))) (fun a ha => by rw [List.mem_singleton.mp ha]; exact ⟨(hd0 L (by simp)).1, .inl hLZ⟩) fun h3 t3 p3 k3 => ?_)
    refine wpAny_execs_cons (wpAny_If (wpAny_isTrue_Compare1 (name_cx (v := .int x u) (s := { s₀ with heap := h3, toks := t3 }) rfl p3.cx ?_)))
    refine name_cx (s := { s₀ with heap := h3, toks := t3 }) (p3.le _ _ p3.nu.seen) p3.cx (op_in_seen (s := { s₀ with heap := h3, toks := t3 }) p3.cx (wpAny_truthy_bool ?_))
    rw [p3.iv.seen]
    unfold cycS at hc
    cases hsx : q.seen.contains x with
    | true =>
      rw [hsx, if_pos rfl] at hc
      exact wpAny_execs_cons (wpAny_Continue (next p3 hc hs (by omega)))
    | false =>
      rw [hsx] at hc
      cases hl : loopS S.nodes 40 x q with
      | none => rw [hl] at hc; cases hc
      | some bq =>
        obtain ⟨b1, q1⟩ := bq
        rw [hl] at hc
        refine wpAny_execs_nil (wpAny_execs_cons (wpAny_While (cy_outer (s₀ := s₀) (M := 40 * (i + 1)) B B0 G hSI (by omega) (W := [L]) (fun a ha => .tail _ ha) hw (fun a ha => by rw [List.mem_singleton.mp ha]; exact ⟨(hd0 L (by simp)).1, .inl hLZ⟩) hf hfr (fun hb l vs h4 t4 pl hz4 k4 at4 hl0 => ?_) (fun c4 ν4 h4 t4 hb p4 => ?_) 40 hl p3 rfl (by omega))))
        · subst hb
          cases hc
          refine hret l vs h4 t4 rfl pl hz4 (kp1.step k4 hZd) at4 (kp1.dead hl0)
        · subst hb
          refine wpAny_execs_nil (next p4 hc (loopS_false _ _ hl) ?_)
          have := loopS_seen _ _ hl; omega
  · obtain ⟨h, t, c, q, ν, rfl, p, kp, hi, hD, hc, hs, hz⟩ := hj
    have hb : b = false := by
      have : (S.nodes.map (·.name)).drop S.kvs.length = [] := by
        rw [hkl]; unfold SS.nodes; simp
      rw [this] at hc
      unfold cycS at hc
      cases hc; rfl
    have hitS : it ∉ S.fp := fun z => by
      have := p.cx.dis it (.head _)
      exact this (List.mem_append_left _ z)
    exact hend h1 t hb (kp.ext (fun b o hb e => hk b o hb e) (hd0 it (.head _)).2) (SS.sep.loc _ _ p.cx.hp.s fun b hb o e => hk b o (fun z => hitS (z ▸ hb)) e)
end
end Mine
end
section
open PySem.Calls PySem.Spec PySem.SeqAt Builtin Builtin.ObjectAttr
set_option maxRecDepth 100000
namespace Mine
section
variable {w : World} {h₀ : Heap} {k : Nat} {K : Frag} {S : SS} {X Z F : List Addr} {env : Env} {sc : Scope} {ν : Str → Option Value} {H : Heap → Prop} {N : Nat}

theorem m_find (B : SK K h₀) (B0 : Base h₀) (G : SG h₀) (hSI : Gl h₀ "StopIteration" (.type "StopIteration")) {b : Bool} (hring : ringF S.nodes = some b) (hlen : S.ps.length ≤ 20) {A : Around} {s : Shared} {Q : Value → Shared → Prop} {E : Value → Shared → Prop}
    (ok : Ok h₀ (k + 1) A s.heap) (fi : FrI h₀ A s.heap) (at_ : S.At w h₀ s.heap)
    (h : ∀ v h1 t1, S.At w h₀ h1 → Kp h₀.objs.size s.heap h1 → ((b = false ∧ v = .none) ∨ (b = true ∧ ∃ l vs, v = .ref l ∧ h1.PlainList l vs ∧ 1 ≤ vs.size ∧ vs.size ≤ 2000 ∧ s.heap.get? l = none)) → Q v { s with heap := h1, toks := t1 }) :
    wpAny (model P w) A (call (.ref 127) [.ref S.x]) Q E s := by
  refine meth_frame (names := ["self"]) B B.f127 (fun _ _ _ _ _ _ => rfl) (by decide) (by decide +kernel) (by decide +kernel) ok at_ fun L env A' h2 t2 hLs c2 hw kp ok2 hL0 fr => ?_
  obtain ⟨hf, ⟨fs, hA, hA', _⟩, hLz, hLc⟩ := fr
  have fi2 : FrI h₀ A' h2 := fi.call (.refl _ _) kp hA hA' hf hLz hLc
  have hX0 : ∀ a ∈ [L], h₀.get? a = none := fun a ha => by rw [List.mem_singleton.mp ha]; exact hL0
  have alive : ∀ {h' : Heap} {a : Addr}, KpX [L] h₀.objs.size h2 h' → h'.get? a = none → h2.get? a = none := fun q e => q.deadX e
  refine hideQE fun Q₁ E₁ hQ₁ _ => ?_
  refine wpAny_execs_cons (wpAny_Assign_Name (at_self (s := { s with heap := h2, toks := t2 }) B rfl (by decide) ok2 c2 (fun _ x => x) fun v t t' h3 t3 hlv had ok3 c3 k3 => ?_))
  have hv : some (Value.ref S.d) = some v := hlv
  cases hv
  refine c3.store (N := h₀.objs.size) (s := { s with heap := h3, toks := t3 }) (hw _ (.inl (by decide +kernel))) rfl fun h4 t4 c4 k4 => ?_
  have ok4 := ok3.kpx k4 hX0
  have K4 : KpX [L] h₀.objs.size h2 h4 := k3.x.trans k4
  refine wpAny_execs_cons (wpAny_Assign_Name (fr_nil (S.fp ++ [L]) env A' { s with heap := h4, toks := t4 } _ _ ok4 c4.er fun st h5 t5 vs5 hst l5 rl5 k5 => ?_))
  have e5 : vs5 = #[] := by cases q : vs5.toList with | nil => exact Array.toList_eq_nil_iff.mp q | cons _ _ => rw [q] at rl5; cases rl5
  subst e5
  have off5 : Off [st] env := c4.er.off_fresh fun a ha => by rw [List.mem_singleton.mp ha]; exact hst
  refine (c4.kp k5).store (N := h₀.objs.size) (s := { s with heap := h5, toks := t5 }) (hw _ (.inl (by decide +kernel))) rfl fun h6 t6 c6 k6 => ?_
  have ok6 := (ok4.kp k5).kpx k6 hX0
  have K56 : KpX [L] h₀.objs.size h5 h6 := k6
  have hLst : st ∉ [L] := fun q => (off5 st (.head _)).1 (by
    have := c4.own
    rw [List.mem_singleton.mp q]
    obtain ⟨o, e⟩ := c4.er.low L (List.mem_append_right _ (.head _))
    rw [List.mem_singleton.mp q, e] at hst; cases hst)
  have K6 : KpX [L] h₀.objs.size h2 h6 := (K4.trans k5.x).trans k6
  refine wpAny_execs_cons (wpAny_Assign_Name (fr_nil (S.fp ++ [L]) env A' { s with heap := h6, toks := t6 } _ _ ok6 c6.er fun its h7 t7 vs7 hits l7 rl7 k7 => ?_))
  have e7 : vs7 = #[] := by cases q : vs7.toList with | nil => exact Array.toList_eq_nil_iff.mp q | cons _ _ => rw [q] at rl7; cases rl7
  subst e7
  have off7 : Off [its] env := c6.er.off_fresh fun a ha => by rw [List.mem_singleton.mp ha]; exact hits
  refine (c6.kp k7).store (N := h₀.objs.size) (s := { s with heap := h7, toks := t7 }) (hw _ (.inl (by decide +kernel))) rfl fun h8 t8 c8 k8 => ?_
  have ok8 := (ok6.kp k7).kpx k8 hX0
  have hLits : its ∉ [L] := fun q => by
    obtain ⟨o, e⟩ := c6.er.low L (List.mem_append_right _ (.head _))
    rw [List.mem_singleton.mp q, e] at hits; cases hits
  have K68 : KpX [L] h₀.objs.size h6 h8 := k7.x.trans k8
  refine wpAny_execs_cons (wpAny_Assign_Name (Call_Name (trees := _) rfl (load_gl (s := { s with heap := h8, toks := t8 }) ok8 c8.er (by decide +kernel) G.set (PyProof.Rows.callWith_type rfl (evalArgs_empty (call_set_0 fun led => ?_))))))
  have hse : h8.get? h8.objs.size = none := dead_size _ (Nat.le_refl _)
  have k9 : Kp h₀.objs.size h8 (h8.push { cls := .type "set", dict := none, data := .set #[] 0 (.fresh 0 0 led) }) := Kp.push _ _
  have s9 : (h8.push { cls := .type "set", dict := none, data := .set #[] 0 (.fresh 0 0 led) }).SetOf (intKind P w) h8.objs.size (fun k => ([] : List Int).contains k) 0 := setOf_fresh (Heap.get?_push_size _ rfl)
  show wpAny (model P w) A' (storeName env "seen" (.ref h8.objs.size)) _ _ { s with heap := h8.push { cls := .type "set", dict := none, data := .set #[] 0 (.fresh 0 0 led) }, toks := t8 }
  generalize h8.push { cls := .type "set", dict := none, data := .set #[] 0 (.fresh 0 0 led) } = h9 at *
  generalize h8.objs.size = se at *
  have off9 : Off [se] env := c8.er.off_fresh fun a ha => by rw [List.mem_singleton.mp ha]; exact hse
  refine (c8.kp k9).store (N := h₀.objs.size) (s := { s with heap := h9, toks := t8 }) (hw _ (.inl (by decide +kernel))) rfl fun h10 t10 c10 k10 => ?_
  have ok10 := (ok8.kp k9).kpx k10 hX0
  have hLse : se ∉ [L] := fun q => by
    obtain ⟨o, e⟩ := c8.er.low L (List.mem_append_right _ (.head _))
    rw [List.mem_singleton.mp q, e] at hse; cases hse
  have K810 : KpX [L] h₀.objs.size h8 h10 := k9.x.trans k10
  refine wpAny_execs_cons (wpAny_Assign_Name (wpAny_Dict_empty (s := { s with heap := h10, toks := t10 }) ?_))
  have hn2 : h10.get? h10.objs.size = none := dead_size _ (Nat.le_refl _)
  have k11 : Kp h₀.objs.size h10 (h10.push emptyDict) := Kp.push _ _
  have d11 : (h10.push emptyDict).DictOf (intKind P w) h10.objs.size [] := Heap.DictOf.new h10
  show wpAny (model P w) A' (storeName env "node2stacki" (.ref h10.objs.size)) _ _ { s with heap := h10.push emptyDict, toks := t10 }
  generalize h10.push emptyDict = h11 at *
  generalize h10.objs.size = n2 at *
  have off11 : Off [n2] env := c10.er.off_fresh fun a ha => by rw [List.mem_singleton.mp ha]; exact hn2
  refine (c10.kp k11).store (N := h₀.objs.size) (s := { s with heap := h11, toks := t10 }) (hw _ (.inl (by decide +kernel))) rfl fun h12 t12 c12 k12 => ?_
  have ok12 := (ok10.kp k11).kpx k12 hX0
  have hLn2 : n2 ∉ [L] := fun q => by
    obtain ⟨o, e⟩ := c10.er.low L (List.mem_append_right _ (.head _))
    rw [List.mem_singleton.mp q, e] at hn2; cases hn2
  have K1012 : KpX [L] h₀.objs.size h10 h12 := k11.x.trans k12
  have K5 : KpX [L] h₀.objs.size h5 h12 := ((k6.trans K68).trans K810).trans K1012
  have K7 : KpX [L] h₀.objs.size h7 h12 := (k8.trans K810).trans K1012
  have K9 : KpX [L] h₀.objs.size h9 h12 := k10.trans K1012
  have K12 : KpX [L] h₀.objs.size h2 h12 := (K4.trans k5.x).trans K5
  have dst : h4.get? st = none := hst
  have live5 : ∃ o, h6.get? st = some o := k6.there (let ⟨n, e⟩ := l5; ⟨_, e⟩)
  have live7 : ∃ o, h8.get? its = some o := k8.there (let ⟨n, e⟩ := l7; ⟨_, e⟩)
  have live58 : ∃ o, h8.get? st = some o := K68.there live5
  have live9 : ∃ o, h10.get? se = some o := k10.there (let ⟨o, es, ep, t, e, _⟩ := s9; ⟨_, e⟩)
  have ne1 : st ≠ its := fun q => by obtain ⟨o, e⟩ := live5; rw [q, hits] at e; cases e
  have ne2 : st ≠ se := fun q => by obtain ⟨o, e⟩ := live58; rw [q, hse] at e; cases e
  have ne3 : its ≠ se := fun q => by obtain ⟨o, e⟩ := live7; rw [q, hse] at e; cases e
  have ne4 : st ≠ n2 := fun q => by obtain ⟨o, e⟩ := K810.there live58; rw [q, hn2] at e; cases e
  have ne5 : its ≠ n2 := fun q => by obtain ⟨o, e⟩ := K810.there live7; rw [q, hn2] at e; cases e
  have ne6 : se ≠ n2 := fun q => by obtain ⟨o, e⟩ := live9; rw [q, hn2] at e; cases e
  have dead2 : ∀ a ∈ [st, its, se, n2], h2.get? a = none := fun a ha => by
    simp only [List.mem_cons, List.not_mem_nil, or_false] at ha
    rcases ha with rfl | rfl | rfl | rfl
    · exact K4.deadX hst
    · exact K6.deadX hits
    · exact (K6.trans K68).deadX hse
    · exact ((K6.trans K68).trans K810).deadX hn2
  have dead0 : ∀ a ∈ [st, its, se, n2], h₀.get? a = none := fun a ha => ok2.dead (dead2 a ha)
  have deads : ∀ a ∈ [st, its, se, n2], s.heap.get? a = none := fun a ha => kp.dead (dead2 a ha)
  have offS : ∀ a ∈ [st, its, se, n2], a ∉ S.fp := fun a ha q => by
    obtain ⟨o, e, _⟩ := SS.sep.live _ at_ a q
    rw [deads a ha] at e; cases e
  have hnL : L ∉ [st, its, se, n2] := fun q => by
    simp only [List.mem_cons, List.not_mem_nil, or_false] at q
    rcases q with q | q | q | q
    · exact hLst (by rw [q]; exact .head _)
    · exact hLits (by rw [q]; exact .head _)
    · exact hLse (by rw [q]; exact .head _)
    · exact hLn2 (by rw [q]; exact .head _)
  have hown : CY.own ⟨st, its, se, n2, [], [], [], [], []⟩ = [st, its, se, n2] := rfl
  have at12 : (CY.At w h₀ S ⟨st, its, se, n2, [], [], [], [], []⟩ h12) := by
    refine ⟨c12.hp, ⟨#[], K5.plain hLst l5, .nil⟩, K7.plain hLits l7, ⟨0, Nat.le_refl _, ?_⟩, ⟨[], ?_, .nil⟩, fun e he => (by cases he), ?_, fun a ha => dead0 a ha⟩
    · obtain ⟨o, es, ep, t, e, hx, r⟩ := s9
      exact ⟨o, es, ep, t, K9.get hLse e (by rw [hx.1]; decide), hx, r⟩
    · obtain ⟨o, es, ep, e, hx, r⟩ := d11
      exact ⟨o, es, ep, k12.get hLn2 e (by rw [hx.1]; decide), hx, r⟩
    · show (S.fp ++ [st, its, se, n2]).Nodup
      rw [List.nodup_append]
      refine ⟨at_.nd, ?_, fun a ha b hb q => offS b hb (q ▸ ha)⟩
      simp [ne1, ne2, ne3, ne4, ne5, ne6]
  have C12 := c12.widen (F' := CY.fp S ⟨st, its, se, n2, [], [], [], [], []⟩) CY.sep at12 (fun a ha q => by
      rw [List.mem_singleton.mp ha] at q
      rcases List.mem_append.mp q with z | z
      · exact c12.dis L (.head _) z
      · exact hnL z) (fun a ha => by
      rcases List.mem_append.mp ha with z | z
      · exact c12.own a z
      · have : a ∈ [st, its, se, n2] := z
        simp only [List.mem_cons, List.not_mem_nil, or_false] at this
        rcases this with rfl | rfl | rfl | rfl
        · exact off5 a (.head _)
        · exact off7 a (.head _)
        · exact off9 a (.head _)
        · exact off11 a (.head _))
  obtain ⟨ep, hD⟩ := at12.s.d.dictAt
  refine wpAny_execs_cons (wpAny_For (name_cx (v := .ref S.d) (s := { s with heap := h12, toks := t12 }) rfl C12 (wpAny_pyIter_dict (s := { s with heap := h12, toks := t12 }) (S.ne_sys B at12.s) hD ?_)))
  have hit : h12.get? h12.objs.size = none := dead_size _ (Nat.le_refl _)
  have k13 : Kp h₀.objs.size h12 (h12.push { cls := .type "dict_keyiterator", data := .fields #[.ref S.d, .int 0 0, .int S.kvs.length 0, .int ep 0] }) := Kp.push _ _
  have i13 : (h12.push { cls := .type "dict_keyiterator", data := .fields #[.ref S.d, .int 0 0, .int S.kvs.length 0, .int ep 0] }).IsKeyIter h12.objs.size S.d 0 S.kvs.length ep := ⟨_, Heap.get?_push_size _ rfl, rfl, rfl⟩
  have d13 : (h12.push { cls := .type "dict_keyiterator", data := .fields #[.ref S.d, .int 0 0, .int S.kvs.length 0, .int ep 0] }).DictAt (intKind P w) S.d S.kvs ep := hD.push _
  have off13 : Off [h12.objs.size] env := C12.er.off_fresh fun a ha => by rw [List.mem_singleton.mp ha]; exact hit
  show codeAny (model P w) A' (.forLoop _ (.ref h12.objs.size) _ _ env) _ { s with heap := h12.push { cls := .type "dict_keyiterator", data := .fields #[.ref S.d, .int 0 0, .int S.kvs.length 0, .int ep 0] }, toks := t12 }
  generalize h12.push { cls := .type "dict_keyiterator", data := .fields #[.ref S.d, .int 0 0, .int S.kvs.length 0, .int ep 0] } = h13 at *
  generalize h12.objs.size = it at *
  have hits0 : s.heap.get? it = none := kp.dead (K12.deadX hit)
  have C13 := C12.addX hit k13 (let ⟨o, e, _⟩ := i13; ⟨o, e⟩)
  have hdd : S.d ∈ S.fp := .tail _ (.tail _ (.head _))
  have hitZ : it ∉ [st, its, se, n2, L] := fun q => by
    have : it ∈ [st, its, se, n2] ∨ it = L := by
      simp only [List.mem_cons, List.not_mem_nil, or_false] at q ⊢
      rcases q with q | q | q | q | q
      · exact .inl (.inl q)
      · exact .inl (.inr (.inl q))
      · exact .inl (.inr (.inr (.inl q)))
      · exact .inl (.inr (.inr (.inr q)))
      · exact .inr q
    rcases this with z | z
    · obtain ⟨o, e, _⟩ := CY.sep.live _ at12 it (List.mem_append_right _ z)
      rw [hit] at e; cases e
    · obtain ⟨o, e⟩ := C12.er.low L (List.mem_append_right _ (.head _))
      rw [← z, hit] at e; cases e
  refine cy_names (h000 := s.heap) (s₀ := s) (k := k) (c0 := ⟨st, its, se, n2, [], [], [], [], []⟩) (L := L) B B0 G hSI hlen ⟨rfl, rfl, rfl, rfl, rfl, rfl, rfl⟩ hw hf hA' off13 ok2.hh (fun a ha => ?_) hitZ (fun q => ?_) (fun q => ?_) (fun l vs h1 t1 hb pl hz k1 at1 hl => ?_) (fun h1 t1 hb k1 at1 => ?_) ⟨ok12.kp k13, C13, ⟨rfl, rfl, rfl, rfl, rfl, rfl, fun p hp => (by cases hp), Nat.le_refl _, Nat.le_refl _, Nat.zero_le _⟩, ⟨rfl, rfl, rfl, rfl, rfl, rfl, rfl⟩, fun y v e => e, fun a ha => .inl ?_, .refl, (fi2.kpx K12).kp k13⟩ ((kp.step K12 fun a ha => by rw [List.mem_singleton.mp ha]; exact hLs).trans k13) i13 d13 hring
  · rcases List.mem_cons.mp ha with rfl | ha
    · exact ⟨ok2.dead (K12.deadX hit), hits0⟩
    · have : a ∈ [st, its, se, n2] ∨ a = L := by
        simp only [List.mem_cons, List.not_mem_nil, or_false] at ha ⊢
        rcases ha with q | q | q | q | q
        · exact .inl (.inl q)
        · exact .inl (.inr (.inl q))
        · exact .inl (.inr (.inr (.inl q)))
        · exact .inl (.inr (.inr (.inr q)))
        · exact .inr q
      rcases this with z | z
      · exact ⟨dead0 a z, deads a z⟩
      · rw [z]; exact ⟨hL0, hLs⟩
  · have : S.d ∈ [st, its, se, n2] ∨ S.d = L := by
      simp only [List.mem_cons, List.not_mem_nil, or_false] at q ⊢
      rcases q with q | q | q | q | q
      · exact .inl (.inl q)
      · exact .inl (.inr (.inl q))
      · exact .inl (.inr (.inr (.inl q)))
      · exact .inl (.inr (.inr (.inr q)))
      · exact .inr q
    rcases this with z | z
    · exact offS _ z hdd
    · obtain ⟨o, e, _⟩ := SS.sep.live _ at_ _ hdd
      rw [z, hLs] at e; cases e
  · obtain ⟨o, e, _⟩ := SS.sep.live _ at_ _ hdd
    rw [q, hits0] at e; cases e
  · exact hQ₁ _ _ (h _ h1 t1 at1 k1 (.inr ⟨hb, l, vs, rfl, pl, hz.1, hz.2, hl⟩))
  · exact wpAny_execs_cons (wpAny_Return_some (wpAny_Constant_none (hQ₁ _ _ (h _ h1 t1 at1 k1 (.inl ⟨hb, rfl⟩)))))
  · have : a ∈ [st, its, se, n2] := ha
    simp only [List.mem_cons, List.not_mem_nil, or_false] at this ⊢
    rcases this with q | q | q | q <;> simp [q]
end
end Mine
end
section
open PySem.Calls PySem.Spec PySem.SeqAt Builtin Builtin.ObjectAttr
set_option maxRecDepth 100000
namespace Mine
noncomputable def asgV : Option Stmt → Expr
  | some (.Assign (value := e) ..) => e
  | _ => .Name "" ⟨0, 0, 0, 0⟩
noncomputable def lcElt : Expr → Expr
  | .ListComp e _ _ _ => e
  | e => e
noncomputable def lcGens : Expr → List Comprehension
  | .ListComp _ g _ _ => g
  | _ => []
noncomputable def lcSc : Expr → Scope
  | .ListComp _ _ s _ => s
  | _ => default
noncomputable def lcPos : Expr → Pos
  | .ListComp _ _ _ p => p
  | _ => ⟨0, 0, 0, 0⟩
noncomputable def preC : Expr := asgV (mBody 6 3)[1]?

section
variable {w : World} {h₀ : Heap} {k : Nat} {K : Frag} {S : SS} {X Z F : List Addr} {env : Env} {sc : Scope} {δ : Str → Option PyData} {ν : Str → Option Value} {H : Heap → Prop} {N : Nat} {A : Around} {E : Value → Shared → Prop} {s : Shared}

theorem KpX.valIter {h h' : Heap} {it d : Addr} {i n ep : Nat} (q : KpX Z N h h') (x : h.IsValIter it d i n ep) (ha : it ∉ Z) : h'.IsValIter it d i n ep := by
  obtain ⟨o, ho, hc, r⟩ := x
  exact ⟨o, q.get ha ho (by rw [hc]; decide), hc, r⟩
theorem test1 {c : Expr} {env : Env} {Q : Bool → Shared → Prop} (h : wpAny (model P w) A (PySem.isTrue c env (eval c env)) Q E s) :
    wpAny (model P w) A (forIn [c] true fun c r => if r = true then do let ok ← PySem.isTrue c env (eval c env); pure (ForInStep.yield ok) else pure (ForInStep.yield r)) Q E s := by
  simp only [List.forIn_cons, List.forIn_nil, if_true]
  exact wpAny_bind (wpAny_bind (wpAny_mono h (fun b s1 q => wpAny_pure (wpAny_pure q)) fun _ _ q => q))
theorem readyF_take (ps : List NIa) (i : Nat) (p : NIa) (hp : ps[i]? = some p) : readyF ((ps.take (i + 1)).map (·.nd)) = readyF ((ps.take i).map (·.nd)) ++ if p.nd.np == 0 then [p.nd.name] else [] := by
  have : ps.take (i + 1) = ps.take i ++ [p] := by rw [List.take_add_one, hp]; rfl
  rw [this]
  unfold readyF
  rw [List.map_append, List.filter_append, List.map_append]
  congr 1
  show (List.filter _ [p.nd]).map _ = _
  rw [List.filter_cons]
  split <;> rfl

theorem pre_loop (B : SK K h₀) {it D : Addr} {ep : Nat} {hs : Heap} {R : Result → Shared → Prop} {s₀ : Shared} (hsz : S.ps.length ≤ 900) (hw : Wrt X env (lcSc preC) "i")
    (hX : ∀ a ∈ X, h₀.get? a = none ∧ hs.get? a = none) (hi : h₀.get? it = none ∧ hs.get? it = none) (hD : h₀.get? D = none ∧ hs.get? D = none) (hiX : it ∉ X) (hDX : D ∉ X) (hDi : D ≠ it) (hdX : S.d ∉ X) (hdi : S.d ≠ it) (hdD : S.d ≠ D) (hiO : Off [it] env) (hDO : Off [D] env) (hiS : it ∉ S.fp) (hDS : D ∉ S.fp)
    (hR : ∀ h t vs, h.PlainList D vs → IntsAre vs.toList (readyF S.nodes) → Kp h₀.objs.size hs h → (∃ m, h.Ns env.locals m) → S.At w h₀ h → R (.ok .next) { s₀ with heap := h, toks := t }) :
    ∀ (n i : Nat), i + n = S.ps.length → ∀ h t vs, Ok h₀ k A h → Cx X S.fp h env (lcSc preC) (fun _ => none) (fun _ => none) (S.At w h₀) → h.PlainList D vs → IntsAre vs.toList (readyF ((S.ps.take i).map (·.nd))) → h.IsValIter it S.d i S.kvs.length ep → h.DictAt (intKind P w) S.d S.kvs ep → Kp h₀.objs.size hs h →
      codeAny (model P w) A (.compLoop (.ListComp (lcElt preC) (lcGens preC) (lcSc preC) (lcPos preC)) 0 (.ref it) (.ref D) env) R { s₀ with heap := h, toks := t }
  | 0, i, hn, h, t, vs, ok, c, l, hin, iti, hDt, kp => by
    refine codeAny_of_tree ?_
    show wpAny _ A ((compTurn (.ListComp (lcElt preC) (lcGens preC) (lcSc preC) (lcPos preC)) 0 (.ref it) (.ref D) env).onRaise (fun x => do noteFrame x env; theTreesLotGoes x)) _ _ _
    refine wpAny_noted ?_
    rw [compTurn_last rfl rfl]
    have hkl : S.kvs.length = S.ps.length := by unfold SS.kvs; rw [List.length_map]
    have hi' : i = S.kvs.length := by omega
    subst hi'
    refine wpAny_bind (wpAny_standAt (wpAny_bind (wpAny_pyNext_values_end ok.hh iti hDt (by simp) fun h1 hk => wpAny_pure ?_)))
    rw [hkl, List.take_length] at hin
    have hk' : ∀ b o, b ≠ it → h.get? b = some o → h1.get? b = some o := fun b o hb e => hk b o hb e
    have hl : env.locals ≠ it := fun q => (hiO it (.head _)).1 q.symm
    refine hR h1 t vs (let ⟨n, e⟩ := l; ⟨n, hk' D _ hDi e⟩) hin (kp.ext hk' hi.2) (let ⟨m, o, es, ep, e, r⟩ := c.er.loc; ⟨m, o, es, ep, hk' _ _ hl e, r⟩) (SS.sep.loc _ _ c.hp fun b hb o e => hk' b o (fun q => hiS (q ▸ hb)) e)
  | n + 1, i, hn, h, t, vs, ok, c, l, hin, iti, hDt, kp => by
    refine codeAny_of_tree ?_
    show wpAny _ A ((compTurn (.ListComp (lcElt preC) (lcGens preC) (lcSc preC) (lcPos preC)) 0 (.ref it) (.ref D) env).onRaise (fun x => do noteFrame x env; theTreesLotGoes x)) _ _ _
    refine wpAny_noted ?_
    rw [compTurn_last rfl rfl]
    have hilt : i < S.ps.length := by omega
    obtain ⟨p, hp⟩ : ∃ p, S.ps[i]? = some p := ⟨_, List.getElem?_eq_getElem hilt⟩
    have hpm : p ∈ S.ps := List.mem_of_getElem? hp
    have hkv : S.kvs[i]? = some (p.nd.name, .ref p.i) := by unfold SS.kvs; rw [List.getElem?_map, hp]; rfl
    refine wpAny_bind (wpAny_standAt (wpAny_bind (wpAny_pyNext_values_item iti hDt hkv fun h1 it1 sb => ?_)))
    have hkk : KpX [it] h₀.objs.size h h1 := by
      obtain ⟨o, ho, hc, hd⟩ := iti
      obtain ⟨o', ho', hc', _⟩ := it1
      exact .of_sameBut sb (.head _) ⟨o', ho', fun _ => ⟨o, ho, _, hd⟩, fun o₀ q => by rw [ho] at q; cases q; rw [hc, hc']⟩
    have ok1 := ok.kpx hkk fun a ha => by rw [List.mem_singleton.mp ha]; exact hi.1
    have c1 : Cx X S.fp h1 env (lcSc preC) (fun _ => none) (fun _ => none) (S.At w h₀) := by
      refine ⟨⟨c.er.kind, c.er.glb, c.er.bi, c.er.kinds, fun y d e => (by cases e), fun a ha => hkk.there (c.er.low a ha), c.er.apart, c.er.cells, ?_, fun x cc e => ?_⟩, fun y v e => (by cases e), SS.sep.kpx c.hp hkk fun a ha q => hiS (by rwa [List.mem_singleton.mp ha] at q), c.sep, c.dis, c.own⟩
      · obtain ⟨m, e⟩ := c.er.loc
        exact ⟨m, hkk.ns (fun q => (hiO it (.head _)).1 (List.mem_singleton.mp q).symm) e⟩
      · obtain ⟨v, e'⟩ := c.er.cel x cc e
        exact ⟨v, hkk.isCell (fun q => (hiO it (.head _)).2 x cc e (List.mem_singleton.mp q).symm) e'⟩
    have D1 := hkk.dictAt hDt (fun q => hdi (List.mem_singleton.mp q))
    have l1 := hkk.plain (fun q => hDi (List.mem_singleton.mp q)) l
    refine wpAny_bind (wpAny_pure (a := ()) (wpAny_bind (wpAny_assign_Name (c1.store (N := h₀.objs.size) (s := { s₀ with heap := h1, toks := t }) hw rfl fun h2 t2 c2 k2 => ?_))))
    have ok2 := ok1.kpx k2 fun a ha => (hX a ha).1
    have l2 := k2.plain hDX l1
    have D2 := k2.dictAt D1 hdX
    have it2 := k2.valIter it1 hiX
    have kp2 : Kp h₀.objs.size hs h2 := (kp.step hkk fun a ha => by rw [List.mem_singleton.mp ha]; exact hi.2).step k2 fun a ha => (hX a ha).2
    refine wpAny_bind (test1 (wpAny_isTrue_Compare1 (Attribute_Name_ (RE.cx (re_name (v := .ref p.i) rfl) (s := { s₀ with heap := h2, toks := t2 }) ok2 c2 fun h3 t3 ok3 c3 k3 => np_get (s := { s₀ with heap := h3, toks := t3 }) B hpm ok3 c3.hp fun tnp => ?_))))
    refine EvE.cx (d := .int 0) ev_int (s := { s₀ with heap := h3, toks := t3 + 1 }) ok3 c3 fun v4 h4 t4 r4 ok4 c4 k4 => ?_
    obtain ⟨t0, rfl⟩ := r4.int_inv
    refine PyProof.Rows.eq_int (wpAny_truthy_bool ?_)
    have k34 := k3.trans k4
    have hwk : ∀ {h' : Heap}, Cx X S.fp h' env (lcSc preC) (fun _ => none) (updV (fun _ => none) "i" (.ref p.i)) (S.At w h₀) → Cx X S.fp h' env (lcSc preC) (fun _ => none) (fun _ => none) (S.At w h₀) := fun z => z.forget (fun _ _ e => e) fun _ _ e => by cases e
    have hrt := readyF_take S.ps i p hp
    cases e0 : (p.nd.np == 0) with
    | false =>
      rw [e0] at hrt
      refine wpAny_pure ⟨rfl, ?_⟩
      exact pre_loop B hsz hw hX hi hD hiX hDX hDi hdX hdi hdD hiO hDO hiS hDS hR n (i + 1) (by omega) h4 t4 vs ok4 (hwk c4) (k34.plain l2) (by rw [hrt]; simpa using hin) (k34.x.valIter (Z := []) it2 (fun q => by cases q)) (k34.x.dictAt (Z := []) D2 (fun q => by cases q)) (kp2.trans k34)
    | true =>
      rw [e0] at hrt
      refine wpAny_bind (wpAny_bind (Attribute_Name_ (RE.cx (re_name (v := .ref p.i) rfl) (s := { s₀ with heap := h4, toks := t4 }) ok4 c4 fun h5 t5 ok5 c5 k5 => ?_)))
      obtain ⟨tn, tnp', vs', ni, _, _⟩ := c5.hp.ps p hpm
      refine get_slotM (s := { s₀ with heap := h5, toks := t5 }) (B.kin ok5.stays) B.ni B.nic B.sNode ni.1 ni.2 (v := .int p.nd.name tn) rfl rfl ?_
      have l5 := k5.plain (k34.plain l2)
      have hvz : vs.size ≤ sizeLine := by
        have h1 : vs.toList.length = _ := ints_length hin
        have h2 : (readyF ((S.ps.take i).map (·.nd))).length ≤ S.ps.length := by
          unfold readyF
          rw [List.length_map]
          refine Nat.le_trans (List.length_filter_le _ _) ?_
          rw [List.length_map, List.length_take]; omega
        rw [szl, ← Array.length_toList]; omega
      refine wpAny_bind (wpAny_list_append_plain (s := { s₀ with heap := h5, toks := t5 + 1 }) (hsz := hvz) l5 fun h6 l6 s6 => wpAny_pure ?_)
      have k6 : KpX [D] h₀.objs.size h5 h6 := list_kp l5 l6 s6
      have c6 : Cx X S.fp h6 env (lcSc preC) (fun _ => none) (fun _ => none) (S.At w h₀) := by
        have c5' := hwk c5
        refine ⟨⟨c5'.er.kind, c5'.er.glb, c5'.er.bi, c5'.er.kinds, fun y d e => (by cases e), fun a ha => k6.there (c5'.er.low a ha), c5'.er.apart, c5'.er.cells, ?_, fun x cc e => ?_⟩, fun y v e => (by cases e), SS.sep.kpx c5'.hp k6 fun a ha q => hDS (by rwa [List.mem_singleton.mp ha] at q), c5'.sep, c5'.dis, c5'.own⟩
        · obtain ⟨m, e⟩ := c5'.er.loc
          exact ⟨m, k6.ns (fun q => (hDO D (.head _)).1 (List.mem_singleton.mp q).symm) e⟩
        · obtain ⟨v, e'⟩ := c5'.er.cel x cc e
          exact ⟨v, k6.isCell (fun q => (hDO D (.head _)).2 x cc e (List.mem_singleton.mp q).symm) e'⟩
      have hk : ∀ {P : Prop}, P → P := id
      refine wpAny_pure ⟨rfl, ?_⟩
      have k35 := k34.trans k5
      refine pre_loop B hsz hw hX hi hD hiX hDX hDi hdX hdi hdD hiO hDO hiS hDS hR n (i + 1) (by omega) h6 (t5 + 1) _ (ok5.kpx k6 fun a ha => by rw [List.mem_singleton.mp ha]; exact hD.1) c6 l6 ?_ (k6.valIter (k35.x.valIter (Z := []) it2 (fun q => by cases q)) (fun q => hDi (List.mem_singleton.mp q).symm)) (k6.dictAt (k35.x.dictAt (Z := []) D2 (fun q => by cases q)) (fun q => hdD (List.mem_singleton.mp q))) ((kp2.trans k35).step k6 fun a ha => by rw [List.mem_singleton.mp ha]; exact hD.2)
      rw [hrt, Array.toList_push]
      exact ints_app hin (.cons _ tn .nil)
end
end Mine
end
section
open PySem.Calls PySem.Spec PySem.SeqAt Builtin Builtin.ObjectAttr
set_option maxRecDepth 100000
namespace Mine
section
variable {w : World} {h₀ : Heap} {k : Nat} {K : Frag} {S : SS} {X Z F : List Addr} {env : Env} {ν : Str → Option Value} {A : Around} {E : Value → Shared → Prop} {s : Shared}

theorem ready_comp (B : SK K h₀) (hsz : S.ps.length ≤ 900) {Q : Value → Shared → Prop} (hx : ν "self" = some (.ref S.x)) (ok : Ok h₀ k A s.heap) (c : Cx X S.fp s.heap env (mScope 6 3) (fun _ => none) ν (S.At w h₀))
    (h : ∀ D vs h1 t1, h1.PlainList D vs → IntsAre vs.toList (readyF S.nodes) → Kp h₀.objs.size s.heap h1 → s.heap.get? D = none → Q (.ref D) { s with heap := h1, toks := t1 }) :
    wpAny (model P w) A (eval (.ListComp (lcElt preC) (lcGens preC) (lcSc preC) (lcPos preC)) env) Q E s := by
  rw [eval_ListComp, show firstAsync (lcGens preC) = false from rfl]
  refine wpAny_comprehension_free (cl := closL env (lcSc preC).names []) rfl (fun _ => rfl) rfl rfl (by decide +kernel) ?_
  show wpAny (model P w) A (PySem.eval _ env) _ _ _
  refine wpAny_Call_method0_late rfl rfl (at_self B hx (by decide) ok c (fun _ x => x) fun v t t' h1 t1 hlv had ok1 c1 k1 => ?_)
  have hv : some (Value.ref S.d) = some v := hlv
  cases hv
  obtain ⟨ep, hD⟩ := c1.hp.d.dictAt
  refine ⟨"dict", "dict.values", PySem.F.plainAttrs_dict, PySem.F.slot_dict_values, PySem.F.type_dict_values, c1.hp.d.typeIs (s := { s with heap := h1, toks := t1 }), c1.hp.d.mapOf.noDict, Calls.callWith_builtin rfl (evalArgs_empty (call_meetsIn PySem.F.slot_dict_values (c1.hp.d.typeIs (s := { s with heap := h1, toks := t1 })) PySem.F.entry_dict_values (PySem.F.args_dict_values_1 _) (meets_dict_values (intKind P w) S.d (S.ne_sys B c1.hp)) ⟨⟨_, c1.hp.d⟩, ?_⟩))⟩
  have kv : Kp h₀.objs.size h1 (h1.push { cls := .type "dict_values", data := .fields #[.ref S.d] }) := Kp.push _ _
  have vv : (h1.push { cls := .type "dict_values", data := .fields #[.ref S.d] }).IsValuesView h1.objs.size S.d := ⟨_, Heap.get?_push_size _ rfl, rfl, rfl⟩
  have hDv : (h1.push { cls := .type "dict_values", data := .fields #[.ref S.d] }).DictAt (intKind P w) S.d S.kvs ep := hD.push _
  show wpAny (model P w) A (pyIter (.ref h1.objs.size)) _ _ { s with heap := h1.push { cls := .type "dict_values", data := .fields #[.ref S.d] }, toks := t1 }
  generalize h1.push { cls := .type "dict_values", data := .fields #[.ref S.d] } = hv at *
  generalize h1.objs.size = va at *
  refine wpAny_pyIter_values (s := { s with heap := hv, toks := t1 }) vv hDv ?_
  have hit : hv.get? hv.objs.size = none := dead_size _ (Nat.le_refl _)
  have ki : Kp h₀.objs.size hv (hv.push { cls := .type "dict_valueiterator", data := .fields #[.ref S.d, .int 0 0, .int S.kvs.length 0, .int ep 0] }) := Kp.push _ _
  have ii : (hv.push { cls := .type "dict_valueiterator", data := .fields #[.ref S.d, .int 0 0, .int S.kvs.length 0, .int ep 0] }).IsValIter hv.objs.size S.d 0 S.kvs.length ep := ⟨_, Heap.get?_push_size _ rfl, rfl, rfl⟩
  have hDi : (hv.push { cls := .type "dict_valueiterator", data := .fields #[.ref S.d, .int 0 0, .int S.kvs.length 0, .int ep 0] }).DictAt (intKind P w) S.d S.kvs ep := hDv.push _
  show wpAny (model P w) A (newList []) _ _ { s with heap := hv.push { cls := .type "dict_valueiterator", data := .fields #[.ref S.d, .int 0 0, .int S.kvs.length 0, .int ep 0] }, toks := t1 }
  generalize hv.push { cls := .type "dict_valueiterator", data := .fields #[.ref S.d, .int 0 0, .int S.kvs.length 0, .int ep 0] } = h2 at *
  generalize hv.objs.size = it at *
  refine wpAny_newObj_type (hd := by size_fits) (newEnv_comp ?_)
  dsimp only
  have hD2 : h2.get? h2.objs.size = none := dead_size _ (Nat.le_refl _)
  generalize hH3 : h2.push { cls := .type "list", dict := none, data := .seq ([] : List Value).toArray } = h3
  have hsz3 : h3.objs.size = h2.objs.size + 1 := by rw [← hH3]; exact Heap.size_push ..
  have k3 : Kp h₀.objs.size h2 h3 := by rw [← hH3]; exact Kp.push _ _
  have hlD : h3.PlainList h2.objs.size #[] := by rw [← hH3]; exact ⟨0, Heap.get?_push_size _ rfl⟩
  have k23 : Kp h₀.objs.size h1 h2 := kv.trans ki
  have c3 := (c1.kp k23).kp k3
  have ok3 := (ok1.kp k23).kp k3
  obtain ⟨er4, hw, hcX, hcell⟩ := cEnvR (scope := lcSc preC) c3.er rfl (by decide +kernel) (by decide +kernel)
  have k4 : Kp h₀.objs.size h3 (pushCells (h3.push { cls := .type "dict", data := .dict #[] }) (lcSc preC).names) := .of_keeps fun b o e => pushCells_keeps _ _ _ _ (Heap.get?_push_of_some _ e)
  generalize hH4 : pushCells (h3.push { cls := .type "dict", data := .dict #[] }) (lcSc preC).names = h4 at er4 k4
  have k14 : Kp h₀.objs.size s.heap h1 := k1
  have K4 : Kp h₀.objs.size s.heap h4 := ((k1.trans k23).trans k3).trans k4
  have itA : ∃ o, h2.get? it = some o := let ⟨o, e, _⟩ := ii; ⟨o, e⟩
  have dd : ∃ o, h2.get? S.d = some o := let ⟨o, es, e, _⟩ := hDi; ⟨o, e⟩
  have ltit : it < h2.objs.size := let ⟨o, e⟩ := itA; Heap.lt_size e
  have ltd : S.d < h2.objs.size := let ⟨o, e⟩ := dd; Heap.lt_size e
  have his : s.heap.get? it = none := ((k1.trans kv).dead hit)
  have hDs : s.heap.get? h2.objs.size = none := (k1.trans k23).dead hD2
  have hXs : ∀ a ∈ cX (lcSc preC) env h3.objs.size, s.heap.get? a = none := fun a ha => ((k1.trans k23).trans k3).dead (dead_size _ (hcX a ha))
  have hXl : ∀ a ∈ cX (lcSc preC) env h3.objs.size, h2.objs.size + 1 ≤ a := fun a ha => hsz3 ▸ hcX a ha
  have offF : ∀ a, s.heap.get? a = none → a ∉ S.fp := fun a ha q => by
    obtain ⟨o, e, _⟩ := SS.sep.live _ c.hp a q
    rw [ha] at e; cases e
  have ltF : ∀ a ∈ S.fp, a < h2.objs.size := fun a ha => by
    obtain ⟨o, e, _⟩ := SS.sep.live _ (c1.kp k23).hp a ha; exact Heap.lt_size e
  have at4 : S.At w h₀ h4 := SS.sep.kp (SS.sep.kp (c1.kp k23).hp k3) k4
  have hcellN : ∀ x cc, (cEnv (lcSc preC) env h3.objs.size).cells.lookup x = some cc → (∃ y, env.cells.lookup y = some cc) ∨ h3.objs.size < cc := hcell
  have cin : Cx (cX (lcSc preC) env h3.objs.size) S.fp h4 (cEnv (lcSc preC) env h3.objs.size) (lcSc preC) (fun _ => none) (fun _ => none) (S.At w h₀) := by
    refine ⟨(er4.less fun a ha => ?_).forget (fun _ _ e => by cases e), fun y v e => (by cases e), at4, SS.sep, fun a ha q => offF a (hXs a ha) q, fun a ha => ⟨fun q => ?_, fun x cc e q => ?_⟩⟩
    · rcases List.mem_append.mp ha with z | z
      · exact List.mem_append_right _ (List.mem_append_left _ z)
      · exact List.mem_append_left _ z
    · have h1 := ltF a ha
      have h2 : (cEnv (lcSc preC) env h3.objs.size).locals = h3.objs.size := rfl
      rw [q, h2, hsz3] at h1
      exact absurd h1 (Nat.not_lt.mpr (Nat.le_succ _))
    · rcases hcellN x cc e with ⟨y, e'⟩ | z
      · exact (c.own a ha).2 y cc e' q
      · have h1 := ltF a ha
        rw [q] at h1
        rw [hsz3] at z
        exact absurd (Nat.lt_trans h1 (Nat.lt_of_succ_lt z)) (Nat.lt_irrefl _)
  have offc : ∀ a, a < h3.objs.size → (∀ y cc, env.cells.lookup y = some cc → a ≠ cc) → Off [a] (cEnv (lcSc preC) env h3.objs.size) := fun a ha hc b hb => by
    rw [List.mem_singleton.mp hb]
    refine ⟨ne_nat (.inl ha), fun x cc e => ?_⟩
    rcases hcellN x cc e with ⟨y, e'⟩ | z
    · exact hc y cc e'
    · exact ne_nat (.inl (Nat.lt_trans ha z))
  have ccel : ∀ a, s.heap.get? a = none → ∀ y cc, env.cells.lookup y = some cc → a ≠ cc := fun a ha y cc e q => by
    obtain ⟨v, o, ho, _⟩ := c.er.cel y cc e
    rw [← q, ha] at ho; cases ho
  have l4 : h4.PlainList h2.objs.size #[] := k4.plain hlD
  have k34 := k3.trans k4
  have key : ∀ st, st = ({ s with heap := h4, toks := t1 } : Shared) → codeAny (model P w) A (.compLoop (.ListComp (lcElt preC) (lcGens preC) (lcSc preC) (lcPos preC)) 0 (.ref it) (.ref h2.objs.size) (cEnv (lcSc preC) env h3.objs.size)) (compPost (model P w) A E none Q (.ref h2.objs.size) h3.objs.size) st := by
    rintro st rfl
    refine pre_loop (k := k) (hs := s.heap) (s₀ := s) (ep := ep) B hsz (hw _ (.inl (by decide +kernel))) (fun a ha => ⟨ok.dead (hXs a ha), hXs a ha⟩) ⟨ok.dead his, his⟩ ⟨ok.dead hDs, hDs⟩ (fun q => absurd (hXl _ q) (Nat.not_le.mpr (Nat.lt_succ_of_lt ltit))) (fun q => absurd (hXl _ q) (Nat.not_succ_le_self _)) (Ne.symm (ne_nat (.inl ltit))) (fun q => absurd (hXl _ q) (Nat.not_le.mpr (Nat.lt_succ_of_lt ltd)))
      (fun q => offF it his (by rw [← q]; exact .tail _ (.tail _ (.head _)))) (ne_nat (.inl ltd)) (offc _ (by rw [hsz3]; exact Nat.lt_succ_of_lt ltit) (ccel _ his)) (offc _ (by rw [hsz3]; exact Nat.lt_succ_self _) (ccel _ hDs)) (offF it his) (offF _ hDs) (fun h5 t5 vs l5 hin5 k5 hN5 at5 => ?_) S.ps.length 0 (Nat.zero_add _) h4 t1 #[] (ok3.kp k4) cin l4 .nil (k34.x.valIter (Z := []) ii (fun q => by cases q)) (k34.x.dictAt (Z := []) hDi (fun q => by cases q)) K4
    obtain ⟨m, hN5⟩ := hN5
    have hn5 : h3.objs.size ≠ h2.objs.size := Ne.symm (ne_nat (.inl (by rw [hsz3]; exact Nat.lt_succ_self _)))
    refine ⟨m, hN5, fun h6 s6 => ?_⟩
    have hns : s.heap.get? h3.objs.size = none := hXs _ (.head _)
    exact h _ vs h6 t5 (let ⟨n, e⟩ := l5; ⟨n, (s6.2 _ (Ne.symm hn5)).trans e⟩) hin5 (k5.ext (fun b o hb e => (s6.2 b hb).trans e) hns) hDs
  show codeAny (model P w) A (.compStart (.ListComp (lcElt preC) (lcGens preC) (lcSc preC) (lcPos preC)) 0 (.ref it) (.ref h2.objs.size) (cEnv (lcSc preC) env h3.objs.size)) _ _
  refine start_at rfl (key _ rfl) fun E' => ?_
  exact wpAny_pyIter_valiter (s := { s with heap := h4, toks := t1 }) (k34.x.valIter (Z := []) ii (fun q => by cases q)) (key _ rfl)
end
end Mine
end
section
open PySem.Calls PySem.Spec PySem.SeqAt Builtin Builtin.ObjectAttr
set_option maxRecDepth 100000
namespace Mine
section
variable {w : World} {h₀ : Heap} {k : Nat} {K : Frag} {S : SS} {X Z F : List Addr} {env : Env} {sc : Scope} {δ : Str → Option PyData} {ν : Str → Option Value} {A : Around} {E : Value → Shared → Prop} {s : Shared}

theorem self_call0 (B : SK K h₀) {pl : Sem Bool} {name : Str} {f : Nat} {p apos pos : Pos} {Q : Value → Shared → Prop} (hm : (name, f) ∈ methods) (hx : ν "self" = some (.ref S.x))
    (ok : Ok h₀ k A s.heap) (c : Cx X S.fp s.heap env sc δ ν (S.At w h₀))
    (h : wpAny (model P w) A (call (.ref f) [.ref S.x]) Q E s)
    (he : eval (.Call (.Attribute (.Name "self" p) name apos) [] [] pos) env = (do
      let ov ← eval (.Name "self" p) env
      standAt apos.atName
      let (f, first) ← holding [ov] (getMethod ov name pl)
      callWith pos f first (backTo pos (starEach [] env)) (backToKw pos (keywordEach [] env))) := by rfl) :
    wpAny (model P w) A (eval (.Call (.Attribute (.Name "self" p) name apos) [] [] pos) env) Q E s := by
  refine methodCall_KW (pl := pl) (name_cx hx c (self_meth B hm ok c.hp ?_)) he
  exact callWith_K0 (K := K) (B.kin ok.stays) (B.meth (name, f) hm).2.2 h

theorem SS.fp_rd (S : SS) (hr : S.rd = none) (r : Addr) (l : List Int) : ({ S with rd := some (r, l) } : SS).fp = S.x :: S.dx :: S.d :: r :: S.ps.flatMap NIa.fp ∧ S.fp = S.x :: S.dx :: S.d :: S.ps.flatMap NIa.fp := by
  unfold SS.fp SS.rdl
  rw [hr]
  exact ⟨rfl, rfl⟩
theorem SS.fp_rd_mem (S : SS) (hr : S.rd = none) (r : Addr) (l : List Int) : ∀ a, a ∈ ({ S with rd := some (r, l) } : SS).fp ↔ a ∈ S.fp ∨ a = r := fun a => by
  obtain ⟨e1, e2⟩ := S.fp_rd hr r l
  rw [e1, e2]
  simp only [List.mem_cons]
  constructor
  · rintro (h | h | h | h | h) <;> simp [h]
  · rintro ((h | h | h | h) | h) <;> simp [h]
theorem SS.fp_rd_nodup (S : SS) (hr : S.rd = none) (r : Addr) (l : List Int) (nd : S.fp.Nodup) (hn : r ∉ S.fp) : ({ S with rd := some (r, l) } : SS).fp.Nodup := by
  obtain ⟨e1, e2⟩ := S.fp_rd hr r l
  rw [e2] at nd hn
  rw [e1]
  simp only [List.nodup_cons, List.mem_cons, not_or] at nd hn ⊢
  obtain ⟨⟨a1, a2, a3⟩, ⟨b1, b2⟩, c1, d⟩ := nd
  obtain ⟨h1, h2, h3, h4⟩ := hn
  exact ⟨⟨a1, a2, fun q => h1 q.symm, a3⟩, ⟨b1, fun q => h2 q.symm, b2⟩, ⟨fun q => h3 q.symm, c1⟩, h4, d⟩

theorem m_prepare (B : SK K h₀) (B0 : Base h₀) (G : SG h₀) (GX : SX h₀) {b : Bool} (hrd : S.rd = none) (hring : ringF S.nodes = some b) (hlen : S.ps.length ≤ 20) {Q : Value → Shared → Prop}
    (ok : Ok h₀ (k + 2) A s.heap) (fi : FrI h₀ A s.heap) (at_ : S.At w h₀ s.heap)
    (hO : b = false → ∀ r h1 t1, Turned w h₀ S { S with rd := some (r, readyF S.nodes) } s.heap h1 → Q .none { s with heap := h1, toks := t1 })
    (hR : b = true → ∀ fs, A.frames = some fs → ∀ r e L hr h1 t1, s.heap.get? L = none → L ∉ ({ S with rd := some (r, readyF S.nodes) } : SS).fp → Turned w h₀ S { S with rd := some (r, readyF S.nodes) } s.heap hr → Raised h₀.objs.size hr fs (.ref 55) e h1 → E (.ref e) { s with heap := h1, toks := t1 }) :
    wpAny (model P w) A (call (.ref 92) [.ref S.x]) Q E s := by
  refine meth_frame (names := ["self"]) B B.f92 (fun _ _ _ _ _ _ => rfl) (by decide) (by decide +kernel) (by decide +kernel) ok at_ fun L env A' h2 t2 hLs c2 hw kp ok2 hL0 fr => ?_
  obtain ⟨hf, ⟨fs, hA, hA', _⟩, hLz, hLc⟩ := fr
  have fi2 : FrI h₀ A' h2 := fi.call (.refl _ _) kp hA hA' hf hLz hLc
  have hX0 : ∀ a ∈ [L], h₀.get? a = none := fun a ha => by rw [List.mem_singleton.mp ha]; exact hL0
  have hrv : S.rv = .none := by unfold SS.rv; rw [hrd]
  refine hideQE fun Q₁ E₁ hQ₁ hE₁ => ?_
  refine wpAny_execs_cons (wpAny_If (wpAny_isTrue_Compare1 (at_self (s := { s with heap := h2, toks := t2 }) B rfl (by decide) ok2 c2 (fun _ x => x) fun v t t' h3 t3 hlv had ok3 c3 k3 => wpAny_Constant_none ?_)))
  have hv : some S.rv = some v := hlv
  rw [hrv] at hv; cases hv
  refine wpAny_isNot_self rfl (wpAny_truthy_bool (wpAny_execs_nil ?_))
  refine wpAny_execs_cons (plainObj_wpAny_Assign_Attribute (ready_comp (s := { s with heap := h3, toks := t3 }) (ν := argV ["self"] [.ref S.x]) B (by omega) rfl ok3 c3 fun D vs h4 t4 l4 hin k4 hD3 => name_cx (v := .ref S.x) (s := { s with heap := h4, toks := t4 }) rfl (c3.kp k4) ?_))
  have c4 := c3.kp k4
  have ok4 := ok3.kp k4
  obtain ⟨t, t', ad⟩ := c4.hp.ad
  refine set_attr (s := { s with heap := h4, toks := t4 }) (B.kin ok4.stays) B.ts B.tsd (B.no "_ready_nodes" (by decide)).2 c4.hp.x ad (by show 4 ≤ 100; decide) fun h5 ad5 s5 => ?_
  have hDs : s.heap.get? D = none := (kp.trans k3).dead hD3
  have hDF : D ∉ S.fp := fun q => by obtain ⟨o, e, _⟩ := SS.sep.live _ at_ D q; rw [hDs] at e; cases e
  have hdx : S.dx ∈ S.fp := .tail _ (.head _)
  have hDdx : D ≠ S.dx := fun q => hDF (q ▸ hdx)
  have hmem := S.fp_rd_mem hrd D (readyF S.nodes)
  have at5 : ({ S with rd := some (D, readyF S.nodes) } : SS).At w h₀ h5 := by
    refine c4.hp.attr ⟨rfl, rfl, rfl, rfl⟩ ⟨t, t', ad5⟩ s5 (fun r l e => ?_) (S.fp_rd_nodup hrd D _ at_.nd hDF) (fun a ha => ((hmem a).mp ha).elim (at_.dead a) fun q => by rw [q]; exact ok.dead hDs)
    cases e
    exact ⟨vs, let ⟨n, e⟩ := l4; ⟨n, (s5.2 D hDdx).trans e⟩, hin⟩
  have k45 : KpX S.fp h₀.objs.size h4 h5 := by
    obtain ⟨es, n, e', _⟩ := id ad5
    obtain ⟨es0, n0, e0, _⟩ := id ad
    exact .sameObj s5 hdx e' e0 rfl (fun _ q => by cases q)
  have c5 := c3.turn (k4.x.trans k45) (fun a ha => ((hmem a).mp ha).imp id fun q => by rw [q]; exact hD3) SS.sep at5
  have ok5 := ok4.kpx k45 at_.dead
  have K5 : KpX (S.fp ++ [L]) h₀.objs.size h2 h5 := (k3.trans k4).x.trans (k45.mono fun a ha => .inl (List.mem_append_left _ ha))
  have fi5 := fi2.kpx K5
  generalize hS5 : ({ S with rd := some (D, readyF S.nodes) } : SS) = S5 at *
  have hn5 : S5.nodes = S.nodes := by rw [← hS5]; rfl
  have hp5 : S5.ps = S.ps := by rw [← hS5]
  have sm5 : S5.x = S.x ∧ S5.dx = S.dx ∧ S5.d = S.d := by rw [← hS5]; exact ⟨rfl, rfl, rfl⟩
  refine wpAny_execs_cons (wpAny_Assign_Name (self_call0 (S := S5) (ν := argV ["self"] [.ref S.x]) (s := { s with heap := h5, toks := t4 + 2 }) B (f := 127) (by decide) (by rw [sm5.1]; rfl) ok5 c5 (m_find (k := k) (s := { s with heap := h5, toks := t4 + 2 }) B B0 G GX.si (by rw [hn5]; exact hring) (by rw [hp5]; exact hlen) ok5 fi5 at5 fun v h6 t6 at6 k6 hv => ?_)))
  have c6 := c5.kp k6
  have ok6 := ok5.kp k6
  refine c6.store (N := h₀.objs.size) (s := { s with heap := h6, toks := t6 }) (hw _ (.inl (by decide +kernel))) rfl fun h7 t7 c7 k7 => ?_
  have ok7 := ok6.kpx k7 hX0
  have K7 : KpX (S.fp ++ [L]) h₀.objs.size h2 h7 := (K5.trans k6.x).trans (k7.mono fun a ha => .inl (List.mem_append_right _ ha))
  have hLS : L ∉ S5.fp := fun q => ((hmem L).mp q).elim (fun z => c2.dis L (.head _) z) fun z => by
    obtain ⟨o, e⟩ := c3.er.low L (List.mem_append_right _ (.head _))
    rw [z, hD3] at e; cases e
  have turned : ∀ {h : Heap}, S5.At w h₀ h → KpX (S.fp ++ [L]) h₀.objs.size h2 h → Turned w h₀ S S5 s.heap h := fun a q =>
    ⟨a, fun b hb => ((hmem b).mp hb).imp id fun z => by rw [z]; exact hDs, (kp.x.trans q).mono fun b hb => (List.mem_append.mp hb).imp id fun z => by rw [List.mem_singleton.mp z]; exact hLs, sm5⟩
  rcases hv with ⟨hb, rfl⟩ | ⟨hb, l, vsl, rfl, pl, hz1, hz2, hl⟩
  · refine wpAny_execs_cons (wpAny_If (wpAny_isTrue_value (name_cx (v := .none) (s := { s with heap := h7, toks := t7 }) rfl c7 ?_) rfl))
    refine wpAny_of_eq (a := false) (by rfl) ?_
    exact wpAny_execs_nil (wpAny_execs_nil (hQ₁ _ _ (hO hb D h7 t7 (hS5.symm ▸ turned c7.hp K7))))
  · have hlL : l ∉ [L] := fun q => by
      obtain ⟨o, e⟩ := c5.er.low L (List.mem_append_right _ (.head _))
      rw [List.mem_singleton.mp q, e] at hl; cases hl
    have pl7 := k7.plain hlL pl
    refine wpAny_execs_cons (wpAny_If (wpAny_isTrue_value (name_cx (v := .ref l) (s := { s with heap := h7, toks := t7 }) rfl c7 (wpAny_truthy_list (s := { s with heap := h7, toks := t7 }) (items := vsl) (let ⟨n, e⟩ := pl7; ⟨_, e, rfl, n, rfl⟩) (by omega) ?_)) rfl))
    have hne : (!vsl.isEmpty) = true := by
      simp [Array.isEmpty]; intro q; rw [q] at hz1; simp at hz1
    rw [hne]
    show wpAny (model P w) A' (execs _ env) _ _ _
    obtain ⟨mg, O⟩ := GX.own
    obtain ⟨tl, N, nm, q, bs, hdct, sn, sub, ab, col, dd, k0, k1, k2, k3', k5, mN, hC, hN, hni, T⟩ := O.obj
    have st7 := ok7.stays
    refine wpAny_execs_cons (wpAny_Raise_call_subT (C := 55) (nm := nm) (q := q) (N := N) (bs := bs) (bm := tl) (hdct := hdct) (sn := sn) (sub := sub) (ab := ab) (col := col) (dd := dd) (k0 := k0) (k1 := k1) (k2 := k2) (k3 := k3') (k5 := k5)
      PySem.F.excBase_ValueError (mN := mN) (T.hasType PySem.F.excBase_ValueError.hasBase) ok7.hh rfl hni (load_gl (s := { s with heap := h7, toks := t7 + 1 + 1 }) ok7 c7.er (by decide +kernel) GX.ce ⟨rfl, ?_⟩))
    refine Calls.evalArgs_plain (Calls.spliced_cons (wpAny_JoinedStr_one (pos := ⟨47, 29, 47, 52⟩) (wpAny_Constant_str (Calls.spliced_cons (name_cx (v := .ref l) (s := { s with heap := h7, toks := t7 + 1 + 1 + 1 }) rfl c7 (Calls.spliced_nil ⟨rfl, ?_, st7 _ _ hC, hN.keeps st7, T.keeps st7, fun h8 e hm => ?_⟩))))))
    · show 2 ≤ sizeLine; rw [szl]; decide
    · obtain ⟨fs', q', ff⟩ := ok7.frames
      rw [hA'] at q'; cases q'
      have fi7 := fi2.kpx K7
      refine hE₁ _ _ ?_
      refine raise_plain hA' hf ff fi7 hm fun h9 rz => ?_
      exact hR hb fs hA D e L h7 h9 _ hLs (hS5.symm ▸ hLS) (hS5.symm ▸ turned c7.hp K7) rz
end
end Mine
end
section
open PySem.Calls PySem.Spec PySem.SeqAt Builtin Builtin.ObjectAttr
set_option maxRecDepth 100000
namespace Mine
section
variable {w : World} {h₀ : Heap} {k : Nat} {K : Frag} {S : SS} {X Z F : List Addr} {env : Env} {sc : Scope} {δ : Str → Option PyData} {ν : Str → Option Value} {H : Heap → Prop} {A : Around} {E : Value → Shared → Prop} {s : Shared} {N : Nat}

theorem DefAt.fn {f : Addr} {name : Str} {ps : Arguments} {body : List Stmt} {sc : Scope} (d : DefAt h₀ f name ps body sc) : Fn h₀ f ps body sc .none := by
  obtain ⟨o, c', pm, doc, ho, hd, hc⟩ := d
  exact ⟨o, name, name, doc, pm, .ref c', _, ho, hd, hc⟩

theorem bound_inj {h : Heap} {x : Str} {v u : Value} (a : Bound h env sc x v) (b : Bound h env sc x u) : v = u := by
  rcases a with ⟨a1, m, a2, a3⟩ | ⟨a1, c, a2, a3⟩ <;> rcases b with ⟨b1, m', b2, b3⟩ | ⟨b1, c', b2, b3⟩
  · rw [ns_inj a2 b2, b3] at a3; cases a3; rfl
  · rw [a1] at b1; rcases b1 with q | q <;> cases q
  · rw [b1] at a1; rcases a1 with q | q <;> cases q
  · rw [a2] at b2; cases b2
    obtain ⟨o, e, q⟩ := a3
    obtain ⟨o', e', q'⟩ := b3
    rw [e] at e'; cases e'
    rw [q] at q'; cases q'; rfl
theorem plain_inj {h : Heap} {a : Addr} {vs us : Array Value} (x : h.PlainList a vs) (y : h.PlainList a us) : vs = us := by
  obtain ⟨n, e⟩ := x
  obtain ⟨m, e'⟩ := y
  rw [e] at e'; cases e'; rfl
theorem Cx.items {h : Heap} {x : Str} {a : Addr} {vs : Array Value} {ds : List PyData} (c : Cx X F h env sc δ ν H) (hδ : δ x = some (.list ds)) (hν : ν x = some (.ref a)) (hl : h.PlainList a vs) : RdAll (F ++ X) h vs.toList ds := by
  obtain ⟨v, r, b⟩ := c.er.val x _ hδ
  have e := bound_inj b (c.nb x _ hν)
  subst e
  obtain ⟨a', us, e, _, pl, ra⟩ := r.list_inv
  cases e
  rw [plain_inj hl pl]; exact ra
theorem Cx.listAt {h : Heap} {x : Str} {a : Addr} {ds : List PyData} (c : Cx X F h env sc δ ν H) (hδ : δ x = some (.list ds)) (hν : ν x = some (.ref a)) : ∃ vs, h.PlainList a vs ∧ RdAll (F ++ X) h vs.toList ds ∧ a ∉ F ++ X := by
  obtain ⟨v, r, b⟩ := c.er.val x _ hδ
  have e := bound_inj b (c.nb x _ hν)
  subst e
  obtain ⟨a', us, e, ha, pl, ra⟩ := r.list_inv
  cases e
  exact ⟨us, pl, ra, ha⟩

theorem Cx.assignT {tg : Expr} {v : Value} {d : PyData} {δ' : Str → Option PyData} {W : List Addr} {Q : Unit → Shared → Prop} (hWX : ∀ a ∈ W, a ∈ X) (c : Cx X F s.heap env sc δ ν H) (hh : A.handled = none) (hb : BindT tg d δ δ') (hw : ∀ x ∈ tnames tg, Wrt W env sc x) (hν : ∀ x ∈ tnames tg, ν x = none) (r : Rd (F ++ X) s.heap v d)
    (h : ∀ h1 t1, Cx X F h1 env sc δ' ν H → KpX W N s.heap h1 → Q () { s with heap := h1, toks := t1 }) : wpAny (model P w) A (assign tg env v) Q E s := by
  refine assign_d (N := N) hh c.er hb hw (fun a ha => List.mem_append_right _ (hWX a ha)) r fun h1 t1 er kp hbd => ?_
  exact h h1 t1 ⟨er, fun y u e => hbd y u (fun q => by rw [hν y q] at e; cases e) (c.nb y u e), c.sep.kpx c.hp kp (fun a ha => c.dis a (hWX a ha)), c.sep, c.dis, c.own⟩ kp

theorem loop_listT {tg : Expr} (hT : TTup tg) {body : List Stmt} {it a : Addr} {vs : Array Value} {env : Env} {s₀ : Shared} {R : Result → Shared → Prop} {Q : Flow → Shared → Prop} (hh : A.handled = none) (hne : a ≠ it) (J : Nat → Heap → Prop)
    (hstep : ∀ i h h', J i h → KpX [it] N h h' → (∃ o, h.get? it = some o) → J i h')
    (hbody : ∀ i v (s' : Shared), vs[i]? = some v → (∃ h tk, s' = { s₀ with heap := h, toks := tk }) → J i s'.heap → (∃ o, s'.heap.get? it = some o) → (∃ o, s'.heap.get? a = some o) → s'.heap.IsList a vs →
      ((∃ T, v = .ref T) ∧ wpAny (model P w) A (assign tg env v) (fun _ s2 => wpAny (model P w) A (execs body env) (TurnR N it a s' (J (i + 1)) Q) (notedBy (model P w) A env fun e s' => R (.error e) s') s2) (notedBy (model P w) A env fun e s' => R (.error e) s') s'))
    (hret : ∀ v s', Q (.ret v) s' → R (.ok (.ret v)) s')
    (hR : ∀ h h' tk, J vs.size h → (∀ c o, c ≠ it → h.get? c = some o → h'.get? c = some o) → R (.ok .next) { s₀ with heap := h', toks := tk }) :
    ∀ (n i : Nat), i + n = vs.size → ∀ (s : Shared), (∃ h tk, s = { s₀ with heap := h, toks := tk }) → s.heap.IsListIter it a i → s.heap.IsList a vs → J i s.heap → codeAny (model P w) A (.forLoop tg (.ref it) body [] env) R s
  | 0, i, hn, s, ⟨hs, ts, hse⟩, hi, hx, hj => by
    refine codeAny_of_tree ?_
    show wpAny _ A ((forTurn tg (.ref it) body [] env).onRaise (fun x => do noteFrame x env; theTreesLotGoes x)) _ _ s
    refine wpAny_noted ?_
    unfold forTurn
    refine wpAny_bind (wpAny_standAt (wpAny_bind (wpAny_onRaise ?_)))
    refine pyEnd_sq (b := false) hh hi hx (by rw [Array.getElem?_eq_none_iff]; omega) fun h1 hk => wpAny_pure ⟨rfl, codeAny_block (wpAny_execs_nil ?_)⟩
    have e' : i = vs.size := by omega
    subst hse
    exact hR hs h1 ts (e' ▸ hj) hk
  | n + 1, i, hn, s, ⟨hs, ts, hse⟩, hi, hx, hj => by
    refine codeAny_of_tree ?_
    show wpAny _ A ((forTurn tg (.ref it) body [] env).onRaise (fun x => do noteFrame x env; theTreesLotGoes x)) _ _ s
    refine wpAny_noted ?_
    unfold forTurn
    refine wpAny_bind (wpAny_standAt (wpAny_bind (wpAny_onRaise ?_)))
    have hlt : i < vs.size := by omega
    refine pyNext_sq (b := false) (N := N) hi hx hne (Array.getElem?_eq_getElem hlt) fun h1 hi1 hx1 k1 _ => ?_
    obtain ⟨oi, hoi, _⟩ := IsSqIter.alive (b := false) hi
    obtain ⟨oi1, hoi1, _⟩ := hi1.alive
    obtain ⟨es, m, p, rfl⟩ := hT
    obtain ⟨⟨T, hv⟩, key⟩ := hbody i _ { s with heap := h1 } (Array.getElem?_eq_getElem hlt) ⟨h1, ts, by subst hse; rfl⟩ (hstep i _ _ hj k1 ⟨oi, hoi⟩) ⟨oi1, hoi1⟩ hx1.alive hx1
    rw [hv] at key ⊢
    refine wpAny_bind (wpAny_letOwnedTupleGo_listiter (s := { s with heap := h1 }) hi1 ?_)
    refine wpAny_bind (wpAny_mono key (fun _ s3 q3 => wpAny_bind (wpAny_mono q3 (fun f s4 q4 => ?_) fun _ _ z => z)) fun _ _ z => z)
    have cont : (∃ h tk X, s4 = { { s with heap := h1 } with heap := h, toks := tk } ∧ J (i + 1) h ∧ KpX X N h1 h ∧ a ∉ X ∧ it ∉ X) → codeAny (model P w) A (.forLoop (.Tuple es m p) (.ref it) body [] env) R s4 := by
      rintro ⟨h, tk, X, rfl, hj4, k4, ha, hit⟩
      exact loop_listT ⟨es, m, p, rfl⟩ hh hne J hstep hbody hret hR n (i + 1) (by omega) _ ⟨h, tk, by subst hse; rfl⟩ (IsSqIter.kpx (b := false) hi1 k4 hit) (k4.isList ha hx1) hj4
    cases f with
    | next => exact wpAny_pure ⟨rfl, cont q4⟩
    | cont => exact wpAny_pure ⟨rfl, cont q4⟩
    | brk => exact q4.elim
    | ret v => exact wpAny_pure (hret v s4 q4)

theorem obj_call0 (B : SK K h₀) {pl : Sem Bool} {x name : Str} {f : Nat} {p apos pos : Pos} {Q : Value → Shared → Prop} (hm : (name, f) ∈ methods) (hx : ν x = some (.ref S.x)) (ok : Ok h₀ k A s.heap) (c : Cx X F s.heap env sc δ ν H) (at_ : S.At w h₀ s.heap)
    (h : wpAny (model P w) A (call (.ref f) [.ref S.x]) Q E s)
    (he : eval (.Call (.Attribute (.Name x p) name apos) [] [] pos) env = (do
      let ov ← eval (.Name x p) env
      standAt apos.atName
      let (f, first) ← holding [ov] (getMethod ov name pl)
      callWith pos f first (backTo pos (starEach [] env)) (backToKw pos (keywordEach [] env))) := by rfl) (hx1 : (x == ("__debug__" : Str)) = false := by decide) (hx2 : (x == ("__classdict__" : Str)) = false := by decide) :
    wpAny (model P w) A (eval (.Call (.Attribute (.Name x p) name apos) [] [] pos) env) Q E s := by
  refine methodCall_KW (pl := pl) (name_cx hx c (self_meth B hm ok at_ ?_) hx1 hx2) he
  exact callWith_K0 (K := K) (B.kin ok.stays) (B.meth (name, f) hm).2.2 h
theorem obj_call1 (B : SK K h₀) {pl : Sem Bool} {x y name : Str} {f : Nat} {v : Value} {p yp apos pos : Pos} {Q : Value → Shared → Prop} (hm : (name, f) ∈ methods) (hx : ν x = some (.ref S.x)) (hy : ν y = some v) (ok : Ok h₀ k A s.heap) (c : Cx X F s.heap env sc δ ν H) (at_ : S.At w h₀ s.heap)
    (h : wpAny (model P w) A (call (.ref f) [.ref S.x, v]) Q E s)
    (he : eval (.Call (.Attribute (.Name x p) name apos) [.Name y yp] [] pos) env = (do
      let ov ← eval (.Name x p) env
      standAt apos.atName
      let (f, first) ← holding [ov] (getMethod ov name pl)
      callWith pos f first (backTo pos (starEach [.Name y yp] env)) (backToKw pos (keywordEach [] env))) := by rfl) (hst : starEach [.Name y yp] env = (false, eval (.Name y yp) env) :: starEach [] env := by rfl)
    (hx1 : (x == ("__debug__" : Str)) = false := by decide) (hx2 : (x == ("__classdict__" : Str)) = false := by decide) (hy1 : (y == ("__debug__" : Str)) = false := by decide) (hy2 : (y == ("__classdict__" : Str)) = false := by decide) :
    wpAny (model P w) A (eval (.Call (.Attribute (.Name x p) name apos) [.Name y yp] [] pos) env) Q E s := by
  refine methodCall_KW (pl := pl) (name_cx hx c (self_meth B hm ok at_ ?_) hx1 hx2) he
  refine callWith_K (K := K) B.inn (B.meth (name, f) hm).2.2 ?_ hst rfl
  rw [hst]
  exact spliced_cons (name_cx hy c (spliced_nil ⟨B.kin ok.stays, h⟩) hy1 hy2)

theorem star_ints {a : Addr} {vs : Array Value} {Q : List Value → Shared → Prop} (l : s.heap.PlainList a vs) (hz : vs.size ≤ sizeLine) (h : ∀ h', Kp N s.heap h' → Q vs.toList { s with heap := h' }) : StarOf (model P w) A E (.ref a) Q s := by
  obtain ⟨n, e⟩ := l
  have hT' : s.TypeIs (.ref a) "list" := ⟨_, e, rfl⟩
  unfold StarOf notIterableAtAll
  exact wpAny_bind (wpAny_specialOf hT' PySem.F.slot_list_iter.lookup (wpAny_pure ⟨rfl, wpAny_collect_seq a (.inl rfl) e rfl rfl (fun h' hk => h h' (.of_keeps hk)) hz⟩))
end
end Mine
end
section
open PySem.Calls PySem.Spec PySem.SeqAt Builtin Builtin.ObjectAttr
set_option maxRecDepth 100000
namespace Mine
theorem Bnd.preds (name : Int) : ∀ (preds : List Int) {ns : List Node} {c : Nat}, Bnd ns c → Bnd (preds.foldl (predN name) ns) (c + 2 * preds.length)
  | [], _, _, h => h
  | p :: ps, ns, c, h => (Bnd.preds name ps (h.pred name p)).mono (by simp only [List.length_cons]; omega)
theorem Bnd.add {ns : List Node} {c : Nat} (h : Bnd ns c) (name : Int) (preds : List Int) : Bnd (addF ns name preds) (c + 1 + 2 * preds.length) :=
  Bnd.preds name preds ((h.info name).upd (d := 0) name fun q => Nat.le_refl _)
theorem rd_get {O : List Addr} {h : Heap} {vs : List Value} {ds : List PyData} (r : RdAll O h vs ds) {i : Nat} {v : Value} (e : vs[i]? = some v) : ∃ d, ds[i]? = some d ∧ Rd O h v d := Paired.get' r e

structure SA (K : Frag) : Prop where
  get : specialIn K (.ref 87) "__get__" = some (some (.builtin "function.__get__"))
  takes : takesIn K (.ref 87) = some false
  fn : fnIn K 87 = true
section
variable {w : World} {h₀ : Heap} {k : Nat} {K : Frag} {S : SS} {env : Env} {sc : Scope} {δ : Str → Option PyData} {ν : Str → Option Value} {A : Around} {s : Shared} {L : Addr}

theorem run_new (B : SK K h₀) {p1 p2 p3 p4 : Pos} {Q : Flow → Shared → Prop} {E : Value → Shared → Prop} (hw : Wr [L] env sc) (hsn : sc.names.lookup ("TopologicalSorter" : Str) = some .globalImplicit) (hso : sc.names.lookup ("sorter" : Str) = some .local) (hL0 : h₀.get? L = none) (hδ : δ "sorter" = none) (ok : Ok h₀ (k + 2) A s.heap) (c : Cx [L] [] s.heap env sc δ ν (fun _ => True))
    (h : ∀ (S : SS) h1 t1, S.ps = [] ∧ S.rd = none ∧ S.pa = 0 ∧ S.fi = 0 → Ok h₀ (k + 2) A h1 → Cx [L] S.fp h1 env sc δ (updV ν "sorter" (.ref S.x)) (S.At w h₀) → KpX [L] h₀.objs.size s.heap h1 → (∀ a ∈ S.fp, s.heap.get? a = none) → Q .next { s with heap := h1, toks := t1 }) :
    wpAny (model P w) A (exec (.Assign [.Name "sorter" p1] (.Call (.Name "TopologicalSorter" p2) [] [] p3) p4) env) Q E s := by
  obtain ⟨h6, g6, d6', t6, os6⟩ := s
  have X6 := B.kin ok.stays
  have d6 : ∀ a, h6.objs.size ≤ a → h6.get? a = none := fun a ha => dead_size _ ha
  have kpp : Kp h₀.objs.size h6 ((h6.push emptyDict).push (instObj 137 h6.objs.size)) := (Kp.push _ _).trans (Kp.push _ _)
  have okp := ok.kp kpp
  refine wpAny_Assign_Name (Call_Name (trees := _) rfl (load_gl (s := ⟨h6, g6, d6', t6, os6⟩) ok c.er hsn B.gTS (callWith_K0 (K := K) X6 B.keeps.2 ?_)))
  refine wpAny_call (make_core (makes_of X6 B.ts.makes) (looks_findIn X6 (B.meth ("__init__", 73) (.head _)).1) (fun self => bind_fn X6 self (B.meth ("__init__", 73) (.head _)).2.1) (.inl rfl) ?_)
  refine m_init (w := w) (k := k) (s := ⟨(h6.push emptyDict).push (instObj 137 h6.objs.size), g6, d6', t6, os6⟩) B (dx := h6.objs.size) okp.underNew ⟨?_, ?_⟩ (Nat.succ_ne_self _) ⟨ok.dead (d6 _ (Nat.le_succ _)), ok.dead (d6 _ (Nat.le_refl _))⟩ fun d t t' h8 tk8 n8 dd hd k8 => ⟨rfl, ?_⟩
  · have := Heap.get?_push_size (h6.push emptyDict) (o := instObj 137 h6.objs.size) rfl
    rwa [Heap.size_push] at this
  · exact ⟨[], 0, Heap.get?_push_of_some _ (Heap.get?_push_size _ rfl), .nil⟩
  have k68 : Kp h₀.objs.size h6 h8 := (kpp.x.trans k8).kp fun a ha => by rw [List.mem_singleton.mp ha]; exact d6 _ (Nat.le_refl _)
  have ok8 := ok.kp k68
  have hd6 : h6.get? d = none := kpp.dead hd
  have hxi : ((h6.push emptyDict).push (instObj 137 h6.objs.size)).get? (h6.objs.size + 1) = some (instObj 137 h6.objs.size) := by
    have := Heap.get?_push_size (h6.push emptyDict) (o := instObj 137 h6.objs.size) rfl
    rwa [Heap.size_push] at this
  have hdi : ((h6.push emptyDict).push (instObj 137 h6.objs.size)).get? h6.objs.size = some emptyDict := Heap.get?_push_of_some _ (Heap.get?_push_size _ rfl)
  have hd1 : d ≠ h6.objs.size + 1 := fun q => by rw [q, hxi] at hd; cases hd
  have hd2 : d ≠ h6.objs.size := fun q => by rw [q, hdi] at hd; cases hd
  let S : SS := ⟨h6.objs.size + 1, h6.objs.size, d, [], none, 0, 0⟩
  have hnew : ∀ a ∈ S.fp, h6.get? a = none := fun a ha => by
    rcases List.mem_cons.mp ha with rfl | ha
    · exact d6 _ (Nat.le_succ _)
    rcases List.mem_cons.mp ha with rfl | ha
    · exact d6 _ (Nat.le_refl _)
    rcases List.mem_cons.mp ha with rfl | ha
    · exact hd6
    · cases ha
  have at8 : S.At w h₀ h8 := by
    refine ⟨n8.1, ⟨t, t', n8.2⟩, dd, fun p hp => (by cases hp), fun r l e => (by cases e), ?_, fun a ha => ok.dead (hnew a ha)⟩
    show [h6.objs.size + 1, h6.objs.size, d].Nodup
    simp only [List.nodup_cons, List.mem_cons, List.not_mem_nil, or_false, not_or, not_false_iff, List.nodup_nil, and_true]
    exact ⟨⟨Nat.succ_ne_self _, Ne.symm hd1⟩, Ne.symm hd2⟩
  have c8 : Cx [L] S.fp h8 env sc δ ν (S.At w h₀) := c.turn (k68.x) (fun a ha => .inr (hnew a ha)) SS.sep at8
  refine c8.store (N := h₀.objs.size) (s := ⟨h8, g6, d6', tk8, os6⟩) (hw "sorter" (.inl hso)) hδ fun h9 t9 c9 k9 => ?_
  exact h S h9 t9 ⟨rfl, rfl, rfl, rfl⟩ (ok8.kpx k9 fun a ha => by rw [List.mem_singleton.mp ha]; exact hL0) c9 (k68.x.trans k9) hnew

theorem star_meth {M : Model} {o : Expr} {name : Str} {apos pos : Pos} {args : List Expr} {Q : Value → Shared → Prop} {E : Value → Shared → Prop}
    (h : wpAny M A (eval o env) (fun ov s₁ => wpAny M A (getAttr ov name true) (fun f s₂ => wpAny M A (callWith pos f [] (backTo pos (starEach args env)) []) Q E s₂) E s₁) E s)
    (hline : (apos.endLine == pos.line) = true) (hst : methodCallForm (args.length + 0) (backTo pos (starEach args env)) [] = false := by rfl)
    (hbase : attributeBase o name env (eval o env) = eval o env := by rfl) :
    wpAny M A (eval (.Call (.Attribute o name apos) args [] pos) env) Q E s := by
  have he : eval (.Call (.Attribute o name apos) args [] pos) env = (attributeBase o name env (eval o env) >>= fun ov => standAt apos.atName >>= fun _ => methodCall o name apos pos env ov (args.length + 0) (backTo pos (starEach args env)) []) := rfl
  rw [he, hbase]
  refine wpAny_bind (wpAny_mono h (fun ov s₁ h₁ => wpAny_bind (wpAny_standAt ?_)) fun _ _ x => x)
  unfold methodCall
  rw [hst]
  unfold calleeOf methodCallPos
  refine wpAny_bind (wpAny_holding (wpAny_bind (wpAny_mono h₁ (fun f s₂ h₂ => wpAny_pure ?_) fun _ _ x => x)))
  exact wpAny_bind (wpAny_pure h₂)

theorem bound_meth (B : SK K h₀) (SAk : SA K) {expr : Bool} {Q : Value → Shared → Prop} {E : Value → Shared → Prop} (ok : Ok h₀ k A s.heap) (at_ : S.At w h₀ s.heap)
    (h : ∀ q h1, h1.get? q = some (methodObj (.ref 87) (.ref S.x)) → Kp h₀.objs.size s.heap h1 → Q (.ref q) { s with heap := h1, toks := s.toks + 1 }) : wpAny (model P w) A (getAttr (.ref S.x) "add" expr) Q E s := by
  obtain ⟨t, t', ad⟩ := at_.ad
  obtain ⟨es, n, e, r⟩ := ad
  obtain ⟨m1, m2, m3⟩ := B.meth ("add", 87) (.tail _ (.tail _ (.head _)))
  have X := B.kin ok.stays
  have hl : lookIn "add" (dictOf es n) = some none := by
    rw [lookIn_dict]
    rw [ent_getL r, attrs_meth ("add", 87) (.tail _ (.tail _ (.head _)))]
  refine get_bind X (inst_dict at_.x e) B.ts.ga (findObj_fn B.tsd m1 SAk.get SAk.takes (by decide +kernel) hl) B.ts.gk (wpAny_call (fn_get (s := { s with toks := s.toks + 1 }) X m2 (handed_on rfl ?_)))
  exact h _ _ (Heap.get?_push_size _ rfl) (Kp.push _ _)

inductive ToldP (told : List (Int × List Int)) (S : SS) (i : Nat) (S' : SS) : Prop
  | mk (e1 : S'.nodes = (told.take i).foldl (fun ns p => addF ns p.1 p.2) []) (e2 : Bnd S'.nodes (13 * i)) (e3 : S'.rd = none) (e4 : S'.pa = 0) (e5 : S'.fi = 0) (e6 : S'.x = S.x)
inductive ToldJ (w : World) (h₀ : Heap) (k : Nat) (S : SS) (told : List (Int × List Int)) (A : Around) (env : Env) (sc : Scope) (δ : Str → Option PyData) (ν : Str → Option Value) (L it : Addr) (hs : Heap) (i : Nat) (g : Heap) : Prop
  | mk (S' : SS) (p : ToldP told S i S') (ok : Ok h₀ (k + 4) A g) (c : Cx (it :: [L]) S'.fp g env sc δ ν (S'.At w h₀)) (hn : ∀ c ∈ S'.fp, c ∈ S.fp ∨ hs.get? c = none) (kk : KpX (S.fp ++ [L]) h₀.objs.size hs g)
theorem run_told (B : SK K h₀) (SAk : SA K) (B0 : Base h₀) {told : List (Int × List Int)} {a : Addr} (ht : ∀ p ∈ told, p.2.length ≤ 6) (htl : told.length ≤ 4) {Q : Flow → Shared → Prop} {E : Value → Shared → Prop} (hw : Wr [L] env sc)
    (hsa : sc.names.lookup ("name" : Str) = some .local ∧ sc.names.lookup ("ahead" : Str) = some .local) (hL0 : h₀.get? L = none)
    (hδ : δ "told" = some (toldD told)) (hδn : δ "name" = none ∧ δ "ahead" = none) (hν : ν "told" = some (.ref a)) (hνs : ν "sorter" = some (.ref S.x)) (hνn : ν "name" = none ∧ ν "ahead" = none)
    (hS : S.ps = [] ∧ S.rd = none ∧ S.pa = 0 ∧ S.fi = 0) (ok : Ok h₀ (k + 4) A s.heap) (c : Cx [L] S.fp s.heap env sc δ ν (S.At w h₀))
    (h : ∀ (S' : SS) h1 t1, S'.nodes = toldN told → Bnd S'.nodes 52 → S'.rd = none ∧ S'.pa = 0 ∧ S'.fi = 0 → S'.x = S.x → Ok h₀ (k + 4) A h1 → Cx [L] S'.fp h1 env sc δ ν (S'.At w h₀) → KpX (S.fp ++ [L]) h₀.objs.size s.heap h1 → (∀ c ∈ S'.fp, c ∈ S.fp ∨ s.heap.get? c = none) → Q .next { s with heap := h1, toks := t1 }) :
    wpAny (model P w) A (exec ((bodyAt 9).getD 1 (.Pass default)) env) Q E s := by
  show wpAny (model P w) A (exec (.For (.Tuple [.Name "name" _, .Name "ahead" _] _ _) (.Name "told" _) [.Expr (.Call (.Attribute (.Name "sorter" _) "add" _) [.Name "name" _, .Starred (.Name "ahead" _) _] [] _) _] [] _) env) Q E s
  obtain ⟨vs, pl0, ra0, haX⟩ := c.listAt hδ hν
  have isl : ∀ {h : Heap} {us : Array Value}, h.PlainList a us → h.IsList a us := fun ⟨n, e⟩ => ⟨_, e, rfl, n, rfl⟩
  have islinj : ∀ {h : Heap} {us ws : Array Value}, h.IsList a us → h.PlainList a ws → us = ws := fun ⟨o, e, _, n, d⟩ ⟨m, e'⟩ => by rw [e] at e'; cases e'; cases d; rfl
  refine wpAny_For (name_cx hν c (pyIter_sq (b := false) (N := h₀.objs.size) (show IsSq false _ _ _ from isl pl0) fun it h2 hit i2 x2 k2 => ?_)) (fun v => rfl)
  have hne : a ≠ it := fun q => by obtain ⟨n, e⟩ := pl0; rw [q, hit] at e; cases e
  have hitX : it ∉ [L] := fun q => by obtain ⟨o, e⟩ := c.er.low it (List.mem_append_right _ q); rw [hit] at e; cases e
  have off : Off [it] env := c.er.off_fresh fun b hb => by rw [List.mem_singleton.mp hb]; exact hit
  have hitS : it ∉ S.fp := fun q => by obtain ⟨o, e, _⟩ := SS.sep.live _ c.hp it q; rw [hit] at e; cases e
  have hit0 : h₀.get? it = none := ok.dead hit
  have hX0 : ∀ b ∈ [L], h₀.get? b = none := fun b hb => by rw [List.mem_singleton.mp hb]; exact hL0
  let J : Nat → Heap → Prop := ToldJ w h₀ k S told A env sc δ ν L it s.heap
  have hn0 : S.nodes = [] := by unfold SS.nodes; rw [hS.1]; rfl
  obtain ⟨oi, hoi, _⟩ := i2.alive
  have j0 : J 0 h2 := ⟨S, ⟨hn0, by rw [hn0]; exact ⟨Nat.zero_le _, fun q hq => by cases hq⟩, hS.2.1, hS.2.2.1, hS.2.2.2, rfl⟩, ok.kp k2, c.addX hit k2 ⟨oi, hoi⟩, fun c hc => .inl hc, k2.x⟩
  have hlen : vs.size = told.length := by
    have := ra0.length
    rw [Array.length_toList, List.length_map] at this; exact this
  refine loop_listT (N := h₀.objs.size) (s₀ := s) (Q := Q) ⟨_, _, _, rfl⟩ ok.hh hne J (fun i g g' j q al => ?_) (fun i v s' hv hs' hj al ala hl' => ?_) (fun v s' q => q) (fun g g' tk hj hk => ?_) vs.size 0 (Nat.zero_add _) _ ⟨h2, _, rfl⟩ i2 x2 j0
  · obtain ⟨S', p, ok', c', hn, kk⟩ := j
    exact ⟨S', p, ok'.kpx q (fun c hc => by rw [List.mem_singleton.mp hc]; exact hit0), c'.step q off, hn, kk.stepX q fun z hz => by rw [List.mem_singleton.mp hz]; exact .inr hit⟩
  · obtain ⟨S', ⟨e1, e2, e3, e4, e5, e6⟩, ok', c', hn, kk⟩ := hj
    obtain ⟨hp, tk, rfl⟩ := hs'
    obtain ⟨us, plu, rau, haX'⟩ := c'.listAt hδ hν
    have eu := islinj hl' plu
    subst eu
    obtain ⟨d, hd, rv⟩ := rd_get rau (by simpa using hv)
    rw [List.getElem?_map, Option.map_eq_some_iff] at hd
    obtain ⟨⟨n, preds⟩, hp1, rfl⟩ := hd
    have hmem : (n, preds) ∈ told := List.mem_of_getElem? hp1
    have hi : i < told.length := (List.getElem?_eq_some_iff.mp hp1).1
    have hpl : preds.length ≤ 6 := ht _ hmem
    obtain ⟨T, _, rfl, _⟩ := rv.tuple_inv
    refine ⟨⟨T, rfl⟩, ?_⟩
    refine Cx.assignT (N := h₀.objs.size) (W := [L]) (s := { s with heap := hp, toks := tk }) (fun b hb => .tail _ hb) c' ok'.hh .tup2 (fun x hx => ?_) (fun x hx => ?_) rv fun h3 t3 c3 k3 => ?_
    · rcases List.mem_cons.mp hx with rfl | hx
      · exact hw _ (.inl hsa.1)
      · rw [List.mem_singleton.mp hx]; exact hw _ (.inl hsa.2)
    · rcases List.mem_cons.mp hx with rfl | hx
      · exact hνn.1
      · rw [List.mem_singleton.mp hx]; exact hνn.2
    have ok3 := ok'.kpx k3 hX0
    refine wpAny_execs_cons (wpAny_Expr_any ?_ (by unfold interactive; rw [c3.er.kind]; rfl) rfl)
    refine star_meth (name_cx (s := { s with heap := h3, toks := t3 }) hνs c3 ?_) (by rfl)
    rw [← e6]
    refine bound_meth (s := { s with heap := h3, toks := t3 }) B SAk ok3 c3.hp fun q hq0 eq0 kq0 => ?_
    have okq := ok3.kp kq0
    have cq := c3.kp kq0
    refine ks_call (P := MethP K q 87 (.ref S'.x)) rfl (keeps_M SAk.fn) (evalArgs_plain ?_)
    refine spliced_cons (EvE.cx (ev_name (x := "name") (d := .int n) rfl) (s := { s with heap := hq0, toks := t3 + 1 }) okq cq fun v1 h4 t4 r4 ok4 c4 k4 => ?_)
    obtain ⟨u, rfl⟩ := r4.int_inv
    refine items_star (EvE.cx (ev_name (x := "ahead") (d := LI preds) rfl) (s := { s with heap := h4, toks := t4 }) ok4 c4 fun v2 h5 t5 r5 ok5 c5 k5 => ?_)
    obtain ⟨b, ws, rfl, hb, plb, rab⟩ := r5.list_inv
    have hin := intsAre_of rab
    have hwl := ints_length hin
    refine star_ints (N := h₀.objs.size) (s := { s with heap := h5, toks := t5 }) plb (by rw [szl, ← Array.length_toList, hwl]; omega) fun h6 k6 => ?_
    have mq : h6.get? q = some (methodObj (.ref 87) (.ref S'.x)) := ((k4.trans k5).trans k6).get eq0 (by simp)
    refine spliced_nil ⟨⟨mq, B.kin (ok5.kp k6).stays⟩, ?_⟩
    rw [List.append_nil]
    refine wpAny_call (method_call (s := { s with heap := h6, toks := t5 }) mq ?_)
    refine m_addC (k := k) (s := { s with heap := h6, toks := t5 }) B B0 hin e2 (by omega) e3 (ok5.kp k6) (c5.kp k6).hp fun S2 h7 t7 tu hno hst => wpAny_execs_nil ?_
    have k37 : KpX S'.fp h₀.objs.size h3 h7 := (((kq0.trans k4).trans k5).trans k6).x.trans tu.keep
    have dd : ∀ {z : Addr}, h6.get? z = none → h3.get? z = none := fun q => (((kq0.trans k4).trans k5).trans k6).dead q
    have c7 : Cx (it :: [L]) S2.fp h7 env sc δ ν (S2.At w h₀) := (c3.turn k37 (fun z hz => (tu.new z hz).imp id dd) SS.sep tu.at_).forget (fun y d e => by
      unfold upd
      rw [if_neg (fun q => by rw [q, hδn.2] at e; cases e), if_neg (fun q => by rw [q, hδn.1] at e; cases e)]; exact e) fun _ _ e => e
    refine ⟨h7, t7, S'.fp ++ [L], rfl, ⟨S2, ⟨?_, ?_, hst.1, hst.2.1.trans e4, hst.2.2.trans e5, tu.same.1.trans e6⟩, ok3.kpx k37 c3.hp.dead, c7, fun z hz => ?_, ?_⟩, ?_, ?_, ?_⟩
    · rw [hno, e1, List.take_add_one, hp1]
      simp [List.foldl_append]
    · rw [hno]
      exact (e2.add n preds).mono (by omega)
    · rcases tu.new z hz with q | q
      · exact hn z q
      · exact .inr ((kk.stepX k3 fun y hy => .inl (List.mem_append_right _ hy)).deadX (dd q))
    · refine (kk.stepX k3 fun y hy => .inl (List.mem_append_right _ hy)).stepX k37 fun z hz => ?_
      exact (hn z hz).imp (List.mem_append_left _) id
    · exact (k3.mono fun z hz => .inl (List.mem_append_right _ hz)).trans (k37.mono fun z hz => .inl (List.mem_append_left _ hz))
    · intro q
      rcases List.mem_append.mp q with q | q
      · exact haX' (List.mem_append_left _ q)
      · exact haX (List.mem_append_right _ q)
    · intro q
      rcases List.mem_append.mp q with q | q
      · exact c'.dis it (.head _) q
      · exact hitX q
  · obtain ⟨S', ⟨e1, e2, e3, e4, e5, e6⟩, ok', c', hn, kk⟩ := hj
    have k' : KpX (S.fp ++ [L]) h₀.objs.size s.heap g' := kk.but (It := [it]) (fun b o hb e => hk b o (fun q => hb (by rw [q]; exact .head _)) e) (fun c hc => by rw [List.mem_singleton.mp hc]; exact hit) fun c hc q => by
      rw [List.mem_singleton.mp q] at hc
      rcases List.mem_append.mp hc with z | z
      · exact hitS z
      · exact hitX z
    rw [hlen, List.take_length] at e1
    exact h S' g' tk e1 (e2.mono (by rw [hlen]; omega)) ⟨e3, e4, e5⟩ e6 (ok.kpx k' fun z hz => (List.mem_append.mp hz).elim (c.hp.dead z) (hX0 z)) (c'.endX hitX hk off) k' hn
end
end Mine
end
section
open PySem.Calls PySem.Spec PySem.SeqAt Builtin Builtin.ObjectAttr
set_option maxRecDepth 100000
namespace Mine
structure Inv (wish : List Int) (st : St) : Prop where
  has : ∀ x ∈ wish, hasN st.ns x = true
  bnd : Bnd st.ns 52
  rl : st.ready.length ≤ 52
  rh : ∀ x ∈ st.ready, hasN st.ns x = true
theorem Bnd.same {ns : List Node} {c : Nat} (h : Bnd ns c) (x : Int) {f : Node → Node} (hf : ∀ q, (f q).suc = q.suc) : Bnd (updN ns x f) c :=
  h.upd (d := 0) x fun q => by rw [hf]; exact Nat.le_refl _
theorem Bnd.outs : ∀ (l : List Int) {ns : List Node} {c : Nat}, Bnd ns c → Bnd (l.foldl outN ns) c
  | [], _, _, h => h
  | x :: xs, _, _, h => Bnd.outs xs (h.same x fun _ => rfl)
theorem outF_ns (st : St) : (outF st).ns = st.ready.foldl outN st.ns := rfl
theorem inv_out {wish : List Int} {st : St} (i : Inv wish st) : Inv wish (outF st) :=
  ⟨fun x hx => by rw [outF_ns, hasN_fold]; exact i.has x hx, i.bnd.outs st.ready, Nat.zero_le _, fun x hx => by cases hx⟩
theorem sucF_bnd {c : Nat} : ∀ (l : List Int) {st : St}, Bnd st.ns c → Bnd (l.foldl sucF st).ns c
  | [], _, h => h
  | x :: xs, st, h => sucF_bnd xs (st := sucF st x) (h.same x fun _ => rfl)
theorem sucF_rh : ∀ (l : List Int) {st : St}, (∀ y ∈ l, hasN st.ns y = true) → (∀ x ∈ st.ready, hasN st.ns x = true) → ∀ x ∈ (l.foldl sucF st).ready, hasN st.ns x = true
  | [], _, _, h => h
  | y :: ys, st, hl, h => fun x hx => by
    have e : ∀ z, hasN (sucF st y).ns z = hasN st.ns z := fun z => hasN_upd st.ns y z fun _ => rfl
    rw [← e]
    refine sucF_rh ys (st := sucF st y) (fun z hz => by rw [e]; exact hl z (.tail _ hz)) (fun z hz => ?_) x hx
    rw [e]
    unfold sucF at hz
    dsimp only at hz
    split at hz
    · rcases List.mem_append.mp hz with q | q
      · exact h z q
      · rw [List.mem_singleton.mp q]; exact hl y (.head _)
    · exact h z hz
theorem inv_done {wish : List Int} {st st' : St} {x : Int} (i : Inv wish st) (hr : st.ready = []) (h : doneF st x = .ok st') : Inv wish st' := by
  unfold doneF at h
  split at h
  · cases h
  rename_i q hq
  have hqm : q ∈ st.ns := List.mem_of_find?_eq_some hq
  split at h
  · dsimp only at h
    split at h
    · rename_i hall
      cases h
      have e : ∀ z, hasN (updN st.ns x fun q => { q with np := -2 }) z = hasN st.ns z := fun z => hasN_upd st.ns x z fun _ => rfl
      refine ⟨fun z hz => ?_, ?_, ?_, fun z hz => ?_⟩
      · show hasN (q.suc.foldl sucF _).ns z = true
        rw [hasN_suc, e]; exact i.has z hz
      · exact sucF_bnd q.suc (i.bnd.same x fun _ => rfl)
      · have := sucF_fold_len q.suc { st with ns := updN st.ns x fun q => { q with np := -2 } }
        have h2 := i.bnd.2 q hqm
        rw [hr] at this
        show (q.suc.foldl sucF _).ready.length ≤ 52
        simp only [List.length_nil] at this
        rw [hr]
        omega
      · show hasN (q.suc.foldl sucF _).ns z = true
        rw [hasN_suc]
        refine sucF_rh q.suc (List.all_eq_true.mp hall) (fun y hy => ?_) z hz
        rw [hr] at hy; cases hy
    · cases h
  · split at h <;> cases h

noncomputable def AndL (H : Heap → Prop) (a : Addr) (l : List Int) (h : Heap) : Prop := H h ∧ ∃ vs, h.PlainList a vs ∧ IntsAre vs.toList l
theorem AndL.sep {F : List Addr} {H : Heap → Prop} {a : Addr} {l : List Int} (S : Sep F H) : Sep (a :: F) (AndL H a l) := by
  refine ⟨fun h ⟨x, vs, ⟨n, e⟩, _⟩ b hb => ?_, fun h h' ⟨x, vs, ⟨n, e⟩, hi⟩ q => ⟨S.loc h h' x fun b hb => q b (.tail _ hb), vs, ⟨n, q a (.head _) _ e⟩, hi⟩⟩
  rcases List.mem_cons.mp hb with rfl | hb
  · exact ⟨_, e, by simp⟩
  · exact S.live h x b hb

noncomputable def RunV (h0 : Heap) (r : Run) (v : Value) (h : Heap) : Prop :=
  ∃ T ag vs, v = .ref T ∧ h0.get? T = none ∧ h0.get? ag = none ∧ h.get? T = some { cls := .type "tuple", data := .seq #[.bool r.1, .ref ag, .bool r.2.2] } ∧ h.PlainList ag vs ∧ IntsAre vs.toList r.2.1
theorem RunV.rd {h0 h : Heap} {r : Run} {v : Value} {O : List Addr} (x : RunV h0 r v h) (low : ∀ a ∈ O, ∃ o, h0.get? a = some o) : Rd O h v (RD r) := by
  obtain ⟨T, ag, vs, rfl, d1, d2, e, pl, hi⟩ := x
  have no : ∀ a, h0.get? a = none → a ∉ O := fun a e q => by obtain ⟨o, e'⟩ := low a q; rw [e] at e'; cases e'
  refine rd_tuple ⟨_, e, rfl, 0, rfl⟩ (no T d1) (.cons (.bool _) (.cons (rd_list pl (no ag d2) (of_intsAre hi)) (.cons (.bool _) .nil)))

section
variable {w : World} {h₀ : Heap} {k : Nat} {K : Frag} {S : SS} {X F : List Addr} {env : Env} {sc : Scope} {δ : Str → Option PyData} {ν : Str → Option Value} {H : Heap → Prop} {A : Around} {E : Value → Shared → Prop} {s : Shared} {N : Nat}

theorem ret3 {b : Bool} {ag : Addr} {e3 : Expr} {n : Nat} {p1 p2 p3 p4 : Pos} {Q : Flow → Shared → Prop} (hr : ν "ring" = some (.bool b)) (hg : ν "gone" = some (.ref ag)) (c : Cx X F s.heap env sc δ ν H)
    (h : wpAny (model P w) A (eval e3 env) (fun v s₁ => ∀ h1, h1.get? s₁.heap.objs.size = some { cls := .type "tuple", data := .seq #[.bool b, .ref ag, v] } → Kp N s₁.heap h1 → Q (.ret (.ref s₁.heap.objs.size)) { s₁ with heap := h1 }) E s)
    (hst : starEach [.Name "ring" p1, .Name "gone" p2, e3] env = [(false, eval (.Name "ring" p1) env), (false, eval (.Name "gone" p2) env), (false, eval e3 env)] := by rfl) :
    wpAny (model P w) A (exec (.Return (some (.Tuple [.Name "ring" p1, .Name "gone" p2, e3] n p3)) p4) env) Q E s := by
  refine wpAny_Return_some (wpAny_Tuple ?_)
  rw [hst]
  refine spliced_cons (name_cx hr c (spliced_cons (name_cx hg c (spliced_cons (wpAny_mono h (fun v s₁ h₁ => spliced_nil ⟨(by show 3 ≤ sizeLine; rw [szl]; decide), ?_⟩) fun _ _ z => z)))))
  exact h₁ _ (Heap.get?_push_size _ rfl) (Kp.push _ _)

theorem notIn_ints {x : Int} {u : Tok} {a : Addr} {vs : Array Value} {l : List Int} {Q : Value → Shared → Prop} (hu : A.units + 65 < cLine) (pl : s.heap.PlainList a vs) (hi : IntsAre vs.toList l) (h : Q (.bool (!l.contains x)) s) :
    wpAny (model P w) A (compareOp .NotIn (.int x u) (.ref a)) Q E s := by
  obtain ⟨as, rc⟩ := rd_reads (rd_list (O := []) pl (by simp) (of_intsAre hi))
  refine notIn_list_reads rc (.int x u) (ints_lay l) rfl ?_ ?_
  · exact room_in_shaped (d := .int x) rfl hu
  · rw [any_eqv]; exact h

theorem list_extend {o e : Expr} {apos pos : Pos} {a : Addr} {Q : Value → Shared → Prop} (hline : (apos.endLine == pos.line) = true)
    (h : wpAny (model P w) A (eval o env) (fun ov s₁ => ov = .ref a ∧ (∃ us, s₁.heap.PlainList a us) ∧ wpAny (model P w) A (eval e env) (fun v s₂ => ∃ us ws T, v = .ref T ∧ s₂.heap.PlainList a us ∧ us.size + ws.size ≤ 10000 ∧ s₂.heap.get? T = some { cls := .type "tuple", data := .seq ws } ∧
      ∀ h1, h1.PlainList a (us ++ ws) → Heap.SameBut a s₂.heap h1 → Q .none { s₂ with heap := h1 }) E s₁) E s)
    (hbase : attributeBase o "extend" env (eval o env) = eval o env := by rfl) (htrees : backTo pos (starEach [e] env) = [(false, eval e env)] := by rfl) :
    wpAny (model P w) A (eval (.Call (.Attribute o "extend" apos) [e] [] pos) env) Q E s := by
  refine wpAny_Call_method1_late hbase hline htrees (wpAny_mono h (fun ov s₁ h₁ => ?_) fun _ _ z => z)
  obtain ⟨rfl, ⟨us0, n0, e0⟩, h2⟩ := h₁
  refine ⟨"list", "list.extend", PySem.F.plainAttrs_list, PySem.F.slot_list_extend, PySem.F.type_list_extend, ⟨_, e0, rfl⟩, fun b q => (by cases q; exact ⟨_, e0, rfl⟩), ?_⟩
  refine seqMethod1_meets PySem.F.slot_list_extend PySem.F.entry_list_extend (wpAny_mono h2 (fun v s₂ h₃ => ?_) fun _ _ z => z)
  obtain ⟨us, ws, T, rfl, ⟨n, e1⟩, hz, e2, hq⟩ := h₃
  have hz' : us.size + ws.size ≤ sizeLine := by rw [szl]; omega
  refine ⟨⟨_, e1, rfl⟩, PySem.F.args_list_extend_2 _ _, _, AutoSeq1.list_extend_list_tuple_0 a us n T ws 0 (extend_door hz') (by omega) (by omega), e1, e2, ?_⟩
  exact hq _ ⟨_, Heap.get?_update_self _ e1 rfl⟩ (Heap.SameBut.update ..)
end
end Mine
end
section
open PySem.Calls PySem.Spec PySem.SeqAt Builtin Builtin.ObjectAttr
set_option maxRecDepth 100000
namespace Mine
section
variable {w : World} {h₀ : Heap} {k : Nat} {K : Frag} {S : SS} {env : Env} {sc : Scope} {δ : Str → Option PyData} {ν : Str → Option Value} {A : Around} {E : Value → Shared → Prop} {s : Shared} {L Lf : Addr} {outer : List Env}

theorem he_line {o : Expr} {name : Str} {apos pos : Pos} {args : List Expr} (hline : (apos.endLine == pos.line) = true) (hfew : methodCallForm (args.length + 0) (backTo pos (starEach args env)) [] = true := by rfl) (hbase : attributeBase o name env (eval o env) = eval o env := by rfl) :
    eval (.Call (.Attribute o name apos) args [] pos) env = (do
      let ov ← eval o env
      standAt apos.atName
      let (f, first) ← holding [ov] (getMethod ov name (do return (← importBound o env).getD true))
      callWith pos f first (backTo pos (starEach args env)) (backToKw pos (keywordEach [] env))) := by
  have he : eval (.Call (.Attribute o name apos) args [] pos) env = (attributeBase o name env (eval o env) >>= fun ov => standAt apos.atName >>= fun _ => methodCall o name apos pos env ov (args.length + 0) (backTo pos (starEach args env)) []) := rfl
  have e : methodCallPos true o env apos pos = pure pos := by unfold methodCallPos; rw [hline]; rfl
  rw [he, hbase]
  unfold methodCall
  rw [hfew, e]
  rfl

theorem run_prep (B : SK K h₀) (B0 : Base h₀) (G : SG h₀) (GX : SX h₀) {b : Bool} {p1 p2 p3 q1 q2 q3 q4 q5 q6 q7 q8 q9 q10 : Pos} {n1 n2 : Nat} {rest : List Stmt} {Q : Flow → Shared → Prop} (hline : (q2.endLine == q3.line) = true) (hrd : S.rd = none) (hring : ringF S.nodes = some b) (hlen : S.ps.length ≤ 20)
    (hw : Wr [L] env sc) (hso : sc.names.lookup ("ring" : Str) = some .local) (hsc : sc.names.lookup ("CycleError" : Str) = some .globalImplicit) (hL0 : h₀.get? L = none) (hδ : δ "ring" = none) (hνs : ν "sorter" = some (.ref S.x)) (hfr : A.frames = some (env :: outer)) (hf : env.frame = some Lf)
    (ok : Ok h₀ (k + 2) A s.heap) (fi : FrI h₀ A s.heap) (c : Cx [L] S.fp s.heap env sc δ ν (S.At w h₀))
    (h : ∀ r h1 t1, Ok h₀ (k + 2) A h1 → Cx [L] ({ S with rd := some (r, readyF S.nodes) } : SS).fp h1 env sc δ (updV ν "ring" (.bool b)) (({ S with rd := some (r, readyF S.nodes) } : SS).At w h₀) → KpX (S.fp ++ [L]) h₀.objs.size s.heap h1 → (∀ a ∈ ({ S with rd := some (r, readyF S.nodes) } : SS).fp, a ∈ S.fp ∨ s.heap.get? a = none) →
      wpAny (model P w) A (execs rest env) Q E { s with heap := h1, toks := t1 }) :
    wpAny (model P w) A (execs (.Assign [.Name "ring" p1] (.Constant (.bool false) n1 p2) p3 :: .Try [.Expr (.Call (.Attribute (.Name "sorter" q1) "prepare" q2) [] [] q3) q4] [.ExceptHandler (some (.Name "CycleError" q5)) none [.Assign [.Name "ring" q6] (.Constant (.bool true) n2 q7) q8] q9] [] [] q10 :: rest) env) Q E s := by
  have hX0 : ∀ a ∈ [L], h₀.get? a = none := fun a ha => by rw [List.mem_singleton.mp ha]; exact hL0
  refine wpAny_execs_cons (wpAny_Assign_Name (wpAny_Constant_bool (c.store (N := h₀.objs.size) (hw "ring" (.inl hso)) hδ fun h1 t1 c1 k1 => ?_)))
  have ok1 := ok.kpx k1 hX0
  have fi1 := fi.kpx k1
  refine wpAny_execs_cons (wpAny_Try_except (wpAny_execs_cons (wpAny_Expr_any (obj_call0 (S := S) (f := 92) (s := { s with heap := h1, toks := t1 }) B (by decide) (updV_ne hνs) ok1 c1 c1.hp (m_prepare (k := k) (s := { s with heap := h1, toks := t1 }) B B0 G GX hrd hring hlen ok1 fi1 c1.hp (fun hb r h2 t2 tu => ?_) (fun hb fs e r ex L' hr h2 t2 hL' hLn tu rz => ?_)) (he_line hline)) (by unfold interactive; rw [c1.er.kind]; rfl) rfl)))
  · subst hb
    have c2 := c1.turn tu.keep tu.new SS.sep tu.at_
    refine wpAny_execs_nil (wpAny_execs_nil (h r h2 t2 (ok1.kpx tu.keep c1.hp.dead) c2 ?_ fun a ha => (tu.new a ha).imp id k1.deadX))
    exact (k1.mono fun a ha => .inl (List.mem_append_right _ ha)).trans (tu.keep.mono fun a ha => .inl (List.mem_append_left _ ha))
  · subst hb
    rw [hfr] at e; cases e
    obtain ⟨mg, O⟩ := GX.own
    have c2 := c1.turn tu.keep tu.new SS.sep tu.at_
    have okr := ok1.kpx tu.keep c1.hp.dead
    refine caught_own (s := { s with heap := h2, toks := t2 }) O (by decide +kernel) hfr hf rz GX.ce c2 okr.stays hsc fun h3 E' k3 => ?_
    refine wpAny_execs_cons (wpAny_Assign_Name (wpAny_Constant_bool ((c2.kp k3).store (N := h₀.objs.size) (s := { s with heap := h3, toks := t2 }) (hw "ring" (.inl hso)) hδ fun h4 t4 c4 k4 => wpAny_execs_nil ?_)))
    have c4' : Cx [L] ({ S with rd := some (r, readyF S.nodes) } : SS).fp h4 env sc δ (updV ν "ring" (.bool true)) (({ S with rd := some (r, readyF S.nodes) } : SS).At w h₀) := c4.forget (fun _ _ e => e) fun y v e => by
      unfold updV at *
      by_cases q : y = "ring"
      · rw [if_pos q] at e ⊢; exact e
      · rw [if_neg q] at e ⊢; rw [if_neg q]; exact e
    have k24 : KpX (S.fp ++ [L]) h₀.objs.size s.heap h4 := ((k1.mono fun a ha => .inl (List.mem_append_right _ ha)).trans (tu.keep.mono fun a ha => .inl (List.mem_append_left _ ha))).trans (k3.x.trans (k4.mono fun a ha => .inl (List.mem_append_right _ ha)))
    exact h r h4 t4 ((okr.kp k3).kpx k4 hX0) c4' k24 fun a ha => (tu.new a ha).imp id k1.deadX

theorem stepR {X : List Addr} {S S2 : SS} {ao ag : Addr} {l1 l2 l3 l4 : List Int} {h h' : Heap} {Y : List Addr} (c : Cx X (ag :: ao :: S.fp) h env sc δ ν (AndL (AndL (S.At w h₀) ao l1) ag l2)) (q : KpX Y h₀.objs.size h h') (hY : ∀ a ∈ Y, a ∈ ag :: ao :: S.fp) (at2 : S2.At w h₀ h') (hn : ∀ a ∈ S2.fp, a ∈ S.fp ∨ h.get? a = none)
    (o2 : ∃ vs, h'.PlainList ao vs ∧ IntsAre vs.toList l3) (g2 : ∃ vs, h'.PlainList ag vs ∧ IntsAre vs.toList l4) : Cx X (ag :: ao :: S2.fp) h' env sc δ ν (AndL (AndL (S2.At w h₀) ao l3) ag l4) :=
  c.turn (q.mono fun a ha => .inl (hY a ha)) (fun a ha => by
    rcases List.mem_cons.mp ha with rfl | ha
    · exact .inl (.head _)
    rcases List.mem_cons.mp ha with rfl | ha
    · exact .inl (.tail _ (.head _))
    · exact (hn a ha).imp (fun z => .tail _ (.tail _ z)) id) (AndL.sep (AndL.sep SS.sep)) ⟨⟨at2, o2⟩, g2⟩
theorem pl_keep {X : List Addr} {N : Nat} {h h' : Heap} {a : Addr} {l : List Int} (q : KpX X N h h') (ha : a ∉ X) (x : ∃ vs, h.PlainList a vs ∧ IntsAre vs.toList l) : ∃ vs, h'.PlainList a vs ∧ IntsAre vs.toList l := let ⟨vs, e, hi⟩ := x; ⟨vs, q.plain ha e, hi⟩
end
end Mine
end
section
open PySem.Calls PySem.Spec PySem.SeqAt Builtin Builtin.ObjectAttr
set_option maxRecDepth 100000
set_option maxHeartbeats 1000000
namespace Mine
section
variable {w : World} {h₀ : Heap} {k : Nat} {K : Frag} {S : SS} {env : Env} {sc : Scope} {δ : Str → Option PyData} {ν : Str → Option Value} {A : Around} {E : Value → Shared → Prop} {s : Shared} {L Lf : Addr} {outer : List Env}

inductive RunJ (w : World) (h₀ : Heap) (k : Nat) (S : SS) (r : Addr) (wish : List Int) (ring : Bool) (run : Run) (A : Around) (env : Env) (sc : Scope) (δ : Str → Option PyData) (ν : Str → Option Value) (L it ao ag : Addr) (hs : Heap) (i : Nat) (g : Heap) : Prop
  | mk (S' : SS) (st : St) (out gone : List Int) (j1 : Sy S' r st) (j2 : Inv wish st) (j3 : walkF ring (wish.drop i) st out gone = some run) (j4 : out.length ≤ 52 * i) (j5 : gone.length ≤ i) (j6 : Ok h₀ (k + 2) A g)
      (j7 : Cx (it :: [L]) (ag :: ao :: S'.fp) g env sc δ ν (AndL (AndL (S'.At w h₀) ao out) ag gone)) (j8 : ao ∉ S'.fp) (j9 : ag ∉ S'.fp) (j10 : S'.x = S.x) (j11 : ∀ c ∈ S'.fp, c ∈ S.fp ∨ hs.get? c = none)
      (j12 : KpX (S.fp ++ [ao, ag, L]) h₀.objs.size hs g)

theorem run_wish (B : SK K h₀) (B0 : Base h₀) (G : SG h₀) (GX : SX h₀) {wish : List Int} {run : Run} {ring : Bool} {r aw ao ag : Addr} {st0 : St} {h0 : Heap} {Z : List Addr}
    {Q : Flow → Shared → Prop}
    (hwish : ∀ x ∈ wish, 0 ≤ x ∧ x ≤ 3) (hlen : wish.length ≤ 60) (sy : Sy S r st0) (inv : Inv wish st0) (hwalk : walkF ring wish st0 [] [] = some run)
    (hw : Wr [L] env sc) (hso : sc.names.lookup ("name" : Str) = some .local) (hsc : sc.names.lookup ("ValueError" : Str) = some .globalImplicit) (hL0 : h₀.get? L = none)
    (hδ : δ "name" = none) (hδw : δ "wish" = some (LI wish)) (hνn : ν "name" = none) (hνw : ν "wish" = some (.ref aw)) (hνs : ν "sorter" = some (.ref S.x)) (hνr : ν "ring" = some (.bool ring)) (hνo : ν "out" = some (.ref ao)) (hνg : ν "gone" = some (.ref ag))
    (hfr : A.frames = some (env :: outer)) (hf : env.frame = some Lf) (hao : ao ∉ S.fp) (hag : ag ∉ S.fp) (hne : ao ≠ ag) (ha0 : h₀.get? ao = none ∧ h₀.get? ag = none) (hd0 : h0.get? ag = none) (k0 : KpX Z h₀.objs.size h0 s.heap)
    (ok : Ok h₀ (k + 2) A s.heap) (fi : FrI h₀ A s.heap) (c : Cx [L] (ag :: ao :: S.fp) s.heap env sc δ ν (AndL (AndL (S.At w h₀) ao []) ag []))
    (hQ : ∀ v h1 t1, RunV h0 run v h1 → KpX (S.fp ++ [ao, ag, L]) h₀.objs.size s.heap h1 → Q (.ret v) { s with heap := h1, toks := t1 }) :
    wpAny (model P w) A (execs ((bodyAt 9).drop 6) env) Q E s := by
  show wpAny (model P w) A (execs [.For (.Name "name" _) (.Name "wish" _)
      [.Expr (.Call (.Attribute (.Name "out" _) "extend" _) [.Call (.Attribute (.Name "sorter" _) "get_ready" _) [] [] _] [] _) _,
       .Try [.Expr (.Call (.Attribute (.Name "sorter" _) "done" _) [.Name "name" _] [] _) _] [.ExceptHandler (some (.Name "ValueError" _)) none
         [.Return (some (.Tuple [.Name "ring" _, .Name "gone" _, .Compare (.Name "name" _) [.NotIn] [.Name "out" _] _] _ _)) _] _] [] [] _,
       .Expr (.Call (.Attribute (.Name "gone" _) "append" _) [.Name "name" _] [] _) _,
       .If (.Compare (.Name "name" _) [.NotIn] [.Name "out" _] _) [.Return (some (.Tuple [.Name "ring" _, .Name "gone" _, .Constant (.bool false) _ _] _ _)) _] [] _] [] _,
      .Return (some (.Tuple [.Name "ring" _, .Name "gone" _, .UnaryOp .Not (.Call (.Attribute (.Name "sorter" _) "is_active" _) [] [] _) _] _ _)) _] env) Q E s
  obtain ⟨vs, pl0, ra0, haX⟩ := c.listAt hδw hνw
  have hin0 := intsAre_of ra0
  have hX0 : ∀ b ∈ [L], h₀.get? b = none := fun b hb => by rw [List.mem_singleton.mp hb]; exact hL0
  have hW0 : ∀ z ∈ S.fp ++ [ao, ag, L], h₀.get? z = none := fun z hz => by
    rcases List.mem_append.mp hz with q | q
    · exact c.hp.1.1.dead z q
    · simp only [List.mem_cons, List.not_mem_nil, or_false] at q
      rcases q with rfl | rfl | rfl
      · exact ha0.1
      · exact ha0.2
      · exact hL0
  have isl : ∀ {h : Heap} {us : Array Value}, h.PlainList aw us → h.IsList aw us := fun ⟨n, e⟩ => ⟨_, e, rfl, n, rfl⟩
  refine wpAny_execs_cons (wpAny_For (name_cx hνw c (pyIter_sq (b := false) (N := h₀.objs.size) (show IsSq false _ _ _ from isl pl0) fun it h2 hit i2 x2 k2 => ?_)) (fun v => rfl))
  have hnit : aw ≠ it := fun q => by obtain ⟨n, e⟩ := pl0; rw [q, hit] at e; cases e
  have hitX : it ∉ [L] := fun q => by obtain ⟨o, e⟩ := c.er.low it (List.mem_append_right _ q); rw [hit] at e; cases e
  have off : Off [it] env := c.er.off_fresh fun b hb => by rw [List.mem_singleton.mp hb]; exact hit
  have hitF : it ∉ ag :: ao :: S.fp := fun q => by obtain ⟨o, e, _⟩ := c.sep.live _ c.hp it q; rw [hit] at e; cases e
  have hit0 : h₀.get? it = none := ok.dead hit
  let J : Nat → Heap → Prop := RunJ w h₀ k S r wish ring run A env sc δ ν L it ao ag s.heap
  obtain ⟨oi, hoi, _⟩ := i2.alive
  have j0 : J 0 h2 := ⟨S, st0, [], [], sy, inv, by rw [List.drop_zero]; exact hwalk, Nat.zero_le _, Nat.zero_le _, ok.kp k2, c.addX hit k2 ⟨oi, hoi⟩, hao, hag, rfl, fun c hc => .inl hc, k2.x⟩
  have hsz : vs.size = wish.length := by rw [← Array.length_toList]; exact ints_length hin0
  have oA : ∀ {g : Heap} {S' : SS} {out gone : List Int} {X : List Addr} {δ' ν'}, Cx X (ag :: ao :: S'.fp) g env sc δ' ν' (AndL (AndL (S'.At w h₀) ao out) ag gone) → ∀ z ∈ ag :: ao :: S'.fp, ∃ o, g.get? z = some o := fun c z hz => let ⟨o, e, _⟩ := c.sep.live _ c.hp z hz; ⟨o, e⟩
  refine loop_sq (b := false) (N := h₀.objs.size) (s₀ := s) (Q := Q) ⟨_, _, rfl⟩ ok.hh hnit J (fun i g g' j q al => ?_) (fun i v s' hv hs' hj al ala => ?_) (fun v s' q => q) (fun g g' tk hj hk => ?_) vs.size 0 (Nat.zero_add _) _ ⟨h2, _, rfl⟩ i2 x2 j0
  · obtain ⟨S', st, out, gone, j1, j2, j3, j4, j5, j6, j7, j8, j9, j10, j11, j12⟩ := j
    exact ⟨S', st, out, gone, j1, j2, j3, j4, j5, j6.kpx q (fun c hc => by rw [List.mem_singleton.mp hc]; exact hit0), j7.step q off, j8, j9, j10, j11, j12.stepX q fun z hz => by rw [List.mem_singleton.mp hz]; exact .inr hit⟩
  · obtain ⟨S', st, out, gone, sy', iv, hwk, hol, hgl, ok', c', hao', hag', hxS, hn, kk⟩ := hj
    obtain ⟨hp, tk, rfl⟩ := hs'
    obtain ⟨x, u, hx, rfl⟩ := ints_get hin0 (by simpa using hv)
    have hxm : x ∈ wish := List.mem_of_getElem? hx
    have hi : i < wish.length := (List.getElem?_eq_some_iff.mp hx).1
    have hdrop : wish.drop i = x :: wish.drop (i + 1) := by
      obtain ⟨h1, h2⟩ := List.getElem?_eq_some_iff.mp hx
      rw [List.drop_eq_getElem_cons h1, h2]
    rw [hdrop] at hwk
    have awF : aw ∉ ag :: ao :: S'.fp := fun q => by
      obtain ⟨us, _, _, hh⟩ := c'.listAt hδw hνw
      exact hh (List.mem_append_left _ q)
    refine wpAny_assign_Name (Cx.storeW (W := [L]) (N := h₀.objs.size) (s := { s with heap := hp, toks := tk }) (fun b hb => .tail _ hb) c' (hw _ (.inl hso)) hδ fun h3 t3 c3 k3 => ?_)
    have ok3 := ok'.kpx k3 hX0
    have kk3 := kk.stepX k3 fun z hz => .inl (List.mem_append_right _ (by rw [List.mem_singleton.mp hz]; simp))
    have hxs : ∀ {S2 : SS}, S2.x = S.x → updV ν "name" (.int x u) "sorter" = some (.ref S2.x) := fun e => by rw [e]; exact updV_ne hνs
    have hrl := iv.rl
    obtain ⟨us, plo, hio⟩ := c3.hp.1.2
    refine wpAny_execs_cons (wpAny_Expr_any (list_extend (a := ao) (by rfl) (name_cx (s := { s with heap := h3, toks := t3 }) (updV_ne hνo) c3 ⟨rfl, ⟨us, plo⟩, obj_call0 (S := S') (f := 99) (s := { s with heap := h3, toks := t3 }) B (by decide) (hxs hxS) ok3 c3 c3.hp.1.1 (m_ready (k := k + 1) (s := { s with heap := h3, toks := t3 }) B B0 G sy'.rd (by omega) (fun y hy => by rw [sy'.ns]; exact iv.rh y hy) ok3 c3.hp.1.1 fun S2 T ws h4 t4 tu hno hst hT hin hTd hTS => ?_) (he_line (by rfl))⟩)) (by unfold interactive; rw [c3.er.kind]; rfl) rfl)
    have hwl := ints_length hin
    have hul := ints_length hio
    have ao3 : ao ∉ S2.fp := fun q => (tu.new ao q).elim hao' fun e => by obtain ⟨o, e'⟩ := oA c3 ao (.tail _ (.head _)); rw [e] at e'; cases e'
    have ag3 : ag ∉ S2.fp := fun q => (tu.new ag q).elim hag' fun e => by obtain ⟨o, e'⟩ := oA c3 ag (.head _); rw [e] at e'; cases e'
    refine ⟨us, ws, T, rfl, tu.keep.plain hao' plo, ?_, hT, fun h5 pl5 sb5 => ?_⟩
    · rw [← Array.length_toList, ← Array.length_toList, hwl, hul]; omega
    have k45 : KpX [ao] h₀.objs.size h4 h5 := by
      obtain ⟨m5, e5⟩ := pl5
      obtain ⟨m4, e4⟩ := tu.keep.plain hao' plo
      exact .sameObj sb5 (.head _) e5 e4 rfl (fun _ q => by cases q)
    have k35 : KpX (ao :: S'.fp) h₀.objs.size h3 h5 := (tu.keep.mono fun a ha => .inl (.tail _ ha)).trans (k45.mono fun a ha => .inl (by rw [List.mem_singleton.mp ha]; exact .head _))
    have at5 : S2.At w h₀ h5 := SS.sep.kpx tu.at_ k45 fun a ha q => ao3 (by rw [List.mem_singleton.mp ha] at q; exact q)
    have c5 := stepR (S2 := S2) (l3 := out ++ st.ready) (l4 := gone) c3 k35 (fun a ha => .tail _ ha) at5 tu.new ⟨_, pl5, by rw [Array.toList_append]; exact ints_app hio hin⟩ (pl_keep k35 (fun q => (List.mem_cons.mp q).elim (fun z => hne z.symm) hag') c3.hp.2)
    have hF' : ∀ z ∈ ao :: S'.fp, h₀.get? z = none := fun z hz => (List.mem_cons.mp hz).elim (fun q => q ▸ ha0.1) (c3.hp.1.1.dead z)
    have ok5 := ok3.kpx k35 hF'
    have sy2 : Sy S2 r (outF st) := ⟨by rw [hno, sy'.ns]; rfl, hst.1, by rw [hst.2.1, sy'.pa]; rfl, by rw [hst.2.2, sy'.fi]; rfl⟩
    have iv2 := inv_out iv
    have hZ : ∀ z ∈ ao :: S'.fp, z ∈ S.fp ++ [ao, ag, L] ∨ s.heap.get? z = none := fun z hz => (List.mem_cons.mp hz).elim (fun q => .inl (by rw [q]; simp)) fun q => (hn z q).imp (List.mem_append_left _) id
    have kk5 := kk3.stepX k35 hZ
    have hn5 : ∀ z ∈ S2.fp, z ∈ S.fp ∨ s.heap.get? z = none := fun z hz => (tu.new z hz).elim (hn z) fun q => .inr (kk3.deadX q)
    have hx5 : S2.x = S.x := tu.same.1.trans hxS
    have hol' : (out ++ st.ready).length ≤ 52 * (i + 1) := by rw [List.length_append]; omega
    have fi5 := fi.kpx kk5
    generalize hout : out ++ st.ready = out' at *
    unfold walkF at hwk
    dsimp only at hwk
    rw [hout] at hwk
    have hbad : doneF (outF st) x ≠ .bad := fun q => by rw [q] at hwk; cases hwk
    have mkV : ∀ {T : Addr} {hE : Heap} {gone' : List Int} {bb : Bool}, kk5 = kk5 → s.heap.get? T = none → run = (ring, gone', bb) → hE.get? T = some { cls := .type "tuple", data := .seq #[.bool ring, .ref ag, .bool bb] } → (∃ vs, hE.PlainList ag vs ∧ IntsAre vs.toList gone') → RunV h0 run (.ref T) hE := fun {T hE gone' bb} _ hT e e1 ⟨vs, pl, hi⟩ => by
      subst e
      exact ⟨T, ag, vs, rfl, k0.deadX hT, hd0, e1, pl, hi⟩
    refine wpAny_execs_cons (wpAny_Try_except (wpAny_execs_cons (wpAny_Expr_any (obj_call1 (S := S2) (f := 120) (v := .int x u) (s := { s with heap := h5, toks := t4 }) B (by decide) (hxs hx5) (if_pos rfl) ok5 c5 at5 (m_done (k := k + 1) (c := 52) (s := { s with heap := h5, toks := t4 }) B G GX sy2 (iv2.has x hxm) iv2.bnd (by show 0 + 52 ≤ 900; decide) (hwish x hxm) hbad ok5 fi5 at5 (fun st' hd S3 h6 t6 tu3 sy3 => ?_) (fun hd fs hfs ex L' hr h6 t6 hL' hLn tu3 rz => ?_)) (he_line (by rfl))) (by unfold interactive; rw [c5.er.kind]; rfl) rfl)))
    · -- taken
      rw [hd] at hwk
      dsimp only at hwk
      refine wpAny_execs_nil (wpAny_execs_nil ?_)
      have c6 := stepR (S2 := S3) c5 tu3.keep (fun a ha => .tail _ (.tail _ ha)) tu3.at_ tu3.new (pl_keep tu3.keep ao3 c5.hp.1.2) (pl_keep tu3.keep ag3 c5.hp.2)
      have ok6 := ok5.kpx tu3.keep at5.dead
      have kk6 := kk5.stepX tu3.keep fun z hz => (hn5 z hz).imp (List.mem_append_left _) id
      have ao6 : ao ∉ S3.fp := fun q => (tu3.new ao q).elim ao3 fun e => by obtain ⟨o, e'⟩ := oA c5 ao (.tail _ (.head _)); rw [e] at e'; cases e'
      have ag6 : ag ∉ S3.fp := fun q => (tu3.new ag q).elim ag3 fun e => by obtain ⟨o, e'⟩ := oA c5 ag (.head _); rw [e] at e'; cases e'
      have hn6 : ∀ z ∈ S3.fp, z ∈ S.fp ∨ s.heap.get? z = none := fun z hz => (tu3.new z hz).elim (hn5 z) fun q => .inr (kk5.deadX q)
      obtain ⟨gs, plg, hig⟩ := c6.hp.2
      have hgsl := ints_length hig
      refine wpAny_execs_cons (wpAny_Expr_any (wpAny_Call_append rfl rfl (by rfl) rfl (name_cx (s := { s with heap := h6, toks := t6 }) (updV_ne hνg) c6 ⟨ag, gs, rfl, (let ⟨m, e⟩ := plg; ⟨_, m, e, rfl, rfl, rfl⟩), name_cx (s := { s with heap := h6, toks := t6 }) (v := .int x u) (if_pos rfl) c6 (wpAny_list_append_plain (s := { s with heap := h6, toks := t6 }) (hsz := by rw [szl, ← Array.length_toList]; omega) plg fun h7 pl7 s7 => ?_)⟩)) (by unfold interactive; rw [c6.er.kind]; rfl) rfl)
      have k67 : KpX [ag] h₀.objs.size h6 h7 := by
        obtain ⟨m7, e7⟩ := pl7
        obtain ⟨m6, e6⟩ := plg
        exact .sameObj s7 (.head _) e7 e6 rfl (fun _ q => by cases q)
      have at7 : S3.At w h₀ h7 := SS.sep.kpx c6.hp.1.1 k67 fun a ha q => ag6 (by rw [List.mem_singleton.mp ha] at q; exact q)
      have c7 := stepR (S2 := S3) (l4 := gone ++ [x]) c6 k67 (fun a ha => by rw [List.mem_singleton.mp ha]; exact .head _) at7 (fun a ha => .inl ha) (pl_keep k67 (fun q => hne (List.mem_singleton.mp q)) c6.hp.1.2) ⟨_, pl7, by rw [Array.toList_push]; exact ints_app hig (.cons x u .nil)⟩
      have ok7 := ok6.kpx k67 fun a ha => by rw [List.mem_singleton.mp ha]; exact ha0.2
      have kk7 := kk6.stepX k67 fun a ha => by rw [List.mem_singleton.mp ha]; exact .inl (by simp)
      obtain ⟨os, plo7, hio7⟩ := c7.hp.1.2
      have kt7 : KpX ([L] ++ ((ao :: S'.fp) ++ (S2.fp ++ [ag]))) h₀.objs.size hp h7 := ((k3.mono fun z hz => .inl (List.mem_append_left _ hz)).trans (k35.mono fun z hz => .inl (List.mem_append_right _ (List.mem_append_left _ hz)))).trans ((tu3.keep.mono fun z hz => .inl (List.mem_append_right _ (List.mem_append_right _ (List.mem_append_left _ hz)))).trans (k67.mono fun z hz => .inl (List.mem_append_right _ (List.mem_append_right _ (List.mem_append_right _ hz)))))
      have notX : ∀ z, z ∉ [L] → z ∉ ag :: ao :: S'.fp → (∃ o, h3.get? z = some o) → z ∉ [L] ++ ((ao :: S'.fp) ++ (S2.fp ++ [ag])) := fun z z1 z2 z3 q => by
        rcases List.mem_append.mp q with q | q
        · exact z1 q
        rcases List.mem_append.mp q with q | q
        · exact z2 (.tail _ q)
        rcases List.mem_append.mp q with q | q
        · exact (tu.new z q).elim (fun y => z2 (.tail _ (.tail _ y))) fun e => by obtain ⟨o, e'⟩ := z3; rw [e] at e'; cases e'
        · exact z2 (by rw [List.mem_singleton.mp q]; exact .head _)
      refine wpAny_execs_cons (wpAny_If (wpAny_isTrue_Compare1 (name_cx (s := { s with heap := h7, toks := t6 }) (v := .int x u) (if_pos rfl) c7 (name_cx (s := { s with heap := h7, toks := t6 }) (v := .ref ao) (updV_ne hνo) c7 (notIn_ints (s := { s with heap := h7, toks := t6 }) ok7.roomy.2 plo7 hio7 (wpAny_truthy_bool ?_))))))
      cases hcon : out'.contains x with
      | true =>
        rw [hcon] at hwk
        refine wpAny_execs_nil (wpAny_execs_nil ?_)
        refine ⟨h7, t6, _, rfl, ⟨S3, st', out', gone ++ [x], sy3, inv_done iv2 rfl hd, hwk, hol', by rw [List.length_append]; exact Nat.succ_le_succ hgl, ok7, c7.wk hνn, ao6, ag6, tu3.same.1.trans hx5, hn6, kk7⟩, kt7, ?_, ?_⟩
        · exact notX aw (fun q => haX (List.mem_append_right _ q)) awF (k3.there ala)
        · exact notX it hitX (fun q => c'.dis it (.head _) q) (k3.there al)
      | false =>
        rw [hcon] at hwk
        have hrun : run = (ring, gone ++ [x], false) := by cases hwk; rfl
        refine wpAny_execs_cons (ret3 (N := h₀.objs.size) (s := { s with heap := h7, toks := t6 }) (b := ring) (ag := ag) (updV_ne hνr) (updV_ne hνg) c7 (wpAny_Constant_bool fun h8 e8 k8 => ?_))
        refine hQ _ h8 t6 (mkV rfl (kk7.deadX (dead_size _ (Nat.le_refl _))) hrun e8 (pl_keep (k8.x (X := [])) (by simp) c7.hp.2)) (kk7.trans k8.x)
    · -- refused
      rw [hd] at hwk
      dsimp only at hwk
      rw [hfr] at hfs; cases hfs
      have c6 := stepR (S2 := S2) c5 tu3.keep (fun a ha => .tail _ (.tail _ ha)) tu3.at_ tu3.new (pl_keep tu3.keep ao3 c5.hp.1.2) (pl_keep tu3.keep ag3 c5.hp.2)
      have ok6 := ok5.kpx tu3.keep at5.dead
      have kk6 := kk5.stepX tu3.keep fun z hz => (hn5 z hz).imp (List.mem_append_left _) id
      have hrun : run = (ring, gone, !out'.contains x) := by cases hwk; rfl
      refine caught_call (T := "ValueError") (s := { s with heap := h6, toks := t6 }) (by rw [isSubtype_type]; kernel_rfl) (by rw [isSubtype_type]; kernel_rfl) (by rw [isSubtype_type]; kernel_rfl) hfr hf rz GX.ve c6 ok6.stays hsc fun h7 E' k7 => ?_
      have c7 := c6.kp k7
      obtain ⟨os, plo7, hio7⟩ := c7.hp.1.2
      refine wpAny_execs_cons (ret3 (N := h₀.objs.size) (s := { s with heap := h7, toks := t6 }) (b := ring) (ag := ag) (updV_ne hνr) (updV_ne hνg) c7 (wpAny_Compare1 (name_cx (s := { s with heap := h7, toks := t6 }) (v := .int x u) (if_pos rfl) c7 (name_cx (s := { s with heap := h7, toks := t6 }) (v := .ref ao) (updV_ne hνo) c7 (notIn_ints (s := { s with heap := h7, toks := t6 }) (show A.units + 65 < cLine from ok6.roomy.2) plo7 hio7 fun h8 e8 k8 => ?_)))))
      have kk7 := kk6.trans k7.x
      exact hQ _ h8 t6 (mkV rfl (kk7.deadX (dead_size _ (Nat.le_refl _))) hrun e8 (pl_keep (k8.x (X := [])) (by simp) c7.hp.2)) (kk7.trans k8.x)
  · -- the loop's end
    obtain ⟨S', st, out, gone, sy', iv, hwk, hol, hgl, ok', c', hao', hag', hxS, hn, kk⟩ := hj
    have k' : KpX (S.fp ++ [ao, ag, L]) h₀.objs.size s.heap g' := kk.but (It := [it]) (fun b o hb e => hk b o (fun q => hb (by rw [q]; exact .head _)) e) (fun c hc => by rw [List.mem_singleton.mp hc]; exact hit) fun c hc q => by
      rw [List.mem_singleton.mp q] at hc
      rcases List.mem_append.mp hc with z | z
      · exact hitF (.tail _ (.tail _ z))
      · simp only [List.mem_cons, List.not_mem_nil, or_false] at z
        rcases z with z | z | z
        · exact hitF (.tail _ (z ▸ .head _))
        · exact hitF (z ▸ .head _)
        · exact hitX (z ▸ .head _)
    have cE := c'.endX hitX hk off
    have okE := ok.kpx k' hW0
    rw [hsz, List.drop_length] at hwk
    unfold walkF at hwk
    have hrun : run = (ring, gone, !(decide (st.fin < st.passed) || !st.ready.isEmpty)) := by cases hwk; rfl
    refine wpAny_execs_cons (ret3 (N := h₀.objs.size) (s := { s with heap := g', toks := tk }) (b := ring) (ag := ag) hνr hνg cE (wpAny_UnaryOp (obj_call0 (S := S') (f := 106) (s := { s with heap := g', toks := tk }) B (by decide) (by rw [hxS]; exact hνs) okE cE cE.hp.1.1 (m_active (k := k + 1) (s := { s with heap := g', toks := tk }) B B0 G sy'.rd (by have := iv.rl; omega) okE cE.hp.1.1 fun h8 t8 at8 k8 => not_value (wpAny_truthy_bool fun h9 e9 k9 => ?_)) (he_line (by rfl)))))
    have kk8 := k'.trans k8.x
    rw [sy'.pa, sy'.fi] at e9
    refine hQ _ h9 t8 ?_ (kk8.trans k9.x)
    obtain ⟨gs, plg, hig⟩ := pl_keep ((k8.trans k9).x (X := [])) (by simp) cE.hp.2
    subst hrun
    exact ⟨_, ag, gs, rfl, k0.deadX (kk8.deadX (dead_size _ (Nat.le_refl _))), hd0, e9, plg, hig⟩
end
end Mine
end
section
open PySem.Calls PySem.Spec PySem.SeqAt Builtin Builtin.ObjectAttr
set_option maxRecDepth 100000
set_option maxHeartbeats 1000000
namespace Mine
section
variable {w : World} {h₀ : Heap} {K : Frag}
theorem ready_inv {ns : List Node} {wish : List Int} (hb : Bnd ns 52) (hhas : ∀ x ∈ wish, hasN ns x = true) : Inv wish ⟨ns, readyF ns, 0, 0⟩ := by
  refine ⟨hhas, hb, ?_, fun x hx => ?_⟩
  · show (readyF ns).length ≤ 52
    unfold readyF
    rw [List.length_map]
    exact Nat.le_trans (List.length_filter_le _ _) hb.1
  · show hasN ns x = true
    have hx' : x ∈ readyF ns := hx
    unfold readyF at hx'
    obtain ⟨q, hq, rfl⟩ := List.mem_map.mp hx'
    unfold hasN
    exact List.any_eq_true.mpr ⟨q, (List.mem_filter.mp hq).1, by simp⟩

theorem rdAll_cons {O : List Addr} {h : Heap} {a : PyData} {l : List PyData} {vs : List Value} (r : RdAll O h vs (a :: l)) : ∃ v us, vs = v :: us ∧ Rd O h v a ∧ RdAll O h us l := by
  cases r with
  | cons x y => exact ⟨_, _, rfl, x, y⟩
theorem rdAll_nil {O : List Addr} {h : Heap} {vs : List Value} (r : RdAll O h vs []) : vs = [] := by cases r; rfl
theorem rdAll_two {O : List Addr} {h : Heap} {a b : PyData} {vs : List Value} (r : RdAll O h vs [a, b]) : ∃ v u, vs = [v, u] ∧ Rd O h v a ∧ Rd O h u b :=
  let ⟨v, _, e, r1, y⟩ := rdAll_cons r
  let ⟨u, _, e', r2, z⟩ := rdAll_cons y
  ⟨v, u, by rw [e, e', rdAll_nil z], r1, r2⟩
theorem c_run (B : SK K h₀) (SAk : SA K) (B0 : Base h₀) (G : SG h₀) (GX : SX h₀) {fr : Addr} (hf : DefAt h₀ fr (nameAt 9) (parsAt 9) (bodyAt 9) (scopeAt 9)) {told : List (Int × List Int)} {wish : List Int} {run : Run}
    (ht : ∀ p ∈ told, p.2.length ≤ 6) (htl : told.length ≤ 4) (hnl : (toldN told).length ≤ 20) (hwish : ∀ x ∈ wish, 0 ≤ x ∧ x ≤ 3) (hwl : wish.length ≤ 60) (hhas : ∀ x ∈ wish, hasN (toldN told) x = true) (hrun : runF told wish = some run) :
    CallE w h₀ 50 (.ref fr) [toldD told, LI wish] (RD run) := by
  intro O A s vs Q E ok low r h
  have fi := FrI.top (ok.top rfl)
  obtain ⟨vt, vw, rfl, rt, rw'⟩ := rdAll_two r
  obtain ⟨at', us, rfl, hatO, plt, _⟩ := rt.list_inv
  obtain ⟨aw, us', rfl, hawO, plw, _⟩ := rw'.list_inv
  refine wpAny_call (code_fn (k := 49) (names := ["told", "wish"]) (PB := fun h1 us => h1 = s.heap ∧ us = [.ref at', .ref aw]) B.lim hf.fn (fun name qual doc pm cdv ct A E Q hq => ?_) (fun h1 us ⟨e, _⟩ => e ▸ .refl _ _) (by decide) (by decide +kernel) (by decide +kernel) ok fun h1 us L env A' h2 t2 pb hL er hw hbn e1 e2 kp ok2 fr => ?_)
  · have e : bindArgs (fnOf name qual (parsAt 9) (bodyAt 9) (scopeAt 9) .none .none doc pm none cdv ct) ⟨[.ref at', .ref aw], []⟩ = pure ((["told", "wish"] : List Str).zip [.ref at', .ref aw]) := rfl
    rw [e]; exact wpAny_pure (hq _ _ ⟨rfl, rfl⟩)
  obtain ⟨rfl, rfl⟩ := pb
  obtain ⟨hfr, ⟨fs, hA, hA', _⟩, hLz, hLc⟩ := fr
  have fi2 : FrI h₀ A' h2 := fi.call (.refl _ _) kp hA hA' hfr hLz hLc
  have hL0 : h₀.get? L = none := ok.dead hL
  have hX0 : ∀ a ∈ [L], h₀.get? a = none := fun a ha => by rw [List.mem_singleton.mp ha]; exact hL0
  have c2 := cx_frame (F := []) (H := fun _ => True) (names := ["told", "wish"]) er hbn e1 e2 trivial ⟨fun _ _ b hb => (by cases hb), fun _ _ _ _ => trivial⟩ (by simp)
  have mk : ∀ {v d}, Rd O s.heap v d → Rd ([] ++ [L]) h2 v d := fun r => (r.more (O' := [L]) fun a ha => by rw [List.mem_singleton.mp ha]; exact .inr hL).kp kp
  have c3 := (c2.put (x := "told") (v := .ref at') (d := toldD told) rfl (mk rt)).put (x := "wish") (v := .ref aw) (d := LI wish) rfl (mk rw')
  unfold runF at hrun
  obtain ⟨b, hring, hwalk⟩ := Option.bind_eq_some_iff.mp hrun
  refine wpAny_execs_cons (run_new (k := 47) (s := { s with heap := h2, toks := t2 }) B hw (by decide +kernel) (by decide +kernel) hL0 rfl ok2 c3 fun S h4 t4 hS ok4 c4 k4 hn4 => ?_)
  refine wpAny_execs_cons (run_told (k := 45) (a := at') (S := S) (s := { s with heap := h4, toks := t4 }) B SAk B0 ht htl hw ⟨by decide +kernel, by decide +kernel⟩ hL0 rfl ⟨rfl, rfl⟩ rfl rfl ⟨rfl, rfl⟩ hS ok4 c4 fun S' h5 t5 hno hb hst hxx ok5 c5 k5 hn5 => ?_)
  have hlen : S'.ps.length ≤ 20 := by
    have : S'.nodes.length = S'.ps.length := by unfold SS.nodes; rw [List.length_map]
    rw [← this, hno]; exact hnl
  have K4 : KpX [L] h₀.objs.size s.heap h4 := kp.x.trans k4
  have K5 : KpX [L] h₀.objs.size s.heap h5 := K4.stepX k5 fun a ha => (List.mem_append.mp ha).elim (fun q => .inr (kp.dead (hn4 a q))) .inl
  have hnS' : ∀ a ∈ S'.fp, s.heap.get? a = none := fun a ha => (hn5 a ha).elim (fun q => kp.dead (hn4 a q)) fun q => K4.deadX q
  refine run_prep (k := 47) (b := b) (L := L) (Lf := L) (S := S') (s := { s with heap := h5, toks := t5 }) B B0 G GX rfl hst.1 (by rw [hno]; exact hring) hlen hw (by decide +kernel) (by decide +kernel) hL0 rfl (by rw [hxx]; exact if_pos rfl) hA' hfr ok5 (fi2.kpx ((k4.mono fun a ha => .inl (List.mem_append_right S.fp ha)).trans k5)) c5 fun rr h6 t6 ok6 c6 k6 hn6 => ?_
  generalize hS6 : ({ S' with rd := some (rr, readyF S'.nodes) } : SS) = S6 at *
  have x6 : S6.x = S.x := by rw [← hS6]; exact hxx
  have sy6 : Sy S6 rr ⟨toldN told, readyF (toldN told), 0, 0⟩ := by
    rw [← hS6]
    exact ⟨hno, by show some (rr, readyF S'.nodes) = _; rw [hno], hst.2.1, hst.2.2⟩
  have K6 : KpX [L] h₀.objs.size s.heap h6 := K5.stepX k6 fun a ha => (List.mem_append.mp ha).elim (fun q => .inr (hnS' a q)) .inl
  have hnS6 : ∀ a ∈ S6.fp, s.heap.get? a = none := fun a ha => (hn6 a ha).elim (hnS' a) fun q => K5.deadX q
  refine wpAny_execs_cons (wpAny_Assign_Name (fr_nil (S6.fp ++ [L]) env A' { s with heap := h6, toks := t6 } _ _ ok6 c6.er fun ao h7 t7 vs7 hao l7 rl7 k7 => ?_))
  have e7 : vs7 = #[] := by cases q : vs7.toList with | nil => exact Array.toList_eq_nil_iff.mp q | cons _ _ => rw [q] at rl7; cases rl7
  subst e7
  have c7 := c6.turn (F' := ao :: S6.fp) (k7.x) (fun a ha => (List.mem_cons.mp ha).elim (fun q => .inr (q ▸ hao)) .inl) (AndL.sep (l := []) SS.sep) ⟨SS.sep.kp c6.hp k7, #[], l7, .nil⟩
  have aoS : ao ∉ S6.fp := fun q => by obtain ⟨o, e, _⟩ := SS.sep.live _ c6.hp ao q; rw [hao] at e; cases e
  refine c7.store (N := h₀.objs.size) (s := { s with heap := h7, toks := t7 }) (hw "out" (.inl (by decide +kernel))) rfl fun h8 t8 c8 k8 => ?_
  have ok8 := (ok6.kp k7).kpx k8 hX0
  have K8 : KpX [L] h₀.objs.size s.heap h8 := (K6.trans k7.x).trans k8
  refine wpAny_execs_cons (wpAny_Assign_Name (fr_nil ((ao :: S6.fp) ++ [L]) env A' { s with heap := h8, toks := t8 } _ _ ok8 c8.er fun ag h9 t9 vs9 hag l9 rl9 k9 => ?_))
  have e9 : vs9 = #[] := by cases q : vs9.toList with | nil => exact Array.toList_eq_nil_iff.mp q | cons _ _ => rw [q] at rl9; cases rl9
  subst e9
  have hagF : ag ∉ ao :: S6.fp := fun q => by obtain ⟨o, e, _⟩ := c8.sep.live _ c8.hp ag q; rw [hag] at e; cases e
  have c9 := c8.turn (F' := ag :: ao :: S6.fp) (k9.x) (fun a ha => (List.mem_cons.mp ha).elim (fun q => .inr (q ▸ hag)) .inl) (AndL.sep (l := []) (AndL.sep SS.sep)) ⟨(AndL.sep SS.sep).kp c8.hp k9, #[], l9, .nil⟩
  refine c9.store (N := h₀.objs.size) (s := { s with heap := h9, toks := t9 }) (hw "gone" (.inl (by decide +kernel))) rfl fun h10 t10 c10 k10 => ?_
  have ok10 := (ok8.kp k9).kpx k10 hX0
  have K10 : KpX [L] h₀.objs.size s.heap h10 := (K8.trans k9.x).trans k10
  have fi10 : FrI h₀ A' h10 := by
    have q : KpX (S.fp ++ (S'.fp ++ [L])) h₀.objs.size h2 h10 := by
      have z : ∀ a ∈ [L], a ∈ S.fp ++ (S'.fp ++ [L]) := fun a ha => List.mem_append_right _ (List.mem_append_right _ ha)
      refine (((k4.mono fun a ha => .inl (z a ha)).trans (k5.mono fun a ha => ?_)).trans (k6.mono fun a ha => .inl (List.mem_append_right _ ha))).trans (((k7.x).trans (k8.mono fun a ha => .inl (z a ha))).trans (k9.x.trans (k10.mono fun a ha => .inl (z a ha))))
      exact (List.mem_append.mp ha).elim (fun q => .inl (List.mem_append_left _ q)) fun q => .inl (z a q)
    exact fi2.kpx q
  refine run_wish (k := 47) (S := S6) (Lf := L) (aw := aw) (r := rr) (h0 := s.heap) (Z := [L]) (s := { s with heap := h10, toks := t10 }) B B0 G GX hwish hwl sy6 (ready_inv (by rw [← hno]; exact hb) hhas) hwalk hw (by decide +kernel) (by decide +kernel) hL0 rfl rfl rfl rfl (by rw [x6]; rfl) rfl rfl rfl hA' hfr aoS (fun q => hagF (.tail _ q)) (fun q => hagF (q ▸ .head _)) ⟨ok6.dead hao, ok8.dead hag⟩ (K8.deadX hag) K10 ok10 fi10 c10 fun v h11 t11 rv k11 => ?_
  refine h v h11 t11 (rv.rd low) ?_
  have K11 : KpX [L] h₀.objs.size s.heap h11 := K10.stepX k11 fun a ha => by
    rcases List.mem_append.mp ha with q | q
    · exact .inr (hnS6 a q)
    · simp only [List.mem_cons, List.not_mem_nil, or_false] at q
      rcases q with rfl | rfl | rfl
      · exact .inr (K6.deadX hao)
      · exact .inr (K8.deadX hag)
      · exact .inl (.head _)
  exact K11.kp fun a ha => by rw [List.mem_singleton.mp ha]; exact hL
end
end Mine
end
end
section
open PySem.Calls PySem.Spec PySem.SeqAt
set_option maxRecDepth 100000
namespace Mine
noncomputable def forceN (n : Nat) (k : Nat → Bool) : Bool := @Nat.rec (fun _ => Bool) (k 0) (fun m _ => k (Nat.succ m)) n
noncomputable def FOK {α : Type} (f : α → (α → Bool) → Bool) : Prop := ∀ a k, f a k = true → k a = true
theorem forceN_ok : FOK forceN
  | 0, _, h => h
  | _ + 1, _, h => h
noncomputable def forceZ (z : Int) (k : Int → Bool) : Bool := match z with
  | .ofNat m => forceN m fun m => k (.ofNat m)
  | _ => false
theorem forceZ_ok : FOK forceZ
  | .ofNat m, k, h => forceN_ok m (fun m => k (.ofNat m)) h
  | .negSucc m, k, h => by cases h
noncomputable def forceB (b : Bool) (k : Bool → Bool) : Bool := match b with | true => k true | false => k false
theorem forceB_ok : FOK forceB
  | true, _, h => h
  | false, _, h => h
noncomputable def forceL {α : Type} (f : α → (α → Bool) → Bool) : List α → (List α → Bool) → Bool
  | [], k => k []
  | a :: l, k => f a fun a => forceL f l fun l => k (a :: l)
theorem forceL_ok {α : Type} {f : α → (α → Bool) → Bool} (hf : FOK f) : FOK (forceL f)
  | [], _, h => h
  | a :: l, k, h => forceL_ok hf l (fun l => k (a :: l)) (hf a _ h)
noncomputable def forceP {α β : Type} (f : α → (α → Bool) → Bool) (g : β → (β → Bool) → Bool) (p : α × β) (k : α × β → Bool) : Bool := f p.1 fun a => g p.2 fun b => k (a, b)
theorem forceP_ok {α β : Type} {f : α → (α → Bool) → Bool} {g : β → (β → Bool) → Bool} (hf : FOK f) (hg : FOK g) : FOK (forceP f g) := fun p k h => hg p.2 _ (hf p.1 _ h)
noncomputable def forceNode (q : Node) (k : Node → Bool) : Bool := forceZ q.name fun a => forceZ q.np fun b => forceL forceZ q.suc fun c => k ⟨a, b, c⟩
theorem forceNode_ok : FOK forceNode := fun q k h => forceL_ok forceZ_ok q.suc _ (forceZ_ok q.np _ (forceZ_ok q.name _ h))
noncomputable def forceO {α : Type} (f : α → (α → Bool) → Bool) (o : Option α) (k : α → Bool) : Bool := match o with | some a => f a k | none => false
theorem forceO_of {α : Type} {f : α → (α → Bool) → Bool} (hf : FOK f) {o : Option α} {k : α → Bool} (h : forceO f o k = true) : ∃ a, o = some a ∧ k a = true := by
  cases o with
  | none => cases h
  | some a => exact ⟨a, rfl, hf a k h⟩

noncomputable def rowsN (kk : Nat) : Nat → List (List Nat)
  | 0 => [[]]
  | m + 1 => (rowsN kk m).flatMap fun r => (List.range kk).map fun h : Nat => r ++ [h]
theorem rowsF_N (kk m : Nat) : rowsF kk m = (rowsN kk m).map (List.map fun h : Nat => (h : Int)) := by
  induction m with
  | zero => rfl
  | succ m ih =>
    show (rowsF kk m).flatMap _ = ((rowsN kk m).flatMap _).map _
    rw [ih, List.map_flatMap, List.flatMap_map]
    congr 1
    funext r
    simp [List.map_map, Function.comp_def]
theorem getD_map (r : List Nat) (i : Nat) : (r.map fun h : Nat => (h : Int)).getD i 0 = ((r.getD i 0 : Nat) : Int) := by
  rw [List.getD_eq_getElem?_getD, List.getElem?_map, List.getD_eq_getElem?_getD]
  cases r[i]? <;> rfl
noncomputable def nthC (l : List Nat) : Nat → Nat := @List.rec Nat (fun _ => Nat → Nat) (fun _ => 0) (fun a _ ih i => @Nat.rec (fun _ => Nat) a (fun m _ => ih m) i) l
theorem nthC_eq (l : List Nat) : ∀ i : Nat, nthC l i = l.getD i 0 := by
  induction l with
  | nil => intro i; rfl
  | cons a l ih => intro i; cases i with
    | zero => rfl
    | succ i => exact ih i
theorem le_ble (u v : Nat) : decide ((u : Int) ≤ (v : Int)) = Nat.ble u v := Bool.eq_iff_iff.mpr (by rw [decide_eq_true_eq, Nat.ble_eq]; exact Int.ofNat_le)
theorem lt_ble (u v : Nat) : decide ((u : Int) < (v : Int)) = Nat.ble (Nat.succ u) v := Bool.eq_iff_iff.mpr (by rw [decide_eq_true_eq, Nat.ble_eq]; exact Int.ofNat_lt)
theorem and_rec (a b : Bool) : (a && b) = @Bool.rec (fun _ => Bool) false b a := by cases a <;> rfl
noncomputable def weakC (r : List Nat) (inn : List (Nat × Nat)) : Bool := @List.rec (Nat × Nat) (fun _ => Bool) true (fun p _ ih => @Bool.rec (fun _ => Bool) false ih (Nat.ble (nthC r p.1) (nthC r p.2))) inn
noncomputable def strictC (r : List Nat) (inn : List (Nat × Nat)) : Bool := @List.rec (Nat × Nat) (fun _ => Bool) true (fun p _ ih => @Bool.rec (fun _ => Bool) false ih (Nat.ble (Nat.succ (nthC r p.1)) (nthC r p.2))) inn
theorem weakC_eq (r : List Nat) (inn : List (Nat × Nat)) : weakF inn (r.map fun h : Nat => (h : Int)) = weakC r inn := by
  induction inn with
  | nil => rfl
  | cons p l ih =>
    show (decide _ && weakF l _) = @Bool.rec (fun _ => Bool) false (weakC r l) (Nat.ble (nthC r p.1) (nthC r p.2))
    rw [ih, getD_map, getD_map, le_ble, and_rec, nthC_eq, nthC_eq]
theorem strictC_eq (r : List Nat) (inn : List (Nat × Nat)) : strictF inn (r.map fun h : Nat => (h : Int)) = strictC r inn := by
  induction inn with
  | nil => rfl
  | cons p l ih =>
    show (decide _ && strictF l _) = @Bool.rec (fun _ => Bool) false (strictC r l) (Nat.ble (Nat.succ (nthC r p.1)) (nthC r p.2))
    rw [ih, getD_map, getD_map, lt_ble, and_rec, nthC_eq, nthC_eq]
noncomputable def cntC (inn : List (Nat × Nat)) (l : List (List Nat)) : Nat → Nat → (Nat → Nat → Bool) → Bool :=
  @List.rec (List Nat) (fun _ => Nat → Nat → (Nat → Nat → Bool) → Bool) (fun a b k => k a b) (fun r _ ih a b k => @Bool.rec (fun _ => Bool) (ih a b k) (@Bool.rec (fun _ => Bool) (ih (Nat.succ a) b k) (ih (Nat.succ a) (Nat.succ b) k) (strictC r inn)) (weakC r inn)) l
theorem cntC_of {inn : List (Nat × Nat)} {k : Nat → Nat → Bool} (l : List (List Nat)) : ∀ {a b : Nat}, cntC inn l a b k = true → k (a + (l.filter (weakC · inn)).length) (b + ((l.filter (weakC · inn)).filter (strictC · inn)).length) = true := by
  induction l with
  | nil => intro a b h; exact h
  | cons r l ih =>
    intro a b h
    have h' : @Bool.rec (fun _ => Bool) (cntC inn l a b k) (@Bool.rec (fun _ => Bool) (cntC inn l (Nat.succ a) b k) (cntC inn l (Nat.succ a) (Nat.succ b) k) (strictC r inn)) (weakC r inn) = true := h
    rw [List.filter_cons]
    cases e1 : weakC r inn with
    | false => rw [e1] at h'; exact ih h'
    | true =>
      rw [e1] at h'
      rw [if_pos rfl, List.filter_cons, List.length_cons, ← Nat.succ_add_eq_add_succ]
      cases e2 : strictC r inn with
      | false => rw [e2] at h'; exact ih h'
      | true =>
        rw [e2] at h'
        rw [if_pos rfl, List.length_cons, ← Nat.succ_add_eq_add_succ]
        exact ih h'
theorem heightsF_C (free : List Int) (steps : List (Int × Int)) (kk : Nat) : heightsF free steps kk = (((rowsN kk free.length).filter (weakC · (innerF free steps))).length, (((rowsN kk free.length).filter (weakC · (innerF free steps))).filter (strictC · (innerF free steps))).length) := by
  unfold heightsF
  rw [rowsF_N]
  simp only [List.filter_map, List.length_map, Function.comp_def, weakC_eq, strictC_eq]

noncomputable def posOf (n : Nat) (o : List Int) : List Nat := (List.range n).map fun x : Nat => ix o x
theorem posOf_get {n : Nat} {o : List Int} {a : Nat} (h : a < n) : (posOf n o).getD a 0 = ix o a := by
  unfold posOf
  rw [List.getD_eq_getElem?_getD, List.getElem?_map, List.getElem?_range h]; rfl
noncomputable def allLt (a b : Nat) (l : List (List Nat)) : Bool := @List.rec (List Nat) (fun _ => Bool) true (fun p _ ih => @Bool.rec (fun _ => Bool) false ih (Nat.ble (Nat.succ (nthC p a)) (nthC p b))) l
theorem allLt_eq {n a b : Nat} (ha : a < n) (hb : b < n) (orders : List (List Int)) : allLt a b (orders.map (posOf n)) = (orders.map fun o => decide ((ix o a : Int) < ix o b)).all id := by
  induction orders with
  | nil => rfl
  | cons o l ih =>
    show @Bool.rec (fun _ => Bool) false (allLt a b (l.map (posOf n))) (Nat.ble (Nat.succ (nthC (posOf n o) a)) (nthC (posOf n o) b)) = (decide _ && (l.map _).all id)
    rw [ih, nthC_eq, nthC_eq, posOf_get ha, posOf_get hb, lt_ble, and_rec]
noncomputable def leadB (leads : List (List Bool)) (free : List Int) (ps : List (List Nat)) (a n : Nat) : Bool :=
  @Nat.rec (fun _ => Bool) true (fun b ih => ih && (Nat.beq a b || !free.contains (a : Int) || !free.contains (b : Int) || (at2 leads a b == allLt a b ps))) n
noncomputable def leadA (leads : List (List Bool)) (free : List Int) (ps : List (List Nat)) (n m : Nat) : Bool :=
  @Nat.rec (fun _ => Bool) true (fun a ih => ih && leadB leads free ps a n) m
theorem leadB_of {leads : List (List Bool)} {free : List Int} {ps : List (List Nat)} {a b : Nat} (h1 : (a : Int) ∈ free) (h2 : (b : Int) ∈ free) (hne : a ≠ b) {n : Nat} : leadB leads free ps a n = true → b < n → at2 leads a b = allLt a b ps := by
  induction n with
  | zero => intro _ hb; exact absurd hb (Nat.not_lt_zero _)
  | succ n ih =>
    intro h hb
    have h' : (leadB leads free ps a n && (Nat.beq a n || !free.contains (a : Int) || !free.contains (n : Int) || (at2 leads a n == allLt a n ps))) = true := h
    simp only [Bool.and_eq_true, Bool.or_eq_true, beq_iff_eq, Bool.not_eq_true'] at h'
    by_cases q : b = n
    · subst q
      rcases h'.2 with ((q | q) | q) | q
      · exact absurd (Nat.eq_of_beq_eq_true q) hne
      · rw [List.contains_eq_mem] at q; simp [h1] at q
      · rw [List.contains_eq_mem] at q; simp [h2] at q
      · exact q
    · exact ih h'.1 (by omega)
theorem leadA_of {leads : List (List Bool)} {free : List Int} {ps : List (List Nat)} {n a m : Nat} : leadA leads free ps n m = true → a < m → leadB leads free ps a n = true := by
  induction m with
  | zero => intro _ ha; exact absurd ha (Nat.not_lt_zero _)
  | succ m ih =>
    intro h ha
    have h' : (leadA leads free ps n m && leadB leads free ps m n) = true := h
    rw [Bool.and_eq_true] at h'
    by_cases q : a = m
    · subst q; exact h'.2
    · exact ih h'.1 (by omega)
noncomputable def rowsAt (R2 R3 : List (List Nat)) (n kk m : Nat) : List (List Nat) := cond (Nat.beq m n) (cond (Nat.beq kk 3) R3 (cond (Nat.beq kk 2) R2 (rowsN kk m))) (rowsN kk m)
theorem rowsAt_eq (n kk m : Nat) : rowsAt (rowsN 2 n) (rowsN 3 n) n kk m = rowsN kk m := by
  unfold rowsAt
  cases h : Nat.beq m n with
  | false => rfl
  | true =>
    rw [Nat.eq_of_beq_eq_true h]
    cases h3 : Nat.beq kk 3 with
    | true => rw [Nat.eq_of_beq_eq_true h3]; rfl
    | false =>
      cases h2 : Nat.beq kk 2 with
      | true => rw [Nat.eq_of_beq_eq_true h2]; rfl
      | false => rfl
noncomputable def allC : List (Int × Int) → List (Int × Int) → (List (Int × Int) → Bool) → Bool
  | [], acc, f => f acc
  | p :: ps, acc, f => allC ps acc f && allC ps (acc ++ [p]) f && allC ps (acc ++ [(p.2, p.1)]) f
theorem allC_spec {f : List (Int × Int) → Bool} : ∀ {ps acc : List (Int × Int)}, allC ps acc f = true → ∀ cells : List Int, f (acc ++ (ps.zip cells).flatMap stepOf) = true
  | [], acc, h, cells => by rw [List.zip_nil_left, List.flatMap_nil, List.append_nil]; exact h
  | p :: ps, acc, h, cells => by
    have h' : (allC ps acc f && allC ps (acc ++ [p]) f && allC ps (acc ++ [(p.2, p.1)]) f) = true := h
    rw [Bool.and_eq_true, Bool.and_eq_true] at h'
    obtain ⟨⟨h1, h2⟩, h3⟩ := h'
    cases cells with
    | nil =>
      have := allC_spec h1 []
      simpa using this
    | cons c cs =>
      rw [List.zip_cons_cons, List.flatMap_cons]
      unfold stepOf
      dsimp only
      split
      · have := allC_spec h2 cs; rw [List.append_assoc] at this; exact this
      split
      · have := allC_spec h3 cs; rw [List.append_assoc] at this; exact this
      · have := allC_spec h1 cs; rwa [List.nil_append]
end Mine
end
section
open PySem.Calls PySem.Spec PySem.SeqAt
set_option maxRecDepth 100000
namespace Mine
structure NN where
  name : Nat
  np : Nat
  suc : List Nat
noncomputable def natI (l : List Nat) : List Int := l.map fun x : Nat => (x : Int)
noncomputable def toI (q : NN) : Node := ⟨q.name, (q.np : Int) - 2, natI q.suc⟩
noncomputable def setC (x v : Nat) (ns : List NN) : (List NN → Bool) → Bool :=
  @List.rec NN (fun _ => (List NN → Bool) → Bool) (fun k => k []) (fun q _ ih k => @Bool.rec (fun _ => Bool) (ih fun l => k (q :: l)) (ih fun l => k (⟨q.name, v, q.suc⟩ :: l)) (Nat.beq q.name x)) ns
noncomputable def decM (x : Nat) (ns : List NN) : (List NN → Bool) → Bool :=
  @List.rec NN (fun _ => (List NN → Bool) → Bool) (fun k => k []) (fun q _ ih k => @Bool.rec (fun _ => Bool) (ih fun l => k (q :: l)) (@Nat.rec (fun _ => Bool) false (fun m _ => ih fun l => k (⟨q.name, m, q.suc⟩ :: l)) q.np) (Nat.beq q.name x)) ns
noncomputable def findC (x : Nat) (k : Nat → List Nat → Bool) (ns : List NN) : Bool :=
  @List.rec NN (fun _ => Bool) false (fun q _ ih => @Bool.rec (fun _ => Bool) ih (k q.np q.suc) (Nat.beq q.name x)) ns
noncomputable def outC (ready : List Nat) : List NN → (List NN → Bool) → Bool :=
  @List.rec Nat (fun _ => List NN → (List NN → Bool) → Bool) (fun ns k => k ns) (fun y _ ih ns k => setC y 1 ns fun ns => ih ns k) ready
noncomputable def appC (l m : List Nat) : (List Nat → Bool) → Bool :=
  @List.rec Nat (fun _ => (List Nat → Bool) → Bool) (fun k => k m) (fun y _ ih k => ih fun l => k (y :: l)) l
noncomputable def hasC (x : Nat) (l : List Nat) : Bool :=
  @List.rec Nat (fun _ => Bool) false (fun y _ ih => @Bool.rec (fun _ => Bool) ih true (Nat.beq y x)) l
noncomputable def decC (y : Nat) (ns : List NN) (ready : List Nat) (k : List NN → List Nat → Bool) : Bool :=
  findC y (fun np _ => decM y ns fun ns => @Bool.rec (fun _ => Bool) (k ns ready) (appC ready [y] fun r => k ns r) (Nat.beq np 3)) ns
noncomputable def sucC (suc : List Nat) : List NN → List Nat → (List NN → List Nat → Bool) → Bool :=
  @List.rec Nat (fun _ => List NN → List Nat → (List NN → List Nat → Bool) → Bool) (fun ns r k => k ns r) (fun y _ ih ns r k => decC y ns r fun ns r => ih ns r k) suc
noncomputable def lenC (l : List Nat) : Nat → Nat := @List.rec Nat (fun _ => Nat → Nat) (fun n => n) (fun _ _ ih n => ih (Nat.succ n)) l
noncomputable def nilC (l : List Nat) : Bool := @List.rec Nat (fun _ => Bool) true (fun _ _ _ => false) l
noncomputable def walkC (wish : List Nat) : List NN → List Nat → List Nat → List Nat → Nat → Nat → (List Nat → Bool → Bool) → Bool :=
  @List.rec Nat (fun _ => List NN → List Nat → List Nat → List Nat → Nat → Nat → (List Nat → Bool → Bool) → Bool)
    (fun _ ready _ gone p f k => @Bool.rec (fun _ => Bool) (@Bool.rec (fun _ => Bool) (k gone false) (k gone true) (nilC ready)) (k gone false) (Nat.ble (Nat.succ f) p))
    (fun x _ ih ns ready out gone p f k => appC out ready fun out => outC ready ns fun ns => findC x (fun np suc =>
      @Bool.rec (fun _ => Bool) (@Bool.rec (fun _ => Bool) (k gone true) (k gone false) (hasC x out))
        (setC x 0 ns fun ns => sucC suc ns [] fun ns r => appC gone [x] fun gone => @Bool.rec (fun _ => Bool) (k gone false) (ih ns r out gone (lenC ready p) (Nat.succ f) k) (hasC x out)) (Nat.beq np 1)) ns) wish

theorem natI_app (l m : List Nat) : natI (l ++ m) = natI l ++ natI m := List.map_append
theorem int_beq (a b : Nat) : (((a : Nat) : Int) == (b : Int)) = Nat.beq a b := by
  cases e : Nat.beq a b with
  | false => exact beq_false_of_ne fun q => Nat.ne_of_beq_eq_false e (Int.ofNat.inj q)
  | true => rw [Nat.eq_of_beq_eq_true e]; exact beq_self_eq_true _
theorem updN_cons (q : NN) (l : List Node) (x : Nat) (f : Node → Node) : updN (toI q :: l) x f = (if Nat.beq q.name x = true then f (toI q) else toI q) :: updN l x f := by
  unfold updN
  rw [List.map_cons]
  congr 1
  show (if (((q.name : Nat) : Int) == (x : Int)) = true then _ else _) = _
  rw [int_beq]
theorem setC_of {x v : Nat} {f : Node → Node} (hf : ∀ q : NN, f (toI q) = toI ⟨q.name, v, q.suc⟩) : ∀ {ns : List NN} {k : List NN → Bool}, setC x v ns k = true → ∃ l, updN (ns.map toI) x f = l.map toI ∧ k l = true
  | [], k, h => ⟨[], rfl, h⟩
  | q :: ns, k, h => by
    have h' : @Bool.rec (fun _ => Bool) (setC x v ns fun l => k (q :: l)) (setC x v ns fun l => k (⟨q.name, v, q.suc⟩ :: l)) (Nat.beq q.name x) = true := h
    rw [List.map_cons, updN_cons]
    cases e : Nat.beq q.name x with
    | false =>
      rw [e] at h'
      obtain ⟨l, e1, hk⟩ := setC_of hf h'
      exact ⟨q :: l, by rw [e1, if_neg (by simp)]; rfl, hk⟩
    | true =>
      rw [e] at h'
      obtain ⟨l, e1, hk⟩ := setC_of hf h'
      exact ⟨_ :: l, by rw [e1, if_pos rfl, hf]; rfl, hk⟩
theorem decM_of {x : Nat} : ∀ {ns : List NN} {k : List NN → Bool}, decM x ns k = true → ∃ l, updN (ns.map toI) x (fun q => { q with np := q.np - 1 }) = l.map toI ∧ k l = true
  | [], k, h => ⟨[], rfl, h⟩
  | q :: ns, k, h => by
    have h' : @Bool.rec (fun _ => Bool) (decM x ns fun l => k (q :: l)) (@Nat.rec (fun _ => Bool) false (fun m _ => decM x ns fun l => k (⟨q.name, m, q.suc⟩ :: l)) q.np) (Nat.beq q.name x) = true := h
    rw [List.map_cons, updN_cons]
    cases e : Nat.beq q.name x with
    | false =>
      rw [e] at h'
      obtain ⟨l, e1, hk⟩ := decM_of h'
      exact ⟨q :: l, by rw [e1, if_neg (by simp)]; rfl, hk⟩
    | true =>
      rw [e] at h'
      obtain ⟨nm, np, suc⟩ := q
      cases np with
      | zero => cases h'
      | succ m =>
        obtain ⟨l, e1, hk⟩ := decM_of (k := fun l => k (⟨nm, m, suc⟩ :: l)) h'
        refine ⟨⟨nm, m, suc⟩ :: l, ?_, hk⟩
        rw [e1, if_pos rfl, List.map_cons]
        congr 1
        unfold toI
        simp only [Node.mk.injEq, and_true, true_and]
        omega
theorem getN_cons (q : NN) (l : List Node) (x : Nat) : getN (toI q :: l) x = if Nat.beq q.name x = true then some (toI q) else getN l x := by
  unfold getN
  rw [List.find?_cons]
  show (match (((q.name : Nat) : Int) == (x : Int)) with | true => _ | false => _) = _
  rw [int_beq]
  cases Nat.beq q.name x <;> rfl
theorem findC_of {x : Nat} {k : Nat → List Nat → Bool} : ∀ {ns : List NN}, findC x k ns = true → ∃ q, getN (ns.map toI) x = some (toI q) ∧ k q.np q.suc = true
  | [], h => by cases h
  | q :: ns, h => by
    have h' : @Bool.rec (fun _ => Bool) (findC x k ns) (k q.np q.suc) (Nat.beq q.name x) = true := h
    rw [List.map_cons, getN_cons]
    cases e : Nat.beq q.name x with
    | false => rw [e] at h'; rw [if_neg (by simp)]; exact findC_of h'
    | true => rw [e] at h'; exact ⟨q, by rw [if_pos rfl], h'⟩
theorem outC_of : ∀ {ready : List Nat} {ns : List NN} {k : List NN → Bool}, outC ready ns k = true → ∃ l, (natI ready).foldl (fun ns x => updN ns x fun q => { q with np := -1 }) (ns.map toI) = l.map toI ∧ k l = true
  | [], ns, k, h => ⟨ns, rfl, h⟩
  | y :: r, ns, k, h => by
    have h' : setC y 1 ns (fun ns => outC r ns k) = true := h
    obtain ⟨l, e, h2⟩ := setC_of (f := fun q => { q with np := -1 }) (fun q => rfl) h'
    obtain ⟨l', e', hk⟩ := outC_of h2
    refine ⟨l', ?_, hk⟩
    show (natI r).foldl _ (updN (ns.map toI) y _) = _
    rw [e, e']
theorem appC_of {m : List Nat} : ∀ {l : List Nat} {k : List Nat → Bool}, appC l m k = true → k (l ++ m) = true
  | [], k, h => h
  | y :: l, k, h => appC_of (l := l) (k := fun l => k (y :: l)) h
theorem hasC_eq (x : Nat) : ∀ l : List Nat, hasC x l = (natI l).contains (x : Int)
  | [] => rfl
  | y :: l => by
    show @Bool.rec (fun _ => Bool) (hasC x l) true (Nat.beq y x) = (((y : Nat) : Int) :: natI l).contains (x : Int)
    rw [List.contains_cons, ← hasC_eq x l, show ((x : Int) == (y : Int)) = Nat.beq y x by rw [int_beq]; cases e : Nat.beq y x with
      | true => rw [Nat.eq_of_beq_eq_true e]; exact Nat.beq_refl _
      | false =>
        cases e' : Nat.beq x y with
        | false => rfl
        | true => exact absurd (Nat.eq_of_beq_eq_true e').symm (Nat.ne_of_beq_eq_false e)]
    cases Nat.beq y x <;> rfl
theorem decC_of {y : Nat} {ns : List NN} {ready : List Nat} {k : List NN → List Nat → Bool} (h : decC y ns ready k = true) : ∃ l r, sucF ⟨ns.map toI, natI ready, p, f⟩ y = ⟨l.map toI, natI r, p, f⟩ ∧ k l r = true := by
  obtain ⟨q, e, h⟩ := findC_of h
  obtain ⟨l, e2, h⟩ := decM_of h
  unfold sucF
  dsimp only
  rw [e, e2]
  cases e3 : Nat.beq q.np 3 with
  | false =>
    rw [e3] at h
    refine ⟨l, ready, ?_, h⟩
    have : ((toI q).np - 1 == 0) = false := beq_false_of_ne fun z => Nat.ne_of_beq_eq_false e3 (by have : (q.np : Int) - 2 - 1 = 0 := z; omega)
    simp [this]
  | true =>
    rw [e3] at h
    refine ⟨l, ready ++ [y], ?_, appC_of h⟩
    have : ((toI q).np - 1 == 0) = true := by
      show ((q.np : Int) - 2 - 1 == 0) = true
      rw [Nat.eq_of_beq_eq_true e3]; rfl
    simp [this, natI]
theorem sucC_of {p f : Int} : ∀ {suc : List Nat} {ns : List NN} {ready : List Nat} {k : List NN → List Nat → Bool}, sucC suc ns ready k = true → ∃ l r, (natI suc).foldl sucF ⟨ns.map toI, natI ready, p, f⟩ = ⟨l.map toI, natI r, p, f⟩ ∧ k l r = true
  | [], ns, r, k, h => ⟨ns, r, rfl, h⟩
  | y :: s, ns, r, k, h => by
    have h' : decC y ns r (fun ns r => sucC s ns r k) = true := h
    obtain ⟨l, r', e, h2⟩ := decC_of (p := p) (f := f) h'
    obtain ⟨l2, r2, e2, hk⟩ := sucC_of (p := p) (f := f) h2
    exact ⟨l2, r2, by show (natI s).foldl sucF (sucF _ (y : Int)) = _; rw [e, e2], hk⟩
theorem lenC_eq : ∀ (l : List Nat) (n : Nat), lenC l n = n + l.length
  | [], n => rfl
  | a :: l, n => by
    show lenC l (n + 1) = _
    rw [lenC_eq l, List.length_cons]; omega
theorem hasN_of_get {ns : List Node} {x : Int} {q : Node} (e : getN ns x = some q) : hasN ns x = true := by
  unfold getN at e
  unfold hasN
  exact List.any_eq_true.mpr ⟨q, List.mem_of_find?_eq_some e, (List.find?_some (p := fun p : Node => p.name == x) e)⟩
theorem hasN_updI {ns : List Node} {x y : Int} {f : Node → Node} (hf : ∀ q, (f q).name = q.name) : hasN (updN ns x f) y = hasN ns y := by
  unfold hasN updN
  rw [List.any_map]
  congr 1
  funext p
  show ((if p.name == x then f p else p).name == y) = _
  split
  · rw [hf]
  · rfl
theorem hasN_sucFI (s : St) (x y : Int) : hasN (sucF s x).ns y = hasN s.ns y := by
  unfold sucF
  exact hasN_updI fun _ => rfl
theorem sucC_has {p f : Int} : ∀ {suc : List Nat} {ns : List NN} {ready : List Nat} {k : List NN → List Nat → Bool}, sucC suc ns ready k = true → ∀ y ∈ natI suc, hasN (ns.map toI) y = true
  | [], ns, r, k, h, z, hz => by cases hz
  | y :: s, ns, r, k, h, z, hz => by
    have h' : decC y ns r (fun ns r => sucC s ns r k) = true := h
    obtain ⟨q, e, _⟩ := findC_of h'
    rcases List.mem_cons.mp hz with rfl | hz
    · exact hasN_of_get e
    · obtain ⟨l, r', e, h2⟩ := decC_of (p := p) (f := f) h'
      have := sucC_has (p := p) (f := f) h2 z hz
      have e2 := hasN_sucFI ⟨ns.map toI, natI r, p, f⟩ y z
      rw [e] at e2
      rw [← e2]; exact this
theorem doneF_no {s : St} {x : Int} {q : Node} (e : getN s.ns x = some q) (h : (q.np == -1) = false) (h2 : (decide (q.np ≥ 0) || q.np == -2) = true) : doneF s x = .refused := by
  unfold doneF
  rw [e]
  dsimp only
  rw [h, h2]; rfl
theorem walkC_of {ring : Bool} : ∀ {wish : List Nat} {ns : List NN} {ready out gone : List Nat} {p f : Nat} {k : List Nat → Bool → Bool}, walkC wish ns ready out gone p f k = true →
    ∃ g b, walkF ring (natI wish) ⟨ns.map toI, natI ready, p, f⟩ (natI out) (natI gone) = some (ring, natI g, b) ∧ k g b = true
  | [], ns, ready, out, gone, p, f, k, h => by
    have h' : @Bool.rec (fun _ => Bool) (@Bool.rec (fun _ => Bool) (k gone false) (k gone true) (nilC ready)) (k gone false) (Nat.ble (Nat.succ f) p) = true := h
    refine ⟨gone, !(decide ((f : Int) < (p : Int)) || !(natI ready).isEmpty), rfl, ?_⟩
    cases e : Nat.ble (Nat.succ f) p with
    | true =>
      rw [e] at h'
      have : decide ((f : Int) < (p : Int)) = true := decide_eq_true (by have := Nat.le_of_ble_eq_true e; omega)
      rw [this]; exact h'
    | false =>
      rw [e] at h'
      have : decide ((f : Int) < (p : Int)) = false := decide_eq_false fun q => by
        rw [Nat.ble_eq_true_of_le (by omega)] at e; cases e
      rw [this]
      cases ready with
      | nil => exact h'
      | cons a l => exact h'
  | x :: xs, ns, ready, out, gone, p, f, k, h => by
    have h1 := appC_of h
    obtain ⟨l, e1, h2⟩ := outC_of h1
    obtain ⟨q, e2, h3⟩ := findC_of h2
    have ho : outF ⟨ns.map toI, natI ready, p, f⟩ = ⟨l.map toI, natI [], ((p + ready.length : Nat) : Int), (f : Int)⟩ := by
      unfold outF
      dsimp only
      rw [e1]
      simp [natI]
    have hc : (natI out ++ natI ready).contains (x : Int) = hasC x (out ++ ready) := by rw [hasC_eq, natI_app]
    show ∃ g b, walkF ring ((x : Int) :: natI xs) ⟨ns.map toI, natI ready, p, f⟩ (natI out) (natI gone) = some (ring, natI g, b) ∧ k g b = true
    unfold walkF
    dsimp only
    rw [ho, hc]
    cases e3 : Nat.beq q.np 1 with
    | false =>
      rw [e3] at h3
      have hd : doneF ⟨l.map toI, natI [], ((p + ready.length : Nat) : Int), (f : Int)⟩ (x : Int) = .refused := by
        have hne := Nat.ne_of_beq_eq_false e3
        refine doneF_no e2 (beq_false_of_ne fun z => hne (by have : (q.np : Int) - 2 = -1 := z; omega)) ?_
        rw [Bool.or_eq_true, decide_eq_true_eq, beq_iff_eq]
        show (q.np : Int) - 2 ≥ 0 ∨ (q.np : Int) - 2 = -2
        omega
      rw [hd]
      cases e4 : hasC x (out ++ ready) with
      | false => rw [e4] at h3; exact ⟨gone, true, rfl, h3⟩
      | true => rw [e4] at h3; exact ⟨gone, false, rfl, h3⟩
    | true =>
      rw [e3] at h3
      obtain ⟨l2, e4, h4⟩ := setC_of (f := fun q => { q with np := -2 }) (fun q => rfl) h3
      have hall := sucC_has (p := ((p + ready.length : Nat) : Int)) (f := (f : Int)) h4
      obtain ⟨l3, r3, e5, h5⟩ := sucC_of (p := ((p + ready.length : Nat) : Int)) (f := (f : Int)) h4
      have h6 := appC_of h5
      have hd : doneF ⟨l.map toI, natI [], ((p + ready.length : Nat) : Int), (f : Int)⟩ (x : Int) = .ok ⟨l3.map toI, natI r3, ((p + ready.length : Nat) : Int), ((f + 1 : Nat) : Int)⟩ := by
        unfold doneF
        dsimp only
        rw [e2]
        dsimp only
        have : ((toI q).np == -1) = true := by
          show ((q.np : Int) - 2 == -1) = true
          rw [Nat.eq_of_beq_eq_true e3]; rfl
        rw [if_pos this, e4, if_pos (show ((toI q).suc.all fun y => hasN (l2.map toI) y) = true from List.all_eq_true.mpr hall)]
        show DoneR.ok { (natI q.suc).foldl sucF ⟨l2.map toI, natI [], ((p + ready.length : Nat) : Int), (f : Int)⟩ with fin := _ } = _
        rw [e5]; rfl
      rw [hd]
      dsimp only
      cases e7 : hasC x (out ++ ready) with
      | false =>
        rw [e7] at h6
        refine ⟨gone ++ [x], false, ?_, h6⟩
        rw [natI_app]; rfl
      | true =>
        rw [e7] at h6
        have h7 : walkC xs l3 r3 (out ++ ready) (gone ++ [x]) (lenC ready p) (Nat.succ f) k = true := h6
        rw [lenC_eq] at h7
        obtain ⟨g, b, e8, hk⟩ := walkC_of (ring := ring) h7
        refine ⟨g, b, ?_, hk⟩
        rw [if_pos rfl, ← e8, natI_app, natI_app]; rfl
end Mine
end
section
open PySem.Calls PySem.Spec PySem.SeqAt
set_option maxRecDepth 100000
namespace Mine
noncomputable def natC (l : List Int) : (List Nat → Bool) → Bool :=
  @List.rec Int (fun _ => (List Nat → Bool) → Bool) (fun k => k []) (fun z _ ih k => @Int.rec (fun _ => Bool) (fun m => ih fun l => k (m :: l)) (fun _ => false) z) l
theorem natC_of : ∀ {l : List Int} {k : List Nat → Bool}, natC l k = true → ∃ m, l = natI m ∧ k m = true
  | [], k, h => ⟨[], rfl, h⟩
  | .ofNat a :: l, k, h => by
    obtain ⟨m, e, hk⟩ := natC_of (l := l) (k := fun l => k (a :: l)) h
    exact ⟨a :: m, by rw [e]; rfl, hk⟩
  | .negSucc a :: l, k, h => by cases h
noncomputable def nodesC (l : List Node) : (List NN → Bool) → Bool :=
  @List.rec Node (fun _ => (List NN → Bool) → Bool) (fun k => k []) (fun q _ ih k => @Int.rec (fun _ => Bool) (fun nm => @Int.rec (fun _ => Bool) (fun np => natC q.suc fun s => ih fun l => k (⟨nm, Nat.succ (Nat.succ np), s⟩ :: l)) (fun _ => false) q.np) (fun _ => false) q.name) l
theorem nodesC_of : ∀ {l : List Node} {k : List NN → Bool}, nodesC l k = true → ∃ m, l = m.map toI ∧ k m = true
  | [], k, h => ⟨[], rfl, h⟩
  | ⟨.negSucc _, _, _⟩ :: l, k, h => by cases h
  | ⟨.ofNat _, .negSucc _, _⟩ :: l, k, h => by cases h
  | ⟨.ofNat a, .ofNat b, s⟩ :: l, k, h => by
    obtain ⟨s', e, h⟩ := natC_of (l := s) (k := fun s => nodesC l fun l => k (⟨a, b + 2, s⟩ :: l)) h
    obtain ⟨m, e', hk⟩ := nodesC_of h
    refine ⟨⟨a, b + 2, s'⟩ :: m, ?_, hk⟩
    rw [List.map_cons, ← e', e]
    congr 1
    unfold toI
    simp only [Node.mk.injEq, and_true]
    exact ⟨rfl, by show (b : Int) = ((b + 2 : Nat) : Int) - 2; omega⟩
noncomputable def runsC (ns : List NN) (ready : List Nat) (wishes : List (List Nat)) : (List (List Nat × Bool) → Bool) → Bool :=
  @List.rec (List Nat) (fun _ => (List (List Nat × Bool) → Bool) → Bool) (fun k => k []) (fun w _ ih k => walkC w ns ready [] [] 0 0 fun g b => ih fun l => k ((g, b) :: l)) wishes
noncomputable def runI (ring : Bool) (p : List Nat × Bool) : Run := (ring, natI p.1, p.2)
noncomputable def walkI (ring : Bool) (ns : List NN) (ready : List Nat) (w : List Nat) : Option Run := walkF ring (natI w) ⟨ns.map toI, natI ready, 0, 0⟩ [] []
theorem runsC_of {ring : Bool} {ns : List NN} {ready : List Nat} : ∀ {wishes : List (List Nat)} {k : List (List Nat × Bool) → Bool}, runsC ns ready wishes k = true → ∃ l, wishes.map (walkI ring ns ready) = l.map (fun p => some (runI ring p)) ∧ k l = true
  | [], k, h => ⟨[], rfl, h⟩
  | w :: ws, k, h => by
    obtain ⟨g, b, e, h⟩ := walkC_of (ring := ring) (wish := w) (k := fun g b => runsC ns ready ws fun l => k ((g, b) :: l)) h
    obtain ⟨l, e', hk⟩ := runsC_of (ring := ring) h
    exact ⟨(g, b) :: l, by rw [List.map_cons, List.map_cons, e']; exact congrArg (· :: _) e, hk⟩
noncomputable def eqC (l : List Nat) : List Nat → Bool :=
  @List.rec Nat (fun _ => List Nat → Bool) (fun m => nilC m) (fun a _ ih m => @List.rec Nat (fun _ => Bool) false (fun b t _ => @Bool.rec (fun _ => Bool) false (ih t) (Nat.beq a b)) m) l
theorem eqC_of : ∀ {l m : List Nat}, eqC l m = true → l = m
  | [], [], _ => rfl
  | [], _ :: _, h => by cases h
  | _ :: _, [], h => by cases h
  | a :: l, b :: m, h => by
    have h' : @Bool.rec (fun _ => Bool) false (eqC l m) (Nat.beq a b) = true := h
    cases e : Nat.beq a b with
    | false => rw [e] at h'; cases h'
    | true => rw [e] at h'; rw [Nat.eq_of_beq_eq_true e, eqC_of h']
noncomputable def eqBC (a b : Bool) : Bool := @Bool.rec (fun _ => Bool) (@Bool.rec (fun _ => Bool) true false b) b a
theorem eqBC_of : ∀ {a b : Bool}, eqBC a b = true → a = b
  | true, true, _ => rfl
  | false, false, _ => rfl
  | true, false, h => by cases h
  | false, true, h => by cases h
noncomputable def sameC (ns : List NN) (ready : List Nat) (wishes : List (List Nat)) : List (List Nat × Bool) → Bool :=
  @List.rec (List Nat) (fun _ => List (List Nat × Bool) → Bool) (fun l => @List.rec (List Nat × Bool) (fun _ => Bool) true (fun _ _ _ => false) l)
    (fun w _ ih l => @List.rec (List Nat × Bool) (fun _ => Bool) false (fun p t _ => walkC w ns ready [] [] 0 0 fun g b => @Bool.rec (fun _ => Bool) false (@Bool.rec (fun _ => Bool) false (ih t) (eqBC b p.2)) (eqC g p.1)) l) wishes
theorem sameC_of {ring : Bool} {ns : List NN} {ready : List Nat} : ∀ {wishes : List (List Nat)} {l : List (List Nat × Bool)}, sameC ns ready wishes l = true → wishes.map (walkI ring ns ready) = l.map (fun p => some (runI ring p))
  | [], [], _ => rfl
  | [], _ :: _, h => by cases h
  | _ :: _, [], h => by cases h
  | w :: ws, (g0, b0) :: l, h => by
    obtain ⟨g, b, e, h⟩ := walkC_of (ring := ring) (wish := w) (k := fun g b => @Bool.rec (fun _ => Bool) false (@Bool.rec (fun _ => Bool) false (sameC ns ready ws l) (eqBC b b0)) (eqC g g0)) h
    cases e1 : eqC g g0 with
    | false => rw [e1] at h; cases h
    | true =>
      rw [e1] at h
      cases e2 : eqBC b b0 with
      | false => rw [e2] at h; cases h
      | true =>
        rw [e2] at h
        rw [List.map_cons, List.map_cons, sameC_of h, ← eqC_of e1, ← eqBC_of e2]
        exact congrArg (· :: _) e
noncomputable def checkS (n : Nat) (steps : List (Int × Int)) (rot : Nat) (k : Bool → List NN → List Nat → Bool) : Bool :=
  forceL (forceP forceZ (forceL forceZ)) (toldF (namesF n rot) steps) fun told => forceL forceNode (toldN told) fun ns => forceO forceB (ringF ns) fun ring =>
    (List.range n).all (fun x => hasN ns (x : Int)) && Nat.ble ns.length 20 && nodesC ns fun nn => forceL forceZ (readyF ns) fun rd => natC rd fun rn => k ring nn rn
theorem checkS_of {n : Nat} {steps : List (Int × Int)} {rot : Nat} {k : Bool → List NN → List Nat → Bool} (h : checkS n steps rot k = true) :
    (∀ x < n, hasN (toldN (toldF (namesF n rot) steps)) (x : Int) = true) ∧ (toldN (toldF (namesF n rot) steps)).length ≤ 20 ∧ ∃ ring nn rn, ringF (toldN (toldF (namesF n rot) steps)) = some ring ∧ toldN (toldF (namesF n rot) steps) = nn.map toI ∧ readyF (toldN (toldF (namesF n rot) steps)) = natI rn ∧ k ring nn rn = true := by
  unfold checkS at h
  have h := forceL_ok forceNode_ok _ _ (forceL_ok (forceP_ok forceZ_ok (forceL_ok forceZ_ok)) _ _ h)
  obtain ⟨ring, hr, h⟩ := forceO_of forceB_ok h
  simp only [Bool.and_eq_true, List.all_eq_true] at h
  obtain ⟨⟨h1, h2⟩, h3⟩ := h
  obtain ⟨nn, e1, h3⟩ := nodesC_of h3
  obtain ⟨rn, e2, hk⟩ := natC_of (forceL_ok forceZ_ok _ _ h3)
  exact ⟨fun x hx => h1 x (List.mem_range.mpr hx), Nat.le_of_ble_eq_true h2, ring, nn, rn, hr, e1, e2, hk⟩
theorem walkI_eq {told : List (Int × List Int)} {ring : Bool} {nn : List NN} {rn : List Nat} (h1 : ringF (toldN told) = some ring) (h2 : toldN told = nn.map toI) (h3 : readyF (toldN told) = natI rn) (w : List Nat) : runF told (natI w) = walkI ring nn rn w := by
  unfold runF walkI
  rw [h1, h3, h2]; rfl

noncomputable def nthB (l : List Bool) : Nat → Bool := @List.rec Bool (fun _ => Nat → Bool) (fun _ => false) (fun b _ ih i => @Nat.rec (fun _ => Bool) b (fun m _ => ih m) i) l
noncomputable def at2C (M : List (List Bool)) (a b : Nat) : Bool := @List.rec (List Bool) (fun _ => Nat → Bool) (fun _ => false) (fun r _ ih i => @Nat.rec (fun _ => Bool) (nthB r b) (fun m _ => ih m) i) M a
theorem nthB_eq : ∀ (l : List Bool) (i : Nat), nthB l i = l.getD i false
  | [], i => by cases i <;> rfl
  | b :: l, 0 => rfl
  | b :: l, i + 1 => by show nthB l i = _; rw [nthB_eq l i]; rfl
theorem at2C_eq (b : Nat) : ∀ (M : List (List Bool)) (a : Nat), at2C M a b = at2 M a b
  | [], a => by unfold at2; cases a <;> simp <;> rfl
  | r :: M, 0 => by show nthB r b = _; rw [nthB_eq]; rfl
  | r :: M, a + 1 => by show at2C M a b = _; rw [at2C_eq b M a]; rfl
noncomputable def setRowC (row : List Bool) : Nat → (List Bool → Bool) → Bool :=
  @List.rec Bool (fun _ => Nat → (List Bool → Bool) → Bool) (fun _ k => k []) (fun x t ih i k => @Nat.rec (fun _ => Bool) (k (true :: t)) (fun m _ => ih m fun l => k (x :: l)) i) row
noncomputable def setMatC (b : Nat) (M : List (List Bool)) : Nat → (List (List Bool) → Bool) → Bool :=
  @List.rec (List Bool) (fun _ => Nat → (List (List Bool) → Bool) → Bool) (fun _ k => k []) (fun r t ih i k => @Nat.rec (fun _ => Bool) (setRowC r b fun r => k (r :: t)) (fun m _ => ih m fun M => k (r :: M)) i) M
theorem setRowC_of : ∀ {row : List Bool} {i : Nat} {k : List Bool → Bool}, setRowC row i k = true → k (row.set i true) = true
  | [], i, k, h => h
  | x :: t, 0, k, h => h
  | x :: t, i + 1, k, h => setRowC_of (row := t) (i := i) (k := fun l => k (x :: l)) h
theorem setMatC_of {b : Nat} : ∀ {M : List (List Bool)} {a : Nat} {k : List (List Bool) → Bool}, setMatC b M a k = true → k (M.set a ((M.getD a []).set b true)) = true
  | [], a, k, h => h
  | r :: t, 0, k, h => setRowC_of (row := r) (i := b) (k := fun r => k (r :: t)) h
  | r :: t, a + 1, k, h => setMatC_of (M := t) (a := a) (k := fun M => k (r :: M)) h
noncomputable def turnC (t : Nat × Nat × Nat) (M : List (List Bool)) (k : List (List Bool) → Bool) : Bool :=
  @Bool.rec (fun _ => Bool) (@Bool.rec (fun _ => Bool) (k M) (@Bool.rec (fun _ => Bool) (k M) (setMatC t.2.2 M t.2.1 k) (at2C M t.1 t.2.2)) (at2C M t.2.1 t.1)) (k M) (at2C M t.2.1 t.2.2)
theorem set_same (M : List (List Bool)) (a b : Nat) {v : Bool} (h : at2 M a b = v) : M.set a ((M.getD a []).set b v) = M := by
  by_cases ha : a < M.length
  · have e : M.getD a [] = M[a] := by rw [List.getD_eq_getElem?_getD, List.getElem?_eq_getElem ha]; rfl
    unfold at2 at h
    rw [e] at h ⊢
    have : M[a].set b v = M[a] := by
      by_cases hb : b < M[a].length
      · rw [List.getD_eq_getElem?_getD, List.getElem?_eq_getElem hb] at h
        rw [← h]; exact List.set_getElem_self hb
      · exact List.set_eq_of_length_le (by omega)
    rw [this]
    exact List.set_getElem_self ha
  · exact List.set_eq_of_length_le (by omega)
theorem turnC_of {t : Nat × Nat × Nat} {M : List (List Bool)} {k : List (List Bool) → Bool} (h : turnC t M k = true) : k (leadsTurn t.1 t.2.1 t.2.2 M) = true := by
  unfold turnC at h
  rw [at2C_eq, at2C_eq, at2C_eq] at h
  unfold leadsTurn
  cases e1 : at2 M t.2.1 t.2.2 with
  | true =>
    rw [e1] at h
    rw [Bool.true_or, set_same M _ _ e1]; exact h
  | false =>
    rw [e1] at h
    cases e2 : at2 M t.2.1 t.1 with
    | false =>
      rw [e2] at h
      rw [Bool.false_or, Bool.false_and, set_same M _ _ e1]; exact h
    | true =>
      rw [e2] at h
      cases e3 : at2 M t.1 t.2.2 with
      | false =>
        rw [e3] at h
        rw [Bool.false_or, Bool.and_false, set_same M _ _ e1]; exact h
      | true =>
        rw [e3] at h
        exact setMatC_of h
noncomputable def closeC (T : List (Nat × Nat × Nat)) : List (List Bool) → (List (List Bool) → Bool) → Bool :=
  @List.rec (Nat × Nat × Nat) (fun _ => List (List Bool) → (List (List Bool) → Bool) → Bool) (fun M k => k M) (fun t _ ih M k => turnC t M fun M => ih M k) T
theorem closeC_of : ∀ {T : List (Nat × Nat × Nat)} {M : List (List Bool)} {k : List (List Bool) → Bool}, closeC T M k = true → k (T.foldl (fun M t => leadsTurn t.1 t.2.1 t.2.2 M) M) = true
  | [], M, k, h => h
  | t :: T, M, k, h => closeC_of (T := T) (turnC_of (k := fun M => closeC T M k) h)
noncomputable def triples (n : Nat) : List (Nat × Nat × Nat) := (List.range n).flatMap fun c => (List.range n).flatMap fun a => (List.range n).map fun b => (c, a, b)
theorem turnsC_T (n : Nat) (M : List (List Bool)) : turnsC n n M = (triples n).foldl (fun M t => leadsTurn t.1 t.2.1 t.2.2 M) M := by
  unfold triples turnsC
  rw [List.foldl_flatMap]
  congr 1
  funext M c
  unfold turnsA
  rw [List.foldl_flatMap]
  congr 1
  funext M a
  unfold turnsB
  rw [List.foldl_map]
noncomputable def hasP (a b : Nat) (l : List (Nat × Nat)) : Bool := @List.rec (Nat × Nat) (fun _ => Bool) false (fun p _ ih => @Bool.rec (fun _ => Bool) ih (@Bool.rec (fun _ => Bool) ih true (Nat.beq b p.2)) (Nat.beq a p.1)) l
noncomputable def pI (p : Nat × Nat) : Int × Int := (p.1, p.2)
theorem hasP_eq (a b : Nat) : ∀ l : List (Nat × Nat), (l.map pI).contains ((a : Int), (b : Int)) = hasP a b l
  | [] => rfl
  | (c, d) :: l => by
    show ((pI (c, d)) :: l.map pI).contains ((a : Int), (b : Int)) = @Bool.rec (fun _ => Bool) (hasP a b l) (@Bool.rec (fun _ => Bool) (hasP a b l) true (Nat.beq b d)) (Nat.beq a c)
    rw [List.contains_cons, hasP_eq a b l]
    show ((((a : Int) == (c : Int)) && ((b : Int) == (d : Int))) || _) = _
    rw [int_beq, int_beq]
    cases Nat.beq a c <;> cases Nat.beq b d <;> rfl
noncomputable def leadRowC (s : List (Nat × Nat)) (a : Nat) (R : List Nat) : (List Bool → Bool) → Bool :=
  @List.rec Nat (fun _ => (List Bool → Bool) → Bool) (fun k => k []) (fun b _ ih k => @Bool.rec (fun _ => Bool) (ih fun l => k (false :: l)) (ih fun l => k (true :: l)) (hasP a b s)) R
theorem leadRowC_of {s : List (Nat × Nat)} {a : Nat} : ∀ {R : List Nat} {k : List Bool → Bool}, leadRowC s a R k = true → k (R.map fun b => hasP a b s) = true
  | [], k, h => h
  | b :: R, k, h => by
    have h' : @Bool.rec (fun _ => Bool) (leadRowC s a R fun l => k (false :: l)) (leadRowC s a R fun l => k (true :: l)) (hasP a b s) = true := h
    rw [List.map_cons]
    cases e : hasP a b s with
    | false => rw [e] at h'; exact leadRowC_of (k := fun l => k (false :: l)) h'
    | true => rw [e] at h'; exact leadRowC_of (k := fun l => k (true :: l)) h'
noncomputable def leads0C (s : List (Nat × Nat)) (R0 : List Nat) (R : List Nat) : (List (List Bool) → Bool) → Bool :=
  @List.rec Nat (fun _ => (List (List Bool) → Bool) → Bool) (fun k => k []) (fun a _ ih k => leadRowC s a R0 fun r => ih fun M => k (r :: M)) R
theorem leads0C_of {s : List (Nat × Nat)} {R0 : List Nat} : ∀ {R : List Nat} {k : List (List Bool) → Bool}, leads0C s R0 R k = true → k (R.map fun a => R0.map fun b => hasP a b s) = true
  | [], k, h => h
  | a :: R, k, h => by
    have h' : leadRowC s a R0 (fun r => leads0C s R0 R fun M => k (r :: M)) = true := h
    exact leads0C_of (k := fun M => k (_ :: M)) (leadRowC_of (k := fun r => leads0C s R0 R fun M => k (r :: M)) h')
theorem leads0_C (n : Nat) (s : List (Nat × Nat)) : leads0 n (s.map pI) = (List.range n).map fun a => (List.range n).map fun b => hasP a b s := by
  unfold leads0
  congr 1
  funext a
  congr 1
  funext b
  exact hasP_eq a b s
noncomputable def leadsC (R : List Nat) (T : List (Nat × Nat × Nat)) (s : List (Nat × Nat)) (k : List (List Bool) → Bool) : Bool := leads0C s R R fun M => closeC T M k
theorem leadsC_of {n : Nat} {s : List (Nat × Nat)} {k : List (List Bool) → Bool} (h : leadsC (List.range n) (triples n) s k = true) : k (leadsF n (s.map pI)) = true := by
  unfold leadsF
  rw [turnsC_T, leads0_C]
  exact closeC_of (leads0C_of h)
noncomputable def pairsC (l : List (Int × Int)) : (List (Nat × Nat) → Bool) → Bool :=
  @List.rec (Int × Int) (fun _ => (List (Nat × Nat) → Bool) → Bool) (fun k => k []) (fun p _ ih k => @Int.rec (fun _ => Bool) (fun a => @Int.rec (fun _ => Bool) (fun b => ih fun l => k ((a, b) :: l)) (fun _ => false) p.2) (fun _ => false) p.1) l
theorem pairsC_of : ∀ {l : List (Int × Int)} {k : List (Nat × Nat) → Bool}, pairsC l k = true → ∃ s, l = s.map pI ∧ k s = true
  | [], k, h => ⟨[], rfl, h⟩
  | (.negSucc _, _) :: l, k, h => by cases h
  | (.ofNat _, .negSucc _) :: l, k, h => by cases h
  | (.ofNat a, .ofNat b) :: l, k, h => by
    obtain ⟨s, e, hk⟩ := pairsC_of (l := l) (k := fun l => k ((a, b) :: l)) h
    exact ⟨(a, b) :: s, by rw [e]; rfl, hk⟩
noncomputable def goodU (R2 R3 : List (List Nat)) (n : Nat) (steps : List (Int × Int)) (leads : List (List Bool)) (free : List Int) (runs : List Run) (most : Nat) (orders : List (List Int)) : Bool :=
  steps.all (fun p => !free.contains p.2 || free.contains p.1) && runs.all (fun r => r.2.2 && (r.1 == decide (free.length < n)) && decide (r.2.1.length ≤ 4)) &&
  decide (most ≤ 4) && runs.any (fun r => r.2.1.length == most) && !orders.isEmpty && orders.all (fun o => free.isPerm o) &&
  free.all (fun a => decide (a < (n : Int))) && forceL (forceL forceN) (orders.map (posOf n)) (fun ps => leadA leads free ps n n) &&
  forceL forceZ (talF (orders.headD []) orders) fun tal => forceL (forceP forceN forceN) (innerF free steps) fun inn => (List.range (min most 3)).all (fun j => cntC inn (rowsAt R2 R3 n (j + 1) free.length) 0 0 fun a b =>
    decide ((a : Int) = sumW tal most (j + 1)) && decide ((b : Int) = sumS tal most (j + 1)))
noncomputable def goodC (R : List Nat) (T : List (Nat × Nat × Nat)) (R2 R3 : List (List Nat)) (n : Nat) (steps : List (Int × Int)) (runs : List Run) : Bool :=
  pairsC steps fun s => leadsC R T s fun leads => forceL forceZ (freeF n leads) fun free => forceN (mostF runs) fun most => forceL (forceL forceZ) (ordersF most runs) fun orders => goodU R2 R3 n steps leads free runs most orders
theorem goodC_good {n : Nat} {steps : List (Int × Int)} {runs : List Run} (h : goodC (List.range n) (triples n) (rowsN 2 n) (rowsN 3 n) n steps runs = true) : Good n steps runs := by
  obtain ⟨s, e, h⟩ := pairsC_of h
  have h := leadsC_of h
  rw [← e] at h
  have h := forceL_ok (forceL_ok forceZ_ok) _ _ (forceN_ok _ _ (forceL_ok forceZ_ok _ _ h))
  unfold goodU at h
  simp only [Bool.and_eq_true, List.all_eq_true, List.any_eq_true, decide_eq_true_eq, Bool.or_eq_true, Bool.not_eq_true', beq_iff_eq, List.contains_iff_mem, List.isPerm_iff] at h
  obtain ⟨⟨⟨⟨⟨⟨⟨⟨h1, h2⟩, h3⟩, h4⟩, h5⟩, h6⟩, h7a⟩, h7⟩, h8⟩ := h
  have h7 := forceL_ok (forceL_ok forceN_ok) _ _ h7
  have h8 := List.all_eq_true.mp (forceL_ok (forceP_ok forceN_ok forceN_ok) _ _ (forceL_ok forceZ_ok _ _ h8))
  refine ⟨fun p hp hf => ?_, fun r hr => ⟨(h2 r hr).1.1, (h2 r hr).1.2⟩, h3, fun r hr => (h2 r hr).2, h4, fun e => ?_, h6, fun a b ha hb hne => ?_, fun kk h1' h2' => ?_⟩
  · rcases h1 p hp with q | q
    · rw [List.contains_eq_mem] at q
      simp [hf] at q
    · exact q
  · rw [e] at h5; cases h5
  · have ha' : a < n := by have := h7a a ha; omega
    have hb' : b < n := by have := h7a b hb; omega
    rw [leadB_of ha hb hne (leadA_of h7 ha') hb', allLt_eq ha' hb']
  · have := cntC_of _ (h8 (kk - 1) (List.mem_range.mpr (by omega)))
    rw [show kk - 1 + 1 = kk by omega, rowsAt_eq, Nat.zero_add, Nat.zero_add] at this
    rw [heightsF_C]
    rw [Bool.and_eq_true, decide_eq_true_eq, decide_eq_true_eq] at this
    exact this
noncomputable def checkH (R : List Nat) (T : List (Nat × Nat × Nat)) (R2 R3 : List (List Nat)) (n : Nat) (wishes : List (List Nat)) (steps : List (Int × Int)) : Bool :=
  forceL (forceP forceZ forceZ) steps fun steps => checkS n steps 0 fun ring nn rn => runsC nn rn wishes fun l => forceL (forceP forceB (forceP (forceL forceZ) forceB)) (l.map (runI ring)) (fun rs => goodC R T R2 R3 n steps rs) &&
    (List.range (n - 1)).all fun r => checkS n steps (r + 1) fun ring' nn' rn' => eqBC ring' ring && sameC nn' rn' wishes l
theorem checkH_of {n : Nat} (hn : 0 < n) {steps : List (Int × Int)} {wishes : List (List Nat)} (h : checkH (List.range n) (triples n) (rowsN 2 n) (rowsN 3 n) n wishes steps = true) :
    ∃ rs, Good n steps rs ∧ ∀ rot < n, (∀ x < n, hasN (toldN (toldF (namesF n rot) steps)) (x : Int) = true) ∧ (toldN (toldF (namesF n rot) steps)).length ≤ 20 ∧ (wishes.map natI).map (runF (toldF (namesF n rot) steps)) = rs.map some := by
  unfold checkH at h
  have h := forceL_ok (forceP_ok forceZ_ok forceZ_ok) _ _ h
  obtain ⟨a, b, ring, nn, rn, e1, e2, e3, h⟩ := checkS_of h
  obtain ⟨l, e4, h⟩ := runsC_of (ring := ring) h
  rw [Bool.and_eq_true, List.all_eq_true] at h
  refine ⟨l.map (runI ring), goodC_good (forceL_ok (forceP_ok forceB_ok (forceP_ok (forceL_ok forceZ_ok) forceB_ok)) _ _ h.1), fun rot hrot => ?_⟩
  cases rot with
  | zero =>
    refine ⟨a, b, ?_⟩
    rw [List.map_map, List.map_map]
    refine Eq.trans (List.map_congr_left fun w _ => ?_) e4
    exact walkI_eq e1 e2 e3 w
  | succ r =>
    obtain ⟨a', b', ring', nn', rn', e1', e2', e3', h'⟩ := checkS_of (h.2 r (List.mem_range.mpr (by omega)))
    rw [Bool.and_eq_true] at h'
    have hr := eqBC_of h'.1
    subst hr
    refine ⟨a', b', ?_⟩
    rw [List.map_map, List.map_map]
    refine Eq.trans (List.map_congr_left fun w _ => ?_) (sameC_of (ring := ring') h'.2)
    exact walkI_eq e1' e2' e3' w
end Mine
end
section
open PySem.Calls PySem.Spec PySem.SeqAt
set_option maxRecDepth 100000
namespace Mine
noncomputable def V3 : List (List Nat) := [[2, 1, 0], [1, 2, 0], [1, 0, 2], [2, 0, 1], [0, 2, 1], [0, 1, 2]]
noncomputable def V4 : List (List Nat) := [[3, 2, 1, 0], [2, 3, 1, 0], [2, 1, 3, 0], [2, 1, 0, 3], [3, 1, 2, 0], [1, 3, 2, 0], [1, 2, 3, 0], [1, 2, 0, 3], [3, 1, 0, 2], [1, 3, 0, 2], [1, 0, 3, 2], [1, 0, 2, 3], [3, 2, 0, 1], [2, 3, 0, 1], [2, 0, 3, 1], [2, 0, 1, 3], [3, 0, 2, 1], [0, 3, 2, 1], [0, 2, 3, 1], [0, 2, 1, 3], [3, 0, 1, 2], [0, 3, 1, 2], [0, 1, 3, 2], [0, 1, 2, 3]]
theorem W3_eq : wishesL 3 = V3.map natI := by decide +kernel
theorem W4_eq : wishesL 4 = V4.map natI := by decide +kernel
theorem P3_eq : pairsF 3 = [(0, 1), (0, 2), (1, 2)] := by decide +kernel
theorem P4_eq : pairsF 4 = [(0, 1), (0, 2), (1, 2), (0, 3), (1, 3), (2, 3)] := by decide +kernel
noncomputable def chunk (n : Nat) (W : List (List Nat)) (ps acc : List (Int × Int)) : Bool := forceL forceN (List.range n) fun R => forceL (forceP forceN (forceP forceN forceN)) (triples n) fun T => forceL (forceL forceN) (rowsN 2 n) fun R2 => forceL (forceL forceN) (rowsN 3 n) fun R3 => allC ps acc (checkH R T R2 R3 n W)
theorem chunk_of {n : Nat} {W : List (List Nat)} {ps acc : List (Int × Int)} (h : chunk n W ps acc = true) : allC ps acc (checkH (List.range n) (triples n) (rowsN 2 n) (rowsN 3 n) n W) = true :=
  forceL_ok (forceL_ok forceN_ok) _ _ (forceL_ok (forceL_ok forceN_ok) _ _ (forceL_ok (forceP_ok forceN_ok (forceP_ok forceN_ok forceN_ok)) _ _ (forceL_ok forceN_ok _ _ h)))
theorem g3 : chunk 3 V3 [(0, 1), (0, 2), (1, 2)] [] = true := by decide +kernel
theorem g4_000 : chunk 4 V4 [(0, 3), (1, 3), (2, 3)] [] = true := by decide +kernel
theorem g4_001 : chunk 4 V4 [(0, 3), (1, 3), (2, 3)] [(1, 2)] = true := by decide +kernel
theorem g4_002 : chunk 4 V4 [(0, 3), (1, 3), (2, 3)] [(2, 1)] = true := by decide +kernel
theorem g4_010 : chunk 4 V4 [(0, 3), (1, 3), (2, 3)] [(0, 2)] = true := by decide +kernel
theorem g4_011 : chunk 4 V4 [(0, 3), (1, 3), (2, 3)] [(0, 2), (1, 2)] = true := by decide +kernel
theorem g4_012 : chunk 4 V4 [(0, 3), (1, 3), (2, 3)] [(0, 2), (2, 1)] = true := by decide +kernel
theorem g4_020 : chunk 4 V4 [(0, 3), (1, 3), (2, 3)] [(2, 0)] = true := by decide +kernel
theorem g4_021 : chunk 4 V4 [(0, 3), (1, 3), (2, 3)] [(2, 0), (1, 2)] = true := by decide +kernel
theorem g4_022 : chunk 4 V4 [(0, 3), (1, 3), (2, 3)] [(2, 0), (2, 1)] = true := by decide +kernel
theorem g4_100 : chunk 4 V4 [(0, 3), (1, 3), (2, 3)] [(0, 1)] = true := by decide +kernel
theorem g4_101 : chunk 4 V4 [(0, 3), (1, 3), (2, 3)] [(0, 1), (1, 2)] = true := by decide +kernel
theorem g4_102 : chunk 4 V4 [(0, 3), (1, 3), (2, 3)] [(0, 1), (2, 1)] = true := by decide +kernel
theorem g4_110 : chunk 4 V4 [(0, 3), (1, 3), (2, 3)] [(0, 1), (0, 2)] = true := by decide +kernel
theorem g4_111 : chunk 4 V4 [(0, 3), (1, 3), (2, 3)] [(0, 1), (0, 2), (1, 2)] = true := by decide +kernel
theorem g4_112 : chunk 4 V4 [(0, 3), (1, 3), (2, 3)] [(0, 1), (0, 2), (2, 1)] = true := by decide +kernel
theorem g4_120 : chunk 4 V4 [(0, 3), (1, 3), (2, 3)] [(0, 1), (2, 0)] = true := by decide +kernel
theorem g4_121 : chunk 4 V4 [(0, 3), (1, 3), (2, 3)] [(0, 1), (2, 0), (1, 2)] = true := by decide +kernel
theorem g4_122 : chunk 4 V4 [(0, 3), (1, 3), (2, 3)] [(0, 1), (2, 0), (2, 1)] = true := by decide +kernel
theorem g4_200 : chunk 4 V4 [(0, 3), (1, 3), (2, 3)] [(1, 0)] = true := by decide +kernel
theorem g4_201 : chunk 4 V4 [(0, 3), (1, 3), (2, 3)] [(1, 0), (1, 2)] = true := by decide +kernel
theorem g4_202 : chunk 4 V4 [(0, 3), (1, 3), (2, 3)] [(1, 0), (2, 1)] = true := by decide +kernel
theorem g4_210 : chunk 4 V4 [(0, 3), (1, 3), (2, 3)] [(1, 0), (0, 2)] = true := by decide +kernel
theorem g4_211 : chunk 4 V4 [(0, 3), (1, 3), (2, 3)] [(1, 0), (0, 2), (1, 2)] = true := by decide +kernel
theorem g4_212 : chunk 4 V4 [(0, 3), (1, 3), (2, 3)] [(1, 0), (0, 2), (2, 1)] = true := by decide +kernel
theorem g4_220 : chunk 4 V4 [(0, 3), (1, 3), (2, 3)] [(1, 0), (2, 0)] = true := by decide +kernel
theorem g4_221 : chunk 4 V4 [(0, 3), (1, 3), (2, 3)] [(1, 0), (2, 0), (1, 2)] = true := by decide +kernel
theorem g4_222 : chunk 4 V4 [(0, 3), (1, 3), (2, 3)] [(1, 0), (2, 0), (2, 1)] = true := by decide +kernel
theorem and3 {ps acc : List (Int × Int)} {p : Int × Int} {f : List (Int × Int) → Bool} (h1 : allC ps acc f = true) (h2 : allC ps (acc ++ [p]) f = true) (h3 : allC ps (acc ++ [(p.2, p.1)]) f = true) : allC (p :: ps) acc f = true := by
  show (allC ps acc f && allC ps (acc ++ [p]) f && allC ps (acc ++ [(p.2, p.1)]) f) = true
  rw [h1, h2, h3]; rfl
theorem g4 : allC [(0, 1), (0, 2), (1, 2), (0, 3), (1, 3), (2, 3)] [] (checkH (List.range 4) (triples 4) (rowsN 2 4) (rowsN 3 4) 4 V4) = true :=
  and3 (and3 (and3 (chunk_of g4_000) (chunk_of g4_001) (chunk_of g4_002)) (and3 (chunk_of g4_010) (chunk_of g4_011) (chunk_of g4_012)) (and3 (chunk_of g4_020) (chunk_of g4_021) (chunk_of g4_022))) (and3 (and3 (chunk_of g4_100) (chunk_of g4_101) (chunk_of g4_102)) (and3 (chunk_of g4_110) (chunk_of g4_111) (chunk_of g4_112)) (and3 (chunk_of g4_120) (chunk_of g4_121) (chunk_of g4_122))) (and3 (and3 (chunk_of g4_200) (chunk_of g4_201) (chunk_of g4_202)) (and3 (chunk_of g4_210) (chunk_of g4_211) (chunk_of g4_212)) (and3 (chunk_of g4_220) (chunk_of g4_221) (chunk_of g4_222)))
end Mine
end
section
open PySem.Calls PySem.Spec PySem.SeqAt
set_option maxRecDepth 100000
namespace Mine
theorem names_mod (n : Nat) (hn : 0 < n) (rot : Int) : namesF n rot = namesF n ((rot % (n : Int)).toNat : Nat) := by
  unfold namesF
  have h0 : (0 : Int) ≤ rot % (n : Int) := Int.emod_nonneg _ (by omega)
  rw [Int.toNat_of_nonneg h0]
  apply List.map_congr_left
  intro i _
  rw [Int.fmod_eq_emod_of_nonneg _ (by omega), Int.fmod_eq_emod_of_nonneg _ (by omega), Int.emod_add_emod]
theorem law_of {n : Nat} (hn : 0 < n) {steps : List (Int × Int)} {rot : Int} {V : List (List Nat)} (hV : wishesL n = V.map natI) (h : checkH (List.range n) (triples n) (rowsN 2 n) (rowsN 3 n) n V steps = true) :
    ∃ run : List Int → Run, (∀ wish ∈ wishesL n, runF (toldF (namesF n rot) steps) wish = some (run wish)) ∧ Good n steps ((wishesL n).map run) ∧ (∀ x < n, hasN (toldN (toldF (namesF n rot) steps)) ((x : Nat) : Int) = true) ∧ (toldN (toldF (namesF n rot) steps)).length ≤ 20 := by
  obtain ⟨rs, G, hr⟩ := checkH_of hn h
  rw [← hV] at hr
  rw [names_mod n hn rot]
  have hlt : (rot % (n : Int)).toNat < n := by
    have h0 : (0 : Int) ≤ rot % (n : Int) := Int.emod_nonneg _ (by omega)
    have h1 : rot % (n : Int) < n := Int.emod_lt_of_pos _ (by omega)
    omega
  obtain ⟨h1, h2, h3⟩ := hr _ hlt
  refine ⟨fun wish => (runF (toldF (namesF n ((rot % (n : Int)).toNat : Nat)) steps) wish).getD (false, [], false), fun wish hw => ?_, ?_, h1, h2⟩
  · have hm := List.mem_map_of_mem (f := runF (toldF (namesF n ((rot % (n : Int)).toNat : Nat)) steps)) hw
    rw [h3] at hm
    obtain ⟨r, _, e⟩ := List.mem_map.mp hm
    show runF _ wish = some ((runF _ wish).getD _)
    rw [← e]; rfl
  · have e : (wishesL n).map (fun wish => (runF (toldF (namesF n ((rot % (n : Int)).toNat : Nat)) steps) wish).getD (false, [], false)) = rs := by
      have := congrArg (List.map fun o : Option Run => o.getD (false, [], false)) h3
      rw [List.map_map, List.map_map] at this
      simpa [Function.comp_def] using this
    rw [e]; exact G
theorem plain_law (ns : List Int) : ∃ run : List Int → Run, (∀ wish ∈ wishesL (sizeF ns), runF (TOLD ns (sizeF ns) (stF ns)) wish = some (run wish)) ∧ Good (sizeF ns) (stF ns) ((wishesL (sizeF ns)).map run) ∧
    (∀ x < sizeF ns, hasN (toldN (TOLD ns (sizeF ns) (stF ns))) ((x : Nat) : Int) = true) ∧ (toldN (TOLD ns (sizeF ns) (stF ns))).length ≤ 20 := by
  unfold TOLD stF stepsF
  rcases sizeF_or ns with e | e
  · rw [e]
    refine law_of (by decide) W3_eq ?_
    have := allC_spec (chunk_of g3) (cellsF ns (pairsF 3).length)
    rw [List.nil_append] at this
    rw [P3_eq]
    rw [P3_eq] at this
    exact this
  · rw [e]
    refine law_of (by decide) W4_eq ?_
    have := allC_spec g4 (cellsF ns (pairsF 4).length)
    rw [List.nil_append] at this
    rw [P4_eq]
    rw [P4_eq] at this
    exact this
theorem told_side (ns : List Int) : (∀ p ∈ TOLD ns (sizeF ns) (stF ns), p.2.length ≤ 6) ∧ (TOLD ns (sizeF ns) (stF ns)).length ≤ 4 := by
  have hn : sizeF ns ≤ 4 := by rcases sizeF_or ns with e | e <;> rw [e] <;> decide
  refine ⟨fun p hp => ?_, ?_⟩
  · unfold TOLD toldF at hp
    obtain ⟨m, _, rfl⟩ := List.mem_map.mp hp
    rw [List.length_map]
    exact Nat.le_trans (List.length_filter_le _ _) (stF_len ns)
  · unfold TOLD toldF namesF
    rw [List.length_map, List.length_map, List.length_range]; exact hn
theorem wish_side : ∀ n : Nat, n = 3 ∨ n = 4 → ∀ wish ∈ wishesL n, wish.length ≤ 60 ∧ ∀ x ∈ wish, 0 ≤ x ∧ x < (n : Int)
  | n, h => by
    have key : ∀ n : Nat, (wishesL n).all (fun l => decide (l.length ≤ 60) && l.all fun x => decide (0 ≤ x) && decide (x < (n : Int))) = true → ∀ wish ∈ wishesL n, wish.length ≤ 60 ∧ ∀ x ∈ wish, 0 ≤ x ∧ x < (n : Int) := fun n h wish hw => by
      have := List.all_eq_true.mp h wish hw
      simp only [Bool.and_eq_true, decide_eq_true_eq, List.all_eq_true] at this
      exact this
    rcases h with rfl | rfl
    · exact key 3 (by decide +kernel)
    · exact key 4 (by decide +kernel)
end Mine
end
section
set_option maxRecDepth 100000
set_option maxHeartbeats 8000000
namespace Mine
noncomputable def myK (Q : Params) : Frag := [
  (2, ({ cls := Value.none, data := Data.dict #[] } : Obj)),
  (3, ({ cls := Value.type "dict", data := Data.dict #[{ hash := PyData.keyHash Q (Str.ofString "__name__"), key := Value.str (Str.ofString "__name__") 165, val := Value.str (Str.ofString "law_sc0013_01") 376 }, { hash := PyData.keyHash Q (Str.ofString "__doc__"), key := Value.str (Str.ofString "__doc__") 166, val := Value.none }, { hash := PyData.keyHash Q (Str.ofString "__package__"), key := Value.str (Str.ofString "__package__") 167, val := Value.none }, { hash := PyData.keyHash Q (Str.ofString "__loader__"), key := Value.str (Str.ofString "__loader__") 168, val := Value.builtin "__main__.__loader__#opaque" }, { hash := PyData.keyHash Q (Str.ofString "__spec__"), key := Value.str (Str.ofString "__spec__") 169, val := Value.none }, { hash := PyData.keyHash Q (Str.ofString "__annotations__"), key := Value.str (Str.ofString "__annotations__") 170, val := Value.ref 6 }, { hash := PyData.keyHash Q (Str.ofString "__builtins__"), key := Value.str (Str.ofString "__builtins__") 171, val := Value.ref 4 }, { hash := PyData.keyHash Q (Str.ofString "__file__"), key := Value.str (Str.ofString "__file__") 173, val := Value.str (Str.ofString "/claim/cut.py") 172 }, { hash := PyData.keyHash Q (Str.ofString "__cached__"), key := Value.str (Str.ofString "__cached__") 174, val := Value.none }, { hash := PyData.keyHash Q (Str.ofString "_wall"), key := Value.str (Str.ofString "_wall") 193, val := Value.ref 21 }, { hash := PyData.keyHash Q (Str.ofString "_NODE_OUT"), key := Value.str (Str.ofString "_NODE_OUT") 198, val := Value.int (-1) 197 }, { hash := PyData.keyHash Q (Str.ofString "_NODE_DONE"), key := Value.str (Str.ofString "_NODE_DONE") 201, val := Value.int (-2) 200 }, { hash := PyData.keyHash Q (Str.ofString "_NodeInfo"), key := Value.str (Str.ofString "_NodeInfo") 238, val := Value.ref 40 }, { hash := PyData.keyHash Q (Str.ofString "CycleError"), key := Value.str (Str.ofString "CycleError") 256, val := Value.ref 55 }, { hash := PyData.keyHash Q (Str.ofString "TopologicalSorter"), key := Value.str (Str.ofString "TopologicalSorter") 375, val := Value.ref 137 }, { hash := PyData.keyHash Q (Str.ofString "_law_wishes"), key := Value.str (Str.ofString "_law_wishes") 383, val := Value.ref 146 }, { hash := PyData.keyHash Q (Str.ofString "_law_run"), key := Value.str (Str.ofString "_law_run") 397, val := Value.ref 153 }, { hash := PyData.keyHash Q (Str.ofString "_law_leads"), key := Value.str (Str.ofString "_law_leads") 403, val := Value.ref 158 }, { hash := PyData.keyHash Q (Str.ofString "_law_choose"), key := Value.str (Str.ofString "_law_choose") 413, val := Value.ref 165 }, { hash := PyData.keyHash Q (Str.ofString "_law_falls"), key := Value.str (Str.ofString "_law_falls") 419, val := Value.ref 170 }, { hash := PyData.keyHash Q (Str.ofString "_law_heights"), key := Value.str (Str.ofString "_law_heights") 425, val := Value.ref 175 }, { hash := PyData.keyHash Q (Str.ofString "law"), key := Value.str (Str.ofString "law") 431, val := Value.ref 180 }] 22 } : Obj)),
  (35, ({ cls := Value.type "code", data := Data.fields #[Value.str (Str.ofString "__init__") 218, Value.str (Str.ofString "_NodeInfo.__init__") 219, Value.str (Str.ofString "/claim/cut.py") 220, Value.int 10 0, Value.int 2 0, Value.int 0 0, Value.int 0 0, Value.int 3 0, Value.ref 30, Value.bool true, Value.int 181 0, Value.ref 31, Value.none, Value.ref 32, Value.ref 33, Value.ref 34, Value.int 223 0, Value.int 10 0, Value.str (Str.ofString "/claim/cut.py") 224] } : Obj)),
  (36, ⟨Value.type "function", none, Data.func ⟨Str.ofString "__init__", Str.ofString "_NodeInfo.__init__", mPars 4 1, .stmts (mBody 4 1), mScope 4 1, 3, [], Value.none, Value.none, Value.none, Value.str (Str.ofString "cpy313.graphlib") 194, none, Value.ref 35, Value.none, 0⟩, #[]⟩),
  (39, ({ cls := Value.type "dict", data := Data.dict #[{ hash := PyData.keyHash Q (Str.ofString "__module__"), key := Value.str (Str.ofString "__module__") 209, val := Value.str (Str.ofString "cpy313.graphlib") 194 }, { hash := PyData.keyHash Q (Str.ofString "__firstlineno__"), key := Value.str (Str.ofString "__firstlineno__") 213, val := Value.int 7 212 }, { hash := PyData.keyHash Q (Str.ofString "__slots__"), key := Value.str (Str.ofString "__slots__") 217, val := Value.ref 29 }, { hash := PyData.keyHash Q (Str.ofString "__init__"), key := Value.str (Str.ofString "__init__") 225, val := Value.ref 36 }, { hash := PyData.keyHash Q (Str.ofString "__static_attributes__"), key := Value.str (Str.ofString "__static_attributes__") 229, val := Value.ref 37 }, { hash := PyData.keyHash Q (Str.ofString "node"), key := Value.str (Str.ofString "node") 231, val := Value.ref 41 }, { hash := PyData.keyHash Q (Str.ofString "npredecessors"), key := Value.str (Str.ofString "npredecessors") 233, val := Value.ref 42 }, { hash := PyData.keyHash Q (Str.ofString "successors"), key := Value.str (Str.ofString "successors") 235, val := Value.ref 43 }, { hash := PyData.keyHash Q (Str.ofString "__doc__"), key := Value.str (Str.ofString "__doc__") 236, val := Value.none }] 5 } : Obj)),
  (40, ({ cls := Value.type "type", data := Data.cls { name := Str.ofString "_NodeInfo", bases := [Value.type "object"], mro := [Value.ref 40, Value.type "object"], ns := 39, qualname := Str.ofString "_NodeInfo", hasDict := false, slotNames := [Str.ofString "node", Str.ofString "npredecessors", Str.ofString "successors"] }, slots := #[none, none, some (Value.str (Str.ofString "_NodeInfo") 202), some (Value.str (Str.ofString "_NodeInfo") 210), some (Value.builtin "object.__new__"), some (Value.bool false)] } : Obj)),
  (41, ({ cls := Value.type "member_descriptor", data := Data.fields #[Value.str (Str.ofString "node") 230, Value.ref 40, Value.builtin "proto.slot", Value.builtin "proto.slot#set", Value.int 2 0] } : Obj)),
  (42, ({ cls := Value.type "member_descriptor", data := Data.fields #[Value.str (Str.ofString "npredecessors") 232, Value.ref 40, Value.builtin "proto.slot", Value.builtin "proto.slot#set", Value.int 1 0] } : Obj)),
  (43, ({ cls := Value.type "member_descriptor", data := Data.fields #[Value.str (Str.ofString "successors") 234, Value.ref 40, Value.builtin "proto.slot", Value.builtin "proto.slot#set", Value.int 0 0] } : Obj)),
  (54, ({ cls := Value.type "dict", data := Data.dict #[{ hash := PyData.keyHash Q (Str.ofString "__module__"), key := Value.str (Str.ofString "__module__") 246, val := Value.str (Str.ofString "cpy313.graphlib") 194 }, { hash := PyData.keyHash Q (Str.ofString "__firstlineno__"), key := Value.str (Str.ofString "__firstlineno__") 250, val := Value.int 14 249 }, { hash := PyData.keyHash Q (Str.ofString "__static_attributes__"), key := Value.str (Str.ofString "__static_attributes__") 251, val := Value.ref 53 }, { hash := PyData.keyHash Q (Str.ofString "__weakref__"), key := Value.str (Str.ofString "__weakref__") 253, val := Value.ref 56 }, { hash := PyData.keyHash Q (Str.ofString "__doc__"), key := Value.str (Str.ofString "__doc__") 254, val := Value.none }] 3 } : Obj)),
  (55, ({ cls := Value.type "type", data := Data.cls { name := Str.ofString "CycleError", bases := [Value.type "ValueError"], mro := [Value.ref 55, Value.type "ValueError", Value.type "Exception", Value.type "BaseException", Value.type "object"], ns := 54, qualname := Str.ofString "CycleError" }, slots := #[some (Value.ref 46), none, some (Value.str (Str.ofString "CycleError") 239), some (Value.str (Str.ofString "CycleError") 247), some (Value.builtin "ValueError.__new__"), some (Value.bool true)] } : Obj)),
  (66, ({ cls := Value.type "tuple", data := Data.seq #[Value.none] } : Obj)),
  (72, ({ cls := Value.type "code", data := Data.fields #[Value.str (Str.ofString "__init__") 269, Value.str (Str.ofString "TopologicalSorter.__init__") 270, Value.str (Str.ofString "/claim/cut.py") 271, Value.int 18 0, Value.int 2 0, Value.int 0 0, Value.int 0 0, Value.int 3 0, Value.ref 67, Value.bool true, Value.int 181 0, Value.ref 68, Value.none, Value.ref 69, Value.ref 70, Value.ref 71, Value.int 276 0, Value.int 18 0, Value.str (Str.ofString "/claim/cut.py") 277] } : Obj)),
  (73, ⟨Value.type "function", none, Data.func ⟨Str.ofString "__init__", Str.ofString "TopologicalSorter.__init__", mPars 6 0, .stmts (mBody 6 0), mScope 6 0, 3, [], Value.ref 66, Value.none, Value.none, Value.str (Str.ofString "cpy313.graphlib") 194, none, Value.ref 72, Value.none, 0⟩, #[]⟩),
  (79, ({ cls := Value.type "code", data := Data.fields #[Value.str (Str.ofString "_get_nodeinfo") 279, Value.str (Str.ofString "TopologicalSorter._get_nodeinfo") 280, Value.str (Str.ofString "/claim/cut.py") 281, Value.int 27 0, Value.int 2 0, Value.int 0 0, Value.int 0 0, Value.int 3 0, Value.ref 74, Value.bool true, Value.int 181 0, Value.ref 75, Value.none, Value.ref 76, Value.ref 77, Value.ref 78, Value.int 285 0, Value.int 27 0, Value.str (Str.ofString "/claim/cut.py") 286] } : Obj)),
  (80, ⟨Value.type "function", none, Data.func ⟨Str.ofString "_get_nodeinfo", Str.ofString "TopologicalSorter._get_nodeinfo", mPars 6 1, .stmts (mBody 6 1), mScope 6 1, 3, [], Value.none, Value.none, Value.none, Value.str (Str.ofString "cpy313.graphlib") 194, none, Value.ref 79, Value.none, 0⟩, #[]⟩),
  (86, ({ cls := Value.type "code", data := Data.fields #[Value.str (Str.ofString "add") 288, Value.str (Str.ofString "TopologicalSorter.add") 289, Value.str (Str.ofString "/claim/cut.py") 290, Value.int 32 0, Value.int 2 0, Value.int 0 0, Value.int 0 0, Value.int 7 0, Value.ref 81, Value.bool true, Value.int 181 0, Value.ref 82, Value.none, Value.ref 83, Value.ref 84, Value.ref 85, Value.int 297 0, Value.int 32 0, Value.str (Str.ofString "/claim/cut.py") 298] } : Obj)),
  (87, ⟨Value.type "function", none, Data.func ⟨Str.ofString "add", Str.ofString "TopologicalSorter.add", mPars 6 2, .stmts (mBody 6 2), mScope 6 2, 3, [], Value.none, Value.none, Value.none, Value.str (Str.ofString "cpy313.graphlib") 194, none, Value.ref 86, Value.none, 0⟩, #[]⟩),
  (91, ({ cls := Value.type "code", data := Data.fields #[Value.str (Str.ofString "prepare") 300, Value.str (Str.ofString "TopologicalSorter.prepare") 301, Value.str (Str.ofString "/claim/cut.py") 302, Value.int 41 0, Value.int 1 0, Value.int 0 0, Value.int 0 0, Value.int 3 0, Value.ref 88, Value.bool true, Value.int 181 0, Value.ref 89, Value.none, Value.none, Value.none, Value.ref 90, Value.int 303 0, Value.int 41 0, Value.str (Str.ofString "/claim/cut.py") 304] } : Obj)),
  (92, ⟨Value.type "function", none, Data.func ⟨Str.ofString "prepare", Str.ofString "TopologicalSorter.prepare", mPars 6 3, .stmts (mBody 6 3), mScope 6 3, 3, [], Value.none, Value.none, Value.none, Value.str (Str.ofString "cpy313.graphlib") 194, none, Value.ref 91, Value.none, 0⟩, #[]⟩),
  (98, ({ cls := Value.type "code", data := Data.fields #[Value.str (Str.ofString "get_ready") 306, Value.str (Str.ofString "TopologicalSorter.get_ready") 307, Value.str (Str.ofString "/claim/cut.py") 308, Value.int 49 0, Value.int 1 0, Value.int 0 0, Value.int 0 0, Value.int 3 0, Value.ref 93, Value.bool true, Value.int 181 0, Value.ref 94, Value.none, Value.ref 95, Value.ref 96, Value.ref 97, Value.int 313 0, Value.int 49 0, Value.str (Str.ofString "/claim/cut.py") 314] } : Obj)),
  (99, ⟨Value.type "function", none, Data.func ⟨Str.ofString "get_ready", Str.ofString "TopologicalSorter.get_ready", mPars 6 4, .stmts (mBody 6 4), mScope 6 4, 3, [], Value.none, Value.none, Value.none, Value.str (Str.ofString "cpy313.graphlib") 194, none, Value.ref 98, Value.none, 0⟩, #[]⟩),
  (105, ({ cls := Value.type "code", data := Data.fields #[Value.str (Str.ofString "is_active") 316, Value.str (Str.ofString "TopologicalSorter.is_active") 317, Value.str (Str.ofString "/claim/cut.py") 318, Value.int 60 0, Value.int 1 0, Value.int 0 0, Value.int 0 0, Value.int 3 0, Value.ref 100, Value.bool true, Value.int 181 0, Value.ref 101, Value.none, Value.ref 102, Value.ref 103, Value.ref 104, Value.int 320 0, Value.int 60 0, Value.str (Str.ofString "/claim/cut.py") 321] } : Obj)),
  (106, ⟨Value.type "function", none, Data.func ⟨Str.ofString "is_active", Str.ofString "TopologicalSorter.is_active", mPars 6 5, .stmts (mBody 6 5), mScope 6 5, 3, [], Value.none, Value.none, Value.none, Value.str (Str.ofString "cpy313.graphlib") 194, none, Value.ref 105, Value.none, 0⟩, #[]⟩),
  (119, ({ cls := Value.type "code", data := Data.fields #[Value.str (Str.ofString "done") 330, Value.str (Str.ofString "TopologicalSorter.done") 331, Value.str (Str.ofString "/claim/cut.py") 332, Value.int 68 0, Value.int 1 0, Value.int 0 0, Value.int 0 0, Value.int 7 0, Value.ref 114, Value.bool true, Value.int 181 0, Value.ref 115, Value.none, Value.ref 116, Value.ref 117, Value.ref 118, Value.int 341 0, Value.int 68 0, Value.str (Str.ofString "/claim/cut.py") 342] } : Obj)),
  (120, ⟨Value.type "function", none, Data.func ⟨Str.ofString "done", Str.ofString "TopologicalSorter.done", mPars 6 7, .stmts (mBody 6 7), mScope 6 7, 3, [], Value.none, Value.none, Value.none, Value.str (Str.ofString "cpy313.graphlib") 194, none, Value.ref 119, Value.none, 0⟩, #[]⟩),
  (126, ({ cls := Value.type "code", data := Data.fields #[Value.str (Str.ofString "_find_cycle") 344, Value.str (Str.ofString "TopologicalSorter._find_cycle") 345, Value.str (Str.ofString "/claim/cut.py") 346, Value.int 91 0, Value.int 1 0, Value.int 0 0, Value.int 0 0, Value.int 3 0, Value.ref 121, Value.bool true, Value.int 181 0, Value.ref 122, Value.none, Value.ref 123, Value.ref 124, Value.ref 125, Value.int 354 0, Value.int 91 0, Value.str (Str.ofString "/claim/cut.py") 355] } : Obj)),
  (127, ⟨Value.type "function", none, Data.func ⟨Str.ofString "_find_cycle", Str.ofString "TopologicalSorter._find_cycle", mPars 6 8, .stmts (mBody 6 8), mScope 6 8, 3, [], Value.none, Value.none, Value.none, Value.str (Str.ofString "cpy313.graphlib") 194, none, Value.ref 126, Value.none, 0⟩, #[]⟩),
  (136, ({ cls := Value.type "dict", data := Data.dict #[{ hash := PyData.keyHash Q (Str.ofString "__module__"), key := Value.str (Str.ofString "__module__") 264, val := Value.str (Str.ofString "cpy313.graphlib") 194 }, { hash := PyData.keyHash Q (Str.ofString "__firstlineno__"), key := Value.str (Str.ofString "__firstlineno__") 268, val := Value.int 16 267 }, { hash := PyData.keyHash Q (Str.ofString "__init__"), key := Value.str (Str.ofString "__init__") 278, val := Value.ref 73 }, { hash := PyData.keyHash Q (Str.ofString "_get_nodeinfo"), key := Value.str (Str.ofString "_get_nodeinfo") 287, val := Value.ref 80 }, { hash := PyData.keyHash Q (Str.ofString "add"), key := Value.str (Str.ofString "add") 299, val := Value.ref 87 }, { hash := PyData.keyHash Q (Str.ofString "prepare"), key := Value.str (Str.ofString "prepare") 305, val := Value.ref 92 }, { hash := PyData.keyHash Q (Str.ofString "get_ready"), key := Value.str (Str.ofString "get_ready") 315, val := Value.ref 99 }, { hash := PyData.keyHash Q (Str.ofString "is_active"), key := Value.str (Str.ofString "is_active") 322, val := Value.ref 106 }, { hash := PyData.keyHash Q (Str.ofString "__bool__"), key := Value.str (Str.ofString "__bool__") 329, val := Value.ref 113 }, { hash := PyData.keyHash Q (Str.ofString "done"), key := Value.str (Str.ofString "done") 343, val := Value.ref 120 }, { hash := PyData.keyHash Q (Str.ofString "_find_cycle"), key := Value.str (Str.ofString "_find_cycle") 356, val := Value.ref 127 }, { hash := PyData.keyHash Q (Str.ofString "static_order"), key := Value.str (Str.ofString "static_order") 363, val := Value.ref 134 }, { hash := PyData.keyHash Q (Str.ofString "__static_attributes__"), key := Value.str (Str.ofString "__static_attributes__") 368, val := Value.ref 135 }, { hash := PyData.keyHash Q (Str.ofString "__dict__"), key := Value.str (Str.ofString "__dict__") 370, val := Value.ref 138 }, { hash := PyData.keyHash Q (Str.ofString "__weakref__"), key := Value.str (Str.ofString "__weakref__") 372, val := Value.ref 139 }, { hash := PyData.keyHash Q (Str.ofString "__doc__"), key := Value.str (Str.ofString "__doc__") 373, val := Value.none }] 4 } : Obj)),
  (137, ({ cls := Value.type "type", data := Data.cls { name := Str.ofString "TopologicalSorter", bases := [Value.type "object"], mro := [Value.ref 137, Value.type "object"], ns := 136, qualname := Str.ofString "TopologicalSorter" }, slots := #[none, none, some (Value.str (Str.ofString "TopologicalSorter") 257), some (Value.str (Str.ofString "TopologicalSorter") 265), some (Value.builtin "object.__new__"), some (Value.bool true)] } : Obj)),
  (145, ({ cls := Value.type "code", data := Data.fields #[Value.str (Str.ofString "_law_wishes") 378, Value.str (Str.ofString "_law_wishes") 379, Value.str (Str.ofString "/claim/cut.py") 380, Value.int 123 0, Value.int 1 0, Value.int 0 0, Value.int 0 0, Value.int 3 0, Value.ref 142, Value.bool true, Value.int 181 0, Value.ref 143, Value.none, Value.none, Value.none, Value.ref 144, Value.int 381 0, Value.int 123 0, Value.str (Str.ofString "/claim/cut.py") 382] } : Obj)),
  (146, ⟨Value.type "function", none, Data.func ⟨Str.ofString "_law_wishes", Str.ofString "_law_wishes", parsAt 8, .stmts (bodyAt 8), scopeAt 8, 3, [], Value.none, Value.none, Value.none, Value.str (Str.ofString "law_sc0013_01") 376, none, Value.ref 145, Value.none, 0⟩, #[]⟩),
  (152, ({ cls := Value.type "code", data := Data.fields #[Value.str (Str.ofString "_law_run") 384, Value.str (Str.ofString "_law_run") 385, Value.str (Str.ofString "/claim/cut.py") 386, Value.int 128 0, Value.int 2 0, Value.int 0 0, Value.int 0 0, Value.int 3 0, Value.ref 147, Value.bool true, Value.int 181 0, Value.ref 148, Value.none, Value.ref 149, Value.ref 150, Value.ref 151, Value.int 395 0, Value.int 128 0, Value.str (Str.ofString "/claim/cut.py") 396] } : Obj)),
  (153, ⟨Value.type "function", none, Data.func ⟨Str.ofString "_law_run", Str.ofString "_law_run", parsAt 9, .stmts (bodyAt 9), scopeAt 9, 3, [], Value.none, Value.none, Value.none, Value.str (Str.ofString "law_sc0013_01") 376, none, Value.ref 152, Value.none, 0⟩, #[]⟩),
  (157, ({ cls := Value.type "code", data := Data.fields #[Value.str (Str.ofString "_law_leads") 398, Value.str (Str.ofString "_law_leads") 399, Value.str (Str.ofString "/claim/cut.py") 400, Value.int 149 0, Value.int 2 0, Value.int 0 0, Value.int 0 0, Value.int 3 0, Value.ref 154, Value.bool true, Value.int 181 0, Value.ref 155, Value.none, Value.none, Value.none, Value.ref 156, Value.int 401 0, Value.int 149 0, Value.str (Str.ofString "/claim/cut.py") 402] } : Obj)),
  (158, ⟨Value.type "function", none, Data.func ⟨Str.ofString "_law_leads", Str.ofString "_law_leads", parsAt 10, .stmts (bodyAt 10), scopeAt 10, 3, [], Value.none, Value.none, Value.none, Value.str (Str.ofString "law_sc0013_01") 376, none, Value.ref 157, Value.none, 0⟩, #[]⟩),
  (164, ({ cls := Value.type "code", data := Data.fields #[Value.str (Str.ofString "_law_choose") 404, Value.str (Str.ofString "_law_choose") 405, Value.str (Str.ofString "/claim/cut.py") 406, Value.int 156 0, Value.int 2 0, Value.int 0 0, Value.int 0 0, Value.int 3 0, Value.ref 159, Value.bool true, Value.int 181 0, Value.ref 160, Value.none, Value.ref 161, Value.ref 162, Value.ref 163, Value.int 411 0, Value.int 156 0, Value.str (Str.ofString "/claim/cut.py") 412] } : Obj)),
  (165, ⟨Value.type "function", none, Data.func ⟨Str.ofString "_law_choose", Str.ofString "_law_choose", parsAt 11, .stmts (bodyAt 11), scopeAt 11, 3, [], Value.none, Value.none, Value.none, Value.str (Str.ofString "law_sc0013_01") 376, none, Value.ref 164, Value.none, 0⟩, #[]⟩),
  (169, ({ cls := Value.type "code", data := Data.fields #[Value.str (Str.ofString "_law_falls") 414, Value.str (Str.ofString "_law_falls") 415, Value.str (Str.ofString "/claim/cut.py") 416, Value.int 161 0, Value.int 1 0, Value.int 0 0, Value.int 0 0, Value.int 3 0, Value.ref 166, Value.bool true, Value.int 181 0, Value.ref 167, Value.none, Value.none, Value.none, Value.ref 168, Value.int 417 0, Value.int 161 0, Value.str (Str.ofString "/claim/cut.py") 418] } : Obj)),
  (170, ⟨Value.type "function", none, Data.func ⟨Str.ofString "_law_falls", Str.ofString "_law_falls", parsAt 12, .stmts (bodyAt 12), scopeAt 12, 3, [], Value.none, Value.none, Value.none, Value.str (Str.ofString "law_sc0013_01") 376, none, Value.ref 169, Value.none, 0⟩, #[]⟩),
  (174, ({ cls := Value.type "code", data := Data.fields #[Value.str (Str.ofString "_law_heights") 420, Value.str (Str.ofString "_law_heights") 421, Value.str (Str.ofString "/claim/cut.py") 422, Value.int 168 0, Value.int 3 0, Value.int 0 0, Value.int 0 0, Value.int 3 0, Value.ref 171, Value.bool true, Value.int 181 0, Value.ref 172, Value.none, Value.none, Value.none, Value.ref 173, Value.int 423 0, Value.int 168 0, Value.str (Str.ofString "/claim/cut.py") 424] } : Obj)),
  (175, ⟨Value.type "function", none, Data.func ⟨Str.ofString "_law_heights", Str.ofString "_law_heights", parsAt 13, .stmts (bodyAt 13), scopeAt 13, 3, [], Value.none, Value.none, Value.none, Value.str (Str.ofString "law_sc0013_01") 376, none, Value.ref 174, Value.none, 0⟩, #[]⟩)]
noncomputable def myAs : List Addr := [2, 3, 35, 36, 39, 40, 41, 42, 43, 54, 55, 66, 72, 73, 79, 80, 86, 87, 91, 92, 98, 99, 105, 106, 119, 120, 126, 127, 136, 137, 145, 146, 152, 153, 157, 158, 164, 165, 169, 170, 174, 175]
theorem myAs_eq (Q : Params) : myAs = (myK Q).map (·.1) := rfl
end Mine
namespace Mine
noncomputable def myHook : Hook := kHook myK myAs (fun _ => myAs_eq _)
noncomputable def myView : Program := view PySem.Challenge.pw_sc0013_01 [0, 2, 3, 4, 5, 6, 8, 9, 10, 11, 12, 13, 14]
noncomputable def myLoose : List Str := [Str.ofString "_NodeInfo"]
theorem said : PySem.Challenge.rw_sc0013_01.wellSaid = true := by
  first
    | (rw [PySem.W.Fast.te9446332074065402090]; kernel_rfl)
    | decide +kernel
theorem left : LeftO PySem.Challenge.rw_sc0013_01.row.prog myView myLoose (fun s => xlAt myView [] s && recOk (RowW.records PySem.Challenge.rw_sc0013_01.row.toRowW) s) myHook.obs myHook.val 2624 := by
  intro w
  first
    | (unfold openEnds fencedOpening topFrom; rw [PySem.W.Fast.te10274390034422433532, PySem.W.Fast.te14082659384304107361, PySem.W.Fast.te14364793385576792824, PySem.W.Fast.te4187177175401517315]; kernel_rfl)
    | kernel_rfl
end Mine
end
section
open PySem.Calls PySem.Spec PySem.SeqAt
set_option maxRecDepth 100000
set_option maxHeartbeats 8000000
namespace Mine
noncomputable def fdAt (K : Frag) (f : Addr) : FuncData := match K.lookup f with | some ⟨_, _, .func fd, _⟩ => fd | _ => default
structure FnSays (K : Frag) (f : Addr) (ps : Arguments) (body : List Stmt) (sc : Scope) (dV : Value) : Prop where
  data : (K.lookup f).map (·.data) = some (.func (fnOf (fdAt K f).name (fdAt K f).qualname ps body sc dV .none (fdAt K f).doc (fdAt K f).pyModule none (fdAt K f).code (fdAt K f).closureTuple))
  code : codeIn K (fdAt K f).code (fdAt K f).qualname = true
theorem FnSays.fn {K : Frag} {h : Heap} {f : Addr} {ps : Arguments} {body : List Stmt} {sc : Scope} {dV : Value} (x : FnSays K f ps body sc dV) (X : K.In h) : Fn h f ps body sc dV := by
  obtain ⟨o, ho, hd⟩ := Option.map_eq_some_iff.mp x.data
  exact ⟨o, _, _, _, _, _, _, X _ _ ho, hd, codeRec_of X x.code⟩
theorem s36 (Q : Params) : FnSays (myK Q) 36 (mPars 4 1) (mBody 4 1) (mScope 4 1) .none := ⟨by kernel_rfl, by kernel_rfl⟩
theorem s73 (Q : Params) : FnSays (myK Q) 73 (mPars 6 0) (mBody 6 0) (mScope 6 0) (.ref 66) := ⟨by kernel_rfl, by kernel_rfl⟩
theorem s80 (Q : Params) : FnSays (myK Q) 80 (mPars 6 1) (mBody 6 1) (mScope 6 1) .none := ⟨by kernel_rfl, by kernel_rfl⟩
theorem s87 (Q : Params) : FnSays (myK Q) 87 (mPars 6 2) (mBody 6 2) (mScope 6 2) .none := ⟨by kernel_rfl, by kernel_rfl⟩
theorem s92 (Q : Params) : FnSays (myK Q) 92 (mPars 6 3) (mBody 6 3) (mScope 6 3) .none := ⟨by kernel_rfl, by kernel_rfl⟩
theorem s99 (Q : Params) : FnSays (myK Q) 99 (mPars 6 4) (mBody 6 4) (mScope 6 4) .none := ⟨by kernel_rfl, by kernel_rfl⟩
theorem s106 (Q : Params) : FnSays (myK Q) 106 (mPars 6 5) (mBody 6 5) (mScope 6 5) .none := ⟨by kernel_rfl, by kernel_rfl⟩
theorem s120 (Q : Params) : FnSays (myK Q) 120 (mPars 6 7) (mBody 6 7) (mScope 6 7) .none := ⟨by kernel_rfl, by kernel_rfl⟩
theorem s127 (Q : Params) : FnSays (myK Q) 127 (mPars 6 8) (mBody 6 8) (mScope 6 8) .none := ⟨by kernel_rfl, by kernel_rfl⟩
theorem kts (Q : Params) : ClsK (myK Q) 137 := ⟨by kernel_rfl, by kernel_rfl, by kernel_rfl, by kernel_rfl, by kernel_rfl⟩
theorem kni (Q : Params) : ClsK (myK Q) 40 := ⟨by kernel_rfl, by kernel_rfl, by kernel_rfl, by kernel_rfl, by kernel_rfl⟩
theorem kslot1 (Q : Params) : SlotK (myK Q) 40 "node" 41 0 := ⟨by kernel_rfl, by kernel_rfl, by kernel_rfl, by kernel_rfl, by kernel_rfl, by kernel_rfl, by decide⟩
theorem kslot2 (Q : Params) : SlotK (myK Q) 40 "npredecessors" 42 1 := ⟨by kernel_rfl, by kernel_rfl, by kernel_rfl, by kernel_rfl, by kernel_rfl, by kernel_rfl, by decide⟩
theorem kslot3 (Q : Params) : SlotK (myK Q) 40 "successors" 43 2 := ⟨by kernel_rfl, by kernel_rfl, by kernel_rfl, by kernel_rfl, by kernel_rfl, by kernel_rfl, by decide⟩
theorem kno (Q : Params) : ∀ n ∈ (["_node2info", "_ready_nodes", "_npassedout", "_nfinished"] : List Str), findIn (myK Q) (.ref 137) n = some none ∧ takerIn (myK Q) 137 n = some none := by
  intro n hn
  simp only [List.mem_cons, List.not_mem_nil, or_false] at hn
  rcases hn with rfl | rfl | rfl | rfl <;> exact ⟨by kernel_rfl, by kernel_rfl⟩
theorem kmeth (Q : Params) : ∀ p ∈ ([("__init__", 73), ("_get_nodeinfo", 80), ("add", 87), ("prepare", 92), ("get_ready", 99), ("is_active", 106), ("done", 120), ("_find_cycle", 127)] : List (Str × Nat)),
    findIn (myK Q) (.ref 137) p.1 = some (some (.ref p.2)) ∧ typeIn (myK Q) (.ref p.2) = some (.type "function") ∧ keepIn (myK Q) (.ref p.2) = true := by
  intro p hp
  simp only [List.mem_cons, List.not_mem_nil, or_false] at hp
  rcases hp with rfl | rfl | rfl | rfl | rfl | rfl | rfl | rfl <;> exact ⟨by kernel_rfl, by kernel_rfl, by kernel_rfl⟩
theorem k36 (Q : Params) : findIn (myK Q) (.ref 40) "__init__" = some (some (.ref 36)) ∧ typeIn (myK Q) (.ref 36) = some (.type "function") := ⟨by kernel_rfl, by kernel_rfl⟩
theorem kkeep (Q : Params) : keepIn (myK Q) (.ref 40) = true ∧ keepIn (myK Q) (.ref 137) = true := ⟨by kernel_rfl, by kernel_rfl⟩
theorem ksa (Q : Params) : SA (myK Q) := ⟨by kernel_rfl, by kernel_rfl, by kernel_rfl⟩
theorem kdflt (Q : Params) : ((myK Q).lookup 66).map (·.data) = some (.seq #[.none] 0) := by kernel_rfl
theorem ktsd (Q : Params) : hasDictIn (myK Q) 137 = true := by kernel_rfl
theorem knic (Q : Params) : (clsIn (myK Q) 40).isSome = true := by with_unfolding_all kernel_rfl
theorem kexc (Q : Params) : excIn (myK Q) 55 [.type "ValueError", .type "Exception", .type "BaseException", .type "object"] "ValueError.__new__" = true := by kernel_rfl
section
variable {K : Frag} {h : Heap} {p : Program} {loose : List Str} {mg mb : Str → Option Value}
theorem gl_own (X : K.In h) (T : TopRead p loose mg mb h) {x : Str} {v : Value} (e : nsIn K mainGlobals x = some (some v)) : Gl h x v := ⟨mg, T.g, .inl (mg_of X T.g e)⟩
theorem gl_built (X : K.In h) (T : TopRead p loose mg mb h) {x : Str} {v : Value} (e : nsIn K mainGlobals x = some none) (hv : bootBuiltins x = some v) (hn : x ≠ "__name__") : Gl h x v := ⟨mg, T.g, .inr ⟨mg_none_of X T.g e, mb, T.b, (T.builtins x hn).trans hv⟩⟩
end
noncomputable def fcAt (K : Frag) (f : Addr) : Addr := match (fdAt K f).code with | .ref c => c | _ => 0
structure DefSays (K : Frag) (f : Addr) (i : Nat) : Prop where
  name : nsIn K mainGlobals (nameAt i) = some (some (.ref f))
  data : (K.lookup f).map (·.data) = some (.func (docDef (nameAt i) (parsAt i) (bodyAt i) (scopeAt i) (fdAt K f).pyModule (.ref (fcAt K f)) (fdAt K f).doc))
  code : codeIn K (.ref (fcAt K f)) (nameAt i) = true
theorem DefSays.at {K : Frag} {h : Heap} {f : Addr} {i : Nat} (x : DefSays K f i) (X : K.In h) : DefAt h f (nameAt i) (parsAt i) (bodyAt i) (scopeAt i) := by
  obtain ⟨o, ho, hd⟩ := Option.map_eq_some_iff.mp x.data
  exact ⟨o, _, _, _, X _ _ ho, hd, codeRec_of X x.code⟩
theorem DefSays.has {K : Frag} {h : Heap} {p : Program} {loose : List Str} {mg mb : Str → Option Value} {f : Addr} {i : Nat} (x : DefSays K f i) (X : K.In h) (T : TopRead p loose mg mb h) : HasDef h i := ⟨f, gl_own X T x.name, x.at X⟩
theorem d8 (Q : Params) : DefSays (myK Q) 146 8 := ⟨by kernel_rfl, by kernel_rfl, by kernel_rfl⟩
theorem d9 (Q : Params) : DefSays (myK Q) 153 9 := ⟨by kernel_rfl, by kernel_rfl, by kernel_rfl⟩
theorem d10 (Q : Params) : DefSays (myK Q) 158 10 := ⟨by kernel_rfl, by kernel_rfl, by kernel_rfl⟩
theorem d11 (Q : Params) : DefSays (myK Q) 165 11 := ⟨by kernel_rfl, by kernel_rfl, by kernel_rfl⟩
theorem d12 (Q : Params) : DefSays (myK Q) 170 12 := ⟨by kernel_rfl, by kernel_rfl, by kernel_rfl⟩
theorem d13 (Q : Params) : DefSays (myK Q) 175 13 := ⟨by kernel_rfl, by kernel_rfl, by kernel_rfl⟩
section
variable {h : Heap} {p : Program} {loose : List Str} {mg mb : Str → Option Value} {Q : Params}
theorem base_of (X : (myK Q).In h) (T : TopRead p loose mg mb h) : Base h :=
  ⟨T.nolimit, gl_built X T (by kernel_rfl) (by kernel_rfl) (by decide), gl_built X T (by kernel_rfl) (by kernel_rfl) (by decide), gl_built X T (by kernel_rfl) (by kernel_rfl) (by decide), gl_built X T (by kernel_rfl) (by kernel_rfl) (by decide), gl_built X T (by kernel_rfl) (by kernel_rfl) (by decide), gl_built X T (by kernel_rfl) (by kernel_rfl) (by decide), gl_built X T (by kernel_rfl) (by kernel_rfl) (by decide), gl_built X T (by kernel_rfl) (by kernel_rfl) (by decide), gl_built X T (by kernel_rfl) (by kernel_rfl) (by decide), gl_built X T (by kernel_rfl) (by kernel_rfl) (by decide)⟩
theorem funs_of (X : (myK Q).In h) (T : TopRead p loose mg mb h) : Funs h := ⟨(d8 Q).has X T, (d10 Q).has X T, (d11 Q).has X T, (d12 Q).has X T, (d13 Q).has X T⟩
noncomputable def tokAt (Q : Params) (x : Str) : Tok := match nsIn (myK Q) mainGlobals x with | some (some (.int _ t)) => t | _ => default
theorem kout (Q : Params) : nsIn (myK Q) mainGlobals "_NODE_OUT" = some (some (.int (-1) (tokAt Q "_NODE_OUT"))) := by kernel_rfl
theorem kdone (Q : Params) : nsIn (myK Q) mainGlobals "_NODE_DONE" = some (some (.int (-2) (tokAt Q "_NODE_DONE"))) := by kernel_rfl
theorem sg_of (X : (myK Q).In h) (T : TopRead p loose mg mb h) : SG h :=
  ⟨⟨_, gl_own X T (kout Q)⟩, ⟨_, gl_own X T (kdone Q)⟩, gl_built X T (by kernel_rfl) (by kernel_rfl) (by decide), gl_built X T (by kernel_rfl) (by kernel_rfl) (by decide), gl_built X T (by kernel_rfl) (by kernel_rfl) (by decide), gl_built X T (by kernel_rfl) (by kernel_rfl) (by decide)⟩
theorem sx_of (X : (myK Q).In h) (T : TopRead p loose mg mb h) : SX h :=
  ⟨gl_built X T (by kernel_rfl) (by kernel_rfl) (by decide), gl_own X T (by kernel_rfl), gl_built X T (by kernel_rfl) (by kernel_rfl) (by decide), ⟨mg, own_of_in X T (by kernel_rfl) (kexc Q)⟩⟩
theorem sk_of (X : (myK Q).In h) (T : TopRead p loose mg mb h) (ns : h.NoSeer) : SK (myK Q) h where
  inn := X
  lim := T.nolimit
  sysm := let ⟨mm, ⟨o, _, _, e, _⟩, _⟩ := ns.mods; ⟨o, e⟩
  ts := kts Q
  tsd := ktsd Q
  ni := kni Q
  nic := knic Q
  no := kno Q
  sNode := kslot1 Q
  sPred := kslot2 Q
  sSuc := kslot3 Q
  meth := kmeth Q
  niInit := k36 Q
  keeps := kkeep Q
  f36 := (s36 Q).fn X
  f73 := (s73 Q).fn X
  f80 := (s80 Q).fn X
  f87 := (s87 Q).fn X
  f92 := (s92 Q).fn X
  f99 := (s99 Q).fn X
  f106 := (s106 Q).fn X
  f120 := (s120 Q).fn X
  f127 := (s127 Q).fn X
  dflt := by
    obtain ⟨o, ho, hd'⟩ := Option.map_eq_some_iff.mp (kdflt Q)
    exact ⟨o, 0, X _ _ ho, hd'⟩
  gNI := gl_own X T (by kernel_rfl)
  gTS := gl_own X T (by kernel_rfl)
end
end Mine
end
section
set_option maxRecDepth 100000
set_option maxHeartbeats 8000000
open PySem.Calls PySem.Spec PySem.SeqAt
namespace Mine
theorem head_law {w : World} {s : Shared} {p : Program} {loose : List Str} {mg mb : Str → Option Value} {fa c' l : Addr} {o : Obj} {pm doc : Value} {ns : List Int} {vs : List Value} {R : Result → Shared → Prop}
    (X : (myK w.params).In s.heap) (T : TopRead p loose mg mb s.heap) (seer : s.heap.NoSeer) (ho : s.heap.get? fa = some o) (hd' : o.data = .func (docDef (nameAt 14) (parsAt 14) (bodyAt 14) (scopeAt 14) pm (.ref c') doc)) (hcd : s.heap.CodeRec (.ref c') (nameAt 14))
    (hL : s.heap.IsList l vs.toArray) (w1 : Well w.params s.heap (.ref l) (ofPy (.list (ns.map .int)))) (hI : IntsAre vs ns) (hn : ¬ (63 : Int) < (ns.length : Int))
    (h : ∀ h1 t1, (∀ b o, s.heap.get? b = some o → h1.get? b = some o) → R (.ok (.ret (.bool true))) { s with heap := h1, toks := t1 }) :
    codeAny (model P w) callerA (.call (.ref fa) ⟨[.ref l], []⟩) R s := by
  have B := sk_of X T seer
  have B0 := base_of X T
  have G := sg_of X T
  have GX := sx_of X T
  obtain ⟨run, hrun, good, hhas, hnl⟩ := plain_law ns
  obtain ⟨t1, t2⟩ := told_side ns
  have hsz := sizeF_or ns
  have pl : ∃ us, s.heap.PlainList l us ∧ us = vs.toArray := by
    cases w1 with
    | list e _ =>
      obtain ⟨o', e1, _, n, e2⟩ := hL
      rw [e] at e1; cases e1
      cases e2
      exact ⟨_, ⟨0, e⟩, rfl⟩
  obtain ⟨us, pl, hus⟩ := pl
  subst hus
  have rd : Rd [] s.heap (.ref l) (.list (ns.map .int)) := rd_list pl (by simp) (of_intsAre (by simpa using hI))
  refine law_top (w := w) B0 (funs_of X T) ⟨o, c', pm, doc, ho, hd', hcd⟩ ns (by omega) run (fr := 153) (gl_own X T (d9 w.params).name) (DefAt.callee ((d9 w.params).at X)) (fun wish hw => ?_) good ⟨rfl, rfl, by decide, by decide⟩ rfl (fun a ha => by cases ha) rd fun h1 t1 kp => h h1 t1 fun b o e => ?_
  · obtain ⟨hl, hx⟩ := wish_side (sizeF ns) hsz wish hw
    have hs4 : (sizeF ns : Int) ≤ 4 := by rcases hsz with e | e <;> rw [e] <;> decide
    refine c_run B (ksa w.params) B0 G GX ((d9 w.params).at X) t1 t2 hnl (fun x hx' => ?_) hl (fun x hx' => ?_) (hrun wish hw)
    · have := hx x hx'; omega
    · obtain ⟨h0, h1⟩ := hx x hx'
      have := hhas x.toNat (by omega)
      rwa [Int.toNat_of_nonneg h0] at this
  · rcases kp b o e with e1 | ⟨h1, _⟩
    · exact e1
    · exact absurd (Heap.lt_size e) (Nat.not_lt.mpr h1)
end Mine
end
theorem PySem.Challenge.cw_sc0013_01_holds : PySem.Challenge.rw_sc0013_01.Holds := by
  refine holds_law Mine.said fun said => ?_
  refine PySem.W.holds_open (q := Mine.myView) (loose := Mine.myLoose) (Xt := fun s => xlAt Mine.myView [] s && recOk (RowW.records PySem.Challenge.rw_sc0013_01.row.toRowW) s) (XP := XL Mine.myView []) (Yf := Mine.myHook.obs) (Ya := Mine.myHook.val) (YP := Mine.myHook.says) (N := 2624) Mine.left (Hook.of Mine.myHook) (Hook.keeps Mine.myHook) (fun s e => xl_of s (Bool.and_eq_true_iff.mp e).1) XL.keeps (by rfl) (by rfl) (by rfl) (fun s e => recFacts_of (Bool.and_eq_true_iff.mp e).2) (by rfl) said (by decide +kernel) ⟨rfl, rfl, rfl, rfl, rfl, by decide +kernel⟩ ?hw ?hc
  case hw => w_witness2
  intro w s₀ s₁ mg mb G Y fa o pm cd doc dV kV ho hd hcd hD hmg hg args vals as hpre hlay hrd hwl hlo
  have KX := kIn_of Y
  have X := (Ground.X G).1
  have V := (Ground.X G).2
  have GL := glob_more (Ground.glob G (by decide +kernel) (by decide +kernel)) V
  refine Ground.open G ?_
  intro T B D TE TW
  obtain ⟨_, _, M⟩ := bmod_of_top T
  have TA := at_of_top T
  obtain ⟨c', _, he, B0⟩ := based_of_top T rfl hmg ho hd
  have he' : cd = _ := he
  subst he'
  clear he hmg
  wrow_args hpre hlay hrd hwl hlo
  rename_i ns hs hlay0 hL1 hr1 hl2 w4 w3 l vs w0 hL ra w1 r0 hI hr hc1 hc2
  have hdv : dV = .none := hD.pos.elim (fun h => h.2) (fun h => absurd rfl h.1)
  have hkv : kV = .none := hD.kw.elim (fun h => h.2) (fun h => absurd rfl h.1)
  subst hdv hkv
  refine wpAny_call (Mine.head_law (w := w) (ns := ns) (vs := vs) (c' := c') (pm := pm) (doc := doc) KX (topRead_of T) GL.seer ho (hd.trans (congrArg Data.func (by kernel_rfl))) hcd hL w1 hI hc1 fun h1 t1 hk => ?_)
  exact GoodW.toG ⟨.inl ⟨_, .bool true, [], rfl, fun _ => rfl, .bool true, by kernel_rfl, fun _ => ⟨.nil, fun a ha => by cases ha⟩⟩, hk, rfl, hg⟩


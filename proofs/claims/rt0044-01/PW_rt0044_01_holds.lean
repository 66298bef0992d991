import PyProof.Rows.All
import Wide.All
import OpenK.AllK
import Wide.FinOn
import PySem.Challenge.RW_rt0044_01
open PySem PySem.W PyProof.Rows
set_option Elab.async false
set_option tactic.hygienic false
set_option linter.all false

section
namespace Mine

inductive D where
  | none
  | bool (b : Bool)
  | int (i : Int)
  | str (s : Str)
  | bytes (b : Array UInt8)
  | list (xs : List D)
  | tuple (xs : List D)
  | dictS (ks : List Str)
  | dictI (ks : List Int)
  | typ (n : String)
  | rng (a b c : Int)
  | setI (xs : List Int)

variable {prog : Program} {w : World}

/-- the entries of a set of small ints -/
inductive SetRows : List (Int × Value) → List Int → Prop
  | nil : SetRows [] []
  | cons {x t r xs} : SetRows r xs → SetRows ((x, .int x t) :: r) (x :: xs)
/-- a set of small ints, from the lowest up -/
noncomputable def SetOk (w : World) (o : Obj) (xs : List Int) : Prop :=
  o.cls = .type "set" ∧ o.dict = none ∧ o.slots = #[] ∧ xs.Pairwise (· < ·) ∧ (∀ x ∈ xs, 0 ≤ x ∧ x < 8) ∧
    ∃ es ep t, o.data = .set es ep t ∧ SetRows es.toList xs ∧ t.place.toList = xs.map Int.toNat ∧ t.mask = 7 ∧ t.dummies = #[] ∧ t.plain = true ∧ (t.led = true ∨ w.params.followText "set-order" = true) ∧ xs.length < 5

mutual
inductive Rep (prog : Program) (w : World) (hot : Addr → Prop) (h : Heap) : Value → D → Prop
  | none : Rep prog w hot h .none .none
  | bool (b) : Rep prog w hot h (.bool b) (.bool b)
  | int (i t) : Rep prog w hot h (.int i t) (.int i)
  | str (x t) : Rep prog w hot h (.str x t) (.str x)
  | bytes (b t) : Rep prog w hot h (.bytes b t) (.bytes b)
  | typ (n) : Rep prog w hot h (.type n) (.typ n)
  | list {a vs n ds} : ¬ hot a → h.get? a = some { cls := .type "list", data := .seq vs n } → Reps prog w hot h vs.toList ds → Rep prog w hot h (.ref a) (.list ds)
  | tuple {a o vs n ds} : ¬ hot a → h.get? a = some o → o.cls = .type "tuple" → o.data = .seq vs n → Reps prog w hot h vs.toList ds → Rep prog w hot h (.ref a) (.tuple ds)
  | dictS {a ks} : ¬ hot a → h.DictOf (strKind prog w) a (ks.map fun k => (k, Value.none)) → Rep prog w hot h (.ref a) (.dictS ks)
  | dictI {a ks} : ¬ hot a → h.DictOf (intKind prog w) a (ks.map fun k => (k, Value.none)) → Rep prog w hot h (.ref a) (.dictI ks)
  | rng {r a b c t u v} : ¬ hot r → IsRange h r a b c t u v → Rep prog w hot h (.ref r) (.rng a b c)
  | setI {a o xs} : ¬ hot a → h.get? a = some o → SetOk w o xs → Rep prog w hot h (.ref a) (.setI xs)
inductive Reps (prog : Program) (w : World) (hot : Addr → Prop) (h : Heap) : List Value → List D → Prop
  | nil : Reps prog w hot h [] []
  | cons {v vs d ds} : Rep prog w hot h v d → Reps prog w hot h vs ds → Reps prog w hot h (v :: vs) (d :: ds)
end

section
variable {hot : Addr → Prop} {h : Heap} {v : Value}
theorem Rep.isNone (r : Rep prog w hot h v .none) : v = .none := by cases r; rfl
theorem Rep.isBool {b : Bool} (r : Rep prog w hot h v (.bool b)) : v = .bool b := by cases r; rfl
theorem Rep.isInt {i : Int} (r : Rep prog w hot h v (.int i)) : ∃ t, v = .int i t := by cases r; exact ⟨_, rfl⟩
theorem Rep.isStr {x : Str} (r : Rep prog w hot h v (.str x)) : ∃ t, v = .str x t := by cases r; exact ⟨_, rfl⟩
theorem Rep.isBytes {x : Array UInt8} (r : Rep prog w hot h v (.bytes x)) : ∃ t, v = .bytes x t := by cases r; exact ⟨_, rfl⟩
theorem Rep.isTyp {n : String} (r : Rep prog w hot h v (.typ n)) : v = .type n := by cases r; rfl
end

/-- what is seen under hot in h is seen under hot' in h' -/
noncomputable def Sees (hot hot' : Addr → Prop) (h h' : Heap) : Prop := ∀ a o, ¬ hot a → h.get? a = some o → ¬ hot' a ∧ h'.get? a = some o

theorem dictOf_at {K : Type} [DecidableEq K] {knd : KeyKind prog w K} {h h' : Heap} {a : Addr} {kvs : List (K × Value)} (x : h.DictOf knd a kvs) (hk : ∀ o, h.get? a = some o → h'.get? a = some o) : h'.DictOf knd a kvs :=
  let ⟨o, es, ep, ho, r⟩ := x; ⟨o, es, ep, hk _ ho, r⟩
theorem dictOf_get {K : Type} [DecidableEq K] {knd : KeyKind prog w K} {h : Heap} {a : Addr} {kvs : List (K × Value)} (x : h.DictOf knd a kvs) : ∃ o, h.get? a = some o :=
  let ⟨o, _, _, ho, _⟩ := x; ⟨o, ho⟩

mutual
theorem Rep.mono {hot hot' : Addr → Prop} {h h' : Heap} (S : Sees hot hot' h h') : ∀ {v : Value} {d : D}, Rep prog w hot h v d → Rep prog w hot' h' v d
  | _, _, .none => .none
  | _, _, .bool b => .bool b
  | _, _, .int i t => .int i t
  | _, _, .str x t => .str x t
  | _, _, .bytes x t => .bytes x t
  | _, _, .typ x => .typ x
  | _, _, .list a b e => .list (S _ _ a b).1 (S _ _ a b).2 (e.mono S)
  | _, _, .tuple a b c d e => .tuple (S _ _ a b).1 (S _ _ a b).2 c d (e.mono S)
  | _, _, .dictS a b => by
    obtain ⟨o, ho⟩ := dictOf_get b
    exact .dictS (S _ _ a ho).1 (dictOf_at b fun o e => (S _ _ a e).2)
  | _, _, .dictI a b => by
    obtain ⟨o, ho⟩ := dictOf_get b
    exact .dictI (S _ _ a ho).1 (dictOf_at b fun o e => (S _ _ a e).2)
  | _, _, .rng a b => .rng (S _ _ a b).1 (S _ _ a b).2
  | _, _, .setI a b c => .setI (S _ _ a b).1 (S _ _ a b).2 c
theorem Reps.mono {hot hot' : Addr → Prop} {h h' : Heap} (S : Sees hot hot' h h') : ∀ {vs : List Value} {ds : List D}, Reps prog w hot h vs ds → Reps prog w hot' h' vs ds
  | _, _, .nil => .nil
  | _, _, .cons a b => .cons (a.mono S) (b.mono S)
end

section
variable {hot hot' : Addr → Prop} {h h' : Heap} {vs us : List Value} {ds es : List D}

theorem Reps.length (x : Reps prog w hot h vs ds) : vs.length = ds.length := by
  induction vs generalizing ds with
  | nil => cases x; rfl
  | cons v vs ih => cases x with | cons a b => simp [ih b]
theorem Reps.append (x : Reps prog w hot h vs ds) (y : Reps prog w hot h us es) : Reps prog w hot h (vs ++ us) (ds ++ es) := by
  induction vs generalizing ds with
  | nil => cases x; exact y
  | cons v vs ih => cases x with | cons a b => exact .cons a (ih b)
theorem Reps.one {v : Value} {d : D} (x : Rep prog w hot h v d) : Reps prog w hot h [v] [d] := .cons x .nil
theorem Reps.get (x : Reps prog w hot h vs ds) {k : Nat} {d : D} (hk : ds[k]? = some d) : ∃ v, vs[k]? = some v ∧ Rep prog w hot h v d := by
  induction vs generalizing ds k with
  | nil => cases x; simp at hk
  | cons v vs ih =>
    cases x with
    | cons a b =>
      cases k with
      | zero => simp at hk; subst hk; exact ⟨v, by simp, a⟩
      | succ k => simp at hk; simpa using ih b hk
theorem Reps.get' (x : Reps prog w hot h vs ds) {k : Nat} {v : Value} (hk : vs[k]? = some v) : ∃ d, ds[k]? = some d ∧ Rep prog w hot h v d := by
  induction vs generalizing ds k with
  | nil => simp at hk
  | cons u vs ih =>
    cases x with
    | cons a b =>
      cases k with
      | zero => simp at hk; subst hk; exact ⟨_, by simp, a⟩
      | succ k => simp at hk; simpa using ih b hk
theorem Reps.take (x : Reps prog w hot h vs ds) (n : Nat) : Reps prog w hot h (vs.take n) (ds.take n) := by
  induction vs generalizing ds n with
  | nil => cases x; simp; exact .nil
  | cons v vs ih => cases x with | cons a b => cases n with
    | zero => exact .nil
    | succ n => exact .cons a (ih b n)
theorem Reps.drop (x : Reps prog w hot h vs ds) (n : Nat) : Reps prog w hot h (vs.drop n) (ds.drop n) := by
  induction vs generalizing ds n with
  | nil => cases x; simp; exact .nil
  | cons v vs ih => cases x with | cons a b => cases n with
    | zero => exact .cons a b
    | succ n => exact ih b n
theorem Reps.reverse (x : Reps prog w hot h vs ds) : Reps prog w hot h vs.reverse ds.reverse := by
  induction vs generalizing ds with
  | nil => cases x; exact .nil
  | cons v vs ih => cases x with | cons a b => simp only [List.reverse_cons]; exact (ih b).append (.one a)
theorem Reps.set (x : Reps prog w hot h vs ds) {v : Value} {d : D} (y : Rep prog w hot h v d) (n : Nat) : Reps prog w hot h (vs.set n v) (ds.set n d) := by
  induction vs generalizing ds n with
  | nil => cases x; exact .nil
  | cons u vs ih => cases x with | cons a b => cases n with
    | zero => exact .cons y b
    | succ n => exact .cons a (ih b n)
theorem Reps.eraseIdx (x : Reps prog w hot h vs ds) (n : Nat) : Reps prog w hot h (vs.eraseIdx n) (ds.eraseIdx n) := by
  induction vs generalizing ds n with
  | nil => cases x; exact .nil
  | cons u vs ih => cases x with | cons a b => cases n with
    | zero => exact b
    | succ n => exact .cons a (ih b n)
theorem Reps.dropLast (x : Reps prog w hot h vs ds) : Reps prog w hot h vs.dropLast ds.dropLast := by
  rw [List.dropLast_eq_take, List.dropLast_eq_take, x.length]; exact x.take _
end

/-- everything of h stands in h' -/
noncomputable def Ext (h h' : Heap) : Prop := ∀ b o, h.get? b = some o → h'.get? b = some o
theorem Ext.refl (h : Heap) : Ext h h := fun z0 z0 e => e
theorem Ext.trans {h h' h'' : Heap} (a : Ext h h') (b : Ext h' h'') : Ext h h'' := fun x o e => b x o (a x o e)
theorem Ext.sees {hot : Addr → Prop} {h h' : Heap} (x : Ext h h') : Sees hot hot h h' := fun a o n e => ⟨n, x a o e⟩
theorem Ext.size {h h' : Heap} (x : Ext h h') {a : Addr} {o : Obj} (e : h.get? a = some o) : a < h'.objs.size := Heap.lt_size (x _ _ e)

theorem keeps_refl (s : Shared) : Keeps s s := ⟨_, _, rfl, fun z0 z0 e => e⟩
theorem Keeps.ext {s s' : Shared} (x : Keeps s s') : Ext s.heap s'.heap := by obtain ⟨h', tk, rfl, k⟩ := x; exact k
theorem keeps_trans {s s' s'' : Shared} (x : Keeps s s') (y : Keeps s' s'') : Keeps s s'' := by
  obtain ⟨h', tk, rfl, k⟩ := x
  obtain ⟨h'', tk', rfl, k'⟩ := y
  exact ⟨_, _, rfl, fun b o e => k' b o (k b o e)⟩
theorem keeps_tok {s : Shared} (t : Nat) : Keeps s { s with toks := t } := ⟨_, _, rfl, fun z0 z0 e => e⟩
theorem keeps_heap {s : Shared} {h' : Heap} (x : Ext s.heap h') : Keeps s { s with heap := h' } := ⟨_, _, rfl, x⟩
theorem keeps_both {s : Shared} {h' : Heap} {t : Nat} (x : Ext s.heap h') : Keeps s { s with heap := h', toks := t } := ⟨_, _, rfl, x⟩
theorem ext_push (h : Heap) (o : Obj) : Ext h (h.push o) := fun z0 z0 e => Heap.get?_push_of_some _ e

/-- the room: nothing handled, depth and units -/
structure Aok (n : Nat) (A : Around) : Prop where
  handled : A.handled = none
  depth : A.depth + n < 1000
  units : A.units + 100 * n < 9000
theorem Aok.units1 {n : Nat} {A : Around} (x : Aok n A) : A.units < cLine := by have := x.units; unfold cLine; lia
theorem Aok.units64 {n : Nat} {A : Around} (x : Aok n A) : A.units + 64 < cLine := by have := x.units; unfold cLine; lia
theorem Aok.room {n : Nat} {A : Around} (x : Aok (n + 1) A) : A.depth < recursionLimit := by have := x.depth; unfold recursionLimit; lia
theorem Aok.deeper {n : Nat} {A : Around} (x : Aok (n + 1) A) (env : Env) : Aok n (A.deeper env) :=
  ⟨x.handled, by have := x.depth; show A.depth + 1 + n < 1000; lia, by have := x.units; show A.units + 3 + 100 * n < 9000; lia⟩
theorem Aok.le {n m : Nat} {A : Around} (x : Aok n A) (h : m ≤ n) : Aok m A := ⟨x.handled, by have := x.depth; lia, by have := x.units; lia⟩

end Mine

end

section
namespace Mine

/-- both are ints -/
noncomputable def intsD (f : Int → Int → Option D) (a b : D) : Option D :=
  match a with
  | .int x => (match b with
    | .int y => f x y
    | _ => none)
  | _ => none
noncomputable def addD (a b : D) : Option D :=
  match a with
  | .int x => (match b with
    | .int y => some (.int (x + y))
    | _ => none)
  | .str x => (match b with
    | .str y => if x.length + y.length ≤ 100000 then some (.str (x ++ y)) else none
    | _ => none)
  | .list xs => (match b with
    | .list ys => if xs.length + ys.length ≤ 100000 then some (.list (xs ++ ys)) else none
    | _ => none)
  | _ => none
noncomputable def mulD (a b : D) : Option D :=
  match a with
  | .int x => (match b with
    | .int y => if x.natAbs < 2 ^ 60 then some (.int (x * y)) else none
    | _ => none)
  | .str x => (match b with
    | .int n => if 0 ≤ n ∧ n ≤ 1000 ∧ x.length ≤ 1000 then some (.str (Txt.mul x n)) else none
    | _ => none)
  | _ => none
noncomputable def binD (op : Operator) (a b : D) : Option D :=
  match op with
  | .Add => addD a b
  | .Sub => intsD (fun a b => some (.int (a - b))) a b
  | .Mult => mulD a b
  | .Mod => intsD (fun a b => if b = 0 then none else some (.int (a.fmod b))) a b
  | .FloorDiv => intsD (fun a b => if b = 0 then none else if b.natAbs < 1000 then some (.int (a.fdiv b)) else none) a b
  | .LShift => intsD (fun a n => if 0 ≤ n ∧ n ≤ 1000 ∧ a.natAbs < 2 ^ 60 then some (.int (a * 2 ^ n.toNat)) else none) a b
  | .RShift => intsD (fun a n => if 0 ≤ n then some (.int (a.fdiv (2 ^ n.toNat))) else none) a b
  | .BitAnd => intsD (fun a b => some (.int (Builtin.bitAnd a b))) a b
  | .BitOr => intsD (fun a b => some (.int (Builtin.bitOr a b))) a b
  | _ => none
theorem none_ne {α : Type} {x : α} {C : Prop} (h : none = some x) : C := by cases h
theorem ite_of {α : Type} {c : Prop} [Decidable c] {x : α} {r : α} (h : (if c then some x else none) = some r) : c ∧ x = r := by
  by_cases hc : c
  · rw [if_pos hc] at h; cases h; exact ⟨hc, rfl⟩
  · rw [if_neg hc] at h; cases h
theorem ite_oo {α : Type} {c : Prop} [Decidable c] {x : Option α} {r : α} (h : (if c then x else none) = some r) : c ∧ x = some r := by
  by_cases hc : c
  · rw [if_pos hc] at h; exact ⟨hc, h⟩
  · rw [if_neg hc] at h; cases h
theorem ite_no {α : Type} {c : Prop} [Decidable c] {x : Option α} {r : α} (h : (if c then none else x) = some r) : ¬ c ∧ x = some r := by
  by_cases hc : c
  · rw [if_pos hc] at h; cases h
  · rw [if_neg hc] at h; exact ⟨hc, h⟩
theorem ints_inv {f : Int → Int → Option D} {a b r : D} (e : intsD f a b = some r) : ∃ x y, a = .int x ∧ b = .int y ∧ f x y = some r := by
  cases a with
  | int x => cases b with
    | int y => exact ⟨x, y, rfl, rfl, e⟩
    | _ => exact none_ne e
  | _ => exact none_ne e

/-- the hot ones stand -/
noncomputable def HotIn (hot : Addr → Prop) (h : Heap) : Prop := ∀ a, hot a → ∃ o, h.get? a = some o
theorem HotIn.ext {hot : Addr → Prop} {h h' : Heap} (x : HotIn hot h) (e : Ext h h') : HotIn hot h' := fun a ha => let ⟨o, q⟩ := x a ha; ⟨o, e _ _ q⟩
theorem HotIn.fresh {hot : Addr → Prop} {h : Heap} (x : HotIn hot h) {a : Addr} (ha : h.get? a = none) : ¬ hot a := fun hh => by obtain ⟨o, q⟩ := x a hh; rw [ha] at q; cases q
theorem HotIn.new {hot : Addr → Prop} {h : Heap} (x : HotIn hot h) {a : Addr} (ha : h.objs.size ≤ a) : ¬ hot a := fun hh => let ⟨_, q⟩ := x a hh; Nat.lt_irrefl _ (Nat.lt_of_lt_of_le (Heap.lt_size q) ha)

section
variable {prog : Program} {w : World} {A : Around} {E : Value → Shared → Prop} {s : Shared} {hot : Addr → Prop} {h : Heap}

theorem rep_list_new {vs : List Value} {ds : List D} {n : Nat} (H : HotIn hot h) (r : Reps prog w hot h vs ds) :
    Rep prog w hot (h.push { cls := .type "list", data := .seq vs.toArray n }) (.ref h.objs.size) (.list ds) :=
  .list (H.new (Nat.le_refl _)) (Heap.get?_push_size _ rfl) (by simpa using r.mono (ext_push h _).sees)
theorem rep_tuple_new {vs : List Value} {ds : List D} {n : Nat} (H : HotIn hot h) (r : Reps prog w hot h vs ds) :
    Rep prog w hot (h.push { cls := .type "tuple", data := .seq vs.toArray n }) (.ref h.objs.size) (.tuple ds) :=
  .tuple (H.new (Nat.le_refl _)) (Heap.get?_push_size _ rfl) rfl rfl (by simpa using r.mono (ext_push h _).sees)

theorem Rep.isPlain {a : Value} {xs : List D} (r : Rep prog w hot h a (.list xs)) : ∃ l vs n, a = .ref l ∧ ¬ hot l ∧ h.get? l = some { cls := .type "list", data := .seq vs n } ∧ Reps prog w hot h vs.toList xs := by
  cases r with
  | list a b e => exact ⟨_, _, _, rfl, a, b, e⟩
theorem Rep.isList {a : Value} {xs : List D} (r : Rep prog w hot h a (.list xs)) : ∃ l vs, a = .ref l ∧ ¬ hot l ∧ h.IsList l vs ∧ Reps prog w hot h vs.toList xs := by
  cases r with
  | list a b e => exact ⟨_, _, rfl, a, ⟨_, b, rfl, _, rfl⟩, e⟩
theorem Rep.isTuple {a : Value} {xs : List D} (r : Rep prog w hot h a (.tuple xs)) : ∃ l vs, a = .ref l ∧ ¬ hot l ∧ h.IsTuple l vs ∧ Reps prog w hot h vs.toList xs := by
  cases r with
  | tuple a b c d e => exact ⟨_, _, rfl, a, ⟨_, b, c, _, d⟩, e⟩
theorem add_lists' {l b : Addr} {vs ws : Array Value} {Q : Value → Shared → Prop} (hl : s.heap.IsList l vs) (hb : s.heap.IsList b ws)
    (hq : Q (.ref s.heap.objs.size) { s with heap := s.heap.push { cls := .type "list", data := .seq (vs ++ ws) } })
    (hsz : vs.size + ws.size ≤ sizeLine) : wpAny (model prog w) A (binaryOp .Add (.ref l) (.ref b)) Q E s := by
  obtain ⟨⟨cls, dd, data, sl⟩, ho, hc, n, hd⟩ := id hl
  obtain ⟨⟨cls2, dd2, data2, sl2⟩, ho2, hc2, n2, hd2⟩ := id hb
  simp only at hc hd hc2 hd2
  subst hc hd hc2 hd2
  exact concat_meets ⟨_, ho, rfl⟩ ⟨_, ho2, rfl⟩ noFill_list_add seq_list_add PySem.F.slot_list_add PySem.F.entry_list_add (PySem.F.args_list_add_2 _ _) (list_addW l b vs ws n n2 dd dd2 sl sl2 hsz) ⟨ho, ho2, hq⟩

theorem mul_ok {a b r : D} {va vb : Value} {Q : Value → Shared → Prop} (e : mulD a b = some r)
    (ra : Rep prog w hot s.heap va a) (rb : Rep prog w hot s.heap vb b) (hq : ∀ v s', Keeps s s' → Rep prog w hot s'.heap v r → Q v s') :
    wpAny (model prog w) A (binaryOp .Mult va vb) Q E s := by
  cases a with
  | int x => cases b with
    | int y =>
      obtain ⟨hs, rfl⟩ := ite_of e
      obtain ⟨t, rfl⟩ := ra.isInt
      obtain ⟨t', rfl⟩ := rb.isInt
      exact mul_int (hq _ _ (keeps_tok _) (.int _ _)) (IntMulOk.of_left (intBits_le_64 (by omega) (by omega)))
    | _ => exact none_ne e
  | str x => cases b with
    | int n =>
      obtain ⟨hs, rfl⟩ := ite_of e
      obtain ⟨t, rfl⟩ := ra.isStr
      obtain ⟨t', rfl⟩ := rb.isInt
      refine SB.mul ⟨?_, fun h1 z0 => ?_, fun h1 z0 => ?_⟩ (fun t' tk => hq _ _ (keeps_tok _) (.str _ _))
      · rw [decide_eq_false (by omega), decide_eq_false (by omega)]; rfl
      · have q := Int.le_ediv_of_mul_le (a := 1000) (b := 2 ^ 63 - 1) (c := n) (by omega) (show (1000 : Int) * n ≤ _ from Int.le_trans (Int.mul_le_mul_of_nonneg_left hs.2.1 (by omega)) (by decide))
        omega
      · have q : ∀ a b : Nat, a ≤ 1000 → b ≤ 1000 → a * b ≤ 1000000 := fun a b ha hb => Nat.le_trans (Nat.mul_le_mul ha hb) (by decide)
        have q1 := q _ n.toNat hs.2.2 (by have := hs.2.1; omega)
        unfold Builtin.Str.tooLong
        rw [sizeLine_eq]
        exact decide_eq_false (by omega)
    | _ => exact none_ne e
  | _ => exact none_ne e
theorem add_ok {a b r : D} {va vb : Value} {Q : Value → Shared → Prop} (e : addD a b = some r) (H : HotIn hot s.heap)
    (ra : Rep prog w hot s.heap va a) (rb : Rep prog w hot s.heap vb b) (hq : ∀ v s', Keeps s s' → Rep prog w hot s'.heap v r → Q v s') :
    wpAny (model prog w) A (binaryOp .Add va vb) Q E s := by
  cases a with
  | int x => cases b with
    | int y =>
      cases e
      obtain ⟨t, rfl⟩ := ra.isInt
      obtain ⟨t', rfl⟩ := rb.isInt
      exact add_int (hq _ _ (keeps_tok _) (.int _ _))
    | _ => exact none_ne e
  | str x => cases b with
    | str y =>
      obtain ⟨hs, rfl⟩ := ite_of e
      obtain ⟨t, rfl⟩ := ra.isStr
      obtain ⟨t', rfl⟩ := rb.isStr
      exact add_str (fun t' tk => hq _ _ (keeps_tok _) (.str _ _)) (by rw [sizeLine_eq]; omega)
    | _ => exact none_ne e
  | list xs => cases b with
    | list ys =>
      obtain ⟨hs, rfl⟩ := ite_of e
      obtain ⟨l, vs, rfl, nl, il, rl⟩ := ra.isList
      obtain ⟨l', vs', rfl, nl', il', rl'⟩ := rb.isList
      have e1 := rl.length
      have e2 := rl'.length
      simp only [Array.length_toList] at e1 e2
      refine add_lists' il il' (hq _ _ (keeps_heap (ext_push _ _)) ?_) (by rw [sizeLine_eq]; omega)
      have := rep_list_new (n := 0) H (rl.append rl')
      rwa [show (vs.toList ++ vs'.toList).toArray = vs ++ vs' by simp] at this
    | _ => exact none_ne e
  | _ => exact none_ne e
theorem bin_ok {op : Operator} {a b r : D} {va vb : Value} {Q : Value → Shared → Prop} (e : binD op a b = some r) (H : HotIn hot s.heap)
    (ra : Rep prog w hot s.heap va a) (rb : Rep prog w hot s.heap vb b) (hq : ∀ v s', Keeps s s' → Rep prog w hot s'.heap v r → Q v s') :
    wpAny (model prog w) A (binaryOp op va vb) Q E s := by
  have bothI : ∀ {f}, intsD f a b = some r → (∀ x y t t', va = .int x t → vb = .int y t' → f x y = some r → wpAny (model prog w) A (binaryOp op va vb) Q E s) → wpAny (model prog w) A (binaryOp op va vb) Q E s := fun h g => by
    obtain ⟨x, y, rfl, rfl, h⟩ := ints_inv h
    obtain ⟨t, rfl⟩ := ra.isInt
    obtain ⟨t', rfl⟩ := rb.isInt
    exact g x y t t' rfl rfl h
  cases op with
  | Sub => exact bothI e fun x y t t' h1 h2 h => by subst h1 h2; cases h; exact sub_int (hq _ _ (keeps_tok _) (.int _ _))
  | Mod =>
    exact bothI e fun x y t t' h1 h2 h => by
      subst h1 h2
      replace h := ite_no h
      obtain ⟨h0, h⟩ := h
      cases h
      exact mod_int h0 (hq _ _ (keeps_tok _) (.int _ _))
  | FloorDiv =>
    exact bothI e fun x y t t' h1 h2 h => by
      subst h1 h2
      replace h := ite_no h
      obtain ⟨h0, h⟩ := h
      obtain ⟨h1, rfl⟩ := ite_of h
      exact floordiv_int h0 (hq _ _ (keeps_tok _) (.int _ _)) (Or.inl (PyProof.noPylong_small (by omega)))
  | LShift =>
    exact bothI e fun x y t t' h1 h2 h => by
      subst h1 h2
      obtain ⟨hs, rfl⟩ := ite_of h
      exact lshift_int_small hs.1 (by omega) (by omega) (hq _ _ (keeps_tok _) (.int _ _))
  | RShift =>
    exact bothI e fun x y t t' h1 h2 h => by
      subst h1 h2
      obtain ⟨hs, rfl⟩ := ite_of h
      exact rshift_int hs (hq _ _ (keeps_tok _) (.int _ _))
  | BitAnd => exact bothI e fun x y t t' h1 h2 h => by subst h1 h2; cases h; exact and_int (hq _ _ (keeps_tok _) (.int _ _))
  | BitOr => exact bothI e fun x y t t' h1 h2 h => by subst h1 h2; cases h; exact or_int (hq _ _ (keeps_tok _) (.int _ _))
  | Mult => exact mul_ok e ra rb hq
  | Add => exact add_ok e H ra rb hq
  | _ => exact none_ne e
end
end Mine

end

section
namespace Mine

mutual
noncomputable def toPy : D → PyData
  | .none => .none
  | .bool b => .bool b
  | .int i => .int i
  | .str x => .str x
  | .list xs => .list (toPys xs)
  | .tuple xs => .tuple (toPys xs)
  | .bytes _ => .none
  | .dictS _ => .none
  | .dictI _ => .none
  | .typ _ => .none
  | .rng _ _ _ => .none
  | .setI _ => .none
noncomputable def toPys : List D → List PyData
  | [] => []
  | d :: ds => toPy d :: toPys ds
end

/-- data that == compares, at most n deep -/
noncomputable def eqB (l : List D → Bool) : D → Bool
  | .none => true
  | .bool _ => true
  | .int _ => true
  | .str x => PyData.strOk x
  | .list xs => l xs
  | .tuple xs => l xs
  | _ => false
noncomputable def eqOk : Nat → D → Bool
  | 0 => eqB fun z0 => false
  | n + 1 => eqB fun xs => xs.all (eqOk n)
theorem eqOk_list {n : Nat} {xs : List D} : eqOk (n + 1) (.list xs) = xs.all (eqOk n) := rfl
theorem eqOk_tuple {n : Nat} {xs : List D} : eqOk (n + 1) (.tuple xs) = xs.all (eqOk n) := rfl
theorem false_ne {C : Prop} (h : false = true) : C := by cases h

noncomputable def eqvD (a b : D) : Bool := PyData.eqv (toPy a) (toPy b)

section
variable {prog : Program} {w : World} {A : Around} {E : Value → Shared → Prop} {s : Shared} {hot : Addr → Prop} {h : Heap}

theorem reps_of {L : D → Bool} (ih : ∀ {v : Value} {d : D}, Rep prog w hot h v d → L d = true → ∃ as, Reads h v (toPy d) as) : ∀ {vs : List Value} {ds : List D}, Reps prog w hot h vs ds → (∀ d ∈ ds, L d = true) → ∃ as, ReadsAll h vs (toPys ds) as
  | _, _, .nil, _ => ⟨_, .nil⟩
  | _, _, .cons a b, e =>
    let ⟨_, p⟩ := ih a (e _ List.mem_cons_self)
    let ⟨_, q⟩ := reps_of ih b fun x hx => e x (List.mem_cons_of_mem _ hx)
    ⟨_, .cons p q⟩
theorem rep_step {L : List D → Bool} (ih : ∀ {vs : List Value} {ds : List D}, Reps prog w hot h vs ds → L ds = true → ∃ as, ReadsAll h vs (toPys ds) as) {v : Value} {d : D} (r : Rep prog w hot h v d) (e : eqB L d = true) : ∃ as, Reads h v (toPy d) as := by
  cases r with
  | none => exact ⟨_, .none⟩
  | bool b => exact ⟨_, .bool b⟩
  | int i t => exact ⟨_, .int i t⟩
  | str x t => exact ⟨_, .str x t⟩
  | list a b r => exact let ⟨_, q⟩ := ih r e; ⟨_, .list b rfl rfl q⟩
  | tuple a b c d r => exact let ⟨_, q⟩ := ih r e; ⟨_, .tuple b c d q⟩
  | _ => exact false_ne e
theorem rep_reads : ∀ (n : Nat) {v : Value} {d : D}, Rep prog w hot h v d → eqOk n d = true → ∃ as, Reads h v (toPy d) as
  | 0, _, _, r, e => rep_step (fun z0 e => false_ne e) r e
  | n + 1, _, _, r, e => rep_step (fun r e => reps_of (rep_reads n) r (List.all_eq_true.mp e)) r e
theorem reps_reads (n : Nat) {vs : List Value} {ds : List D} (r : Reps prog w hot h vs ds) (e : ∀ d ∈ ds, eqOk n d = true) : ∃ as, ReadsAll h vs (toPys ds) as :=
  reps_of (rep_reads n) r e

theorem all_lay {n : Nat} {L : D → Bool} (ih : ∀ d, L d = true → (toPy d).canLay0 = true ∧ (toPy d).depth ≤ n) : ∀ ds : List D, (∀ d ∈ ds, L d = true) → PyData.canLayAll0 (toPys ds) = true ∧ PyData.depthAll (toPys ds) ≤ n
  | [], _ => ⟨rfl, Nat.zero_le _⟩
  | d :: ds, e =>
    have h1 := ih d (e _ List.mem_cons_self)
    have h2 := all_lay ih ds fun x hx => e x (List.mem_cons_of_mem _ hx)
    ⟨Bool.and_eq_true_iff.mpr ⟨h1.1, h2.1⟩, Nat.max_le.mpr ⟨h1.2, h2.2⟩⟩
theorem lay_step {n : Nat} {L : List D → Bool} (ih : ∀ ds, L ds = true → PyData.canLayAll0 (toPys ds) = true ∧ PyData.depthAll (toPys ds) + 1 ≤ n) (d : D) (e : eqB L d = true) : (toPy d).canLay0 = true ∧ (toPy d).depth ≤ n := by
  cases d with
  | none => exact ⟨rfl, Nat.zero_le _⟩
  | bool b => exact ⟨rfl, Nat.zero_le _⟩
  | int i => exact ⟨rfl, Nat.zero_le _⟩
  | str x => exact ⟨e, Nat.zero_le _⟩
  | list xs => exact ih xs e
  | tuple xs => exact ih xs e
  | _ => exact false_ne e
theorem eqOk_lay : ∀ (n : Nat) (d : D), eqOk n d = true → (toPy d).canLay0 = true ∧ (toPy d).depth ≤ n
  | 0, d, e => lay_step (fun z0 e => false_ne e) d e
  | n + 1, d, e => lay_step (fun ds e => let ⟨a, b⟩ := all_lay (eqOk_lay n) ds (List.all_eq_true.mp e); ⟨a, Nat.succ_le_succ b⟩) d e
theorem eqOk_shaped {d : D} (e : eqOk 9 d = true) : SeqAt.shaped (toPy d) = true := by
  have q := eqOk_lay 9 d e
  unfold SeqAt.shaped
  rw [q.1, Bool.true_and]
  exact decide_eq_true (Nat.le_trans q.2 (by decide))

/-- is, between two of which one is None, a bool or a type -/
noncomputable def isNoneD : D → Option Bool
  | .none => some true
  | .dictS _ => none
  | .dictI _ => none
  | .tuple _ => none
  | .rng _ _ _ => none
  | .setI _ => none
  | _ => some false
noncomputable def isBoolD (b : Bool) : D → Option Bool
  | .bool a => some (a == b)
  | _ => none
noncomputable def isTypD (b : String) : D → Option Bool
  | .typ a => some (a == b)
  | _ => none
noncomputable def isD (a b : D) : Option Bool :=
  match b with
  | .none => isNoneD a
  | .bool b => isBoolD b a
  | .typ b => isTypD b a
  | _ => none

noncomputable def neD (a b : D) : Option Bool :=
  match a with
  | .dictS x => (match b with
    | .dictS y => if x == y then some false else none
    | _ => none)
  | _ => if eqOk 9 a && eqOk 9 b then some (!eqvD a b) else none
noncomputable def cmpI (f : Int → Int → Bool) (a b : D) : Option Bool :=
  match a with
  | .int x => (match b with
    | .int y => some (f x y)
    | _ => none)
  | _ => none
noncomputable def inD (f : Bool → Bool) (a b : D) : Option Bool :=
  match b with
  | .list xs => if eqOk 9 a && xs.all (eqOk 9) then some (f (xs.any fun y => eqvD y a)) else none
  | _ => none
noncomputable def cmpD (op : CmpOp) (a b : D) : Option Bool :=
  match op with
  | .Eq => if eqOk 9 a && eqOk 9 b then some (eqvD a b) else none
  | .NotEq => neD a b
  | .Lt => cmpI (fun a b => decide (a < b)) a b
  | .Gt => cmpI (fun a b => decide (b < a)) a b
  | .GtE => cmpI (fun a b => decide (b ≤ a)) a b
  | .Is => isD a b
  | .IsNot => (isD a b).map (!·)
  | .In => inD (fun b => b) a b
  | .NotIn => inD (fun b => !b) a b
  | _ => none
theorem cmpI_inv {f : Int → Int → Bool} {a b : D} {r : Bool} (e : cmpI f a b = some r) : ∃ x y, a = .int x ∧ b = .int y ∧ f x y = r := by
  cases a with
  | int x => cases b with
    | int y => exact ⟨x, y, rfl, rfl, Option.some.inj e⟩
    | _ => exact none_ne e
  | _ => exact none_ne e
theorem inD_inv {f : Bool → Bool} {a b : D} {r : Bool} (e : inD f a b = some r) : ∃ xs, b = .list xs ∧ (eqOk 9 a && xs.all (eqOk 9)) = true ∧ f (xs.any fun y => eqvD y a) = r := by
  cases b with
  | list xs => exact ⟨xs, rfl, ite_of e⟩
  | _ => exact none_ne e

theorem none_is {v : Value} {d : D} {r : Bool} (e : isNoneD d = some r) (x : Rep prog w hot h v d) : (v == .none) = r := by
  cases x <;> first | exact none_ne e | exact Option.some.inj e
theorem is_ok {a b : D} {r : Bool} {va vb : Value} {Q : Bool → Shared → Prop} (e : isD a b = some r) (ra : Rep prog w hot s.heap va a) (rb : Rep prog w hot s.heap vb b) (hq : Q r s) :
    wpAny (model prog w) A (isSame va vb) Q E s := by
  cases b with
  | none =>
    cases rb.isNone
    have q := none_is e ra
    cases ra <;> first | exact none_ne e | exact wpAny_pure (a := (_ == _)) (by rw [q]; exact hq)
  | bool y =>
    cases rb.isBool
    cases a with
    | bool x =>
      cases ra.isBool
      have q : (Value.bool x == Value.bool y) = r := by cases x <;> cases y <;> exact Option.some.inj e
      exact wpAny_pure (a := (_ == _)) (by rw [q]; exact hq)
    | _ => exact none_ne e
  | typ y =>
    cases rb.isTyp
    cases a with
    | typ x =>
      cases ra.isTyp
      have q : (Value.type x == Value.type y) = r := by
        rw [← Option.some.inj (show some (x == y) = some r from e)]
        by_cases hxy : x = y
        · subst hxy; simp
        · have h1 : ¬ Value.type x = Value.type y := fun z => hxy (Value.type.inj z)
          rw [beq_eq_false_iff_ne.mpr hxy, beq_eq_false_iff_ne.mpr h1]
      exact wpAny_pure (a := (_ == _)) (by rw [q]; exact hq)
    | _ => exact none_ne e
  | _ => exact none_ne e

theorem toPys_any (ds : List D) (p : PyData → Bool) : (toPys ds).any p = ds.any fun d => p (toPy d) := by
  induction ds with
  | nil => rfl
  | cons d ds ih => simp [toPys, ih]

theorem in_room {n : Nat} (hA : Aok n A) {xs : List D} {a : D} (ha : eqOk 9 a = true) : A.units + 1 + min (PyData.depthAll (toPys xs)) (toPy a).depth < cLine := by
  have q := (eqOk_lay 9 a ha).2
  have u := hA.units
  have m := Nat.min_le_right (PyData.depthAll (toPys xs)) (toPy a).depth
  unfold cLine; lia
theorem lay_all {xs : List D} (h : xs.all (eqOk 9) = true) : PyData.canLayAll0 (toPys xs) = true :=
  (all_lay (eqOk_lay 9) xs (List.all_eq_true.mp h)).1

theorem keqHits_none {K : Type} [DecidableEq K] {kb : List K} : ∀ (ka : List K), (∀ k ∈ ka, k ∈ kb) → KeqHits A s (kb.map fun k => (k, Value.none)) (ka.map fun k => (k, Value.none)) true
  | [], _ => .nil
  | k :: ka, h => by
    have hv : valueAt (kb.map fun k => (k, Value.none)) k = some .none := by
      have hk := h k List.mem_cons_self
      clear h
      unfold valueAt
      induction kb with
      | nil => simp at hk
      | cons x kb ih =>
        by_cases hx : x = k
        · subst hx; simp
        · have : k ∈ kb := by
            rcases List.mem_cons.mp hk with e | e
            · exact absurd e.symm hx
            · exact e
          simpa [hx] using ih this
    have := KeqHits.hit (r := ka.map fun k => (k, Value.none)) hv (SeqAt.EqAt.same (A := A) (s := s) Value.none) (keqHits_none ka fun x hx => h x (List.mem_cons_of_mem _ hx))
    simpa using this

theorem ne_ok {n : Nat} (hA : Aok n A) {a b : D} {r : Bool} {va vb : Value} {Q : Value → Shared → Prop} (e : neD a b = some r)
    (hsm : ∀ x, ¬ hot x → (x == sysModules) = false)
    (ra : Rep prog w hot s.heap va a) (rb : Rep prog w hot s.heap vb b) (hq : Q (.bool r) s) : wpAny (model prog w) A (compareOp .NotEq va vb) Q E s := by
  have data : (if eqOk 9 a && eqOk 9 b then some (!eqvD a b) else none) = some r → wpAny (model prog w) A (compareOp .NotEq va vb) Q E s := fun e => by
    obtain ⟨hk, rfl⟩ := ite_of e
    have hk := Bool.and_eq_true_iff.mp hk
    obtain ⟨as, p⟩ := rep_reads 9 ra hk.1
    obtain ⟨bs, q⟩ := rep_reads 9 rb hk.2
    exact ne_dataH p q (eqOk_shaped hk.1) (eqOk_shaped hk.2) hA.units64 hq
  cases a with
  | dictS x => cases b with
    | dictS y =>
      obtain ⟨hk, rfl⟩ := ite_of e
      have hk : x = y := by simpa using hk
      subst hk
      cases ra with
      | dictS na da => cases rb with
        | dictS nb db =>
          refine keq_ne (r := true) (hsm _ na) (hsm _ nb) da db hA.units1 (fun z0 => keqHits_none _ fun k hk => hk) ?_
          simpa using hq
    | _ => exact none_ne e
  | _ => exact data e
theorem cmp_ok {n : Nat} (hA : Aok n A) {op : CmpOp} {a b : D} {r : Bool} {va vb : Value} {Q : Value → Shared → Prop} (e : cmpD op a b = some r)
    (hsm : ∀ x, ¬ hot x → (x == sysModules) = false)
    (ra : Rep prog w hot s.heap va a) (rb : Rep prog w hot s.heap vb b) (hq : Q (.bool r) s) : wpAny (model prog w) A (compareOp op va vb) Q E s := by
  cases op with
  | Eq =>
    obtain ⟨hk, rfl⟩ := ite_of e
    have hk := Bool.and_eq_true_iff.mp hk
    obtain ⟨as, p⟩ := rep_reads 9 ra hk.1
    obtain ⟨bs, q⟩ := rep_reads 9 rb hk.2
    exact eq_dataH p q (eqOk_shaped hk.1) (eqOk_shaped hk.2) hA.units64 hq
  | NotEq => exact ne_ok hA e hsm ra rb hq
  | Lt =>
    obtain ⟨x, y, rfl, rfl, rfl⟩ := cmpI_inv e
    obtain ⟨t, rfl⟩ := ra.isInt
    obtain ⟨t', rfl⟩ := rb.isInt
    exact lt_int hq
  | Gt =>
    obtain ⟨x, y, rfl, rfl, rfl⟩ := cmpI_inv e
    obtain ⟨t, rfl⟩ := ra.isInt
    obtain ⟨t', rfl⟩ := rb.isInt
    exact gt_int hq
  | GtE =>
    obtain ⟨x, y, rfl, rfl, rfl⟩ := cmpI_inv e
    obtain ⟨t, rfl⟩ := ra.isInt
    obtain ⟨t', rfl⟩ := rb.isInt
    exact ge_int hq
  | Is => exact wpAny_bind (is_ok e ra rb (wpAny_pure hq))
  | IsNot =>
    obtain ⟨c, hi, rfl⟩ := Option.map_eq_some_iff.mp (show (isD a b).map (!·) = some r from e)
    exact wpAny_bind (is_ok hi ra rb (wpAny_pure hq))
  | In =>
    obtain ⟨xs, rfl, hk, rfl⟩ := inD_inv (f := fun b => b) e
    have hk := Bool.and_eq_true_iff.mp hk
    obtain ⟨as, p⟩ := rep_reads 9 ra hk.1
    obtain ⟨bs, q⟩ := rep_reads 10 rb hk.2
    refine SeqAt.in_list_reads q p (lay_all hk.2) (eqOk_lay 9 _ hk.1).1 (in_room hA hk.1) ?_
    rw [toPys_any]; exact hq
  | NotIn =>
    obtain ⟨xs, rfl, hk, rfl⟩ := inD_inv (f := fun b => !b) e
    have hk := Bool.and_eq_true_iff.mp hk
    obtain ⟨as, p⟩ := rep_reads 9 ra hk.1
    obtain ⟨bs, q⟩ := rep_reads 10 rb hk.2
    refine SeqAt.notIn_list_reads q p (lay_all hk.2) (eqOk_lay 9 _ hk.1).1 (in_room hA hk.1) ?_
    rw [toPys_any]; exact hq
  | _ => exact none_ne e

noncomputable def truthD : D → Option Bool
  | .none => some false
  | .bool b => some b
  | .int i => some (i != 0)
  | .str x => if x.length ≤ 1000000 then some ((x.length : Int) != 0) else none
  | .list xs => if xs.length ≤ 1000000 then some (!xs.isEmpty) else none
  | _ => none

theorem truth_ok {a : D} {r : Bool} {va : Value} {Q : Bool → Shared → Prop} (e : truthD a = some r) (ra : Rep prog w hot s.heap va a)
    (hq : ∀ s', Keeps s s' → Q r s') : wpAny (model prog w) A (truthy va) Q E s := by
  cases a with
  | none => cases ra.isNone; cases e; exact truthy_none (hq _ (keeps_refl s))
  | bool b => cases ra.isBool; cases e; exact wpAny_truthy_bool (hq _ (keeps_refl s))
  | int i => obtain ⟨t, rfl⟩ := ra.isInt; cases e; exact truthy_int (hq _ (keeps_refl s))
  | str x =>
    obtain ⟨hs, rfl⟩ := ite_of e
    obtain ⟨t, rfl⟩ := ra.isStr
    exact PySem.P.truthy_str (by lia) (hq _ (keeps_tok _))
  | list xs =>
    obtain ⟨hs, rfl⟩ := ite_of e
    obtain ⟨l, vs, rfl, nl, il, rl⟩ := ra.isList
    have e1 : vs.size = xs.length := rl.length
    refine wpAny_truthy_list il (by lia) ?_
    have q : (!vs.isEmpty) = (!xs.isEmpty) := by
      cases xs with
      | nil => cases Array.eq_empty_of_size_eq_zero e1; rfl
      | cons x xs =>
        have h1 : vs.isEmpty = false := by
          cases hv : vs.isEmpty with
          | false => rfl
          | true => rw [Array.isEmpty_iff.mp hv] at e1; cases e1
        rw [h1]; rfl
    rw [q]
    exact hq _ (keeps_tok _)
  | _ => exact none_ne e
end
end Mine

end

section
namespace Mine

noncomputable def idxI (a : D) (i : Int) : Option D :=
  match a with
  | .list xs => if 0 ≤ i ∧ xs.length ≤ 1000000 then xs[i.toNat]? else if i < 0 ∧ -(xs.length : Int) ≤ i ∧ xs.length ≤ 1000000 then xs[(i + xs.length).toNat]? else none
  | .str x => if 0 ≤ i ∧ x.length ≤ 1000000 then (x.cps[i.toNat]?).map fun c => .str ⟨#[c]⟩ else none
  | .bytes b => if 0 ≤ i ∧ i < b.toList.length ∧ b.toList.length ≤ 1000000 then some (.int (b.toList.getD i.toNat 0).toNat) else none
  | _ => none
noncomputable def idxD (a b : D) : Option D :=
  match b with
  | .int i => idxI a i
  | _ => none

noncomputable def pickD {α : Type} (xs : List α) (lo hi st : Option Int) : List α :=
  (sliceRange (sliceBounds lo hi st xs.length).1 (sliceBounds lo hi st xs.length).2.1 (sliceBounds lo hi st xs.length).2.2).filterMap (xs[·]?)

noncomputable def sliceD (a : D) (lo hi st : Option Int) : Option D :=
  match a with
  | .list xs => if st ≠ some 0 ∧ xs.length ≤ 1000000 then some (.list (pickD xs lo hi st)) else none
  | .str x => (match st with
    | none => if x.length ≤ 1000000 then some (.str (Txt.slice x lo hi)) else none
    | some _ => none)
  | _ => none

section
variable {prog : Program} {w : World} {A : Around} {E : Value → Shared → Prop} {s : Shared} {hot : Addr → Prop} {h : Heap}

theorem subTail {value slice : Expr} {o i : Value} {T id : String} {Q : Value → Shared → Prop} (hT : s.TypeIs o T)
    (hl : typeLookup (.type T) "__getitem__" = pure (some (.builtin id))) (hg : wpAny (model prog w) A (getItem o i) Q E s) :
    wpAny (model prog w) A (subscriptTail value slice o i) Q E s := by
  have hs : ∃ ops, subscripted slice false o i = operate ops (getItem o i) := by
    unfold subscripted
    split
    · exact ⟨_, rfl⟩
    · rename_i x; cases x
    · exact ⟨_, rfl⟩
  obtain ⟨ops, hs⟩ := hs
  unfold subscriptTail
  refine wpAny_bind ?_
  rw [getitemInPython_of_ne hT.not_modules]
  refine wpAny_bind (wpAny_specialOf hT hl ?_)
  have fin : wpAny (model prog w) A (subscripted slice false o i) (fun r s₃ => wpAny (model prog w) A (letTemporaryGo value o r >>= fun z0 => pure r) Q E s₃) E s := by
    rw [hs]
    exact wpAny_operating (wpAny_mono hg (fun r s₃ h₃ => wpAny_bind (wpAny_letTemporaryGo (wpAny_pure h₃))) fun z0 z0 x => x)
  first
    | exact wpAny_pure (wpAny_bind fin)
    | exact wpAny_bind (wpAny_pure (wpAny_bind fin))
    | exact wpAny_bind fin

theorem idx_ok {a b r : D} {va vb : Value} {value slice : Expr} {Q : Value → Shared → Prop} (e : idxD a b = some r) (ra : Rep prog w hot s.heap va a) (rb : Rep prog w hot s.heap vb b)
    (hq : ∀ v s', Keeps s s' → Rep prog w hot s'.heap v r → Q v s') : wpAny (model prog w) A (subscriptTail value slice va vb) Q E s := by
  cases b with
  | int i =>
    obtain ⟨u, rfl⟩ := rb.isInt
    cases a with
    | list xs =>
      obtain ⟨l, vs, rfl, nl, il, rl⟩ := ra.isList
      have e1 : vs.size = xs.length := rl.length
      by_cases hk : 0 ≤ i ∧ xs.length ≤ 1000000
      · obtain ⟨v, hv, rv⟩ := rl.get ((if_pos hk).symm.trans e)
        have hlt : i.toNat < vs.size := (List.getElem?_eq_some_iff.mp hv).1
        exact subTail il.typeIs slot_list_getitem.lookup (wpAny_getItem_list il hk.1 (by lia) (by simpa using hv) (hq _ _ (keeps_refl s) rv))
      · have e := (if_neg hk).symm.trans e
        by_cases hk : i < 0 ∧ -(xs.length : Int) ≤ i ∧ xs.length ≤ 1000000
        · obtain ⟨v, hv, rv⟩ := rl.get ((if_pos hk).symm.trans e)
          refine subTail il.typeIs slot_list_getitem.lookup (wpAny_getItem_list_neg il hk.1 (by lia) (by lia) ?_ (hq _ _ (keeps_refl s) rv))
          rw [e1]; simpa using hv
        · exact none_ne ((if_neg hk).symm.trans e)
    | str x =>
      by_cases hk : 0 ≤ i ∧ x.length ≤ 1000000
      · obtain ⟨c, hc, rfl⟩ := Option.map_eq_some_iff.mp ((if_pos hk).symm.trans e)
        obtain ⟨t, rfl⟩ := ra.isStr
        have hlt : i.toNat < x.length := (Array.getElem?_eq_some_iff.mp hc).1
        have hb : 0 ≤ i ∧ i < (x.length : Int) := by lia
        refine subTail (T := "str") (typeIs_str s x t) slot_str_getitem.lookup (getItem_str (c := c) (by simp; lia) ?_ (hq _ _ (keeps_tok _) (.str _ _)))
        have hn : ¬ i < 0 := by lia
        have : seqIndex? i x.length = some i.toNat := by
          unfold seqIndex?
          simp only [hn, if_false]
          rw [if_pos (by simpa using hb)]
        rw [this]; exact hc
      · exact none_ne ((if_neg hk).symm.trans e)
    | bytes b =>
      obtain ⟨hk, rfl⟩ := ite_of e
      obtain ⟨t, rfl⟩ := ra.isBytes
      have := getItem_bytes (prog := prog) (w := w) (A := A) (E := E) (s := s) (t := t) (u := u) (l := b.toList) (i := i) (Q := Q) (by lia) hk.1 hk.2.1 (hq _ _ (keeps_tok _) (.int _ _))
      exact subTail (T := "bytes") (typeIs_bytes s _ t) FB.slot_bytes_getitem.lookup (by simpa using this)
    | _ => exact none_ne e
  | _ => exact none_ne e

theorem Reps.pick {vs : List Value} {ds : List D} (r : Reps prog w hot h vs ds) (idx : List Nat) : Reps prog w hot h (idx.filterMap (vs[·]?)) (idx.filterMap (ds[·]?)) := by
  induction idx with
  | nil => exact .nil
  | cons k idx ih =>
    rw [List.filterMap_cons, List.filterMap_cons]
    cases hk : ds[k]? with
    | none =>
      have : vs[k]? = none := by
        rw [List.getElem?_eq_none_iff] at hk ⊢
        rw [r.length]; exact hk
      rw [this]; exact ih
    | some d =>
      obtain ⟨v, hv, rv⟩ := r.get hk
      rw [hv]; exact .cons rv ih

inductive PartOf : D → Option Int → Prop
  | none : PartOf .none none
  | int (i : Int) : PartOf (.int i) (some i)
noncomputable def partD : D → Option (Option Int)
  | .none => some none
  | .int i => some (some i)
  | _ => none
theorem partD_of {d : D} {p : Option Int} (e : partD d = some p) : PartOf d p := by
  cases d <;> first | exact none_ne e | (cases e; constructor)

/-- the value of a part of a slice -/
theorem part_is {d : D} {p : Option Int} {v : Value} (x : PartOf d p) (r : Rep prog w hot h v d) : IsPart v p := by
  cases x with
  | none => cases r.isNone; exact .none
  | int i => obtain ⟨t, rfl⟩ := r.isInt; exact .int _ _
theorem part_val {d : D} {p : Option Int} {v : Value} (x : PartOf d p) (r : Rep prog w hot h v d) : ∃ q : Option (Int × Tok), v = partValue q ∧ q.map (·.1) = p := by
  cases x with
  | none => cases r.isNone; exact ⟨none, rfl, rfl⟩
  | int i => obtain ⟨t, rfl⟩ := r.isInt; exact ⟨some (_, _), rfl, rfl⟩

theorem slice_ok {a r : D} {va vl vu vk : Value} {dl du dk : D} {lo hi st : Option Int} {value slice : Expr} {Q : Value → Shared → Prop} (e : sliceD a lo hi st = some r) (H : HotIn hot s.heap)
    (ra : Rep prog w hot s.heap va a) (pl : PartOf dl lo) (pu : PartOf du hi) (pk : PartOf dk st) (rl : Rep prog w hot s.heap vl dl) (ru : Rep prog w hot s.heap vu du) (rk : Rep prog w hot s.heap vk dk)
    (hq : ∀ v s', Keeps s s' → Rep prog w hot s'.heap v r → Q v s') :
    wpAny (model prog w) A (newFields "slice" [vl, vu, vk]) (fun i s₁ => wpAny (model prog w) A (subscriptTail value slice va i) Q E s₁) E s := by
  refine wpAny_newObj_type ?_
  cases a with
  | list xs =>
    obtain ⟨hk, rfl⟩ := ite_of e
    obtain ⟨l, vs, rfl, nl, il, rv⟩ := ra.isList
    have e1 : vs.size = xs.length := rv.length
    have il' : (s.heap.push { cls := .type "slice", data := .fields #[vl, vu, vk] }).IsList l vs := il.push _
    refine subTail (Heap.IsList.typeIs (s := { s with heap := s.heap.push { cls := .type "slice", data := .fields #[vl, vu, vk] } }) il') slot_list_getitem.lookup
      (wpAny_getItem_list_slice (s := { s with heap := s.heap.push { cls := .type "slice", data := .fields #[vl, vu, vk] } }) il' (Heap.IsSliceOf.new ..) (part_is pl rl) (part_is pu ru) (part_is pk rk) hk.1 ?_ (by rw [sizeLine_eq]; lia))
    refine hq _ _ (keeps_heap ((ext_push _ _).trans (ext_push _ _))) ?_
    have H1 : HotIn hot (s.heap.push { cls := .type "slice", data := .fields #[vl, vu, vk] }) := H.ext (ext_push _ _)
    have r1 := (rv.mono (ext_push s.heap { cls := .type "slice", data := .fields #[vl, vu, vk] }).sees).pick (sliceRange (sliceBounds lo hi st vs.size).1 (sliceBounds lo hi st vs.size).2.1 (sliceBounds lo hi st vs.size).2.2)
    have := rep_list_new (n := 0) H1 r1
    unfold pickD slicePick
    rw [← e1]
    simpa using this
  | str x => cases pk with
    | none =>
      obtain ⟨hk, rfl⟩ := ite_of e
      obtain ⟨t, rfl⟩ := ra.isStr
      obtain ⟨q1, rfl, e1⟩ := part_val pl rl
      obtain ⟨q2, rfl, e2⟩ := part_val pu ru
      cases rk.isNone
      refine subTail (T := "str") (typeIs_str _ x t) F.slot_str_getitem.lookup (wpAny_getItem_str_slice (l := q1) (u := q2) (st := none) ⟨_, Heap.get?_push_size _ rfl, rfl, ?_⟩ rfl ?_)
      · cases q1 <;> cases q2 <;> rfl
      · subst e1 e2
        refine post_val_or_str ⟨Nat.le_trans (Txt.slice_le x _ _) (by rw [sizeLine_eq]; lia), fun t' k => ?_⟩
        exact hq _ _ (keeps_both (ext_push _ _)) (.str _ _)
    | int i => exact none_ne e
  | _ => exact none_ne e
end
end Mine

end

section
namespace Mine

noncomputable abbrev Vars := List (Str × D)

structure Tab where
  fn : Str → Option (List D → List (Str × D) → Option D)
  cst : Str → Option D
  bv : Str → Option Value
  bi : Value → List D → Option D
  meth : D → Str → Option (String × String)
  ty : Str → Str → Option (List D → Option D)

noncomputable def constD : Const → Option D
  | .none => some .none
  | .bool b => some (.bool b)
  | .int i => some (.int i)
  | .str s => some (.str s)
  | .bytes b => some (.bytes b.toArray)
  | _ => none

noncomputable def nameD (T : Tab) (sc : Scope) (ρ : Vars) (x : Str) : Option D :=
  match sc.names.lookup x with
  | some .local => ρ.lookup x
  | some .cell => ρ.lookup x
  | some .free => ρ.lookup x
  | some .globalImplicit => T.cst x
  | _ => none

noncomputable def seqO : List (Option D) → Option (List D)
  | [] => some []
  | x :: r => x.bind fun d => (seqO r).bind fun ds => some (d :: ds)

noncomputable def boolD (op : BoolOp) : List (Option D) → Option D
  | [] => none
  | [x] => x
  | x :: r => x.bind fun v => (truthD v).bind fun t => match op, t with
    | .And, false => some v
    | .Or, true => some v
    | _, _ => boolD op r

noncomputable def unD : UnaryOp → D → Option D
  | .USub, .int i => some (.int (-i))
  | .Not, d => (truthD d).map fun b => .bool (!b)
  | _, _ => none

noncomputable def constX : Expr → Option Const
  | .Constant c _ _ => some c
  | _ => none
theorem constX_is {e : Expr} {c : Const} (h : constX e = some c) : ∃ k p, e = .Constant c k p := by
  cases e with
  | Constant c' k p => cases h; exact ⟨k, p, rfl⟩
  | _ => exact none_ne h
noncomputable def kwD : List Keyword → Option (List (Str × D))
  | [] => some []
  | k :: r => k.arg.bind fun n => (constX k.value).bind fun c => (constD c).bind fun d => (kwD r).bind fun ds => some ((n, d) :: ds)
inductive KwIs (r : List Keyword) : Keyword → List (Str × D) → Prop
  | mk {n c k p q d ds} : constD c = some d → kwD r = some ds → KwIs r ⟨some n, .Constant c k p, q⟩ ((n, d) :: ds)
theorem kwD_is {k : Keyword} {r : List Keyword} {ks : List (Str × D)} (h : kwD (k :: r) = some ks) : KwIs r k ks := by
  obtain ⟨a, v, q⟩ := k
  replace h := Option.bind_eq_some_iff.mp h
  obtain ⟨n, h1, h⟩ := h
  replace h := Option.bind_eq_some_iff.mp h
  obtain ⟨c, h2, h⟩ := h
  replace h := Option.bind_eq_some_iff.mp h
  obtain ⟨d, h3, h⟩ := h
  replace h := Option.bind_eq_some_iff.mp h
  obtain ⟨ds, h4, h⟩ := h
  obtain ⟨k, p, h5⟩ := constX_is h2
  have h6 : a = some n := h1
  have h7 : v = .Constant c k p := h5
  cases h
  rw [h6, h7]
  exact .mk h3 h4

noncomputable def nameX : Expr → Option Str
  | .Name x _ => some x
  | _ => none
theorem nameX_is {e : Expr} {x : Str} (h : nameX e = some x) : ∃ p, e = .Name x p := by
  cases e with
  | Name y p => exact ⟨p, congrArg (Expr.Name · p) (Option.some.inj h)⟩
  | _ => exact none_ne h
noncomputable def targetNames : List Expr → Option (List Str)
  | [] => some []
  | e :: r => (nameX e).bind fun x => (targetNames r).map (x :: ·)
inductive NamesAre (xs : List Str) (es : List Expr) : Expr → Prop
  | mk {x p ys} : targetNames es = some ys → x :: ys = xs → NamesAre xs es (.Name x p)
theorem targetNames_is {e : Expr} {es : List Expr} {xs : List Str} (h : targetNames (e :: es) = some xs) : NamesAre xs es e := by
  replace h := Option.bind_eq_some_iff.mp h
  obtain ⟨x, h1, h⟩ := h
  obtain ⟨ys, h2, h3⟩ := Option.map_eq_some_iff.mp h
  obtain ⟨p, rfl⟩ := nameX_is h1
  exact .mk h2 h3

noncomputable def bindV : List Str → List D → Vars → Option Vars
  | [], ds, ρ => (match ds with
    | [] => some ρ
    | _ => none)
  | x :: xs, ds, ρ => (match ds with
    | [] => none
    | d :: ds => bindV xs ds ((x, d) :: ρ))
noncomputable def bindT (t : Expr) (d : D) (ρ : Vars) : Option Vars :=
  match t with
  | .Name x _ => some ((x, d) :: ρ)
  | .Tuple es _ _ => (match d with
    | .tuple ds => (targetNames es).bind fun xs => bindV xs ds ρ
    | _ => none)
  | _ => none
/-- what a target is that takes a value -/
inductive BindIs (G : Str → D → Prop) (F : List Str → List D → Prop) : Expr → D → Prop
  | name {x p d} : G x d → BindIs G F (.Name x p) d
  | tup {es k p xs ds} : targetNames es = some xs → F xs ds → BindIs G F (.Tuple es k p) (.tuple ds)
theorem bindT_is {t : Expr} {d : D} {ρ ρ' : Vars} (e : bindT t d ρ = some ρ') : BindIs (fun x d => ρ' = (x, d) :: ρ) (fun xs ds => bindV xs ds ρ = some ρ') t d := by
  cases t with
  | Name x p => exact .name (Option.some.inj e).symm
  | Tuple es k p => cases d with
    | tuple ds => exact let ⟨_, h1, h2⟩ := Option.bind_eq_some_iff.mp e; .tup h1 h2
    | _ => exact none_ne e
  | _ => exact none_ne e
noncomputable def bindG : List Comprehension → D → Vars → Option Vars
  | ⟨t, _, _, _⟩ :: _, d, ρ => bindT t d ρ
  | _, _, _ => none

noncomputable def rngItems (a b c : Int) : List D := (List.range (Builtin.Range.rangeSize a b c).toNat).map fun (i : Nat) => .int (a + (i : Int) * c)
noncomputable def iterD : D → Option (List D)
  | .list xs => if xs.length ≤ 1000000 then some xs else none
  | .tuple xs => if xs.length ≤ 1000000 then some xs else none
  | .bytes b => if b.size ≤ 1000000 then some (b.toList.map fun c => .int (c.toNat : Int)) else none
  | .rng a b c => if c ≠ 0 ∧ a.natAbs ≤ 1000000 ∧ b.natAbs ≤ 1000000 ∧ c.natAbs ≤ 1000000 then some (rngItems a b c) else none
  | _ => none
noncomputable def enumFrom (i : Nat) : List D → List D
  | [] => []
  | d :: r => .tuple [.int (i : Int), d] :: enumFrom (i + 1) r

noncomputable def compO (f : D → Option (Option D)) : List D → Option (List D)
  | [] => some []
  | d :: r => (f d).bind fun o => (compO f r).bind fun ds => match o with
    | none => some ds
    | some x => some (x :: ds)

noncomputable def putKey (ks : List Str) (k : Str) : List Str := if k ∈ ks then ks else ks ++ [k]
noncomputable def intOf : D → Option Int
  | .int i => some i
  | _ => none
noncomputable def strOf : D → Option Str
  | .str x => some x
  | _ => none
noncomputable def listOf : D → Option (List D)
  | .list xs => some xs
  | _ => none
theorem listOf_is {d : D} {xs : List D} (h : listOf d = some xs) : d = .list xs := by
  cases d with
  | list ys => exact congrArg D.list (Option.some.inj h)
  | _ => exact none_ne h
theorem intOf_is {d : D} {i : Int} (h : intOf d = some i) : d = .int i := by
  cases d with
  | int j => exact congrArg D.int (Option.some.inj h)
  | _ => exact none_ne h
theorem strOf_is {d : D} {x : Str} (h : strOf d = some x) : d = .str x := by
  cases d with
  | str y => exact congrArg D.str (Option.some.inj h)
  | _ => exact none_ne h
noncomputable def intsOf : List D → Option (List Int)
  | [] => some []
  | d :: r => (intOf d).bind fun i => (intsOf r).map (i :: ·)
noncomputable def strsOf : List D → Option (List Str)
  | [] => some []
  | d :: r => (strOf d).bind fun x => (strsOf r).map (x :: ·)
theorem strsOf_is : ∀ {ds : List D} {xs : List Str}, strsOf ds = some xs → ds = xs.map .str
  | [], xs, h => Option.some.inj h ▸ rfl
  | d :: r, xs, h => by
    replace h := Option.bind_eq_some_iff.mp h
    obtain ⟨x, h1, h⟩ := h
    replace h := Option.map_eq_some_iff.mp h
    obtain ⟨ys, h2, h⟩ := h
    rw [← h, strOf_is h1, strsOf_is h2]; rfl
theorem strsOf_map : ∀ (xs : List Str), strsOf (xs.map .str) = some xs
  | [] => rfl
  | x :: r => congrArg (Option.map (x :: ·)) (strsOf_map r)
noncomputable def keysO (xs : List D) (ks : List Str) : Option (List Str) := (strsOf xs).map fun l => l.foldl putKey ks

noncomputable def tyCall (T : Tab) (o : Expr) (sc : Scope) (name : Str) : Option (List D → Option D) :=
  match o with
  | .Name t _ => if sc.names.lookup t = some .globalImplicit then T.ty t name else none
  | _ => none

noncomputable def callT (T : Tab) (f : Str) (kws : List Keyword) (ds : List D) : Option D :=
  match T.fn f with
  | some F => (kwD kws).bind fun ks => F ds ks
  | none => match T.bv f, kws with
    | some v, [] => T.bi v ds
    | _, _ => none
noncomputable def methT (T : Tab) (name : Str) (d : D) (ds : List D) : Option D :=
  match T.meth d name with
  | some (_, id) => T.bi (.builtin id) (d :: ds)
  | none => none

noncomputable def isNoneX : Expr → Bool
  | .Constant c _ _ => (match c with
    | .none => true
    | _ => false)
  | _ => false
/-- one plain generator by the name x -/
noncomputable def genOf (x : Str) : List Comprehension → Bool
  | g :: r => r.isEmpty && (nameX g.target == some x) && g.ifs.isEmpty && (g.is_async == 0)
  | [] => false
theorem noneX_is {e : Expr} (h : isNoneX e = true) : ∃ k p, e = .Constant .none k p := by
  cases e with
  | Constant c k p => cases c with
    | none => exact ⟨k, p, rfl⟩
    | _ => exact false_ne h
  | _ => exact false_ne h
theorem genOf_is {x : Str} {gens : List Comprehension} (h : genOf x gens = true) : ∃ p it, gens = [⟨.Name x p, it, [], 0⟩] := by
  cases gens with
  | nil => exact false_ne h
  | cons g r =>
    obtain ⟨t, it, ifs, a⟩ := g
    replace h : (r.isEmpty && (nameX t == some x) && ifs.isEmpty && (a == 0)) = true := h
    simp only [Bool.and_eq_true, List.isEmpty_iff, beq_iff_eq] at h
    obtain ⟨⟨⟨rfl, h2⟩, rfl⟩, rfl⟩ := h
    obtain ⟨p, rfl⟩ := nameX_is h2
    exact ⟨p, it, rfl⟩
/-- the keys of a dict, None behind each -/
noncomputable def dictShape (k v : Expr) (gens : List Comprehension) : Bool :=
  match k with
  | .Name x _ => isNoneX v && genOf x gens
  | _ => false
theorem dictShape_is {k v : Expr} {gens : List Comprehension} (h : dictShape k v gens = true) : ∃ x px kc pc py it, k = .Name x px ∧ v = .Constant .none kc pc ∧ gens = [⟨.Name x py, it, [], 0⟩] := by
  cases k with
  | Name x px =>
    obtain ⟨h1, h2⟩ := Bool.and_eq_true_iff.mp (show (isNoneX v && genOf x gens) = true from h)
    obtain ⟨kc, pc, rfl⟩ := noneX_is h1
    obtain ⟨py, it, rfl⟩ := genOf_is h2
    exact ⟨x, px, kc, pc, py, it, rfl, rfl, rfl⟩
  | _ => exact false_ne h

noncomputable def enumD (d : D) : Option (List D) := (listOf d).bind fun xs => (iterD (.list xs)).bind fun ds => some (enumFrom 0 ds)
mutual
noncomputable def evE (T : Tab) : Expr → Scope → Vars → Option D
  | .Constant c _ _, _, _ => constD c
  | .Name x _, sc, ρ => nameD T sc ρ x
  | .BoolOp op vs _, sc, ρ => boolD op (evEach T vs sc ρ)
  | .BinOp l op r _, sc, ρ => (evE T l sc ρ).bind fun a => (evE T r sc ρ).bind fun b => binD op a b
  | .UnaryOp op x _, sc, ρ => (evE T x sc ρ).bind (unD op)
  | .IfExp t b o _, sc, ρ => (evT T t sc ρ (evE T t sc ρ)).bind fun c => if c then evE T b sc ρ else evE T o sc ρ
  | .List es _, sc, ρ => (seqO (evEach T es sc ρ)).bind fun ds => if ds.length ≤ 1000000 then some (.list ds) else none
  | .Tuple es _ _, sc, ρ => (seqO (evEach T es sc ρ)).bind fun ds => if ds.length ≤ 1000000 then some (.tuple ds) else none
  | .ListComp elt gens sc' _, sc, ρ => (evIter T gens sc ρ).bind fun items => (compO (fun d => (bindG gens d ρ).bind fun ρ' => (evIfs T gens sc' ρ').bind fun b =>
      if b then (evE T elt sc' ρ').bind fun x => some (some x) else some none) items).bind fun ds => some (.list ds)
  | .DictComp k v gens _ _, sc, ρ => (evFirst T gens sc ρ).bind fun d => match d with
    | .list xs => if dictShape k v gens ∧ xs.length ≤ 1000000 then (keysO xs []).bind fun ks => some (.dictS ks) else none
    | _ => none
  | .Compare l ops rs _, sc, ρ => (evE T l sc ρ).bind fun a => match ops, evEach T rs sc ρ with
    | [op], [r] => r.bind fun b => (cmpD op a b).bind fun c => some (.bool c)
    | _, _ => none
  | .Call (.Attribute o name _) args _ _, sc, ρ => match tyCall T o sc name with
    | some F => (seqO (evEach T args sc ρ)).bind fun ds => F ds
    | none => (evE T o sc ρ).bind fun d => (seqO (evEach T args sc ρ)).bind fun ds => methT T name d ds
  | .Call (.Name f _) args kws _, sc, ρ => if sc.names.lookup f = some .globalImplicit then (seqO (evEach T args sc ρ)).bind fun ds => callT T f kws ds else none
  | .Subscript v (.Slice l u s _) _, sc, ρ => (evE T v sc ρ).bind fun a => (evOpt T l sc ρ).bind fun dl => (evOpt T u sc ρ).bind fun du => (evOpt T s sc ρ).bind fun dk =>
      (partD dl).bind fun lo => (partD du).bind fun hi => (partD dk).bind fun st => sliceD a lo hi st
  | .Subscript v i _, sc, ρ => (evE T v sc ρ).bind fun a => (evE T i sc ρ).bind fun b => idxD a b
  | _, _, _ => none
noncomputable def evT (T : Tab) : Expr → Scope → Vars → Option D → Option Bool
  | .UnaryOp .Not x _, sc, ρ, _ => (evT T x sc ρ (evE T x sc ρ)).map (!·)
  | .BoolOp op vs _, sc, ρ, _ => evTs T op vs sc ρ
  | .IfExp _ _ _ _, _, _, _ => none
  | _, _, _, whole => whole.bind truthD
noncomputable def evTs (T : Tab) : BoolOp → List Expr → Scope → Vars → Option Bool
  | op, [], _, _ => some (op == .And)
  | op, x :: r, sc, ρ => (evT T x sc ρ (evE T x sc ρ)).bind fun b => match op, b with
    | .And, false => some false
    | .Or, true => some true
    | _, _ => evTs T op r sc ρ
noncomputable def evEach (T : Tab) : List Expr → Scope → Vars → List (Option D)
  | [], _, _ => []
  | e :: r, sc, ρ => evE T e sc ρ :: evEach T r sc ρ
noncomputable def evOpt (T : Tab) : Option Expr → Scope → Vars → Option D
  | none, _, _ => some .none
  | some e, sc, ρ => evE T e sc ρ
noncomputable def evItems (T : Tab) : Expr → Scope → Vars → Option D → Option (List D)
  | .Call g args _ _, sc, ρ, whole => (match nameX g with
    | some f => if f = Str.ofString "enumerate" then (match evEach T args sc ρ with
      | [x] => x.bind enumD
      | _ => none) else whole.bind iterD
    | none => whole.bind iterD)
  | _, _, _, whole => whole.bind iterD
noncomputable def evIter (T : Tab) : List Comprehension → Scope → Vars → Option (List D)
  | ⟨_, iter, _, _⟩ :: _, sc, ρ => evItems T iter sc ρ (evE T iter sc ρ)
  | [], _, _ => none
noncomputable def evFirst (T : Tab) : List Comprehension → Scope → Vars → Option D
  | ⟨_, iter, _, _⟩ :: _, sc, ρ => evE T iter sc ρ
  | [], _, _ => none
noncomputable def evIfs (T : Tab) : List Comprehension → Scope → Vars → Option Bool
  | ⟨_, _, ifs, _⟩ :: _, sc, ρ => evTs T .And ifs sc ρ
  | [], _, _ => none
end

/-! ## statements -/

inductive Slt where
  | cold (d : D)
  | hot1 (xs : List D)
  | hot2 (xss : List (List D))
noncomputable abbrev St := List (Str × Slt)

inductive Fl where
  | next
  | cont
  | ret (d : D)

noncomputable def coldV : St → Vars
  | [] => []
  | (x, .cold d) :: r => (x, d) :: coldV r
  | _ :: r => coldV r
noncomputable def Slt.d : Slt → D
  | .cold d => d
  | .hot1 xs => .list xs
  | .hot2 xss => .list (xss.map .list)
noncomputable def allV (σ : St) : Vars := σ.map fun x => (x.1, x.2.d)
noncomputable def freeze (σ : St) : St := σ.map fun x => (x.1, .cold x.2.d)
noncomputable def put (x : Str) (t : Slt) : St → St
  | [] => [(x, t)]
  | (y, u) :: r => if y = x then (x, t) :: r else (y, u) :: put x t r

noncomputable def flat : D → Bool
  | .none => true
  | .bool _ => true
  | .int _ => true
  | .str _ => true
  | .bytes _ => true
  | .typ _ => true
  | _ => false
noncomputable def flatList (d : D) : Bool := (listOf d).any fun xs => xs.all flat
theorem flatList_is {d : D} (h : flatList d = true) : ∃ xs, d = .list xs ∧ xs.all flat = true := by
  obtain ⟨xs, h1, h2⟩ := (Option.any_eq_true _ _).mp h
  exact ⟨xs, listOf_is h1, h2⟩
noncomputable def flatListList : List D → Option (List (List D))
  | [] => some []
  | .list xs :: r => if xs.all flat then (flatListList r).map (xs :: ·) else none
  | _ => none
noncomputable def isComp : Expr → Bool
  | .ListComp _ _ _ _ => true
  | _ => false
theorem isComp_is {e : Expr} (h : isComp e = true) : ∃ elt gens sc p, e = .ListComp elt gens sc p := by
  cases e with
  | ListComp elt gens sc p => exact ⟨elt, gens, sc, p, rfl⟩
  | _ => exact false_ne h
noncomputable def isCompComp : Expr → Bool
  | .ListComp e _ _ _ => isComp e
  | _ => false
noncomputable def isNilL : Expr → Bool
  | .List es _ => es.isEmpty
  | _ => false
theorem isNilL_is {e : Expr} (h : isNilL e = true) : ∃ p, e = .List [] p := by
  cases e with
  | List es p => cases es with
    | nil => exact ⟨p, rfl⟩
    | cons _ _ => exact false_ne h
  | _ => exact false_ne h

/-- a value, and the state behind it -/
noncomputable def evV (T : Tab) (e : Expr) (sc : Scope) (σ : St) : Option (D × St) :=
  match evE T e sc (coldV σ) with
  | some d => some (d, σ)
  | none => (evE T e sc (allV σ)).bind fun d => if flat d || (isComp e && flatList d) then some (d, σ) else some (d, freeze σ)

inductive EvVIs (T : Tab) (e : Expr) (sc : Scope) (σ : St) (d : D) : St → Prop
  | cold : evE T e sc (coldV σ) = some d → EvVIs T e sc σ d σ
  | flat : evE T e sc (allV σ) = some d → (flat d = true ∨ isComp e = true ∧ ∃ xs, d = .list xs ∧ xs.all flat = true) → EvVIs T e sc σ d σ
  | frz : evE T e sc (allV σ) = some d → EvVIs T e sc σ d (freeze σ)
theorem evV_is {T : Tab} {e : Expr} {sc : Scope} {σ σ' : St} {d : D} (h : evV T e sc σ = some (d, σ')) : EvVIs T e sc σ d σ' := by
  unfold evV at h
  cases he : evE T e sc (coldV σ) with
  | some d' =>
    rw [he] at h
    obtain ⟨rfl, rfl⟩ := Prod.mk.inj (Option.some.inj h)
    exact .cold he
  | none =>
    rw [he] at h
    obtain ⟨d', h1, h2⟩ := Option.bind_eq_some_iff.mp h
    by_cases hf : (Mine.flat d' || (isComp e && flatList d')) = true
    · obtain ⟨rfl, rfl⟩ := Prod.mk.inj (Option.some.inj ((if_pos hf).symm.trans h2))
      exact .flat h1 ((Bool.or_eq_true_iff.mp hf).imp id fun q => (Bool.and_eq_true_iff.mp q).imp id flatList_is)
    · obtain ⟨rfl, rfl⟩ := Prod.mk.inj (Option.some.inj ((if_neg hf).symm.trans h2))
      exact .frz h1

noncomputable def putAll : List Str → List D → St → Option St
  | [], [], σ => some σ
  | x :: xs, d :: ds, σ => putAll xs ds (put x (.cold d) σ)
  | _, _, _ => none
noncomputable def bindS (t : Expr) (d : D) (σ : St) : Option St :=
  match t with
  | .Name x _ => some (put x (.cold d) σ)
  | .Tuple es _ _ => (match d with
    | .tuple ds => (targetNames es).bind fun xs => putAll xs ds σ
    | _ => none)
  | _ => none
theorem bindS_is {t : Expr} {d : D} {σ σ' : St} (e : bindS t d σ = some σ') : BindIs (fun x d => σ' = put x (.cold d) σ) (fun xs ds => putAll xs ds σ = some σ') t d := by
  cases t with
  | Name x p => exact .name (Option.some.inj e).symm
  | Tuple es k p => cases d with
    | tuple ds => exact let ⟨_, h1, h2⟩ := Option.bind_eq_some_iff.mp e; .tup h1 h2
    | _ => exact none_ne e
  | _ => exact none_ne e

noncomputable def setInt : D → Option Nat
  | .int i => if 0 ≤ i then some i.toNat else none
  | _ => none
theorem setInt_is {d : D} {k : Nat} (h : setInt d = some k) : ∃ i : Int, d = .int i ∧ 0 ≤ i ∧ i.toNat = k := by
  cases d with
  | int i => obtain ⟨h0, h1⟩ := ite_of h; exact ⟨i, rfl, h0, h1⟩
  | _ => exact none_ne h
noncomputable def hot1L : Option Slt → Option (List D)
  | some t => (match t with
    | .hot1 xs => some xs
    | _ => none)
  | none => none
noncomputable def hot2L : Option Slt → Option (List (List D))
  | some t => (match t with
    | .hot2 xss => some xss
    | _ => none)
  | none => none
theorem hot1L_is {t : Option Slt} {xs : List D} (h : hot1L t = some xs) : t = some (.hot1 xs) := by
  cases t with
  | none => exact none_ne h
  | some t => cases t with
    | hot1 ys => exact congrArg (fun z => some (Slt.hot1 z)) (Option.some.inj h)
    | _ => exact none_ne h
theorem hot2L_is {t : Option Slt} {xs : List (List D)} (h : hot2L t = some xs) : t = some (.hot2 xs) := by
  cases t with
  | none => exact none_ne h
  | some t => cases t with
    | hot2 ys => exact congrArg (fun z => some (Slt.hot2 z)) (Option.some.inj h)
    | _ => exact none_ne h
/-- name[i] -/
noncomputable def subX : Expr → Option (Str × Expr)
  | .Subscript v i _ => (nameX v).map fun x => (x, i)
  | _ => none
theorem subX_is {e i : Expr} {x : Str} (h : subX e = some (x, i)) : ∃ p q, e = .Subscript (.Name x p) i q := by
  cases e with
  | Subscript v j q =>
    obtain ⟨y, h1, h2⟩ := Option.map_eq_some_iff.mp (show (nameX v).map (fun x => (x, j)) = some (x, i) from h)
    cases h2
    obtain ⟨p, rfl⟩ := nameX_is h1
    exact ⟨p, q, rfl⟩
  | _ => exact none_ne h
/-- one place of a list of lists -/
noncomputable def setS (T : Tab) (t : Expr) (d : D) (sc : Scope) (σ : St) : Option St :=
  match t with
  | .Subscript o j _ => (subX o).bind fun xi => (evE T xi.2 sc (allV σ)).bind fun di => (setInt di).bind fun i => (evE T j sc (allV σ)).bind fun dj => (setInt dj).bind fun j =>
    (hot2L (σ.lookup xi.1)).bind fun xss => (xss[i]?).bind fun xs => if j < xs.length ∧ xs.length ≤ 1000000 ∧ xss.length ≤ 1000000 then some (put xi.1 (.hot2 (xss.set i (xs.set j d))) σ) else none
  | _ => none
noncomputable def setAllS (T : Tab) (d : D) (sc : Scope) : List Expr → St → Option St
  | [], σ => some σ
  | t :: r, σ => (setS T t d sc σ).bind fun σ' => setAllS T d sc r σ'

/-- a name takes a new value -/
noncomputable def putNew (cc : Bool) (x : Str) (d : D) (σ : St) : St :=
  if cc then (match d with
    | .list xs => (match flatListList xs with
      | some xss => put x (.hot2 xss) σ
      | none => put x (.cold d) σ)
    | _ => put x (.cold d) σ)
  else put x (.cold d) σ
theorem putNew_is (cc : Bool) (x : Str) (d : D) (σ : St) : (∃ xs xss, cc = true ∧ d = .list xs ∧ flatListList xs = some xss ∧ putNew cc x d σ = put x (.hot2 xss) σ) ∨ putNew cc x d σ = put x (.cold d) σ := by
  cases cc with
  | false => exact .inr rfl
  | true => cases d with
    | list xs =>
      cases h : flatListList xs with
      | none => right; show (match flatListList xs with | some xss => put x (.hot2 xss) σ | none => put x (.cold (.list xs)) σ) = _; rw [h]
      | some xss => left; refine ⟨xs, xss, rfl, rfl, h, ?_⟩; show (match flatListList xs with | some xss => put x (.hot2 xss) σ | none => put x (.cold (.list xs)) σ) = _; rw [h]
    | _ => exact .inr rfl
noncomputable def assign1 (T : Tab) (t value : Expr) (sc : Scope) (σ : St) : Option St :=
  match t with
  | .Name x _ => if isNilL value then some (put x (.hot1 []) σ) else (evV T value sc σ).bind fun r => some (putNew (isCompComp value) x r.1 r.2)
  | .Tuple es k p => (evV T value sc σ).bind fun r => bindS (.Tuple es k p) r.1 r.2
  | _ => none
noncomputable def assignS (T : Tab) (targets : List Expr) (value : Expr) (sc : Scope) (σ : St) : Option St :=
  match targets with
  | [] => none
  | t :: r => (match r with
    | [] => assign1 T t value sc σ
    | u :: r => (evE T value sc (allV σ)).bind fun d => if flat d then setAllS T d sc (t :: u :: r) σ else none)

noncomputable def appendN (T : Tab) (x : Str) (e : Expr) (sc : Scope) (σ : St) (t : Slt) : Option St :=
  match t with
  | .hot1 xs => if isNilL e && xs.isEmpty then some (put x (.hot2 [[]]) σ) else (evE T e sc (coldV σ)).bind fun d => if xs.length ≤ 1000000 then some (put x (.hot1 (xs ++ [d])) σ) else none
  | .hot2 xss => if isNilL e && decide (xss.length ≤ 1000000) then some (put x (.hot2 (xss ++ [[]])) σ) else none
  | _ => none
noncomputable def appendS (T : Tab) (o e : Expr) (sc : Scope) (σ : St) : Option St :=
  match nameX o with
  | some x => (σ.lookup x).bind (appendN T x e sc σ)
  | none => (subX o).bind fun xi => (evE T xi.2 sc (allV σ)).bind fun di => (setInt di).bind fun i => (hot2L (σ.lookup xi.1)).bind fun xss =>
    (xss[i]?).bind fun xs => (evE T e sc (coldV σ)).bind fun d => if xs.length ≤ 1000000 ∧ xss.length ≤ 1000000 ∧ flat d then some (put xi.1 (.hot2 (xss.set i (xs ++ [d]))) σ) else none
noncomputable def popS (o : Expr) (σ : St) : Option St :=
  (nameX o).bind fun x => (hot1L (σ.lookup x)).bind fun xs => (xs.getLast?).bind fun d => if flat d ∧ xs.length ≤ 1000000 then some (put x (.hot1 xs.dropLast) σ) else none
/-- the call of a method, its parts -/
noncomputable def methX : Expr → Option (Expr × Str × List Expr)
  | .Call f args kws _ => (match f with
    | .Attribute o name _ => if kws.isEmpty then some (o, name, args) else none
    | _ => none)
  | _ => none
theorem methX_is {e o : Expr} {name : Str} {args : List Expr} (h : methX e = some (o, name, args)) : ∃ p q, e = .Call (.Attribute o name p) args [] q := by
  cases e with
  | Call f as kws q => cases f with
    | Attribute u nm p =>
      obtain ⟨h1, h2⟩ := ite_of (show (if kws.isEmpty then some (u, nm, as) else none) = some (o, name, args) from h)
      cases h2
      rw [List.isEmpty_iff.mp h1]
      exact ⟨p, q, rfl⟩
    | _ => exact none_ne h
  | _ => exact none_ne h
noncomputable def methS (T : Tab) (o : Expr) (name : Str) (sc : Scope) (σ : St) : List Expr → Option St
  | [] => if name = Str.ofString "pop" then popS o σ else none
  | e :: r => if name = Str.ofString "append" ∧ r.isEmpty = true then appendS T o e sc σ else none
noncomputable def exprS (T : Tab) (e : Expr) (sc : Scope) (σ : St) : Option St :=
  (methX e).bind fun x => methS T x.1 x.2.1 sc σ x.2.2
noncomputable def augS (T : Tab) (x : Str) (op : Operator) (e : Expr) (sc : Scope) (σ : St) : Option St :=
  ((coldV σ).lookup x).bind fun da => (strOf da).bind fun a => (evE T e sc (coldV σ)).bind fun db => (strOf db).bind fun b => if op = .Add ∧ a.length + b.length ≤ 100000 then some (put x (.cold (.str (a ++ b))) σ) else none

noncomputable def forO (f : D → St → Option (Fl × St)) : List D → St → Option (Fl × St)
  | [], σ => some (.next, σ)
  | d :: ds, σ => (f d σ).bind fun r => match r.1 with
    | .ret d => some (.ret d, r.2)
    | _ => forO f ds r.2
noncomputable def whileO (t : St → Option Bool) (f : St → Option (Fl × St)) : Nat → St → Option (Fl × St)
  | 0, _ => none
  | n + 1, σ => (t σ).bind fun b => if b then (f σ).bind fun r => match r.1 with
      | .ret d => some (.ret d, r.2)
      | _ => whileO t f n r.2
    else some (.next, σ)

mutual
noncomputable def evS (T : Tab) : Stmt → Scope → St → Option (Fl × St)
  | .Expr e _, sc, σ => (exprS T e sc σ).bind fun σ' => some (.next, σ')
  | .Pass _, _, σ => some (.next, σ)
  | .Continue _, _, σ => some (.cont, σ)
  | .Return (some e) _, sc, σ => (evE T e sc (allV σ)).bind fun d => some (.ret d, σ)
  | .Assign ts v _, sc, σ => (assignS T ts v sc σ).bind fun σ' => some (.next, σ')
  | .AugAssign (.Name x _) op v _, sc, σ => (augS T x op v sc σ).bind fun σ' => some (.next, σ')
  | .If t b o _, sc, σ => (evT T t sc (allV σ) (evE T t sc (allV σ))).bind fun c => if c then evSs T b sc σ else evSs T o sc σ
  | .While t b [] _, sc, σ => whileO (fun σ => evT T t sc (allV σ) (evE T t sc (allV σ))) (fun σ => evSs T b sc σ) 100 σ
  | .For t it b [] _, sc, σ => (evV T it sc σ).bind fun r => (iterD r.1).bind fun items => forO (fun d σ => (bindS t d σ).bind fun σ' => evSs T b sc σ') items r.2
  | .Assert t _ _, sc, σ => (evT T t sc (allV σ) (evE T t sc (allV σ))).bind fun c => if c then some (.next, σ) else none
  | .Try b _ [] [] _, sc, σ => evSs T b sc σ
  | _, _, _ => none
noncomputable def evSs (T : Tab) : List Stmt → Scope → St → Option (Fl × St)
  | [], _, σ => some (.next, σ)
  | s :: r, sc, σ => (evS T s sc σ).bind fun x => match x.1 with
    | .next => evSs T r sc x.2
    | fl => some (fl, x.2)
end

/-- what a body hands back -/
noncomputable def runD (T : Tab) (body : List Stmt) (sc : Scope) (σ : St) : Option D :=
  (evSs T body sc σ).bind fun r => match r.1 with
    | .ret d => some d
    | .next => some .none
    | .cont => none
end Mine

end

section
namespace Mine

variable {prog : Program} {w : World}

/-- what an iterator at I gives, turn by turn -/
structure Itr (prog : Program) (w : World) (A : Around) (hot : Addr → Prop) (tg : Expr) (I : Addr) (wr : List Addr) (ds : List D) (St : Nat → Heap → Prop) : Prop where
  hw : ∀ b ∈ wr, hot b
  frame : ∀ i h h', St i h → (∀ b o, (¬ hot b ∨ b ∈ wr) → h.get? b = some o → h'.get? b = some o) → St i h'
  item : ∀ i d (s : Shared) (Q : Value → Shared → Prop) (E : Value → Shared → Prop), ds[i]? = some d → St i s.heap → HotIn hot s.heap →
    (∀ v h' tk, Rep prog w hot h' v d → St (i + 1) h' → (∀ b o, b ∉ wr → s.heap.get? b = some o → h'.get? b = some o) → (∀ b ∈ wr, ∃ o, h'.get? b = some o) → Q v { s with heap := h', toks := tk }) →
    wpAny (model prog w) A (pyNext (.ref I)) (fun r s₁ => ∃ v, r = some v ∧ wpAny (model prog w) A (letOwnedTupleGo tg (.ref I) v) (fun z0 s₂ => Q v s₂) E s₁) E s
  done : ∀ (s : Shared) (Q : Option Value → Shared → Prop) (E : Value → Shared → Prop), St ds.length s.heap →
    (∀ h' tk, (∀ b o, b ∉ wr → s.heap.get? b = some o → h'.get? b = some o) → Q none { s with heap := h', toks := tk }) → wpAny (model prog w) A (pyNext (.ref I)) Q E s
  self : ∀ i (s : Shared) (Q : Value → Shared → Prop) (E : Value → Shared → Prop), St i s.heap → Q (.ref I) s → wpAny (model prog w) A (pyIter (.ref I)) Q E s

theorem Itr.turn {A : Around} {hot : Addr → Prop} {tg : Expr} {I : Addr} {wr : List Addr} {ds : List D} {St : Nat → Heap → Prop} (It : Itr prog w A hot tg I wr ds St) (i : Nat) (d : D) {s : Shared}
    {K : Value → Shared → Prop} {P : Option Value → Shared → Prop} {E : Value → Shared → Prop} (hP : ∀ v s₁, wpAny (model prog w) A (letOwnedTupleGo tg (.ref I) v) (fun z0 s₂ => K v s₂) E s₁ → P (some v) s₁)
    (hd : ds[i]? = some d) (st : St i s.heap) (H : HotIn hot s.heap)
    (hQ : ∀ v h' tk, Rep prog w hot h' v d → St (i + 1) h' → (∀ b o, b ∉ wr → s.heap.get? b = some o → h'.get? b = some o) → (∀ b ∈ wr, ∃ o, h'.get? b = some o) → K v { s with heap := h', toks := tk }) :
    wpAny (model prog w) A (pyNext (.ref I)) P E s :=
  wpAny_mono (It.item i d s K E hd st H hQ) (fun r s₁ ⟨v, e, q⟩ => by subst e; exact hP v s₁ q) fun z0 z0 x => x

theorem ownedGo_none {A : Around} {E : Value → Shared → Prop} {s : Shared} {tg : Expr} {I : Addr} {o : Obj} {T : String} {v : Value} {Q : Unit → Shared → Prop} (ho : s.heap.get? I = some o) (hc : o.cls = .type T)
    (hn : ["enumerate", "zip", "dict_itemiterator", "dict_reverseitemiterator", "odict_iterator", "itertools.zip_longest", "itertools.pairwise"].contains T = false) (h : Q () s) :
    wpAny (model prog w) A (letOwnedTupleGo tg (.ref I) v) Q E s := by
  obtain ⟨c, dd, data, sl⟩ := o
  simp only at hc; subst hc
  unfold letOwnedTupleGo
  split
  · cases v with
    | ref a =>
      refine wpAny_bind (wpAny_load ho ?_)
      cases data with
      | fields vs =>
        dsimp only
        rw [hn]
        exact wpAny_pure h
      | _ => exact wpAny_pure h
    | _ => exact wpAny_pure h
  · cases v with
    | ref a =>
      refine wpAny_bind (wpAny_load ho ?_)
      cases data with
      | fields vs =>
        dsimp only
        rw [hn]
        exact wpAny_pure h
      | _ => exact wpAny_pure h
    | _ => exact wpAny_pure h
  · exact wpAny_pure h

theorem Itr.of_walks {A : Around} {hot : Addr → Prop} {tg : Expr} {I : Addr} {fp : List Addr} {ds : List D} {n : Nat} {P : Nat → Value → Prop} {St : Nat → Heap → Prop}
    (W : Walks prog w A I fp [I] n P St) (hI : hot I) (hn : n = ds.length) (T : String)
    (hT : ["enumerate", "zip", "dict_itemiterator", "dict_reverseitemiterator", "odict_iterator", "itertools.zip_longest", "itertools.pairwise"].contains T = false)
    (cls : ∀ i h, St i h → ∃ o, h.get? I = some o ∧ o.cls = .type T) (X : Heap → Prop)
    (hX : ∀ h h', X h → (∀ b o, ¬ hot b → h.get? b = some o → h'.get? b = some o) → X h')
    (fpok : ∀ b ∈ fp, b = I ∨ ¬ hot b)
    (rep : ∀ i h v d, X h → P i v → ds[i]? = some d → Rep prog w hot h v d) :
    Itr prog w A hot tg I [I] ds (fun i h => St i h ∧ X h) where
  hw := fun b hb => by rw [List.mem_singleton.mp hb]; exact hI
  frame := fun i h h' st k => ⟨W.frame i h h' st.1 fun b hb o e => k b o (by
    rcases fpok b hb with e' | e'
    · exact .inr (by simp [e'])
    · exact .inl e') e, hX h h' st.2 fun b o n e => k b o (.inl n) e⟩
  item := fun i d s Q E hd st H hQ => by
    have hi : i < n := by rw [hn]; exact (List.getElem?_eq_some_iff.mp hd).1
    refine W.item i s _ E hi st.1 fun v h' tk hP hst hk => ?_
    obtain ⟨o, ho, hc⟩ := cls _ _ hst
    have x' : X h' := hX _ _ st.2 fun b o nb e => hk b o (fun hb => by rw [List.mem_singleton.mp hb] at nb; exact nb hI) e
    refine ⟨v, rfl, ownedGo_none (o := o) ho hc hT ?_⟩
    exact hQ v h' tk (rep i h' v d x' hP hd) ⟨hst, x'⟩ hk fun b hb => by rw [List.mem_singleton.mp hb]; exact ⟨o, ho⟩
  done := fun s Q E st hQ => W.done s Q E (hn ▸ st.1) hQ
  self := fun i s Q E st hQ => W.self i s Q E st.1 hQ

/-- hot' makes hot only what was hot, or what does not stand -/
noncomputable def HotExt (hot hot' : Addr → Prop) (h : Heap) : Prop := ∀ b o, hot' b → h.get? b = some o → hot b
theorem HotExt.sees {hot hot' : Addr → Prop} {h h' : Heap} (x : HotExt hot hot' h) (e : Ext h h') : Sees hot hot' h h' := fun a o n g => ⟨fun y => n (x a o y g), e a o g⟩

/-- an iterator has been made -/
noncomputable def IterAt (prog : Program) (w : World) (A : Around) (hot : Addr → Prop) (tg : Expr) (h : Heap) (ds : List D) (I : Addr) (wr : List Addr) (h₂ : Heap) : Prop :=
  (∀ b ∈ wr, h.get? b = none ∧ ∃ o, h₂.get? b = some o) ∧ Ext h h₂ ∧
  ∃ St, St 0 h₂ ∧ ∀ hot', HotExt hot hot' h → (∀ b ∈ wr, hot' b) → Itr prog w A hot' tg I wr ds St

/-- what stood, and was not hot, stands -/
noncomputable def Stays (hot : Addr → Prop) (h h' : Heap) : Prop := ∀ b o, ¬ hot b → h.get? b = some o → h'.get? b = some o
theorem Stays.frame {hot hot' : Addr → Prop} {h h' h'' : Heap} (x : Stays hot h h') (e : HotExt hot hot' h) (k : ∀ b o, ¬ hot' b → h'.get? b = some o → h''.get? b = some o) : Stays hot h h'' :=
  fun b o n g => k b o (fun y => n (e b o y g)) (x b o n g)
theorem Stays.sees {hot hot' : Addr → Prop} {h h' : Heap} (x : Stays hot h h') (e : HotExt hot hot' h) : Sees hot hot' h h' := fun a o n g => ⟨fun y => n (e a o y g), x a o n g⟩

section
variable {A : Around} {E : Value → Shared → Prop} {s : Shared} {hot : Addr → Prop}

theorem isSome_none {h : Heap} {a : Addr} (ha : h.objs.size ≤ a) : h.get? a = none := by
  cases e : h.get? a with
  | none => rfl
  | some o => exact absurd (Heap.lt_size e) (Nat.not_lt.mpr ha)

theorem small_of {a b c : Int} (hc : c ≠ 0) (ha : a.natAbs ≤ 1000000) (hb : b.natAbs ≤ 1000000) (hcs : c.natAbs ≤ 1000000) : Builtin.Range.small a b c = true := by
  have h1 := rangeSize_toNat a b c
  have h2 := rangeSize_toNat_le a b c
  have h3 : (Builtin.Range.rangeSize a b c).toNat ≤ 2000000 := by lia
  unfold Builtin.Range.small
  have q : (if c > 0 then Builtin.Range.rangeFitsLong (b + (c - 1)) else Builtin.Range.rangeFitsLong (b + (c + 1))) = true := by
    split <;> simp only [Builtin.Range.rangeFitsLong, Bool.and_eq_true, decide_eq_true_eq] <;> lia
  rw [q]
  simp only [Builtin.Range.rangeFitsLong, Bool.and_eq_true, Bool.or_eq_true, decide_eq_true_eq, beq_iff_eq, or_true, and_true]
  lia

theorem byte_rep {h : Heap} {v : Value} {c : UInt8} {u : Tok} (e : v = .int (c.toNat : Int) u) : Rep prog w hot h v (.int (c.toNat : Int)) := by subst e; exact .int _ _

set_option tactic.hygienic true in
theorem iter_ok {v : Value} {d : D} {ds : List D} {tg : Expr} {Q : Value → Shared → Prop} (e : iterD d = some ds) (hh : A.handled = none) (r : Rep prog w hot s.heap v d)
    (hq : ∀ I wr h₂ tk, IterAt prog w A hot tg s.heap ds I wr h₂ → Q (.ref I) { s with heap := h₂, toks := tk }) : wpAny (model prog w) A (pyIter v) Q E s := by
  have new : ∀ o : Obj, o.isFreed = false → (∀ b ∈ [s.heap.objs.size], s.heap.get? b = none ∧ ∃ x, (s.heap.push o).get? b = some x) := fun o ho b hb => by
    rw [List.mem_singleton.mp hb]
    exact ⟨isSome_none (Nat.le_refl _), o, Heap.get?_push_size _ ho⟩
  cases d with
  | list xs =>
    obtain ⟨_, rfl⟩ := ite_of e
    obtain ⟨l, vs, n, rfl, nl, hl, rl⟩ := r.isPlain
    have il : s.heap.IsList l vs := ⟨_, hl, rfl, _, rfl⟩
    have hlt : l ≠ s.heap.objs.size := Nat.ne_of_lt (Heap.lt_size hl)
    refine wpAny_pyIter_list il (hq s.heap.objs.size [s.heap.objs.size] _ _ ⟨new _ rfl, ext_push _ _, fun i h => (h.IsListIter s.heap.objs.size l i ∧ h.IsList l vs) ∧ Stays hot s.heap h, ⟨⟨⟨_, Heap.get?_push_size _ rfl, rfl, rfl⟩, ⟨_, Heap.get?_push_of_some _ hl, rfl, _, rfl⟩⟩, fun b o z0 g => ext_push _ _ b o g⟩, fun hot' he hw => ?_⟩)
    have nl' : ¬ hot' l := fun x => nl (he l _ x hl)
    refine Itr.of_walks (Walks.list hh s.heap.objs.size l hlt vs) (hw _ (by simp)) (by simpa using rl.length) "list_iterator" (by decide)
      (fun i h st => let ⟨o, ho, hc, _⟩ := st.1; ⟨o, ho, hc⟩) (Stays hot s.heap)
      (fun h h' x k => x.frame he k) (fun b hb => ?_) (fun i h v d x hP hd => ?_)
    · rcases List.mem_cons.mp hb with q | q
      · exact .inl q
      · right; rw [List.mem_singleton.mp q]; exact nl'
    · obtain ⟨u, hu, ru⟩ := (rl.mono (x.sees he)).get hd
      have : vs[i]? = some u := by simpa using hu
      rw [this] at hP; cases hP; exact ru
  | tuple xs =>
    obtain ⟨_, rfl⟩ := ite_of e
    obtain ⟨l, vs, rfl, nl, il, rl⟩ := r.isTuple
    obtain ⟨o, ho, hc, k, hd⟩ := id il
    have hlt : l ≠ s.heap.objs.size := Nat.ne_of_lt (Heap.lt_size ho)
    refine wpAny_pyIter_tuple il (hq s.heap.objs.size [s.heap.objs.size] _ _ ⟨new _ rfl, ext_push _ _, fun i h => (h.IsTupleIter s.heap.objs.size l i ∧ h.IsTuple l vs) ∧ Stays hot s.heap h, ⟨⟨⟨_, Heap.get?_push_size _ rfl, rfl, rfl⟩, il.push _⟩, fun b o z0 g => ext_push _ _ b o g⟩, fun hot' he hw => ?_⟩)
    have nl' : ¬ hot' l := fun x => nl (he l _ x ho)
    refine Itr.of_walks (Walks.tuple hh s.heap.objs.size l hlt vs) (hw _ (by simp)) (by simpa using rl.length) "tuple_iterator" (by decide)
      (fun i h st => let ⟨o, ho, hc, _⟩ := st.1; ⟨o, ho, hc⟩) (Stays hot s.heap)
      (fun h h' x k => x.frame he k) (fun b hb => ?_) (fun i h v d x hP hd => ?_)
    · rcases List.mem_cons.mp hb with q | q
      · exact .inl q
      · right; rw [List.mem_singleton.mp q]; exact nl'
    · obtain ⟨u, hu, ru⟩ := (rl.mono (x.sees he)).get hd
      have : vs[i]? = some u := by simpa using hu
      rw [this] at hP; cases hP; exact ru
  | bytes b =>
    obtain ⟨_, rfl⟩ := ite_of e
    obtain ⟨t, rfl⟩ := r.isBytes
    refine KBw.pyIter_bytes (hq s.heap.objs.size [s.heap.objs.size] _ _ ⟨new _ rfl, ext_push _ _, fun i h => KBw.IsBytesIter h s.heap.objs.size b t i ∧ True, ⟨⟨_, Heap.get?_push_size _ rfl, rfl, rfl⟩, trivial⟩, fun hot' he hw => ?_⟩)
    refine Itr.of_walks (KBw.walks hh s.heap.objs.size b t) (hw _ (by simp)) (by simp) "bytes_iterator" (by decide)
      (fun i h st => let ⟨o, ho, hc, _⟩ := st; ⟨o, ho, hc⟩) (fun z0 => True)
      (fun z0 z0 z0 z0 => trivial) (fun b hb => .inl (List.mem_singleton.mp hb)) (fun i h v d x hP hd => ?_)
    obtain ⟨c, u, hc, rfl⟩ := hP
    rw [List.getElem?_map] at hd
    have : b.toList[i]? = some c := by simpa using hc
    rw [this] at hd; cases hd
    exact .int _ _
  | rng a b c =>
    obtain ⟨hk, rfl⟩ := ite_of e
    cases r with
    | rng nr ir =>
      rename_i r t u v
      refine wpAny_pyIter_range ir (small_of hk.1 hk.2.1 hk.2.2.1 hk.2.2.2) (hq s.heap.objs.size [s.heap.objs.size] _ _ ⟨new _ rfl, ext_push _ _, fun i h => IsRangeIter h s.heap.objs.size (a + (i : Nat) * c) (((Builtin.Range.rangeSize a b c).toNat : Int) - (i : Nat)) c ∧ True, ⟨?_, trivial⟩, fun hot' he hw => ?_⟩)
      rotate_left
      · refine Itr.of_walks (Walks.range hh s.heap.objs.size a c (Builtin.Range.rangeSize a b c).toNat) (hw _ (by simp)) (by simp [rngItems]) "range_iterator" (by decide)
          (fun i h st => ⟨_, st, rfl⟩) (fun z0 => True) (fun z0 z0 z0 z0 => trivial) (fun b hb => .inl (List.mem_singleton.mp hb)) (fun i h v d x hP hd => ?_)
        obtain ⟨t, rfl⟩ := hP
        unfold rngItems at hd
        rw [List.getElem?_map] at hd
        cases hr : (List.range (Builtin.Range.rangeSize a b c).toNat)[i]? with
        | none => rw [hr] at hd; cases hd
        | some j =>
          rw [hr] at hd; cases hd
          have := List.getElem?_eq_some_iff.mp hr
          obtain ⟨_, q⟩ := this
          rw [List.getElem_range] at q
          subst q
          exact .int _ _
      · have := Heap.get?_push_size s.heap (o := { cls := .type "range_iterator", data := .fields #[rawInt a, rawInt (Builtin.Range.rangeSize a b c), rawInt c] }) rfl
        show IsRangeIter _ _ (a + ((0 : Nat) : Int) * c) (((Builtin.Range.rangeSize a b c).toNat : Int) - ((0 : Nat) : Int)) c
        rw [← rangeSize_toNat a b c, show a + ((0 : Nat) : Int) * c = a by simp, show Builtin.Range.rangeSize a b c - ((0 : Nat) : Int) = Builtin.Range.rangeSize a b c by simp]
        exact this
  | _ => exact none_ne e
end
end Mine

end

section
namespace Mine
variable {prog : Program} {w : World}
section
variable {A : Around} {E : Value → Shared → Prop} {s : Shared} {hot : Addr → Prop}

theorem enumFrom_get (xs : List D) (k i : Nat) {d : D} (h : (enumFrom k xs)[i]? = some d) : ∃ x, xs[i]? = some x ∧ d = .tuple [.int ((k + i : Nat) : Int), x] := by
  induction xs generalizing k i with
  | nil => simp [enumFrom] at h
  | cons y ys ih =>
    cases i with
    | zero => simp [enumFrom] at h; exact ⟨y, by simp, by rw [← h]; simp⟩
    | succ i =>
      rw [enumFrom, List.getElem?_cons_succ] at h
      obtain ⟨x, hx, rfl⟩ := ih (k + 1) i h
      exact ⟨x, by simpa using hx, by simp only [D.tuple.injEq, List.cons.injEq, D.int.injEq, and_true]; lia⟩
theorem enumFrom_length (xs : List D) (k : Nat) : (enumFrom k xs).length = xs.length := by
  induction xs generalizing k with
  | nil => rfl
  | cons y ys ih => simp [enumFrom, ih]

theorem enum_itr {hot hot' : Addr → Prop} {hb : Heap} {elts : List Expr} {x1 : Nat} {tp : Pos} (hh : A.handled = none) {e it l : Addr} {vs : Array Value} {xs : List D} (hx : HotExt hot hot' hb) (hne : e ≠ it) (nl : ¬ hot' l) (he : hot' e) (hi : hot' it) (rl : Reps prog w hot hb vs.toList xs) :
    Itr prog w A hot' (.Tuple elts x1 tp) e [e, it] (enumFrom 0 xs) (fun i h => ∃ old, IsEnum h e it ((i : Nat) : Int) old ∧ h.IsListIter it l i ∧ h.IsList l vs ∧ Stays hot hb h) where
  hw := fun b hb => by
    rcases List.mem_cons.mp hb with q | q
    · rw [q]; exact he
    · rw [List.mem_singleton.mp q]; exact hi
  frame := fun i h h' ⟨old, a, b, c, d⟩ k => ⟨old, k _ _ (.inr (by simp)) a, b.at fun o x => k _ o (.inr (by simp)) x, c.at fun o x => k _ o (.inl nl) x, d.frame hx fun b o n g => k b o (.inl n) g⟩
  item := fun i d s Q E hd ⟨old, a, b, c, r⟩ H hQ => by
    obtain ⟨x, hx', rfl⟩ := enumFrom_get xs 0 i hd
    obtain ⟨v, hv, rv⟩ := (rl.mono (r.sees hx)).get hx'
    have hv' : vs[i]? = some v := by simpa using hv
    have heH : e < s.heap.objs.size := Heap.lt_size a
    have hiH : it < s.heap.objs.size := let ⟨_, y, _⟩ := b; Heap.lt_size y
    refine wpAny_pyNext_enum_item a b c hv' hne fun h₁ heo hit₁ ht₁ hz₁ hk₁ => ⟨_, rfl, wpAny_letOwnedTupleGo_enum heo fun h₂ he₂ hs₂ => ?_⟩
    replace hs₂ : Heap.SameBut e h₁ h₂ := hs₂
    have k : ∀ b o, b ∉ [e, it] → s.heap.get? b = some o → h₂.get? b = some o := fun b o nb g => by
      simp only [List.mem_cons, List.not_mem_nil, or_false, not_or] at nb
      exact (hs₂.2 b nb.1).trans (hk₁ b o nb.1 nb.2 g)
    have sees : Sees hot' hot' s.heap h₂ := fun b o n g => ⟨n, k b o (fun hb => by
      rcases List.mem_cons.mp hb with q | q
      · rw [q] at n; exact n he
      · rw [List.mem_singleton.mp q] at n; exact n hi) g⟩
    obtain ⟨ol, hol, hcl⟩ := c
    have hit₂ : h₂.IsListIter it l (i + 1) := let ⟨o, ho, q⟩ := hit₁; ⟨o, (hs₂.2 _ (Ne.symm hne)).trans ho, q⟩
    refine hQ (.ref s.heap.objs.size) h₂ _ ?_ ⟨_, he₂, hit₂, ⟨ol, (sees _ _ nl hol).2, hcl⟩, r.frame hx fun b o n g => (sees b o n g).2⟩ k fun b hb => ?_
    · refine .tuple (H.fresh (isSome_none (Nat.le_refl _))) ((hs₂.2 _ (Nat.ne_of_gt heH)).trans ht₁) rfl rfl ?_
      rw [Nat.zero_add]
      exact .cons (.int _ _) (.cons (rv.mono sees) .nil)
    · rcases List.mem_cons.mp hb with q | q
      · rw [q]; exact ⟨_, he₂⟩
      · rw [List.mem_singleton.mp q]; obtain ⟨o, ho, _⟩ := hit₂; exact ⟨o, ho⟩
  done := fun s Q E ⟨old, a, b, c, r⟩ hQ => by
    rw [enumFrom_length] at a b
    have hlen := rl.length
    simp only [Array.length_toList] at hlen
    refine wpAny_pyNext_enum_end hh a b c (by rw [← hlen]; simp) fun h' he' => hQ h' s.toks fun b o hb g => he' b o (fun q => hb (by simp [q])) g
  self := fun i s Q E ⟨old, a, _⟩ hQ => wpAny_pyIter_enum a hQ

theorem enum_ok {v : Value} {xs ds : List D} {elts : List Expr} {x1 : Nat} {tp : Pos} {Q : Value → Shared → Prop} (e : iterD (.list xs) = some ds) (hh : A.handled = none) (r : Rep prog w hot s.heap v (.list xs))
    (hq : ∀ I wr h₂ tk, IterAt prog w A hot (.Tuple elts x1 tp) s.heap (enumFrom 0 ds) I wr h₂ → Q (.ref I) { s with heap := h₂, toks := tk }) :
    wpAny (model prog w) A (call (.type "enumerate") [v]) (fun x s₁ => wpAny (model prog w) A (pyIter x) Q E s₁) E s := by
  obtain ⟨_, rfl⟩ := ite_of e
  obtain ⟨l, vs, n, rfl, nl, hl, rl⟩ := r.isPlain
  refine call_enumerate_list ⟨_, hl, rfl, _, rfl⟩ fun h' he hit hz hk => wpAny_pyIter_enum he ?_
  have lit : s.heap.objs.size < h'.objs.size := by lia
  refine hq (s.heap.objs.size + 1) [s.heap.objs.size + 1, s.heap.objs.size] h' s.toks ⟨fun b hb => ?_, hk, fun i h => ∃ old, IsEnum h (s.heap.objs.size + 1) s.heap.objs.size ((i : Nat) : Int) old ∧ h.IsListIter s.heap.objs.size l i ∧ h.IsList l vs ∧ Stays hot s.heap h, ⟨_, he, hit, ⟨_, hk _ _ hl, rfl, _, rfl⟩, fun b o z0 g => hk b o g⟩, fun hot' hx hw => ?_⟩
  · rcases List.mem_cons.mp hb with q | q
    · rw [q]; exact ⟨isSome_none (Nat.le_succ _), _, he⟩
    · rw [List.mem_singleton.mp q]; obtain ⟨o, ho, _⟩ := hit; exact ⟨isSome_none (Nat.le_refl _), o, ho⟩
  · have nl' : ¬ hot' l := fun x => nl (hx l _ x hl)
    exact enum_itr hh hx (Nat.succ_ne_self _) nl' (hw _ (by simp)) (hw _ (by simp)) rl
end
end Mine

end

section
namespace Mine
variable {prog : Program} {w : World}

noncomputable def isVarK : Option NameKind → Bool
  | some .local => true
  | some .cell => true
  | some .free => true
  | _ => false

noncomputable def VarAt (env : Env) (h : Heap) (x : Str) (v : Value) : Prop :=
  (env.kindOf x = some .local ∧ ∃ m, h.Ns env.locals m ∧ m x = some v) ∨
  ((env.kindOf x = some .cell ∨ env.kindOf x = some .free) ∧ ∃ c, env.cells.lookup x = some c ∧ h.IsCell c (some v))

theorem VarAt.keeps {env : Env} {h h' : Heap} {x : Str} {v : Value} (y : VarAt env h x v) (k : Ext h h') : VarAt env h' x v := by
  rcases y with ⟨a, m, b, c⟩ | ⟨a, c, b, d⟩
  · exact .inl ⟨a, m, b.keeps k, c⟩
  · exact .inr ⟨a, c, b, d.keeps k⟩

noncomputable def KindOk (env : Env) (k : Option NameKind) (x : Str) : Prop := match k with
  | some .local => env.kindOf x = some .local
  | some .cell => (env.kindOf x = some .cell ∨ env.kindOf x = some .free) ∧ ∃ c, env.cells.lookup x = some c
  | some .free => (env.kindOf x = some .cell ∨ env.kindOf x = some .free) ∧ ∃ c, env.cells.lookup x = some c
  | some .globalImplicit => env.kindOf x = some .globalImplicit
  | _ => True

structure EnvOk (env : Env) (sc : Scope) : Prop where
  kind : env.scope.kind = .function
  glb : env.globals = mainGlobals
  blt : env.builtins = builtinsNs
  kinds : ∀ x, KindOk env (sc.names.lookup x) x

/-- the places of a frame -/
noncomputable def PA (env : Env) (b : Addr) : Prop := b = env.locals ∨ ∃ x, env.cells.lookup x = some b
noncomputable def NoVar : Str → Prop := fun z0 => False
/-- the variables that may be read (but for ex) -/
structure View (prog : Program) (w : World) (env : Env) (sc : Scope) (hot : Addr → Prop) (ex : Str → Prop) (ρ : Vars) (h : Heap) : Prop where
  ok : EnvOk env sc
  vars : ∀ x d, ρ.lookup x = some d → isVarK (sc.names.lookup x) = true → x ≠ Str.ofString ".0" → ¬ ex x → ∃ v, Rep prog w hot h v d ∧ VarAt env h x v
  live : ∀ b, PA env b → ∃ o, h.get? b = some o
  sysm : hot sysModules

theorem View.keeps {env : Env} {sc : Scope} {hot : Addr → Prop} {ex : Str → Prop} {ρ : Vars} {h h' : Heap} (V : View prog w env sc hot ex ρ h) (k : Ext h h') : View prog w env sc hot ex ρ h' :=
  ⟨V.ok, fun x d e i j n => let ⟨v, r, a⟩ := V.vars x d e i j n; ⟨v, r.mono k.sees, a.keeps k⟩, fun b p => let ⟨o, g⟩ := V.live b p; ⟨o, k b o g⟩, V.sysm⟩
theorem View.less {env : Env} {sc : Scope} {hot : Addr → Prop} {ex ex' : Str → Prop} {ρ : Vars} {h : Heap} (V : View prog w env sc hot ex ρ h) (k : ∀ x, ex x → ex' x) : View prog w env sc hot ex' ρ h :=
  ⟨V.ok, fun x d e i j n => V.vars x d e i j fun y => n (k x y), V.live, V.sysm⟩

/-- the frame's own places -/
structure Fm (env : Env) (own : List (Str × Addr)) (h : Heap) : Prop where
  ns : ∃ m, h.Ns env.locals m
  cell : ∀ n c, own.lookup n = some c → ∃ v, h.IsCell c v
  sep : ∀ y c, env.cells.lookup y = some c → c ≠ env.locals ∧ ∀ x, own.lookup x = some c → x = y
  sub : ∀ y c, own.lookup y = some c → env.cells.lookup y = some c

noncomputable def FA (env : Env) (own : List (Str × Addr)) (b : Addr) : Prop := b = env.locals ∨ ∃ n, own.lookup n = some b

theorem Fm.keeps {env : Env} {own : List (Str × Addr)} {h h' : Heap} (F : Fm env own h) (k : ∀ b o, FA env own b → h.get? b = some o → h'.get? b = some o) : Fm env own h' :=
  ⟨let ⟨m, e⟩ := F.ns; ⟨m, e.at' fun o q => k _ o (.inl rfl) q⟩, fun n c e => let ⟨v, o, ho, hd⟩ := F.cell n c e; ⟨v, o, k _ o (.inr ⟨n, e⟩) ho, hd⟩, F.sep, F.sub⟩

theorem Fm.pa {env : Env} {own : List (Str × Addr)} {h : Heap} (F : Fm env own h) {b : Addr} (x : FA env own b) : PA env b := by
  rcases x with e | ⟨n, e⟩
  · exact .inl e
  · exact .inr ⟨n, F.sub n b e⟩
theorem VarAt.keepsP {env : Env} {h h' : Heap} {x : Str} {v : Value} (y : VarAt env h x v) (k : ∀ b o, PA env b → h.get? b = some o → h'.get? b = some o) : VarAt env h' x v := by
  rcases y with ⟨a, m, b, c⟩ | ⟨a, c, b, o, ho, hd⟩
  · exact .inl ⟨a, m, b.at' fun o e => k _ o (.inl rfl) e, c⟩
  · exact .inr ⟨a, c, b, o, k c o (.inr ⟨x, b⟩) ho, hd⟩
theorem View.across {env : Env} {sc : Scope} {hot : Addr → Prop} {ex : Str → Prop} {ρ : Vars} {h h' : Heap} (V : View prog w env sc hot ex ρ h) (k : ∀ b o, (¬ hot b ∨ PA env b) → h.get? b = some o → h'.get? b = some o) : View prog w env sc hot ex ρ h' :=
  ⟨V.ok, fun x d e i j n => let ⟨v, r, a⟩ := V.vars x d e i j n; ⟨v, r.mono fun a o n e => ⟨n, k a o (.inl n) e⟩, a.keepsP fun b o p e => k b o (.inr p) e⟩, fun b p => let ⟨o, g⟩ := V.live b p; ⟨o, k b o (.inr p) g⟩, V.sysm⟩

section
variable {M : Model} {A : Around} {E : Value → Shared → Prop} {s : Shared}

/-- one name is stored -/
theorem store_ok {env : Env} {own : List (Str × Addr)} {x : Str} {v : Value} {Q : Unit → Shared → Prop} (hk : env.scope.kind = .function)
    (kx : env.kindOf x = some .local ∨ (env.kindOf x = some .cell ∧ (own.lookup x).isSome = true)) (F : Fm env own s.heap)
    (h : ∀ h' tk, Fm env own h' → (∀ b o, ¬ FA env own b → s.heap.get? b = some o → h'.get? b = some o) → (∀ b, FA env own b → (∃ o, s.heap.get? b = some o) → ∃ o, h'.get? b = some o) → VarAt env h' x v → (∀ y u, y ≠ x → VarAt env s.heap y u → VarAt env h' y u) →
      Q () { s with heap := h', toks := tk }) : wpAny M A (storeName env x v) Q E s := by
  rcases kx with kx | ⟨kx, hc⟩
  · obtain ⟨m, hn⟩ := F.ns
    refine wpAny_storeName_local kx hn (fun h' hn' hs => h h' _ ⟨⟨_, hn'⟩, fun n c e => ?_, F.sep, F.sub⟩ (fun b o nb e => hs.extBut b o (fun q => nb (.inl q)) e) (fun b hb ⟨o, ho⟩ => ?_) (.inl ⟨kx, _, hn', by simp⟩) ?_) (by rw [hk]; rfl)
    · obtain ⟨v, o, ho, hd⟩ := F.cell n c e
      exact ⟨v, o, hs.extBut c o (F.sep n c (F.sub n c e)).1 ho, hd⟩
    · by_cases q : b = env.locals
      · subst q; obtain ⟨o', _, _, ho', _⟩ := hn'; exact ⟨o', ho'⟩
      · exact ⟨o, hs.extBut b o q ho⟩
    · rintro y u ne (⟨a, m', b, c⟩ | ⟨a, c, b, d⟩)
      · obtain ⟨o1, es1, ep1, ho1, hd1, hs1, hf1⟩ := hn
        obtain ⟨o2, es2, ep2, ho2, hd2, hs2, hf2⟩ := b
        rw [ho1] at ho2; cases ho2
        rw [hd1] at hd2; cases hd2
        exact .inl ⟨a, _, hn', by simp only [ne, if_false]; rw [← hf1, hf2]; exact c⟩
      · exact .inr ⟨a, c, b, let ⟨o, ho, hd⟩ := d; ⟨o, hs.extBut c o (F.sep y c b).1 ho, hd⟩⟩
  · replace hc := Option.isSome_iff_exists.mp hc
    obtain ⟨c, hc⟩ := hc
    obtain ⟨v₀, hv⟩ := F.cell x c hc
    have hec := F.sub x c hc
    refine wpAny_storeName_cell hk kx hec hv fun h' hv' hs => h h' _ ⟨?_, fun n c' e => ?_, F.sep, F.sub⟩ (fun b o nb e => hs.extBut b o (fun q => nb (.inr ⟨x, q ▸ hc⟩)) e) (fun b hb ⟨o, ho⟩ => ?_) (.inr ⟨.inl kx, c, hec, hv'⟩) ?_
    · obtain ⟨m, hn⟩ := F.ns
      exact ⟨m, hn.sameBut hs fun q => (F.sep x c hec).1 q.symm⟩
    · by_cases q : c' = c
      · subst q; exact ⟨_, hv'⟩
      · obtain ⟨v, o, ho, hd⟩ := F.cell n c' e
        exact ⟨v, o, hs.extBut c' o q ho, hd⟩
    · by_cases q : b = c
      · subst q; obtain ⟨o', ho', _⟩ := hv'; exact ⟨o', ho'⟩
      · exact ⟨o, hs.extBut b o q ho⟩
    · rintro y u ne (⟨a, m', b, d⟩ | ⟨a, c', b, d⟩)
      · exact .inl ⟨a, m', b.sameBut hs (fun q => (F.sep x c hec).1 q.symm), d⟩
      · refine .inr ⟨a, c', b, ?_⟩
        obtain ⟨o, ho, hd⟩ := d
        exact ⟨o, hs.extBut c' o (fun q => ne (((F.sep y c' b).2 x (q ▸ hc))).symm) ho, hd⟩
end

/-- a name that a frame may store -/
noncomputable def CanStore (env : Env) (own : List (Str × Addr)) (sc : Scope) (x : Str) : Prop :=
  (sc.names.lookup x = some .local ∧ env.kindOf x = some .local) ∨ (sc.names.lookup x = some .cell ∧ env.kindOf x = some .cell ∧ (own.lookup x).isSome = true)

section
variable {A : Around} {E : Value → Shared → Prop} {s : Shared} {hot : Addr → Prop} {env : Env} {own : List (Str × Addr)} {sc : Scope} {ρ : Vars}

theorem View.put {ex : Str → Prop} {h h' : Heap} {x : Str} {v : Value} {d : D} (V : View prog w env sc hot ex ρ h) (hF : ∀ b, FA env own b → hot b) (k : ∀ b o, ¬ FA env own b → h.get? b = some o → h'.get? b = some o)
    (l : ∀ b, FA env own b → (∃ o, h.get? b = some o) → ∃ o, h'.get? b = some o) (r : Rep prog w hot h v d) (a : VarAt env h' x v) (o : ∀ y u, y ≠ x → VarAt env h y u → VarAt env h' y u) : View prog w env sc hot (fun y => ex y ∧ y ≠ x) ((x, d) :: ρ) h' := by
  have sees : Sees hot hot h h' := fun b o n e => ⟨n, k b o (fun y => n (hF b y)) e⟩
  refine ⟨V.ok, fun y e he hi hj hn => ?_, fun b p => ?_, V.sysm⟩
  · rw [List.lookup_cons] at he
    by_cases q : y = x
    · subst q
      simp at he; subst he
      exact ⟨v, r.mono sees, a⟩
    have : (y == x) = false := by simpa using q
    rw [this] at he
    obtain ⟨u, ru, au⟩ := V.vars y e he hi hj fun z => hn ⟨z, q⟩
    exact ⟨u, ru.mono sees, o y u q au⟩
  · by_cases f : FA env own b
    · exact l b f (V.live b p)
    · obtain ⟨q, g⟩ := V.live b p; exact ⟨q, k b q f g⟩

set_option tactic.hygienic true in
/-- several names, in their order -/
theorem storeAll_ok (hk : env.scope.kind = .function) (hF : ∀ b, FA env own b → hot b) : ∀ (es : List Expr) (xs : List Str) (ds : List D) (vs : List Value) (ex : Str → Prop) (ρ ρ' : Vars) (s : Shared) (Q : Unit → Shared → Prop),
    targetNames es = some xs → bindV xs ds ρ = some ρ' → (∀ x ∈ xs, CanStore env own sc x) → Fm env own s.heap → View prog w env sc hot ex ρ s.heap → Reps prog w hot s.heap vs ds →
    (∀ h' tk, Fm env own h' → (∀ b o, ¬ FA env own b → s.heap.get? b = some o → h'.get? b = some o) → (∀ b, FA env own b → (∃ o, s.heap.get? b = some o) → ∃ o, h'.get? b = some o) → View prog w env sc hot (fun y => ex y ∧ y ∉ xs) ρ' h' → Q () { s with heap := h', toks := tk }) →
    wpAny (model prog w) A (assignInOrder ((assignEach es env).map (·.2)) vs) Q E s
  | [], xs, ds, vs, ex, ρ, ρ', s, Q, e1, e2, _, F, V, r, h => by
    cases e1
    cases ds with
    | cons d ds => cases e2
    | nil =>
      cases e2
      cases r
      exact wpAny_pure (h s.heap s.toks F (fun z0 z0 z0 x => x) (fun z0 z0 x => x) (V.less fun x y => ⟨y, by simp⟩))
  | e :: es, xs, ds, vs, ex, ρ, ρ', s, Q, e1, e2, hc, F, V, r, h => by
    cases targetNames_is e1 with
    | @mk x px ys h1 h2 =>
        subst h2
        clear e1
        cases ds with
        | nil => cases e2
        | cons d ds =>
          cases r with
          | @cons v vs _ _ r1 r2 =>
            show wpAny _ A (do holding vs (assign (.Name x px) env v); assignInOrder ((assignEach es env).map (·.2)) vs) Q E s
            refine wpAny_bind (wpAny_holding (wpAny_assign_Name (store_ok (own := own) hk ?_ F fun h₁ tk F₁ k₁ l₁ a o => ?_)))
            · rcases hc x List.mem_cons_self with q | q
              · exact .inl q.2
              · exact .inr q.2
            · have sees : Sees hot hot s.heap h₁ := fun b o n e => ⟨n, k₁ b o (fun y => n (hF b y)) e⟩
              refine storeAll_ok hk hF es ys ds vs _ _ ρ' _ Q h1 e2 (fun y hy => hc y (List.mem_cons_of_mem _ hy)) F₁ (V.put hF k₁ l₁ r1 a o) (r2.mono sees) fun h₂ tk₂ F₂ k₂ l₂ V₂ => ?_
              exact h h₂ tk₂ F₂ (fun b o n e => k₂ b o n (k₁ b o n e)) (fun b hb e => l₂ b hb (l₁ b hb e)) (V₂.less fun x y => ⟨y.1.1, fun z => (List.mem_cons.mp z).elim y.1.2 y.2⟩)

theorem assignEach_names : ∀ (es : List Expr) (xs : List Str), targetNames es = some xs → (assignEach es env).length = xs.length ∧ (assignEach es env).findIdx? (·.1) = none
  | [], xs, e => by cases e; exact ⟨rfl, rfl⟩
  | e :: es, xs, h => by
    cases targetNames_is h with
    | @mk x px ys h1 h2 =>
      subst h2
      obtain ⟨a, b⟩ := assignEach_names es ys h1
      refine ⟨congrArg Nat.succ a, ?_⟩
      show List.findIdx? _ ((false, assign (.Name x px) env) :: assignEach es env) = none
      rw [List.findIdx?_cons, b]
      rfl

theorem bindV_len : ∀ {xs : List Str} {ds : List D} {ρ ρ' : Vars}, bindV xs ds ρ = some ρ' → xs.length = ds.length
  | [], [], _, _, _ => rfl
  | [], _ :: _, _, _, e => by cases e
  | _ :: _, [], _, _, e => by cases e
  | _ :: xs, _ :: ds, ρ, ρ', e => by have := bindV_len (xs := xs) (ds := ds) e; simp [this]

noncomputable def targetsOf : Expr → List Str
  | .Name x _ => [x]
  | .Tuple es _ _ => (targetNames es).getD []
  | _ => []

theorem bindV_lookup : ∀ {xs : List Str} {ds : List D} {ρ ρ' : Vars} {x : Str}, bindV xs ds ρ = some ρ' → x ∉ xs → ρ'.lookup x = ρ.lookup x
  | [], [], _, _, _, e, _ => by cases e; rfl
  | [], _ :: _, _, _, _, e, _ => by cases e
  | _ :: _, [], _, _, _, e, _ => by cases e
  | y :: xs, d :: ds, ρ, ρ', x, e, h => by
    rw [bindV_lookup (xs := xs) (ds := ds) e (fun q => h (List.mem_cons_of_mem _ q)), List.lookup_cons]
    have : (x == y) = false := by simpa using fun q : x = y => h (q ▸ List.mem_cons_self)
    rw [this]
theorem bindT_lookup {tg : Expr} {d : D} {ρ ρ' : Vars} {x : Str} (e : bindT tg d ρ = some ρ') (h : x ∉ targetsOf tg) : ρ'.lookup x = ρ.lookup x := by
  cases bindT_is e with
  | @name y _ _ he =>
    subst he
    have : (x == y) = false := by simpa [targetsOf] using h
    rw [List.lookup_cons, this]
  | tup h1 h2 => exact bindV_lookup h2 (by simpa [targetsOf, h1] using h)

/-- a target takes its value -/
theorem assign_ok {ex : Str → Prop} {tg : Expr} {d : D} {v : Value} {ρ' : Vars} {Q : Unit → Shared → Prop} (hh : A.handled = none) (hk : env.scope.kind = .function) (hF : ∀ b, FA env own b → hot b) (e : bindT tg d ρ = some ρ')
    (hc : ∀ x ∈ targetsOf tg, CanStore env own sc x) (F : Fm env own s.heap) (V : View prog w env sc hot ex ρ s.heap) (r : Rep prog w hot s.heap v d)
    (h : ∀ h' tk, Fm env own h' → (∀ b o, ¬ FA env own b → s.heap.get? b = some o → h'.get? b = some o) → (∀ b, FA env own b → (∃ o, s.heap.get? b = some o) → ∃ o, h'.get? b = some o) → View prog w env sc hot (fun y => ex y ∧ y ∉ targetsOf tg) ρ' h' → Q () { s with heap := h', toks := tk }) :
    wpAny (model prog w) A (assign tg env v) Q E s := by
  cases bindT_is e with
  | @name x px _ he =>
    subst he
    refine wpAny_assign_Name (store_ok (own := own) hk ?_ F fun h₁ tk F₁ k₁ l₁ a o => ?_)
    · rcases hc x (by simp [targetsOf]) with q | q
      · exact .inl q.2
      · exact .inr q.2
    · exact h h₁ tk F₁ k₁ l₁ ((V.put hF k₁ l₁ r a o).less fun x y => ⟨y.1, by simpa [targetsOf] using y.2⟩)
  | @tup es k p xs ds h1 e2 =>
    obtain ⟨t, vs, rfl, nt, ht, rt⟩ := r.isTuple
    obtain ⟨a, b⟩ := assignEach_names (env := env) es xs h1
    have hl := bindV_len e2
    have hl2 := rt.length
    simp only [Array.length_toList] at hl2
    refine wpAny_assign_Tuple hh ht (by rw [a, hl, hl2]) b fun h₁ x₁ => ?_
    replace x₁ : Heap.ExtBut s.heap.objs.size s.heap h₁ := x₁
    have k₁ : Ext s.heap h₁ := fun b o g => x₁ b o (Nat.ne_of_lt (Heap.lt_size g)) g
    refine storeAll_ok (own := own) hk hF es xs ds _ _ _ ρ' _ Q h1 e2 (fun x hx => hc x (by simpa [targetsOf, h1] using hx)) (F.keeps fun b o z0 g => k₁ b o g) (V.keeps k₁) (rt.mono k₁.sees) fun h₂ tk₂ F₂ k₂ l₂ V₂ => ?_
    exact h h₂ tk₂ F₂ (fun b o n g => k₂ b o n (k₁ b o g)) (fun b hb ⟨o, g⟩ => l₂ b hb ⟨o, k₁ b o g⟩) (V₂.less fun x y => ⟨y.1, by simpa [targetsOf, h1] using y.2⟩)
end
end Mine

end

section
namespace Mine
variable {prog : Program} {w : World}

section
variable {A : Around} {R : Result → Shared → Prop} {s : Shared}

/-- one turn of the loop of a list comprehension -/
noncomputable def LT (prog : Program) (w : World) (A : Around) (R : Result → Shared → Prop) (elt target iter : Expr) (ifs : List Expr) (it acc : Value) (env : Env) (N : Shared → Prop) (s : Shared) : Prop :=
  wpAny (model prog w) A (pyNext it) (fun r s₁ => match r with
      | none => R (.ok .next) s₁
      | some v => wpAny (model prog w) A (letOwnedTupleGo target it v) (fun z0 s₁' => wpAny (model prog w) A (assign target env v) (fun z0 s₂ =>
          wpAny (model prog w) A (forIn ifs true fun c r => if r = true then do let ok ← isTrue c env (eval c env); pure (ForInStep.yield ok) else pure (ForInStep.yield r)) (fun ok s₃ =>
            if ok = true then wpAny (model prog w) A (eval elt env) (fun x s₄ =>
              wpAny (model prog w) A (call (.builtin "list.append") [acc, x]) (fun z0 s₅ => N s₅) (notedBy (model prog w) A env fun e s' => R (.error e) s') s₄) (notedBy (model prog w) A env fun e s' => R (.error e) s') s₃
            else N s₃) (notedBy (model prog w) A env fun e s' => R (.error e) s') s₂) (notedBy (model prog w) A env fun e s' => R (.error e) s') s₁') (notedBy (model prog w) A env fun e s' => R (.error e) s') s₁) (notedBy (model prog w) A env fun e s' => R (.error e) s') s

/-- a turn of a list comprehension, whatever its target and its iterator -/
theorem codeAny_compLoop_any {elt target iter : Expr} {ifs : List Expr} {scope : Scope} {pos : Pos} {it acc : Value} {env : Env} (I : Nat → Shared → Prop)
    (turn : ∀ n s, I n s → LT prog w A R elt target iter ifs it acc env (fun s' => ∃ m, m < n ∧ I m s') s)
    (n : Nat) (h : I n s) :
    codeAny (model prog w) A (.compLoop (.ListComp elt [⟨target, iter, ifs, 0⟩] scope pos) 0 it acc env) R s := by
  refine codeAny_loop rfl I (fun n s hI => ?_) n h
  show wpAny _ A ((compTurn (.ListComp elt [⟨target, iter, ifs, 0⟩] scope pos) 0 it acc env).onRaise (fun x => do noteFrame x env; theTreesLotGoes x)) _ _ s
  refine wpAny_noted ?_
  rw [compTurn_list]
  refine wpAny_bind (wpAny_standAt (wpAny_bind (wpAny_mono (turn n s hI) (fun r s₁ h₁ => ?_) fun z0 z0 h' => h')))
  cases r with
  | none => exact wpAny_pure h₁
  | some v =>
    refine wpAny_bind (wpAny_mono h₁ (fun z0 s₁' h₁' => ?_) fun z0 z0 h' => h')
    refine wpAny_bind (wpAny_mono h₁' (fun z0 s₂ h₂ => wpAny_bind (wpAny_mono h₂ (fun ok s₃ h₃ => ?_) fun z0 z0 h' => h')) fun z0 z0 h' => h')
    cases ok with
    | false => exact wpAny_pure ⟨rfl, h₃⟩
    | true =>
      exact wpAny_bind (wpAny_bind (wpAny_mono h₃ (fun x s₄ h₄ => wpAny_bind (wpAny_mono h₄ (fun z0 s₅ h₅ => wpAny_pure (wpAny_pure ⟨rfl, h₅⟩)) fun z0 z0 h' => h')) fun z0 z0 h' => h'))

theorem codeAny_compLoop_anyD {kx vx target iter : Expr} {ifs : List Expr} {scope : Scope} {pos : Pos} {it : Value} {D : Addr} {env : Env} (I : Nat → Shared → Prop)
    (turn : ∀ n s, I n s → wpAny (model prog w) A (pyNext it) (fun r s₁ => match r with
      | none => R (.ok .next) s₁
      | some v => wpAny (model prog w) A (letOwnedTupleGo target it v) (fun z0 s₁' => wpAny (model prog w) A (assign target env v) (fun z0 s₂ =>
          wpAny (model prog w) A (forIn ifs true fun c r => if r = true then do let ok ← isTrue c env (eval c env); pure (ForInStep.yield ok) else pure (ForInStep.yield r)) (fun ok s₃ =>
            if ok = true then wpAny (model prog w) A (eval kx env) (fun kv s₄ => wpAny (model prog w) A (eval vx env) (fun vv s₅ =>
              wpAny (model prog w) A (dictSet D kv vv) (fun z0 s₆ => ∃ m, m < n ∧ I m s₆) (notedBy (model prog w) A env fun e s' => R (.error e) s') s₅) (notedBy (model prog w) A env fun e s' => R (.error e) s') s₄) (notedBy (model prog w) A env fun e s' => R (.error e) s') s₃
            else ∃ m, m < n ∧ I m s₃) (notedBy (model prog w) A env fun e s' => R (.error e) s') s₂) (notedBy (model prog w) A env fun e s' => R (.error e) s') s₁') (notedBy (model prog w) A env fun e s' => R (.error e) s') s₁) (notedBy (model prog w) A env fun e s' => R (.error e) s') s)
    (n : Nat) (h : I n s) :
    codeAny (model prog w) A (.compLoop (.DictComp kx vx [⟨target, iter, ifs, 0⟩] scope pos) 0 it (.ref D) env) R s := by
  refine codeAny_loop rfl I (fun n s hI => ?_) n h
  show wpAny _ A ((compTurn (.DictComp kx vx [⟨target, iter, ifs, 0⟩] scope pos) 0 it (.ref D) env).onRaise (fun x => do noteFrame x env; theTreesLotGoes x)) _ _ s
  refine wpAny_noted ?_
  rw [compTurn_dict]
  refine wpAny_bind (wpAny_standAt (wpAny_bind (wpAny_mono (turn n s hI) (fun r s₁ h₁ => ?_) fun z0 z0 h' => h')))
  cases r with
  | none => exact wpAny_pure h₁
  | some v =>
    refine wpAny_bind (wpAny_mono h₁ (fun z0 s₁' h₁' => ?_) fun z0 z0 h' => h')
    refine wpAny_bind (wpAny_mono h₁' (fun z0 s₂ h₂ => wpAny_bind (wpAny_mono h₂ (fun ok s₃ h₃ => ?_) fun z0 z0 h' => h')) fun z0 z0 h' => h')
    cases ok with
    | false => exact wpAny_pure ⟨rfl, h₃⟩
    | true =>
      exact wpAny_bind (wpAny_bind (wpAny_mono h₃ (fun kv s₄ h₄ => wpAny_bind (wpAny_holding (wpAny_mono h₄ (fun vv s₅ h₅ => wpAny_bind (wpAny_standAt (wpAny_holding (wpAny_mono h₅ (fun z0 s₆ h₆ => wpAny_pure ⟨rfl, h₆⟩) fun z0 z0 h' => h')))) fun z0 z0 h' => h'))) fun z0 z0 h' => h'))
end

/-- the items of a comprehension that stand already -/
structure Made (prog : Program) (w : World) (hot : Addr → Prop) (fx : Bool) (h₀ h : Heap) (vs : List Value) (ds : List D) : Prop where
  reps : Reps prog w hot h vs ds
  fresh : fx = true → ∃ bs : List Addr, vs = bs.map .ref ∧ bs.Nodup ∧ ∀ b ∈ bs, h₀.get? b = none ∧ ∃ o, h.get? b = some o

theorem Made.nil {hot : Addr → Prop} {fx : Bool} {h₀ h : Heap} : Made prog w hot fx h₀ h [] [] := ⟨.nil, fun z0 => ⟨[], rfl, List.nodup_nil, fun z0 hb => by cases hb⟩⟩
theorem Made.step {hot : Addr → Prop} {fx : Bool} {h₀ h h' : Heap} {vs : List Value} {ds : List D} (M : Made prog w hot fx h₀ h vs ds) (k : Sees hot hot h h') (l : ∀ b, h₀.get? b = none → (∃ o, h.get? b = some o) → ∃ o, h'.get? b = some o) : Made prog w hot fx h₀ h' vs ds :=
  ⟨M.reps.mono k, fun e => let ⟨bs, a, b, c⟩ := M.fresh e; ⟨bs, a, b, fun x hx => ⟨(c x hx).1, l x (c x hx).1 (c x hx).2⟩⟩⟩
theorem Made.add {hot : Addr → Prop} {fx : Bool} {h₀ h h' : Heap} {vs : List Value} {ds : List D} {v : Value} {d : D} (M : Made prog w hot fx h₀ h' vs ds) (r : Rep prog w hot h' v d)
    (f : fx = true → ∃ a, v = .ref a ∧ h.get? a = none ∧ ∃ o, h'.get? a = some o) (l : ∀ b, (∃ o, h₀.get? b = some o) → ∃ o, h.get? b = some o) (hl : fx = true → ∀ b, Value.ref b ∈ vs → ∃ o, h.get? b = some o) :
    Made prog w hot fx h₀ h' (vs ++ [v]) (ds ++ [d]) := by
  refine ⟨M.reps.append (.one r), fun e => ?_⟩
  obtain ⟨bs, rfl, b, c⟩ := M.fresh e
  obtain ⟨a, rfl, fa, la⟩ := f e
  refine ⟨bs ++ [a], by simp, ?_, fun x hx => ?_⟩
  · rw [List.nodup_append]
    refine ⟨b, by simp, fun x hx y hy q => ?_⟩
    rw [List.mem_singleton] at hy
    subst hy; subst q
    obtain ⟨o, ho⟩ := hl e x (List.mem_map.mpr ⟨x, hx, rfl⟩)
    rw [fa] at ho; cases ho
  · rcases List.mem_append.mp hx with q | q
    · exact c x q
    · rw [List.mem_singleton] at q
      subst q
      refine ⟨?_, la⟩
      cases g : h₀.get? x with
      | none => rfl
      | some o => obtain ⟨o', ho⟩ := l x ⟨o, g⟩; rw [fa] at ho; cases ho

/-- what the parts of a comprehension do -/
structure CompDoes (prog : Program) (w : World) (A : Around) (hot : Addr → Prop) (sc : Scope) (env : Env) (hb : Heap) (ifs : List Expr) (elt : Expr) (fx : Bool) (tst : Vars → Option Bool) (el : Vars → Option D) : Prop where
  tests : ∀ ρ b (s : Shared) (Q : Bool → Shared → Prop) (E : Value → Shared → Prop), tst ρ = some b → View prog w env sc hot NoVar ρ s.heap → HotIn hot s.heap → Ext hb s.heap → (∀ s', Keeps s s' → Q b s') →
    wpAny (model prog w) A (forIn ifs true fun c r => if r = true then do let ok ← isTrue c env (eval c env); pure (ForInStep.yield ok) else pure (ForInStep.yield r)) Q E s
  elt : ∀ ρ d (s : Shared) (Q : Value → Shared → Prop) (E : Value → Shared → Prop), el ρ = some d → View prog w env sc hot NoVar ρ s.heap → HotIn hot s.heap → Ext hb s.heap →
    (∀ v s', Keeps s s' → Rep prog w hot s'.heap v d → (fx = true → ∃ a, v = .ref a ∧ s.heap.get? a = none ∧ ∃ o, s'.heap.get? a = some o) → Q v s') → wpAny (model prog w) A (eval elt env) Q E s

section
variable {A : Around} {R : Result → Shared → Prop} {s : Shared} {hot : Addr → Prop} {env : Env} {own : List (Str × Addr)} {sc : Scope} {ρ : Vars} {hb : Heap}

noncomputable def Turn (tg : Expr) (ρ : Vars) (tst : Vars → Option Bool) (el : Vars → Option D) (d : D) : Option (Option D) :=
  (bindT tg d ρ).bind fun ρ' => (tst ρ').bind fun b => if b then (el ρ').bind fun x => some (some x) else some none

/-- the step of a loop over the items -/
inductive TurnIs (tg : Expr) (ρ : Vars) (tst : Vars → Option Bool) (el : Vars → Option D) (items : List D) (i : Nat) : List D → Prop
  | skip {d ρ' dr} : items[i]? = some d → bindT tg d ρ = some ρ' → tst ρ' = some false → compO (Turn tg ρ tst el) (items.drop (i + 1)) = some dr → TurnIs tg ρ tst el items i dr
  | put {d ρ' x dr} : items[i]? = some d → bindT tg d ρ = some ρ' → tst ρ' = some true → el ρ' = some x → compO (Turn tg ρ tst el) (items.drop (i + 1)) = some dr → TurnIs tg ρ tst el items i (x :: dr)
theorem turn_is {tg : Expr} {ρ : Vars} {tst : Vars → Option Bool} {el : Vars → Option D} {items dr : List D} {i : Nat} (he : compO (Turn tg ρ tst el) (items.drop i) = some dr) (hlt : i < items.length) : TurnIs tg ρ tst el items i dr := by
  have hd : items[i]? = some items[i] := List.getElem?_eq_getElem hlt
  rw [List.drop_eq_getElem_cons hlt] at he
  generalize items[i] = d at hd he
  obtain ⟨o, ht, he⟩ := Option.bind_eq_some_iff.mp (show (Turn tg ρ tst el d).bind _ = some dr from he)
  replace he := Option.bind_eq_some_iff.mp he
  obtain ⟨dr', hr, he⟩ := he
  obtain ⟨ρ', hbt, ht⟩ := Option.bind_eq_some_iff.mp (show (bindT tg d ρ).bind _ = some o from ht)
  replace ht := Option.bind_eq_some_iff.mp ht
  obtain ⟨b, htt, ht⟩ := ht
  cases b with
  | false => cases ht; cases he; exact .skip hd hbt htt hr
  | true =>
    obtain ⟨x, hel, ht⟩ := Option.bind_eq_some_iff.mp (show (el ρ').bind _ = some o from ht)
    cases ht; cases he; exact .put hd hbt htt hel hr

section
variable (prog w hot env own sc ρ)
/-- where the loop stands -/
inductive LoopIs (tg : Expr) (wr : List Addr) (D' : Addr) (St : Nat → Heap → Prop) (fx : Bool) (tst : Vars → Option Bool) (el : Vars → Option D) (items ds : List D) (s : Shared) (n : Nat) (s' : Shared) : Prop
  | mk (h' : Heap) (tk i : Nat) (vs : Array Value) (dd dr : List D) (hs : s' = { s with heap := h', toks := tk }) (hi : i ≤ items.length) (hn : n = items.length - i) (hst : St i h') (hpl : h'.PlainList D' vs) (hM : Made prog w hot fx s.heap h' vs.toList dd)
    (he : compO (Turn tg ρ tst el) (items.drop i) = some dr) (hds : ds = dd ++ dr) (hV : View prog w env sc hot (fun x => x ∈ targetsOf tg) ρ h') (hFm : Fm env own h') (hH : HotIn hot h')
    (hkp : ∀ b o, ¬ FA env own b → b ∉ wr → b ≠ D' → s.heap.get? b = some o → h'.get? b = some o) (hvs : vs.size ≤ i) (hlive : ∀ b, (∃ o, s.heap.get? b = some o) → ∃ o, h'.get? b = some o) : LoopIs tg wr D' St fx tst el items ds s n s'
end

theorem compLoop_ok {elt tg iter : Expr} {ifs : List Expr} {scope : Scope} {pos : Pos} {I D' : Addr} {wr : List Addr} {items ds : List D} {St : Nat → Heap → Prop} {fx : Bool} {tst : Vars → Option Bool} {el : Vars → Option D}
    (hh : A.handled = none) (It : Itr prog w A hot tg I wr items St) (C : CompDoes prog w A hot sc env hb ifs elt fx tst el)
    (hF : ∀ b, FA env own b → hot b) (hD : hot D') (hPA : ∀ b, PA env b → b ∉ wr ∧ b ≠ D') (hDw : D' ∉ wr) (hbF : ∀ b o, hb.get? b = some o → ¬ FA env own b ∧ b ∉ wr ∧ b ≠ D')
    (hc : ∀ x ∈ targetsOf tg, CanStore env own sc x) (e : compO (Turn tg ρ tst el) items = some ds)
    (F : Fm env own s.heap) (V : View prog w env sc hot (fun x => x ∈ targetsOf tg) ρ s.heap) (hD0 : s.heap.PlainList D' #[]) (st : St 0 s.heap) (H : HotIn hot s.heap) (hE : Ext hb s.heap) (hsz : items.length ≤ sizeLine)
    (hR : ∀ h' tk vs, Fm env own h' → h'.PlainList D' vs → Made prog w hot fx s.heap h' vs.toList ds → (∀ b o, ¬ FA env own b → b ∉ wr → b ≠ D' → s.heap.get? b = some o → h'.get? b = some o) → (∀ b, hot b → b ∉ wr → ∃ o, h'.get? b = some o) → R (.ok .next) { s with heap := h', toks := tk }) :
    codeAny (model prog w) A (.compLoop (.ListComp elt [⟨tg, iter, ifs, 0⟩] scope pos) 0 (.ref I) (.ref D') env) R s := by
  have hk := V.ok.kind
  refine codeAny_compLoop_any (LoopIs prog w hot env own sc ρ tg wr D' St fx tst el items ds s) ?_ items.length
    (.mk s.heap s.toks 0 #[] [] ds rfl (Nat.zero_le _) rfl st hD0 .nil e rfl V F H (fun z0 z0 z0 z0 z0 x => x) (Nat.le_refl _) fun z0 x => x)
  intro n s' L
  obtain ⟨h', tk, i, vs, dd, dr, hs, hi, hn, hst, hpl, hM, he, hds, hV, hFm, hH, hkp, hvs, hlive⟩ := L
  subst hs hn
  by_cases hlt : i < items.length
  · have main : ∀ {d ρ' b}, items[i]? = some d → bindT tg d ρ = some ρ' → tst ρ' = some b →
        (b = false → compO (Turn tg ρ tst el) (items.drop (i + 1)) = some dr) → (b = true → ∃ x dr', el ρ' = some x ∧ dr = x :: dr' ∧ compO (Turn tg ρ tst el) (items.drop (i + 1)) = some dr') →
        LT prog w A R elt tg iter ifs (.ref I) (.ref D') env (fun s'' => ∃ m, m < items.length - i ∧ LoopIs prog w hot env own sc ρ tg wr D' St fx tst el items ds s m s'') { s with heap := h', toks := tk } := by
            intro d ρ' b hd hbt htt hfalse htrue
            refine It.turn i d (fun v s₁ x => x) hd hst hH fun v h₁ tk₁ rv hst₁ hk₁ hl₁ => ?_
            have hFm₁ : Fm env own h₁ := hFm.keeps fun b o fb g => hk₁ b o (hPA b (hFm.pa fb)).1 g
            have hV₁ : View prog w env sc hot (fun x => x ∈ targetsOf tg) ρ h₁ := hV.across fun b o hb' g => hk₁ b o (fun hw => by
              rcases hb' with nb | p
              · exact nb (It.hw b hw)
              · exact (hPA b p).1 hw) g
            refine assign_ok (own := own) hh hk hF hbt hc hFm₁ hV₁ rv fun h₂ tk₂ hFm₂ hk₂ hl₂ hV₂ => ?_
            have hV₂' : View prog w env sc hot NoVar ρ' h₂ := hV₂.less fun x y => y.2 y.1
            -- what stands
            have kp₂ : ∀ b o, ¬ FA env own b → b ∉ wr → h'.get? b = some o → h₂.get? b = some o := fun b o nf nw g => hk₂ b o nf (hk₁ b o nw g)
            have live₂ : ∀ b, (∃ o, h'.get? b = some o) → ∃ o, h₂.get? b = some o := fun b ⟨o, g⟩ => by
              by_cases q : b ∈ wr
              · obtain ⟨o', g'⟩ := hl₁ b q
                exact ⟨o', hk₂ b o' (fun f => (hPA b (hFm.pa f)).1 q) g'⟩
              · have g₁ := hk₁ b o q g
                by_cases f : FA env own b
                · exact hl₂ b f ⟨o, g₁⟩
                · exact ⟨o, hk₂ b o f g₁⟩
            have hH₂ : HotIn hot h₂ := fun b hb' => live₂ b (hH b hb')
            have hE₂ : Ext hb h₂ := fun b o g => let ⟨x, y, z⟩ := hbF b o g; kp₂ b o x y (hkp b o x y z (hE b o g))
            have sees₂ : Sees hot hot h' h₂ := fun b o nb g => ⟨nb, kp₂ b o (fun f => nb (hF b f)) (fun hw => nb (It.hw b hw)) g⟩
            have hst₂ : St (i + 1) h₂ := It.frame _ _ _ hst₁ fun b o hb' g => hk₂ b o (fun f => by
              rcases hb' with nb | p
              · exact nb (hF b f)
              · exact (hPA b (hFm.pa f)).1 p) g
            have hpl₂ : h₂.PlainList D' vs := hpl.at fun o g => kp₂ D' o (fun f => (hPA D' (hFm.pa f)).2 rfl) hDw g
            refine C.tests ρ' b _ _ _ htt hV₂' hH₂ hE₂ fun s₃ hk₃ => ?_
            obtain ⟨h₃, tk₃, rfl, k₃⟩ := hk₃
            -- the outer variables again
            have hVo : ∀ h₄, (∀ b o, b ≠ D' → h₂.get? b = some o → h₄.get? b = some o) → View prog w env sc hot (fun x => x ∈ targetsOf tg) ρ h₄ := fun h₄ k => by
              have q : View prog w env sc hot (fun x => x ∈ targetsOf tg) ρ h₂ := ⟨hV₂'.ok, fun x d he hi hj hn => hV₂'.vars x d (by rw [bindT_lookup hbt hn]; exact he) hi hj fun z => z, hV₂'.live, hV₂'.sysm⟩
              exact q.across fun b o hb' g => k b o (fun e => by
                subst e
                rcases hb' with nb | p
                · exact nb hD
                · exact (hPA b p).2 rfl) g
            cases b with
            | false =>
              exact ⟨items.length - (i + 1), by omega, .mk h₃ tk₃ (i + 1) vs dd dr rfl hlt rfl (It.frame _ _ _ hst₂ (fun b o z0 g => k₃ b o g)) (hpl₂.at fun o g => k₃ _ o g) ((hM.step sees₂ fun b z0 g => live₂ b g).step (fun b o nb g => ⟨nb, k₃ b o g⟩) (fun b _ ⟨o, g⟩ => ⟨o, k₃ b o g⟩)) (hfalse rfl) hds (hVo h₃ fun b o z0 g => k₃ b o g) (hFm₂.keeps fun b o z0 g => k₃ b o g) (hH₂.ext k₃) (fun b o nf nw nd g => k₃ b o (kp₂ b o nf nw (hkp b o nf nw nd g))) (Nat.le_succ_of_le hvs) fun b x => let ⟨o, g⟩ := live₂ b (hlive b x); ⟨o, k₃ b o g⟩⟩
            | true =>
              obtain ⟨x, dr', hel, rfl, hr⟩ := htrue rfl
              refine C.elt ρ' x _ _ _ hel (hV₂'.keeps k₃) (hH₂.ext k₃) (fun b o g => k₃ b o (hE₂ b o g)) fun y s₄ hk₄ ry fy => ?_
              obtain ⟨h₄, tk₄, rfl, k₄⟩ := hk₄
              have k₃₄ : Ext h₂ h₄ := fun b o g => k₄ b o (k₃ b o g)
              refine wpAny_list_append_plain (hsz := by omega) (hpl₂.at fun o g => k₃₄ _ o g) fun h₅ hl₅ hs₅ => ?_
              have hDn : ¬ FA env own D' := fun f => (hPA D' (hFm.pa f)).2 rfl
              have k₅ : ∀ b o, b ≠ D' → h₂.get? b = some o → h₅.get? b = some o := fun b o nd g => hs₅.extBut b o nd (k₃₄ b o g)
              have hFm₅ : Fm env own h₅ := hFm₂.keeps fun b o f g => k₅ b o (hPA b (hFm.pa f)).2 g
              have sees₄₅ : Sees hot hot h₄ h₅ := fun b o nb g => ⟨nb, hs₅.extBut b o (fun q => nb (q ▸ hD)) g⟩
              have live₄₅ : ∀ b, (∃ o, h₄.get? b = some o) → ∃ o, h₅.get? b = some o := fun b ⟨o, g⟩ => by
                by_cases q : b = D'
                · subst q; obtain ⟨n, z⟩ := hl₅; exact ⟨_, z⟩
                · exact ⟨o, hs₅.extBut b o q g⟩
              have hM₃ : Made prog w hot fx s.heap h₃ vs.toList dd := (hM.step sees₂ fun b z0 g => live₂ b g).step (fun b o nb g => ⟨nb, k₃ b o g⟩) (fun b _ ⟨o, g⟩ => ⟨o, k₃ b o g⟩)
              have hM₄ := hM₃.step (h' := h₄) (fun b o nb g => ⟨nb, k₄ b o g⟩) (fun b _ ⟨o, g⟩ => ⟨o, k₄ b o g⟩)
              have hM₄' : Made prog w hot fx s.heap h₄ (vs.toList ++ [y]) (dd ++ [x]) := hM₄.add (h := h₃) ry fy (fun b g => let ⟨o, z⟩ := live₂ b (hlive b g); ⟨o, k₃ b o z⟩) fun ef b hb' => by
                obtain ⟨bs, e1, _, e3⟩ := hM₃.fresh ef
                rw [e1] at hb'
                obtain ⟨b', hb1, hb2⟩ := List.mem_map.mp hb'
                cases hb2
                exact (e3 _ hb1).2
              refine ⟨items.length - (i + 1), by omega, .mk h₅ tk₄ (i + 1) (vs.push y) (dd ++ [x]) dr' rfl hlt rfl (It.frame _ _ _ hst₂ (fun b o hb' g => k₅ b o (fun q => by
                  subst q
                  rcases hb' with nb | p
                  · exact nb hD
                  · exact hDw p) g)) hl₅ (by simpa using hM₄'.step sees₄₅ fun b z0 g => live₄₅ b g) hr (by rw [hds]; simp) (hVo h₅ k₅) hFm₅ (fun b hb' => live₄₅ b (let ⟨o, z⟩ := hH₂ b hb'; ⟨o, k₃₄ b o z⟩)) (fun b o nf nw nd g => k₅ b o nd (kp₂ b o nf nw (hkp b o nf nw nd g))) (by rw [Array.size_push]; omega)
                  fun b g => live₄₅ b (let ⟨o, z⟩ := live₂ b (hlive b g); ⟨o, k₃₄ b o z⟩)⟩
    exact match turn_is he hlt with
      | .skip a b c d => main a b c (fun z0 => d) fun e => by cases e
      | .put a b c d e => main a b c (fun e => by cases e) fun z0 => ⟨_, _, d, rfl, e⟩
  · have hii : i = items.length := by omega
    subst hii
    refine It.done _ _ _ hst fun h₁ tk₁ hk₁ => ?_
    rw [List.drop_length] at he
    cases he
    rw [List.append_nil] at hds
    subst hds
    exact hR h₁ tk₁ vs (hFm.keeps fun b o f g => hk₁ b o (hPA b (hFm.pa f)).1 g) (hpl.at fun o g => hk₁ _ o hDw g) (by simpa using hM.step (fun b o nb g => ⟨nb, hk₁ b o (fun q => nb (It.hw b q)) g⟩) fun b n ⟨o, g⟩ => ⟨o, hk₁ b o (fun q => by obtain ⟨o', z⟩ := H b (It.hw b q); rw [n] at z; cases z) g⟩)
      (fun b o nf nw nd g => hk₁ b o nw (hkp b o nf nw nd g)) fun b hb' nw => let ⟨o, g⟩ := hH b hb'; ⟨o, hk₁ b o nw g⟩
end
end Mine

end

section
namespace Mine
variable {prog : Program} {w : World}

noncomputable def clOf (env : Env) : List (Str × NameKind) → List (Str × Addr) → List (Str × Addr)
  | [], acc => acc
  | (n, k) :: r, acc => if k == .free then clOf env r ((n, (env.cells.lookup n).getD 0) :: acc) else clOf env r acc

theorem closureFor_eq {env : Env} {scope : Scope} (h : ∀ n, (n, NameKind.free) ∈ scope.names → ∃ c, env.cells.lookup n = some c) : closureFor scope env = pure (clOf env scope.names []) := by
  unfold closureFor
  have key : ∀ (names : List (Str × NameKind)) (acc : List (Str × Addr)), (∀ n, (n, NameKind.free) ∈ names → ∃ c, env.cells.lookup n = some c) →
      (forIn names acc fun x (cs : List (Str × Addr)) => if (x.2 == NameKind.free) = true then do let a ← cellOf env x.1; pure (ForInStep.yield ((x.1, a) :: cs)) else pure (ForInStep.yield cs) : Sem (List (Str × Addr))) = pure (clOf env names acc) := by
    intro names
    induction names with
    | nil => intro acc _; rfl
    | cons x r ih =>
      intro acc hx
      obtain ⟨n, k⟩ := x
      rw [List.forIn_cons]
      by_cases hk : (k == NameKind.free) = true
      · obtain ⟨c, hc⟩ := hx n (by rw [beq_iff_eq] at hk; subst hk; exact List.mem_cons_self)
        simp only [hk, if_true, clOf, hc, Option.getD_some]
        rw [show cellOf env n = pure c by unfold cellOf; rw [hc]]
        simp only [pure_bind]
        exact ih _ fun m hm => hx m (List.mem_cons_of_mem _ hm)
      · simp only [hk, clOf]
        simp only [Bool.false_eq_true, if_false, pure_bind]
        exact ih _ fun m hm => hx m (List.mem_cons_of_mem _ hm)
  exact (bind_congr fun z0 => rfl).trans (by rw [key scope.names [] h]; rfl)

theorem lookup_of_mem {α : Type} : ∀ {l : List (Str × α)} {n : Str} {k : α}, (l.map (·.1)).Nodup → (n, k) ∈ l → l.lookup n = some k
  | (m, j) :: r, n, k, hn, hm => by
    rw [List.map_cons, List.nodup_cons] at hn
    rw [List.lookup_cons]
    rcases List.mem_cons.mp hm with e | hm'
    · cases e; simp
    · have : (n == m) = false := by
        rw [beq_eq_false_iff_ne]; intro e
        exact hn.1 (List.mem_map.mpr ⟨(n, k), hm', e⟩)
      rw [this]; exact lookup_of_mem hn.2 hm'

theorem clOf_lookup {env : Env} {x : Str} : ∀ (names : List (Str × NameKind)) (acc : List (Str × Addr)), (names.map (·.1)).Nodup →
    ((x, NameKind.free) ∈ names → (clOf env names acc).lookup x = some ((env.cells.lookup x).getD 0)) ∧ ((x, NameKind.free) ∉ names → (clOf env names acc).lookup x = acc.lookup x)
  | [], acc, _ => ⟨fun h => absurd h List.not_mem_nil, fun z0 => rfl⟩
  | (n, k) :: r, acc, hn => by
    rw [List.map_cons, List.nodup_cons] at hn
    unfold clOf
    by_cases hk : (k == NameKind.free) = true
    · simp only [hk, if_true]
      have ih := clOf_lookup (env := env) (x := x) r ((n, (env.cells.lookup n).getD 0) :: acc) hn.2
      have hk' : k = .free := by simpa using hk
      subst hk'
      by_cases hx : x = n
      · subst hx
        have hnr : (x, NameKind.free) ∉ r := fun h => hn.1 (List.mem_map.mpr ⟨_, h, rfl⟩)
        exact ⟨fun z0 => by rw [ih.2 hnr]; simp, fun h => absurd List.mem_cons_self h⟩
      · refine ⟨fun h => ih.1 ?_, fun h => ?_⟩
        · rcases List.mem_cons.mp h with e | h
          · cases e; exact absurd rfl hx
          · exact h
        · rw [ih.2 fun q => h (List.mem_cons_of_mem _ q), List.lookup_cons]
          have : (x == n) = false := by simpa using hx
          rw [this]
    · simp only [hk, Bool.false_eq_true, if_false]
      have ih := clOf_lookup (env := env) (x := x) r acc hn.2
      refine ⟨fun h => ih.1 ?_, fun h => ih.2 fun q => h (List.mem_cons_of_mem _ q)⟩
      rcases List.mem_cons.mp h with e | h
      · cases e; simp at hk
      · exact h

theorem cellsFrom_append : ∀ (names : List (Str × NameKind)) (n : Nat) (acc : List (Str × Addr)), cellsFrom n names acc = cellsFrom n names [] ++ acc
  | [], _, _ => rfl
  | (x, k) :: r, n, acc => by
    unfold cellsFrom
    split
    · rw [cellsFrom_append r (n + 1) ((x, n) :: acc), cellsFrom_append r (n + 1) [(x, n)]]; simp
    · exact cellsFrom_append r n acc

theorem cellsFrom_mem : ∀ {names : List (Str × NameKind)} {n : Nat} {x : Str} {c : Addr}, (x, c) ∈ cellsFrom n names [] → (x, NameKind.cell) ∈ names
  | (y, k) :: r, n, x, c, h => by
    unfold cellsFrom at h
    split at h
    · rename_i hk
      rw [cellsFrom_append] at h
      rcases List.mem_append.mp h with h | h
      · exact List.mem_cons_of_mem _ (cellsFrom_mem h)
      · rw [List.mem_singleton] at h; cases h
        have : k = .cell := by simpa using hk
        subst this; exact List.mem_cons_self
    · exact List.mem_cons_of_mem _ (cellsFrom_mem h)
theorem cellsFrom_some : ∀ {names : List (Str × NameKind)} {n : Nat} {x : Str}, (x, NameKind.cell) ∈ names → ((cellsFrom n names []).lookup x).isSome = true
  | (y, k) :: r, n, x, h => by
    unfold cellsFrom
    rcases List.mem_cons.mp h with e | h
    · cases e
      simp only [beq_self_eq_true, if_true]
      rw [cellsFrom_append, List.lookup_append]
      simp
    · split
      · rw [cellsFrom_append, List.lookup_append]
        have := cellsFrom_some (n := n + 1) h
        obtain ⟨c, hc⟩ := Option.isSome_iff_exists.mp this
        rw [hc]; rfl
      · exact cellsFrom_some h
theorem lookup_none_of {α : Type} : ∀ {l : List (Str × α)} {x : Str}, (∀ c, (x, c) ∉ l) → l.lookup x = none
  | [], _, _ => rfl
  | (y, c) :: r, x, h => by
    have : (x == y) = false := by rw [beq_eq_false_iff_ne]; rintro rfl; exact h c List.mem_cons_self
    rw [List.lookup_cons, this]
    exact lookup_none_of fun c hc => h c (List.mem_cons_of_mem _ hc)

theorem lookup_map {α β : Type} (g : Str → α → β) (x : Str) : ∀ l : List (Str × α), (l.map fun p => (p.1, g p.1 p.2)).lookup x = (l.lookup x).map (g x)
  | [] => rfl
  | (n, k) :: r => by
    rw [List.map_cons, List.lookup_cons, List.lookup_cons]
    cases hx : x == n with
    | true => have e : x = n := by simpa using hx
              subst e; rfl
    | false => exact lookup_map g x r
theorem relabel_lookup (scope : Scope) (env : Env) (x : Str) : (relabel scope env).names.lookup x = (scope.names.lookup x).map fun k => if (k == .free && env.scope.kind == .function && env.kindOf x == some .cell) then .cell else k := by
  have q := lookup_map (fun n k => if (k == NameKind.free && env.scope.kind == .function && env.kindOf n == some .cell) then NameKind.cell else k) x scope.names
  refine Eq.trans ?_ q
  unfold relabel
  dsimp only
  congr 1
  refine List.map_congr_left fun p z0 => ?_
  obtain ⟨n, k⟩ := p
  dsimp only
  split <;> rfl

/-- the scope of a comprehension, and of what stands around it -/
structure ScopeOk (sc' sc : Scope) (tgs : List Str) : Prop where
  kind : sc'.kind = .function
  nodup : (sc'.names.map (·.1)).Nodup
  free : ∀ n, (n, NameKind.free) ∈ sc'.names → sc.names.lookup n = some .cell ∨ sc.names.lookup n = some .free
  tg : ∀ x ∈ tgs, sc'.names.lookup x = some .local ∨ sc'.names.lookup x = some .cell
  own : ∀ n k, (n, k) ∈ sc'.names → k = .local ∨ k = .cell → n = Str.ofString ".0" ∨ n ∈ tgs

section
variable {M : Model} {A : Around} {E : Value → Shared → Prop} {s : Shared}

theorem newCompEnv {scope : Scope} {env : Env} {cl : List (Str × Addr)} {Q : Env → Shared → Prop}
    (h : Q (newEnv scope s.heap.objs.size env.globals (cellsFrom (s.heap.objs.size + 1) scope.names cl) env.qual none .none (some env) builtinsNs) { s with heap := pushCells (s.heap.push { cls := .type "dict", data := .dict #[] }) scope.names }) :
    wpAny M A (newFunctionEnv scope env.globals cl [] env.qual none .none (some env)) Q E s := by
  simp only [newFunctionEnv, Option.isSome_some, if_true]
  refine wpAny_bind (wpAny_alloc ?_)
  refine wpAny_bind (wpAny_layCells _ (fun name kind cells => by cases hkc : kind == NameKind.cell <;> simp [hkc]) _ _ _ _ ?_)
  rw [show ({ s with heap := s.heap.push { cls := .type "dict", data := .dict #[] } } : Shared).heap.objs.size = s.heap.objs.size + 1 from Heap.size_push ..]
  rw [List.forIn_nil]
  exact wpAny_bind (wpAny_pure (wpAny_pure h))
end
end Mine

end

section
namespace Mine
variable {prog : Program} {w : World}

section
variable {A : Around} {E : Value → Shared → Prop} {s : Shared} {hot : Addr → Prop} {env : Env} {sc sc' : Scope} {ρ : Vars} {hb : Heap}

noncomputable def cEnv (sc' : Scope) (env : Env) (C : Addr) : Env :=
  { newEnv sc' C env.globals (cellsFrom (C + 1) sc'.names (clOf env sc'.names [])) env.qual none .none (some env) builtinsNs with scope := relabel sc' env }
noncomputable def cOwn (sc' : Scope) (C : Addr) : List (Str × Addr) := cellsFrom (C + 1) sc'.names []

theorem cEnv_cells (C : Addr) : (cEnv sc' env C).cells = cOwn sc' C ++ clOf env sc'.names [] := cellsFrom_append _ _ _

theorem cEnv_kindOf (C : Addr) (x : Str) : (cEnv sc' env C).kindOf x = (sc'.names.lookup x).map fun k => if (k == .free && env.scope.kind == .function && env.kindOf x == some .cell) then .cell else k := relabel_lookup sc' env x

theorem cEnv_own {tgs : List Str} (S : ScopeOk sc' sc tgs) {C : Addr} {x : Str} (h : sc'.names.lookup x = some .cell) : ∃ c, (cOwn sc' C).lookup x = some c ∧ (cEnv sc' env C).cells.lookup x = some c := by
  obtain ⟨c, hc⟩ := Option.isSome_iff_exists.mp (cellsFrom_some (n := C + 1) (mem_of_lookup h))
  exact ⟨c, hc, by rw [cEnv_cells, List.lookup_append, show (cOwn sc' C).lookup x = some c from hc]; rfl⟩
theorem cEnv_free {tgs : List Str} (S : ScopeOk sc' sc tgs) {C : Addr} {x : Str} (h : sc'.names.lookup x = some .free) : (cEnv sc' env C).cells.lookup x = some ((env.cells.lookup x).getD 0) := by
  have hm := mem_of_lookup h
  have hn : (cOwn sc' C).lookup x = none := lookup_none_of fun c hc => by
    have := lookup_of_mem S.nodup (cellsFrom_mem hc)
    rw [h] at this; cases this
  rw [cEnv_cells, List.lookup_append, hn, Option.none_or]
  exact (clOf_lookup sc'.names [] S.nodup).1 hm

theorem cEnv_ok {tgs : List Str} (S : ScopeOk sc' sc tgs) (O : EnvOk env sc) (C : Addr) : EnvOk (cEnv sc' env C) sc' := by
  refine ⟨S.kind, O.glb, O.blt, fun x => ?_⟩
  unfold KindOk
  cases h : sc'.names.lookup x with
  | none => trivial
  | some k =>
    have hk := cEnv_kindOf (sc' := sc') (env := env) C x
    rw [h] at hk
    cases k with
    | «local» => exact hk
    | cell =>
      obtain ⟨c, _, hc⟩ := cEnv_own (env := env) S (C := C) h
      exact ⟨.inl hk, c, hc⟩
    | free =>
      refine ⟨?_, _, cEnv_free (env := env) S h⟩
      rw [hk, Option.map_some]
      split
      · exact .inl rfl
      · exact .inr rfl
    | globalExplicit => trivial
    | globalImplicit => exact hk

theorem kinds_free {x : Str} {tgs : List Str} (S : ScopeOk sc' sc tgs) (O : EnvOk env sc) (h : sc'.names.lookup x = some .free) : (env.kindOf x = some .cell ∨ env.kindOf x = some .free) ∧ ∃ c, env.cells.lookup x = some c := by
  have q := O.kinds x
  rcases S.free x (mem_of_lookup h) with e | e <;> (rw [e] at q; exact q)

theorem comp_core {elt tg iter : Expr} {ifs : List Expr} {pos : Pos} {I : Addr} {wr : List Addr} {items ds : List D} {fx : Bool} {tst : Vars → Option Bool} {el : Vars → Option D} {h₁ : Heap} {s₂ : Shared} {RR : Value → Addr → Result → Shared → Prop}
    (hh : A.handled = none) (S : ScopeOk sc' sc (targetsOf tg)) (V : View prog w env sc hot NoVar ρ h₁) (H : HotIn hot s₂.heap) (hE : Ext hb s₂.heap) (hE1 : Ext hb h₁) (hX : Ext h₁ s₂.heap)
    (It : IterAt prog w A hot tg h₁ items I wr s₂.heap)
    (C : ∀ cenv hot', EnvOk cenv sc' → CompDoes prog w A hot' sc' cenv hb ifs elt fx tst el)
    (e : compO (Turn tg ρ tst el) items = some ds) (hsz : items.length ≤ sizeLine)
    (hRR : ∀ D' C h' tk vs m, s₂.heap.get? D' = none → s₂.heap.get? C = none → D' ≠ C → h'.Ns C m → h'.PlainList D' vs → (∃ hm, Ext s₂.heap hm ∧ (∃ o, hm.get? D' = some o) ∧ Made prog w (fun b => hot b ∨ b = D' ∨ b = C) fx hm h' vs.toList ds) →
      (∀ b o, b ∉ wr → s₂.heap.get? b = some o → h'.get? b = some o) → RR (.ref D') C (.ok .next) { s₂ with heap := h', toks := tk }) :
    wpAny (model prog w) A (newList []) (fun acc s₃ => wpAny (model prog w) A (newFunctionEnv sc' env.globals (clOf env sc'.names []) [] env.qual none .none (some env)) (fun cenv s₄ =>
      codeAny (model prog w) A (.compStart (.ListComp elt [⟨tg, iter, ifs, 0⟩] sc' pos) 0 (.ref I) acc { cenv with scope := relabel sc' env }) (RR acc cenv.locals) s₄) E s₃) E s₂ := by
  refine wpAny_newObj_type (newCompEnv ?_)
  dsimp only
  generalize hH3 : s₂.heap.push { cls := .type "list", dict := none, data := .seq ([] : List Value).toArray } = H3
  have hC : H3.objs.size = s₂.heap.objs.size + 1 := by rw [← hH3, Heap.size_push]
  generalize hCC : H3.objs.size = CC at hC
  generalize hH4 : pushCells (H3.push { cls := .type "dict", data := .dict #[] }) sc'.names = H4
  generalize hDD : s₂.heap.objs.size = DD at hC
  have fresh2 : ∀ a, DD ≤ a → s₂.heap.get? a = none := fun a ha => isSome_none (by rw [hDD]; exact ha)
  have old : Ext s₂.heap H4 := fun b o g => by
    rw [← hH4]
    exact pushCells_keeps _ _ b o (Heap.get?_push_of_some _ (by rw [← hH3]; exact Heap.get?_push_of_some _ g))
  have hD4 : H4.get? DD = some { cls := .type "list", dict := none, data := .seq ([] : List Value).toArray } := by
    rw [← hH4]
    exact pushCells_keeps _ _ _ _ (Heap.get?_push_of_some _ (by rw [← hH3, ← hDD]; exact Heap.get?_push_size _ rfl))
  have hC4 : H4.get? CC = some { cls := .type "dict", data := .dict #[] } := by
    rw [← hH4]
    exact pushCells_keeps _ _ _ _ (by rw [← hCC]; exact Heap.get?_push_size _ rfl)
  have hNs : H4.Ns CC fun z0 => none := by
    have := Heap.Ns.new H3 (.type "dict")
    rw [hCC] at this
    exact this.keeps fun b o g => by rw [← hH4]; exact pushCells_keeps _ _ b o g
  have hcells := cellsFrom_ok sc'.names (H3.push { cls := .type "dict", data := .dict #[] }) (CC + 1) [] ⟨fun z0 z0 hm => (nomatch hm), List.Pairwise.nil⟩ (by rw [Heap.size_push, hCC]; exact Nat.le_refl _)
  rw [Heap.size_push, hCC, hH4] at hcells
  have hown : ∀ n (c : Nat), (cOwn sc' CC).lookup n = some c → H4.IsCell c none ∧ CC + 1 ≤ c := fun n c hc => hcells.empty n c (mem_of_lookup hc)
  -- the places of the frame
  have hcl : ∀ x c, (clOf env sc'.names []).lookup x = some c → ∃ o, h₁.get? c = some o := fun x c hc => by
    by_cases hm : (x, NameKind.free) ∈ sc'.names
    · rw [(clOf_lookup sc'.names [] S.nodup).1 hm] at hc
      obtain ⟨_, c', hc'⟩ := kinds_free S V.ok (lookup_of_mem S.nodup hm)
      rw [hc'] at hc; cases hc
      exact V.live c' (.inr ⟨x, hc'⟩)
    · rw [(clOf_lookup sc'.names [] S.nodup).2 hm] at hc; cases hc
  have hPAc : ∀ b : Nat, PA (cEnv sc' env CC) b → b = CC ∨ CC + 1 ≤ b ∨ ∃ o, h₁.get? b = some o := fun b hb' => by
    rcases hb' with q | ⟨x, q⟩
    · exact .inl q
    · rw [cEnv_cells, List.lookup_append] at q
      cases ho : (cOwn sc' CC).lookup x with
      | some c => rw [ho] at q; cases q; exact .inr (.inl (hown x b ho).2)
      | none => rw [ho, Option.none_or] at q; exact .inr (.inr (hcl x b q))
  have wrold : ∀ b ∈ wr, h₁.get? b = none ∧ ∃ o, s₂.heap.get? b = some o := It.1
  have ltD : ∀ (b : Nat) o, s₂.heap.get? b = some o → b < DD := fun b o g => by rw [← hDD]; exact Heap.lt_size g
  have hF : ∀ b : Nat, FA (cEnv sc' env CC) (cOwn sc' CC) b → CC ≤ b := fun b hb' => by
    rcases hb' with q | ⟨n, q⟩
    · exact Nat.le_of_eq q.symm
    · have := (hown n b q).2; lia
  let hot' : Addr → Prop := fun b => hot b ∨ b ∈ wr ∨ b = DD ∨ FA (cEnv sc' env CC) (cOwn sc' CC) b
  have hext : HotExt hot hot' h₁ := fun b o hb' g => by
    rcases hb' with q | q | q | q
    · exact q
    · rw [(wrold b q).1] at g; cases g
    · have h1 := ltD b o (hX b o g); rw [q] at h1; exact absurd h1 (Nat.lt_irrefl _)
    · have h1 := ltD b o (hX b o g); have h2 := hF b q; lia
  have hext2 : HotExt hot (fun b => hot b ∨ b ∈ wr ∨ b = DD ∨ FA (cEnv sc' env CC) (cOwn sc' CC) b) h₁ := hext
  obtain ⟨St, st0, Itr⟩ := It.2.2
  have Itr' := Itr hot' hext fun b hb' => .inr (.inl hb')
  have hFm : Fm (cEnv sc' env CC) (cOwn sc' CC) H4 := by
    refine ⟨⟨_, hNs⟩, fun n c hc => ⟨none, (hown n c hc).1⟩, fun y c hc => ?_, fun y c hc => ?_⟩
    · refine ⟨fun q => ?_, fun x hx => ?_⟩
      · rw [cEnv_cells, List.lookup_append] at hc
        have q' : c = CC := q
        cases ho : (cOwn sc' CC).lookup y with
        | some c' => rw [ho] at hc; cases hc; have := (hown y c ho).2; rw [q'] at this; exact absurd this (Nat.not_succ_le_self _)
        | none =>
          rw [ho, Option.none_or] at hc
          obtain ⟨o, g⟩ := hcl y c hc
          have := ltD c o (hX c o g); rw [q'] at this; lia
      · rw [cEnv_cells, List.lookup_append] at hc
        cases ho : (cOwn sc' CC).lookup y with
        | some c' =>
          rw [ho] at hc; cases hc
          exact name_of_addr hcells.apart (mem_of_lookup hx) (mem_of_lookup ho)
        | none =>
          rw [ho, Option.none_or] at hc
          obtain ⟨o, g⟩ := hcl y c hc
          have h1 := ltD c o (hX c o g)
          have h2 := (hown x c hx).2
          lia
    · rw [cEnv_cells, List.lookup_append, hc]; rfl
  have hVc : View prog w (cEnv sc' env CC) sc' hot' (fun x => x ∈ targetsOf tg) ρ H4 := by
    refine ⟨cEnv_ok S V.ok CC, fun x d he hi hj hn => ?_, fun b p => ?_, .inl V.sysm⟩
    rotate_left
    · rcases p with q | ⟨x, q⟩
      · have q' : b = CC := q
        rw [q']; exact ⟨_, hC4⟩
      · rw [cEnv_cells, List.lookup_append] at q
        cases ho : (cOwn sc' CC).lookup x with
        | some c => rw [ho] at q; cases q; obtain ⟨⟨o, g, _⟩, _⟩ := hown x b ho; exact ⟨o, g⟩
        | none => rw [ho, Option.none_or] at q; obtain ⟨o, g⟩ := hcl x b q; exact ⟨o, old b o (hX b o g)⟩
    cases hk : sc'.names.lookup x with
    | none => rw [hk] at hi; cases hi
    | some k =>
      have notown : k ≠ .local ∧ k ≠ .cell := by
        have := S.own x k (mem_of_lookup hk)
        refine ⟨fun q => ?_, fun q => ?_⟩
        · rcases this (.inl q) with z | z
          · exact hj z
          · exact hn z
        · rcases this (.inr q) with z | z
          · exact hj z
          · exact hn z
      rw [hk] at hi
      cases k with
      | free =>
        obtain ⟨ko, c, hc⟩ := kinds_free S V.ok hk
        have hsv : isVarK (sc.names.lookup x) = true := by rcases S.free x (mem_of_lookup hk) with z | z <;> rw [z] <;> rfl
        obtain ⟨v, rv, av⟩ := V.vars x d he hsv hj fun z => z
        refine ⟨v, ?_, .inr ⟨?_, c, ?_, ?_⟩⟩
        · exact rv.mono (hext.sees fun b o g => old b o (hX b o g))
        · rw [cEnv_kindOf, hk, Option.map_some]
          split
          · exact .inl rfl
          · exact .inr rfl
        · rw [cEnv_free (env := env) S hk, hc]; rfl
        · rcases av with ⟨z, _⟩ | ⟨_, c', hc', o, ho, hd⟩
          · rcases ko with y | y <;> rw [y] at z <;> cases z
          · rw [hc] at hc'; cases hc'
            exact ⟨o, old c o (hX c o ho), hd⟩
      | _ => first | exact absurd rfl notown.1 | exact absurd rfl notown.2 | cases hi
  have hDF : ∀ b, PA (cEnv sc' env CC) b → b ∉ wr ∧ b ≠ DD := fun b hb' => by
    rcases hPAc b hb' with q | q | ⟨o, g⟩
    · subst q
      refine ⟨fun z => ?_, by rw [hC]; exact Nat.succ_ne_self _⟩
      obtain ⟨_, o, g⟩ := wrold _ z
      have := ltD _ o g; lia
    · refine ⟨fun z => ?_, fun z => ?_⟩
      · obtain ⟨_, o, g⟩ := wrold _ z
        have := ltD _ o g; lia
      · rw [z] at q; lia
    · refine ⟨fun z => ?_, fun z => ?_⟩
      · rw [(wrold b z).1] at g; cases g
      · have := ltD b o (hX b o g); rw [z] at this; exact Nat.lt_irrefl _ this
  have hDw : DD ∉ wr := fun z => by
    obtain ⟨_, o, g⟩ := wrold _ z
    exact Nat.lt_irrefl _ (ltD _ o g)
  have hHot : HotIn hot' H4 := fun b hb' => by
    rcases hb' with q | q | q | q
    · obtain ⟨o, g⟩ := H b q; exact ⟨o, old b o g⟩
    · obtain ⟨_, o, g⟩ := wrold b q; exact ⟨o, old b o g⟩
    · rw [q]; exact ⟨_, hD4⟩
    · rcases q with q | ⟨n, q⟩
      · have q' : b = CC := q
        rw [q']; exact ⟨_, hC4⟩
      · obtain ⟨⟨o, ho, _⟩, _⟩ := hown n b q; exact ⟨o, ho⟩
  have loop : ∀ s₃ : Shared, s₃ = { s₂ with heap := H4 } →
      codeAny (model prog w) A (.compLoop (.ListComp elt [⟨tg, iter, ifs, 0⟩] sc' pos) 0 (.ref I) (.ref DD) (cEnv sc' env CC)) (RR (.ref DD) CC) s₃ := by
    rintro s₃ rfl
    refine compLoop_ok (own := cOwn sc' CC) (hot := hot') (sc := sc') (ρ := ρ) (hb := hb) (fx := fx) (tst := tst) (el := el) (ds := ds) hh Itr' (C _ _ (cEnv_ok S V.ok CC)) (fun b f => .inr (.inr (.inr f))) (.inr (.inr (.inl rfl))) hDF hDw
      (fun b o g => ?_) (fun x hx => ?_) e hFm hVc ⟨0, hD4⟩ (Itr'.frame _ _ _ st0 fun b o z0 g => old b o g) hHot (fun b o g => old b o (hE b o g)) hsz fun h' tk vs hFm' hpl hM hk hl => ?_
    · have g1 := hE1 b o g
      refine ⟨fun f => ?_, fun z => ?_, fun z => ?_⟩
      · have h1 := ltD b o (hX b o g1); have h2 := hF b f; lia
      · rw [(wrold b z).1] at g1; cases g1
      · have h1 := ltD b o (hX b o g1); rw [z] at h1; exact Nat.lt_irrefl _ h1
    · rcases S.tg x hx with q | q
      · exact .inl ⟨q, by rw [cEnv_kindOf, q]; rfl⟩
      · obtain ⟨c, h1, _⟩ := cEnv_own (env := env) S (C := CC) q
        exact .inr ⟨q, by rw [cEnv_kindOf, q]; rfl, by rw [h1]; rfl⟩
    · obtain ⟨m, hm⟩ := hFm'.ns
      refine hRR DD CC h' tk vs m (fresh2 DD (Nat.le_refl _)) (fresh2 CC (by lia)) (by rw [hC]; exact Nat.ne_of_lt (Nat.lt_succ_self _)) hm hpl ?_ fun b o nw g => ?_
      · refine ⟨H4, old, ⟨_, hD4⟩, hM.reps.mono fun a o na g => ⟨fun z => na ?_, g⟩, hM.fresh⟩
        rcases z with z | z | z
        · exact .inl z
        · exact .inr (.inr (.inl z))
        · exact .inr (.inr (.inr (.inl z)))
      · exact hk b o (fun f => by have h1 := ltD b o g; have h2 := hF b f; lia) nw (fun z => by have h1 := ltD b o g; rw [z] at h1; exact Nat.lt_irrefl _ h1) (old b o g)
  have st1 : St 0 H4 := Itr'.frame _ _ _ st0 fun b o z0 g => old b o g
  exact codeAny_compStart_list (loop _ rfl) (Itr'.self 0 _ _ _ st1 (loop _ rfl))
end
end Mine

end

section
namespace Mine
variable {prog : Program} {w : World}

noncomputable def okName (x : Str) : Bool := !(x == Str.ofString "__debug__") && !(x == Str.ofString "__classdict__") && !(x == Str.ofString ".0")
noncomputable def isNameL (e : Expr) : Bool := match e with | .Name _ _ => true | _ => false
noncomputable def tgOk (e : Expr) : Bool := match e with | .Name _ _ => true | .Tuple es _ _ => es.all isNameL | _ => false
noncomputable def isTup (e : Expr) : Bool := match e with | .Tuple _ _ _ => true | _ => false
noncomputable def isEnumCall (e : Expr) : Bool := match e with | .Call g _ _ _ => nameX g == some (Str.ofString "enumerate") | _ => false
noncomputable def enumOk (e : Expr) : Bool := match e with | .Call g args kws _ => (nameX g).isSome && args.length == 1 && kws.isEmpty | _ => false
noncomputable def isCallE (e : Expr) : Bool := match e with | .Call _ _ _ _ => true | _ => false
noncomputable def cellLike (o : Option NameKind) : Bool := o == some .cell || o == some .free
noncomputable def storable (o : Option NameKind) : Bool := o == some .cell || o == some .local
theorem is_or {o a b : Option NameKind} (h : (o == a || o == b) = true) : o = a ∨ o = b := (Bool.or_eq_true_iff.mp h).imp eq_of_beq eq_of_beq

noncomputable def scopeB (sc' sc : Scope) (tgs : List Str) : Bool :=
  decide (sc'.kind = .function) && decide ((sc'.names.map (·.1)).Nodup) && sc'.names.all (fun p => !(p.2 == .free) || cellLike (sc.names.lookup p.1)) &&
  tgs.all (fun x => storable (sc'.names.lookup x)) && sc'.names.all fun p => !(p.2 == .local || p.2 == .cell) || p.1 == Str.ofString ".0" || tgs.contains p.1

theorem scopeB_ok {sc' sc : Scope} {tgs : List Str} (h : scopeB sc' sc tgs = true) : ScopeOk sc' sc tgs := by
  simp only [scopeB, Bool.and_eq_true, decide_eq_true_eq, List.all_eq_true, Bool.or_eq_true, Bool.not_eq_true'] at h
  obtain ⟨⟨⟨⟨h1, h2⟩, h3⟩, h4⟩, h5⟩ := h
  refine ⟨h1, h2, fun n hn => ?_, fun x hx => ?_, fun n k hn hk => ?_⟩
  · rcases h3 _ hn with q | q
    · simp at q
    · exact is_or q
  · exact (is_or (h4 x hx)).symm
  · rcases h5 _ hn with (q | q) | q
    · rcases hk with rfl | rfl <;> simp at q
    · exact .inl (by simpa using q)
    · exact .inr (by simpa using q)

mutual
noncomputable def wfE : Expr → Scope → Bool
  | .Constant _ _ _, _ => true
  | .Name x _, _ => okName x
  | .BoolOp _ vs _, sc => wfEach vs sc
  | .BinOp l _ r _, sc => wfE l sc && wfE r sc
  | .UnaryOp _ x _, sc => wfE x sc
  | .IfExp t b o _, sc => wfE t sc && wfE b sc && wfE o sc
  | .List es _, sc => wfEach es sc
  | .Tuple es _ _, sc => wfEach es sc
  | .ListComp elt gens sc' _, sc => wfGens gens sc sc' && wfE elt sc'
  | .DictComp k _ gens sc' _, sc => wfGens gens sc sc' && sc'.names.all (fun p => !(p.2 == .cell)) && wfE k sc'
  | .Compare l _ rs _, sc => wfE l sc && wfEach rs sc
  | .Call (.Attribute o name apos) args kws pos, sc => kws.isEmpty && decide (args.length < 30) && (apos.endLine == pos.line) && !isCallE o && wfE o sc && wfEach args sc
  | .Call (.Name f _) args kws _, sc => okName f && (decide (sc.names.lookup f = some .globalImplicit) || !(f == Str.ofString "enumerate")) && wfEach args sc
  | .Subscript v (.Slice l u s _) _, sc => wfE v sc && wfOpt l sc && wfOpt u sc && wfOpt s sc
  | .Subscript v i _, sc => wfE v sc && wfE i sc
  | _, _ => true
noncomputable def wfEach : List Expr → Scope → Bool
  | [], _ => true
  | e :: r, sc => wfE e sc && wfEach r sc
noncomputable def wfOpt : Option Expr → Scope → Bool
  | none, _ => true
  | some e, sc => wfE e sc
noncomputable def wfGens : List Comprehension → Scope → Scope → Bool
  | ⟨tg, iter, ifs, a⟩ :: r, sc, sc' => r.isEmpty && (decide (a = 0) && wfE iter sc && wfEach ifs sc' && scopeB sc' sc (targetsOf tg) && tgOk tg && (!isEnumCall iter || (isTup tg && enumOk iter)))
  | [], _, _ => false
end

noncomputable def canStoreB (sc : Scope) (x : Str) : Bool := storable (sc.names.lookup x) && okName x
noncomputable def plainTg (sc : Scope) (e : Expr) : Bool := match e with
  | .Name x _ => canStoreB sc x
  | .Tuple es _ _ => es.all fun e => match e with | .Name x _ => canStoreB sc x | _ => false
  | _ => false
noncomputable def setTg (sc : Scope) (e : Expr) : Bool := match e with
  | .Subscript (.Subscript (.Name x _) i _) j _ => okName x && isVarK (sc.names.lookup x) && wfE i sc && wfE j sc
  | _ => false
noncomputable def objTg (sc : Scope) (o : Expr) : Bool := match o with
  | .Name x _ => okName x && isVarK (sc.names.lookup x)
  | .Subscript (.Name x _) i _ => okName x && isVarK (sc.names.lookup x) && wfE i sc
  | _ => false

mutual
noncomputable def wfS : Stmt → Scope → Bool
  | .Expr (.Call (.Attribute o _ apos) args kws pos) _, sc => kws.isEmpty && decide (args.length < 30) && (apos.endLine == pos.line) && objTg sc o && wfEach args sc
  | .Pass _, _ => true
  | .Continue _, _ => true
  | .Return (some e) _, sc => wfE e sc
  | .Assign ts v _, sc => wfE v sc && (match ts with
    | [t] => plainTg sc t
    | [t, u] => setTg sc t && setTg sc u && !isComp v
    | _ => false) && (match ts, v with
    | [.Tuple es k p], .Tuple vs _ _ => !vs.all (constantsAlone 8) && decide ((targetsOf (.Tuple es k p)).Nodup)
    | _, _ => true) && !(match v with | .DictComp _ _ _ _ _ => true | _ => false)
  | .AugAssign (.Name x _) _ v _, sc => canStoreB sc x && wfE v sc
  | .If t b o _, sc => wfE t sc && wfSs b sc && wfSs o sc
  | .While t b [] _, sc => wfE t sc && wfSs b sc
  | .For t it b [] _, sc => plainTg sc t && wfE it sc && !isEnumCall it && wfSs b sc
  | .Assert t _ _, sc => wfE t sc
  | .Try b _ [] [] _, sc => wfSs b sc
  | _, _ => true
noncomputable def wfSs : List Stmt → Scope → Bool
  | [], _ => true
  | s :: r, sc => wfS s sc && wfSs r sc
end
end Mine

end

section
namespace Mine
/-! the evaluator, one step -/
section
variable {T : Tab} {sc : Scope} {ρ : Vars} {σ : St} {p q : Pos} {k : Nat} {e l r x v t i f o : Expr} {es vs : List Expr} {op : BoolOp} {kws : List Keyword} {gens : List Comprehension} {sc' : Scope}
theorem evE_C {c : Const} : evE T (.Constant c k p) sc ρ = constD c := rfl
theorem evE_N {n : Str} : evE T (.Name n p) sc ρ = nameD T sc ρ n := rfl
theorem evE_B : evE T (.BoolOp op vs p) sc ρ = boolD op (evEach T vs sc ρ) := rfl
theorem evE_2 {op : Operator} : evE T (.BinOp l op r p) sc ρ = (evE T l sc ρ).bind fun a => (evE T r sc ρ).bind fun b => binD op a b := rfl
theorem evE_U {op : UnaryOp} : evE T (.UnaryOp op x p) sc ρ = (evE T x sc ρ).bind (unD op) := rfl
theorem evE_I : evE T (.IfExp t l r p) sc ρ = (evT T t sc ρ (evE T t sc ρ)).bind fun c => if c then evE T l sc ρ else evE T r sc ρ := rfl
theorem evE_L : evE T (.List es p) sc ρ = (seqO (evEach T es sc ρ)).bind fun ds => if ds.length ≤ 1000000 then some (.list ds) else none := rfl
theorem evE_T : evE T (.Tuple es k p) sc ρ = (seqO (evEach T es sc ρ)).bind fun ds => if ds.length ≤ 1000000 then some (.tuple ds) else none := rfl
theorem evE_LC : evE T (.ListComp e gens sc' p) sc ρ = (evIter T gens sc ρ).bind fun items => (compO (fun d => (bindG gens d ρ).bind fun ρ' => (evIfs T gens sc' ρ').bind fun b =>
      if b then (evE T e sc' ρ').bind fun x => some (some x) else some none) items).bind fun ds => some (.list ds) := rfl
theorem evE_DC : evE T (.DictComp l v gens sc' p) sc ρ = (evFirst T gens sc ρ).bind fun d => match d with
    | .list xs => if dictShape l v gens ∧ xs.length ≤ 1000000 then (keysO xs []).bind fun ks => some (.dictS ks) else none
    | _ => none := rfl
theorem evE_Cm {ops : List CmpOp} : evE T (.Compare l ops es p) sc ρ = (evE T l sc ρ).bind fun a => match ops, evEach T es sc ρ with
    | [op], [r] => r.bind fun b => (cmpD op a b).bind fun c => some (.bool c)
    | _, _ => none := rfl
theorem evE_CA {n : Str} : evE T (.Call (.Attribute o n p) es kws q) sc ρ = match tyCall T o sc n with
    | some F => (seqO (evEach T es sc ρ)).bind fun ds => F ds
    | none => (evE T o sc ρ).bind fun d => (seqO (evEach T es sc ρ)).bind fun ds => methT T n d ds := rfl
theorem evE_CN {n : Str} : evE T (.Call (.Name n p) es kws q) sc ρ = if sc.names.lookup n = some .globalImplicit then (seqO (evEach T es sc ρ)).bind fun ds => callT T n kws ds else none := rfl
theorem evE_SS {a b c : Option Expr} : evE T (.Subscript v (.Slice a b c p) q) sc ρ = (evE T v sc ρ).bind fun d => (evOpt T a sc ρ).bind fun dl => (evOpt T b sc ρ).bind fun du => (evOpt T c sc ρ).bind fun dk =>
      (partD dl).bind fun lo => (partD du).bind fun hi => (partD dk).bind fun st => sliceD d lo hi st := rfl
theorem evE_S (h : ∀ a b c p, i ≠ .Slice a b c p) : evE T (.Subscript v i q) sc ρ = (evE T v sc ρ).bind fun a => (evE T i sc ρ).bind fun b => idxD a b := by
  cases i <;> first | rfl | exact absurd rfl (h _ _ _ _)
theorem evEach_n : evEach T [] sc ρ = [] := rfl
theorem evEach_c : evEach T (e :: es) sc ρ = evE T e sc ρ :: evEach T es sc ρ := rfl
theorem evTs_n : evTs T op [] sc ρ = some (op == .And) := rfl
theorem evTs_c : evTs T op (x :: es) sc ρ = (evT T x sc ρ (evE T x sc ρ)).bind fun b => match op, b with
    | .And, false => some false
    | .Or, true => some true
    | _, _ => evTs T op es sc ρ := rfl
theorem evT_B {w : Option D} : evT T (.BoolOp op vs p) sc ρ w = evTs T op vs sc ρ := rfl
theorem evT_N {w : Option D} : evT T (.UnaryOp .Not x p) sc ρ w = (evT T x sc ρ (evE T x sc ρ)).map (!·) := rfl
theorem evIter_c {t it : Expr} {ifs : List Expr} {a : Int} {r : List Comprehension} : evIter T (⟨t, it, ifs, a⟩ :: r) sc ρ = evItems T it sc ρ (evE T it sc ρ) := rfl
theorem evFirst_c {t it : Expr} {ifs : List Expr} {a : Int} {r : List Comprehension} : evFirst T (⟨t, it, ifs, a⟩ :: r) sc ρ = evE T it sc ρ := rfl
theorem evItems_e {f : Str} {w : Option D} : evItems T (.Call (.Name f p) es kws q) sc ρ w = if f = Str.ofString "enumerate" then (match evEach T es sc ρ with
      | [x] => x.bind enumD
      | _ => none) else w.bind iterD := rfl
theorem wfE_N {n : Str} : wfE (.Name n p) sc = okName n := rfl
theorem wfE_B : wfE (.BoolOp op vs p) sc = wfEach vs sc := rfl
theorem wfE_2 {op : Operator} : wfE (.BinOp l op r p) sc = (wfE l sc && wfE r sc) := rfl
theorem wfE_U {op : UnaryOp} : wfE (.UnaryOp op x p) sc = wfE x sc := rfl
theorem wfE_I : wfE (.IfExp t l r p) sc = (wfE t sc && wfE l sc && wfE r sc) := rfl
theorem wfE_L : wfE (.List es p) sc = wfEach es sc := rfl
theorem wfE_T : wfE (.Tuple es k p) sc = wfEach es sc := rfl
theorem wfE_LC : wfE (.ListComp e gens sc' p) sc = (wfGens gens sc sc' && wfE e sc') := rfl
theorem wfE_DC : wfE (.DictComp l v gens sc' p) sc = (wfGens gens sc sc' && sc'.names.all (fun p => !(p.2 == .cell)) && wfE l sc') := rfl
theorem wfE_Cm {ops : List CmpOp} : wfE (.Compare l ops es p) sc = (wfE l sc && wfEach es sc) := rfl
theorem wfE_CA {n : Str} : wfE (.Call (.Attribute o n p) es kws q) sc = (kws.isEmpty && decide (es.length < 30) && (p.endLine == q.line) && !isCallE o && wfE o sc && wfEach es sc) := rfl
theorem wfE_CN {n : Str} : wfE (.Call (.Name n p) es kws q) sc = (okName n && (decide (sc.names.lookup n = some .globalImplicit) || !(n == Str.ofString "enumerate")) && wfEach es sc) := rfl
theorem wfE_SS {a b c : Option Expr} : wfE (.Subscript v (.Slice a b c p) q) sc = (wfE v sc && wfOpt a sc && wfOpt b sc && wfOpt c sc) := rfl
theorem wfE_S (h : ∀ a b c p, i ≠ .Slice a b c p) : wfE (.Subscript v i q) sc = (wfE v sc && wfE i sc) := by
  cases i <;> first | rfl | exact absurd rfl (h _ _ _ _)
theorem wfEach_n : wfEach [] sc = true := rfl
theorem wfEach_c : wfEach (e :: es) sc = (wfE e sc && wfEach es sc) := rfl
end
section
variable {T : Tab} {sc : Scope} {σ : St} {p q : Pos} {e t it v : Expr} {b o r : List Stmt} {s : Stmt}
theorem evS_E : evS T (.Expr e p) sc σ = (exprS T e sc σ).bind fun σ' => some (.next, σ') := rfl
theorem evS_Ret : evS T (.Return (some e) p) sc σ = (evE T e sc (allV σ)).bind fun d => some (.ret d, σ) := rfl
theorem evS_As {ts : List Expr} : evS T (.Assign ts v p) sc σ = (assignS T ts v sc σ).bind fun σ' => some (.next, σ') := rfl
theorem evS_Aug {x : Str} {op : Operator} : evS T (.AugAssign (.Name x p) op v q) sc σ = (augS T x op v sc σ).bind fun σ' => some (.next, σ') := rfl
theorem evS_If : evS T (.If t b o p) sc σ = (evT T t sc (allV σ) (evE T t sc (allV σ))).bind fun c => if c then evSs T b sc σ else evSs T o sc σ := rfl
theorem evS_Wh : evS T (.While t b [] p) sc σ = whileO (fun σ => evT T t sc (allV σ) (evE T t sc (allV σ))) (fun σ => evSs T b sc σ) 100 σ := rfl
theorem evS_For : evS T (.For t it b [] p) sc σ = (evV T it sc σ).bind fun r => (iterD r.1).bind fun items => forO (fun d σ => (bindS t d σ).bind fun σ' => evSs T b sc σ') items r.2 := rfl
theorem evS_At {m : Option Expr} : evS T (.Assert t m p) sc σ = (evT T t sc (allV σ) (evE T t sc (allV σ))).bind fun c => if c then some (.next, σ) else none := rfl
theorem evS_Try {hs : List ExceptHandler} : evS T (.Try b hs [] [] p) sc σ = evSs T b sc σ := rfl
theorem evSs_n : evSs T [] sc σ = some (.next, σ) := rfl
theorem evSs_c : evSs T (s :: r) sc σ = (evS T s sc σ).bind fun x => match x.1 with
    | .next => evSs T r sc x.2
    | fl => some (fl, x.2) := rfl
theorem wfS_Ex {n : Str} {es : List Expr} {kws : List Keyword} {a c : Pos} : wfS (.Expr (.Call (.Attribute e n a) es kws c) p) sc = (kws.isEmpty && decide (es.length < 30) && (a.endLine == c.line) && objTg sc e && wfEach es sc) := rfl
theorem wfS_Ret : wfS (.Return (some e) p) sc = wfE e sc := rfl
theorem wfS_As {ts : List Expr} : wfS (.Assign ts v p) sc = (wfE v sc && (match ts with
    | [t] => plainTg sc t
    | [t, u] => setTg sc t && setTg sc u && !isComp v
    | _ => false) && (match ts, v with
    | [.Tuple es k p], .Tuple vs _ _ => !vs.all (constantsAlone 8) && decide ((targetsOf (.Tuple es k p)).Nodup)
    | _, _ => true) && !(match v with | .DictComp _ _ _ _ _ => true | _ => false)) := rfl
theorem wfS_Aug {x : Str} {op : Operator} : wfS (.AugAssign (.Name x p) op v q) sc = (canStoreB sc x && wfE v sc) := rfl
theorem wfS_If : wfS (.If t b o p) sc = (wfE t sc && wfSs b sc && wfSs o sc) := rfl
theorem wfS_Wh : wfS (.While t b [] p) sc = (wfE t sc && wfSs b sc) := rfl
theorem wfS_For : wfS (.For t it b [] p) sc = (plainTg sc t && wfE it sc && !isEnumCall it && wfSs b sc) := rfl
theorem wfS_At {m : Option Expr} : wfS (.Assert t m p) sc = wfE t sc := rfl
theorem wfS_Try {hs : List ExceptHandler} : wfS (.Try b hs [] [] p) sc = wfSs b sc := rfl
theorem wfSs_c : wfSs (s :: r) sc = (wfS s sc && wfSs r sc) := rfl
end
end Mine

end

section
namespace Mine
variable {prog : Program} {w : World}

noncomputable def GlobAt (h : Heap) (x : Str) (v : Value) : Prop := ∃ mg, h.Ns mainGlobals mg ∧ (mg x = some v ∨ (mg x = none ∧ ∃ mb, h.Ns builtinsNs mb ∧ mb x = some v))
theorem GlobAt.keeps {h h' : Heap} {x : Str} {v : Value} (g : GlobAt h x v) (k : Ext h h') : GlobAt h' x v :=
  let ⟨mg, a, b⟩ := g; ⟨mg, a.keeps k, b.imp id fun ⟨c, mb, d, e⟩ => ⟨c, mb, d.keeps k, e⟩⟩

noncomputable def BiOk (prog : Program) (w : World) (f : Value) (ds : List D) (d : D) : Prop :=
  ∀ (n : Nat) (A : Around) (s : Shared) (E : Value → Shared → Prop) (Q : Value → Shared → Prop) (hot : Addr → Prop) (vs : List Value), Aok n A → HotIn hot s.heap → hot sysModules → Reps prog w hot s.heap vs ds →
    (∀ v s', Keeps s s' → Rep prog w hot s'.heap v d → Q v s') → wpAny (model prog w) A (call f vs []) Q E s

inductive KwReps (prog : Program) (w : World) (hot : Addr → Prop) (h : Heap) : List (Str × Value) → List (Str × D) → Prop
  | nil : KwReps prog w hot h [] []
  | cons {n v d r r'} : Rep prog w hot h v d → KwReps prog w hot h r r' → KwReps prog w hot h ((n, v) :: r) ((n, d) :: r')

noncomputable def FnOk (prog : Program) (w : World) (n : Nat) (h₀ : Heap) (a : Addr) (F : List D → List (Str × D) → Option D) : Prop :=
  (∃ o fd, h₀.get? a = some o ∧ o.data = .func fd) ∧
  ∀ (A : Around) (s : Shared) (E : Value → Shared → Prop) (Q : Value → Shared → Prop) (hot : Addr → Prop) (vs : List Value) (ds : List D) (kvs : List (Str × Value)) (kds : List (Str × D)) (d : D),
    Aok n A → Ext h₀ s.heap → HotIn hot s.heap → hot sysModules → Reps prog w hot s.heap vs ds → KwReps prog w hot s.heap kvs kds → F ds kds = some d →
    (∀ v s', Keeps s s' → Rep prog w hot s'.heap v d → Q v s') → wpAny (model prog w) A (call (.ref a) vs kvs) Q E s

/-- what a method of a type comes to -/
noncomputable def TyOk (prog : Program) (w : World) (v : Value) (name : Str) (F : List D → Option D) : Prop :=
  ∀ (n : Nat) (A : Around) (s : Shared) (E : Value → Shared → Prop) (Q : Value × List Value → Shared → Prop) (pl : Sem Bool), Aok n A →
    (∀ f s', Keeps s s' → (∀ (A' : Around) s₁ (Q' : Keeper → Shared → Prop) (E' : Value → Shared → Prop), Ext s'.heap s₁.heap → Q' .machine s₁ → wpAny (model prog w) A' (keeperOf f) Q' E' s₁) →
      (∀ (m : Nat) (A' : Around) s₁ (E' : Value → Shared → Prop) (Q' : Value → Shared → Prop) (hot : Addr → Prop) vs ds d, Aok m A' → Ext s'.heap s₁.heap → HotIn hot s₁.heap → hot sysModules → Reps prog w hot s₁.heap vs ds → F ds = some d →
        (∀ v s', Keeps s₁ s' → Rep prog w hot s'.heap v d → Q' v s') → wpAny (model prog w) A' (call f vs []) Q' E' s₁) → Q (f, []) s') →
    wpAny (model prog w) A (getMethod v name pl) Q E s

structure TabOk (prog : Program) (w : World) (T : Tab) (n : Nat) (h₀ : Heap) : Prop where
  cst : ∀ x d, T.cst x = some d → ∃ v, GlobAt h₀ x v ∧ ∀ hot h, Rep prog w hot h v d
  bv : ∀ x f, T.bv x = some f → GlobAt h₀ x f ∧ ∀ a, f ≠ .ref a
  bi : ∀ f ds d, T.bi f ds = some d → BiOk prog w f ds d
  fn : ∀ x F, T.fn x = some F → ∃ a, GlobAt h₀ x (.ref a) ∧ FnOk prog w n h₀ a F
  meth : ∀ d name Tn id, T.meth d name = some (Tn, id) → PlainAttrs Tn ∧ Slot Tn name id ∧ typeOf (.builtin id) = pure (.type "method_descriptor") ∧
    ∀ hot (s : Shared) v, Rep prog w hot s.heap v d → s.TypeIs v Tn ∧ ∀ a, v = .ref a → ∃ ob, s.heap.get? a = some ob ∧ ob.dict = none
  ty : ∀ t name F, T.ty t name = some F → ∃ v, GlobAt h₀ t v ∧ TyOk prog w v name F
  enum : GlobAt h₀ (Str.ofString "enumerate") (.type "enumerate")

section
variable {A : Around} {E : Value → Shared → Prop} {s : Shared} {hot : Addr → Prop} {env : Env} {sc : Scope} {ρ : Vars} {T : Tab} {n : Nat} {h₀ : Heap}

theorem okName_dbg {x : Str} (h : okName x = true) : (x == Str.ofString "__debug__") = false := by
  unfold okName at h; simp only [Bool.and_eq_true, Bool.not_eq_true'] at h; exact h.1.1
theorem okName_cd {x : Str} (h : okName x = true) : (x == Str.ofString "__classdict__") = false := by
  unfold okName at h; simp only [Bool.and_eq_true, Bool.not_eq_true'] at h; exact h.1.2
theorem okName_dot {x : Str} (h : okName x = true) : x ≠ Str.ofString ".0" := by
  unfold okName at h; simp only [Bool.and_eq_true, Bool.not_eq_true'] at h; simpa using h.2

theorem glob_load {M : Model} {x : Str} {pos : Pos} {v : Value} {Q : Value → Shared → Prop} (g : GlobAt s.heap x v) (O : EnvOk env sc) (hx : env.kindOf x = some .globalImplicit) (hd : (x == Str.ofString "__debug__") = false) (h : Q v s) :
    wpAny M A (eval (.Name x pos) env) Q E s := by
  obtain ⟨mg, a, b⟩ := g
  refine Calls.Name_function_global O.kind hx ?_ hd
  rcases b with b | ⟨b, mb, c, d⟩
  · exact Calls.loadGlobal_global (by rw [O.glb]; exact a) b h
  · exact Calls.loadGlobal_builtin (by rw [O.glb]; exact a) b (by rw [O.blt]; exact c) d h

theorem var_load {M : Model} {x : Str} {pos : Pos} {v : Value} {Q : Value → Shared → Prop} (O : EnvOk env sc) (a : VarAt env s.heap x v) (hx : okName x = true) (h : Q v s) :
    wpAny M A (eval (.Name x pos) env) Q E s := by
  refine wpAny_Name ?_ (okName_dbg hx)
  rcases a with ⟨k, m, hn, hv⟩ | ⟨k | k, c, hc, hv⟩
  · exact wpAny_loadName_local O.kind k hn hv h
  · exact wpAny_loadName_cell O.kind k hc hv h
  · exact wpAny_loadName_free O.kind k hc hv h (okName_cd hx)

theorem name_ok {x : Str} {pos : Pos} {d : D} {Q : Value → Shared → Prop} (TO : TabOk prog w T n h₀) (e : nameD T sc ρ x = some d) (V : View prog w env sc hot NoVar ρ s.heap) (hE : Ext h₀ s.heap) (hx : okName x = true)
    (h : ∀ v, Rep prog w hot s.heap v d → Q v s) : wpAny (model prog w) A (eval (.Name x pos) env) Q E s := by
  unfold nameD at e
  have vv : isVarK (sc.names.lookup x) = true → ρ.lookup x = some d → wpAny (model prog w) A (eval (.Name x pos) env) Q E s := fun h1 h2 => by
    obtain ⟨v, r, a⟩ := V.vars x d h2 h1 (okName_dot hx) fun z => z
    exact var_load V.ok a hx (h v r)
  split at e
  · rename_i q; exact vv (by rw [q]; rfl) e
  · rename_i q; exact vv (by rw [q]; rfl) e
  · rename_i q; exact vv (by rw [q]; rfl) e
  · rename_i q
    obtain ⟨v, g, r⟩ := TO.cst x d e
    have k := V.ok.kinds x
    rw [q] at k
    exact glob_load (g.keeps hE) V.ok k (okName_dbg hx) (h v (r _ _))
  · cases e

/-! ### calls -/

theorem evalArgs_flat {M : Model} {f : Value} {args : List (Bool × Sem Value)} {kws : List (Option Str × Sem Value)} {Q : Args → Shared → Prop} (hp : ∀ x ∈ args, x.1 = false) (hk : kws.all (·.1.isSome) = true)
    (h : wpAny M A (spliced args) (fun vs s₁ => wpAny M A (evalAll (kws.map (·.2))) (fun ks s₂ => Q ⟨vs, (kws.filterMap (·.1)).zip ks⟩ s₂) E s₁) E s) : wpAny M A (evalArgs f true args kws) Q E s := by
  have key : evalArgs f true args kws = (do
      let vs ← spliced args
      holding (vs ++ (none : Option Value).toList) do
        let kw := (kws.filterMap (·.1)).zip (← evalAll (kws.map (·.2)))
        return ⟨vs, kw⟩) := by
    unfold evalArgs
    cases args with
    | nil => simp only [hk, if_true]; rfl
    | cons a r =>
      obtain ⟨b, t⟩ := a
      have hb : b = false := hp (b, t) List.mem_cons_self
      subst hb
      simp only [hk, if_true]
      rfl
  rw [key]
  refine wpAny_bind (wpAny_mono h (fun vs s₁ h₁ => ?_) fun z0 z0 x => x)
  refine wpAny_holding (wpAny_bind (wpAny_mono h₁ (fun ks s₂ h₂ => wpAny_pure h₂) fun z0 z0 x => x))

theorem callWith_mach {M : Model} {pos : Pos} {f : Value} {first : List Value} {args : List (Bool × Sem Value)} {Q : Value → Shared → Prop} (hp : ∀ x ∈ args, x.1 = false)
    (h : wpAny M A (spliced args) (fun vs s₁ => (∀ Q' : Keeper → Shared → Prop, Q' .machine s₁ → wpAny M A (keeperOf f) Q' E s₁) ∧ wpAny M A (call f (first ++ vs) []) Q E s₁) E s) :
    wpAny M A (callWith pos f first args []) Q E s := by
  unfold callWith
  refine wpAny_bind (wpAny_holding (evalArgs_flat hp rfl (wpAny_mono h (fun vs s₁ h₁ => ?_) fun z0 z0 x => x)))
  refine wpAny_pure ?_
  refine wpAny_bind (wpAny_standAt ?_)
  have hs : args.any (·.1) = false := by
    rw [List.any_eq_false]; intro x hx; rw [hp x hx]; simp
  simp only [hs, List.any_nil, Bool.or_false]
  refine wpAny_bind (h₁.1 _ ?_)
  exact wpAny_bind (wpAny_mono h₁.2 (fun r s₂ hr => wpAny_bind (wpAny_holding (wpAny_point (wpAny_pure hr)))) fun z0 z0 x => x)

theorem keeper_flat {M : Model} {f : Value} (hf : ∀ a, f ≠ .ref a) {Q : Keeper → Shared → Prop} (h : Q .machine s) : wpAny M A (keeperOf f) Q E s := by
  cases f with
  | ref a => exact absurd rfl (hf a)
  | _ => exact wpAny_pure h

theorem const_ok {M : Model} {c : Const} {d : D} {Q : Value → Shared → Prop} (e : constD c = some d) (h : ∀ v s', Keeps s s' → Rep prog w hot s'.heap v d → Q v s') : wpAny M A (constValue env c) Q E s := by
  cases c with
  | none => cases e; exact wpAny_pure (h _ _ (keeps_refl s) .none)
  | bool b => cases e; exact wpAny_pure (h _ _ (keeps_refl s) (.bool b))
  | int i => cases e; exact wpAny_mkInt (h _ _ (keeps_tok _) (.int _ _))
  | str x => cases e; exact wpAny_mkText (h _ _ (keeps_tok _) (.str _ _))
  | bytes b =>
    cases e
    show wpAny M A (mkTextBytes b.toArray) Q E s
    exact wpAny_bind (wpAny_fresh (wpAny_pure (h _ _ (keeps_tok _) (.bytes _ _))))
  | _ => cases e
end
end Mine

end

section
namespace Mine
variable {prog : Program} {w : World}

/-- what stands anew behind an expression -/
noncomputable def Fr' (e : Expr) (h h' : Heap) (v : Value) : Prop :=
  (isComp e = true → ∃ a, v = .ref a ∧ h.get? a = none ∧ ∃ o, h'.get? a = some o) ∧
  (isCompComp e = true → ∃ a bs, v = .ref a ∧ h'.PlainList a (bs.map Value.ref).toArray ∧ (a :: bs).Nodup ∧ ∀ b ∈ a :: bs, h.get? b = none)

section
variable (prog w)
noncomputable def SE (T : Tab) (n : Nat) (h₀ : Heap) (e : Expr) : Prop :=
  ∀ (sc : Scope) (ρ : Vars) (d : D) (env : Env) (hot : Addr → Prop) (A : Around) (s : Shared) (E : Value → Shared → Prop) (Q : Value → Shared → Prop),
    wfE e sc = true → evE T e sc ρ = some d → View prog w env sc hot NoVar ρ s.heap → Aok n A → HotIn hot s.heap → Ext h₀ s.heap →
    (∀ v s', Keeps s s' → Rep prog w hot s'.heap v d → Fr' e s.heap s'.heap v → Q v s') → wpAny (model prog w) A (eval e env) Q E s
noncomputable def ST (T : Tab) (n : Nat) (h₀ : Heap) (e : Expr) : Prop :=
  ∀ (sc : Scope) (ρ : Vars) (b : Bool) (env : Env) (hot : Addr → Prop) (A : Around) (s : Shared) (E : Value → Shared → Prop) (Q : Bool → Shared → Prop),
    wfE e sc = true → evT T e sc ρ (evE T e sc ρ) = some b → View prog w env sc hot NoVar ρ s.heap → Aok n A → HotIn hot s.heap → Ext h₀ s.heap →
    (∀ s', Keeps s s' → Q b s') → wpAny (model prog w) A (isTrue e env (eval e env)) Q E s
end

theorem kx {s s' : Shared} (k : Keeps s s') : Ext s.heap s'.heap := Mine.Keeps.ext k

section
variable {A : Around} {E : Value → Shared → Prop} {s : Shared} {hot : Addr → Prop} {env : Env} {sc : Scope} {ρ : Vars} {T : Tab} {n : Nat} {h₀ : Heap}

theorem fr_no {e : Expr} {h h' : Heap} {v : Value} (a : isComp e = false) : Fr' e h h' v := by
  refine ⟨fun x => (by rw [a] at x; cases x), fun x => ?_⟩
  cases e with
  | ListComp _ _ _ _ => exact false_ne a.symm
  | _ => exact false_ne x

theorem star_of {e : Expr} {d : D} {r : List Expr} (h : evE T e sc ρ = some d) : starEach (e :: r) env = (false, eval e env) :: starEach r env := by
  cases e <;> first | rfl | cases (show (none : Option D) = some _ from h)

theorem seqO_cons {x : Option D} {r : List (Option D)} {ds : List D} (h : seqO (x :: r) = some ds) : ∃ d ds', x = some d ∧ seqO r = some ds' ∧ ds = d :: ds' := by
  cases x with
  | none => cases h
  | some d =>
    cases hr : seqO r with
    | none => rw [seqO, Option.bind_some, hr] at h; cases h
    | some ds' => rw [seqO, Option.bind_some, hr] at h; cases h; exact ⟨d, ds', rfl, rfl, rfl⟩

theorem plain_of : ∀ (es : List Expr) (pos : Pos) (ds : List D), seqO (evEach T es sc ρ) = some ds → ∀ x ∈ backTo pos (starEach es env), x.1 = false
  | [], _, _, _, x, hx => by cases hx
  | e :: r, pos, ds, h, x, hx => by
    rw [evEach_c] at h
    obtain ⟨d, ds', h1, h2, rfl⟩ := seqO_cons h
    rw [star_of h1] at hx
    have : backTo pos ((false, eval e env) :: starEach r env) = (false, eval e env) :: backTo pos (starEach r env) := rfl
    rw [this] at hx
    rcases List.mem_cons.mp hx with e1 | hx
    · rw [e1]
    · exact plain_of r pos ds' h2 x hx

theorem spliced_ok : ∀ (es : List Expr) (pos : Pos) (ds : List D) (s : Shared) (Q : List Value → Shared → Prop), (∀ e ∈ es, SE prog w T n h₀ e) → wfEach es sc = true → seqO (evEach T es sc ρ) = some ds →
    View prog w env sc hot NoVar ρ s.heap → Aok n A → HotIn hot s.heap → Ext h₀ s.heap → (∀ vs s', Keeps s s' → Reps prog w hot s'.heap vs ds → Q vs s') →
    wpAny (model prog w) A (spliced (backTo pos (starEach es env))) Q E s
  | [], pos, ds, s, Q, _, _, h, V, _, _, _, hq => by cases h; exact wpAny_items_nil (hq [] s (keeps_refl s) .nil)
  | e :: r, pos, ds, s, Q, hS, hw, h, V, hA, H, hE, hq => by
    rw [evEach_c] at h
    rw [wfEach_c, Bool.and_eq_true] at hw
    obtain ⟨d, ds', h1, h2, rfl⟩ := seqO_cons h
    refine wpAny_items_cons (hS e List.mem_cons_self sc ρ d env hot A s E _ hw.1 h1 V hA H hE fun v s₁ k₁ r₁ z0 => ?_) (star_of h1)
    refine spliced_ok r pos ds' s₁ _ (fun x hx => hS x (List.mem_cons_of_mem _ hx)) hw.2 h2 (V.keeps (kx k₁)) hA (H.ext (kx k₁)) (hE.trans (kx k₁)) fun vs s₂ k₂ r₂ => ?_
    exact hq _ s₂ (keeps_trans k₁ k₂) (.cons (r₁.mono (kx k₂).sees) r₂)

theorem boolD_two (op : BoolOp) (x y : Option D) (r : List (Option D)) : boolD op (x :: y :: r) = x.bind fun v => (truthD v).bind fun t => match op, t with
    | .And, false => some v
    | .Or, true => some v
    | _, _ => boolD op (y :: r) := rfl

theorem boolOp_ok {op : BoolOp} {pos : Pos} : ∀ (es : List Expr) (d : D) (s : Shared) (Q : Value → Shared → Prop), (∀ e ∈ es, SE prog w T n h₀ e) → wfEach es sc = true → boolD op (evEach T es sc ρ) = some d →
    View prog w env sc hot NoVar ρ s.heap → Aok n A → HotIn hot s.heap → Ext h₀ s.heap → (∀ v s', Keeps s s' → Rep prog w hot s'.heap v d → Q v s') →
    wpAny (model prog w) A (boolOp pos op (evalEach es env)) Q E s
  | [], d, s, Q, _, _, h, _, _, _, _, _ => by cases h
  | [e], d, s, Q, hS, hw, h, V, hA, H, hE, hq => by
    rw [wfEach_c, Bool.and_eq_true] at hw
    exact hS e List.mem_cons_self sc ρ d env hot A s E _ hw.1 h V hA H hE fun v s₁ k₁ r₁ z0 => hq v s₁ k₁ r₁
  | e :: e' :: r, d, s, Q, hS, hw, h, V, hA, H, hE, hq => by
    rw [wfEach_c, Bool.and_eq_true] at hw
    rw [evEach_c, evEach_c] at h
    cases h1 : evE T e sc ρ with
    | none => rw [h1] at h; cases h
    | some x =>
      rw [h1, boolD_two, Option.bind_some] at h
      cases ht : truthD x with
      | none => rw [ht] at h; cases h
      | some t =>
        rw [ht, Option.bind_some] at h
        show wpAny _ A (boolOp pos op (eval e env :: evalEach (e' :: r) env)) Q E s
        have go : boolD op (evEach T (e' :: r) sc ρ) = some d → ∀ s₁, Keeps s s₁ → wpAny (model prog w) A (boolOp pos op (evalEach (e' :: r) env)) Q E s₁ := fun h' s₁ k₁ =>
          boolOp_ok (e' :: r) d s₁ Q (fun y hy => hS y (List.mem_cons_of_mem _ hy)) hw.2 h' (V.keeps (kx k₁)) hA (H.ext (kx k₁)) (hE.trans (kx k₁)) fun v s₂ k₂ r₂ => hq v s₂ (keeps_trans k₁ k₂) r₂
        have step : boolOp pos op (eval e env :: evalEach (e' :: r) env) = (do
            let v ← eval e env
            standAt pos
            let t ← holding [v] (truthy v)
            match op, t with
            | .And, false | .Or, true => pure v
            | _, _ => boolOp pos op (evalEach (e' :: r) env)) := rfl
        rw [step]
        refine wpAny_bind (hS e List.mem_cons_self sc ρ x env hot A s E _ hw.1 h1 V hA H hE fun v s₁ k₁ r₁ z0 => ?_)
        refine wpAny_bind (wpAny_standAt (wpAny_bind (wpAny_holding (truth_ok ht r₁ fun s₂ k₂ => ?_))))
        have k₁₂ := keeps_trans k₁ k₂
        cases op <;> cases t <;> first
          | (replace h : some x = some d := h; cases h; exact wpAny_pure (hq v s₂ k₁₂ (r₁.mono (kx k₂).sees)))
          | exact go h s₂ k₁₂

theorem allTrue_ok {op : BoolOp} : ∀ (es : List Expr) (b : Bool) (s : Shared) (Q : Bool → Shared → Prop), (∀ e ∈ es, ST prog w T n h₀ e) → wfEach es sc = true → evTs T op es sc ρ = some b →
    View prog w env sc hot NoVar ρ s.heap → Aok n A → HotIn hot s.heap → Ext h₀ s.heap → (∀ s', Keeps s s' → Q b s') → wpAny (model prog w) A (allTrue op es env) Q E s
  | [], b, s, Q, _, _, h, _, _, _, _, hq => by
    rw [evTs_n] at h; cases h
    exact wpAny_pure (hq s (keeps_refl s))
  | e :: r, b, s, Q, hS, hw, h, V, hA, H, hE, hq => by
    rw [wfEach_c, Bool.and_eq_true] at hw
    rw [evTs_c] at h
    cases h1 : evT T e sc ρ (evE T e sc ρ) with
    | none => rw [h1] at h; cases h
    | some c =>
      rw [h1, Option.bind_some] at h
      have go : evTs T op r sc ρ = some b → ∀ s₁, Keeps s s₁ → wpAny (model prog w) A (allTrue op r env) Q E s₁ := fun h' s₁ k₁ =>
        allTrue_ok r b s₁ Q (fun y hy => hS y (List.mem_cons_of_mem _ hy)) hw.2 h' (V.keeps (kx k₁)) hA (H.ext (kx k₁)) (hE.trans (kx k₁)) fun s₂ k₂ => hq s₂ (keeps_trans k₁ k₂)
      rw [arm_allTrue_cons]
      refine wpAny_bind (hS e List.mem_cons_self sc ρ c env hot A s E _ hw.1 h1 V hA H hE fun s₁ k₁ => ?_)
      cases op <;> cases c <;> first
        | (replace h : some false = some b := h; cases h; exact wpAny_pure (hq s₁ k₁))
        | (replace h : some true = some b := h; cases h; exact wpAny_pure (hq s₁ k₁))
        | exact go h s₁ k₁

/-- the tests of a comprehension -/
theorem ifs_ok : ∀ (es : List Expr) (b : Bool) (s : Shared) (Q : Bool → Shared → Prop), (∀ e ∈ es, ST prog w T n h₀ e) → wfEach es sc = true → evTs T .And es sc ρ = some b →
    View prog w env sc hot NoVar ρ s.heap → Aok n A → HotIn hot s.heap → Ext h₀ s.heap → (∀ s', Keeps s s' → Q b s') →
    wpAny (model prog w) A (forIn es true fun c r => if r = true then do let ok ← isTrue c env (eval c env); pure (ForInStep.yield ok) else pure (ForInStep.yield r)) Q E s := by
  have dead : ∀ (es : List Expr) (s : Shared) (Q : Bool → Shared → Prop), Q false s → wpAny (model prog w) A (forIn es false fun c r => if r = true then do let ok ← isTrue c env (eval c env); pure (ForInStep.yield ok) else pure (ForInStep.yield r)) Q E s := by
    intro es
    induction es with
    | nil => intro s Q h; rw [List.forIn_nil]; exact wpAny_pure h
    | cons e r ih =>
      intro s Q h
      rw [List.forIn_cons]
      simp only [Bool.false_eq_true, if_false]
      exact wpAny_bind (wpAny_pure (ih s Q h))
  intro es
  induction es with
  | nil =>
    intro b s Q _ _ h _ _ _ _ hq
    rw [evTs_n] at h; cases h
    rw [List.forIn_nil]; exact wpAny_pure (hq s (keeps_refl s))
  | cons e r ih =>
    intro b s Q hS hw h V hA H hE hq
    rw [wfEach_c, Bool.and_eq_true] at hw
    rw [evTs_c] at h
    cases h1 : evT T e sc ρ (evE T e sc ρ) with
    | none => rw [h1] at h; cases h
    | some c =>
      rw [h1, Option.bind_some] at h
      rw [List.forIn_cons]
      simp only [if_true]
      refine wpAny_bind (wpAny_bind (hS e List.mem_cons_self sc ρ c env hot A s E _ hw.1 h1 V hA H hE fun s₁ k₁ => wpAny_pure ?_))
      cases c with
      | false => cases h; exact dead r s₁ Q (hq s₁ k₁)
      | true => exact ih b s₁ Q (fun y hy => hS y (List.mem_cons_of_mem _ hy)) hw.2 h (V.keeps (kx k₁)) hA (H.ext (kx k₁)) (hE.trans (kx k₁)) fun s₂ k₂ => hq s₂ (keeps_trans k₁ k₂)

theorem un_ok {op : UnaryOp} {a r : D} {va : Value} {Q : Value → Shared → Prop} (e : unD op a = some r) (ra : Rep prog w hot s.heap va a) (hq : ∀ v s', Keeps s s' → Rep prog w hot s'.heap v r → Q v s') :
    wpAny (model prog w) A (unaryOp op va) Q E s := by
  unfold unD at e
  split at e
  · cases e; cases ra; exact PyProof.Rows.neg_int (hq _ _ (keeps_tok _) (.int _ _))
  · cases ht : truthD a with
    | none => rw [ht] at e; cases e
    | some t =>
      rw [ht] at e; cases e
      exact not_value (truth_ok ht ra fun s₁ k₁ => hq _ _ k₁ (.bool _))
  · cases e

theorem folded_ok {e : Expr} (h : ∀ es k p, e ≠ .Set es k p) : ∀ x, foldedSetIterable e env x = pure x := fun x => by
  cases e <;> first | rfl | exact absurd rfl (h _ _ _)
end
end Mine

end

section
namespace Mine
variable {prog : Program} {w : World}
section
variable {A : Around} {E : Value → Shared → Prop} {s : Shared} {hot : Addr → Prop} {env : Env} {sc sc' : Scope} {ρ : Vars} {T : Tab} {n : Nat} {h₀ : Heap}

theorem iterD_len {d : D} {ds : List D} (e : iterD d = some ds) : ds.length ≤ 2000000 := by
  cases d with
  | list xs => obtain ⟨h, rfl⟩ := ite_of e; omega
  | tuple xs => obtain ⟨h, rfl⟩ := ite_of e; omega
  | bytes b => obtain ⟨h, rfl⟩ := ite_of e; rw [List.length_map, Array.length_toList]; omega
  | rng a b c =>
    obtain ⟨h, rfl⟩ := ite_of e
    have h2 := rangeSize_toNat_le a b c
    simp only [rngItems, List.length_map, List.length_range]
    omega
  | _ => exact none_ne e

theorem kw_ok : ∀ (kws : List Keyword) (pos : Pos) (ks : List (Str × D)) (s : Shared) (Q : List Value → Shared → Prop), kwD kws = some ks →
    (∀ vs s', Keeps s s' → KwReps prog w hot s'.heap (((backToKw pos (keywordEach kws env)).filterMap (·.1)).zip vs) ks → Q vs s') →
    wpAny (model prog w) A (evalAll ((backToKw pos (keywordEach kws env)).map (·.2))) Q E s
  | [], pos, ks, s, Q, e, hq => by cases e; exact wpAny_evalAll_nil (hq [] s (keeps_refl s) .nil)
  | k :: r, pos, ks, s, Q, e, hq => by
    cases kwD_is e with
    | @mk m c k p2 p d ks' hc hr =>
      show wpAny _ A (evalAll ((do let v ← constValue env c; standAt pos; pure v) :: (backToKw pos (keywordEach r env)).map (·.2))) Q E s
      refine wpAny_evalAll_cons (wpAny_bind (const_ok (prog := prog) (w := w) (hot := hot) hc fun v s₁ k₁ r₁ => wpAny_bind (wpAny_standAt (wpAny_pure ?_))))
      refine kw_ok r pos ks' s₁ _ hr fun vs s₂ k₂ r₂ => ?_
      exact hq _ s₂ (keeps_trans k₁ k₂) (.cons (r₁.mono (kx k₂).sees) r₂)

theorem kw_some (pos : Pos) : ∀ (kws : List Keyword) (ks : List (Str × D)), kwD kws = some ks → (backToKw pos (keywordEach kws env)).all (·.1.isSome) = true
  | [], _, _ => rfl
  | k :: r, ks, e => by
    cases kwD_is e with
    | mk hc hr => exact kw_some pos r _ hr

/-- a call of a name -/
theorem call_ok {f : Str} {fp : Pos} {args : List Expr} {kws : List Keyword} {pos : Pos} {ds : List D} {d : D} {Q : Value → Shared → Prop} (TO : TabOk prog w T n h₀) (hS : ∀ e ∈ args, SE prog w T n h₀ e)
    (hf : okName f = true) (hg : sc.names.lookup f = some .globalImplicit) (hw : wfEach args sc = true) (e1 : seqO (evEach T args sc ρ) = some ds) (e2 : callT T f kws ds = some d)
    (V : View prog w env sc hot NoVar ρ s.heap) (hA : Aok n A) (H : HotIn hot s.heap) (hE : Ext h₀ s.heap) (hq : ∀ v s', Keeps s s' → Rep prog w hot s'.heap v d → Q v s') :
    wpAny (model prog w) A (eval (.Call (.Name f fp) args kws pos) env) Q E s := by
  have he : eval (.Call (.Name f fp) args kws pos) env = (do callWith pos (← eval (.Name f fp) env) [] (backTo pos (starEach args env)) (backToKw pos (keywordEach kws env))) := rfl
  have kf := V.ok.kinds f
  rw [hg] at kf
  rw [he]
  unfold callT at e2
  cases hF : T.fn f with
  | some F =>
    rw [hF] at e2
    dsimp only at e2
    obtain ⟨a, ga, ⟨o, fd, ho, hd⟩, fok⟩ := TO.fn f F hF
    cases hk : kwD kws with
    | none => rw [hk] at e2; cases e2
    | some ks =>
      rw [hk, Option.bind_some] at e2
      refine wpAny_bind (glob_load (ga.keeps hE) V.ok kf (okName_dbg hf) ?_)
      refine callWith_function_kw (o := o) (fd := fd) (evalArgs_flat (plain_of args pos ds e1) (kw_some pos kws ks hk) ?_)
      refine spliced_ok args pos ds s _ hS hw e1 V hA H hE fun vs s₁ k₁ r₁ => ?_
      refine kw_ok (hot := hot) kws pos ks s₁ _ hk fun kv s₂ k₂ r₂ => ⟨⟨kx k₂ _ _ (kx k₁ _ _ (hE _ _ ho)), hd⟩, ?_⟩
      exact fok A s₂ E Q hot vs ds _ ks d hA ((hE.trans (kx k₁)).trans (kx k₂)) ((H.ext (kx k₁)).ext (kx k₂)) V.sysm (r₁.mono (kx k₂).sees) r₂ e2 fun v s₃ k₃ r₃ => hq v s₃ (keeps_trans (keeps_trans k₁ k₂) k₃) r₃
  | none =>
    rw [hF] at e2
    dsimp only at e2
    cases hb : T.bv f with
    | none => rw [hb] at e2; cases e2
    | some fv =>
      rw [hb] at e2
      cases kws with
      | cons k r => cases e2
      | nil =>
        have e2' : T.bi fv ds = some d := e2
        obtain ⟨ga, hnr⟩ := TO.bv f fv hb
        refine wpAny_bind (glob_load (ga.keeps hE) V.ok kf (okName_dbg hf) ?_)
        refine callWith_mach (plain_of args pos ds e1) ?_
        refine spliced_ok args pos ds s _ hS hw e1 V hA H hE fun vs s₁ k₁ r₁ => ⟨fun Q' q => keeper_flat hnr q, ?_⟩
        exact TO.bi fv ds d e2' n A s₁ E Q hot vs hA (H.ext (kx k₁)) V.sysm r₁ fun v s₂ k₂ r₂ => hq v s₂ (keeps_trans k₁ k₂) r₂

/-- a method -/
theorem meth_ok {o : Expr} {name : Str} {apos pos : Pos} {args : List Expr} {d r : D} {ds : List D} {Q : Value → Shared → Prop} (TO : TabOk prog w T n h₀) (hSo : SE prog w T n h₀ o) (hS : ∀ e ∈ args, SE prog w T n h₀ e)
    (hlen : args.length < 30) (hline : (apos.endLine == pos.line) = true) (hnc : isCallE o = false) (hwo : wfE o sc = true) (hw : wfEach args sc = true) (e0 : evE T o sc ρ = some d) (e1 : seqO (evEach T args sc ρ) = some ds) (e2 : methT T name d ds = some r)
    (V : View prog w env sc hot NoVar ρ s.heap) (hA : Aok n A) (H : HotIn hot s.heap) (hE : Ext h₀ s.heap) (hq : ∀ v s', Keeps s s' → Rep prog w hot s'.heap v r → Q v s') :
    wpAny (model prog w) A (eval (.Call (.Attribute o name apos) args [] pos) env) Q E s := by
  have hp := plain_of (env := env) args pos ds e1
  refine wpAny_Call_method_lateS ?_ ?_ hline ?_
  · cases o <;> first | rfl | cases hnc
  · have h1 : (backTo pos (starEach args env)).all (fun x => !x.1) = true := by
      rw [List.all_eq_true]; intro x hx; rw [hp x hx]; rfl
    rw [h1]
    simp only [Bool.true_and]
    show decide (args.length + 0 + 0 < 30) = true
    exact decide_eq_true (by omega)
  · refine hSo sc ρ d env hot A s E _ hwo e0 V hA H hE fun v s₁ k₁ r₁ z0 => ?_
    unfold methT at e2
    cases hm : T.meth d name with
    | none => rw [hm] at e2; cases e2
    | some p =>
      obtain ⟨Tn, id⟩ := p
      rw [hm] at e2
      obtain ⟨pa, slot, hty, htd⟩ := TO.meth d name Tn id hm
      obtain ⟨hT, hd⟩ := htd hot s₁ v r₁
      refine ⟨Tn, id, pa, slot, hty, hT, hd, ?_⟩
      refine callWith_mach hp ?_
      refine spliced_ok args pos ds s₁ _ hS hw e1 (V.keeps (kx k₁)) hA (H.ext (kx k₁)) (hE.trans (kx k₁)) fun vs s₂ k₂ r₂ => ⟨fun Q' q => keeper_flat (fun a => by intro z; cases z) q, ?_⟩
      exact TO.bi (.builtin id) (d :: ds) r e2 n A s₂ E Q hot (v :: vs) hA ((H.ext (kx k₁)).ext (kx k₂)) V.sysm (.cons (r₁.mono (kx k₂).sees) r₂) fun u s₃ k₃ r₃ => hq u s₃ (keeps_trans (keeps_trans k₁ k₂) k₃) r₃

/-- a method of a type -/
theorem tymeth_ok {t : Str} {tp : Pos} {name : Str} {apos pos : Pos} {args : List Expr} {r : D} {F : List D → Option D} {ds : List D} {Q : Value → Shared → Prop} (TO : TabOk prog w T n h₀) (hS : ∀ e ∈ args, SE prog w T n h₀ e)
    (hlen : args.length < 30) (hline : (apos.endLine == pos.line) = true) (ht : okName t = true) (hg : sc.names.lookup t = some .globalImplicit) (hty : T.ty t name = some F) (hw : wfEach args sc = true) (e1 : seqO (evEach T args sc ρ) = some ds) (e2 : F ds = some r)
    (V : View prog w env sc hot NoVar ρ s.heap) (hA : Aok n A) (H : HotIn hot s.heap) (hE : Ext h₀ s.heap) (hq : ∀ v s', Keeps s s' → Rep prog w hot s'.heap v r → Q v s') :
    wpAny (model prog w) A (eval (.Call (.Attribute (.Name t tp) name apos) args [] pos) env) Q E s := by
  have hp := plain_of (env := env) args pos ds e1
  have kf := V.ok.kinds t
  rw [hg] at kf
  obtain ⟨tv, gt, tok⟩ := TO.ty t name F hty
  have h1 : (backTo pos (starEach args env)).all (fun x => !x.1) = true := by
    rw [List.all_eq_true]; intro x hx; rw [hp x hx]; rfl
  have hform : methodCallForm (args.length + ([] : List Keyword).length) (backTo pos (starEach args env)) (backToKw pos (keywordEach [] env)) = true := by
    unfold methodCallForm
    rw [h1]
    simp only [Bool.true_and]
    show decide (args.length + 0 + 0 < 30) = true
    exact decide_eq_true (by omega)
  have hpos : methodCallPos true (.Name t tp) env apos pos = pure pos := by unfold methodCallPos; simp [hline]
  rw [arm_eval_Call]
  refine wpAny_bind ?_
  show wpAny _ A (eval (.Name t tp) env) _ E s
  refine glob_load (gt.keeps hE) V.ok kf (okName_dbg ht) ?_
  refine wpAny_bind (wpAny_standAt ?_)
  unfold methodCall
  rw [hform]
  refine wpAny_bind (wpAny_holding ?_)
  unfold calleeOf
  simp only [if_true]
  refine tok n A s E _ _ hA fun f s₁ k₁ keeper callee => ?_
  refine wpAny_bind (wpAny_of_eq hpos ?_)
  refine callWith_mach hp ?_
  refine spliced_ok args pos ds s₁ _ hS hw e1 (V.keeps (kx k₁)) hA (H.ext (kx k₁)) (hE.trans (kx k₁)) fun vs s₂ k₂ r₂ => ⟨fun Q' q => keeper A s₂ Q' E (kx k₂) q, ?_⟩
  exact callee n A s₂ E Q hot vs ds r hA (kx k₂) ((H.ext (kx k₁)).ext (kx k₂)) V.sysm r₂ e2 fun u s₃ k₃ r₃ => hq u s₃ (keeps_trans (keeps_trans k₁ k₂) k₃) r₃
end
end Mine

end

section
namespace Mine
variable {prog : Program} {w : World}
section
variable {A : Around} {E : Value → Shared → Prop} {s : Shared} {hot : Addr → Prop} {env : Env} {sc sc' : Scope} {ρ : Vars} {T : Tab} {n : Nat} {h₀ : Heap}

theorem iterAt_mono {tg : Expr} {h h₂ h₃ : Heap} {ds : List D} {I : Addr} {wr : List Addr} (x : IterAt prog w A hot tg h ds I wr h₂) : Ext h h₂ := x.2.1

theorem not_set {e : Expr} {d : D} (h : evE T e sc ρ = some d) : ∀ es k p, e ≠ .Set es k p := fun es k p q => by subst q; cases (show (none : Option D) = some _ from h)

theorem items_plain {iter : Expr} {whole : Option D} (h : isEnumCall iter = false) : evItems T iter sc ρ whole = whole.bind iterD := by
  cases iter with
  | Call f args kws p =>
    show (match nameX f with | some f => _ | none => _) = _
    have h : (nameX f == some (Str.ofString "enumerate")) = false := h
    cases hn : nameX f with
    | none => rfl
    | some g => exact if_neg fun q => by rw [hn, q, beq_self_eq_true] at h; cases h
  | _ => rfl
inductive EnumIs : Expr → Prop
  | mk {x fp p} : EnumIs (.Call (.Name (Str.ofString "enumerate") fp) [x] [] p)
theorem enum_is {e : Expr} (h : isEnumCall e = true) (hk : enumOk e = true) : EnumIs e := by
  cases e with
  | Call f args kws p =>
    obtain ⟨fp, rfl⟩ := nameX_is (eq_of_beq (show (nameX f == some (Str.ofString "enumerate")) = true from h))
    obtain ⟨h1, h2⟩ := Bool.and_eq_true_iff.mp (show ((true && args.length == 1) && kws.isEmpty) = true from hk)
    obtain ⟨x, rfl⟩ := List.length_eq_one_iff.mp (eq_of_beq h1)
    cases List.isEmpty_iff.mp h2
    exact .mk
  | _ => exact false_ne h
theorem isTup_is {e : Expr} (h : isTup e = true) : ∃ es k p, e = .Tuple es k p := by
  cases e with
  | Tuple es k p => exact ⟨es, k, p, rfl⟩
  | _ => exact false_ne h

/-- the source of a comprehension -/
theorem iter_first {tg iter : Expr} {items : List D} {Q : Value → Shared → Prop} (TO : TabOk prog w T n h₀) (hS : SE prog w T n h₀ iter) (hSx : ∀ f fp x kws p, iter = .Call (.Name f fp) [x] kws p → SE prog w T n h₀ x)
    (hw : wfE iter sc = true) (henum : isEnumCall iter = true → isTup tg = true ∧ enumOk iter = true) (e : evItems T iter sc ρ (evE T iter sc ρ) = some items) (V : View prog w env sc hot NoVar ρ s.heap) (hA : Aok n A) (H : HotIn hot s.heap) (hE : Ext h₀ s.heap)
    (hq : ∀ I wr s₁ s₂, Keeps s s₁ → Keeps s s₂ → IterAt prog w A hot tg s₁.heap items I wr s₂.heap → items.length ≤ sizeLine → Q (.ref I) s₂) :
    wpAny (model prog w) A (eval iter env) (fun x s₁ => wpAny (model prog w) A (pyIter x) Q E s₁) E s := by
  cases hen : isEnumCall iter with
  | false =>
    rw [items_plain hen] at e
    cases he : evE T iter sc ρ with
    | none => rw [he] at e; cases e
    | some d =>
      rw [he, Option.bind_some] at e
      refine hS sc ρ d env hot A s E _ hw he V hA H hE fun v s₁ k₁ r₁ z0 => ?_
      refine iter_ok (tg := tg) e hA.handled r₁ fun I wr h₂ tk it => ?_
      refine hq I wr s₁ _ k₁ (keeps_trans k₁ (keeps_both it.2.1)) it ?_
      have := iterD_len e
      rw [sizeLine_eq]; lia
  | true =>
    obtain ⟨ht, hk⟩ := henum hen
    obtain ⟨elts, x1, tp, rfl⟩ := isTup_is ht
    cases enum_is hen hk with
    | @mk x fp p =>
      obtain ⟨d, hx, e2⟩ := Option.bind_eq_some_iff.mp ((if_pos (c := Str.ofString "enumerate" = Str.ofString "enumerate") (t := (evE T x sc ρ).bind enumD) (e := (evE T (.Call (.Name (Str.ofString "enumerate") fp) [x] [] p) sc ρ).bind iterD) rfl).symm.trans e)
      obtain ⟨xs, h1, e3⟩ := Option.bind_eq_some_iff.mp e2
      obtain ⟨ds, hi, e4⟩ := Option.bind_eq_some_iff.mp e3
      have hx := hx.trans (congrArg some (listOf_is h1))
      have hw := Bool.and_eq_true_iff.mp hw
      have hn := Bool.and_eq_true_iff.mp hw.1
      have hwx : wfEach [x] sc = true := hw.2
      have hg : sc.names.lookup (Str.ofString "enumerate") = some .globalImplicit := by
        have hg := hn.2
        rw [beq_self_eq_true, Bool.not_true, Bool.or_false] at hg
        exact of_decide_eq_true hg
      have kf := V.ok.kinds (Str.ofString "enumerate")
      rw [hg] at kf
      have e1 : seqO (evEach T [x] sc ρ) = some [.list xs] := by rw [evEach_c, evEach_n, hx]; rfl
      have hSx' := hSx _ fp x [] p rfl
      rw [← Option.some.inj e4] at hq
      clear e e2 e3 e4 henum hen hk ht hS hSx hw
      refine wpAny_bind (glob_load (v := .type "enumerate") (TO.enum.keeps hE) V.ok kf (okName_dbg hn.1) ?_)
      refine callWith_mach (plain_of [x] p _ e1) ?_
      refine spliced_ok [x] p _ s _ (fun y hy => List.mem_singleton.mp hy ▸ hSx') hwx e1 V hA H hE fun vs s₁ k₁ r₁ => ⟨fun Q' q => keeper_flat (fun a => by intro z; cases z) q, ?_⟩
      cases r₁ with
      | cons r1 r2 =>
        cases r2
        refine enum_ok (elts := elts) (x1 := x1) (tp := tp) hi hA.handled r1 fun I wr h₂ tk it => ?_
        refine hq I wr s₁ _ k₁ (keeps_trans k₁ (keeps_both it.2.1)) it ?_
        have := iterD_len hi
        rw [enumFrom_length, sizeLine_eq]; lia

theorem wfGens_ok {gens : List Comprehension} (h : wfGens gens sc sc' = true) : ∃ tg iter ifs, gens = [⟨tg, iter, ifs, 0⟩] ∧ wfE iter sc = true ∧ wfEach ifs sc' = true ∧ ScopeOk sc' sc (targetsOf tg) ∧ tgOk tg = true ∧ (isEnumCall iter = true → isTup tg = true ∧ enumOk iter = true) := by
  cases gens with
  | nil => exact false_ne h
  | cons g r =>
    obtain ⟨tg, iter, ifs, a⟩ := g
    replace h := Bool.and_eq_true_iff.mp h
    obtain ⟨h0, h⟩ := h
    replace h := Bool.and_eq_true_iff.mp h
    obtain ⟨h, h6⟩ := h
    replace h := Bool.and_eq_true_iff.mp h
    obtain ⟨h, h5⟩ := h
    replace h := Bool.and_eq_true_iff.mp h
    obtain ⟨h, h4⟩ := h
    replace h := Bool.and_eq_true_iff.mp h
    obtain ⟨h, h3⟩ := h
    obtain ⟨h1, h2⟩ := Bool.and_eq_true_iff.mp h
    cases List.isEmpty_iff.mp h0
    cases of_decide_eq_true h1
    exact ⟨tg, iter, ifs, rfl, h2, h3, scopeB_ok h4, h5, fun q => Bool.and_eq_true_iff.mp (by rw [q] at h6; exact h6)⟩

theorem closure_ok {tgs : List Str} (S : ScopeOk sc' sc tgs) (O : EnvOk env sc) : closureFor sc' env = pure (clOf env sc'.names []) :=
  closureFor_eq fun m hm => (kinds_free S O (lookup_of_mem S.nodup hm)).2

theorem names_ok {tgs : List Str} (S : ScopeOk sc' sc tgs) : ∀ x ∈ sc'.names, x.2 = .local → sc'.names.lookup x.1 = some .local := fun x hx h => by
  obtain ⟨m, k⟩ := x
  have h' : k = .local := h
  subst h'
  exact lookup_of_mem S.nodup hx

/-- a list comprehension, its end open -/
theorem comp_any {elt tg iter : Expr} {ifs : List Expr} {pos cpos : Pos} {items ds : List D} {use : Option (Value → Sem Unit)} {Q : Value → Shared → Prop} (TO : TabOk prog w T n h₀)
    (hSe : SE prog w T n h₀ elt) (hSi : SE prog w T n h₀ iter) (hSx : ∀ f fp x kws p, iter = .Call (.Name f fp) [x] kws p → SE prog w T n h₀ x) (hSt : ∀ e ∈ ifs, ST prog w T n h₀ e)
    (hwe : wfE elt sc' = true) (hwi : wfE iter sc = true) (hwt : wfEach ifs sc' = true) (S : ScopeOk sc' sc (targetsOf tg)) (henum : isEnumCall iter = true → isTup tg = true ∧ enumOk iter = true)
    (e1 : evItems T iter sc ρ (evE T iter sc ρ) = some items) (e2 : compO (Turn tg ρ (fun ρ' => evTs T .And ifs sc' ρ') (fun ρ' => evE T elt sc' ρ')) items = some ds)
    (V : View prog w env sc hot NoVar ρ s.heap) (hA : Aok n A) (H : HotIn hot s.heap) (hE : Ext h₀ s.heap)
    (hq : ∀ D' C s' m, Keeps s s' → s.heap.get? D' = none → s.heap.get? C = none → D' ≠ C → s'.heap.Ns C m → Rep prog w (fun b => hot b ∨ b = C) s'.heap (.ref D') (.list ds) →
      Fr' (.ListComp elt [⟨tg, iter, ifs, 0⟩] sc' pos) s.heap s'.heap (.ref D') → compPost (model prog w) A E use Q (.ref D') C (.ok .next) s') :
    wpAny (model prog w) A (comprehension (.ListComp elt [⟨tg, iter, ifs, 0⟩] sc' pos) sc' env cpos (newList []) false (eval iter env) use) Q E s := by
  have hs : ∀ x, foldedSetIterable iter env x = pure x := by
    refine folded_ok ?_
    intro es k p q
    rw [q] at e1
    cases (show (none : Option (List D)) = some _ from e1)
  refine wpAny_comprehension_free (use := use) (g := ⟨tg, iter, ifs, 0⟩) (gs := []) rfl hs (closure_ok S V.ok) S.kind (names_ok S) ?_
  refine iter_first TO hSi hSx hwi henum e1 V hA H hE fun I wr s₁ s₂ k₁ k₂ it hlen => ?_
  refine comp_core (hot := hot) (ρ := ρ) (hb := h₀) (sc := sc) (fx := isComp elt) (h₁ := s₁.heap) (RR := fun acc C => compPost (model prog w) A E use Q acc C) hA.handled S (V.keeps (kx k₁)) (H.ext (kx k₂)) (hE.trans (kx k₂)) (hE.trans (kx k₁)) it.2.1 it ?_ e2 hlen ?_
  · intro cenv hot' O
    refine ⟨fun ρ' b s₃ Q' E' ht V' H' hE' q => ?_, fun ρ' d s₃ Q' E' he V' H' hE' q => ?_⟩
    · exact ifs_ok ifs b s₃ Q' hSt hwt ht V' hA H' hE' q
    · exact hSe sc' ρ' d cenv hot' A s₃ E' Q' hwe he V' hA H' hE' fun v s₄ k₄ r₄ f₄ => q v s₄ k₄ r₄ f₄.1
  · rintro D' C h' tk vs m fD fC hDC hns hpl ⟨hm, xm, lm, M⟩ kp
    have kk : Ext s.heap h' := fun b o g => kp b o (fun z => by
      have g1 := kx k₁ b o g
      rw [(it.1 b z).1] at g1; cases g1) (kx k₂ b o g)
    have up : ∀ {b : Addr}, s₂.heap.get? b = none → s.heap.get? b = none := fun {b} z => by
      cases g : s.heap.get? b with
      | none => rfl
      | some o => rw [kx k₂ b o g] at z; cases z
    obtain ⟨h2, t2, e2', _⟩ := k₂
    have ks : Keeps s { s₂ with heap := h', toks := tk } := by subst e2'; exact ⟨h', tk, rfl, kk⟩
    obtain ⟨ne, hpl'⟩ := hpl
    have hDh : ¬ hot D' := fun z => by obtain ⟨o, g⟩ := H D' z; rw [up fD] at g; cases g
    refine hq D' C _ m ks (up fD) (up fC) hDC hns (.list (fun z => ?_) hpl' ?_) ⟨fun z0 => ⟨D', rfl, up fD, _, hpl'⟩, fun z => ?_⟩
    · rcases z with z | z
      · exact hDh z
      · exact hDC z
    · exact M.reps.mono fun a o na g => ⟨fun z => na (z.imp id .inr), g⟩
    · have hce : isComp elt = true := by
        cases elt <;> first | rfl | cases z
      obtain ⟨bs, b1, b2, b3⟩ := M.fresh hce
      refine ⟨D', bs, rfl, ⟨ne, ?_⟩, ?_, fun b hb => ?_⟩
      · rw [← b1]; simpa using hpl'
      · rw [List.nodup_cons]
        refine ⟨fun hD => ?_, b2⟩
        obtain ⟨o, g⟩ := lm
        rw [(b3 D' hD).1] at g; cases g
      · rcases List.mem_cons.mp hb with rfl | hb
        · exact up fD
        · refine up ?_
          cases g : s₂.heap.get? b with
          | none => rfl
          | some o => have := (b3 b hb).1; rw [xm b o g] at this; cases this
end
end Mine

end

section
namespace Mine
variable {prog : Program} {w : World}
section
variable {A : Around} {E : Value → Shared → Prop} {s : Shared} {hot : Addr → Prop} {env : Env} {sc sc' : Scope} {ρ : Vars} {T : Tab} {n : Nat} {h₀ : Heap}

theorem compO_congr {f g : D → Option (Option D)} (h : ∀ d, f d = g d) : ∀ l, compO f l = compO g l
  | [] => rfl
  | d :: r => by rw [compO, compO, h, compO_congr h r]

theorem turn_eq {tg iter : Expr} {ifs : List Expr} {elt : Expr} (d : D) :
    ((bindG [⟨tg, iter, ifs, 0⟩] d ρ).bind fun ρ' => (evIfs T [⟨tg, iter, ifs, 0⟩] sc' ρ').bind fun b => if b then (evE T elt sc' ρ').bind fun x => some (some x) else some none) =
    Turn tg ρ (fun ρ' => evTs T .And ifs sc' ρ') (fun ρ' => evE T elt sc' ρ') d := by
  unfold Turn bindG
  simp only [evIfs]

/-- a list comprehension, its parts -/
inductive CompIs (T : Tab) (sc sc' : Scope) (ρ : Vars) (elt : Expr) : List Comprehension → D → Prop
  | mk {tg iter ifs items ds} : wfE iter sc = true → wfEach ifs sc' = true → ScopeOk sc' sc (targetsOf tg) → (isEnumCall iter = true → isTup tg = true ∧ enumOk iter = true) → wfE elt sc' = true →
    evItems T iter sc ρ (evE T iter sc ρ) = some items → compO (Turn tg ρ (fun ρ' => evTs T .And ifs sc' ρ') (fun ρ' => evE T elt sc' ρ')) items = some ds → CompIs T sc sc' ρ elt [⟨tg, iter, ifs, 0⟩] (.list ds)
theorem comp_in {elt : Expr} {gens : List Comprehension} {pos : Pos} {d : D} (hw : wfE (.ListComp elt gens sc' pos) sc = true) (he : evE T (.ListComp elt gens sc' pos) sc ρ = some d) : CompIs T sc sc' ρ elt gens d := by
  obtain ⟨hwg, hwe⟩ := Bool.and_eq_true_iff.mp hw
  obtain ⟨tg, iter, ifs, rfl, hwi, hwt, S, _, henum⟩ := wfGens_ok hwg
  obtain ⟨items, e1, e2⟩ := Option.bind_eq_some_iff.mp he
  obtain ⟨ds, e3, e4⟩ := Option.bind_eq_some_iff.mp e2
  rw [compO_congr turn_eq] at e3
  exact Option.some.inj e4 ▸ .mk hwi hwt S henum hwe e1 e3

theorem listcomp_ok {elt : Expr} {gens : List Comprehension} {pos : Pos} (TO : TabOk prog w T n h₀) (hSe : SE prog w T n h₀ elt) (hSg : ∀ g ∈ gens, SE prog w T n h₀ g.iter ∧ (∀ f fp x kws p, g.iter = .Call (.Name f fp) [x] kws p → SE prog w T n h₀ x) ∧ ∀ e ∈ g.ifs, ST prog w T n h₀ e) :
    SE prog w T n h₀ (.ListComp elt gens sc' pos) := by
  intro sc ρ d env hot A s E Q hw he V hA H hE hq
  have X := comp_in hw he
  clear hw he
  cases X with
  | @mk tg iter ifs items ds hwi hwt S henum hwe e1 e2 =>
      obtain ⟨hSi, hSx, hSt⟩ := hSg _ List.mem_cons_self
      rw [eval_ListComp]
      refine comp_any (use := none) TO hSe hSi hSx hSt hwe hwi hwt S henum e1 e2 V hA H hE fun D' C s' m k fD fC hDC hns r f => ?_
      refine ⟨m, hns, fun h' hs => ?_⟩
      obtain ⟨h₁, t₁, e', kk⟩ := k
      subst e'
      have sb : ∀ b o, b ≠ C → h₁.get? b = some o → h'.get? b = some o := fun b o nb g => hs.extBut b o nb g
      have kk' : Ext s.heap h' := fun b o g => sb b o (fun z => by subst z; rw [fC] at g; cases g) (kk b o g)
      refine hq _ _ ⟨h', t₁, rfl, kk'⟩ (r.mono fun a o na g => ⟨fun z => na (.inl z), sb a o (fun z => na (.inr z)) g⟩) ⟨fun z => ?_, fun z => ?_⟩
      · obtain ⟨a, e1, e2, o, e3⟩ := f.1 z
        cases e1
        exact ⟨D', rfl, e2, o, sb D' o hDC e3⟩
      · obtain ⟨a, bs, e1, ⟨ne, e2⟩, e3, e4⟩ := f.2 z
        cases e1
        exact ⟨D', bs, rfl, ⟨ne, sb D' _ hDC e2⟩, e3, e4⟩

theorem stored_none {ks : List Str} {k : Str} : stored (ks.map fun k => (k, Value.none)) k .none = (putKey ks k).map fun k => (k, Value.none) := by
  unfold stored putKey
  have q : ((ks.map fun k => (k, Value.none)).any fun kv => decide (kv.1 = k)) = decide (k ∈ ks) := by
    rw [List.any_map]
    rw [Bool.eq_iff_iff]
    simp only [List.any_eq_true, Function.comp, decide_eq_true_eq]
    exact ⟨fun ⟨x, hx, e⟩ => e ▸ hx, fun h => ⟨k, h, rfl⟩⟩
  rw [q]
  by_cases h : k ∈ ks
  · simp only [h, decide_true, if_true, List.map_map]
    refine List.map_congr_left fun x z0 => ?_
    simp only [Function.comp]
    split <;> rfl
  · simp [h]

theorem foldl_put (xs : List Str) (k : Str) : (xs ++ [k]).foldl putKey [] = putKey (xs.foldl putKey []) k := List.foldl_append
theorem storedAll_keys {vs : List Value} {kvs : List (Str × Value)} (h : StoredAll (fun v k => ∃ t, v = Value.str k t) (fun z0 y => y = Value.none) vs kvs) :
    ∃ xs : List Str, vs.length = xs.length ∧ (∀ (i : Nat) (v : Value), vs[i]? = some v → ∃ k t, xs[i]? = some k ∧ v = Value.str k t) ∧ kvs = (xs.foldl putKey []).map fun k => (k, Value.none) := by
  induction h with
  | nil => exact ⟨[], rfl, fun i v e => none_ne e, rfl⟩
  | @snoc l kvs v k y h1 h2 h3 ih =>
    obtain ⟨xs, a, b, c⟩ := ih
    obtain ⟨t, h2⟩ := h2
    refine ⟨xs ++ [k], by rw [List.length_append, List.length_append, a]; rfl, fun i v e => ?_, by rw [foldl_put, c, h3]; exact stored_none⟩
    by_cases hi : i < l.length
    · rw [List.getElem?_append_left hi] at e
      rw [List.getElem?_append_left (a ▸ hi)]
      exact b i v e
    · rw [List.getElem?_append_right (Nat.le_of_not_lt hi)] at e
      rw [List.getElem?_append_right (a ▸ Nat.le_of_not_lt hi), ← a]
      cases hz : i - l.length with
      | zero => rw [hz] at e; exact ⟨k, t, rfl, (Option.some.inj e).symm.trans h2⟩
      | succ m => rw [hz] at e; cases e

theorem strs_same (xs ys : List Str) (h : xs.length = ys.length) (k : ∀ (i : Nat) (hi : i < xs.length), ys[i]? = some xs[i]) : xs = ys := List.ext_getElem h fun i h1 h2 => by
  have := k i h1
  rw [List.getElem?_eq_getElem h2] at this
  exact (Option.some.inj this).symm

/-- a comprehension of a dict, its parts -/
inductive DictIs (T : Tab) (sc sc' : Scope) (ρ : Vars) : Expr → Expr → List Comprehension → D → Prop
  | mk {x px kc pc py iter} {L : List Str} : wfE iter sc = true → ScopeOk sc' sc [x] → okName x = true → sc'.names.lookup x = some .local → (∀ z ∈ sc'.names, z.2 ≠ .cell) → evE T iter sc ρ = some (.list (L.map .str)) → L.length ≤ 1000000 →
    DictIs T sc sc' ρ (.Name x px) (.Constant .none kc pc) [⟨.Name x py, iter, [], 0⟩] (.dictS (L.foldl putKey []))
theorem dict_in {k v : Expr} {gens : List Comprehension} {pos : Pos} {d : D} (hw : wfE (.DictComp k v gens sc' pos) sc = true) (he : evE T (.DictComp k v gens sc' pos) sc ρ = some d) : DictIs T sc sc' ρ k v gens d := by
  replace hw := Bool.and_eq_true_iff.mp hw
  obtain ⟨hw, hwk⟩ := hw
  obtain ⟨hwg, hwc⟩ := Bool.and_eq_true_iff.mp hw
  obtain ⟨dl, e1, e2⟩ := Option.bind_eq_some_iff.mp he
  cases dl with
  | list xs =>
    obtain ⟨hsh, e3⟩ := ite_oo e2
    obtain ⟨ks, hk, e4⟩ := Option.bind_eq_some_iff.mp e3
    obtain ⟨L, hL, e5⟩ := Option.map_eq_some_iff.mp hk
    obtain ⟨x, px, kc, pc, py, it, rfl, rfl, rfl⟩ := dictShape_is hsh.1
    obtain ⟨tg, iter, ifs, h0, hwi, _, S, _⟩ := wfGens_ok hwg
    cases h0
    have hcell : ∀ z ∈ sc'.names, z.2 ≠ .cell := fun z hz q => by
      have := List.all_eq_true.mp hwc z hz
      rw [q] at this; cases this
    rw [← Option.some.inj e4, ← e5]
    have hx := strsOf_is hL
    exact .mk hwi S hwk ((S.tg x List.mem_cons_self).resolve_right fun q => hcell _ (mem_of_lookup q) rfl) hcell (hx ▸ e1) (by have := hsh.2; rw [hx, List.length_map] at this; exact this)
  | _ => exact none_ne e2

theorem dictcomp_ok {k v : Expr} {gens : List Comprehension} {pos : Pos} (TO : TabOk prog w T n h₀) (hSg : ∀ g ∈ gens, SE prog w T n h₀ g.iter) : SE prog w T n h₀ (.DictComp k v gens sc' pos) := by
  intro sc ρ d env hot A s E Q hw he V hA H hE hq
  have X := dict_in hw he
  clear hw he
  cases X with
  | @mk x px kc pc py iter L hwi S hok hx hcell e1 hlen =>
    have hSi := hSg _ List.mem_cons_self
    refine wpAny_DictComp_free (strKind prog w) (fun z0 => true) (fun v k => ∃ t, v = Value.str k t) (fun z0 y => y = Value.none) (closure_ok S V.ok) hcell S.kind (names_ok S) hx ?_ (folded_ok (not_set e1))
    refine hSi sc ρ _ env hot A s E _ hwi e1 V hA H hE fun v₁ s₁ k₁ r₁ z0 => ?_
    clear hSi hSg e1 V hE TO
    obtain ⟨l, vs, ne, rfl, nl, hl, rl⟩ := r₁.isPlain
    have hlt : l ≠ s₁.heap.objs.size := Nat.ne_of_lt (Heap.lt_size hl)
    have hln := rl.length
    rw [Array.length_toList, List.length_map] at hln
    have hP : ∀ (i : Nat) (v : Value), vs[i]? = some v → ∃ k t, L[i]? = some k ∧ v = Value.str k t := fun i v hv => by
      obtain ⟨d, hd, rd⟩ := rl.get' (k := i) (v := v) (Array.getElem?_toList.trans hv)
      rw [List.getElem?_map] at hd
      obtain ⟨k, h1, rfl⟩ := Option.map_eq_some_iff.mp hd
      obtain ⟨t, rfl⟩ := rd.isStr
      exact ⟨k, t, h1, rfl⟩
    refine wpAny_pyIter_list ⟨_, hl, rfl, _, rfl⟩ ?_
    refine ⟨_, _, _, vs.size, _, _, rfl, Walks.list hA.handled s₁.heap.objs.size l hlt vs, by rw [sizeLine_eq]; lia, ⟨⟨_, Heap.get?_push_size _ rfl, rfl, rfl⟩, ⟨_, Heap.get?_push_of_some _ hl, rfl, _, rfl⟩⟩, fun b hb => ?_, ⟨?_, ?_, ?_⟩, ?_⟩
    · rw [Heap.size_push]
      exact (List.mem_cons.mp hb).elim (fun q => q ▸ Nat.lt_succ_self _) fun q => List.mem_singleton.mp q ▸ Nat.lt_succ_of_lt (Heap.lt_size hl)
    · intro C i v s₃ m₃ E' hv hn hm _
      rw [List.forIn_nil]
      exact wpAny_pure ⟨rfl, keeps_refl s₃⟩
    · intro C i v s₃ m₃ E' hv _ hn hm _
      obtain ⟨k, t, _, rfl⟩ := hP i v hv
      exact wpAny_Name (wpAny_loadName_local S.kind (lookup_relabel_local hx) hn hm ⟨⟨k, strKind_is prog w k t, t, rfl⟩, keeps_refl s₃⟩) (okName_dbg hok)
    · intro C i v s₃ m₃ E' hv _ hn hm _
      exact wpAny_pure ⟨rfl, keeps_refl s₃⟩
    · intro D' h' tk kvs us fD hd hlen' hP' hst kp
      rw [List.filter_eq_self.mpr (fun z0 z0 => rfl)] at hst
      obtain ⟨ks, a1, a2, a3⟩ := storedAll_keys hst
      have hxx : ks = L := strs_same ks L (by lia) fun i hi => by
        have hu : i < us.length := a1 ▸ hi
        have h5 := List.getElem?_eq_getElem hu
        obtain ⟨k1, t1, b1, b2⟩ := a2 i _ h5
        obtain ⟨k2, t2, c1, c2⟩ := hP i _ (hP' i _ h5)
        rw [b2] at c2
        rw [c1, ← (Value.str.inj c2).1, ← b1, List.getElem?_eq_getElem hi]
      rw [a3, hxx] at hd
      have kk : Ext s.heap h' := fun b o g => by
        have g1 := kx k₁ b o g
        exact kp b o (fun q => by rw [List.mem_singleton.mp q] at g1; exact Nat.lt_irrefl _ (Heap.lt_size g1)) (Heap.get?_push_of_some _ g1)
      have fD' : ¬ hot D' := fun z => by
        obtain ⟨o, g⟩ := H D' z
        have g2 : (s₁.heap.push { cls := .type "list_iterator", data := .fields #[.ref l, .int 0 0] }).get? D' = some o := Heap.get?_push_of_some _ (kx k₁ D' o g)
        rw [show _ = (none : Option Obj) from fD] at g2; cases g2
      obtain ⟨h1, t1, rfl, _⟩ := k₁
      exact hq _ _ ⟨h', tk, rfl, kk⟩ (.dictS fD' hd) (fr_no rfl)
end
end Mine

end

section
namespace Mine
variable {prog : Program} {w : World}
section
variable {A : Around} {E : Value → Shared → Prop} {s : Shared} {hot : Addr → Prop} {env : Env} {sc sc' : Scope} {ρ : Vars} {T : Tab} {n : Nat} {h₀ : Heap}

theorem opt_ok {o : Option Expr} {d : D} {Q : Value → Shared → Prop} (hS : ∀ e, o = some e → SE prog w T n h₀ e) (hw : wfOpt o sc = true) (e : evOpt T o sc ρ = some d)
    (V : View prog w env sc hot NoVar ρ s.heap) (hA : Aok n A) (H : HotIn hot s.heap) (hE : Ext h₀ s.heap) (hq : ∀ v s', Keeps s s' → Rep prog w hot s'.heap v d → Q v s') :
    wpAny (model prog w) A (valueOrNone (evalOpt o env)) Q E s := by
  cases o with
  | none => rw [evOpt] at e; cases e; exact wpAny_pure (hq _ _ (keeps_refl s) .none)
  | some x =>
    rw [evOpt] at e
    rw [wfOpt] at hw
    exact hS x rfl sc ρ d env hot A s E Q hw e V hA H hE fun v s₁ k₁ r₁ z0 => hq v s₁ k₁ r₁

theorem slice_sub_ok {v : Expr} {l u st : Option Expr} {p1 p2 : Pos} (hSv : SE prog w T n h₀ v) (hl : ∀ e, l = some e → SE prog w T n h₀ e) (hu : ∀ e, u = some e → SE prog w T n h₀ e) (hst : ∀ e, st = some e → SE prog w T n h₀ e) :
    SE prog w T n h₀ (.Subscript v (.Slice l u st p1) p2) := by
  intro sc ρ d env hot A s E Q hw he V hA H hE hq
  simp only [wfE_SS, Bool.and_eq_true] at hw
  obtain ⟨⟨⟨w1, w2⟩, w3⟩, w4⟩ := hw
  simp only [evE_SS, Option.bind_eq_some_iff] at he
  obtain ⟨a, e1, dl, e2, du, e3, dk, e4, lo, p1', hi, p2', sp, p3', e5⟩ := he
  refine Subscript_ (hSv sc ρ a env hot A s E _ w1 e1 V hA H hE fun va s₁ k₁ ra z0 => ?_)
  rw [arm_eval_Slice]
  refine wpAny_bind (opt_ok hl w2 e2 (V.keeps (kx k₁)) hA (H.ext (kx k₁)) (hE.trans (kx k₁)) fun vl s₂ k₂ rl => ?_)
  have k₁₂ := keeps_trans k₁ k₂
  refine wpAny_bind (wpAny_holding (opt_ok hu w3 e3 (V.keeps (kx k₁₂)) hA (H.ext (kx k₁₂)) (hE.trans (kx k₁₂)) fun vu s₃ k₃ ru => ?_))
  have k₁₃ := keeps_trans k₁₂ k₃
  refine wpAny_bind (wpAny_holding (opt_ok hst w4 e4 (V.keeps (kx k₁₃)) hA (H.ext (kx k₁₃)) (hE.trans (kx k₁₃)) fun vk s₄ k₄ rk => ?_))
  have k₁₄ := keeps_trans k₁₃ k₄
  have k34 := (kx k₃).trans (kx k₄)
  have k24 := (kx k₂).trans k34
  exact slice_ok e5 (H.ext (kx k₁₄)) (ra.mono k24.sees) (partD_of p1') (partD_of p2') (partD_of p3') (rl.mono k34.sees) (ru.mono (kx k₄).sees) rk fun v s₅ k₅ r₅ =>
    hq v s₅ (keeps_trans k₁₄ k₅) r₅ (fr_no rfl)

theorem idx_sub_ok {v i : Expr} {pos : Pos} (hns : ∀ l u st p, i ≠ .Slice l u st p) (hSv : SE prog w T n h₀ v) (hSi : SE prog w T n h₀ i) : SE prog w T n h₀ (.Subscript v i pos) := by
  intro sc ρ d env hot A s E Q hw he V hA H hE hq
  have hns' : ∀ (l u s : Option Expr) (p : Pos), i = .Slice l u s p → False := fun l u s p q => hns l u s p q
  have hw' : wfE v sc = true ∧ wfE i sc = true := by
    rw [wfE_S] at hw
    · simpa only [Bool.and_eq_true] using hw
    · exact hns'
  have he' : ((evE T v sc ρ).bind fun a => (evE T i sc ρ).bind fun b => idxD a b) = some d := by
    rw [evE_S] at he
    · exact he
    · exact hns'
  simp only [Option.bind_eq_some_iff] at he'
  obtain ⟨a, e1, b, e2, e3⟩ := he'
  refine Subscript_ (hSv sc ρ a env hot A s E _ hw'.1 e1 V hA H hE fun va s₁ k₁ ra z0 => ?_)
  refine hSi sc ρ b env hot A s₁ E _ hw'.2 e2 (V.keeps (kx k₁)) hA (H.ext (kx k₁)) (hE.trans (kx k₁)) fun vb s₂ k₂ rb z0 => ?_
  exact idx_ok e3 (ra.mono (kx k₂).sees) rb fun v s₃ k₃ r₃ => hq v s₃ (keeps_trans (keeps_trans k₁ k₂) k₃) r₃ (fr_no rfl)

theorem hm_of {op : CmpOp} {e : Expr} {d : D} (h : evE T e sc ρ = some d) : behindInMarks op e = false := by
  cases e <;> first | rfl | cases (show (none : Option D) = some _ from h)

theorem cmp_parts {l : Expr} {ops : List CmpOp} {rs : List Expr} {pos : Pos} {d : D} (he : evE T (.Compare l ops rs pos) sc ρ = some d) :
    ∃ op r a b c, ops = [op] ∧ rs = [r] ∧ evE T l sc ρ = some a ∧ evE T r sc ρ = some b ∧ cmpD op a b = some c ∧ d = .bool c := by
  rw [evE_Cm] at he
  cases h1 : evE T l sc ρ with
  | none => rw [h1] at he; cases he
  | some a =>
    rw [h1, Option.bind_some] at he
    match ops, rs with
    | [op], [r] =>
      rw [evEach_c, evEach_n] at he
      dsimp only at he
      simp only [Option.bind_eq_some_iff] at he
      obtain ⟨b, e2, c, e3, e4⟩ := he
      cases e4
      exact ⟨op, r, a, b, c, rfl, rfl, rfl, e2, e3, rfl⟩
    | [], _ => cases he
    | _ :: _ :: _, _ => cases he
    | [_], [] => rw [evEach_n] at he; cases he
    | [_], _ :: _ :: _ => rw [evEach_c, evEach_c] at he; cases he

theorem test_plain {e : Expr} (hS : SE prog w T n h₀ e) (he : ∀ whole : Option D, evT T e = fun sc ρ whole => whole.bind truthD) (hr : ∀ env whole, isTrue e env whole = (do let v ← whole; standAt e.pos; holding [v] (truthy v))) : ST prog w T n h₀ e := by
  intro sc ρ b env hot A s E Q hw h V hA H hE hq
  rw [he none] at h
  simp only [Option.bind_eq_some_iff] at h
  obtain ⟨d, e1, e2⟩ := h
  refine wpAny_isTrue_value ?_ (hr _ _)
  exact hS sc ρ d env hot A s E _ hw e1 V hA H hE fun v s₁ k₁ r₁ z0 => truth_ok e2 r₁ fun s₂ k₂ => hq s₂ (keeps_trans k₁ k₂)

theorem none_plain {e : Expr} (h : ∀ sc ρ, evE T e sc ρ = none) (he : ∀ whole : Option D, evT T e = fun sc ρ whole => whole.bind truthD) (hr : ∀ env whole, isTrue e env whole = (do let v ← whole; standAt e.pos; holding [v] (truthy v))) : SE prog w T n h₀ e ∧ ST prog w T n h₀ e :=
  have S : SE prog w T n h₀ e := fun sc ρ d env hot A s E Q hw he V hA H hE hq => absurd he (by rw [h]; exact fun x => by cases x)
  ⟨S, test_plain S he hr⟩

set_option tactic.hygienic true in
theorem all_ok (TO : TabOk prog w T n h₀) (hsm : True) : ∀ (m : Nat) (e : Expr), sizeOf e < m → SE prog w T n h₀ e ∧ ST prog w T n h₀ e
  | 0, e, h => absurd h (Nat.not_lt_zero _)
  | m + 1, e, h => by
    have ih : ∀ x : Expr, sizeOf x < sizeOf e → SE prog w T n h₀ x ∧ ST prog w T n h₀ x := fun x hx => all_ok TO hsm m x (by lia)
    have ihs : ∀ es : List Expr, sizeOf es < sizeOf e → ∀ x ∈ es, SE prog w T n h₀ x ∧ ST prog w T n h₀ x := fun es hes x hx => ih x (Nat.lt_trans (List.sizeOf_lt_of_mem hx) hes)
    cases e with
    | Constant c k p =>
      have S : SE prog w T n h₀ (.Constant c k p) := fun sc ρ d env hot A s E Q hw he V hA H hE hq => by
        rw [evE_C] at he
        rw [eval_Constant]
        exact const_ok he fun v s₁ k₁ r₁ => hq v s₁ k₁ r₁ (fr_no rfl)
      exact ⟨S, test_plain S (fun z0 => rfl) fun z0 z0 => rfl⟩
    | Name x p =>
      have S : SE prog w T n h₀ (.Name x p) := fun sc ρ d env hot A s E Q hw he V hA H hE hq => by
        rw [evE_N] at he
        rw [wfE_N] at hw
        exact name_ok TO he V hE hw fun v r => hq v s (keeps_refl s) r (fr_no rfl)
      exact ⟨S, test_plain S (fun z0 => rfl) fun z0 z0 => rfl⟩
    | BoolOp op vs p =>
      have q := ihs vs (by simp only [Expr.BoolOp.sizeOf_spec]; lia)
      refine ⟨fun sc ρ d env hot A s E Q hw he V hA H hE hq => ?_, fun sc ρ b env hot A s E Q hw h V hA H hE hq => ?_⟩
      · rw [evE_B] at he; rw [wfE_B] at hw
        rw [arm_eval_BoolOp]
        exact boolOp_ok vs d s Q (fun x hx => (q x hx).1) hw he V hA H hE fun v s₁ k₁ r₁ => hq v s₁ k₁ r₁ (fr_no rfl)
      · rw [evT_B] at h; rw [wfE_B] at hw
        rw [arm_isTrue_BoolOp]
        exact allTrue_ok vs b s Q (fun x hx => (q x hx).2) hw h V hA H hE hq
    | BinOp l op r p =>
      have q1 := ih l (by simp only [Expr.BinOp.sizeOf_spec]; lia)
      have q2 := ih r (by simp only [Expr.BinOp.sizeOf_spec]; lia)
      have S : SE prog w T n h₀ (.BinOp l op r p) := fun sc ρ d env hot A s E Q hw he V hA H hE hq => by
        rw [evE_2] at he
        simp only [Option.bind_eq_some_iff] at he
        obtain ⟨a, e1, b, e2, e3⟩ := he
        simp only [wfE_2, Bool.and_eq_true] at hw
        refine wpAny_BinOp (q1.1 sc ρ a env hot A s E _ hw.1 e1 V hA H hE fun va s₁ k₁ ra z0 => ?_)
        refine q2.1 sc ρ b env hot A s₁ E _ hw.2 e2 (V.keeps (kx k₁)) hA (H.ext (kx k₁)) (hE.trans (kx k₁)) fun vb s₂ k₂ rb z0 => ?_
        exact bin_ok e3 ((H.ext (kx k₁)).ext (kx k₂)) (ra.mono (kx k₂).sees) rb fun v s₃ k₃ r₃ => hq v s₃ (keeps_trans (keeps_trans k₁ k₂) k₃) r₃ (fr_no rfl)
      exact ⟨S, test_plain S (fun z0 => rfl) fun z0 z0 => rfl⟩
    | UnaryOp op x p =>
      have q1 := ih x (by simp only [Expr.UnaryOp.sizeOf_spec]; lia)
      have S : SE prog w T n h₀ (.UnaryOp op x p) := fun sc ρ d env hot A s E Q hw he V hA H hE hq => by
        rw [evE_U] at he
        simp only [Option.bind_eq_some_iff] at he
        obtain ⟨a, e1, e2⟩ := he
        rw [wfE_U] at hw
        refine wpAny_UnaryOp (q1.1 sc ρ a env hot A s E _ hw e1 V hA H hE fun va s₁ k₁ ra z0 => ?_)
        exact un_ok e2 ra fun v s₂ k₂ r₂ => hq v s₂ (keeps_trans k₁ k₂) r₂ (fr_no rfl)
      refine ⟨S, ?_⟩
      cases op with
      | Not =>
        intro sc ρ b env hot A s E Q hw h V hA H hE hq
        rw [evT_N] at h; rw [wfE_U] at hw
        cases hb : evT T x sc ρ (evE T x sc ρ) with
        | none => rw [hb] at h; cases h
        | some c =>
          rw [hb] at h; cases h
          exact wpAny_isTrue_Not (q1.2 sc ρ c env hot A s E _ hw hb V hA H hE hq)
      | _ => exact test_plain S (fun z0 => rfl) fun z0 z0 => rfl
    | IfExp t b o p =>
      have q1 := ih t (by simp only [Expr.IfExp.sizeOf_spec]; lia)
      have q2 := ih b (by simp only [Expr.IfExp.sizeOf_spec]; lia)
      have q3 := ih o (by simp only [Expr.IfExp.sizeOf_spec]; lia)
      refine ⟨fun sc ρ d env hot A s E Q hw he V hA H hE hq => ?_, fun sc ρ b env hot A s E Q hw h V hA H hE hq => ?_⟩
      · rw [evE_I] at he
        simp only [Option.bind_eq_some_iff] at he
        obtain ⟨c, e1, e2⟩ := he
        simp only [wfE_I, Bool.and_eq_true] at hw
        refine wpAny_IfExp (q1.2 sc ρ c env hot A s E _ hw.1.1 e1 V hA H hE fun s₁ k₁ => ?_)
        cases c with
        | true =>
          simp only [if_true] at e2 ⊢
          exact q2.1 sc ρ d env hot A s₁ E _ hw.1.2 e2 (V.keeps (kx k₁)) hA (H.ext (kx k₁)) (hE.trans (kx k₁)) fun v s₂ k₂ r₂ z0 => hq v s₂ (keeps_trans k₁ k₂) r₂ (fr_no rfl)
        | false =>
          simp only [Bool.false_eq_true, if_false] at e2 ⊢
          exact q3.1 sc ρ d env hot A s₁ E _ hw.2 e2 (V.keeps (kx k₁)) hA (H.ext (kx k₁)) (hE.trans (kx k₁)) fun v s₂ k₂ r₂ z0 => hq v s₂ (keeps_trans k₁ k₂) r₂ (fr_no rfl)
      · cases (show (none : Option Bool) = some _ from h)
    | List es p =>
      have q := ihs es (by simp only [Expr.List.sizeOf_spec]; lia)
      have S : SE prog w T n h₀ (.List es p) := fun sc ρ d env hot A s E Q hw he V hA H hE hq => by
        rw [evE_L] at he
        simp only [Option.bind_eq_some_iff] at he
        obtain ⟨ds, e1, e2⟩ := he
        split at e2 <;> cases e2
        rename_i hlen
        rw [wfE_L] at hw
        refine wpAny_List (spliced_ok es p ds s _ (fun x hx => (q x hx).1) hw e1 V hA H hE fun vs s₁ k₁ r₁ => ⟨?_, ?_⟩)
        · have := r₁.length; rw [sizeLine_eq]; lia
        · exact hq _ _ (keeps_trans k₁ (keeps_heap (ext_push _ _))) (rep_list_new (H.ext (kx k₁)) r₁) (fr_no rfl)
      exact ⟨S, test_plain S (fun z0 => rfl) fun z0 z0 => rfl⟩
    | Tuple es k p =>
      have q := ihs es (by simp only [Expr.Tuple.sizeOf_spec]; lia)
      have S : SE prog w T n h₀ (.Tuple es k p) := fun sc ρ d env hot A s E Q hw he V hA H hE hq => by
        rw [evE_T] at he
        simp only [Option.bind_eq_some_iff] at he
        obtain ⟨ds, e1, e2⟩ := he
        split at e2 <;> cases e2
        rename_i hlen
        rw [wfE_T] at hw
        refine wpAny_Tuple (spliced_ok es p ds s _ (fun x hx => (q x hx).1) hw e1 V hA H hE fun vs s₁ k₁ r₁ => ⟨?_, ?_⟩)
        · have := r₁.length; rw [sizeLine_eq]; lia
        · exact hq _ _ (keeps_trans k₁ (keeps_heap (ext_push _ _))) (rep_tuple_new (H.ext (kx k₁)) r₁) (fr_no rfl)
      exact ⟨S, test_plain S (fun z0 => rfl) fun z0 z0 => rfl⟩
    | ListComp elt gens sc' p =>
      have qe := ih elt (by simp only [Expr.ListComp.sizeOf_spec]; lia)
      have qg : ∀ g ∈ gens, sizeOf g < sizeOf (Expr.ListComp elt gens sc' p) := fun g hg => by
        have := List.sizeOf_lt_of_mem hg
        simp only [Expr.ListComp.sizeOf_spec]; lia
      have S : SE prog w T n h₀ (.ListComp elt gens sc' p) := listcomp_ok TO qe.1 fun g hg => by
        have z := qg g hg
        obtain ⟨tg, iter, ifs, a⟩ := g
        simp only [Comprehension.mk.sizeOf_spec] at z
        have z1 : sizeOf iter < sizeOf (Expr.ListComp elt gens sc' p) := by lia
        refine ⟨(ih iter z1).1, fun f fp x kws p' e => ?_, fun x hx => (ihs ifs (by lia) x hx).2⟩
        have e' : iter = .Call (.Name f fp) [x] kws p' := e
        subst e'
        refine (ih x (Nat.lt_trans ?_ z1)).1
        simp only [Expr.Call.sizeOf_spec, List.cons.sizeOf_spec]; lia
      exact ⟨S, test_plain S (fun z0 => rfl) fun z0 z0 => rfl⟩
    | DictComp k v gens sc' p =>
      have S : SE prog w T n h₀ (.DictComp k v gens sc' p) := dictcomp_ok TO fun g hg => by
        have z := List.sizeOf_lt_of_mem hg
        obtain ⟨tg, iter, ifs, a⟩ := g
        simp only [Comprehension.mk.sizeOf_spec] at z
        exact (ih iter (by simp only [Expr.DictComp.sizeOf_spec]; lia)).1
      exact ⟨S, test_plain S (fun z0 => rfl) fun z0 z0 => rfl⟩
    | Compare l ops rs p =>
      have q1 := ih l (by simp only [Expr.Compare.sizeOf_spec]; lia)
      have q2 := ihs rs (by simp only [Expr.Compare.sizeOf_spec]; lia)
      refine ⟨fun sc ρ d env hot A s E Q hw he V hA H hE hq => ?_, fun sc ρ b env hot A s E Q hw h V hA H hE hq => ?_⟩
      · obtain ⟨op, r, a, b, c, rfl, rfl, e1, e2, e3, rfl⟩ := cmp_parts he
        simp only [wfE_Cm, wfEach_c, wfEach_n, Bool.and_eq_true] at hw
        refine wpAny_Compare1 (q1.1 sc ρ a env hot A s E _ hw.1 e1 V hA H hE fun va s₁ k₁ ra z0 => ?_) (hm_of e2)
        refine (q2 r List.mem_cons_self).1 sc ρ b env hot A s₁ E _ hw.2.1 e2 (V.keeps (kx k₁)) hA (H.ext (kx k₁)) (hE.trans (kx k₁)) fun vb s₂ k₂ rb z0 => ?_
        exact cmp_ok hA e3 (fun x hx => beq_eq_false_iff_ne.mpr fun q => hx (q ▸ V.sysm)) (ra.mono (kx k₂).sees) rb (hq _ s₂ (keeps_trans k₁ k₂) (.bool _) (fr_no rfl))
      · have h' : (evE T (.Compare l ops rs p) sc ρ).bind truthD = some b := h
        simp only [Option.bind_eq_some_iff] at h'
        obtain ⟨d, e0, e4⟩ := h'
        obtain ⟨op, r, a, b', c, rfl, rfl, e1, e2, e3, rfl⟩ := cmp_parts e0
        cases e4
        simp only [wfE_Cm, wfEach_c, wfEach_n, Bool.and_eq_true] at hw
        refine wpAny_isTrue_Compare1 (q1.1 sc ρ a env hot A s E _ hw.1 e1 V hA H hE fun va s₁ k₁ ra z0 => ?_) (hm_of e2)
        refine (q2 r List.mem_cons_self).1 sc ρ b' env hot A s₁ E _ hw.2.1 e2 (V.keeps (kx k₁)) hA (H.ext (kx k₁)) (hE.trans (kx k₁)) fun vb s₂ k₂ rb z0 => ?_
        exact cmp_ok hA e3 (fun x hx => beq_eq_false_iff_ne.mpr fun q => hx (q ▸ V.sysm)) (ra.mono (kx k₂).sees) rb (wpAny_truthy_bool (hq s₂ (keeps_trans k₁ k₂)))
    | Call f args kws p =>
      have qa := ihs args (by simp only [Expr.Call.sizeOf_spec]; lia)
      have qa1 : ∀ x ∈ args, SE prog w T n h₀ x := fun x hx => (qa x hx).1
      have S : SE prog w T n h₀ (.Call f args kws p) := fun sc ρ d env hot A s E Q hw he V hA H hE hq => by
        cases f with
        | Attribute o name apos =>
          have qo := (ih o (by simp only [Expr.Call.sizeOf_spec, Expr.Attribute.sizeOf_spec]; lia)).1
          simp only [wfE_CA, Bool.and_eq_true, decide_eq_true_eq, Bool.not_eq_true'] at hw
          obtain ⟨⟨⟨⟨⟨w1, w2⟩, w3⟩, w4⟩, w5⟩, w6⟩ := hw
          have w1' : kws = [] := List.isEmpty_iff.mp w1
          subst w1'
          rw [evE_CA] at he
          cases ht : tyCall T o sc name with
          | some ix =>
            rw [ht] at he
            dsimp only at he
            simp only [Option.bind_eq_some_iff] at he
            obtain ⟨ds, e1, e2⟩ := he
            unfold tyCall at ht
            split at ht
            · rename_i t tp
              split at ht
              · rename_i hg
                exact tymeth_ok TO qa1 w2 w3 w5 hg ht w6 e1 e2 V hA H hE fun v s₁ k₁ r₁ => hq v s₁ k₁ r₁ (fr_no rfl)
              · cases ht
            · cases ht
          | none =>
            rw [ht] at he
            dsimp only at he
            simp only [Option.bind_eq_some_iff] at he
            obtain ⟨d', e0, ds, e1, e2⟩ := he
            exact meth_ok TO qo qa1 w2 w3 w4 w5 w6 e0 e1 e2 V hA H hE fun v s₁ k₁ r₁ => hq v s₁ k₁ r₁ (fr_no rfl)
        | Name x xp =>
          simp only [wfE_CN, Bool.and_eq_true] at hw
          obtain ⟨⟨w1, w2⟩, w3⟩ := hw
          rw [evE_CN] at he
          split at he
          case isFalse => cases he
          rename_i hg
          simp only [Option.bind_eq_some_iff] at he
          obtain ⟨ds, e1, e2⟩ := he
          exact call_ok TO qa1 w1 hg w3 e1 e2 V hA H hE fun v s₁ k₁ r₁ => hq v s₁ k₁ r₁ (fr_no rfl)
        | _ => cases (show (none : Option D) = some _ from he)
      exact ⟨S, test_plain S (fun z0 => rfl) fun z0 z0 => rfl⟩
    | Subscript v i p =>
      have q1 := ih v (by simp only [Expr.Subscript.sizeOf_spec]; lia)
      have q2 := ih i (by simp only [Expr.Subscript.sizeOf_spec]; lia)
      have S : SE prog w T n h₀ (.Subscript v i p) := by
        by_cases hs : ∃ l u st p', i = .Slice l u st p'
        · obtain ⟨l, u, st, p', rfl⟩ := hs
          have q : ∀ o : Option Expr, sizeOf o < sizeOf (Expr.Subscript v (.Slice l u st p') p) → ∀ e, o = some e → SE prog w T n h₀ e := fun o ho e he => by
            subst he
            exact (ih e (Nat.lt_trans (by simp only [Option.some.sizeOf_spec]; lia) ho)).1
          exact slice_sub_ok q1.1 (q l (by simp only [Expr.Subscript.sizeOf_spec, Expr.Slice.sizeOf_spec]; lia)) (q u (by simp only [Expr.Subscript.sizeOf_spec, Expr.Slice.sizeOf_spec]; lia)) (q st (by simp only [Expr.Subscript.sizeOf_spec, Expr.Slice.sizeOf_spec]; lia))
        · exact idx_sub_ok (fun l u st p' e => hs ⟨l, u, st, p', e⟩) q1.1 q2.1
      exact ⟨S, test_plain S (fun z0 => rfl) fun z0 z0 => rfl⟩
    | _ => exact none_plain (fun z0 z0 => rfl) (fun z0 => rfl) fun z0 z0 => rfl
end
end Mine

end

section
namespace Mine
variable {prog : Program} {w : World}

inductive Rows' (prog : Program) (w : World) (hot : Addr → Prop) (h : Heap) : List Addr → List (List D) → Prop
  | nil : Rows' prog w hot h [] []
  | cons {b bs vs xs xss} : h.PlainList b vs → Reps prog w hot h vs.toList xs → Rows' prog w hot h bs xss → Rows' prog w hot h (b :: bs) (xs :: xss)

noncomputable def SlotAt (prog : Program) (w : World) (hot : Addr → Prop) (h : Heap) (v : Value) : Slt → List Addr → Prop
  | .cold d, as => as = [] ∧ Rep prog w hot h v d
  | .hot1 xs, as => ∃ a vs, v = .ref a ∧ as = [a] ∧ h.PlainList a vs ∧ Reps prog w hot h vs.toList xs
  | .hot2 xss, as => ∃ a bs, v = .ref a ∧ as = a :: bs ∧ h.PlainList a (bs.map Value.ref).toArray ∧ Rows' prog w hot h bs xss

theorem Rows'.step {hot hot' : Addr → Prop} {h h' : Heap} {bs : List Addr} {xss : List (List D)} (R : Rows' prog w hot h bs xss) (S : Sees hot hot' h h') (k : ∀ b ∈ bs, ∀ o, h.get? b = some o → h'.get? b = some o) : Rows' prog w hot' h' bs xss := by
  induction R with
  | nil => exact .nil
  | cons a b c ih => exact .cons (a.at fun o g => k _ List.mem_cons_self o g) (b.mono S) (ih fun x hx => k x (List.mem_cons_of_mem _ hx))
theorem Rows'.live {hot : Addr → Prop} {h : Heap} {bs : List Addr} {xss : List (List D)} (R : Rows' prog w hot h bs xss) : ∀ b ∈ bs, ∃ o, h.get? b = some o := by
  induction R with
  | nil => intro b hb; cases hb
  | cons a b c ih =>
    intro x hx
    rcases List.mem_cons.mp hx with rfl | hx
    · obtain ⟨n, g⟩ := a; exact ⟨_, g⟩
    · exact ih x hx
theorem SlotAt.step {hot hot' : Addr → Prop} {h h' : Heap} {v : Value} {t : Slt} {as : List Addr} (R : SlotAt prog w hot h v t as) (S : Sees hot hot' h h') (k : ∀ b ∈ as, ∀ o, h.get? b = some o → h'.get? b = some o) : SlotAt prog w hot' h' v t as := by
  cases t with
  | cold d => exact ⟨R.1, R.2.mono S⟩
  | hot1 xs => obtain ⟨a, vs, e1, rfl, p, r⟩ := R; exact ⟨a, vs, e1, rfl, p.at fun o g => k a (by simp) o g, r.mono S⟩
  | hot2 xss => obtain ⟨a, bs, e1, rfl, p, r⟩ := R; exact ⟨a, bs, e1, rfl, p.at fun o g => k a (by simp) o g, r.step S fun b hb => k b (by simp [hb])⟩
theorem SlotAt.live {hot : Addr → Prop} {h : Heap} {v : Value} {t : Slt} {as : List Addr} (R : SlotAt prog w hot h v t as) : ∀ b ∈ as, ∃ o, h.get? b = some o := by
  cases t with
  | cold d => intro b hb; rw [R.1] at hb; cases hb
  | hot1 xs => obtain ⟨a, vs, e1, rfl, ⟨n, p⟩, r⟩ := R; intro b hb; rw [List.mem_singleton.mp hb]; exact ⟨_, p⟩
  | hot2 xss =>
    obtain ⟨a, bs, e1, rfl, ⟨n, p⟩, r⟩ := R
    intro b hb
    rcases List.mem_cons.mp hb with rfl | hb
    · exact ⟨_, p⟩
    · exact r.live b hb

noncomputable def asP (σ : St) (ad : Str → List Addr) (b : Addr) : Prop := ∃ x t, σ.lookup x = some t ∧ b ∈ ad x
noncomputable def hotOf (env : Env) (ext : Addr → Prop) (σ : St) (ad : Str → List Addr) (b : Addr) : Prop := asP σ ad b ∨ PA env b ∨ ext b
noncomputable def hotB (env : Env) (ext : Addr → Prop) (b : Addr) : Prop := PA env b ∨ ext b

/-- the state of a frame -/
structure SInv (prog : Program) (w : World) (hb : Heap) (ext : Addr → Prop) (env : Env) (sc : Scope) (σ : St) (ad : Str → List Addr) (h : Heap) : Prop where
  scp : env.scope = sc
  ok : EnvOk env sc
  fm : Fm env env.cells h
  nod : (σ.map (·.1)).Nodup
  «at» : ∀ x t, σ.lookup x = some t → ∃ v, VarAt env h x v ∧ SlotAt prog w (hotOf env ext σ ad) h v t (ad x)
  adn : ∀ x t, σ.lookup x = some t → (ad x).Nodup
  apart : ∀ x y t u, σ.lookup x = some t → σ.lookup y = some u → x ≠ y → ∀ b ∈ ad x, b ∉ ad y
  free : ∀ x t b, σ.lookup x = some t → b ∈ ad x → ¬ PA env b ∧ ¬ ext b ∧ hb.get? b = none
  live : ∀ b, PA env b → ∃ o, h.get? b = some o
  elive : ∀ b, ext b → ∃ o, h.get? b = some o
  fb : ∀ b, PA env b → hb.get? b = none
  base : Ext hb h
  sysm : ext sysModules

theorem coldV_lookup : ∀ {σ : St} {x : Str} {d : D}, (σ.map (·.1)).Nodup → (coldV σ).lookup x = some d → σ.lookup x = some (.cold d)
  | (y, t) :: r, x, d, hn, h => by
    rw [List.map_cons, List.nodup_cons] at hn
    have up : (coldV r).lookup x = some d → ((y, t) :: r).lookup x = some (.cold d) := fun h' => by
      have ih := coldV_lookup hn.2 h'
      have hne : (x == y) = false := by
        rw [beq_eq_false_iff_ne]; rintro rfl
        exact hn.1 (List.mem_map.mpr ⟨_, mem_of_lookup ih, rfl⟩)
      rw [List.lookup_cons, hne]; exact ih
    cases t with
    | cold e =>
      rw [coldV, List.lookup_cons] at h
      cases hx : x == y with
      | true => rw [hx] at h; rw [List.lookup_cons, hx]; cases h; rfl
      | false => rw [hx] at h; exact up h
    | hot1 _ => exact up h
    | hot2 _ => exact up h
theorem allV_lookup (σ : St) (x : Str) : (allV σ).lookup x = (σ.lookup x).map Slt.d := lookup_map (fun (_ : Str) (t : Slt) => t.d) x σ
theorem freeze_lookup (σ : St) (x : Str) : (freeze σ).lookup x = (σ.lookup x).map fun t => .cold t.d := lookup_map (fun (_ : Str) (t : Slt) => Slt.cold t.d) x σ
theorem freeze_names (σ : St) : (freeze σ).map (·.1) = σ.map (·.1) := by unfold freeze; rw [List.map_map]; rfl
theorem put_lookup (x : Str) (t : Slt) : ∀ (σ : St) (y : Str), (put x t σ).lookup y = if y = x then some t else σ.lookup y
  | [], y => by
    rw [put, List.lookup_cons]
    by_cases h : y = x
    · subst h; simp
    · have : (y == x) = false := by simpa using h
      rw [this, if_neg h]
  | (z, u) :: r, y => by
    rw [put]
    by_cases hz : z = x
    · subst hz
      rw [if_pos rfl, List.lookup_cons]
      by_cases h : y = z
      · subst h; simp
      · have : (y == z) = false := by simpa using h
        rw [this, if_neg h, List.lookup_cons, this]
    · rw [if_neg hz, List.lookup_cons, List.lookup_cons]
      by_cases h : y = z
      · subst h; simp [hz]
      · have : (y == z) = false := by simpa using h
        rw [this]; exact put_lookup x t r y
theorem put_names (x : Str) (t : Slt) : ∀ (σ : St), (∀ y, y ∈ (put x t σ).map (·.1) → y = x ∨ y ∈ σ.map (·.1)) ∧ ((σ.map (·.1)).Nodup → ((put x t σ).map (·.1)).Nodup)
  | [] => ⟨fun y hy => by simp [put] at hy; exact .inl hy, fun z0 => by simp [put]⟩
  | (z, u) :: r => by
    have ih := put_names x t r
    rw [put]
    by_cases hz : z = x
    · subst hz; rw [if_pos rfl]
      exact ⟨fun y hy => .inr hy, fun h => h⟩
    · rw [if_neg hz]
      refine ⟨fun y hy => ?_, fun h => ?_⟩
      · rw [List.map_cons, List.mem_cons] at hy
        rcases hy with e | hy
        · exact .inr (by rw [List.map_cons]; exact List.mem_cons.mpr (.inl e))
        · rcases ih.1 y hy with e | e
          · exact .inl e
          · exact .inr (by rw [List.map_cons]; exact List.mem_cons_of_mem _ e)
      · rw [List.map_cons, List.nodup_cons] at h ⊢
        refine ⟨fun hm => ?_, ih.2 h.2⟩
        rcases ih.1 _ hm with e | e
        · exact hz e
        · exact h.1 e

section
variable {hb h h' : Heap} {ext : Addr → Prop} {env : Env} {sc : Scope} {σ : St} {ad : Str → List Addr}

theorem SInv.hot (I : SInv prog w hb ext env sc σ ad h) : HotIn (hotOf env ext σ ad) h := fun b hb' => by
  rcases hb' with ⟨x, t, hx, hbx⟩ | p | e
  · obtain ⟨v, _, sl⟩ := I.at x t hx; exact sl.live b hbx
  · exact I.live b p
  · exact I.elive b e
theorem SInv.hotb (I : SInv prog w hb ext env sc σ ad h) : HotIn (hotB env ext) h := fun b hb' => by
  rcases hb' with p | e
  · exact I.live b p
  · exact I.elive b e
theorem hotB_sub {b : Addr} (x : hotB env ext b) : hotOf env ext σ ad b := .inr x
theorem SInv.viewA (I : SInv prog w hb ext env sc σ ad h) : View prog w env sc (hotOf env ext σ ad) NoVar (coldV σ) h :=
  ⟨I.ok, fun x d e z0 z0 z0 => by
    obtain ⟨v, a, s⟩ := I.at x _ (coldV_lookup I.nod e)
    exact ⟨v, s.2, a⟩, I.live, .inr (.inr I.sysm)⟩
theorem seesB : Sees (hotOf env ext σ ad) (hotB env ext) h h := fun a o n g => ⟨fun x => n (hotB_sub x), g⟩

theorem rows_reps {bs : List Addr} {xss : List (List D)} {hot hot' : Addr → Prop} (R : Rows' prog w hot h bs xss) (S : Sees hot hot' h h) (nb : ∀ b ∈ bs, ¬ hot' b) : Reps prog w hot' h (bs.map Value.ref) (xss.map .list) := by
  induction R with
  | nil => exact .nil
  | cons a b c ih =>
    obtain ⟨n, g⟩ := a
    exact .cons (.list (nb _ List.mem_cons_self) g (b.mono S)) (ih fun x hx => nb x (List.mem_cons_of_mem _ hx))

/-- a slot as it is read -/
theorem SInv.read (I : SInv prog w hb ext env sc σ ad h) {x : Str} {t : Slt} (hx : σ.lookup x = some t) : ∃ v, VarAt env h x v ∧ Rep prog w (hotB env ext) h v t.d := by
  obtain ⟨v, a, s⟩ := I.at x t hx
  refine ⟨v, a, ?_⟩
  have nb : ∀ b ∈ ad x, ¬ hotB env ext b := fun b hb' z => by
    obtain ⟨f1, f2, _⟩ := I.free x t b hx hb'
    rcases z with z | z
    · exact f1 z
    · exact f2 z
  cases t with
  | cold d => exact s.2.mono seesB
  | hot1 xs =>
    obtain ⟨a1, vs, rfl, e2, ⟨n, p⟩, r⟩ := s
    rw [e2] at nb
    exact .list (nb a1 (by simp)) p (r.mono seesB)
  | hot2 xss =>
    obtain ⟨a1, bs, rfl, e2, ⟨n, p⟩, r⟩ := s
    rw [e2] at nb
    exact .list (nb a1 (by simp)) p (by simpa using rows_reps r seesB fun b hb' => nb b (by simp [hb']))
theorem SInv.viewB (I : SInv prog w hb ext env sc σ ad h) : View prog w env sc (hotB env ext) NoVar (allV σ) h :=
  ⟨I.ok, fun x d e z0 z0 z0 => by
    rw [allV_lookup] at e
    cases hx : σ.lookup x with
    | none => rw [hx] at e; cases e
    | some t =>
      rw [hx] at e; cases e
      obtain ⟨v, a, r⟩ := I.read hx
      exact ⟨v, r, a⟩, I.live, .inr I.sysm⟩

/-- all is kept -/
theorem SInv.keeps (I : SInv prog w hb ext env sc σ ad h) (k : Ext h h') : SInv prog w hb ext env sc σ ad h' :=
  ⟨I.scp, I.ok, I.fm.keeps fun b o z0 g => k b o g, I.nod, fun x t hx => let ⟨v, a, s⟩ := I.at x t hx; ⟨v, a.keeps k, s.step k.sees fun b z0 o g => k b o g⟩, I.adn, I.apart, I.free,
    fun b p => let ⟨o, g⟩ := I.live b p; ⟨o, k b o g⟩, fun b p => let ⟨o, g⟩ := I.elive b p; ⟨o, k b o g⟩, I.fb, I.base.trans k, I.sysm⟩

/-- all hot ones go cold -/
theorem SInv.cool (I : SInv prog w hb ext env sc σ ad h) : SInv prog w hb ext env sc (freeze σ) (fun z0 => []) h := by
  have q : ∀ b, hotOf env ext (freeze σ) (fun z0 => []) b → hotB env ext b := fun b z => by
    rcases z with ⟨x, t, _, hm⟩ | z
    · cases hm
    · exact z
  refine ⟨I.scp, I.ok, I.fm, by rw [freeze_names]; exact I.nod, fun x t hx => ?_, fun z0 z0 z0 => List.nodup_nil, fun z0 z0 z0 z0 z0 z0 z0 z0 hm => (by cases hm), fun z0 z0 z0 z0 hm => (by cases hm), I.live, I.elive, I.fb, I.base, I.sysm⟩
  rw [freeze_lookup] at hx
  cases hy : σ.lookup x with
  | none => rw [hy] at hx; cases hx
  | some u =>
    rw [hy] at hx; cases hx
    obtain ⟨v, a, r⟩ := I.read hy
    exact ⟨v, a, rfl, r.mono fun a o n g => ⟨fun z => n (q a z), g⟩⟩

/-- what a statement may change -/
noncomputable def Eff (env : Env) (σ : St) (ad : Str → List Addr) (h h' : Heap) : Prop := ∀ b o, ¬ PA env b → ¬ asP σ ad b → h.get? b = some o → h'.get? b = some o
structure Next (prog : Program) (w : World) (hb : Heap) (ext : Addr → Prop) (env : Env) (sc : Scope) (σ : St) (ad : Str → List Addr) (h : Heap) (σ' : St) (ad' : Str → List Addr) (h' : Heap) : Prop where
  inv : SInv prog w hb ext env sc σ' ad' h'
  eff : Eff env σ ad h h'
  sub : ∀ b, asP σ' ad' b → asP σ ad b ∨ h.get? b = none

theorem Next.refl (I : SInv prog w hb ext env sc σ ad h) : Next prog w hb ext env sc σ ad h σ ad h := ⟨I, fun z0 z0 z0 z0 g => g, fun z0 x => .inl x⟩
theorem Next.keep (I : SInv prog w hb ext env sc σ ad h) (k : Ext h h') : Next prog w hb ext env sc σ ad h σ ad h' := ⟨I.keeps k, fun b o z0 z0 g => k b o g, fun z0 x => .inl x⟩
theorem Next.trans {σ₁ σ₂ : St} {ad₁ ad₂ : Str → List Addr} {h₁ h₂ : Heap} (I : SInv prog w hb ext env sc σ ad h) (x : Next prog w hb ext env sc σ ad h σ₁ ad₁ h₁) (y : Next prog w hb ext env sc σ₁ ad₁ h₁ σ₂ ad₂ h₂) : Next prog w hb ext env sc σ ad h σ₂ ad₂ h₂ := by
  have hn : ∀ b, h₁.get? b = none → asP σ ad b ∨ h.get? b = none := fun b g => by
    by_cases q : asP σ ad b
    · exact .inl q
    · refine .inr ?_
      cases e : h.get? b with
      | none => rfl
      | some o =>
        by_cases p : PA env b
        · obtain ⟨o', g'⟩ := x.inv.live b p; rw [g] at g'; cases g'
        · rw [x.eff b o p q e] at g; cases g
  refine ⟨y.inv, fun b o p q g => y.eff b o p (fun z => ?_) (x.eff b o p q g), fun b z => ?_⟩
  · rcases x.sub b z with z | z
    · exact q z
    · rw [g] at z; cases z
  · rcases y.sub b z with z | z
    · exact x.sub b z
    · exact hn b z
end
end Mine

end

section
namespace Mine
variable {prog : Program} {w : World}

theorem fr_step {e : Expr} {h h₁ h₂ : Heap} {v : Value} (f : Fr' e h h₁ v) (k : ∀ b o, h.get? b = none → h₁.get? b = some o → h₂.get? b = some o) : Fr' e h h₂ v :=
  ⟨fun z => let ⟨a, e1, e2, o, e3⟩ := f.1 z; ⟨a, e1, e2, o, k a o e2 e3⟩,
    fun z => let ⟨a, bs, e1, ⟨n, e2⟩, e3, e4⟩ := f.2 z; ⟨a, bs, e1, ⟨n, k a _ (e4 a List.mem_cons_self) e2⟩, e3, e4⟩⟩

/-- a value has been stored under x -/
structure Stored (prog : Program) (w : World) (env : Env) (hot : Addr → Prop) (e : Expr) (x : Str) (v : Value) (d : D) (h h₂ : Heap) : Prop where
  k : ∀ b o, ¬ PA env b → h.get? b = some o → h₂.get? b = some o
  rep : Rep prog w hot h₂ v d
  fr : Fr' e h h₂ v
  var : VarAt env h₂ x v
  others : ∀ y u, y ≠ x → VarAt env h y u → VarAt env h₂ y u
  fm : Fm env env.cells h₂
  live : ∀ b, PA env b → ∃ o, h₂.get? b = some o

noncomputable def isDictComp (e : Expr) : Bool := match e with | .DictComp _ _ _ _ _ => true | _ => false

section
variable {A : Around} {E : Value → Shared → Prop} {s : Shared} {hot : Addr → Prop} {env : Env} {sc sc' : Scope} {ρ : Vars} {T : Tab} {n : Nat} {h₀ : Heap}

theorem can_kind {x : Str} (c : CanStore env env.cells sc x) : env.kindOf x = some .local ∨ (env.kindOf x = some .cell ∧ (env.cells.lookup x).isSome = true) := by
  rcases c with c | c
  · exact .inl c.2
  · exact .inr c.2

theorem stored_of {e : Expr} {x : Str} {v : Value} {d : D} {h h₁ h₂ : Heap} (hF : ∀ b, PA env b → hot b) (L : ∀ b, PA env b → ∃ o, h.get? b = some o) (k₁ : Ext h h₁) (r : Rep prog w hot h₁ v d) (f : Fr' e h h₁ v)
    (F' : Fm env env.cells h₂) (k' : ∀ b o, ¬ FA env env.cells b → h₁.get? b = some o → h₂.get? b = some o) (l' : ∀ b, FA env env.cells b → (∃ o, h₁.get? b = some o) → ∃ o, h₂.get? b = some o) (a : VarAt env h₂ x v) (o : ∀ y u, y ≠ x → VarAt env h₁ y u → VarAt env h₂ y u) :
    Stored prog w env hot e x v d h h₂ :=
  ⟨fun b q p g => k' b q p (k₁ b q g), r.mono fun b q nb g => ⟨nb, k' b q (fun p => nb (hF b p)) g⟩, fr_step f fun b q nb g => k' b q (fun p => by obtain ⟨z, y⟩ := L b p; rw [nb] at y; cases y) g, a,
    fun y u ne va => o y u ne (va.keeps k₁), F', fun b p => l' b p (let ⟨z, y⟩ := L b p; ⟨z, k₁ b z y⟩)⟩

theorem swaps_comp (e : Expr) (x : Str) (xp : Pos) (line : Nat) (h : isDictComp e = false) (hs : ∀ a b c d, e ≠ .SetComp a b c d) : ∃ b, swapsWith e (some (.Name x xp)) line env = pure b ∧ (b = true → isComp e = true) := by
  cases e with
  | ListComp a b c d => exact ⟨_, rfl, fun z0 => rfl⟩
  | SetComp a b c d => exact absurd rfl (hs _ _ _ _)
  | DictComp _ _ _ _ _ => cases h
  | _ => exact ⟨false, rfl, fun h => by cases h⟩

theorem assign_val {x : Str} {xp pos : Pos} {e : Expr} {d : D} {Q : Flow → Shared → Prop} (TO : TabOk prog w T n h₀) (hnd : isDictComp e = false) (hw : wfE e sc = true) (he : evE T e sc ρ = some d) (V : View prog w env sc hot NoVar ρ s.heap)
    (hF : ∀ b, PA env b → hot b) (F : Fm env env.cells s.heap) (kx' : CanStore env env.cells sc x) (hA : Aok n A) (H : HotIn hot s.heap) (hE : Ext h₀ s.heap)
    (hq : ∀ v h₂ tk, Stored prog w env hot e x v d s.heap h₂ → Q .next { s with heap := h₂, toks := tk }) :
    wpAny (model prog w) A (exec (.Assign [.Name x xp] e pos) env) Q E s := by
  have hk := V.ok.kind
  have S := (all_ok TO trivial (sizeOf e + 1) e (Nat.lt_succ_self _)).1
  have hns : ∀ a b c d, e ≠ .SetComp a b c d := fun a b c d q => by subst q; cases (show (none : Option D) = some _ from he)
  obtain ⟨b, hb, hbt⟩ := swaps_comp (env := env) e x xp pos.line hnd hns
  cases b with
  | false =>
    refine wpAny_Assign_Name (S sc ρ d env hot A s E _ hw he V hA H hE fun v s₁ k₁ r₁ f₁ => ?_) hb
    refine store_ok (own := env.cells) hk (can_kind kx') (F.keeps fun b o z0 g => kx k₁ b o g) fun h' tk F' k' l' a o => ?_
    have st := stored_of hF V.live (kx k₁) r₁ f₁ F' k' l' a o
    obtain ⟨h₁, t₁, rfl, _⟩ := k₁
    exact hq v h' tk st
  | true =>
    have hc := hbt rfl
    obtain ⟨elt, gens, sc', cp, rfl⟩ := isComp_is hc
    · have all : ∀ y, SE prog w T n h₀ y ∧ ST prog w T n h₀ y := fun y => all_ok TO trivial (sizeOf y + 1) y (Nat.lt_succ_self _)
      rw [exec_Assign_Name_used _ _ _ _ hb]
      refine wpAny_bind (wpAny_standAt (wpAny_bind ?_))
      have X := comp_in hw he
      clear hw he
      cases X with
      | @mk tg iter ifs items ds hwi hwt SC henum hwe e1 e2 =>
          show wpAny _ A (do let _ ← comprehension (.ListComp elt [⟨tg, iter, ifs, 0⟩] sc' cp) sc' env _ (newList []) false (eval iter env) (some (assign (.Name x xp) env))) _ _ s
          refine wpAny_bind (wpAny_mono (comp_any (use := some (assign (.Name x xp) env)) (Q := fun z0 s' => Q .next s') TO (all elt).1 (all iter).1 (fun z0 z0 y z0 z0 z0 => (all y).1) (fun y z0 => (all y).2) hwe hwi hwt SC henum e1 e2 V hA H hE
            fun D' C s' m k fD fC hDC hns' r f => ?_) (fun z0 s' hq => wpAny_pure (wpAny_pure hq)) fun z0 z0 e => e)
          show wpAny _ A (assign (.Name x xp) env (.ref D')) _ _ s'
          refine wpAny_assign_Name (store_ok (own := env.cells) hk (can_kind kx') (F.keeps fun b o z0 g => kx k b o g) fun h' tk F' k' l' a o => ?_)
          have hCF : ¬ PA env C := fun p => by obtain ⟨o, g⟩ := V.live C p; rw [fC] at g; cases g
          obtain ⟨oC, esC, epC, hoC, rC⟩ := hns'
          refine ⟨m, ⟨oC, esC, epC, k' C oC hCF hoC, rC⟩, fun h'' hs => ?_⟩
          have sb : ∀ b o, b ≠ C → h'.get? b = some o → h''.get? b = some o := fun b o nb g => hs.extBut b o nb g
          have sbP : ∀ b o, PA env b → h'.get? b = some o → h''.get? b = some o := fun b o p g => sb b o (fun q => hCF (q ▸ p)) g
          have sbL : ∀ b o, s.heap.get? b = some o → b ≠ C := fun b o g q => by subst q; rw [fC] at g; cases g
          have st : Stored prog w env hot (.ListComp elt [⟨tg, iter, ifs, 0⟩] sc' cp) x (.ref D') (.list ds) s.heap h'' := by
            refine ⟨fun b o p g => sb b o (sbL b o g) (k' b o p (kx k b o g)), r.mono fun b o nb g => ⟨fun z => nb (.inl z), sb b o (fun q => nb (.inr q)) (k' b o (fun p => nb (.inl (hF b p))) g)⟩, ⟨fun z => ?_, fun z => ?_⟩, a.keepsP sbP, fun y u ne va => (o y u ne (va.keeps (kx k))).keepsP sbP, F'.keeps fun b o p g => sbP b o p g, fun b p => ?_⟩
            · obtain ⟨a', e1, e2, o', e3⟩ := f.1 z
              cases e1
              exact ⟨D', rfl, e2, o', sb D' o' hDC (k' D' o' (fun p => by obtain ⟨q, g⟩ := V.live D' p; rw [fD] at g; cases g) e3)⟩
            · obtain ⟨a', bs, e1, ⟨ne, e2⟩, e3, e4⟩ := f.2 z
              cases e1
              exact ⟨D', bs, rfl, ⟨ne, sb D' _ hDC (k' D' _ (fun p => by obtain ⟨q, g⟩ := V.live D' p; rw [fD] at g; cases g) e2)⟩, e3, e4⟩
            · obtain ⟨q, g⟩ := V.live b p
              obtain ⟨q', g'⟩ := l' b p ⟨q, kx k b q g⟩
              exact ⟨q', sbP b q' p g'⟩
          obtain ⟨h₁, t₁, rfl, _⟩ := k
          exact hq (.ref D') h'' tk st
end
end Mine

end

section
namespace Mine
variable {prog : Program} {w : World}

noncomputable def upd (ad : Str → List Addr) (x : Str) (as : List Addr) : Str → List Addr := fun y => if y = x then as else ad y

theorem flat_rep {hot hot' : Addr → Prop} {h h' : Heap} {v : Value} {d : D} (f : flat d = true) (r : Rep prog w hot h v d) : Rep prog w hot' h' v d := by
  cases r <;> first | (cases f; done) | constructor
theorem flats_reps {hot hot' : Addr → Prop} {h h' : Heap} : ∀ {vs : List Value} {ds : List D}, ds.all flat = true → Reps prog w hot h vs ds → Reps prog w hot' h' vs ds
  | _, _, _, .nil => .nil
  | _, _, f, .cons a b => by
    rw [List.all_cons, Bool.and_eq_true] at f
    exact .cons (flat_rep f.1 a) (flats_reps f.2 b)

section
variable {hb h h' : Heap} {ext : Addr → Prop} {env : Env} {sc : Scope} {σ : St} {ad : Str → List Addr}

theorem asP_put {x : Str} {t : Slt} {as : List Addr} {b : Addr} (z : asP (put x t σ) (upd ad x as) b) : b ∈ as ∨ asP σ ad b := by
  obtain ⟨y, u, hy, hm⟩ := z
  rw [put_lookup] at hy
  unfold upd at hm
  by_cases q : y = x
  · rw [if_pos q] at hm; exact .inl hm
  · rw [if_neg q] at hy hm; exact .inr ⟨y, u, hy, hm⟩

/-- one name takes a new value -/
theorem SInv.store (I : SInv prog w hb ext env sc σ ad h) {x : Str} {v : Value} {t : Slt} {as : List Addr} (F' : Fm env env.cells h') (k : ∀ b o, ¬ PA env b → h.get? b = some o → h'.get? b = some o)
    (l : ∀ b, PA env b → ∃ o, h'.get? b = some o) (a : VarAt env h' x v) (o : ∀ y u, y ≠ x → VarAt env h y u → VarAt env h' y u)
    (s : SlotAt prog w (hotOf env ext (put x t σ) (upd ad x as)) h' v t as) (fr : ∀ b ∈ as, h.get? b = none) (nd : as.Nodup) :
    Next prog w hb ext env sc σ ad h (put x t σ) (upd ad x as) h' := by
  have sees : Sees (hotOf env ext σ ad) (hotOf env ext (put x t σ) (upd ad x as)) h h' := fun b q nb g => by
    refine ⟨fun z => ?_, k b q (fun p => nb (.inr (.inl p))) g⟩
    rcases z with z | z
    · rcases asP_put z with z | z
      · rw [fr b z] at g; cases g
      · exact nb (.inl z)
    · exact nb (.inr z)
  refine ⟨⟨I.scp, I.ok, F', (put_names x t σ).2 I.nod, fun y u hy => ?_, fun y u hy => ?_, fun y z u u' hy hz ne b hb' => ?_, fun y u b hy hb' => ?_, l, fun b e => ?_, I.fb, fun b q g => ?_, I.sysm⟩, fun b q p z0 g => k b q p g, fun b z => ?_⟩
  · rw [put_lookup] at hy
    by_cases q : y = x
    · subst q
      rw [if_pos rfl] at hy; cases hy
      refine ⟨v, a, ?_⟩
      unfold upd; rw [if_pos rfl]; exact s
    · rw [if_neg q] at hy
      obtain ⟨u', va, sl⟩ := I.at y u hy
      refine ⟨u', o y u' q va, ?_⟩
      unfold upd; rw [if_neg q]
      exact sl.step sees fun b hb' o' g => k b o' (I.free y u b hy hb').1 g
  · rw [put_lookup] at hy
    unfold upd
    by_cases q : y = x
    · rw [if_pos q]; exact nd
    · rw [if_neg q] at hy ⊢; exact I.adn y u hy
  · rw [put_lookup] at hy hz
    unfold upd at hb' ⊢
    by_cases q : y = x
    · rw [if_pos q] at hb'
      have qz : z ≠ x := fun e => ne (q.trans e.symm)
      rw [if_neg qz] at hz ⊢
      intro hbz
      obtain ⟨v', _, sl⟩ := I.at z u' hz
      obtain ⟨o', g⟩ := sl.live b hbz
      rw [fr b hb'] at g; cases g
    · rw [if_neg q] at hy hb'
      by_cases qz : z = x
      · rw [if_pos qz]
        intro hbz
        obtain ⟨v', _, sl⟩ := I.at y u hy
        obtain ⟨o', g⟩ := sl.live b hb'
        rw [fr b hbz] at g; cases g
      · rw [if_neg qz] at hz ⊢
        exact I.apart y z u u' hy hz ne b hb'
  · rw [put_lookup] at hy
    unfold upd at hb'
    by_cases q : y = x
    · rw [if_pos q] at hb'
      have fb := fr b hb'
      refine ⟨fun p => ?_, fun e => ?_, ?_⟩
      · obtain ⟨o', g⟩ := I.live b p; rw [fb] at g; cases g
      · obtain ⟨o', g⟩ := I.elive b e; rw [fb] at g; cases g
      · cases g : hb.get? b with
        | none => rfl
        | some o' => rw [I.base b o' g] at fb; cases fb
    · rw [if_neg q] at hy hb'
      exact I.free y u b hy hb'
  · by_cases p : PA env b
    · exact l b p
    · obtain ⟨o', g⟩ := I.elive b e; exact ⟨o', k b o' p g⟩
  · exact k b q (fun p => by rw [I.fb b p] at g; cases g) (I.base b q g)
  · rcases asP_put z with z | z
    · exact .inr (fr b z)
    · exact .inl z

theorem hot_less {x : Str} {t : Slt} {b : Addr} (z : hotOf env ext (put x t σ) (upd ad x []) b) : hotOf env ext σ ad b := by
  rcases z with z | z
  · rcases asP_put z with z | z
    · cases z
    · exact .inl z
  · exact .inr z

theorem SInv.storeCold (I : SInv prog w hb ext env sc σ ad h) {e : Expr} {x : Str} {v : Value} {d : D} (S : Stored prog w env (hotOf env ext σ ad) e x v d h h') : Next prog w hb ext env sc σ ad h (put x (.cold d) σ) (upd ad x []) h' :=
  I.store S.fm S.k S.live S.var S.others ⟨rfl, S.rep.mono fun a o n g => ⟨fun z => n (hot_less z), g⟩⟩ (fun b hb' => by cases hb') List.nodup_nil
end

section
variable {A : Around} {E : Value → Shared → Prop} {s : Shared} {env : Env} {sc : Scope} {T : Tab} {n : Nat} {h₀ hb : Heap} {ext : Addr → Prop} {σ σ' : St} {ad : Str → List Addr}

noncomputable def Same (s s' : Shared) : Prop := ∃ h tk, s' = { s with heap := h, toks := tk }
theorem Same.refl (s : Shared) : Same s s := ⟨_, _, rfl⟩
theorem Same.trans {s s' s'' : Shared} (x : Same s s') (y : Same s' s'') : Same s s'' := by obtain ⟨h, t, rfl⟩ := x; obtain ⟨h', t', rfl⟩ := y; exact ⟨_, _, rfl⟩
theorem Same.of {s s' : Shared} (x : Keeps s s') : Same s s' := let ⟨h, t, e, _⟩ := x; ⟨h, t, e⟩

theorem nestA {xs : List D} {xss : List (List D)} (h : flatListList xs = some xss) : xs = xss.map .list ∧ ∀ ys ∈ xss, ys.all flat = true := by
  induction xs generalizing xss with
  | nil => cases h; exact ⟨rfl, fun z0 hm => by cases hm⟩
  | cons x r ih =>
    cases x with
    | list ys =>
      rw [flatListList] at h
      split at h
      · rename_i hf
        cases hr : flatListList r with
        | none => rw [hr] at h; cases h
        | some zss =>
          rw [hr] at h; cases h
          obtain ⟨e, g⟩ := ih hr
          refine ⟨by rw [e]; rfl, fun zs hz => ?_⟩
          rcases List.mem_cons.mp hz with rfl | hz
          · exact hf
          · exact g zs hz
      · cases h
    | _ => cases h

/-- rows of a new list of lists -/
theorem rows_of {hot hot' : Addr → Prop} {h : Heap} : ∀ (bs : List Addr) (xss : List (List D)), Reps prog w hot h (bs.map Value.ref) (xss.map .list) → (∀ ys ∈ xss, ys.all flat = true) → Rows' prog w hot' h bs xss
  | [], [], _, _ => .nil
  | [], _ :: _, r, _ => by cases r
  | _ :: _, [], r, _ => by cases r
  | b :: bs, xs :: xss, r, f => by
    cases r with
    | cons a c =>
      obtain ⟨l, vs, ne, e, nl, hl, rl⟩ := a.isPlain
      cases e
      exact .cons ⟨ne, hl⟩ (flats_reps (f xs List.mem_cons_self) rl) (rows_of bs xss c fun y hy => f y (List.mem_cons_of_mem _ hy))

/-- x = e, for a name -/
theorem assign_name_ok {x : Str} {xp pos : Pos} {e : Expr} {Q : Flow → Shared → Prop} (TO : TabOk prog w T n h₀) (hnd : isDictComp e = false) (hw : wfE e sc = true) (cx : CanStore env env.cells sc x)
    (ha : assignS T [.Name x xp] e sc σ = some σ') (I : SInv prog w hb ext env sc σ ad s.heap) (hA : Aok n A) (hE : Ext h₀ hb)
    (hq : ∀ s' ad', Same s s' → Next prog w hb ext env sc σ ad s.heap σ' ad' s'.heap → Q .next s') :
    wpAny (model prog w) A (exec (.Assign [.Name x xp] e pos) env) Q E s := by
  have hE' : Ext h₀ s.heap := hE.trans I.base
  have hFA : ∀ b, PA env b → hotOf env ext σ ad b := fun b p => .inr (.inl p)
  have hFB : ∀ b, PA env b → hotB env ext b := fun b p => .inl p
  replace ha : (if isNilL e then some (put x (.hot1 []) σ) else (evV T e sc σ).bind fun r => some (putNew (isCompComp e) x r.1 r.2)) = some σ' := ha
  by_cases hnl : isNilL e = true
  · -- the empty list
    rw [if_pos hnl] at ha
    cases ha
    obtain ⟨lp, rfl⟩ := isNilL_is hnl
    refine wpAny_Assign_Name (wpAny_List (wpAny_items_nil ⟨Nat.zero_le _, ?_⟩)) rfl
    have k₁ := ext_push s.heap { cls := .type "list", data := .seq ([] : List Value).toArray }
    refine store_ok (own := env.cells) I.ok.kind (can_kind cx) (I.fm.keeps fun b o z0 g => k₁ b o g) fun h' tk F' k' l' a o => ?_
    have fD : s.heap.get? s.heap.objs.size = none := isSome_none (Nat.le_refl _)
    have hDF : ¬ PA env s.heap.objs.size := fun p => by obtain ⟨o, g⟩ := I.live _ p; rw [fD] at g; cases g
    have hD : h'.get? s.heap.objs.size = some { cls := .type "list", data := .seq ([] : List Value).toArray } := k' _ _ hDF (Heap.get?_push_size _ rfl)
    refine hq _ (upd ad x [s.heap.objs.size]) ⟨_, _, rfl⟩ (I.store (t := .hot1 []) (v := .ref s.heap.objs.size) F' (fun b o p g => k' b o p (k₁ b o g)) (fun b p => l' b p (let ⟨q, g⟩ := I.live b p; ⟨q, k₁ b q g⟩)) a (fun y u ne va => o y u ne (va.keeps k₁)) ⟨_, _, rfl, rfl, ⟨0, hD⟩, .nil⟩ (fun b hb' => by rw [List.mem_singleton.mp hb']; exact fD) (by simp))
  · -- any other
    rw [if_neg hnl] at ha
    replace ha := Option.bind_eq_some_iff.mp ha
    obtain ⟨⟨d, σ₁⟩, hv, ha⟩ := ha
    replace ha : putNew (isCompComp e) x d σ₁ = σ' := Option.some.inj ha
    -- the value cold, the state behind it σ₁
    have fin : ∀ (h₂ : Heap) (tk : Nat) (v : Value) (I₁ : ∃ ad₁, SInv prog w hb ext env sc σ₁ ad₁ s.heap ∧ (∀ b, asP σ₁ ad₁ b → asP σ ad b) ∧ Stored prog w env (hotOf env ext σ₁ ad₁) e x v d s.heap h₂), Q .next { s with heap := h₂, toks := tk } := by
      rintro h₂ tk v ⟨ad₁, I₁, sub, S⟩
      have n1 : Next prog w hb ext env sc σ ad s.heap σ₁ ad₁ s.heap := ⟨I₁, fun z0 z0 z0 z0 g => g, fun b z => .inl (sub b z)⟩
      rcases putNew_is (isCompComp e) x d σ₁ with ⟨xs, xss, hcc, rfl, hf, e0⟩ | e0
      · rw [e0] at ha
        · subst ha
          obtain ⟨a', bs, e1, ⟨ne, e2⟩, e3, e4⟩ := S.fr.2 hcc
          obtain ⟨he, hfl⟩ := nestA hf
          obtain ⟨l, vs, ne', e5, nl, hl, rl⟩ := S.rep.isPlain
          subst e1; cases e5
          rw [hl] at e2
          have e6 : vs = (bs.map Value.ref).toArray := by cases e2; rfl
          subst e6
          refine hq _ _ ⟨_, _, rfl⟩ (n1.trans I (I₁.store (t := .hot2 xss) (as := a' :: bs) S.fm S.k S.live S.var S.others ⟨a', bs, rfl, rfl, ⟨ne', hl⟩, rows_of bs xss (by rw [← he]; simpa using rl) hfl⟩ e4 e3))
      · rw [e0] at ha
        subst ha
        exact hq _ _ ⟨_, _, rfl⟩ (n1.trans I (I₁.storeCold S))
    clear ha hq hnl
    cases evV_is hv with
    | cold he => exact assign_val TO hnd hw he I.viewA hFA I.fm cx hA I.hot hE' fun v h₂ tk S => fin h₂ tk v ⟨ad, I, fun b z => z, S⟩
    | flat he hfl =>
      refine assign_val TO hnd hw he I.viewB hFB I.fm cx hA I.hotb hE' fun v h₂ tk S => fin h₂ tk v ⟨ad, I, fun b z => z, { S with rep := ?_ }⟩
      rcases hfl with hfl | ⟨hc, xs, hd, hfl⟩
      · exact flat_rep hfl S.rep
      · obtain ⟨a', e1, e2, o', e3⟩ := S.fr.1 hc
        have r := S.rep
        rw [hd] at r
        obtain ⟨l, vs, ne', e5, nl, hl, rl⟩ := r.isPlain
        have e6 := Value.ref.inj (e1.symm.trans e5)
        rw [hd, e5]
        exact .list (I.hot.fresh (e6 ▸ e2)) hl (flats_reps hfl rl)
    | frz he =>
      exact assign_val TO hnd hw he I.viewB hFB I.fm cx hA I.hotb hE' fun v h₂ tk S => fin h₂ tk v ⟨fun z0 => [], I.cool, fun b ⟨_, _, _, z⟩ => (by cases z),
        { S with rep := S.rep.mono fun a o nb g => ⟨fun z => nb (z.elim (fun ⟨_, _, _, z⟩ => nomatch z) id), g⟩ }⟩
end
end Mine

end

section
namespace Mine
variable {prog : Program} {w : World}
section
variable {A : Around} {E : Value → Shared → Prop} {s : Shared} {env : Env} {sc : Scope} {T : Tab} {n : Nat} {h₀ hb : Heap} {ext : Addr → Prop} {σ σ₁ σ' : St} {ad : Str → List Addr}

theorem SInv.nfree (I : SInv prog w hb ext env sc σ ad s.heap) {a : Addr} (h : s.heap.get? a = none) : ¬ hotOf env ext σ ad a := I.hot.fresh h

set_option tactic.hygienic true in
/-- a value, and the state behind it -/
theorem evV_ok {e : Expr} {d : D} {Q : Value → Shared → Prop} (TO : TabOk prog w T n h₀) (hw : wfE e sc = true) (hv : evV T e sc σ = some (d, σ₁)) (I : SInv prog w hb ext env sc σ ad s.heap) (hA : Aok n A) (hE : Ext h₀ hb)
    (hq : ∀ v s' ad₁, Keeps s s' → Next prog w hb ext env sc σ ad s.heap σ₁ ad₁ s'.heap → Rep prog w (hotOf env ext σ₁ ad₁) s'.heap v d → Q v s') : wpAny (model prog w) A (eval e env) Q E s := by
  have S := (all_ok TO trivial (sizeOf e + 1) e (Nat.lt_succ_self _)).1
  have hE' : Ext h₀ s.heap := hE.trans I.base
  cases evV_is hv with
  | cold he => exact S sc _ d env _ A s E Q hw he I.viewA hA I.hot hE' fun v s' k r z0 => hq v s' ad k (.keep I (kx k)) r
  | flat he hfl =>
    refine S sc _ d env _ A s E Q hw he I.viewB hA I.hotb hE' fun v s' k r f => hq v s' ad k (.keep I (kx k)) ?_
    rcases hfl with hfl | ⟨hc, xs, hd, hfl⟩
    · exact flat_rep hfl r
    · obtain ⟨a', e1, e2, o', e3⟩ := f.1 hc
      rw [hd] at r
      obtain ⟨l, vs, ne', e5, nl, hl, rl⟩ := r.isPlain
      have e6 := Value.ref.inj (e1.symm.trans e5)
      rw [hd, e5]
      exact .list (I.nfree (e6 ▸ e2)) hl (flats_reps hfl rl)
  | frz he =>
    exact S sc _ d env _ A s E Q hw he I.viewB hA I.hotb hE' fun v s' k r f => hq v s' (fun z0 => []) k ⟨I.cool.keeps (kx k), fun b o z0 z0 g => kx k b o g, fun b ⟨_, _, _, z⟩ => (by cases z)⟩
      (r.mono fun a o nb g => ⟨fun z => nb (z.elim (fun ⟨_, _, _, z⟩ => nomatch z) id), g⟩)

inductive Acts (M : Model) (A : Around) (env : Env) : List (Value → Sem Unit) → List Str → Prop
  | nil : Acts M A env [] []
  | cons {f fs x xs} : (∀ v (Q : Unit → Shared → Prop) (E : Value → Shared → Prop) s, wpAny M A (storeName env x v) Q E s → wpAny M A (f v) Q E s) → Acts M A env fs xs → Acts M A env (f :: fs) (x :: xs)

theorem reps_less {h h' : Heap} {x : Str} {t : Slt} {vs : List Value} {ds : List D} (k : ∀ b o, ¬ PA env b → h.get? b = some o → h'.get? b = some o) (r : Reps prog w (hotOf env ext σ ad) h vs ds) : Reps prog w (hotOf env ext (put x t σ) (upd ad x [])) h' vs ds :=
  r.mono fun a o nb g => ⟨fun z => nb (hot_less z), k a o (fun p => nb (.inr (.inl p))) g⟩
theorem rep_less {h h' : Heap} {x : Str} {t : Slt} {v : Value} {d : D} (k : ∀ b o, ¬ PA env b → h.get? b = some o → h'.get? b = some o) (r : Rep prog w (hotOf env ext σ ad) h v d) : Rep prog w (hotOf env ext (put x t σ) (upd ad x [])) h' v d :=
  r.mono fun a o nb g => ⟨fun z => nb (hot_less z), k a o (fun p => nb (.inr (.inl p))) g⟩

/-- one name, its value at hand -/
theorem store_inv {x : Str} {v : Value} {d : D} {Q : Unit → Shared → Prop} (cx : CanStore env env.cells sc x) (I : SInv prog w hb ext env sc σ ad s.heap) (r : Rep prog w (hotOf env ext σ ad) s.heap v d)
    (hq : ∀ h' tk, (∀ b o, ¬ PA env b → s.heap.get? b = some o → h'.get? b = some o) → Next prog w hb ext env sc σ ad s.heap (put x (.cold d) σ) (upd ad x []) h' → Q () { s with heap := h', toks := tk }) :
    wpAny (model prog w) A (storeName env x v) Q E s := by
  refine store_ok (own := env.cells) I.ok.kind (can_kind cx) I.fm fun h' tk F' k' l' a o => ?_
  exact hq h' tk k' (I.store F' k' (fun b p => l' b p (I.live b p)) a o ⟨rfl, rep_less k' r⟩ (fun b hb' => by cases hb') List.nodup_nil)

set_option tactic.hygienic true in
theorem acts_ok : ∀ (fs : List (Value → Sem Unit)) (xs : List Str) (ds : List D) (vs : List Value) (σ σ' : St) (ad : Str → List Addr) (s : Shared) (Q : Unit → Shared → Prop), Acts (model prog w) A env fs xs → putAll xs ds σ = some σ' → (∀ x ∈ xs, CanStore env env.cells sc x) →
    SInv prog w hb ext env sc σ ad s.heap → Reps prog w (hotOf env ext σ ad) s.heap vs ds → (∀ s' ad', Same s s' → Next prog w hb ext env sc σ ad s.heap σ' ad' s'.heap → Q () s') → wpAny (model prog w) A (assignInOrder fs vs) Q E s
  | _, _, ds, vs, σ, σ', ad, s, Q, .nil, e, _, I, r, hq => by
    cases ds with
    | cons d ds => cases e
    | nil => cases e; cases r; exact wpAny_pure (hq s ad (Same.refl s) (.refl I))
  | _, _, ds, vs, σ, σ', ad, s, Q, .cons (f := f) (fs := fs) (x := x) (xs := xs) hf ha, e, hc, I, r, hq => by
    cases ds with
    | nil => cases e
    | cons d ds =>
      cases r with
      | cons r1 r2 =>
        rename_i v vs
        show wpAny _ A (do holding vs (f v); assignInOrder fs vs) Q E s
        refine wpAny_bind (wpAny_holding (hf v _ E s (store_inv (hc x List.mem_cons_self) I r1 fun h₁ tk k₁ N₁ => ?_)))
        refine acts_ok fs xs ds vs _ σ' _ _ Q ha e (fun y hy => hc y (List.mem_cons_of_mem _ hy)) N₁.inv (reps_less k₁ r2) fun s' ad' sm N₂ => ?_
        exact hq s' ad' (Same.trans ⟨_, _, rfl⟩ sm) (N₁.trans I N₂)

theorem acts_assign : ∀ (es : List Expr) (xs : List Str), targetNames es = some xs → Acts (model prog w) A env ((assignEach es env).map (·.2)) xs
  | [], xs, h => by cases h; exact .nil
  | e :: es, xs, h => by
    cases targetNames_is h with
    | @mk x px ys h1 h2 => exact h2 ▸ .cons (fun v Q E s hs => wpAny_assign_Name hs) (acts_assign es ys h1)
theorem acts_bind : ∀ (xs : List Str), Acts (model prog w) A env (xs.map fun x => bindName env x) xs
  | [] => .nil
  | x :: xs => .cons (fun v Q E s hs => wpAny_bindName hs) (acts_bind xs)

theorem putAll_len : ∀ {xs : List Str} {ds : List D} {σ σ' : St}, putAll xs ds σ = some σ' → xs.length = ds.length
  | [], [], _, _, _ => rfl
  | [], _ :: _, _, _, e => by cases e
  | _ :: _, [], _, _, e => by cases e
  | _ :: xs, _ :: ds, σ, σ', e => by have := putAll_len (xs := xs) (ds := ds) e; simp [this]

theorem can_of (O : EnvOk env sc) (hs : env.scope = sc) {x : Str} (hx : canStoreB sc x = true) : CanStore env env.cells sc x := by
  unfold canStoreB at hx
  rw [Bool.and_eq_true] at hx
  have k := O.kinds x
  have := hx.1
  rcases is_or this with q | q
  · rw [q] at k
    refine .inr ⟨q, ?_, ?_⟩
    · show env.scope.names.lookup x = _
      rw [hs]; exact q
    · obtain ⟨_, c, hc⟩ := k; rw [hc]; rfl
  · rw [q] at k
    exact .inl ⟨q, k⟩

theorem names_can (O : EnvOk env sc) (hs : env.scope = sc) : ∀ (es : List Expr) (xs : List Str), targetNames es = some xs → (es.all fun e => match e with | .Name x _ => canStoreB sc x | _ => false) = true → ∀ x ∈ xs, CanStore env env.cells sc x
  | [], xs, h, _ => by cases h; intro x hx; cases hx
  | e :: es, xs, h, ha => by
    have ha' := List.all_cons.symm.trans ha
    cases targetNames_is h with
    | @mk y py ys h1 h2 =>
      have ha' := Bool.and_eq_true_iff.mp ha'
      intro x hx
      rw [← h2] at hx
      exact (List.mem_cons.mp hx).elim (fun q => q ▸ can_of O hs ha'.1) (names_can O hs es ys h1 ha'.2 x)

/-- a target takes a value at hand -/
theorem bindS_ok {tg : Expr} {v : Value} {d : D} {Q : Unit → Shared → Prop} (hA : Aok n A) (hw : plainTg sc tg = true) (e : bindS tg d σ = some σ') (I : SInv prog w hb ext env sc σ ad s.heap) (r : Rep prog w (hotOf env ext σ ad) s.heap v d)
    (hq : ∀ s' ad', Same s s' → Next prog w hb ext env sc σ ad s.heap σ' ad' s'.heap → Q () s') : wpAny (model prog w) A (assign tg env v) Q E s := by
  cases bindS_is e with
  | @name x px _ he =>
    subst he
    refine wpAny_assign_Name (store_inv (can_of I.ok I.scp hw) I r fun h' tk k N => hq _ _ ⟨_, _, rfl⟩ N)
  | @tup es k p xs ds h1 h2 =>
    have e := h2
    obtain ⟨t, vs, rfl, nt, ht, rt⟩ := r.isTuple
    obtain ⟨a, b⟩ := assignEach_names (env := env) es xs h1
    have hl := putAll_len e
    have hl2 := rt.length
    simp only [Array.length_toList] at hl2
    refine wpAny_assign_Tuple hA.handled ht (by rw [a, hl, hl2]) b fun h₁ x₁ => ?_
    replace x₁ : Heap.ExtBut s.heap.objs.size s.heap h₁ := x₁
    have k₁ : Ext s.heap h₁ := fun b o g => x₁ b o (Nat.ne_of_lt (Heap.lt_size g)) g
    have N₁ : Next prog w hb ext env sc σ ad s.heap σ ad h₁ := .keep I k₁
    refine acts_ok _ xs ds _ σ σ' ad _ Q (acts_assign es xs h1) e (names_can I.ok I.scp es xs h1 hw) N₁.inv (rt.mono k₁.sees) fun s' ad' sm N₂ => ?_
    exact hq s' ad' (Same.trans ⟨_, _, rfl⟩ sm) (N₁.trans I N₂)

/-! the stores of a display, from its end -/

theorem putAll_lookup : ∀ {xs : List Str} {ds : List D} {σ σ' : St}, putAll xs ds σ = some σ' → xs.Nodup → ∀ y, σ'.lookup y = match (xs.zip ds).lookup y with | some d => some (.cold d) | none => σ.lookup y
  | [], [], σ, σ', e, _, y => by cases e; rfl
  | [], _ :: _, _, _, e, _, _ => by cases e
  | _ :: _, [], _, _, e, _, _ => by cases e
  | x :: xs, d :: ds, σ, σ', e, hn, y => by
    rw [List.nodup_cons] at hn
    rw [putAll_lookup (xs := xs) (ds := ds) e hn.2 y, List.zip_cons_cons, List.lookup_cons, put_lookup]
    by_cases q : y = x
    · subst q
      have : (xs.zip ds).lookup y = none := lookup_none_of fun c hc => hn.1 (List.of_mem_zip hc).1
      rw [this]; simp
    · have : (y == x) = false := by simpa using q
      rw [this, if_neg q]

theorem SInv.congr {h : Heap} (I : SInv prog w hb ext env sc σ ad h) (hl : ∀ y, σ'.lookup y = σ.lookup y) (hn : (σ'.map (·.1)).Nodup) : SInv prog w hb ext env sc σ' ad h := by
  have q : ∀ b, hotOf env ext σ' ad b → hotOf env ext σ ad b := fun b z => z.imp (fun ⟨x, t, hx, hm⟩ => ⟨x, t, by rw [← hl]; exact hx, hm⟩) id
  refine ⟨I.scp, I.ok, I.fm, hn, fun x t hx => ?_, fun x t hx => I.adn x t (by rw [← hl]; exact hx), fun x y t u hx hy => I.apart x y t u (by rw [← hl]; exact hx) (by rw [← hl]; exact hy), fun x t b hx => I.free x t b (by rw [← hl]; exact hx), I.live, I.elive, I.fb, I.base, I.sysm⟩
  obtain ⟨v, a, s⟩ := I.at x t (by rw [← hl]; exact hx)
  exact ⟨v, a, s.step (fun a o nb g => ⟨fun z => nb (q a z), g⟩) fun b z0 o g => g⟩
theorem Next.congr {h h' : Heap} {ad' : Str → List Addr} {σ₂ : St} (N : Next prog w hb ext env sc σ ad h σ₂ ad' h') (hl : ∀ y, σ'.lookup y = σ₂.lookup y) (hn : (σ'.map (·.1)).Nodup) : Next prog w hb ext env sc σ ad h σ' ad' h' :=
  ⟨N.inv.congr hl hn, N.eff, fun b ⟨x, t, hx, hm⟩ => N.sub b ⟨x, t, by rw [← hl]; exact hx, hm⟩⟩

theorem putAll_nodup : ∀ {xs : List Str} {ds : List D} {σ σ' : St}, putAll xs ds σ = some σ' → (σ.map (·.1)).Nodup → (σ'.map (·.1)).Nodup
  | [], [], _, _, e, h => by cases e; exact h
  | [], _ :: _, _, _, e, _ => by cases e
  | _ :: _, [], _, _, e, _ => by cases e
  | x :: xs, d :: ds, σ, σ', e, h => putAll_nodup (xs := xs) (ds := ds) e ((put_names x _ σ).2 h)

theorem putAll_some : ∀ (xs : List Str) (ds : List D) (σ : St), xs.length = ds.length → ∃ σ', putAll xs ds σ = some σ'
  | [], [], σ, _ => ⟨σ, rfl⟩
  | [], _ :: _, _, h => by simp at h
  | _ :: _, [], _, h => by simp at h
  | x :: xs, d :: ds, σ, h => putAll_some xs ds _ (by simpa using h)

theorem lookup_zip_rev {α : Type} : ∀ (xs : List Str) (ds : List α) (y : Str), xs.length = ds.length → xs.Nodup → (xs.reverse.zip ds.reverse).lookup y = (xs.zip ds).lookup y := by
  intro xs ds y hl hn
  have hz : xs.reverse.zip ds.reverse = (xs.zip ds).reverse := by
    exact (List.reverse_zipWith hl).symm
  rw [hz]
  have hk : ((xs.zip ds).map (·.1)).Nodup := by
    rw [List.map_fst_zip (Nat.le_of_eq hl)]; exact hn
  have hk' : ((xs.zip ds).reverse.map (·.1)).Nodup := by rw [List.map_reverse]; unfold List.Nodup at hk ⊢; rw [List.pairwise_reverse]; exact hk.imp fun h => h.symm
  cases h1 : (xs.zip ds).lookup y with
  | some d => exact lookup_of_mem hk' (List.mem_reverse.mpr (mem_of_lookup h1))
  | none =>
    refine lookup_none_of fun c hc => ?_
    rw [lookup_of_mem hk (List.mem_reverse.mp hc)] at h1; cases h1
end
end Mine

end

section
namespace Mine
variable {prog : Program} {w : World}
section
variable {A : Around} {E : Value → Shared → Prop} {s : Shared} {env : Env} {sc : Scope} {T : Tab} {n : Nat} {h₀ hb : Heap} {ext : Addr → Prop} {σ σ₁ σ' : St} {ad : Str → List Addr}

theorem filterMap_full {f : Expr → Option Str} (hf : ∀ e x, f e = some x → ∃ p, e = .Name x p) : ∀ (ts : List Expr), (ts.filterMap f).length = ts.length → targetNames ts = some (ts.filterMap f)
  | [], _ => rfl
  | e :: r, h => by
    rw [List.filterMap_cons] at h ⊢
    cases he : f e with
    | none =>
      rw [he] at h
      have := List.length_filterMap_le f r
      simp at h; lia
    | some x =>
      rw [he] at h
      obtain ⟨p, rfl⟩ := hf e x he
      exact congrArg (Option.map (x :: ·)) (filterMap_full hf r (Nat.succ.inj h))

theorem swapped_is (ts : List Expr) (k : Nat) (p : Pos) (value : Expr) (hc : ∀ vs k' p', value = .Tuple vs k' p' → vs.all (constantsAlone 8) = false) :
    ∃ r, swappedStores [.Tuple ts k p] value env = pure r ∧ (r = none ∨ ∃ names, r = some names ∧ targetNames ts = some names) := by
  cases value with
  | Tuple vs k' p' =>
    have hc' := hc vs k' p' rfl
    unfold swappedStores
    dsimp only
    split
    · exact ⟨none, rfl, .inl rfl⟩
    split
    · exact ⟨none, rfl, .inl rfl⟩
    split
    · exact ⟨none, rfl, .inl rfl⟩
    rename_i c3
    split
    · exact ⟨none, rfl, .inl rfl⟩
    simp only [hc', Bool.false_eq_true, if_false]
    refine ⟨_, rfl, .inr ⟨_, rfl, filterMap_full (fun e x he => ?_) ts ?_⟩⟩
    · split at he
      · split at he
        · cases he; exact ⟨_, rfl⟩
        · cases he
      · cases he
    · simp only [Bool.or_eq_true, not_or] at c3
      have := c3.1
      rw [Bool.not_eq_true, bne_eq_false_iff_eq] at this
      exact this
  | _ => exact ⟨none, rfl, .inl rfl⟩

theorem assign_tuple_ok {es : List Expr} {k : Nat} {p pos : Pos} {e : Expr} {Q : Flow → Shared → Prop} (TO : TabOk prog w T n h₀) (hw : wfE e sc = true) (hp : plainTg sc (.Tuple es k p) = true)
    (hc : ∀ vs k' p', e = .Tuple vs k' p' → vs.all (constantsAlone 8) = false ∧ (targetsOf (.Tuple es k p)).Nodup)
    (ha : assignS T [.Tuple es k p] e sc σ = some σ') (I : SInv prog w hb ext env sc σ ad s.heap) (hA : Aok n A) (hE : Ext h₀ hb)
    (hq : ∀ s' ad', Same s s' → Next prog w hb ext env sc σ ad s.heap σ' ad' s'.heap → Q .next s') :
    wpAny (model prog w) A (exec (.Assign [.Tuple es k p] e pos) env) Q E s := by
  have hsw : swapsWithSole [.Tuple es k p] e pos.line env = pure false := by cases e <;> rfl
  have hr : ∃ r, swappedStores [.Tuple es k p] e env = pure r ∧ (r = none ∨ ∃ names, r = some names ∧ targetNames es = some names ∧ names.Nodup) := by
    obtain ⟨r, h1, h2⟩ := swapped_is (env := env) es k p e fun vs k' p' q => (hc vs k' p' q).1
    refine ⟨r, h1, ?_⟩
    rcases h2 with h2 | ⟨names, h2, h3⟩
    · exact .inl h2
    · by_cases q : ∃ vs k' p', e = .Tuple vs k' p'
      · obtain ⟨vs, k', p', q⟩ := q
        have := (hc vs k' p' q).2
        exact .inr ⟨names, h2, h3, by simpa [targetsOf, h3] using this⟩
      · left
        have : swappedStores [.Tuple es k p] e env = pure none := by
          cases e <;> first | rfl | exact absurd ⟨_, _, _, rfl⟩ q
        rw [this] at h1
        exact (Sem.pure.inj h1).symm
  obtain ⟨r, hr1, hr2⟩ := hr
  obtain ⟨⟨d, σ₁⟩, hv, ha⟩ := Option.bind_eq_some_iff.mp (show (evV T e sc σ).bind (fun r => bindS (.Tuple es k p) r.1 r.2) = some σ' from ha)
  replace ha : bindS (.Tuple es k p) d σ₁ = some σ' := ha
  rw [arm_exec_Assign, hsw]
  refine wpAny_bind (wpAny_standAt (wpAny_bind (wpAny_pure ?_)))
  simp only [Bool.false_eq_true, if_false]
  refine wpAny_bind (evV_ok TO hw hv I hA hE fun v s₁ ad₁ k₁ N₁ r₁ => ?_)
  rw [hr1]
  refine wpAny_bind (wpAny_pure ?_)
  rcases hr2 with rfl | ⟨names, rfl, hn, hnd⟩
  · show wpAny _ A (do assignAll v [assign (.Tuple es k p) env]; pure Flow.next) _ _ s₁
    refine wpAny_bind ?_
    show wpAny _ A (assign (.Tuple es k p) env v) _ _ s₁
    exact bindS_ok hA hp ha N₁.inv r₁ fun s' ad' sm N₂ => wpAny_pure (hq s' ad' (Same.trans (Same.of k₁) sm) (N₁.trans I N₂))
  · cases d with
    | tuple ds =>
      replace ha : (targetNames es).bind (fun xs => putAll xs ds σ₁) = some σ' := ha
      rw [hn, Option.bind_some] at ha
      obtain ⟨t, vs, rfl, nt, ht, rt⟩ := r₁.isTuple
      have hl := putAll_len ha
      have hl2 := rt.length
      simp only [Array.length_toList] at hl2
      show wpAny _ A (do
        rule "assign.swapped-stores"
        let items ← unpackItems (.ref t) names.length none
        assignInOrder (names.reverse.map fun n => bindName env n) items.reverse
        pure Flow.next) _ _ s₁
      refine wpAny_bind (wpAny_rule (wpAny_bind ?_))
      rw [hl, ← hl2]
      refine wpAny_unpackItems_tuple hA.handled ht fun h₂ x₂ => ?_
      replace x₂ : Heap.ExtBut s₁.heap.objs.size s₁.heap h₂ := x₂
      have k₂ : Ext s₁.heap h₂ := fun b o g => x₂ b o (Nat.ne_of_lt (Heap.lt_size g)) g
      have N₂ : Next prog w hb ext env sc σ₁ ad₁ s₁.heap σ₁ ad₁ h₂ := .keep N₁.inv k₂
      obtain ⟨σ₃, hσ₃⟩ := putAll_some names.reverse ds.reverse σ₁ (by simp [hl])
      refine wpAny_bind (acts_ok _ names.reverse ds.reverse _ σ₁ σ₃ ad₁ _ _ (acts_bind names.reverse) hσ₃ (fun x hx => names_can I.ok I.scp es names hn hp x (List.mem_reverse.mp hx)) N₂.inv ((rt.mono k₂.sees).reverse) fun s' ad' sm N₃ => wpAny_pure ?_)
      refine hq s' ad' (Same.trans (Same.of k₁) (Same.trans ⟨_, _, rfl⟩ sm)) (N₁.trans I (N₂.trans N₁.inv (N₃.congr (fun y => ?_) (putAll_nodup ha N₁.inv.nod))))
      have hnd' : names.reverse.Nodup := by unfold List.Nodup at hnd ⊢; rw [List.pairwise_reverse]; exact hnd.imp fun h => h.symm
      rw [putAll_lookup ha hnd y, putAll_lookup hσ₃ hnd' y, lookup_zip_rev names ds y hl hnd]
    | _ => exact none_ne ha
end
end Mine

end

section
namespace Mine
variable {prog : Program} {w : World}

section
variable {A : Around} {E : Value → Shared → Prop} {s : Shared}
theorem mapSeq_plain (f : Array Value → Array Value) (its : Array Value) (n : Nat) : ∃ n', Obj.mapSeq f { cls := .type "list", data := .seq its n } = { cls := .type "list", data := .seq (f its) n' } := ⟨_, rfl⟩

theorem plainSet {l : Addr} {items : Array Value} {k : Int} {t : Tok} {v : Value} {Q : Unit → Shared → Prop} (hl : s.heap.PlainList l items)
    (h0 : 0 ≤ k) (hfit : k < 2 ^ 63) (hn : k < items.size)
    (hQ : ∀ h', h'.PlainList l (items.setIfInBounds k.toNat v) → Heap.SameBut l s.heap h' → Q () { s with heap := h' }) :
    wpAny (model prog w) A (setItem (.ref l) (.int k t) v) Q E s := by
  have hl' := hl.isList
  obtain ⟨n, ho⟩ := hl
  have hd : ({ cls := .type "list", data := .seq items n } : Obj).data = .seq items n := rfl
  unfold setItem
  try with_reducible refine wpAny_holding ?_
  first | refine wpAny_bind (wpAny_pure ?_) | skip
  refine wpAny_bind (wpAny_sequenceKey hl'.typeIs (by decide) ?_)
  refine wpAny_bind (wpAny_callSpecial?_slot (name := Str.ofString "__setitem__") hl'.typeIs slot_list_setitem
    (wpAny_call_entry slot_list_setitem hl'.typeIs entry_list_setitem ?_ (args_list_setitem _ _ _)))
  show wpAny _ _ (Builtin.List.listSubscript? (.int k t) >>= _) _ _ s
  refine wpAny_bind (wpAny_listSubscript_int (fitsIndex_of h0 hfit) ?_)
  clear hfit
  obtain ⟨j, rfl⟩ := Int.eq_ofNat_of_zero_le h0
  have hj : j < items.size := by lia
  have hx' : items[j]? = some items[j] := Array.getElem?_eq_getElem hj
  show wpAny _ _ ((seqItemAt l j >>= fun r => pure (r.map (j, ·))) >>= _) _ _ s
  refine wpAny_bind (wpAny_bind (wpAny_seqItemAt ho hd (wpAny_pure ?_)))
  rw [hx']
  show wpAny _ _ (setSeqItemAt l j v >>= _) _ _ s
  obtain ⟨n', hn'⟩ := mapSeq_plain (·.setIfInBounds j v) items n
  have hfin : (s.heap.update l (Obj.mapSeq (·.setIfInBounds j v))).PlainList l (items.setIfInBounds j v) :=
    ⟨n', by rw [Heap.get?_update_self _ ho (by rw [hn']; rfl), hn']⟩
  refine wpAny_bind (wpAny_setSeqItemAt ho hd ?_)
  first
    | exact wpAny_bind (wpAny_pure (wpAny_pure ⟨.none, rfl, wpAny_pure (hQ _ hfin (Heap.SameBut.update ..))⟩))
    | exact wpAny_pure ⟨.none, rfl, wpAny_pure (hQ _ hfin (Heap.SameBut.update ..))⟩
end

section
variable {hb h h' : Heap} {ext : Addr → Prop} {env : Env} {sc : Scope} {σ : St} {ad : Str → List Addr}

theorem SInv.mutSees (I : SInv prog w hb ext env sc σ ad h) {x : Str} {t t' : Slt} {as' : List Addr} {a : Addr} (hx : σ.lookup x = some t) (ha : a ∈ ad x)
    (k : ∀ b o, b ≠ a → h.get? b = some o → h'.get? b = some o) (sub : ∀ b ∈ as', b ∈ ad x ∨ h.get? b = none) :
    Sees (hotOf env ext σ ad) (hotOf env ext (put x t' σ) (upd ad x as')) h h' := fun b q nb g => by
  refine ⟨fun z => ?_, k b q (fun e => nb (.inl ⟨x, t, hx, e ▸ ha⟩)) g⟩
  rcases z with z | z
  · rcases asP_put z with z | z
    · rcases sub b z with z | z
      · exact nb (.inl ⟨x, t, hx, z⟩)
      · rw [z] at g; cases g
    · exact nb (.inl z)
  · exact nb (.inr z)

/-- a list of a slot is changed in place -/
theorem SInv.mut (I : SInv prog w hb ext env sc σ ad h) {x : Str} {v : Value} {t t' : Slt} {as' : List Addr} {a : Addr} (hx : σ.lookup x = some t) (ha : a ∈ ad x)
    (k : ∀ b o, b ≠ a → h.get? b = some o → h'.get? b = some o) (va : VarAt env h x v)
    (s : SlotAt prog w (hotOf env ext (put x t' σ) (upd ad x as')) h' v t' as') (sub : ∀ b ∈ as', b ∈ ad x ∨ h.get? b = none) (nd : as'.Nodup) :
    Next prog w hb ext env sc σ ad h (put x t' σ) (upd ad x as') h' := by
  have sees := I.mutSees (t' := t') hx ha k sub
  obtain ⟨np, ne, nb0⟩ := I.free x t a hx ha
  have kP : ∀ b o, PA env b → h.get? b = some o → h'.get? b = some o := fun b o p g => k b o (fun e => np (e ▸ p)) g
  refine ⟨⟨I.scp, I.ok, I.fm.keeps fun b o p g => kP b o (I.fm.pa p) g, (put_names x t' σ).2 I.nod, fun y u hy => ?_, fun y u hy => ?_, fun y z u u' hy hz hne b hb' => ?_, fun y u b hy hb' => ?_, fun b p => ?_, fun b e => ?_, I.fb, fun b q g => ?_, I.sysm⟩, fun b q p np' g => ?_, fun b z => ?_⟩
  · rw [put_lookup] at hy
    by_cases q : y = x
    · subst q
      rw [if_pos rfl] at hy; cases hy
      refine ⟨v, va.keepsP kP, ?_⟩
      unfold upd; rw [if_pos rfl]; exact s
    · rw [if_neg q] at hy
      obtain ⟨u', vu, sl⟩ := I.at y u hy
      refine ⟨u', vu.keepsP kP, ?_⟩
      unfold upd; rw [if_neg q]
      exact sl.step sees fun b hb' o' g => k b o' (fun e => I.apart y x u t hy hx q b hb' (e ▸ ha)) g
  · rw [put_lookup] at hy
    unfold upd
    by_cases q : y = x
    · rw [if_pos q]; exact nd
    · rw [if_neg q] at hy ⊢; exact I.adn y u hy
  · rw [put_lookup] at hy hz
    unfold upd at hb' ⊢
    by_cases q : y = x
    · rw [if_pos q] at hb'
      have qz : z ≠ x := fun e => hne (q.trans e.symm)
      rw [if_neg qz] at hz ⊢
      intro hbz
      rcases sub b hb' with hb' | hb'
      · exact I.apart x z t u' hx hz (fun e => qz e.symm) b hb' hbz
      · obtain ⟨v', _, sl⟩ := I.at z u' hz
        obtain ⟨o', g⟩ := sl.live b hbz
        rw [hb'] at g; cases g
    · rw [if_neg q] at hy hb'
      by_cases qz : z = x
      · rw [if_pos qz]
        intro hbz
        rcases sub b hbz with hbz | hbz
        · exact I.apart y x u t hy hx q b hb' hbz
        · obtain ⟨v', _, sl⟩ := I.at y u hy
          obtain ⟨o', g⟩ := sl.live b hb'
          rw [hbz] at g; cases g
      · rw [if_neg qz] at hz ⊢
        exact I.apart y z u u' hy hz hne b hb'
  · rw [put_lookup] at hy
    unfold upd at hb'
    by_cases q : y = x
    · rw [if_pos q] at hb'
      rcases sub b hb' with z | fb
      · exact I.free x t b hx z
      · refine ⟨fun p => ?_, fun e => ?_, ?_⟩
        · obtain ⟨o', g⟩ := I.live b p; rw [fb] at g; cases g
        · obtain ⟨o', g⟩ := I.elive b e; rw [fb] at g; cases g
        · cases g : hb.get? b with
          | none => rfl
          | some o' => rw [I.base b o' g] at fb; cases fb
    · rw [if_neg q] at hy hb'
      exact I.free y u b hy hb'
  · obtain ⟨o', g⟩ := I.live b p; exact ⟨o', kP b o' p g⟩
  · obtain ⟨o', g⟩ := I.elive b e; exact ⟨o', k b o' (fun q => ne (q ▸ e)) g⟩
  · exact k b q (fun e => by rw [e, nb0] at g; cases g) (I.base b q g)
  · exact k b q (fun e => np' (e ▸ ⟨x, t, hx, ha⟩)) g
  · rcases asP_put z with z | z
    · rcases sub b z with z | z
      · exact .inl ⟨x, t, hx, z⟩
      · exact .inr z
    · exact .inl z

theorem Rows'.get {hot : Addr → Prop} {bs : List Addr} {xss : List (List D)} (R : Rows' prog w hot h bs xss) {i : Nat} {xs : List D} (hi : xss[i]? = some xs) :
    ∃ b vs, bs[i]? = some b ∧ h.PlainList b vs ∧ Reps prog w hot h vs.toList xs := by
  induction R generalizing i with
  | nil => simp at hi
  | cons a b c ih =>
    cases i with
    | zero => simp at hi; subst hi; exact ⟨_, _, by simp, a, b⟩
    | succ i => simpa using ih (by simpa using hi)
theorem Rows'.length {hot : Addr → Prop} {bs : List Addr} {xss : List (List D)} (R : Rows' prog w hot h bs xss) : bs.length = xss.length := by
  induction R with
  | nil => rfl
  | cons _ _ _ ih => simp [ih]
theorem Rows'.snoc {hot : Addr → Prop} {bs : List Addr} {xss : List (List D)} (R : Rows' prog w hot h bs xss) {b : Addr} {vs : Array Value} {xs : List D} (p : h.PlainList b vs) (r : Reps prog w hot h vs.toList xs) : Rows' prog w hot h (bs ++ [b]) (xss ++ [xs]) := by
  induction R with
  | nil => exact .cons p r .nil
  | cons a b c ih => exact .cons a b ih
theorem Rows'.set {hot hot' : Addr → Prop} {bs : List Addr} {xss : List (List D)} (R : Rows' prog w hot h bs xss) {i : Nat} {a : Addr} {vs : Array Value} {xs : List D} (hi : bs[i]? = some a) (nd : bs.Nodup) (S : Sees hot hot' h h')
    (k : ∀ b o, b ≠ a → h.get? b = some o → h'.get? b = some o) (p : h'.PlainList a vs) (r : Reps prog w hot' h' vs.toList xs) : Rows' prog w hot' h' bs (xss.set i xs) := by
  induction R generalizing i with
  | nil => simp at hi
  | cons a' b' c' ih =>
    rw [List.nodup_cons] at nd
    cases i with
    | zero =>
      simp at hi; subst hi
      exact .cons p r (c'.step S fun b hb' o g => k b o (fun e => nd.1 (e ▸ hb')) g)
    | succ i =>
      rw [List.getElem?_cons_succ] at hi
      have hi' := hi
      have hm : a ∈ _ := List.mem_of_getElem? hi'
      rw [List.set_cons_succ]
      exact .cons (a'.at fun o g => k _ o (fun e => nd.1 (e ▸ hm)) g) (b'.mono S) (ih hi' nd.2)

theorem slot_empty {hot : Addr → Prop} {v : Value} {as : List Addr} (s : SlotAt prog w hot h v (.hot1 []) as) : SlotAt prog w hot h v (.hot2 []) as := by
  obtain ⟨a, vs, rfl, rfl, p, r⟩ := s
  have : vs = #[] := by
    have := r.length
    simp at this
    exact this
  subst this
  exact ⟨a, [], rfl, rfl, p, .nil⟩
end
end Mine

end

section
namespace Mine
variable {prog : Program} {w : World}

section
variable {A : Around} {E : Value → Shared → Prop} {s : Shared} {env : Env} {sc : Scope} {T : Tab} {n : Nat} {h₀ hb : Heap} {ext : Addr → Prop} {σ σ₁ σ' : St} {ad : Str → List Addr}

theorem not_inter (O : EnvOk env sc) : interactive env = false := by
  unfold interactive; rw [O.kind]; rfl

theorem append_core {o e : Expr} {apos pos p2 : Pos} {a : Addr} {vs : Array Value} {P : Value → Shared → Prop} {Q : Flow → Shared → Prop}
    (hi : interactive env = false) (hob : attributeBase o (Str.ofString "append") env (eval o env) = eval o env) (hline : (apos.endLine == pos.line) = true)
    (hstar : starEach [e] env = [(false, eval e env)]) (hsz : vs.size ≤ sizeLine)
    (ho : ∀ Q' : Value → Shared → Prop, (∀ s₁, Keeps s s₁ → Q' (.ref a) s₁) → wpAny (model prog w) A (eval o env) Q' E s)
    (he : ∀ s₁ (Q' : Value → Shared → Prop), Keeps s s₁ → (∀ v s₂, Keeps s₁ s₂ → P v s₂ → Q' v s₂) → wpAny (model prog w) A (eval e env) Q' E s₁)
    (pl : s.heap.PlainList a vs)
    (hq : ∀ v s₂ h', Keeps s s₂ → P v s₂ → h'.PlainList a (vs.push v) → Heap.SameBut a s₂.heap h' → Q .next { s₂ with heap := h' }) :
    wpAny (model prog w) A (exec (.Expr (.Call (.Attribute o (Str.ofString "append") apos) [e] [] pos) p2) env) Q E s := by
  have hb1 : backTo pos (starEach [e] env) = backTo pos [(false, eval e env)] := by rw [hstar]
  have hp : ∀ x ∈ backTo pos (starEach [e] env), x.1 = false := by
    rw [hb1]; intro x hx
    have : x.1 ∈ (backTo pos [(false, eval e env)]).map (·.1) := List.mem_map.mpr ⟨x, hx, rfl⟩
    simpa [backTo] using this
  refine wpAny_Expr ?_ hi rfl
  refine wpAny_Call_method_lateS hob ?_ hline ?_
  · have h1 : (backTo pos (starEach [e] env)).all (fun x => !x.1) = true := by
      rw [List.all_eq_true]; intro x hx; rw [hp x hx]; rfl
    rw [h1]; rfl
  refine ho _ fun s₁ k₁ => ?_
  obtain ⟨n0, g⟩ := pl
  have g1 := kx k₁ a _ g
  refine ⟨"list", "list.append", PySem.F.plainAttrs_list, PySem.F.slot_list_append, PySem.F.type_list_append, ⟨_, g1, rfl⟩, fun a' q => (by cases q; exact ⟨_, g1, rfl⟩), ?_⟩
  refine callWith_mach hp ?_
  refine wpAny_items_cons (he s₁ _ k₁ fun v s₂ k₂ hP => wpAny_items_nil ⟨fun Q' q => keeper_flat (fun a => by intro z; cases z) q, ?_⟩) hstar
  have k₁₂ := keeps_trans k₁ k₂
  exact wpAny_list_append_plain ⟨n0, kx k₁₂ a _ g⟩ (fun h' p sb => hq v s₂ h' k₁₂ hP p sb) hsz

theorem star_list {p : Pos} : starEach [.List [] p] env = [(false, eval (.List [] p) env)] := rfl

/-- a row of a list of lists, by its place -/
theorem row_eval {x : Str} {xp p : Pos} {i : Expr} {di : D} {k : Nat} {a b : Addr} {bs : List Addr} {Q : Value → Shared → Prop} (TO : TabOk prog w T n h₀) (hx : okName x = true) (hw : wfE i sc = true)
    (hi : evE T i sc (allV σ) = some di) (hk : setInt di = some k) (I : SInv prog w hb ext env sc σ ad s.heap) (hA : Aok n A) (hE : Ext h₀ hb) (va : VarAt env s.heap x (.ref a)) (pl : s.heap.PlainList a (bs.map Value.ref).toArray)
    (hb' : bs[k]? = some b) (hlen : bs.length ≤ 1000000) (hq : ∀ s₁, Keeps s s₁ → Q (.ref b) s₁) : wpAny (model prog w) A (eval (.Subscript (.Name x xp) i p) env) Q E s := by
  have S := (all_ok TO trivial (sizeOf i + 1) i (Nat.lt_succ_self _)).1
  have hE' : Ext h₀ s.heap := hE.trans I.base
  refine Subscript_ (var_load I.ok va hx ?_)
  refine S sc _ di env _ A s E _ hw hi I.viewB hA I.hotb hE' fun vi s₁ k₁ ri z0 => ?_
  obtain ⟨z, rfl, h0, rfl⟩ := setInt_is hk
  obtain ⟨t', rfl⟩ := ri.isInt
  have il := (pl.at (kx k₁ a)).isList
  have hlt : z.toNat < bs.length := (List.getElem?_eq_some_iff.mp hb').1
  exact subTail il.typeIs slot_list_getitem.lookup (wpAny_getItem_list (x := .ref b) il h0 (by lia) (by simp [hb']) (hq _ k₁))

theorem append_ok {o e : Expr} {apos pos p2 : Pos} {Q : Flow → Shared → Prop} (TO : TabOk prog w T n h₀) (hline : (apos.endLine == pos.line) = true) (ho : objTg sc o = true) (hw : wfE e sc = true)
    (ha : appendS T o e sc σ = some σ') (I : SInv prog w hb ext env sc σ ad s.heap) (hA : Aok n A) (hE : Ext h₀ hb)
    (hq : ∀ s' ad', Same s s' → Next prog w hb ext env sc σ ad s.heap σ' ad' s'.heap → Q .next s') :
    wpAny (model prog w) A (exec (.Expr (.Call (.Attribute o (Str.ofString "append") apos) [e] [] pos) p2) env) Q E s := by
  have hE' : Ext h₀ s.heap := hE.trans I.base
  have hi := not_inter I.ok
  have S := (all_ok TO trivial (sizeOf e + 1) e (Nat.lt_succ_self _)).1
  have SL : sizeLine = 1000000 ∨ True := .inr trivial
  cases hn : nameX o with
  | some x =>
    -- by a name
    obtain ⟨xp, rfl⟩ := nameX_is hn
    have hx : okName x = true := (Bool.and_eq_true _ _ ▸ ho : okName x = true ∧ _).1
    -- an empty list more
    have more : ∀ (xss : List (List D)) (lp : Pos) (t : Slt), σ.lookup x = some t → xss.length ≤ 1000000 → (∃ v, VarAt env s.heap x v ∧ SlotAt prog w (hotOf env ext σ ad) s.heap v (.hot2 xss) (ad x)) → σ' = put x (.hot2 (xss ++ [[]])) σ →
        wpAny (model prog w) A (exec (.Expr (.Call (.Attribute (.Name x xp) (Str.ofString "append") apos) [.List [] lp] [] pos) p2) env) Q E s := by
      rintro xss lp t ht hlen ⟨v, va, a, bs, rfl, e2, pl, rows⟩ rfl
      have hl := rows.length
      have ndx : (a :: bs).Nodup := by rw [← e2]; exact I.adn x t ht
      refine append_core (P := fun v s₂ => ∃ b, v = .ref b ∧ s.heap.get? b = none ∧ s₂.heap.PlainList b #[]) hi rfl hline star_list (by rw [sizeLine_eq]; simp; lia) (fun Q' h => var_load I.ok va hx (h s (keeps_refl s))) (fun s₁ Q' k₁ h => ?_) pl fun v s₂ h' k ⟨b, hv, fb, pb⟩ pn sb => ?_
      · refine wpAny_List (wpAny_items_nil ⟨Nat.zero_le _, ?_⟩)
        have f1 : s₁.heap.get? s₁.heap.objs.size = none := isSome_none (Nat.le_refl _)
        refine h _ _ (keeps_heap (ext_push _ _)) ⟨s₁.heap.objs.size, rfl, ?_, 0, Heap.get?_push_size _ rfl⟩
        cases g : s.heap.get? s₁.heap.objs.size with
        | none => rfl
        | some o => rw [kx k₁ _ o g] at f1; cases f1
      · subst hv
        have hab : ∀ (z : Addr) o, s.heap.get? z = some o → z ≠ b := fun z o g q => by rw [q, fb] at g; cases g
        have kk : ∀ z o, z ≠ a → s.heap.get? z = some o → h'.get? z = some o := fun z o nz g => sb.extBut z o nz (kx k z o g)
        have ha' : a ∈ ad x := by rw [e2]; exact List.mem_cons_self
        have hne : b ≠ a := fun q => by obtain ⟨_, g⟩ := pl; exact hab a _ g q.symm
        have sub : ∀ z ∈ a :: (bs ++ [b]), z ∈ ad x ∨ s.heap.get? z = none := fun z hz => by
          rw [e2]
          rcases List.mem_cons.mp hz with q | hz
          · exact .inl (q ▸ List.mem_cons_self)
          · rcases List.mem_append.mp hz with hz | hz
            · exact .inl (List.mem_cons_of_mem _ hz)
            · exact .inr (by rw [List.mem_singleton.mp hz]; exact fb)
        have nd' : (a :: (bs ++ [b])).Nodup := by
          rw [List.nodup_cons] at ndx ⊢
          refine ⟨fun hm => ?_, List.nodup_append.mpr ⟨ndx.2, by simp, fun y hy z hz q => ?_⟩⟩
          · rcases List.mem_append.mp hm with hm | hm
            · exact ndx.1 hm
            · exact hne (List.mem_singleton.mp hm).symm
          · rw [List.mem_singleton.mp hz] at q
            obtain ⟨o, g⟩ := rows.live y hy
            exact hab y o g q
        have sees := I.mutSees (t' := .hot2 (xss ++ [[]])) (as' := a :: (bs ++ [b])) ht ha' kk sub
        refine hq _ _ (Same.trans (Same.of k) ⟨_, _, rfl⟩) (I.mut ht ha' kk va ⟨a, bs ++ [b], rfl, rfl, by simpa using pn, ?_⟩ sub nd')
        refine (rows.step sees fun z hz o g => kk z o (fun q => ?_) g).snoc (vs := #[]) (pb.at fun o g => sb.extBut b o hne g) .nil
        rw [List.nodup_cons] at ndx
        exact ndx.1 (q ▸ hz)
    obtain ⟨u, ht, hz⟩ := Option.bind_eq_some_iff.mp (show (σ.lookup x).bind (appendN T x e sc σ) = some σ' from ha)
    cases u with
    | cold _ => exact none_ne hz
    | hot2 xss =>
      obtain ⟨h1, h2⟩ := ite_of hz
      replace h1 := Bool.and_eq_true_iff.mp h1
      obtain ⟨h1, hlen⟩ := h1
      obtain ⟨lp, rfl⟩ := isNilL_is h1
      exact more xss lp _ ht (of_decide_eq_true hlen) (I.at x _ ht) h2.symm
    | hot1 xs =>
      by_cases h0 : (isNilL e && xs.isEmpty) = true
      · replace hz := Option.some.inj ((if_pos h0).symm.trans hz)
        obtain ⟨h1, h2⟩ := Bool.and_eq_true_iff.mp h0
        obtain ⟨lp, rfl⟩ := isNilL_is h1
        cases List.isEmpty_iff.mp h2
        obtain ⟨v, va, sl⟩ := I.at x _ ht
        exact more [] lp _ ht (by simp) ⟨v, va, slot_empty sl⟩ hz.symm
      · obtain ⟨d, he, hz⟩ := Option.bind_eq_some_iff.mp ((if_neg h0).symm.trans hz)
        obtain ⟨hlen, rfl⟩ := ite_of hz
        obtain ⟨v, va, a, vs, rfl, e2, pl, r⟩ := I.at x _ ht
        have hl := r.length
        simp only [Array.length_toList] at hl
        refine append_core (P := fun v s₂ => Rep prog w (hotOf env ext σ ad) s₂.heap v d) hi rfl hline (star_of he) (by rw [sizeLine_eq]; lia) (fun Q' h => var_load I.ok va hx (h s (keeps_refl s)))
          (fun s₁ Q' k₁ h => S sc _ d env _ A s₁ E Q' hw he (I.viewA.keeps (kx k₁)) hA (I.hot.ext (kx k₁)) (hE'.trans (kx k₁)) fun v s₂ k₂ r₂ z0 => h v s₂ k₂ r₂) pl fun v s₂ h' k rv pn sb => ?_
        have ha' : a ∈ ad x := by rw [e2]; exact List.mem_cons_self
        have kk : ∀ z o, z ≠ a → s.heap.get? z = some o → h'.get? z = some o := fun z o nz g => sb.extBut z o nz (kx k z o g)
        have sub : ∀ z ∈ [a], z ∈ ad x ∨ s.heap.get? z = none := fun z hz => .inl (by rw [e2]; exact hz)
        have sees := I.mutSees (t' := .hot1 (xs ++ [d])) (as' := [a]) ht ha' kk sub
        have sees2 : Sees (hotOf env ext σ ad) (hotOf env ext (put x (.hot1 (xs ++ [d])) σ) (upd ad x [a])) s₂.heap h' := fun b q nb g => by
          refine ⟨fun z => ?_, sb.extBut b q (fun e => nb (.inl ⟨x, _, ht, e ▸ ha'⟩)) g⟩
          rcases z with z | z
          · rcases asP_put z with z | z
            · exact nb (.inl ⟨x, _, ht, by rw [e2]; exact z⟩)
            · exact nb (.inl z)
          · exact nb (.inr z)
        refine hq _ _ (Same.trans (Same.of k) ⟨_, _, rfl⟩) (I.mut ht ha' kk va ⟨a, vs.push v, rfl, rfl, pn, ?_⟩ sub (by simp))
        rw [Array.toList_push]
        exact (r.mono sees).append (.one (rv.mono sees2))
  | none =>
    -- by a place
    replace ha : (subX o).bind _ = some σ' := (show appendS T o e sc σ = _ by unfold appendS; rw [hn]).symm.trans ha
    obtain ⟨⟨x, i⟩, hs, hz⟩ := Option.bind_eq_some_iff.mp ha
    obtain ⟨xp, p, rfl⟩ := subX_is hs
    have hx : okName x = true ∧ wfE i sc = true := by
      have h : (okName x && isVarK (sc.names.lookup x) && wfE i sc) = true := ho
      rw [Bool.and_eq_true, Bool.and_eq_true] at h
      exact ⟨h.1.1, h.2⟩
    replace hz := Option.bind_eq_some_iff.mp hz
    obtain ⟨di, hdi, hz⟩ := hz
    replace hz := Option.bind_eq_some_iff.mp hz
    obtain ⟨k, hk, hz⟩ := hz
    replace hz := Option.bind_eq_some_iff.mp hz
    obtain ⟨xss, ht, hz⟩ := hz
    replace hz := Option.bind_eq_some_iff.mp hz
    obtain ⟨xs, hxs, hz⟩ := hz
    replace hz := Option.bind_eq_some_iff.mp hz
    obtain ⟨d, he, hz⟩ := hz
    obtain ⟨⟨hlen, hlen2, hfl⟩, rfl⟩ := ite_of hz
    replace ht := hot2L_is ht
    obtain ⟨v, va, a, bs, rfl, e2, pl, rows⟩ := I.at x _ ht
    have ndx : (a :: bs).Nodup := by rw [← e2]; exact I.adn x _ ht
    have hl := rows.length
    obtain ⟨b, vs, hb1, plb, rb⟩ := rows.get hxs
    have hlb := rb.length
    simp only [Array.length_toList] at hlb
    refine append_core (P := fun v s₂ => Rep prog w (hotOf env ext σ ad) s₂.heap v d) hi rfl hline (star_of he) (by rw [sizeLine_eq]; lia)
      (fun Q' h => row_eval TO hx.1 hx.2 hdi hk I hA hE va pl hb1 (by lia) h)
      (fun s₁ Q' k₁ h => S sc _ d env _ A s₁ E Q' hw he (I.viewA.keeps (kx k₁)) hA (I.hot.ext (kx k₁)) (hE'.trans (kx k₁)) fun v s₂ k₂ r₂ z0 => h v s₂ k₂ r₂) plb fun v s₂ h' ks rv pn sb => ?_
    have hm : b ∈ bs := List.mem_of_getElem? hb1
    have ha' : b ∈ ad x := by rw [e2]; exact List.mem_cons_of_mem _ hm
    have kk : ∀ z o, z ≠ b → s.heap.get? z = some o → h'.get? z = some o := fun z o nz g => sb.extBut z o nz (kx ks z o g)
    have sub : ∀ z ∈ a :: bs, z ∈ ad x ∨ s.heap.get? z = none := fun z hz => .inl (by rw [e2]; exact hz)
    have sees := I.mutSees (t' := .hot2 (xss.set k (xs ++ [d]))) (as' := a :: bs) ht ha' kk sub
    have hab : a ≠ b := fun q => (List.nodup_cons.mp ndx).1 (q ▸ hm)
    refine hq _ _ (Same.trans (Same.of ks) ⟨_, _, rfl⟩) (I.mut ht ha' kk va ⟨a, bs, rfl, rfl, pl.at fun o g => kk a o hab g, ?_⟩ sub ndx)
    refine rows.set hb1 (List.nodup_cons.mp ndx).2 sees kk pn ?_
    rw [Array.toList_push]
    exact (rb.mono sees).append (.one (flat_rep hfl rv))
end
end Mine

end

section

namespace Mine
variable {prog : Program} {w : World}

section
variable {A : Around} {E : Value → Shared → Prop} {s : Shared} {env : Env} {sc : Scope} {T : Tab} {n : Nat} {h₀ hb : Heap} {ext : Addr → Prop} {σ σ₁ σ' : St} {ad : Str → List Addr}

theorem flat_noref {hot : Addr → Prop} {h : Heap} {v : Value} {d : D} (f : flat d = true) (r : Rep prog w hot h v d) : ∀ a, v ≠ .ref a := by
  intro a q; subst q
  cases r <;> cases f

theorem pop_ok {o : Expr} {apos pos p2 : Pos} {Q : Flow → Shared → Prop} (hline : (apos.endLine == pos.line) = true) (ho : objTg sc o = true)
    (ha : popS o σ = some σ') (I : SInv prog w hb ext env sc σ ad s.heap)
    (hq : ∀ s' ad', Same s s' → Next prog w hb ext env sc σ ad s.heap σ' ad' s'.heap → Q .next s') :
    wpAny (model prog w) A (exec (.Expr (.Call (.Attribute o (Str.ofString "pop") apos) [] [] pos) p2) env) Q E s := by
  replace ha := Option.bind_eq_some_iff.mp ha
  obtain ⟨x, hx, ha⟩ := ha
  replace ha := Option.bind_eq_some_iff.mp ha
  obtain ⟨xs, ht, ha⟩ := ha
  replace ha := Option.bind_eq_some_iff.mp ha
  obtain ⟨d, hd, ha⟩ := ha
  obtain ⟨⟨hfl, hlen⟩, hσ⟩ := ite_of ha
  obtain ⟨xp, rfl⟩ := nameX_is hx
  have hx : okName x = true := (Bool.and_eq_true _ _ ▸ ho : okName x = true ∧ _).1
  replace ht := hot1L_is ht
  obtain ⟨v, va, a, vs, rfl, e2, ⟨n0, g⟩, r⟩ := I.at x _ ht
  have hl := r.length
  rw [Array.length_toList] at hl
  have hd' : xs[xs.length - 1]? = some d := List.getLast?_eq_getElem?.symm.trans hd
  obtain ⟨y, hy, ry⟩ := r.get hd'
  have hnr := flat_noref hfl ry
  have ha' : a ∈ ad x := by rw [e2]; exact List.mem_cons_self
  have fin : ∀ h', Heap.SameBut a s.heap h' → h'.get? a = some { cls := .type "list", data := .seq vs.pop (n0 + 1) } → Q .next { s with heap := h' } := fun h' sb gp => by
    have kk : ∀ z o, z ≠ a → s.heap.get? z = some o → h'.get? z = some o := fun z o nz g => sb.extBut z o nz g
    have sub : ∀ z ∈ [a], z ∈ ad x ∨ s.heap.get? z = none := fun z hz => .inl (by rw [e2]; exact hz)
    have key := I.mut (t' := .hot1 xs.dropLast) (as' := [a]) ht ha' kk va ⟨a, vs.pop, rfl, rfl, ⟨_, gp⟩, by rw [Array.toList_pop]; exact r.dropLast.mono (I.mutSees ht ha' kk sub)⟩ sub (List.nodup_cons.mpr ⟨List.not_mem_nil, List.nodup_nil⟩)
    exact hq _ _ ⟨_, _, rfl⟩ (hσ ▸ key)
  clear hq hd ha hσ
  refine wpAny_Expr ?_ (not_inter I.ok) rfl
  refine Call_method0 rfl hline (var_load I.ok va hx ?_)
  refine ⟨"list", "list.pop", PySem.F.plainAttrs_list, PySem.F.slot_list_pop, PySem.F.type_list_pop, ⟨_, g, rfl⟩, fun a' q => Value.ref.inj q ▸ ⟨_, g, rfl⟩, ?_⟩
  refine callWith_mach (fun x hx => nomatch hx) (wpAny_items_nil (pos := pos) (env := env) ⟨fun Q' q => keeper_flat (fun a => by intro z; cases z) q, ?_⟩)
  refine PyProof.Rows.Copied.pop_at (y := y) g (by rw [hl]; simpa using hy) (fun h' sb gp => ?_) (by rw [sizeLine_eq]; lia)
  replace fin := fin h' sb gp
  cases y <;> first | exact fin | exact absurd rfl (hnr _)

theorem var_loadName {M : Model} {x : Str} {v : Value} {Q : Value → Shared → Prop} (O : EnvOk env sc) (a : VarAt env s.heap x v) (hx : okName x = true) (h : Q v s) :
    wpAny M A (loadName env x) Q E s := by
  rcases a with ⟨k, m, hn, hv⟩ | ⟨k | k, c, hc, hv⟩
  · exact wpAny_loadName_local O.kind k hn hv h
  · exact wpAny_loadName_cell O.kind k hc hv h
  · exact wpAny_loadName_free O.kind k hc hv h (okName_cd hx)

theorem aug_ok {x : Str} {xp pos : Pos} {op : Operator} {e : Expr} {Q : Flow → Shared → Prop} (TO : TabOk prog w T n h₀) (hc : canStoreB sc x = true) (hw : wfE e sc = true)
    (ha : augS T x op e sc σ = some σ') (I : SInv prog w hb ext env sc σ ad s.heap) (hA : Aok n A) (hE : Ext h₀ hb)
    (hq : ∀ s' ad', Same s s' → Next prog w hb ext env sc σ ad s.heap σ' ad' s'.heap → Q .next s') :
    wpAny (model prog w) A (exec (.AugAssign (.Name x xp) op e pos) env) Q E s := by
  have S := (all_ok TO trivial (sizeOf e + 1) e (Nat.lt_succ_self _)).1
  have hE' : Ext h₀ s.heap := hE.trans I.base
  have hx : okName x = true := by unfold canStoreB at hc; exact (Bool.and_eq_true _ _ ▸ hc : _ ∧ okName x = true).2
  replace ha := Option.bind_eq_some_iff.mp ha
  obtain ⟨da, hl, ha⟩ := ha
  replace ha := Option.bind_eq_some_iff.mp ha
  obtain ⟨a, h1, ha⟩ := ha
  replace ha := Option.bind_eq_some_iff.mp ha
  obtain ⟨db, he, ha⟩ := ha
  replace ha := Option.bind_eq_some_iff.mp ha
  obtain ⟨b, h2, ha⟩ := ha
  obtain ⟨⟨hop, hlen⟩, hσ⟩ := ite_of ha
  obtain ⟨v, va, sl⟩ := I.at x _ (coldV_lookup I.nod hl)
  have rv := sl.2
  rw [strOf_is h1] at rv
  obtain ⟨ta, hv⟩ := rv.isStr
  rw [hop]
  clear ha hl h1 rv sl
  refine wpAny_AugAssign_Name (var_loadName I.ok va hx ?_)
  refine S sc _ _ env _ A s E _ hw he I.viewA hA I.hot hE' fun v₁ s₁ k₁ r₁ z0 => ?_
  rw [strOf_is h2] at r₁
  obtain ⟨tb, hv₁⟩ := r₁.isStr
  rw [hv, hv₁]
  refine SB.iadd (fun t' tk => ?_) (by rw [sizeLine_eq]; lia)
  have N₁ : Next prog w hb ext env sc σ ad s.heap σ ad s₁.heap := .keep I (kx k₁)
  refine store_inv (can_of I.ok I.scp hc) (s := { s₁ with toks := tk }) N₁.inv (.str _ _) fun h' tk' k' N₂ => ?_
  exact hq _ _ (Same.trans (Same.of k₁) ⟨_, _, rfl⟩) (hσ ▸ N₁.trans I N₂)

theorem setTg_is {t : Expr} (h : setTg sc t = true) : ∃ o j p, t = .Subscript o j p := by
  cases t with
  | Subscript o j p => exact ⟨o, j, p, rfl⟩
  | _ => exact false_ne h
/-- one place of a list of lists takes a value -/
theorem set_ok {t : Expr} {v : Value} {d : D} {Q : Unit → Shared → Prop} (TO : TabOk prog w T n h₀) (hw : setTg sc t = true) (hfl : flat d = true) (ha : setS T t d sc σ = some σ') (I : SInv prog w hb ext env sc σ ad s.heap)
    (hA : Aok n A) (hE : Ext h₀ hb) (rv : Rep prog w (hotB env ext) s.heap v d)
    (hq : ∀ s' ad', Same s s' → Next prog w hb ext env sc σ ad s.heap σ' ad' s'.heap → Q () s') : wpAny (model prog w) A (assign t env v) Q E s := by
  obtain ⟨o, j, p2, rfl⟩ := setTg_is hw
  · obtain ⟨⟨x, i⟩, hs, hz⟩ := Option.bind_eq_some_iff.mp (show (subX o).bind _ = some σ' from ha)
    obtain ⟨xp, p1, rfl⟩ := subX_is hs
    have hx : okName x = true ∧ wfE i sc = true ∧ wfE j sc = true := by
      have h : (okName x && isVarK (sc.names.lookup x) && wfE i sc && wfE j sc) = true := hw
      rw [Bool.and_eq_true, Bool.and_eq_true, Bool.and_eq_true] at h
      exact ⟨h.1.1.1, h.1.2, h.2⟩
    replace hz := Option.bind_eq_some_iff.mp hz
    obtain ⟨di, hdi, hz⟩ := hz
    replace hz := Option.bind_eq_some_iff.mp hz
    obtain ⟨i', hi', hz⟩ := hz
    replace hz := Option.bind_eq_some_iff.mp hz
    obtain ⟨dj, hdj, hz⟩ := hz
    replace hz := Option.bind_eq_some_iff.mp hz
    obtain ⟨j', hj', hz⟩ := hz
    obtain ⟨z, hzz, h0, hj⟩ := setInt_is hj'
    rw [← hj] at hz
    replace hz := Option.bind_eq_some_iff.mp hz
    obtain ⟨xss, ht, hz⟩ := hz
    replace hz := Option.bind_eq_some_iff.mp hz
    obtain ⟨xs, hxs, hz⟩ := hz
    obtain ⟨⟨hlt, hlen, hlen2⟩, hσ⟩ := ite_of hz
    clear hz hj hj' hs ha
    replace ht := hot2L_is ht
    obtain ⟨u, va, a, bs, rfl, e2, pl, rows⟩ := I.at x _ ht
    have ndx : (a :: bs).Nodup := by rw [← e2]; exact I.adn x _ ht
    have hl := rows.length
    obtain ⟨b, vs, hb1, plb, rb⟩ := rows.get hxs
    have hlb := rb.length
    simp only [Array.length_toList] at hlb
    rw [arm_assign_Subscript]
    refine wpAny_bind (wpAny_holding (row_eval TO hx.1 hx.2.1 hdi hi' I hA hE va pl hb1 (by lia) fun s₁ k₁ => ?_))
    have N₁ : Next prog w hb ext env sc σ ad s.heap σ ad s₁.heap := .keep I (kx k₁)
    have S := (all_ok TO trivial (sizeOf j + 1) j (Nat.lt_succ_self _)).1
    refine wpAny_bind (wpAny_holding ?_)
    refine S sc _ dj env _ A s₁ E _ hx.2.2 hdj N₁.inv.viewB hA N₁.inv.hotb (hE.trans N₁.inv.base) fun vj s₂ k₂ rj z0 => ?_
    have N₂ : Next prog w hb ext env sc σ ad s.heap σ ad s₂.heap := .keep I (kx (keeps_trans k₁ k₂))
    rw [hzz] at rj
    obtain ⟨tk, rfl⟩ := rj.isInt
    refine wpAny_bind (wpAny_standAt (wpAny_bind (wpAny_holding (plainSet (plb.at (kx (keeps_trans k₁ k₂) b)) h0 (by lia) (by lia) fun h' pn sb => wpAny_release' ?_))))
    have hm : b ∈ bs := List.mem_of_getElem? hb1
    have ha' : b ∈ ad x := by rw [e2]; exact List.mem_cons_of_mem _ hm
    have kk : ∀ z o, z ≠ b → s.heap.get? z = some o → h'.get? z = some o := fun z o nz g => sb.extBut z o nz (kx (keeps_trans k₁ k₂) z o g)
    have sub : ∀ z ∈ a :: bs, z ∈ ad x ∨ s.heap.get? z = none := fun z hz => .inl (by rw [e2]; exact hz)
    have sees := fun t' => I.mutSees (t' := t') (as' := a :: bs) ht ha' kk sub
    have hab : a ≠ b := fun q => (List.nodup_cons.mp ndx).1 (q ▸ hm)
    have key := I.mut (t' := .hot2 (xss.set i' (xs.set z.toNat d))) (as' := a :: bs) ht ha' kk va ⟨a, bs, rfl, rfl, pl.at fun o g => kk a o hab g, rows.set hb1 (List.nodup_cons.mp ndx).2 (sees _) kk pn (by
      rw [Array.toList_setIfInBounds]
      exact (rb.mono (sees _)).set (flat_rep hfl rv) _)⟩ sub ndx
    exact hq _ _ (Same.trans (Same.of (keeps_trans k₁ k₂)) ⟨_, _, rfl⟩) (hσ ▸ key)

theorem assign_two_ok {t₁ t₂ e : Expr} {pos : Pos} {Q : Flow → Shared → Prop} (TO : TabOk prog w T n h₀) (h1 : setTg sc t₁ = true) (h2 : setTg sc t₂ = true) (hw : wfE e sc = true)
    (ha : assignS T [t₁, t₂] e sc σ = some σ') (I : SInv prog w hb ext env sc σ ad s.heap) (hA : Aok n A) (hE : Ext h₀ hb)
    (hq : ∀ s' ad', Same s s' → Next prog w hb ext env sc σ ad s.heap σ' ad' s'.heap → Q .next s') :
    wpAny (model prog w) A (exec (.Assign [t₁, t₂] e pos) env) Q E s := by
  have S := (all_ok TO trivial (sizeOf e + 1) e (Nat.lt_succ_self _)).1
  obtain ⟨d, he, ha⟩ := Option.bind_eq_some_iff.mp (show (evE T e sc (allV σ)).bind _ = some σ' from ha)
  by_cases hfl : flat d = true
  · replace ha : (setS T t₁ d sc σ).bind (fun σ' => setAllS T d sc [t₂] σ') = some σ' := (if_pos hfl).symm.trans ha
    replace ha := Option.bind_eq_some_iff.mp ha
    obtain ⟨σ₁, h3, ha⟩ := ha
    obtain ⟨σ₂, h4, h5⟩ := Option.bind_eq_some_iff.mp (show (setS T t₂ d sc σ₁).bind (fun σ' => some σ') = some σ' from ha)
    obtain ⟨o₁, j₁, p₁, rfl⟩ := setTg_is h1
    obtain ⟨o₂, j₂, p₂, rfl⟩ := setTg_is h2
    refine wpAny_Assign_two ?_ rfl rfl
    refine S sc _ d env _ A s E _ hw he I.viewB hA I.hotb (hE.trans I.base) fun v s₁ k₁ r₁ z0 => ?_
    have N₁ : Next prog w hb ext env sc σ ad s.heap σ ad s₁.heap := .keep I (kx k₁)
    refine set_ok TO h1 hfl h3 N₁.inv hA hE r₁ fun s₂ ad₂ sm₂ N₂ => ?_
    refine set_ok TO h2 hfl h4 N₂.inv hA hE (flat_rep hfl r₁) fun s₃ ad₃ sm₃ N₃ => ?_
    exact hq _ _ (Same.trans (Same.of k₁) (Same.trans sm₂ sm₃)) (N₁.trans I (N₂.trans N₁.inv (Option.some.inj h5 ▸ N₃)))
  · exact none_ne ((if_neg hfl).symm.trans ha)
end
end Mine

end

section
namespace Mine
variable {prog : Program} {w : World}

/-- how a statement ends -/
inductive Post (prog : Program) (w : World) (hb : Heap) (ext : Addr → Prop) (env : Env) (sc : Scope) (σ : St) (ad : Str → List Addr) (s : Shared) : Fl → St → Flow → Shared → Prop
  | next {σ' s' ad'} : Same s s' → Next prog w hb ext env sc σ ad s.heap σ' ad' s'.heap → Post prog w hb ext env sc σ ad s .next σ' .next s'
  | cont {σ' s' ad'} : Same s s' → Next prog w hb ext env sc σ ad s.heap σ' ad' s'.heap → Post prog w hb ext env sc σ ad s .cont σ' .cont s'
  | ret {σ' s' d v} : Same s s' → Ext hb s'.heap → Rep prog w ext s'.heap v d → Post prog w hb ext env sc σ ad s (.ret d) σ' (.ret v) s'

theorem Post.after {hb : Heap} {ext : Addr → Prop} {env : Env} {sc : Scope} {σ σ₁ σ' : St} {ad ad₁ : Str → List Addr} {s s₁ s' : Shared} {fl : Fl} {f : Flow} (I : SInv prog w hb ext env sc σ ad s.heap) (sm : Same s s₁) (N : Next prog w hb ext env sc σ ad s.heap σ₁ ad₁ s₁.heap)
    (P : Post prog w hb ext env sc σ₁ ad₁ s₁ fl σ' f s') : Post prog w hb ext env sc σ ad s fl σ' f s' := by
  cases P with
  | next a b => exact .next (sm.trans a) (N.trans I b)
  | cont a b => exact .cont (sm.trans a) (N.trans I b)
  | ret a b c => exact .ret (sm.trans a) b c

noncomputable def SS (prog : Program) (w : World) (T : Tab) (n : Nat) (h₀ : Heap) (st : Stmt) : Prop :=
  ∀ (sc : Scope) (σ : St) (fl : Fl) (σ' : St) (env : Env) (hb : Heap) (ext : Addr → Prop) (ad : Str → List Addr) (A : Around) (s : Shared) (E : Value → Shared → Prop) (Q : Flow → Shared → Prop), wfS st sc = true → evS T st sc σ = some (fl, σ') →
    SInv prog w hb ext env sc σ ad s.heap → Aok n A → Ext h₀ hb → (∀ f s', Post prog w hb ext env sc σ ad s fl σ' f s' → Q f s') → wpAny (model prog w) A (exec st env) Q E s
noncomputable def SSs (prog : Program) (w : World) (T : Tab) (n : Nat) (h₀ : Heap) (st : List Stmt) : Prop :=
  ∀ (sc : Scope) (σ : St) (fl : Fl) (σ' : St) (env : Env) (hb : Heap) (ext : Addr → Prop) (ad : Str → List Addr) (A : Around) (s : Shared) (E : Value → Shared → Prop) (Q : Flow → Shared → Prop), wfSs st sc = true → evSs T st sc σ = some (fl, σ') →
    SInv prog w hb ext env sc σ ad s.heap → Aok n A → Ext h₀ hb → (∀ f s', Post prog w hb ext env sc σ ad s fl σ' f s' → Q f s') → wpAny (model prog w) A (execs st env) Q E s

section
variable {A : Around} {E : Value → Shared → Prop} {s : Shared} {env : Env} {sc : Scope} {T : Tab} {n : Nat} {h₀ hb h h' h₁ h₂ : Heap} {ext ext' : Addr → Prop} {σ σ₁ σ₂ σ' : St} {ad ad₁ ad₂ : Str → List Addr} {wr : List Addr}

theorem list_ok : ∀ (st : List Stmt), (∀ x ∈ st, SS prog w T n h₀ x) → SSs prog w T n h₀ st
  | [], _ => fun sc σ fl σ' env hb ext ad A s E Q hw he I hA hE hq => by
    rw [evSs_n] at he; cases he
    exact wpAny_execs_nil (hq _ _ (.next (Same.refl s) (.refl I)))
  | x :: r, hS => fun sc σ fl σ' env hb ext ad A s E Q hw he I hA hE hq => by
    rw [wfSs_c, Bool.and_eq_true] at hw
    rw [evSs_c] at he
    simp only [Option.bind_eq_some_iff] at he
    obtain ⟨⟨fl₁, σ₁⟩, h1, h2⟩ := he
    refine wpAny_execs_cons (hS x List.mem_cons_self sc σ fl₁ σ₁ env hb ext ad A s E _ hw.1 h1 I hA hE fun f s₁ P => ?_)
    cases P with
    | next sm N =>
      dsimp only at h2
      exact list_ok r (fun y hy => hS y (List.mem_cons_of_mem _ hy)) sc σ₁ fl σ' env hb ext _ A s₁ E Q hw.2 h2 N.inv hA hE fun f s' P' => hq f s' (P'.after I sm N)
    | cont sm N => cases h2; exact hq _ _ (.cont sm N)
    | ret a b c => cases h2; exact hq _ _ (.ret a b c)

theorem test_ok {t : Expr} {b : Bool} {Q : Bool → Shared → Prop} (TO : TabOk prog w T n h₀) (hw : wfE t sc = true) (he : evT T t sc (allV σ) (evE T t sc (allV σ)) = some b)
    (I : SInv prog w hb ext env sc σ ad s.heap) (hA : Aok n A) (hE : Ext h₀ hb) (hq : ∀ s', Keeps s s' → Q b s') : wpAny (model prog w) A (isTrue t env (eval t env)) Q E s :=
  (all_ok TO trivial (sizeOf t + 1) t (Nat.lt_succ_self _)).2 sc _ b env _ A s E Q hw he I.viewB hA I.hotb (hE.trans I.base) hq

theorem if_ok {t : Expr} {b o : List Stmt} {pos : Pos} (TO : TabOk prog w T n h₀) (hb' : SSs prog w T n h₀ b) (ho : SSs prog w T n h₀ o) : SS prog w T n h₀ (.If t b o pos) := by
  intro sc σ fl σ' env hb ext ad A s E Q hw he I hA hE hq
  rw [wfS_If, Bool.and_eq_true, Bool.and_eq_true] at hw
  rw [evS_If] at he
  simp only [Option.bind_eq_some_iff] at he
  obtain ⟨c, h1, h2⟩ := he
  refine wpAny_If (test_ok TO hw.1.1 h1 I hA hE fun s₁ k₁ => ?_)
  have N : Next prog w hb ext env sc σ ad s.heap σ ad s₁.heap := .keep I (kx k₁)
  cases c with
  | true => exact hb' sc σ fl σ' env hb ext ad A s₁ E Q hw.1.2 h2 N.inv hA hE fun f s' P => hq f s' (P.after I (Same.of k₁) N)
  | false => exact ho sc σ fl σ' env hb ext ad A s₁ E Q hw.2 h2 N.inv hA hE fun f s' P => hq f s' (P.after I (Same.of k₁) N)

theorem while_ok {t : Expr} {b : List Stmt} {pos : Pos} (TO : TabOk prog w T n h₀) (hb' : SSs prog w T n h₀ b) : SS prog w T n h₀ (.While t b [] pos) := by
  intro sc σ fl σ' env hb ext ad A s E Q hw he I hA hE hq
  rw [wfS_Wh, Bool.and_eq_true] at hw
  rw [evS_Wh] at he
  refine wpAny_While (codeAny_whileLoop (fun m s' => ∃ σ₁ ad₁, Same s s' ∧ Next prog w hb ext env sc σ ad s.heap σ₁ ad₁ s'.heap ∧
    whileO (fun σ => evT T t sc (allV σ) (evE T t sc (allV σ))) (fun σ => evSs T b sc σ) m σ₁ = some (fl, σ')) ?_ 100 ⟨σ, ad, Same.refl s, .refl I, he⟩)
  rintro m s₁ ⟨σ₁, ad₁, sm, N, hwh⟩
  cases m with
  | zero => cases hwh
  | succ m =>
    rw [whileO] at hwh
    simp only [Option.bind_eq_some_iff] at hwh
    obtain ⟨c, h1, h2⟩ := hwh
    refine test_ok TO hw.1 h1 N.inv hA hE fun s₂ k₂ => ?_
    have N₂ : Next prog w hb ext env sc σ₁ ad₁ s₁.heap σ₁ ad₁ s₂.heap := .keep N.inv (kx k₂)
    have sm₂ : Same s s₂ := sm.trans (Same.of k₂)
    cases c with
    | false =>
      simp only [Bool.false_eq_true, if_false] at h2 ⊢
      cases h2
      exact wpAny_execs_nil (hq _ _ (.next sm₂ (N.trans I N₂)))
    | true =>
      simp only [if_true, Option.bind_eq_some_iff] at h2 ⊢
      obtain ⟨⟨fl₂, σ₂⟩, h3, h4⟩ := h2
      refine hb' sc σ₁ fl₂ σ₂ env hb ext ad₁ A s₂ _ _ hw.2 h3 N₂.inv hA hE fun f s₃ P => ?_
      cases P with
      | next a N₃ => exact ⟨m, Nat.lt_succ_self m, σ₂, _, sm₂.trans a, (N.trans I (N₂.trans N.inv N₃)), h4⟩
      | cont a N₃ => exact ⟨m, Nat.lt_succ_self m, σ₂, _, sm₂.trans a, (N.trans I (N₂.trans N.inv N₃)), h4⟩
      | ret a b c => cases h4; exact hq _ _ (.ret (sm₂.trans a) b c)

/-! the for loop -/

theorem SInv.inner (I : SInv prog w hb ext env sc σ ad h) (k : Ext h h₂) (hw : ∀ b ∈ wr, h.get? b = none ∧ ∃ o, h₂.get? b = some o) : SInv prog w hb (fun b => ext b ∨ b ∈ wr) env sc σ ad h₂ := by
  have J := I.keeps k
  have q : ∀ b, hotOf env (fun b => ext b ∨ b ∈ wr) σ ad b → hotOf env ext σ ad b ∨ b ∈ wr := fun b z => by
    rcases z with z | z | z | z
    · exact .inl (.inl z)
    · exact .inl (.inr (.inl z))
    · exact .inl (.inr (.inr z))
    · exact .inr z
  refine ⟨I.scp, I.ok, J.fm, I.nod, fun x t hx => ?_, I.adn, I.apart, fun x t b hx hm => ?_, J.live, fun b e => ?_, I.fb, J.base, .inl I.sysm⟩
  · obtain ⟨v, a, s⟩ := I.at x t hx
    exact ⟨v, a.keeps k, s.step (fun a o nb g => ⟨fun z => (q a z).elim nb fun z => (by rw [(hw a z).1] at g; cases g), k a o g⟩) fun b z0 o g => k b o g⟩
  · obtain ⟨f1, f2, f3⟩ := I.free x t b hx hm
    refine ⟨f1, fun z => z.elim f2 fun z => ?_, f3⟩
    obtain ⟨v, a, s⟩ := I.at x t hx
    obtain ⟨o, g⟩ := s.live b hm
    rw [(hw b z).1] at g; cases g
  · exact e.elim (J.elive b) fun z => (hw b z).2

theorem SInv.stepw (I : SInv prog w hb ext' env sc σ ad h) (k : ∀ b o, b ∉ wr → h.get? b = some o → h'.get? b = some o) (hw : ∀ b ∈ wr, ext' b) (np : ∀ b ∈ wr, ¬ PA env b) (hwb : ∀ b ∈ wr, hb.get? b = none)
    (sub : ∀ b, ext b → ext' b) (he : ∀ b, ext b → ∃ o, h'.get? b = some o) (hs : ext sysModules) : SInv prog w hb ext env sc σ ad h' := by
  have q : ∀ b, hotOf env ext σ ad b → hotOf env ext' σ ad b := fun b z => z.imp id (Or.imp id (sub b))
  have kP : ∀ b o, PA env b → h.get? b = some o → h'.get? b = some o := fun b o p g => k b o (fun z => np b z p) g
  refine ⟨I.scp, I.ok, I.fm.keeps fun b o p g => kP b o (I.fm.pa p) g, I.nod, fun x t hx => ?_, I.adn, I.apart, fun x t b hx hm => ?_, fun b p => ?_, he, I.fb, fun b o g => ?_, hs⟩
  · obtain ⟨v, a, s⟩ := I.at x t hx
    exact ⟨v, a.keepsP kP, s.step (fun a o nb g => ⟨fun z => nb (q a z), k a o (fun z => nb (.inr (.inr (hw a z)))) g⟩) fun b hm o g => k b o (fun z => (I.free x t b hx hm).2.1 (hw b z)) g⟩
  · obtain ⟨f1, f2, f3⟩ := I.free x t b hx hm
    exact ⟨f1, fun z => f2 (sub b z), f3⟩
  · obtain ⟨o, g⟩ := I.live b p; exact ⟨o, kP b o p g⟩
  · exact k b o (fun z => by rw [hwb b z] at g; cases g) (I.base b o g)

structure LN (prog : Program) (w : World) (hb : Heap) (ext' : Addr → Prop) (env : Env) (sc : Scope) (wr : List Addr) (σ : St) (ad : Str → List Addr) (h : Heap) (σ' : St) (ad' : Str → List Addr) (h' : Heap) : Prop where
  inv : SInv prog w hb ext' env sc σ' ad' h'
  eff : ∀ b o, ¬ PA env b → ¬ asP σ ad b → b ∉ wr → h.get? b = some o → h'.get? b = some o
  sub : ∀ b, asP σ' ad' b → asP σ ad b ∨ h.get? b = none

theorem LN.next (hw : ∀ b ∈ wr, ext' b) (L : LN prog w hb ext' env sc wr σ ad h σ₁ ad₁ h₁) (N : Next prog w hb ext' env sc σ₁ ad₁ h₁ σ₂ ad₂ h₂) : LN prog w hb ext' env sc wr σ ad h σ₂ ad₂ h₂ := by
  refine ⟨N.inv, fun b o p na nw g => N.eff b o p (fun z => ?_) (L.eff b o p na nw g), fun b z => ?_⟩
  · rcases L.sub b z with z | z
    · exact na z
    · rw [z] at g; cases g
  · rcases N.sub b z with z | z
    · exact L.sub b z
    · by_cases q : asP σ ad b
      · exact .inl q
      · refine .inr ?_
        cases e : h.get? b with
        | none => rfl
        | some o =>
          by_cases p : PA env b
          · obtain ⟨o', g'⟩ := L.inv.live b p; rw [z] at g'; cases g'
          · by_cases nw : b ∈ wr
            · obtain ⟨o', g'⟩ := L.inv.elive b (hw b nw); rw [z] at g'; cases g'
            · rw [L.eff b o p q nw e] at z; cases z
theorem LN.step (hw : ∀ b ∈ wr, ext' b) (np : ∀ b ∈ wr, ¬ PA env b) (hwb : ∀ b ∈ wr, hb.get? b = none) (L : LN prog w hb ext' env sc wr σ ad h σ₁ ad₁ h₁) (k : ∀ b o, b ∉ wr → h₁.get? b = some o → h₂.get? b = some o) (lv : ∀ b ∈ wr, ∃ o, h₂.get? b = some o) :
    LN prog w hb ext' env sc wr σ ad h σ₁ ad₁ h₂ :=
  ⟨L.inv.stepw k hw np hwb (fun z0 z => z) (fun b e => by
    by_cases z : b ∈ wr
    · exact lv b z
    · obtain ⟨o, g⟩ := L.inv.elive b e; exact ⟨o, k b o z g⟩) L.inv.sysm, fun b o p na nw g => k b o nw (L.eff b o p na nw g), L.sub⟩
/-- the end of the loop -/
theorem LN.done (I : SInv prog w hb ext env sc σ ad h) (kh : Ext h h₁) (hwr : ∀ b ∈ wr, h.get? b = none) (sub : ∀ b, ext b → ext' b) (hw : ∀ b ∈ wr, ext' b) (np : ∀ b ∈ wr, ¬ PA env b) (hwb : ∀ b ∈ wr, hb.get? b = none)
    (L : LN prog w hb ext' env sc wr σ ad h₁ σ₁ ad₁ h₂) (k : ∀ b o, b ∉ wr → h₂.get? b = some o → h'.get? b = some o) : Next prog w hb ext env sc σ ad h σ₁ ad₁ h' := by
  refine ⟨L.inv.stepw k hw np hwb sub (fun b e => ?_) I.sysm, fun b o p na g => ?_, fun b z => ?_⟩
  · obtain ⟨o, g⟩ := L.inv.elive b (sub b e)
    exact ⟨o, k b o (fun z => by obtain ⟨o', g'⟩ := I.elive b e; rw [hwr b z] at g'; cases g') g⟩
  · have nw : b ∉ wr := fun z => by rw [hwr b z] at g; cases g
    exact k b o nw (L.eff b o p na nw (kh b o g))
  · rcases L.sub b z with z | z
    · exact .inl z
    · refine .inr ?_
      cases e : h.get? b with
      | none => rfl
      | some o => rw [kh b o e] at z; cases z
end
end Mine

end

section
namespace Mine
variable {prog : Program} {w : World}
section
variable {A : Around} {E : Value → Shared → Prop} {s : Shared} {env : Env} {sc : Scope} {T : Tab} {n : Nat} {h₀ hb h h' h₁ h₂ : Heap} {ext ext' : Addr → Prop} {σ σ₁ σ₂ σ' : St} {ad ad₁ ad₂ : Str → List Addr} {wr : List Addr}

theorem evV_not_set {e : Expr} {r : D × St} (h : evV T e sc σ = some r) : ∀ es k p, e ≠ .Set es k p := by
  obtain ⟨d, σ'⟩ := r
  cases evV_is h with
  | cold he => exact not_set he
  | flat he _ => exact not_set he
  | frz he => exact not_set he

theorem for_any {tg it : Expr} {b : List Stmt} {pos : Pos} {d : D} {items : List D} (TO : TabOk prog w T n h₀) (hwt : plainTg sc tg = true) (hwi : wfE it sc = true) (hv : evV T it sc σ = some (d, σ₁)) (hit : iterD d = some items)
    (P : Nat → St → Prop) (R : D → St → Prop) (hP : P 0 σ₁) (I : SInv prog w hb ext env sc σ ad s.heap) (hA : Aok n A) (hE : Ext h₀ hb) {Q : Flow → Shared → Prop}
    (turn : ∀ i d σᵢ, items[i]? = some d → P i σᵢ → ∃ σ₂, bindS tg d σᵢ = some σ₂ ∧ ∀ (ext' : Addr → Prop) (ad₂ : Str → List Addr) (s₄ : Shared) (Q' : Flow → Shared → Prop), SInv prog w hb ext' env sc σ₂ ad₂ s₄.heap → Same s s₄ →
      (∀ f s₅ fl σ₃, Post prog w hb ext' env sc σ₂ ad₂ s₄ fl σ₃ f s₅ → (match fl with | .ret d => R d σ₃ | _ => P (i + 1) σ₃) → Q' f s₅) → wpAny (model prog w) A (execs b env) Q' (notedBy (model prog w) A env (cameBackBy (model prog w) A env E)) s₄)
    (hret : ∀ d σ' f s', Post prog w hb ext env sc σ ad s (.ret d) σ' f s' → R d σ' → Q f s')
    (hq : ∀ s' σ' ad', Same s s' → Next prog w hb ext env sc σ ad s.heap σ' ad' s'.heap → P items.length σ' → Q .next s') :
    wpAny (model prog w) A (exec (.For tg it b [] pos) env) Q E s := by
  refine wpAny_For ?_ (folded_ok (evV_not_set hv))
  refine evV_ok TO hwi hv I hA hE fun v s₁ ad₁ k₁ N₁ r₁ => ?_
  have I₁ := N₁.inv
  refine iter_ok (tg := tg) hit hA.handled r₁ fun It wr h₂ tk ⟨hwr, k₂, St, hst, itr⟩ => ?_
  generalize hext' : (fun b => ext b ∨ b ∈ wr) = ext'
  have hsub : ∀ b, ext b → ext' b := fun b e => by rw [← hext']; exact .inl e
  have hwx : ∀ b ∈ wr, ext' b := fun b z => by rw [← hext']; exact .inr z
  have hext : ∀ b, ext' b → ext b ∨ b ∈ wr := fun b z => by rw [← hext'] at z; exact z
  have np : ∀ b ∈ wr, ¬ PA env b := fun b z p => by obtain ⟨o, g⟩ := I₁.live b p; rw [(hwr b z).1] at g; cases g
  have hwb' : ∀ b ∈ wr, hb.get? b = none := fun b z => by
    cases g : hb.get? b with
    | none => rfl
    | some o => have := I₁.base b o g; rw [(hwr b z).1] at this; cases this
  have J₂ : SInv prog w hb ext' env sc σ₁ ad₁ h₂ := by rw [← hext']; exact I₁.inner k₂ hwr
  refine codeAny_forLoop_any (fun m s' => ∃ i σᵢ adᵢ, m + i = items.length ∧ P i σᵢ ∧
    LN prog w hb ext' env sc wr σ₁ ad₁ h₂ σᵢ adᵢ s'.heap ∧ St i s'.heap ∧ Same s s') ?_ items.length ⟨0, σ₁, ad₁, by simp, hP, ⟨J₂, fun z0 z0 z0 z0 z0 g => g, fun z0 z => .inl z⟩, hst, (Same.of k₁).trans ⟨_, _, rfl⟩⟩
  rintro m s₃ ⟨i, σᵢ, adᵢ, hmi, hf, L, hsti, sm⟩
  have hHE : HotExt (hotOf env ext σ₁ ad₁) (hotOf env ext' σᵢ adᵢ) s₁.heap := fun x o z g => by
    rcases z with z | z | z
    · rcases L.sub x z with z | z
      · exact .inl z
      · rw [k₂ x o g] at z; cases z
    · exact .inr (.inl z)
    · rcases hext x z with z | z
      · exact .inr (.inr z)
      · rw [(hwr x z).1] at g; cases g
  have itri := itr (hotOf env ext' σᵢ adᵢ) hHE fun x z => .inr (.inr (hwx x z))
  cases m with
  | zero =>
    have hi : i = items.length := by lia
    subst hi
    refine itri.done s₃ _ _ hsti fun h' tk k => wpAny_execs_nil (hq _ _ _ (sm.trans ⟨_, _, rfl⟩) (N₁.trans I (L.done (h' := h') I₁ k₂ (fun b z => (hwr b z).1) hsub hwx np hwb' k)) hf)
  | succ m =>
    have hi : i < items.length := by lia
    have hd : items[i]? = some items[i] := List.getElem?_eq_getElem hi
    obtain ⟨σ₂, hbind, hbody⟩ := turn i _ σᵢ hd hf
    refine itri.turn i _ (K := fun v s₁' => wpAny (model prog w) A (assign tg env v) (fun z0 s₂ => wpAny (model prog w) A (execs b env) _ _ s₂) _ s₁') (fun v s₁' q => q) hd hsti L.inv.hot fun v h' tk rv hst' kk lv => ?_
    have L' : LN prog w hb ext' env sc wr σ₁ ad₁ h₂ σᵢ adᵢ h' := L.step hwx np hwb' kk lv
    refine bindS_ok (s := { s₃ with heap := h', toks := tk }) hA hwt hbind L'.inv rv fun s₄ ad₄ sm₄ N₄ => ?_
    have sm₅ : Same s s₄ := sm.trans (Same.trans ⟨_, _, rfl⟩ sm₄)
    refine hbody ext' ad₄ s₄ _ N₄.inv sm₅ fun f s₅ fl σ₃ P' hP3 => ?_
    cases P' with
    | next a N₅ =>
      have N₄₅ := N₄.trans L'.inv N₅
      refine ⟨m, Nat.lt_succ_self m, i + 1, σ₃, _, by lia, hP3, L'.next hwx N₄₅, itri.frame (i + 1) h' s₅.heap hst' fun x o z g => ?_, sm₅.trans a⟩
      rcases z with z | z
      · exact N₄₅.eff x o (fun p => z (.inr (.inl p))) (fun p => z (.inl p)) g
      · exact N₄₅.eff x o (np x z) (fun ⟨y, t, hy, hm⟩ => (L'.inv.free y t x hy hm).2.1 (hwx x z)) g
    | cont a N₅ =>
      have N₄₅ := N₄.trans L'.inv N₅
      refine ⟨m, Nat.lt_succ_self m, i + 1, σ₃, _, by lia, hP3, L'.next hwx N₄₅, itri.frame (i + 1) h' s₅.heap hst' fun x o z g => ?_, sm₅.trans a⟩
      rcases z with z | z
      · exact N₄₅.eff x o (fun p => z (.inr (.inl p))) (fun p => z (.inl p)) g
      · exact N₄₅.eff x o (np x z) (fun ⟨y, t, hy, hm⟩ => (L'.inv.free y t x hy hm).2.1 (hwx x z)) g
    | ret a c d => exact hret _ _ _ _ (.ret (sm₅.trans a) c (d.mono fun a o nb g => ⟨fun z => nb (hsub a z), g⟩)) hP3

theorem for_ok {tg it : Expr} {b : List Stmt} {pos : Pos} (TO : TabOk prog w T n h₀) (hbs : SSs prog w T n h₀ b) : SS prog w T n h₀ (.For tg it b [] pos) := by
  intro sc σ fl σ' env hb ext ad A s E Q hw he I hA hE hq
  rw [wfS_For, Bool.and_eq_true, Bool.and_eq_true, Bool.and_eq_true] at hw
  obtain ⟨⟨⟨hwt, hwi⟩, hwe⟩, hwb⟩ := hw
  rw [evS_For] at he
  simp only [Option.bind_eq_some_iff] at he
  obtain ⟨⟨d, σ₁⟩, hv, items, hit, hfo⟩ := he
  refine for_any TO hwt hwi hv hit (fun i σᵢ => forO (fun d σ => (bindS tg d σ).bind fun σ' => evSs T b sc σ') (items.drop i) σᵢ = some (fl, σ')) (fun d σ₃ => (fl, σ') = (.ret d, σ₃)) (by simpa using hfo) I hA hE (fun i d σᵢ hd hf => ?_)
    (fun d σ₃ f s' P h => by cases h; exact hq _ _ P) fun s' σ₃ ad' sm N h => ?_
  · obtain ⟨hi, rfl⟩ := List.getElem?_eq_some_iff.mp hd
    rw [List.drop_eq_getElem_cons hi, forO] at hf
    obtain ⟨⟨fl₂, σ₃⟩, hx, hrest⟩ := Option.bind_eq_some_iff.mp hf
    obtain ⟨σ₂, hbind, hbody⟩ := Option.bind_eq_some_iff.mp hx
    refine ⟨σ₂, hbind, fun ext' ad₂ s₄ Q' J sm k => hbs sc σ₂ fl₂ σ₃ env hb ext' ad₂ A s₄ _ _ hwb hbody J hA hE fun f s₅ P => k f s₅ fl₂ σ₃ P ?_⟩
    cases fl₂ with
    | ret d => cases hrest; rfl
    | next => exact hrest
    | cont => exact hrest
  · rw [List.drop_length, forO] at h
    cases h
    exact hq _ _ (.next sm N)

theorem try_ok {b : List Stmt} {hs : List ExceptHandler} {pos : Pos} (hbs : SSs prog w T n h₀ b) : SS prog w T n h₀ (.Try b hs [] [] pos) := by
  intro sc σ fl σ' env hb ext ad A s E Q hw he I hA hE hq
  rw [wfS_Try] at hw
  rw [evS_Try] at he
  rw [arm_exec_Try]
  refine wpAny_bind (wpAny_standAt ?_)
  unfold tryStmt
  simp only [List.isEmpty_nil, if_true]
  refine wpAny_bind ?_
  refine wpAny_attempt (hbs sc σ fl σ' env hb ext ad A s _ _ hw he I hA hE fun f s' P => ?_)
  cases P with
  | next a b => exact wpAny_execs_nil (hq _ _ (.next a b))
  | cont a b => exact wpAny_pure (hq _ _ (.cont a b))
  | ret a b c => exact wpAny_pure (hq _ _ (.ret a b c))

theorem nd_of {v : Expr} (h : (!(match v with | .DictComp _ _ _ _ _ => true | _ => false)) = true) : isDictComp v = false := by
  cases v <;> first | rfl | exact false_ne h
theorem plainTg_is {sc : Scope} {t : Expr} (h : plainTg sc t = true) : (∃ x p, t = .Name x p) ∨ ∃ es k p, t = .Tuple es k p := by
  cases t with
  | Name x p => exact .inl ⟨x, p, rfl⟩
  | Tuple es k p => exact .inr ⟨es, k, p, rfl⟩
  | _ => exact false_ne h
theorem expr_ok (TO : TabOk prog w T n h₀) {e : Expr} {pos : Pos} : SS prog w T n h₀ (.Expr e pos) := by
  intro sc σ fl σ' env hb ext ad A s E Q hw he I hA hE hq
  rw [evS_E] at he
  simp only [Option.bind_eq_some_iff] at he
  obtain ⟨σ₁, h1, he⟩ := he
  cases he
  have fin : ∀ s' ad', Same s s' → Next prog w hb ext env sc σ ad s.heap σ' ad' s'.heap → Q .next s' := fun s' ad' sm N => hq _ _ (.next sm N)
  obtain ⟨⟨o, nm, args⟩, hm, h1⟩ := Option.bind_eq_some_iff.mp (show (methX e).bind _ = _ from h1)
  obtain ⟨p1, p2, rfl⟩ := methX_is hm
  cases args with
  | nil =>
    replace h1 := ite_oo h1
    obtain ⟨hn, h1⟩ := h1
    replace hn : nm = Str.ofString "pop" := hn
    subst hn
    simp only [wfS_Ex, Bool.and_eq_true, wfEach_c, wfEach_n] at hw
    exact pop_ok hw.1.1.2 hw.1.2 h1 I fin
  | cons e r =>
    replace h1 := ite_oo h1
    obtain ⟨hn, h1⟩ := h1
    replace hn : nm = Str.ofString "append" ∧ r.isEmpty = true := hn
    obtain ⟨hn, hr⟩ := hn
    subst hn
    cases List.isEmpty_iff.mp hr
    simp only [wfS_Ex, Bool.and_eq_true, wfEach_c, wfEach_n] at hw
    exact append_ok TO hw.1.1.2 hw.1.2 hw.2.1 h1 I hA hE fin
theorem asg_ok (TO : TabOk prog w T n h₀) {ts : List Expr} {v : Expr} {pos : Pos} : SS prog w T n h₀ (.Assign ts v pos) := by
  intro sc σ fl σ' env hb ext ad A s E Q hw he I hA hE hq
  rw [evS_As] at he
  replace he := Option.bind_eq_some_iff.mp he
  obtain ⟨σ₁, h1, he⟩ := he
  cases he
  have fin : ∀ s' ad', Same s s' → Next prog w hb ext env sc σ ad s.heap σ' ad' s'.heap → Q .next s' := fun s' ad' sm N => hq _ _ (.next sm N)
  rw [wfS_As, Bool.and_eq_true, Bool.and_eq_true, Bool.and_eq_true] at hw
  obtain ⟨⟨⟨hwv, hwt⟩, hwp⟩, hnd⟩ := hw
  match ts, h1, hwt, hwp with
  | [], _, hwt, _ => exact false_ne hwt
  | [t], h1, hwt, hwp =>
    rcases plainTg_is hwt with ⟨x, xp, h3⟩ | ⟨es, k, p, h3⟩
    · subst h3
      exact assign_name_ok TO (nd_of hnd) hwv (can_of I.ok I.scp hwt) h1 I hA hE fin
    · subst h3
      refine assign_tuple_ok TO hwv hwt (fun vs k' p' q => ?_) h1 I hA hE fin
      subst q
      have : (!vs.all (constantsAlone 8) && decide ((targetsOf (.Tuple es k p)).Nodup)) = true := hwp
      rw [Bool.and_eq_true, Bool.not_eq_true', decide_eq_true_eq] at this
      exact this
  | [t, u], h1, hwt, hwp =>
    have h2 : (setTg sc t && setTg sc u && !isComp v) = true := hwt
    rw [Bool.and_eq_true, Bool.and_eq_true] at h2
    exact assign_two_ok TO h2.1.1 h2.1.2 hwv h1 I hA hE fin
  | _ :: _ :: _ :: _, _, hwt, _ => exact false_ne hwt
theorem ss_none {st : Stmt} (h : ∀ sc σ, evS T st sc σ = none) : SS prog w T n h₀ st := fun sc σ fl σ' env hb ext ad A s E Q hw he => by
  rw [h] at he; cases he
theorem all_stmts (TO : TabOk prog w T n h₀) : ∀ (m : Nat) (st : Stmt), sizeOf st < m → SS prog w T n h₀ st
  | 0, _, h => absurd h (Nat.not_lt_zero _)
  | m + 1, st, h => by
    have ih := all_stmts TO m
    have ihs : ∀ (b : List Stmt), sizeOf b < sizeOf st → SSs prog w T n h₀ b := fun b hl => list_ok b fun x hx => ih x (by
      have := List.sizeOf_lt_of_mem hx; lia)
    cases st with
    | If t b o pos => exact if_ok TO (ihs b (by simp; lia)) (ihs o (by simp; lia))
    | While t b o pos =>
      cases o with
      | nil => exact while_ok TO (ihs b (by simp; lia))
      | cons _ _ => exact ss_none fun z0 z0 => rfl
    | For t it b o pos =>
      cases o with
      | nil => exact for_ok TO (ihs b (by simp; lia))
      | cons _ _ => exact ss_none fun z0 z0 => rfl
    | Try b hs o f pos =>
      cases o with
      | nil =>
        cases f with
        | nil => exact try_ok (ihs b (by simp; lia))
        | cons _ _ => exact ss_none fun z0 z0 => rfl
      | cons _ _ => exact ss_none fun z0 z0 => rfl
    | Pass pos =>
      intro sc σ fl σ' env hb ext ad A s E Q hw he I hA hE hq
      cases he
      exact wpAny_Pass (hq _ _ (.next (Same.refl s) (.refl I)))
    | Continue pos =>
      intro sc σ fl σ' env hb ext ad A s E Q hw he I hA hE hq
      cases he
      exact wpAny_Continue (hq _ _ (.cont (Same.refl s) (.refl I)))
    | Return e pos =>
      cases e with
      | none => exact ss_none fun z0 z0 => rfl
      | some e =>
        intro sc σ fl σ' env hb ext ad A s E Q hw he I hA hE hq
        rw [wfS_Ret] at hw
        rw [evS_Ret] at he
        simp only [Option.bind_eq_some_iff] at he
        obtain ⟨d, hd, he⟩ := he
        cases he
        refine wpAny_Return_some ((all_ok TO trivial (sizeOf e + 1) e (Nat.lt_succ_self _)).1 sc _ d env _ A s E _ hw hd I.viewB hA I.hotb (hE.trans I.base) fun v s₁ k₁ r₁ z0 => ?_)
        exact hq _ _ (.ret (Same.of k₁) (I.base.trans (kx k₁)) (r₁.mono fun a o nb g => ⟨fun z => nb (.inr z), g⟩))
    | Assert t msg pos =>
      intro sc σ fl σ' env hb ext ad A s E Q hw he I hA hE hq
      rw [wfS_At] at hw
      rw [evS_At] at he
      simp only [Option.bind_eq_some_iff] at he
      obtain ⟨c, h1, he⟩ := he
      cases c with
      | false => cases he
      | true =>
        cases he
        exact wpAny_Assert_holds (test_ok TO hw h1 I hA hE fun s₁ k₁ => ⟨rfl, hq _ _ (.next (Same.of k₁) (.keep I (kx k₁)))⟩)
    | AugAssign t op v pos =>
      cases t with
      | Name x xp =>
        intro sc σ fl σ' env hb ext ad A s E Q hw he I hA hE hq
        rw [wfS_Aug, Bool.and_eq_true] at hw
        rw [evS_Aug] at he
        simp only [Option.bind_eq_some_iff] at he
        obtain ⟨σ₁, h1, he⟩ := he
        cases he
        exact aug_ok TO hw.1 hw.2 h1 I hA hE fun s' ad' sm N => hq _ _ (.next sm N)
      | _ => exact ss_none fun z0 z0 => rfl
    | Expr e pos => exact expr_ok TO
    | Assign ts v pos => exact asg_ok TO
    | _ => exact ss_none fun z0 z0 => rfl

theorem all_block (TO : TabOk prog w T n h₀) (b : List Stmt) : SSs prog w T n h₀ b := list_ok b fun x z0 => all_stmts TO (sizeOf x + 1) x (Nat.lt_succ_self _)
end
end Mine

end

section
namespace Mine
variable {prog : Program} {w : World}

inductive BindReps (prog : Program) (w : World) (hot : Addr → Prop) (h : Heap) : List (Str × Value) → St → Prop
  | nil : BindReps prog w hot h [] []
  | cons {x v d r r'} : Rep prog w hot h v d → BindReps prog w hot h r r' → BindReps prog w hot h ((x, v) :: r) ((x, .cold d) :: r')

noncomputable def BindOk (prog : Program) (w : World) (h₀ : Heap) (fd : FuncData) (B : List D → List (Str × D) → Option St) : Prop :=
  ∀ (A : Around) (s : Shared) (E : Value → Shared → Prop) (Q : List (Str × Value) → Shared → Prop) (hot : Addr → Prop) (vs : List Value) (ds : List D) (kvs : List (Str × Value)) (kds : List (Str × D)) (σ₀ : St),
    A.handled = none → Ext h₀ s.heap → HotIn hot s.heap → Reps prog w hot s.heap vs ds → KwReps prog w hot s.heap kvs kds → B ds kds = some σ₀ →
    (∀ binds s₁, Keeps s s₁ → BindReps prog w hot s₁.heap binds σ₀ → Q binds s₁) → wpAny (model prog w) A (bindArgs fd ⟨vs, kvs⟩) Q E s

theorem BindReps.names {hot : Addr → Prop} {h : Heap} {bs : List (Str × Value)} {σ : St} (r : BindReps prog w hot h bs σ) : bs.map (·.1) = σ.map (·.1) := by
  induction r with
  | nil => rfl
  | cons _ _ ih => simp [ih]
theorem BindReps.at {hot : Addr → Prop} {h : Heap} {bs : List (Str × Value)} {σ : St} (r : BindReps prog w hot h bs σ) {x : Str} {t : Slt} (hx : σ.lookup x = some t) : ∃ v d, bs.lookup x = some v ∧ t = .cold d ∧ Rep prog w hot h v d := by
  induction r with
  | nil => cases hx
  | @cons y v d r r' a b ih =>
    rw [List.lookup_cons] at hx ⊢
    cases hb : x == y with
    | true => rw [hb] at hx; cases hx; exact ⟨v, d, rfl, rfl, a⟩
    | false => rw [hb] at hx; exact ih hx

theorem bindL_at (kindOf : Str → Option NameKind) : ∀ (bs : List (Str × Value)) (m : Str → Option Value) (x : Str), (bs.map (·.1)).Nodup → kindOf x = some .local → bindL kindOf bs m x = match bs.lookup x with | some v => some v | none => m x
  | [], _, _, _, _ => rfl
  | (y, v) :: r, m, x, hn, hk => by
    rw [List.map_cons, List.nodup_cons] at hn
    rw [bindL, bindL_at kindOf r _ x hn.2 hk, List.lookup_cons]
    by_cases q : x = y
    · subst q
      have : r.lookup x = none := lookup_none_of fun c hc => hn.1 (List.mem_map.mpr ⟨_, hc, rfl⟩)
      rw [this]; simp [hk]
    · have e : (x == y) = false := by simpa using q
      rw [e]
      cases r.lookup x with
      | some u => rfl
      | none => dsimp only; split <;> simp [q]
theorem bindC_at (kindOf : Str → Option NameKind) : ∀ (bs : List (Str × Value)) (m : Str → Option Value) (x : Str), (bs.map (·.1)).Nodup → kindOf x ≠ some .local → bindC kindOf bs m x = match bs.lookup x with | some v => some v | none => m x
  | [], _, _, _, _ => rfl
  | (y, v) :: r, m, x, hn, hk => by
    rw [List.map_cons, List.nodup_cons] at hn
    rw [bindC, bindC_at kindOf r _ x hn.2 hk, List.lookup_cons]
    by_cases q : x = y
    · subst q
      have : r.lookup x = none := lookup_none_of fun c hc => hn.1 (List.mem_map.mpr ⟨_, hc, rfl⟩)
      rw [this]; simp [hk]
    · have e : (x == y) = false := by simpa using q
      rw [e]
      cases r.lookup x with
      | some u => rfl
      | none => dsimp only; split <;> simp [q]

/-- what a body of a def needs of its scope -/
noncomputable def scopeDef (sc : Scope) (names : List Str) : Bool :=
  decide (sc.kind = .function) && decide (names.Nodup) && sc.names.all (fun p => !(p.2 == .free)) && names.all fun x => storable (sc.names.lookup x)

theorem cells_kindOf {sc : Scope} {L : Addr} {g : Addr} {cells : List (Str × Addr)} {q : Str} {f : Option Addr} {c : Value} {b : Addr} (x : Str) : (newEnv sc L g cells q f c none b).kindOf x = sc.names.lookup x := rfl

section
variable {T : Tab} {n : Nat} {h₀ : Heap}

/-- into the body of a def -/
theorem fn_enter {A : Around} {E : Value → Shared → Prop} {s : Shared} {a : Addr} {o : Obj} {fd : FuncData} {body : List Stmt} {B : List D → List (Str × D) → Option St} {names : List Str} {Q : Value → Shared → Prop}
    (ho : h₀.get? a = some o) (hd : o.data = .func fd) (hbody : fd.body = .stmts body) (hclo : fd.closure = []) (hglb : fd.globals = mainGlobals) (hblt : fd.builtins = builtinsNs)
    (hcd : h₀.CodeRec fd.code fd.qualname) (hlim : h₀.NoLimit) (hco : fd.scope.isCoroutine = false) (hgen : fd.scope.isGenerator = false)
    (hsc : scopeDef fd.scope names = true) (hB : BindOk prog w h₀ fd B) (hnm : ∀ ds kds σ, B ds kds = some σ → σ.map (·.1) = names)
    {hot : Addr → Prop} {vs : List Value} {ds : List D} {kvs : List (Str × Value)} {kds : List (Str × D)} {σ₀ : St} (hA : Aok (n + 1) A) (hE : Ext h₀ s.heap) (H : HotIn hot s.heap) (hsys : hot sysModules)
    (hr : Reps prog w hot s.heap vs ds) (hkr : KwReps prog w hot s.heap kvs kds) (hb0 : B ds kds = some σ₀)
    (k : ∀ env s₁ s₂ (Q₂ : Flow → Shared → Prop) (E₂ : Value → Shared → Prop), Keeps s s₁ → env.frame = some env.locals → env.scope.kind = .function → SInv prog w s₁.heap hot env fd.scope σ₀ (fun z0 => []) s₂.heap → Same s₁ s₂ →
      (∀ v s', Q v s' → Q₂ (.ret v) s') → (∀ s', Q .none s' → Q₂ .next s') → wpAny (model prog w) (A.deeper env) (execs body env) Q₂ E₂ s₂) :
    wpAny (model prog w) A (call (.ref a) vs kvs) Q E s := by
  unfold scopeDef at hsc
  simp only [Bool.and_eq_true, decide_eq_true_eq, List.all_eq_true, Bool.not_eq_true'] at hsc
  obtain ⟨⟨⟨hk, hnd⟩, hnf⟩, hst⟩ := hsc
  have hcd' : s.heap.CodeRec fd.code fd.qualname := hcd.keeps hE
  refine wpAny_call (codeAny_call_function hA.room (hE _ _ ho) hd hco hgen hbody hcd' ?_)
  refine hB A.in1 s _ _ hot vs ds kvs kds σ₀ hA.handled hE H hr hkr hb0 fun binds s₁ k₁ br => ?_
  have hE₁ : Ext h₀ s₁.heap := hE.trans (kx k₁)
  have hnames := br.names
  rw [hnm _ _ _ hb0] at hnames
  have hndb : (binds.map (·.1)).Nodup := by rw [hnames]; exact hnd
  rw [hclo]
  have hkind : ∀ x ∈ binds, fd.scope.names.lookup x.1 = some .local ∨ (fd.scope.names.lookup x.1 = some .cell ∧ ((cellsFrom (s₁.heap.objs.size + 1) fd.scope.names []).lookup x.1).isSome = true) := fun x hx => by
    have := hst x.1 (by rw [← hnames]; exact List.mem_map.mpr ⟨x, hx, rfl⟩)
    rcases is_or this with e | e
    · exact .inr ⟨e, cellsFrom_some (mem_of_lookup e)⟩
    · exact .inl e
  refine wpAny_newFunctionEnv_cells hk hkind fun env he s₂ X => ?_
  obtain ⟨h₂, tk₂, hs₂, kp₂⟩ := X.done
  have kp : Ext s₁.heap s₂.heap := X.toInCall.keep
  refine ⟨hlim.keeps (hE₁.trans kp), codeAny_func ?_⟩
  have hkd : ∀ x, env.kindOf x = fd.scope.names.lookup x := fun x => by rw [he]; rfl
  have hloc : env.locals = s₁.heap.objs.size := by rw [he]; rfl
  have hcel : env.cells = cellsFrom (s₁.heap.objs.size + 1) fd.scope.names [] := by rw [he]; rfl
  have hscp : env.scope = fd.scope := by rw [he]; rfl
  have hfrm : env.frame = some env.locals := by rw [he]; rfl
  have O : EnvOk env fd.scope := by
    refine ⟨by rw [hscp]; exact hk, by rw [he]; exact hglb, by rw [he]; exact hblt, fun x => ?_⟩
    unfold KindOk
    split
    · rename_i e; rw [hkd]; exact e
    · rename_i e
      refine ⟨.inl (by rw [hkd]; exact e), ?_⟩
      rw [hcel]
      exact Option.isSome_iff_exists.mp (cellsFrom_some (mem_of_lookup e))
    · rename_i e
      have := hnf _ (mem_of_lookup e)
      cases this
    · rename_i e; rw [hkd]; exact e
    · trivial
  have hPA : ∀ b, PA env b → s₁.heap.get? b = none := fun b p => by
    rcases p with p | ⟨x, p⟩
    · rw [p, hloc]; exact isSome_none (Nat.le_refl _)
    · have := X.above x b (mem_of_lookup p)
      rw [hloc] at this
      exact isSome_none (Nat.le_of_lt this)
  have hot0 : ∀ b, hotOf env hot σ₀ (fun z0 => []) b → PA env b ∨ hot b := fun b z => by
    rcases z with ⟨_, _, _, z⟩ | z
    · cases z
    · exact z
  have I : SInv prog w s₁.heap hot env fd.scope σ₀ (fun z0 => []) s₂.heap := by
    refine ⟨hscp, O, ⟨⟨_, X.toInCall.ns⟩, fun n c hc => ⟨_, X.cell n c hc⟩, fun y c hc => ⟨fun e => ?_, fun x hx => ?_⟩, fun z0 z0 h => h⟩, by rw [hnm _ _ _ hb0]; exact hnd, fun x t hx => ?_, fun z0 z0 z0 => List.nodup_nil, fun z0 z0 z0 z0 z0 z0 z0 z0 z => (by cases z),
      fun z0 z0 z0 z0 z => (by cases z), fun b p => ?_, fun b e => ?_, hPA, kp, hsys⟩
    · have := X.above y c (mem_of_lookup hc)
      rw [e] at this
      exact Nat.lt_irrefl _ this
    · exact name_of_addr X.apart (mem_of_lookup hx) (mem_of_lookup hc)
    · obtain ⟨v, d', hv, rfl, rv⟩ := br.at hx
      refine ⟨v, ?_, rfl, rv.mono fun a o nb g => ⟨fun z => ?_, kp a o g⟩⟩
      · have hm : x ∈ names := by rw [← hnm _ _ _ hb0]; exact List.mem_map.mpr ⟨_, mem_of_lookup hx, rfl⟩
        have := hst x hm
        rcases is_or this with e | e
        · obtain ⟨c, hc⟩ := Option.isSome_iff_exists.mp (cellsFrom_some (mem_of_lookup e))
          refine .inr ⟨.inl (by rw [hkd]; exact e), c, by rw [hcel]; exact hc, ?_⟩
          have := X.cell x c (by rw [hcel]; exact hc)
          rw [bindC_at _ _ _ _ hndb (by rw [hkd, e]; decide), hv] at this
          exact this
        · refine .inl ⟨by rw [hkd]; exact e, _, X.toInCall.ns, ?_⟩
          rw [bindL_at _ _ _ _ hndb (by rw [hkd]; exact e), hv]
      · rcases hot0 a z with z | z
        · rw [hPA a z] at g; cases g
        · exact nb z
    · rcases p with p | ⟨x, p⟩
      · obtain ⟨q1, _, _, q2, _⟩ := X.toInCall.ns
        rw [p]
        exact ⟨q1, q2⟩
      · obtain ⟨o', g, _⟩ := X.cell x b p; exact ⟨o', g⟩
    · obtain ⟨o', g⟩ := H b e; exact ⟨o', kp b o' (kx k₁ b o' g)⟩
  exact k env s₁ s₂ _ _ k₁ hfrm (by rw [hscp]; exact hk) I ⟨_, _, hs₂⟩ (fun v s' q => q) fun s' q => q

theorem fn_ok (TO : TabOk prog w T n h₀) {a : Addr} {o : Obj} {fd : FuncData} {body : List Stmt} {B : List D → List (Str × D) → Option St} {F : List D → List (Str × D) → Option D} {names : List Str}
    (ho : h₀.get? a = some o) (hd : o.data = .func fd) (hbody : fd.body = .stmts body) (hclo : fd.closure = []) (hglb : fd.globals = mainGlobals) (hblt : fd.builtins = builtinsNs)
    (hcd : h₀.CodeRec fd.code fd.qualname) (hlim : h₀.NoLimit) (hco : fd.scope.isCoroutine = false) (hgen : fd.scope.isGenerator = false)
    (hsc : scopeDef fd.scope names = true) (hwf : wfSs body fd.scope = true) (hB : BindOk prog w h₀ fd B) (hnm : ∀ ds kds σ, B ds kds = some σ → σ.map (·.1) = names)
    (hF : ∀ ds kds, F ds kds = (B ds kds).bind fun σ => runD T body fd.scope σ) : FnOk prog w (n + 1) h₀ a F := by
  refine ⟨⟨o, fd, ho, hd⟩, ?_⟩
  intro A s E Q hot vs ds kvs kds d hA hE H hsys hr hkr hf hq
  rw [hF] at hf
  simp only [Option.bind_eq_some_iff] at hf
  obtain ⟨σ₀, hb0, hrun⟩ := hf
  unfold runD at hrun
  obtain ⟨⟨fl, σ'⟩, hev, hfl⟩ := Option.bind_eq_some_iff.mp hrun
  refine fn_enter ho hd hbody hclo hglb hblt hcd hlim hco hgen hsc hB hnm hA hE H hsys hr hkr hb0 fun env s₁ s₂ Q₂ E₂ k₁ z0 z0 I sm₁ hret hnext => ?_
  have kfin : ∀ s', Same s₂ s' → Ext s₁.heap s'.heap → Keeps s s' := fun s' sm x => by
    obtain ⟨h1, t1, rfl, x1⟩ := k₁
    obtain ⟨h3, t3, rfl⟩ := Same.trans sm₁ sm
    exact ⟨h3, t3, rfl, fun b o g => x b o (x1 b o g)⟩
  refine all_block TO body fd.scope σ₀ fl σ' env s₁.heap hot (fun z0 => []) (A.deeper env) s₂ _ _ hwf hev I (hA.deeper env) (hE.trans (kx k₁)) fun f s' P => ?_
  cases P with
  | next sm N => cases hfl; exact hnext _ (hq _ _ (kfin s' sm N.inv.base) .none)
  | cont sm N => cases hfl
  | ret sm x r => cases hfl; exact hret _ _ (hq _ _ (kfin s' sm x) r)
end
end Mine

end

section
namespace Mine
variable {prog : Program} {w : World}

/-- one argument -/
noncomputable def oneD (f : D → Option D) : List D → Option D
  | d :: r => if r.isEmpty then f d else none
  | [] => none
theorem oneD_one {f : D → Option D} {d : D} : oneD f [d] = f d := rfl
inductive OneIs (prog : Program) (w : World) (hot : Addr → Prop) (h : Heap) (f : D → Option D) (d : D) : List Value → Prop
  | mk {v x} : Rep prog w hot h v x → f x = some d → OneIs prog w hot h f d [v]
theorem one_is {hot : Addr → Prop} {h : Heap} {f : D → Option D} {ds : List D} {d : D} {vs : List Value} (e : oneD f ds = some d) (r : Reps prog w hot h vs ds) : OneIs prog w hot h f d vs := by
  cases r with
  | nil => exact none_ne e
  | cons a b =>
    obtain ⟨h1, h2⟩ := ite_oo e
    cases List.isEmpty_iff.mp h1
    cases b
    exact .mk a h2
/-- two arguments -/
noncomputable def twoD (f : D → D → Option D) : List D → Option D
  | a :: r => oneD (f a) r
  | [] => none
inductive TwoIs (prog : Program) (w : World) (hot : Addr → Prop) (h : Heap) (f : D → D → Option D) (d : D) : List Value → Prop
  | mk {v u x y} : Rep prog w hot h v x → Rep prog w hot h u y → f x y = some d → TwoIs prog w hot h f d [v, u]
theorem two_is {hot : Addr → Prop} {h : Heap} {f : D → D → Option D} {ds : List D} {d : D} {vs : List Value} (e : twoD f ds = some d) (r : Reps prog w hot h vs ds) : TwoIs prog w hot h f d vs := by
  cases r with
  | nil => exact none_ne e
  | cons a b => cases one_is e b with
    | mk c e => exact .mk a c e

section
variable {hot : Addr → Prop} {h : Heap}
theorem ints_of : ∀ {vs : List Value} {ds : List D} {ns : List Int}, intsOf ds = some ns → Reps prog w hot h vs ds → IntsAre vs ns
  | _, [], _, e, r => by cases e; cases r; exact .nil
  | _, d :: ds, ns, e, r => by
    cases r with
    | cons a b =>
      replace e := Option.bind_eq_some_iff.mp e
      obtain ⟨i, h1, e⟩ := e
      cases intOf_is h1
      obtain ⟨ms, hr, rfl⟩ := Option.map_eq_some_iff.mp e
      obtain ⟨t, rfl⟩ := a.isInt
      exact .cons _ _ (ints_of hr b)
theorem strs_of : ∀ {vs : List Value} {ds : List D} {ns : List Str}, strsOf ds = some ns → Reps prog w hot h vs ds → StrsAre vs ns
  | _, [], _, e, r => by cases e; cases r; exact .nil
  | _, d :: ds, ns, e, r => by
    cases r with
    | cons a b =>
      replace e := Option.bind_eq_some_iff.mp e
      obtain ⟨i, h1, e⟩ := e
      cases strOf_is h1
      obtain ⟨ms, hr, rfl⟩ := Option.map_eq_some_iff.mp e
      obtain ⟨t, rfl⟩ := a.isStr
      exact .cons _ _ (strs_of hr b)
theorem reps_ints : ∀ {vs : List Value} {ns : List Int}, IntsAre vs ns → Reps prog w hot h vs (ns.map .int)
  | _, _, .nil => .nil
  | _, _, .cons n t r => .cons (.int n t) (reps_ints r)
theorem reps_strs : ∀ {vs : List Value} {ns : List Str}, StrsAre vs ns → Reps prog w hot h vs (ns.map .str)
  | _, _, .nil => .nil
  | _, _, .cons n t r => .cons (.str n t) (reps_strs r)
end

noncomputable def absD : List D → Option D := oneD fun d => (intOf d).bind fun i => some (.int (if i < 0 then -i else i))
theorem bi_abs {ds : List D} {d : D} (e : absD ds = some d) : BiOk prog w (.builtin "abs") ds d := by
  intro n A s E Q hot vs hA H hsm r hq
  cases one_is e r with
  | mk a e =>
    replace e := Option.bind_eq_some_iff.mp e
    obtain ⟨i, h1, e⟩ := e
    cases intOf_is h1
    cases e
    obtain ⟨t, rfl⟩ := a.isInt
    exact call_abs_int fun u tk => hq _ _ (keeps_tok _) (.int _ _)

noncomputable def len1 : D → Option D
  | .list xs => if xs.length ≤ 1000000 then some (.int xs.length) else none
  | .str x => if x.length ≤ 1000000 then some (.int x.length) else none
  | .bytes b => if b.size ≤ 1000000 then some (.int b.size) else none
  | _ => none
noncomputable def lenD : List D → Option D := oneD len1
theorem bi_len {ds : List D} {d : D} (e : lenD ds = some d) : BiOk prog w (.builtin "len") ds d := by
  intro n A s E Q hot vs hA H hsm r hq
  cases one_is e r with
  | @mk v x a e => cases x with
    | list xs =>
      obtain ⟨hlen, rfl⟩ := ite_of e
      obtain ⟨l, vs, rfl, nl, il, rl⟩ := a.isList
      have hl : vs.size = xs.length := rl.length
      refine Calls.call_len_list il (by lia) (hq _ _ (keeps_tok _) ?_)
      rw [hl]; exact .int _ _
    | str x =>
      obtain ⟨hlen, rfl⟩ := ite_of e
      obtain ⟨t, rfl⟩ := a.isStr
      exact PySem.P.len_str (by lia) (hq _ _ (keeps_tok _) (.int _ _))
    | bytes x =>
      obtain ⟨hlen, rfl⟩ := ite_of e
      obtain ⟨t, rfl⟩ := a.isBytes
      exact len_bytes (by lia) (hq _ _ (keeps_tok _) (.int _ _))
    | _ => exact none_ne e

noncomputable def rangeI : List Int → Option D
  | [] => none
  | a :: r => (match r with
    | [] => some (.rng 0 a 1)
    | b :: r => (match r with
      | [] => some (.rng a b 1)
      | c :: r => if r.isEmpty = true ∧ c ≠ 0 ∧ a.natAbs ≤ 1000000 ∧ b.natAbs ≤ 1000000 ∧ c.natAbs ≤ 1000000 then some (.rng a b c) else none))
noncomputable def rangeD (ds : List D) : Option D := (intsOf ds).bind rangeI
theorem bi_range {ds : List D} {d : D} (e : rangeD ds = some d) : BiOk prog w (.type "range") ds d := by
  intro n A s E Q hot vs hA H hsm r hq
  have new : ∀ (a b c : Int) (t u v : Tok), Rep prog w hot ((s.heap.push { cls := .type "range", data := .fields #[.int a t, .int b u, .int c v] })) (.ref s.heap.objs.size) (.rng a b c) := fun a b c t u v =>
    .rng (H.new (Nat.le_refl _)) (IsRange.new s.heap a b c t u v)
  replace e := Option.bind_eq_some_iff.mp e
  obtain ⟨ns, h1, e⟩ := e
  cases ints_of h1 r with
  | nil => exact none_ne e
  | cons a t q => cases q with
    | nil => cases e; exact call_range_1 (hq _ _ (keeps_both (ext_push _ _)) (new _ _ _ _ _ _))
    | cons b u q => cases q with
      | nil => cases e; exact call_range_2 (hq _ _ (keeps_both (ext_push _ _)) (new _ _ _ _ _ _))
      | cons c v q =>
        obtain ⟨⟨h0, hc⟩, rfl⟩ := ite_of e
        cases List.isEmpty_iff.mp h0
        cases q
        exact call_range_3 hc.1 (hq _ _ (keeps_both (ext_push _ _)) (new _ _ _ _ _ _)) (.inl (PyProof.noPylong_small (by lia)))

noncomputable def list1 : D → Option D
  | .list xs => if xs.length ≤ 1000000 then some (.list xs) else none
  | .dictS ks => if ks.length ≤ 1000000 then some (.list (ks.map .str)) else none
  | .dictI ks => if ks.length ≤ 1000000 then some (.list (ks.map .int)) else none
  | _ => none
noncomputable def listD : List D → Option D := oneD list1

theorem sysm_ne {hot : Addr → Prop} (h : hot sysModules) {d : Addr} (n : ¬ hot d) : (d == sysModules) = false := by
  rw [beq_eq_false_iff_ne]; rintro rfl; exact n h

theorem strs_at {hot : Addr → Prop} {h : Heap} : ∀ {vs : List Value} {ks : List Str}, vs.length = ks.length → (∀ (j : Nat) v, vs[j]? = some v → ∃ k t, ks[j]? = some k ∧ v = .str k t) → Reps prog w hot h vs (ks.map .str)
  | [], [], _, _ => .nil
  | [], _ :: _, h, _ => by simp at h
  | _ :: _, [], h, _ => by simp at h
  | v :: vs, k :: ks, hl, hv => by
    obtain ⟨k', t, e, rfl⟩ := hv 0 v rfl
    simp at e; subst e
    exact .cons (.str _ _) (strs_at (by simpa using hl) fun j v e => by simpa using hv (j + 1) v (by simpa using e))
theorem ints_at {hot : Addr → Prop} {h : Heap} : ∀ {vs : List Value} {ks : List Int}, vs.length = ks.length → (∀ (j : Nat) v, vs[j]? = some v → ∃ k t, ks[j]? = some k ∧ v = .int k t) → Reps prog w hot h vs (ks.map .int)
  | [], [], _, _ => .nil
  | [], _ :: _, h, _ => by simp at h
  | _ :: _, [], h, _ => by simp at h
  | v :: vs, k :: ks, hl, hv => by
    obtain ⟨k', t, e, rfl⟩ := hv 0 v rfl
    simp at e; subst e
    exact .cons (.int _ _) (ints_at (by simpa using hl) fun j v e => by simpa using hv (j + 1) v (by simpa using e))

theorem bi_list {ds : List D} {d : D} (e : listD ds = some d) : BiOk prog w (.type "list") ds d := by
  intro n A s E Q hot vs hA H hsm r hq
  have fin : ∀ h' acc c' tk (es : List D), d = .list es → (∀ b o, s.heap.get? b = some o → h'.get? b = some o) → h'.get? s.heap.objs.size = some { cls := .type "list", dict := none, data := .seq acc c', slots := #[] } → Reps prog w hot h' acc.toList es → Q (.ref s.heap.objs.size) { s with heap := h', toks := tk } := fun h' acc c' tk es he hk hD r => by
    subst he
    exact hq _ _ (keeps_both hk) (.list (H.new (Nat.le_refl _)) hD r)
  cases one_is e r with
  | @mk v x a e => cases x with
    | list xs =>
      obtain ⟨hlen, rfl⟩ := ite_of e
      obtain ⟨l, vs, nn, rfl, nl, hl, rl⟩ := a.isPlain
      have hle : vs.size = xs.length := rl.length
      refine call_list_seq l (.inl rfl) hl rfl rfl (fun h' c' hk hD => ?_) (by rw [sizeLine_eq]; lia)
      exact hq _ _ (keeps_heap hk) (.list (H.new (Nat.le_refl _)) hD (rl.mono (Ext.sees hk)))
    | dictS ks =>
      obtain ⟨hlen, rfl⟩ := ite_of e
      cases a with
      | dictS nd hd =>
        obtain ⟨ep, hat⟩ := hd.dictAt
        refine kdl_call (kdl_dict (sysm_ne hsm nd)) hA.handled hat (by rw [sizeLine_eq]; simp; lia) fun h' tk acc c' hk hD hacc => fin h' acc c' tk _ rfl hk hD ?_
        refine strs_at (by rw [Array.length_toList, hacc.1]; simp) fun j v hv => ?_
        obtain ⟨k, x, h1, h2⟩ := hacc.2 j v (by rw [← Array.getElem?_toList]; exact hv)
        obtain ⟨t, rfl⟩ := Value.isStrOf_shape h2
        rw [List.getElem?_map] at h1
        cases hj : ks[j]? with
        | none => rw [hj] at h1; cases h1
        | some k' => rw [hj] at h1; cases h1; exact ⟨_, t, rfl, rfl⟩
    | dictI ks =>
      obtain ⟨hlen, rfl⟩ := ite_of e
      cases a with
      | dictI nd hd =>
        obtain ⟨ep, hat⟩ := hd.dictAt
        refine kdl_call (kdl_dict (sysm_ne hsm nd)) hA.handled hat (by rw [sizeLine_eq]; simp; lia) fun h' tk acc c' hk hD hacc => fin h' acc c' tk _ rfl hk hD ?_
        refine ints_at (by rw [Array.length_toList, hacc.1]; simp) fun j v hv => ?_
        obtain ⟨k, x, h1, h2⟩ := hacc.2 j v (by rw [← Array.getElem?_toList]; exact hv)
        obtain ⟨t, rfl⟩ := Value.isInt_shape h2
        rw [List.getElem?_map] at h1
        cases hj : ks[j]? with
        | none => rw [hj] at h1; cases h1
        | some k' => rw [hj] at h1; cases h1; exact ⟨_, t, rfl, rfl⟩
    | _ => exact none_ne e
end Mine

end

section
namespace Mine
variable {prog : Program} {w : World}

noncomputable def bytesD : List D → Option D := oneD fun d => (listOf d).bind fun xs => (intsOf xs).bind fun ns => if ns.all (fun n => decide (0 ≤ n ∧ n < 256)) ∧ ns.length ≤ 1000000 then some (.bytes (ns.map fun n => n.toNat.toUInt8).toArray) else none
theorem bi_bytes {ds : List D} {d : D} (e : bytesD ds = some d) : BiOk prog w (.type "bytes") ds d := by
  intro n A s E Q hot vs hA H hsm r hq
  cases one_is e r with
  | @mk v x a e =>
    obtain ⟨xs, hx, e1⟩ := Option.bind_eq_some_iff.mp e
    obtain ⟨ns, hns, e2⟩ := Option.bind_eq_some_iff.mp e1
    obtain ⟨⟨hc, hlen⟩, e3⟩ := ite_of e2
    cases listOf_is hx
    subst e3
    obtain ⟨l, vs, rfl, nl, il, rl⟩ := a.isList
    have hi := ints_of hns rl
    have hl := hi.length
    refine call_bytes_ints (vs := vs.toList) (by simpa using il) hi (fun n hn => by
      have := List.all_eq_true.mp hc n hn
      simpa using this) (by rw [sizeLine_eq]; omega) hA.handled fun h' t k hk => hq _ _ (keeps_both hk) (.bytes _ _)

noncomputable def chrD : List D → Option D := oneD fun d => (intOf d).bind fun i => if 0 ≤ i ∧ i ≤ 1114111 then some (.str ⟨#[i.toNat]⟩) else none
theorem bi_chr {ds : List D} {d : D} (e : chrD ds = some d) : BiOk prog w (.builtin "chr") ds d := by
  intro n A s E Q hot vs hA H hsm r hq
  cases one_is e r with
  | @mk v x a e =>
    replace e := Option.bind_eq_some_iff.mp e
    obtain ⟨i, hx, e⟩ := e
    cases intOf_is hx
    obtain ⟨hc, rfl⟩ := ite_of e
    obtain ⟨t, rfl⟩ := a.isInt
    exact chr_of_range hc.1 hc.2 (hq _ _ (keeps_tok _) (.str _ _))

noncomputable def type1 : D → Option D
  | .str _ => some (.typ "str")
  | .bytes _ => some (.typ "bytes")
  | .bool _ => some (.typ "bool")
  | _ => none
noncomputable def typeD : List D → Option D := oneD type1
theorem bi_type {ds : List D} {d : D} (e : typeD ds = some d) : BiOk prog w (.type "type") ds d := by
  intro n A s E Q hot vs hA H hsm r hq
  cases one_is e r with
  | @mk v x a e => cases x with
    | str x =>
      cases e
      obtain ⟨t, rfl⟩ := a.isStr
      exact call_type_of (typeIs_str _ _ _) (by decide) (hq _ _ (keeps_refl s) (.typ _))
    | bytes x =>
      cases e
      obtain ⟨t, rfl⟩ := a.isBytes
      exact call_type_of (typeIs_bytes _ _ _) (by decide) (hq _ _ (keeps_refl s) (.typ _))
    | bool x =>
      cases e
      cases a.isBool
      exact call_type_of (Tx := "bool") rfl (by decide) (hq _ _ (keeps_refl s) (.typ _))
    | _ => exact none_ne e

theorem ty_bytes : typeOf (.type "bytes") = pure (.type "type") := meta_bytes
theorem sub_str_bytes : isSubtype (.type "str") (.type "bytes") = pure false := by rw [isSubtype_type]; kernel_rfl
theorem sub_bytes_bytes : isSubtype (.type "bytes") (.type "bytes") = pure true := by rw [isSubtype_type]; kernel_rfl

noncomputable def typOf : D → Option String
  | .typ t => some t
  | _ => none
theorem typOf_is {d : D} {t : String} (h : typOf d = some t) : d = .typ t := by
  cases d with
  | typ u => exact congrArg D.typ (Option.some.inj h)
  | _ => exact none_ne h
noncomputable def isinst2 (a : D) : Option D :=
  match a with
  | .str _ => some (.bool false)
  | .bytes _ => some (.bool true)
  | _ => none
noncomputable def isinstD : List D → Option D := twoD fun a b => (typOf b).bind fun t => if t = "bytes" then isinst2 a else none
theorem bi_isinst {ds : List D} {d : D} (e : isinstD ds = some d) : BiOk prog w (.builtin "isinstance") ds d := by
  intro n A s E Q hot vs hA H hsm r hq
  cases two_is e r with
  | @mk v u x y a b e =>
    replace e := Option.bind_eq_some_iff.mp e
    obtain ⟨t, hx, e⟩ := e
    cases typOf_is hx
    replace e := ite_oo e
    obtain ⟨rfl, e⟩ := e
    cases b.isTyp
    cases x with
    | str x =>
      cases e
      obtain ⟨t, rfl⟩ := a.isStr
      refine call_isinstance_of ?_
      obtain ⟨h, g, dd, t, os⟩ := s
      exact isinstance_nested_false_str (by decide) ty_bytes sub_str_bytes (hq _ _ (keeps_tok _) (.bool _))
    | bytes x =>
      cases e
      obtain ⟨t, rfl⟩ := a.isBytes
      exact call_isinstance_yes (Tx := "bytes") rfl ty_bytes sub_bytes_bytes (hq _ _ (keeps_refl s) (.bool _))
    | _ => exact none_ne e

/-! strings -/
noncomputable def str2D (f : Str → Str → Option D) : List D → Option D := twoD fun a b => (strOf a).bind fun x => (strOf b).bind fun y => f x y
noncomputable def startsD (x y : Str) : Option D := some (.bool (Txt.startswith x y))
noncomputable def endsD (x y : Str) : Option D := some (.bool (Txt.endswith x y))
noncomputable def rfindD (x y : Str) : Option D := some (.int (Txt.rfind x y))
noncomputable def rstripD (x y : Str) : Option D := if x.length ≤ 1000000 then some (.str (Txt.rstripChars x y)) else none
noncomputable def splitD (x y : Str) : Option D :=
  if y.length ≠ 0 ∧ x.length ≤ 1000000 ∧ (Builtin.Str.partsBetween x (Builtin.Str.occurrences x y 0 x.length (x.length + 1)) y.length).length ≤ 1000000 then some (.list ((Txt.split x y).map .str)) else none

theorem str2_of {f : Str → Str → Option D} {ds : List D} {d : D} {hot : Addr → Prop} {h : Heap} {vs : List Value} (e : str2D f ds = some d) (r : Reps prog w hot h vs ds) : ∃ x y t u, vs = [.str x t, .str y u] ∧ f x y = some d := by
  cases two_is e r with
  | @mk v u x y a b e =>
    replace e := Option.bind_eq_some_iff.mp e
    obtain ⟨x, hx, e⟩ := e
    replace e := Option.bind_eq_some_iff.mp e
    obtain ⟨y, hy, e⟩ := e
    cases strOf_is hx
    cases strOf_is hy
    obtain ⟨t, rfl⟩ := a.isStr
    obtain ⟨t', rfl⟩ := b.isStr
    exact ⟨_, _, _, _, rfl, e⟩

theorem bi_starts {ds : List D} {d : D} (e : str2D startsD ds = some d) : BiOk prog w (.builtin "str.startswith") ds d := by
  intro n A s E Q hot vs hA H hsm r hq
  obtain ⟨x, y, t, u, rfl, e⟩ := str2_of e r
  cases e
  exact SC.startswith (hq _ _ (keeps_refl s) (.bool _))
theorem bi_ends {ds : List D} {d : D} (e : str2D endsD ds = some d) : BiOk prog w (.builtin "str.endswith") ds d := by
  intro n A s E Q hot vs hA H hsm r hq
  obtain ⟨x, y, t, u, rfl, e⟩ := str2_of e r
  cases e
  exact SC.endswith (hq _ _ (keeps_refl s) (.bool _))
theorem bi_rfind {ds : List D} {d : D} (e : str2D rfindD ds = some d) : BiOk prog w (.builtin "str.rfind") ds d := by
  intro n A s E Q hot vs hA H hsm r hq
  obtain ⟨x, y, t, u, rfl, e⟩ := str2_of e r
  cases e
  exact SC.rfind (hq _ _ (keeps_tok _) (.int _ _))
theorem bi_rstrip {ds : List D} {d : D} (e : str2D rstripD ds = some d) : BiOk prog w (.builtin "str.rstrip") ds d := by
  intro n A s E Q hot vs hA H hsm r hq
  obtain ⟨x, y, t, u, rfl, e⟩ := str2_of e r
  unfold rstripD at e
  split at e <;> cases e
  exact SC.rstripChars (fun t' k => hq _ _ (keeps_tok _) (.str _ _)) (by rw [sizeLine_eq]; omega)

theorem strValues_reps {hot : Addr → Prop} {h : Heap} : ∀ (l : List (Str × Tok)), Reps prog w hot h (strValues l) ((l.map (·.1)).map .str)
  | [] => .nil
  | (x, t) :: r => .cons (.str x t) (strValues_reps r)

theorem bi_split {ds : List D} {d : D} (e : str2D splitD ds = some d) : BiOk prog w (.builtin "str.split") ds d := by
  intro n A s E Q hot vs hA H hsm r hq
  obtain ⟨x, y, t, u, rfl, e⟩ := str2_of e r
  unfold splitD at e
  split at e <;> cases e
  rename_i hc
  obtain ⟨hy, hx, hn⟩ := hc
  have hy' : (y.length == 0) = false := by simpa using hy
  have fin : ∀ (l : List (Str × Tok)) (tk : Nat), l.map (·.1) = Txt.split x y → Q (.ref s.heap.objs.size) { s with heap := s.heap.push { cls := .type "list", data := .seq (strValues l).toArray }, toks := tk } := fun l tk hl =>
    hq _ _ (keeps_both (ext_push _ _)) (by
      rw [← hl]
      exact .list (H.new (Nat.le_refl _)) (Heap.get?_push_size _ rfl) (strValues_reps l))
  cases h1 : (decide (x.length < y.length) || decide (Builtin.Str.strKind x < Builtin.Str.strKind y))
  · cases hf : (Builtin.Str.occurrences x y 0 x.length (x.length + 1)).isEmpty
    · refine call_meets PySem.F.slot_str_split (typeIs_str _ _ _) PySem.F.entry_str_split (PySem.F.args_str_split_2 _ _) (meets_str_split_sep x y t u h1 hy' hf (by rw [sizeLine_eq]; omega) (by rw [sizeLine_eq]; omega)) ?_
      rw [strsFrom_eq]
      exact fin (numbered s.toks _) _ ((numbered_texts _ _).trans ((if_neg (by rw [h1]; decide)).trans (if_neg (by rw [hf]; decide))).symm)
    · exact call_meets PySem.F.slot_str_split (typeIs_str _ _ _) PySem.F.entry_str_split (PySem.F.args_str_split_2 _ _) (meets_str_split_not_found x y t u h1 hy' hf)
        (fin [(x, t)] _ ((if_neg (by rw [h1]; decide)).trans (if_pos hf)).symm)
  · exact call_meets PySem.F.slot_str_split (typeIs_str _ _ _) PySem.F.entry_str_split (PySem.F.args_str_split_2 _ _) (meets_str_split_cannot_occur x y t u h1)
      (fin [(x, t)] _ (if_pos h1).symm)

noncomputable def joinD : List D → Option D := twoD fun a b => (strOf a).bind fun x => (listOf b).bind fun xs => (strsOf xs).bind fun ys => if (ys.map (·.length)).sum + ys.length * x.length ≤ 1000000 then some (.str (Txt.join x ys)) else none
theorem bi_join {ds : List D} {d : D} (e : joinD ds = some d) : BiOk prog w (.builtin "str.join") ds d := by
  intro n A s E Q hot vs hA H hsm r hq
  cases two_is e r with
  | @mk v u x y a b e =>
    obtain ⟨x, hx, e1⟩ := Option.bind_eq_some_iff.mp e
    obtain ⟨xs, hy, e2⟩ := Option.bind_eq_some_iff.mp e1
    obtain ⟨ys, hys, e3⟩ := Option.bind_eq_some_iff.mp e2
    obtain ⟨hc, e4⟩ := ite_of e3
    cases strOf_is hx
    cases listOf_is hy
    subst e4
    obtain ⟨t, rfl⟩ := a.isStr
    obtain ⟨l, vs, rfl, nl, il, rl⟩ := b.isList
    exact join_list il (strs_of hys rl) (by omega) fun t' k => hq _ _ (keeps_tok _) (.str _ _)

theorem toPys_eq : ∀ (xs : List D), toPys xs = xs.map toPy
  | [] => rfl
  | x :: r => congrArg (toPy x :: ·) (toPys_eq r)

/-! the place of a value -/
noncomputable def indexD : List D → Option D := twoD fun a x => (listOf a).bind fun xs => if eqOk 9 x ∧ xs.all (eqOk 9) ∧ xs.length ≤ 1000000 then (xs.findIdx? fun y => eqvD y x).map fun (j : Nat) => D.int (j : Int) else none
theorem bi_index {ds : List D} {d : D} (e : indexD ds = some d) : BiOk prog w (.builtin "list.index") ds d := by
  intro n A s E Q hot vs hA H hsm r hq
  cases two_is e r with
  | @mk v u x' x a b e =>
      replace e := Option.bind_eq_some_iff.mp e
      obtain ⟨xs, hy, e⟩ := e
      cases listOf_is hy
      replace e := ite_oo e
      obtain ⟨⟨hx, hxs, hlen⟩, e⟩ := e
      obtain ⟨j, hj, rfl⟩ := Option.map_eq_some_iff.mp e
      obtain ⟨l, vs, nn, rfl, nl, hl, rl⟩ := a.isPlain
      have hle : vs.size = xs.length := rl.length
      obtain ⟨as, p⟩ := reps_reads 9 rl fun d hd => List.all_eq_true.mp hxs d hd
      obtain ⟨bs, q⟩ := rep_reads 9 b hx
      have hlay := lay_all hxs
      have hmap := SeqAt.readsAll_map _ _ _ hlay p
      rw [List.findIdx?_eq_some_iff_getElem] at hj
      obtain ⟨hj1, hj2, hj3⟩ := hj
      have get : ∀ (k : Nat) (h1 : k < vs.size) (h2 : k < xs.length), SeqAt.readOf s.heap vs[k] = toPy xs[k] := fun k h1 h2 => by
        have e1 : (vs.toList.map (SeqAt.readOf s.heap))[k]? = some (SeqAt.readOf s.heap vs[k]) := by simp [h1]
        rw [hmap] at e1
        have e2 : (toPys xs)[k]? = some (toPy xs[k]) := by
          rw [toPys_eq, List.getElem?_map, List.getElem?_eq_getElem h2]; rfl
        rw [e2] at e1
        exact (Option.some.inj e1).symm
      refine call_meets PySem.F.slot_list_index ⟨_, hl, rfl⟩ PySem.F.entry_list_index (PySem.F.args_list_index_2 _ _)
        (SeqAt.list_indexAt l vs nn none #[] _ (fun y => PyData.eqv (SeqAt.readOf s.heap y) (toPy x)) j (by omega) (by omega) ?_ ?_) ⟨hl, ?_, hq _ _ (keeps_tok _) (.int _ _)⟩
      · show PyData.eqv (SeqAt.readOf s.heap vs[j]) (toPy x) = true
        rw [get j (by omega) hj1]
        exact hj2
      · intro k hk hlt
        show PyData.eqv (SeqAt.readOf s.heap vs[k]) (toPy x) = false
        rw [get k hk (by omega)]
        have : eqvD xs[k] x = false := by simpa using hj3 k hlt
        exact this
      · exact SeqAt.items_eqAt p q hlay (eqOk_lay 9 _ hx).1 (in_room hA hx)
end Mine

end

section
namespace Mine
variable {prog : Program} {w : World}

/-! ## the place in a rising row -/
theorem below_go (xs : Array Nat) (j : Nat) : ∀ (fuel lo hi p : Nat), hi - lo ≤ fuel → lo ≤ p → p ≤ hi → (∀ i, i < p → xs.getD i j < j) → (∀ i, p ≤ i → i < hi → j ≤ xs.getD i j) → SetTable.below.go xs j fuel lo hi = p
  | 0, lo, hi, p, hf, h1, h2, _, _ => by unfold SetTable.below.go; lia
  | fuel + 1, lo, hi, p, hf, h1, h2, ha, hb => by
    unfold SetTable.below.go
    by_cases hl : lo < hi
    · rw [if_pos hl]
      dsimp only
      by_cases hm : xs.getD ((lo + hi) / 2) j < j
      · rw [if_pos hm]
        refine below_go xs j fuel _ hi p (by lia) ?_ h2 ha hb
        by_cases q : (lo + hi) / 2 < p
        · lia
        · have := hb ((lo + hi) / 2) (by lia) (by lia); lia
      · rw [if_neg hm]
        refine below_go xs j fuel lo _ p (by lia) h1 ?_ ha fun i a b => hb i a (by lia)
        by_cases q : (lo + hi) / 2 < p
        · exact absurd (ha _ q) hm
        · lia
    · rw [if_neg hl]; lia

theorem below_is (xs : Array Nat) (j p : Nat) (hp : p ≤ xs.size) (ha : ∀ i, i < p → xs.getD i j < j) (hb : ∀ i, p ≤ i → i < xs.size → j ≤ xs.getD i j) : SetTable.below xs j = p := by
  unfold SetTable.below
  exact below_go xs j xs.size 0 xs.size p (by lia) (Nat.zero_le _) hp ha hb

noncomputable def insI (k : Int) : List Int → List Int
  | [] => [k]
  | x :: r => if k < x then k :: x :: r else if k = x then x :: r else x :: insI k r
noncomputable def cntI (k : Int) : List Int → Nat
  | [] => 0
  | x :: r => if x < k then cntI k r + 1 else 0

theorem cntI_le (k : Int) : ∀ xs, cntI k xs ≤ xs.length
  | [] => Nat.le_refl _
  | x :: r => by rw [cntI]; split <;> simp <;> exact cntI_le k r
theorem cntI_low (k : Int) : ∀ (xs : List Int) (i : Nat) (x : Int), i < cntI k xs → xs[i]? = some x → x < k
  | [], i, x, h, e => by simp at e
  | y :: r, i, x, h, e => by
    rw [cntI] at h
    split at h
    · rename_i hy
      cases i with
      | zero => simp at e; lia
      | succ i => exact cntI_low k r i x (by lia) (by simpa using e)
    · lia
theorem cntI_high (k : Int) : ∀ (xs : List Int) (i : Nat) (x : Int), xs.Pairwise (· < ·) → cntI k xs ≤ i → xs[i]? = some x → k ≤ x
  | [], i, x, _, h, e => by simp at e
  | y :: r, i, x, hp, h, e => by
    rw [cntI] at h
    rw [List.pairwise_cons] at hp
    split at h
    · cases i with
      | zero => lia
      | succ i => exact cntI_high k r i x hp.2 (by lia) (by simpa using e)
    · rename_i hy
      cases i with
      | zero => simp at e; lia
      | succ i =>
        have hm : x ∈ r := List.mem_of_getElem? (by simpa using e)
        have := hp.1 x hm; lia
theorem insI_new (k : Int) : ∀ xs : List Int, k ∉ xs → xs.Pairwise (· < ·) → insI k xs = xs.take (cntI k xs) ++ k :: xs.drop (cntI k xs)
  | [], _, _ => rfl
  | x :: r, h, hp => by
    rw [insI, cntI]
    rw [List.pairwise_cons] at hp
    simp only [List.mem_cons, not_or] at h
    by_cases h1 : k < x
    · rw [if_pos h1, if_neg (by lia)]; rfl
    · rw [if_neg h1, if_neg h.1, if_pos (by lia), insI_new k r h.2 hp.2]; rfl
theorem insI_old (k : Int) : ∀ xs : List Int, k ∈ xs → xs.Pairwise (· < ·) → insI k xs = xs
  | [], h, _ => by cases h
  | x :: r, h, hp => by
    rw [insI]
    rw [List.pairwise_cons] at hp
    rcases List.mem_cons.mp h with rfl | h
    · rw [if_neg (Int.lt_irrefl _), if_pos rfl]
    · have := hp.1 k h
      rw [if_neg (by lia), if_neg (by lia), insI_old k r h hp.2]
theorem insI_mem (k : Int) : ∀ (xs : List Int) (y : Int), y ∈ insI k xs ↔ y = k ∨ y ∈ xs
  | [], y => by simp [insI]
  | x :: r, y => by
    rw [insI]
    split
    · simp
    · split
      · rename_i e; subst e; simp
      · rw [List.mem_cons, insI_mem k r y, List.mem_cons]; exact ⟨fun z => by rcases z with z | z | z <;> simp [z], fun z => by rcases z with z | z | z <;> simp [z]⟩
theorem insI_sorted (k : Int) : ∀ xs : List Int, xs.Pairwise (· < ·) → (insI k xs).Pairwise (· < ·)
  | [], _ => by simp [insI]
  | x :: r, hp => by
    rw [insI]
    have hp' := hp
    rw [List.pairwise_cons] at hp
    split
    · rename_i h1
      refine List.pairwise_cons.mpr ⟨fun y hy => ?_, hp'⟩
      rcases List.mem_cons.mp hy with rfl | hy
      · exact h1
      · have := hp.1 y hy; lia
    · split
      · exact hp'
      · refine List.pairwise_cons.mpr ⟨fun y hy => ?_, insI_sorted k r hp.2⟩
        rcases (insI_mem k r y).mp hy with rfl | hy
        · lia
        · exact hp.1 y hy
theorem insI_len (k : Int) : ∀ xs : List Int, (insI k xs).length ≤ xs.length + 1
  | [] => by simp [insI]
  | x :: r => by
    rw [insI]
    split
    · simp
    · split
      · simp
      · simp; exact insI_len k r

/-! ## the table -/
theorem setRows_len : ∀ {l : List (Int × Value)} {xs : List Int}, SetRows l xs → l.length = xs.length
  | _, _, .nil => rfl
  | _, _, .cons r => by simp [setRows_len r]
theorem setRows_insert {k : Int} {t : Tok} : ∀ {l : List (Int × Value)} {xs : List Int} (p : Nat), SetRows l xs → SetRows (l.take p ++ (k, .int k t) :: l.drop p) (xs.take p ++ k :: xs.drop p)
  | _, _, 0, r => .cons r
  | _, _, p + 1, .nil => .cons .nil
  | _, _, p + 1, .cons r => .cons (setRows_insert p r)
theorem setRows_elems : ∀ {l : List (Int × Value)} {xs : List Int}, SetRows l xs → (∀ x ∈ xs, 0 ≤ x ∧ x < 8) → ElemsOf (intKind prog w) l
  | _, _, .nil, _ => fun e he => by cases he
  | _, _, .cons (x := x) (t := t) r, h => fun e he => by
    rcases List.mem_cons.mp he with rfl | he
    · refine ⟨⟨x, intKind_is prog w x t, ?_⟩, rfl⟩
      have := h x List.mem_cons_self
      have h8 : x = 0 ∨ x = 1 ∨ x = 2 ∨ x = 3 ∨ x = 4 ∨ x = 5 ∨ x = 6 ∨ x = 7 := by lia
      rcases h8 with rfl | rfl | rfl | rfl | rfl | rfl | rfl | rfl <;> rfl
    · exact setRows_elems r (fun y hy => h y (List.mem_cons_of_mem _ hy)) e he
theorem setRows_find {k : Int} : ∀ {l : List (Int × Value)} {xs : List Int}, SetRows l xs → ((l.findIdx? fun e => (intKind prog w).is k e.2) = none ↔ k ∉ xs)
  | _, _, .nil => by simp
  | _, _, .cons (x := x) (t := t) (r := r) (xs := xs) h => by
    have ih := setRows_find (k := k) h
    rw [List.findIdx?_cons]
    by_cases q : k = x
    · subst q
      rw [if_pos (intKind_is prog w k t)]
      simp
    · have : (intKind prog w).is k (Value.int x t) = false := by
        cases e : (intKind prog w).is k (Value.int x t) with
        | false => rfl
        | true => exact absurd ((intKind prog w).inj _ _ _ e (intKind_is prog w x t)) q
      rw [this]
      simp only [Bool.false_eq_true, if_false, Option.map_eq_none_iff, ih, List.mem_cons, not_or]
      exact ⟨fun z => ⟨q, z⟩, fun z => z.2⟩
theorem hash_small {k : Int} (h : 0 ≤ k ∧ k < 8) : (intKind prog w).hash k = k := by
  have h8 : k = 0 ∨ k = 1 ∨ k = 2 ∨ k = 3 ∨ k = 4 ∨ k = 5 ∨ k = 6 ∨ k = 7 := by lia
  rcases h8 with rfl | rfl | rfl | rfl | rfl | rfl | rfl | rfl <;> rfl

theorem below_nil (j : Nat) : SetTable.below #[] j = 0 := rfl

theorem place_get {t : SetTable} {xs : List Int} (hp : t.place.toList = xs.map Int.toNat) (i : Nat) (d : Nat) : t.place.getD i d = ((xs[i]?).map Int.toNat).getD d := by
  rw [Array.getD_eq_getD_getElem?, ← Array.getElem?_toList, hp, List.getElem?_map]

theorem below_small {t : SetTable} {xs : List Int} {k : Int} (hp : t.place.toList = xs.map Int.toNat) (hs : xs.Pairwise (· < ·)) (hr : ∀ x ∈ xs, 0 ≤ x ∧ x < 8) (hk : 0 ≤ k) : SetTable.below t.place k.toNat = cntI k xs := by
  have hsz : t.place.size = xs.length := by rw [← Array.length_toList, hp, List.length_map]
  refine below_is _ _ _ (by rw [hsz]; exact cntI_le k xs) (fun i hi => ?_) fun i h1 h2 => ?_
  · have hil : i < xs.length := Nat.lt_of_lt_of_le hi (cntI_le k xs)
    rw [place_get hp, List.getElem?_eq_getElem hil]
    have := cntI_low k xs i _ hi (List.getElem?_eq_getElem hil)
    have := (hr _ (List.getElem_mem hil)).1
    simp only [Option.map_some, Option.getD_some]
    lia
  · have hil : i < xs.length := by rw [← hsz]; exact h2
    rw [place_get hp, List.getElem?_eq_getElem hil]
    have := cntI_high k xs i _ hs h1 (List.getElem?_eq_getElem hil)
    simp only [Option.map_some, Option.getD_some]
    lia

theorem layNew_small {t : SetTable} {es : Array (Int × Value)} {xs : List Int} {k : Int} {x : Value} (hp : t.place.toList = xs.map Int.toNat) (hsz : es.size = xs.length) (hm : t.mask = 7) (hd : t.dummies = #[]) (hs : xs.Pairwise (· < ·)) (hr : ∀ x ∈ xs, 0 ≤ x ∧ x < 8)
    (hk : 0 ≤ k ∧ k < 8) (hn : k ∉ xs) (hl : xs.length < 4) :
    layNew t es k x = (SetTable.insertAt es (cntI k xs) (k, x), { t with place := SetTable.insertAt t.place (cntI k xs) k.toNat }, false, false) := by
  have hb := below_small hp hs hr hk.1
  have hbits : SetTable.bits k % 8 = k.toNat := by
    unfold SetTable.bits
    have : k % (2 ^ 64 : Int) = k := Int.emod_eq_of_lt hk.1 (by lia)
    rw [this]; lia
  have hslot : t.slot k.toNat = .empty := by
    unfold SetTable.slot
    dsimp only
    rw [hb]
    have h1 : (t.place[cntI k xs]? == some k.toNat) = false := by
      rw [← Array.getElem?_toList, hp, List.getElem?_map]
      cases e : xs[cntI k xs]? with
      | none => rfl
      | some y =>
        have hy : y ∈ xs := List.mem_of_getElem? e
        have := hr y hy
        have hne : y ≠ k := fun q => hn (q ▸ hy)
        simp only [Option.map_some, beq_eq_false_iff_ne, ne_eq, Option.some.injEq]
        lia
    rw [h1]
    have h2 : SetTable.has t.dummies k.toNat = false := by rw [hd]; rfl
    rw [h2]; rfl
  have hfree : t.freeSlot k = some (k.toNat, false) := by
    unfold SetTable.freeSlot SetTable.probe
    have hst : (t.probeStart k).j = k.toNat := by
      unfold SetTable.probeStart
      dsimp only
      rw [hm]; exact hbits
    have hdm : (t.probeStart k).dummy = none := rfl
    have hfuel : 10 * SetTable.turns t.mask = 219 + 1 := by rw [hm]; rfl
    rw [hfuel, SetTable.probe.go, hst, hslot]
    dsimp only
    rw [hdm]; rfl
  unfold layNew
  rw [hfree]
  dsimp only
  have hput : t.put k.toNat = ({ t with place := SetTable.insertAt t.place (cntI k xs) k.toNat }, cntI k xs) := by
    unfold SetTable.put
    dsimp only
    rw [hb]
    have h2 : SetTable.has t.dummies k.toNat = false := by rw [hd]; rfl
    rw [h2]; rfl
  rw [hput]
  dsimp only
  have hpl : (SetTable.insertAt t.place (cntI k xs) k.toNat).size = xs.length + 1 := by
    rw [← Array.length_toList, SetTable.toList_insertAt, hp]
    have := cntI_le k xs
    simp; lia
  have hel : (SetTable.insertAt es (cntI k xs) (k, x)).size = xs.length + 1 := by
    rw [← Array.length_toList, SetTable.toList_insertAt]
    have := cntI_le k xs
    simp; lia
  have hfit : SetTable.fits { t with place := SetTable.insertAt t.place (cntI k xs) k.toNat } (SetTable.insertAt es (cntI k xs) (k, x)).size = true := by
    unfold SetTable.fits SetTable.fill
    dsimp only
    rw [hpl, hel, hd, hm]
    simp
    lia
  unfold SetTable.orStandIn
  rw [hfit]
  rfl
end Mine

end

section
namespace Mine
variable {prog : Program} {w : World}
section
variable {A : Around} {E : Value → Shared → Prop} {s : Shared}

theorem setOk_fits {t : SetTable} {es : Array (Int × Value)} {xs : List Int} (hr : SetRows es.toList xs) (hp : t.place.toList = xs.map Int.toNat) (hm : t.mask = 7) (hd : t.dummies = #[]) (hl : xs.length < 5) : t.fits es.size = true := by
  have h1 := setRows_len hr
  have h2 : t.place.size = xs.length := by rw [← Array.length_toList, hp, List.length_map]
  rw [Array.length_toList] at h1
  unfold SetTable.fits SetTable.fill
  rw [h2, h1, hm, hd]
  simp; lia

theorem add_small {a : Addr} {o : Obj} {xs : List Int} {k : Int} {t : Tok} {Q : Bool → Shared → Prop} (ho : s.heap.get? a = some o) (hS : SetOk w o xs) (hk : 0 ≤ k ∧ k < 8) (hl : xs.length < 4)
    (h : ∀ b h' o', Heap.SameBut a s.heap h' → h'.get? a = some o' → SetOk w o' (insI k xs) → Q b { s with heap := h' }) :
    wpAny (model prog w) A (setAddHashed a (.int k t) ((intKind prog w).hash k)) Q E s := by
  obtain ⟨h1, h2, h3, hs, hr, es, ep, T, hd, hrows, hp, hm, hdm, hpl, hled, hlen⟩ := id hS
  have hf := setOk_fits hrows hp hm hdm hlen
  have hel := setRows_elems (prog := prog) (w := w) hrows hr
  have hsz : es.size = xs.length := by rw [← Array.length_toList]; exact setRows_len hrows
  have hb : es.size < scanBound := by rw [hsz]; have : scanBound = 4096 := rfl; lia
  have hsc : (Value.int k t).scannable = true := rfl
  unfold setAddHashed setAddHashedIn
  refine wpAny_holding (wpAny_bind (wpAny_setState_of ho hd hf ?_))
  dsimp only
  rw [byScan_of hsc hb hel]
  simp only [↓reduceIte]
  unfold setAddByScan
  refine wpAny_bind ?_
  refine wpAny_bind (wpAny_rule ?_)
  refine wpAny_bind (wpAny_setScan_of (intKind_is prog w k t) ho hd hf hel ?_)
  cases hr' : List.findIdx? (fun e => (intKind prog w).is k e.2) es.toList with
  | some j =>
    dsimp only
    have hin : k ∈ xs := by
      by_cases q : k ∈ xs
      · exact q
      · rw [(setRows_find (prog := prog) (w := w) hrows).mpr q] at hr'; cases hr'
    refine wpAny_pure (wpAny_pure ?_)
    have e : s = { s with heap := s.heap } := by cases s; rfl
    have := h false s.heap o (Heap.SameBut.refl a s.heap) ho (by rw [insI_old k xs hin hs]; exact hS)
    exact this
  | none =>
    dsimp only
    have hn : k ∉ xs := (setRows_find (prog := prog) (w := w) hrows).mp hr'
    rw [hash_small hk, layNew_small hp hsz hm hdm hs hr hk hn hl]
    obtain ⟨mk, pl, du, fi, le, mo, pn⟩ := T
    simp only at hp hm hdm hpl hled
    subst hm hdm hpl
    dsimp only
    refine wpAny_bind (wpAny_pure ?_)
    simp only [if_true]
    refine wpAny_bind (m := hashByValue 8 (Value.int k t)) (wpAny_pure ?_)
    simp only [if_true]
    have hle := cntI_le k xs
    have hsz' : (SetTable.insertAt es (cntI k xs) (k, Value.int k t)).size = xs.length + 1 := by
      rw [← Array.length_toList, SetTable.toList_insertAt]
      simp; lia
    have hpz' : (SetTable.insertAt pl (cntI k xs) k.toNat).size = xs.length + 1 := by
      rw [← Array.length_toList, SetTable.toList_insertAt, hp]
      simp; lia
    refine wpAny_bind (wpAny_storeSet_of ho hd ?_ (by rw [hsz', sizeLine_eq]; lia))
    have hfull : SetTable.tooFull { mask := 7, place := SetTable.insertAt pl (cntI k xs) k.toNat, dummies := #[], finger := fi, led := le, moves := mo, plain := true } = false := by
      unfold SetTable.tooFull SetTable.fill
      dsimp only
      rw [hpz']
      simp; lia
    rw [hfull]
    simp only [Bool.not_false, Bool.and_false, Bool.false_eq_true, if_false]
    refine wpAny_pure (wpAny_pure ?_)
    have hg : (s.heap.update a (Obj.putSet (SetTable.insertAt es (cntI k xs) (k, Value.int k t)) { mask := 7, place := SetTable.insertAt pl (cntI k xs) k.toNat, dummies := #[], finger := fi, led := le, moves := mo, plain := true })).get? a = _ :=
      Heap.get?_update_self _ ho (by rw [putSet_of _ _ hd]; rfl)
    rw [putSet_of _ _ hd] at hg
    refine h true _ _ (Heap.SameBut.update ..) hg ⟨h1, h2, h3, insI_sorted k xs hs, fun x hx => ?_, _, _, _, rfl, ?_, ?_, rfl, rfl, rfl, hled, ?_⟩
    · rcases (insI_mem k xs x).mp hx with rfl | hx
      · exact hk
      · exact hr x hx
    · rw [SetTable.toList_insertAt, insI_new k xs hn hs]
      exact setRows_insert _ hrows
    · show (SetTable.insertAt pl (cntI k xs) k.toNat).toList = _
      rw [SetTable.toList_insertAt, hp, insI_new k xs hn hs]
      simp [List.map_take, List.map_drop]
    · have := insI_len k xs; lia
end
end Mine

end

section
namespace Mine
variable {prog : Program} {w : World}

noncomputable def addFrom (val : Nat → Int) : Nat → Nat → List Int → List Int
  | 0, _, xs => xs
  | k + 1, i, xs => addFrom val k (i + 1) (insI (val i) xs)

section
variable {A : Around} {R : Result → Shared → Prop} {I : Addr} {fp wr : List Addr} {n : Nat} {P : Nat → Value → Prop} {St : Nat → Heap → Prop}

theorem upd_loop (W : Walks prog w A.in1 I fp wr n P St) (S : Addr) (hSf : S ∉ fp) (val : Nat → Int) (hval : ∀ i v, P i v → ∃ t, v = .int (val i) t) (hr : ∀ i, i < n → 0 ≤ val i ∧ val i < 8) (hn : n ≤ 4) :
    ∀ (k i : Nat) (s : Shared) (xs : List Int) (o : Obj), n - i = k → i ≤ n → St i s.heap → s.heap.get? S = some o → SetOk w o xs → xs.length ≤ i →
      (∀ h' tk o', (∀ b o, b ≠ S → b ∉ wr → s.heap.get? b = some o → h'.get? b = some o) → h'.get? S = some o' → SetOk w o' (addFrom val k i xs) → R (.ok (.ret .none)) { s with heap := h', toks := tk }) →
      codeAny (model prog w) A (.builtin "set.update.loop" ⟨[.ref S, .ref I], []⟩) R s := by
  have hSw : S ∉ wr := fun h => hSf (W.sub _ h)
  intro k
  induction k with
  | zero =>
    intro i s xs o hk hi hst ho hS hl hR
    have hin : i = n := by lia
    subst hin
    refine codeAny_builtin PyProof.Rows.F.entry_set_update_loop ?_
    rw [Around.under_plainId PyProof.Rows.F.plain_set_update_loop _]
    show wpAny _ A.in1 (pyNext (.ref I) >>= _) _ _ s
    refine wpAny_bind (W.done s _ _ hst fun h' tk hk' => ?_)
    show wpAny _ A.in1 (ret Value.none) _ _ _
    exact wpAny_pure (hR h' tk o (fun b o z0 nw g => hk' b o nw g) (hk' S o hSw ho) hS)
  | succ k ih =>
    intro i s xs o hk hi hst ho hS hl hR
    have hlt : i < n := by lia
    refine codeAny_builtin PyProof.Rows.F.entry_set_update_loop ?_
    rw [Around.under_plainId PyProof.Rows.F.plain_set_update_loop _]
    show wpAny _ A.in1 (pyNext (.ref I) >>= _) _ _ s
    refine wpAny_bind (W.item i s _ _ hlt hst fun v h₁ tk hP hst' hk' => ?_)
    obtain ⟨t, rfl⟩ := hval i v hP
    show wpAny _ A.in1 (holding [Value.int (val i) t] (setAdd S (.int (val i) t)) >>= _) _ _ _
    refine wpAny_bind (wpAny_holding ?_)
    unfold setAdd
    refine wpAny_holding ?_
    refine wpAny_bind ((intKind prog w).pyHash (k := val i) (intKind_is _ _ _ _) ?_)
    refine add_small (s := { s with heap := h₁, toks := tk + 1 }) (hk' S o hSw ho) hS (hr i hlt) (by lia) fun b h₂ o' hsb ho' hS' => ?_
    refine wpAny_pure ⟨plainId_quiet PyProof.Rows.F.plain_set_update_loop _, ih (i + 1) _ _ o' (by lia) hlt (W.frame _ h₁ _ hst' fun b hb o e => ?_) ho' hS' (by have := insI_len (val i) xs; lia) fun h₃ tk₃ o₃ hk₃ ho₃ hS₃ => ?_⟩
    · rw [hsb.2 b (fun h : b = S => hSf (h ▸ hb))]; exact e
    · refine hR h₃ tk₃ o₃ (fun b o hb hw g => hk₃ b o hb hw ?_) ho₃ hS₃
      rw [hsb.2 b hb]
      exact hk' b o hw g
end

section
variable {A : Around} {E : Value → Shared → Prop} {s : Shared}

theorem new_set {Q₁ : Value → Shared → Prop} (a : Value)
    (h : ∀ led : Bool, (led = true ∨ w.params.followText "set-order" = true) → Q₁ (.ref s.heap.objs.size) { s with heap := s.heap.push { cls := .type "set", dict := none, data := .set #[] 0 (.fresh 0 0 led) } }) :
    codeAny (model prog w) A (.call (.builtin "set.__new__") ⟨[.type "set", a], []⟩) (wants Q₁ E) s := by
  refine codeAny_of_tree ?_
  show wpAny _ A.in1 (do checkBuiltinCall "set.__new__" ⟨[.type "set", a], []⟩; again (.builtin "set.__new__" ⟨[.type "set", a], []⟩)) _ _ s
  refine wpAny_bind (wpAny_of_eq (PySem.F.newCall_set_1 a) (wpAny_pure ⟨plainId_quiet PySem.F.plain_set_new _, codeAny_builtin PySem.F.entry_set_new ?_⟩))
  rw [Around.under_plainId PySem.F.plain_set_new _]
  unfold Builtin.«set.__new__» Builtin.Frozenset.newClass
  have hsub := sub_set_self
  obtain ⟨hp, g, d, tk, os⟩ := s
  dsimp only
  wp_walk
  refine wpAny_askSetting (wpAny_pure ?_)
  dsimp only
  simp only [newObj]
  refine wpAny_bind (wpAny_alloc (wpAny_pure ?_))
  refine wpAny_pure (h _ ?_)
  show (!w.params.followText "set-order") = true ∨ _
  cases w.params.followText "set-order" <;> simp

theorem setOk_fresh (led : Bool) (h : led = true ∨ w.params.followText "set-order" = true) : SetOk w { cls := .type "set", dict := none, data := .set #[] 0 (.fresh 0 0 led) } [] :=
  ⟨rfl, rfl, rfl, .nil, fun z0 h => (by cases h), #[], 0, _, rfl, .nil, rfl, rfl, rfl, rfl, h, by decide⟩

set_option maxRecDepth 100000 in
set_option maxHeartbeats 3200000 in
theorem set_of_list {l : Addr} {items : Array Value} {ns : List Int} {Q : Value → Shared → Prop} (hh : A.handled = none) (hl : s.heap.IsList l items) (hi : IntsAre items.toList ns) (hr : ∀ k ∈ ns, 0 ≤ k ∧ k < 8) (hn : ns.length ≤ 4)
    (h : ∀ h' tk o', (∀ b o, s.heap.get? b = some o → h'.get? b = some o) → h'.get? s.heap.objs.size = some o' → SetOk w o' (addFrom (fun i => ns.getD i 0) ns.length 0 []) → Q (.ref s.heap.objs.size) { s with heap := h', toks := tk }) :
    wpAny (model prog w) A (call (.type "set") [.ref l]) Q E s := by
  obtain ⟨c, tl, hmro⟩ := PySem.F.called_set.mro
  have hmade := PySem.F.called_set.made
  have hsub := PySem.F.called_set.sub
  have hlen : items.size = ns.length := by rw [← Array.length_toList]; exact hi.length
  refine wpAny_call (codeAny_of_tree ?_)
  show wpAny _ _ (callAny (.type "set") _) _ _ _
  refine wpAny_pure ⟨Code.quiet_builtin _ (by decide +kernel), codeAny_builtin PySem.F.entry_type_call ?_⟩
  rw [Around.under_plain (weight_type_call_type "set" [.ref l] []) rfl]
  have h1 := PySem.F.called_set.notType
  have h2 := PySem.F.called_set.canCreate
  have hct := PySem.F.typeCall_set_1 (.ref l)
  repeat (any_goals (first | assumption | wp_step))
  refine codeAny_mono (new_set (w := w) (.ref l) (E := E) (Q₁ := fun obj s₁ => ∃ led : Bool, (led = true ∨ w.params.followText "set-order" = true) ∧ obj = .ref s.heap.objs.size ∧ s₁ = { s with heap := s.heap.push { cls := .type "set", dict := none, data := .set #[] 0 (.fresh 0 0 led) } }) fun led hled => ⟨led, hled, rfl, rfl⟩) fun r s₁ hr => ?_
  cases r with
  | error e => exact hr
  | ok fl =>
    cases fl with
    | ret obj =>
      obtain ⟨led, hled, rfl, rfl⟩ := hr
      have hS : (s.heap.push { cls := .type "set", dict := none, data := .set #[] 0 (.fresh 0 0 led) }).get? s.heap.objs.size = some { cls := .type "set", dict := none, data := .set #[] 0 (.fresh 0 0 led) } := Heap.get?_push_size _ rfl
      have hT : Shared.TypeIs { s with heap := s.heap.push { cls := .type "set", dict := none, data := .set #[] 0 (.fresh 0 0 led) } } (.ref s.heap.objs.size) "set" := ⟨_, hS, rfl⟩
      have hli := PySem.F.called_set.init.lookup
      have hbi := PySem.F.called_set.init.bind (.ref s.heap.objs.size)
      repeat (any_goals (first | assumption | wp_step))
      refine codeAny_mono (codeAny_call_builtin (R := wants (fun r s₂ => r = .none ∧ ∃ h' tk o', s₂ = { s with heap := h', toks := tk } ∧ (∀ b o, s.heap.get? b = some o → h'.get? b = some o) ∧
          h'.get? s.heap.objs.size = some o' ∧ SetOk w o' (addFrom (fun i => ns.getD i 0) ns.length 0 [])) E) PySem.F.called_set.init.plain PySem.F.entry_set_init (check_set_init_1 hT ?_)) fun r₂ s₂ hr₂ => ?_
      · obtain ⟨ol, hol, hcl, nl, hdl⟩ := hl
        obtain ⟨ocls, odict, odata, oslots⟩ := ol
        simp only at hcl hdl
        subst hcl; subst hdl
        have hol' : (s.heap.push { cls := .type "set", dict := none, data := .set #[] 0 (.fresh 0 0 led) }).get? l = some { cls := .type "list", dict := odict, data := .seq items nl, slots := oslots } := Heap.get?_push_of_some _ hol
        have hsls := PySem.F.sub_list_set
        have hslf := PySem.F.sub_list_frozenset
        have hne : (Value.type "list" == Value.type "dict") = false := by decide
        have hl1 : (s.heap.push { cls := .type "set", dict := none, data := .set #[] 0 (.fresh 0 0 led) }).IsList l items := ⟨_, hol', rfl, nl, rfl⟩
        unfold Builtin.«set.__init__» noKeywords Builtin.Frozenset.updateFrom
        generalize hPI : pyIter = PI
        wp_walk
        subst hPI
        refine wpAny_pyIter_list hl1 ?_
        refine wpAny_bind (wpAny_runValue ?_)
        have hlS : l < s.heap.objs.size := Heap.lt_size hol
        have hh3 : A.in1.in1.in1.handled = none := hh
        have sz : (s.heap.push { cls := .type "set", dict := none, data := .set #[] 0 (.fresh 0 0 led) }).objs.size = s.heap.objs.size + 1 := Heap.size_push _ _
        have hneI : l ≠ (s.heap.push { cls := .type "set", dict := none, data := .set #[] 0 (.fresh 0 0 led) }).objs.size := by
          rw [sz]; exact Nat.ne_of_lt (Nat.lt_succ_of_lt hlS)
        have hSf : s.heap.objs.size ∉ [(s.heap.push { cls := .type "set", dict := none, data := .set #[] 0 (.fresh 0 0 led) }).objs.size, l] := by
          rw [sz]
          intro hm
          rcases List.mem_cons.mp hm with e | hm
          · exact absurd e (Nat.ne_of_lt (Nat.lt_succ_self _))
          · exact absurd (List.mem_singleton.mp hm) (Nat.ne_of_gt hlS)
        have hval : ∀ (i : Nat) (v : Value), items[i]? = some v → ∃ t, v = .int ((fun i => ns.getD i 0) i) t := fun i v hv =>
          hi.int_at i v (by rw [Array.getElem?_toList]; exact hv)
        refine upd_loop (Walks.list hh3 _ l hneI items) s.heap.objs.size hSf (fun i => ns.getD i 0) hval (fun i hi' => ?_) (by lia) ns.length 0 _ [] _ (by lia) (Nat.zero_le _)
          ⟨⟨_, Heap.get?_push_size _ rfl, rfl, rfl⟩, hl1.push _⟩ (Heap.get?_push_of_some _ hS) (setOk_fresh led hled) (Nat.le_refl _) fun h' tk o' hk ho' hS' => ?_
        · have hil : i < ns.length := by lia
          show 0 ≤ ns.getD i 0 ∧ ns.getD i 0 < 8
          rw [List.getD_eq_getElem?_getD, List.getElem?_eq_getElem hil]
          exact hr _ (List.getElem_mem hil)
        · show wpAny _ _ _ _ _ _
          refine wpAny_pure ?_
          show wpAny _ _ (ret Value.none) _ _ _
          refine wpAny_pure ⟨rfl, h', tk, o', rfl, fun b o e => ?_, ho', hS'⟩
          have hlt := Heap.lt_size e
          refine hk b o (Nat.ne_of_lt hlt) (fun hm => ?_) (Heap.get?_push_of_some _ (Heap.get?_push_of_some _ e))
          rw [List.mem_singleton.mp hm, sz] at hlt
          exact Nat.lt_irrefl _ (Nat.lt_of_succ_lt hlt)
      · cases r₂ with
        | error e => exact hr₂
        | ok fl₂ =>
          cases fl₂ with
          | ret r =>
            obtain ⟨rfl, h', tk, o', rfl, hk', ho', hS'⟩ := hr₂
            repeat (any_goals (first | assumption | wp_step))
            exact h _ _ _ hk' ho' hS'
          | _ => exact hr₂.elim
    | _ => exact hr.elim
end
end Mine

end

section
set_option maxRecDepth 100000
namespace Mine
variable {prog : Program} {w : World}

theorem slot_setit_next : Slot "set_iterator" "__next__" "set_iterator.__next__" :=
  .of (owner := "set_iterator") (n := "__next__") (by rw [typeLookup_type, builtinLookup_eq_fast]; kernel_rfl) (by decide +kernel) (by decide +kernel) (by decide +kernel)
    (by first | exact .inl (by decide +kernel) | exact .inr (by decide +kernel)) (by rw [isSubtype_type]; kernel_rfl)
theorem slot_setit_iter : Slot "set_iterator" "__iter__" "set_iterator.__iter__" :=
  .of (owner := "set_iterator") (n := "__iter__") (by rw [typeLookup_type, builtinLookup_eq_fast]; kernel_rfl) (by decide +kernel) (by decide +kernel) (by decide +kernel)
    (by first | exact .inl (by decide +kernel) | exact .inr (by decide +kernel)) (by rw [isSubtype_type]; kernel_rfl)
theorem entry_setit_next : entryFor table "set_iterator.__next__" = some Builtin.«set_iterator.__next__» := entryFor_of_tree (by kernel_rfl)
theorem entry_setit_iter : entryFor table "set_iterator.__iter__" = some Builtin.«dict_keyiterator.__iter__» :=
  entryFor_alias (id' := "dict_keyiterator.__iter__") (by kernel_rfl) rfl (by decide +kernel) (by kernel_rfl)
theorem entry_set_iter' : entryFor table "set.__iter__" = some Builtin.«frozenset.__iter__» :=
  entryFor_alias (id' := "frozenset.__iter__") (by kernel_rfl) rfl (by decide +kernel) (by kernel_rfl)
theorem owner_setit : Manifest.owners.lookup (String.ofList ['r', 'o', 't', 'a', 'r', 'e', 't', 'i', '_', 't', 'e', 's'].reverse) = some Manifest.sig_set_iterator := by kernel_rfl
theorem args_setit_next (a : Value) : argsOk "set_iterator.__next__" ⟨[a], []⟩ := by
  unfold argsOk; rw [signature?_of (id := "set_iterator.__next__") (n := ['_', '_', 't', 'x', 'e', 'n', '_', '_']) (o := ['r', 'o', 't', 'a', 'r', 'e', 't', 'i', '_', 't', 'e', 's']) (by kernel_rfl) owner_setit]; kernel_rfl
theorem args_setit_iter (a : Value) : argsOk "set_iterator.__iter__" ⟨[a], []⟩ := by
  unfold argsOk; rw [signature?_of (id := "set_iterator.__iter__") (n := ['_', '_', 'r', 'e', 't', 'i', '_', '_']) (o := ['r', 'o', 't', 'a', 'r', 'e', 't', 'i', '_', 't', 'e', 's']) (by kernel_rfl) owner_setit]; kernel_rfl

/-- the order in which a set is walked -/
noncomputable def ordOf (w : World) (a : Addr) (ep : Nat) (es : Array (Int × Value)) : Array (Int × Value) :=
  if w.params.followText "set-order" = true then pickOrder (w.params.setOrder a ep) es else es

theorem erase_perm {α : Type} : ∀ (l : List α) (i : Nat) (h : i < l.length), (l[i] :: l.eraseIdx i).Perm l
  | x :: r, 0, _ => .refl _
  | x :: r, i + 1, h => by
    have h' : i < r.length := by simpa using h
    rw [List.eraseIdx_cons_succ, List.getElem_cons_succ]
    exact (List.Perm.swap _ _ _).trans ((erase_perm r i h').cons x)

theorem pick_go {α : Type} (next : Nat → Nat) : ∀ (fuel k : Nat) (left : List α) (out : Array α), fuel = left.length → (pickOrder.go next fuel k left out).toList.Perm (out.toList ++ left)
  | 0, k, left, out, h => by
    have : left = [] := List.length_eq_zero_iff.mp h.symm
    subst this
    unfold pickOrder.go
    simp
  | fuel + 1, k, left, out, h => by
    unfold pickOrder.go
    have hpos : 0 < left.length := by lia
    have hlt := Nat.mod_lt (next k) hpos
    rw [List.getElem?_eq_getElem hlt]
    dsimp only
    have ih := pick_go next fuel (k + 1) (left.eraseIdx (next k % left.length)) (out.push left[next k % left.length]) (by rw [List.length_eraseIdx]; simp [hlt]; lia)
    refine ih.trans ?_
    rw [Array.toList_push, List.append_assoc]
    exact List.Perm.append_left _ (erase_perm left _ hlt)
theorem ord_perm (a : Addr) (ep : Nat) (es : Array (Int × Value)) : (ordOf w a ep es).toList.Perm es.toList := by
  unfold ordOf
  split
  · have := pick_go (w.params.setOrder a ep) es.size 0 es.toList #[] (by simp)
    simpa [pickOrder] using this
  · exact .refl _

noncomputable def slotFrom (xs : List Int) : Nat → Nat
  | 0 => 0
  | j + 1 => (xs.getD j 0).toNat + 1
noncomputable def slotAt (w : World) (xs : List Int) (i : Nat) : Nat := if w.params.followText "set-order" = true then 0 else slotFrom xs i

theorem below_at {t : SetTable} {xs : List Int} (hp : t.place.toList = xs.map Int.toNat) (hs : xs.Pairwise (· < ·)) (hr : ∀ x ∈ xs, 0 ≤ x ∧ x < 8) (i : Nat) (hi : i ≤ xs.length) :
    SetTable.below t.place (slotFrom xs i) = i := by
  have hsz : t.place.size = xs.length := by rw [← Array.length_toList, hp, List.length_map]
  have lt : ∀ (p q : Nat) (hq : q < xs.length) (hpq : p < q), xs[p]'(Nat.lt_trans hpq hq) < xs[q] := fun p q hq hpq => List.pairwise_iff_getElem.mp hs p q _ hq hpq
  refine below_is _ _ _ (by rw [hsz]; exact hi) (fun k hk => ?_) fun k h1 h2 => ?_
  · cases i with
    | zero => lia
    | succ j =>
      have hkl : k < xs.length := by lia
      have hjl : j < xs.length := by lia
      rw [place_get hp, List.getElem?_eq_getElem hkl]
      rw [slotFrom, List.getD_eq_getElem?_getD, List.getElem?_eq_getElem hjl]
      simp only [Option.map_some, Option.getD_some]
      have a1 := hr _ (List.getElem_mem hkl)
      have a2 := hr _ (List.getElem_mem hjl)
      by_cases q : k = j
      · subst q; lia
      · have := lt k j hjl (by lia); lia
  · rw [hsz] at h2
    rw [place_get hp, List.getElem?_eq_getElem h2]
    simp only [Option.map_some, Option.getD_some]
    cases i with
    | zero => exact Nat.zero_le _
    | succ j =>
      have hjl : j < xs.length := by lia
      rw [slotFrom, List.getD_eq_getElem?_getD, List.getElem?_eq_getElem hjl]
      simp only [Option.getD_some]
      have a1 := hr _ (List.getElem_mem h2)
      have a2 := hr _ (List.getElem_mem hjl)
      have := lt j k h2 (by lia)
      lia

section
variable {A : Around} {E : Value → Shared → Prop} {s : Shared}

/-- one step in a set -/
theorem set_next {a : Addr} {o : Obj} {xs : List Int} {es : Array (Int × Value)} {ep : Nat} {t : SetTable} {i : Nat} {Q : Option (Value × Nat) → Shared → Prop} (ho : s.heap.get? a = some o) (hd : o.data = .set es ep t)
    (hrows : SetRows es.toList xs) (hp : t.place.toList = xs.map Int.toNat) (hm : t.mask = 7) (hdm : t.dummies = #[]) (hpl : t.plain = true) (hled : t.led = true ∨ w.params.followText "set-order" = true) (hs : xs.Pairwise (· < ·)) (hr : ∀ x ∈ xs, 0 ≤ x ∧ x < 8) (hl : xs.length < 5) (hi : i ≤ xs.length)
    (hq : Q (((ordOf w a ep es)[i]?).map fun e => (e.2, slotAt w xs (i + 1))) s) : wpAny (model prog w) A (setNext a (slotAt w xs i) i ep) Q E s := by
  have hf := setOk_fits hrows hp hm hdm hl
  have hsz : es.size = xs.length := by rw [← Array.length_toList]; exact setRows_len hrows
  unfold setNext
  refine wpAny_bind (wpAny_setState_of ho hd hf ?_)
  dsimp only
  unfold setsByText
  refine wpAny_bind (wpAny_bind (wpAny_askSetting (wpAny_pure ?_)))
  show wpAny _ A (if w.params.followText "set-order" = true then _ else _) Q E s
  by_cases ht : w.params.followText "set-order" = true
  · have hq' : Q (((pickOrder (w.params.setOrder a ep) es)[i]?).map fun e => (e.2, 0)) s := by simpa [ordOf, slotAt, ht] using hq
    have hz : slotAt w xs i = 0 := by simp [slotAt, ht]
    rw [if_pos ht, hz]
    rw [if_neg (by simp)]
    refine wpAny_bind ?_
    unfold setWalk
    refine wpAny_bind (wpAny_setState_of ho hd hf ?_)
    dsimp only
    unfold setsByText
    refine wpAny_bind (wpAny_bind (wpAny_askSetting (wpAny_pure ?_)))
    show wpAny _ A (if w.params.followText "set-order" = true then _ else _) _ E s
    rw [if_pos ht]
    refine wpAny_bind (wpAny_askSetting (wpAny_pure ?_))
    exact wpAny_pure hq'
  · have hq' : Q ((es[i]?).map fun e => (e.2, slotAt w xs (i + 1))) s := by simpa [ordOf, ht] using hq
    have hled' : t.led = true := hled.resolve_right ht
    rw [if_neg ht]
    have hdr : ¬ ((!t.plain && decide (es.size > 1)) = true) := by rw [hpl]; simp
    show wpAny _ A (if (!t.plain && decide (es.size > 1)) = true then _ else _) Q E s
    rw [if_neg hdr]
    refine wpAny_bind ?_
    show wpAny _ A (if (!t.led && !es.isEmpty) = true then unsupported _ else pure ()) _ E s
    rw [if_neg (by rw [hled']; simp)]
    refine wpAny_pure (wpAny_pure ?_)
    have hbl : SetTable.below t.place (slotAt w xs i) = i := by
      have := below_at hp hs hr i hi
      unfold slotAt
      rw [if_neg ht]
      exact this
    rw [hbl]
    by_cases hlt : i < xs.length
    · have h1 : i < es.size := by lia
      have h2 : t.place[i]? = some (xs[i]).toNat := by
        rw [← Array.getElem?_toList, hp, List.getElem?_map, List.getElem?_eq_getElem hlt]; rfl
      rw [Array.getElem?_eq_getElem h1] at hq' ⊢
      rw [h2]
      dsimp only
      have h3 : slotAt w xs (i + 1) = (xs[i]).toNat + 1 := by
        unfold slotAt
        rw [if_neg ht]
        rw [slotFrom, List.getD_eq_getElem?_getD, List.getElem?_eq_getElem hlt]; rfl
      rw [h3] at hq'
      exact hq'
    · have h1 : es[i]? = none := Array.getElem?_eq_none (by lia)
      rw [h1] at hq' ⊢
      exact hq'
end
end Mine

end

section
set_option maxRecDepth 100000
namespace Mine
variable {prog : Program} {w : World}

noncomputable def itObj (w : World) (xs : List Int) (a : Addr) (ep i : Nat) : Obj :=
  { cls := .type "set_iterator", data := .fields #[.int (slotAt w xs i : Nat) 0, .int (i : Nat) 0, .ref a, .int (xs.length : Nat) 0, .int (ep : Nat) 0] }

section
variable {A : Around} {E : Value → Shared → Prop} {s : Shared}

theorem setIter_next {I a : Addr} {o : Obj} {xs : List Int} {es : Array (Int × Value)} {ep : Nat} {t : SetTable} {i : Nat} {v : Value} {h0 : Int} {Q : Option Value → Shared → Prop} (hI : s.heap.get? I = some (itObj w xs a ep i)) (ho : s.heap.get? a = some o) (hd : o.data = .set es ep t)
    (hrows : SetRows es.toList xs) (hp : t.place.toList = xs.map Int.toNat) (hm : t.mask = 7) (hdm : t.dummies = #[]) (hpl : t.plain = true) (hled : t.led = true ∨ w.params.followText "set-order" = true) (hs : xs.Pairwise (· < ·)) (hr : ∀ x ∈ xs, 0 ≤ x ∧ x < 8) (hl : xs.length < 5) (hi : i ≤ xs.length)
    (hx : (ordOf w a ep es)[i]? = some (h0, v)) (hQ : ∀ h', h'.get? I = some (itObj w xs a ep (i + 1)) → Heap.SameBut I s.heap h' → Q (some v) { s with heap := h' }) :
    wpAny (model prog w) A (pyNext (.ref I)) Q E s := by
  have hT : s.TypeIs (.ref I) "set_iterator" := ⟨_, hI, rfl⟩
  have hf := setOk_fits hrows hp hm hdm hl
  have hsz : es.size = xs.length := by rw [← Array.length_toList]; exact setRows_len hrows
  unfold pyNext
  refine wpAny_bind (wpAny_attempt (wpAny_callSpecial?_slot (name := Str.ofString "__next__") hT slot_setit_next
    (wpAny_call_entry slot_setit_next hT entry_setit_next ?_ (args_setit_next _))))
  refine wpAny_bind (wpAny_pure ?_)
  refine wpAny_bind (wpAny_fieldsOf hI rfl ?_)
  dsimp only
  refine wpAny_bind ?_
  unfold setEntries
  refine wpAny_bind (wpAny_setState_of ho hd hf (wpAny_pure ?_))
  rw [if_neg (by simp [hsz])]
  show wpAny _ _ (do match ← setNext a (((slotAt w xs i : Nat) : Int).toNat) ((i : Int).toNat) ((ep : Int).toNat) with
    | some (x, next) =>
      setField (.ref I) 0 (rawInt next)
      setField (.ref I) 1 (rawInt ((i : Int) + 1))
      ret x
    | none => setField (.ref I) 2 .none; raiseNew (← newExc (.type "StopIteration") [])) _ _ s
  rw [Int.toNat_natCast, Int.toNat_natCast, Int.toNat_natCast]
  refine wpAny_bind (set_next ho hd hrows hp hm hdm hpl hled hs hr hl hi ?_)
  rw [hx]
  show wpAny _ _ (setField (.ref I) 0 (rawInt (slotAt w xs (i + 1) : Nat)) >>= _) _ _ s
  refine wpAny_bind (wpAny_setField hI rfl (by simp) ?_)
  have g1 := Heap.get?_update_self (Obj.mapFields (·.setIfInBounds 0 (rawInt (slotAt w xs (i + 1) : Nat)))) hI rfl
  refine wpAny_bind (wpAny_setField g1 rfl (by simp [itObj]) ?_)
  have g2 := Heap.get?_update_self (Obj.mapFields (·.setIfInBounds 1 (rawInt ((i : Int) + 1)))) g1 rfl
  show wpAny _ _ (ret v) _ _ _
  refine wpAny_pure ⟨_, rfl, wpAny_pure (hQ _ ?_ ((Heap.SameBut.update ..).trans (Heap.SameBut.update ..)))⟩
  exact g2

theorem setIter_end {I a : Addr} {o : Obj} {xs : List Int} {es : Array (Int × Value)} {ep : Nat} {t : SetTable} {i : Nat} {Q : Option Value → Shared → Prop} (hh : A.handled = none) (hI : s.heap.get? I = some (itObj w xs a ep i)) (ho : s.heap.get? a = some o) (hd : o.data = .set es ep t)
    (hrows : SetRows es.toList xs) (hp : t.place.toList = xs.map Int.toNat) (hm : t.mask = 7) (hdm : t.dummies = #[]) (hpl : t.plain = true) (hled : t.led = true ∨ w.params.followText "set-order" = true) (hs : xs.Pairwise (· < ·)) (hr : ∀ x ∈ xs, 0 ≤ x ∧ x < 8) (hl : xs.length < 5) (hi : i ≤ xs.length)
    (hx : (ordOf w a ep es)[i]? = none) (hQ : ∀ h', Heap.ExtBut I s.heap h' → Q none { s with heap := h' }) :
    wpAny (model prog w) A (pyNext (.ref I)) Q E s := by
  have hT : s.TypeIs (.ref I) "set_iterator" := ⟨_, hI, rfl⟩
  have hf := setOk_fits hrows hp hm hdm hl
  have hsz : es.size = xs.length := by rw [← Array.length_toList]; exact setRows_len hrows
  unfold pyNext
  refine wpAny_bind (wpAny_attempt (wpAny_callSpecial?_slot (name := Str.ofString "__next__") hT slot_setit_next
    (wpAny_call_entry slot_setit_next hT entry_setit_next ?_ (args_setit_next _))))
  refine wpAny_bind (wpAny_pure ?_)
  refine wpAny_bind (wpAny_fieldsOf hI rfl ?_)
  dsimp only
  refine wpAny_bind ?_
  unfold setEntries
  refine wpAny_bind (wpAny_setState_of ho hd hf (wpAny_pure ?_))
  rw [if_neg (by simp [hsz])]
  show wpAny _ _ (do match ← setNext a (((slotAt w xs i : Nat) : Int).toNat) ((i : Int).toNat) ((ep : Int).toNat) with
    | some (x, next) =>
      setField (.ref I) 0 (rawInt next)
      setField (.ref I) 1 (rawInt ((i : Int) + 1))
      ret x
    | none => setField (.ref I) 2 .none; raiseNew (← newExc (.type "StopIteration") [])) _ _ s
  rw [Int.toNat_natCast, Int.toNat_natCast, Int.toNat_natCast]
  refine wpAny_bind (set_next ho hd hrows hp hm hdm hpl hled hs hr hl hi ?_)
  rw [hx]
  show wpAny _ _ (setField (.ref I) 2 .none >>= _) _ _ s
  refine wpAny_bind (wpAny_setField hI rfl (by simp) ?_)
  show wpAny _ _ (newExc (.type "StopIteration") [] >>= _) _ _ _
  refine wpAny_bind ?_
  simp only [newExc, newTuple]
  refine wpAny_bind (wpAny_newObj_type ?_ (by size_fits))
  refine wpAny_bind (m := firstArgMember _ _) (wpAny_of_eq (a := Value.none) (by first | rfl | (simp only [firstArgMember]; rfl)) ?_)
  refine wpAny_newObj_type ?_ (by size_fits)
  simp only [raiseNew]
  refine wpAny_bind (wpAny_handled ?_)
  rw [show A.in1.handled = none from hh]
  refine wpAny_bind (wpAny_pure (wpAny_throw ?_))
  refine wpAny_bind (wpAny_isInstance (T := "StopIteration") (b := true) ⟨_, Heap.get?_push_size _ rfl, rfl⟩ isSubtype_stop ?_)
  exact wpAny_pure (hQ _ (((Heap.SameBut.update ..).extBut.push _).push _))

theorem setIter_self {I a : Addr} {xs : List Int} {ep i : Nat} {Q : Value → Shared → Prop} (hI : s.heap.get? I = some (itObj w xs a ep i)) (h : Q (.ref I) s) : wpAny (model prog w) A (pyIter (.ref I)) Q E s := by
  have hT : s.TypeIs (.ref I) "set_iterator" := ⟨_, hI, rfl⟩
  refine wpAny_pyIter_slot hT slot_setit_iter (wpAny_call_entry slot_setit_iter hT entry_setit_iter ?_ (args_setit_iter _))
  show wpAny _ _ (ret (.ref I)) _ _ s
  exact wpAny_pure ⟨_, rfl, "set_iterator", _, hT, slot_setit_next.lookup, h⟩

theorem set_iter {a : Addr} {o : Obj} {xs : List Int} {es : Array (Int × Value)} {ep : Nat} {t : SetTable} {Q : Value → Shared → Prop} (ho : s.heap.get? a = some o) (hc : o.cls = .type "set") (hd : o.data = .set es ep t)
    (hrows : SetRows es.toList xs) (hp : t.place.toList = xs.map Int.toNat) (hm : t.mask = 7) (hdm : t.dummies = #[]) (hpl : t.plain = true) (hl : xs.length < 5)
    (hQ : Q (.ref s.heap.objs.size) { s with heap := s.heap.push (itObj w xs a ep 0) }) : wpAny (model prog w) A (pyIter (.ref a)) Q E s := by
  have hT : s.TypeIs (.ref a) "set" := ⟨_, ho, hc⟩
  have hf := setOk_fits hrows hp hm hdm hl
  have hsz : es.size = xs.length := by rw [← Array.length_toList]; exact setRows_len hrows
  refine wpAny_pyIter_slot hT PySem.F.slot_set_iter (wpAny_call_entry PySem.F.slot_set_iter hT entry_set_iter' ?_ (PySem.F.args_set_iter_1 _))
  refine wpAny_bind (wpAny_pure ?_)
  refine wpAny_bind ?_
  unfold Builtin.Frozenset.sizeOf setEntries
  refine wpAny_bind (wpAny_bind (wpAny_setState_of ho hd hf (wpAny_pure (wpAny_pure ?_))))
  refine wpAny_bind ?_
  unfold setDrawn
  refine wpAny_bind (wpAny_setState_of ho hd hf ?_)
  dsimp only
  unfold setsByText
  refine wpAny_bind (wpAny_bind (wpAny_askSetting (wpAny_pure ?_)))
  refine wpAny_pure ?_
  show wpAny _ _ (if (!w.params.followText "set-order" && (!t.plain && decide (es.size > 1))) = true then _ else _) _ _ s
  rw [if_neg (by rw [hpl]; simp)]
  refine wpAny_bind (wpAny_pure ?_)
  refine wpAny_bind ?_
  unfold setEpoch
  refine wpAny_bind (wpAny_setState_of ho hd hf (wpAny_pure ?_))
  refine wpAny_bind ?_
  show wpAny _ _ (newObj (.type "set_iterator") (.fields #[rawInt 0, rawInt 0, .ref a, rawInt (es.size : Nat), rawInt (ep : Nat)])) _ _ s
  refine wpAny_newObj_type ?_ (by size_fits)
  refine wpAny_pure ⟨_, rfl, "set_iterator", _, ⟨_, Heap.get?_push_size _ rfl, rfl⟩, slot_setit_next.lookup, ?_⟩
  have : itObj w xs a ep 0 = { cls := .type "set_iterator", data := .fields #[rawInt 0, rawInt 0, .ref a, rawInt (es.size : Nat), rawInt (ep : Nat)] } := by
    unfold itObj slotAt slotFrom rawInt
    rw [hsz]
    simp
  rw [← this]
  exact hQ
end
end Mine

end

section
set_option maxRecDepth 100000
namespace Mine
variable {prog : Program} {w : World}

section
variable {A : Around} {E : Value → Shared → Prop} {s : Shared}

theorem set_hint {r : Addr} {Q : Bool → Shared → Prop} (hT : s.TypeIs (.ref r) "set") (h : Q false s) : wpAny (model prog w) A (Builtin.List.listLengthHint (.ref r)) Q E s := by
  unfold Builtin.List.listLengthHint
  refine wpAny_bind (wpAny_specialOf hT PySem.F.slot_set_len.lookup ?_)
  generalize hid : ("set.__len__" : String) = id0
  wp_delta
  rw [show splitId id0 = some ("set", "__len__") from by subst hid; decide +kernel]
  subst hid
  refine wpAny_bind (wpAny_isInstance (T := "set") (b := true) hT (by rw [isSubtype_type]; kernel_rfl) ?_)
  refine wpAny_ite_split (fun hab => absurd hab (by decide)) (fun z0 => ?_)
  refine wpAny_ite_split (fun z0 => ?_) (fun hab => absurd (by decide +kernel) hab)
  refine wpAny_bind (wpAny_typeOf hT ?_)
  exact wpAny_pure h

theorem set_walks {a I : Addr} {o : Obj} {xs : List Int} {es : Array (Int × Value)} {ep : Nat} {t : SetTable} (hh : A.handled = none) (hd : o.data = .set es ep t) (hne : a ≠ I)
    (hrows : SetRows es.toList xs) (hp : t.place.toList = xs.map Int.toNat) (hm : t.mask = 7) (hdm : t.dummies = #[]) (hpl : t.plain = true) (hled : t.led = true ∨ w.params.followText "set-order" = true) (hs : xs.Pairwise (· < ·)) (hr : ∀ x ∈ xs, 0 ≤ x ∧ x < 8) (hl : xs.length < 5) :
    Walks prog w A I [I, a] [I] xs.length (fun i v => ∃ h0, (ordOf w a ep es)[i]? = some (h0, v)) (fun i h => h.get? I = some (itObj w xs a ep i) ∧ h.get? a = some o) where
  sub := fun b hb => by simp at hb; simp [hb]
  frame := fun z0 z0 z0 st hk => ⟨hk I (by simp) _ st.1, hk a (by simp) _ st.2⟩
  item := fun i s Q E hi st hQ => by
    have hsz : (ordOf w a ep es).size = xs.length := by
      rw [← Array.length_toList, (ord_perm a ep es).length_eq]; exact setRows_len hrows
    have hx : (ordOf w a ep es)[i]? = some (((ordOf w a ep es)[i]'(by lia)).1, ((ordOf w a ep es)[i]'(by lia)).2) := Array.getElem?_eq_getElem (by lia)
    refine setIter_next st.1 st.2 hd hrows hp hm hdm hpl hled hs hr hl (Nat.le_of_lt hi) hx fun h' g hsb => ?_
    exact hQ _ h' s.toks ⟨_, hx⟩ ⟨g, hsb.extBut a o hne st.2⟩ fun b o hb e => hsb.extBut b o (fun q => hb (by simp [q])) e
  done := fun s Q E st hQ => by
    have hsz : (ordOf w a ep es).size = xs.length := by
      rw [← Array.length_toList, (ord_perm a ep es).length_eq]; exact setRows_len hrows
    refine setIter_end hh st.1 st.2 hd hrows hp hm hdm hpl hled hs hr hl (Nat.le_refl _) (Array.getElem?_eq_none (by lia)) fun h' he => ?_
    exact hQ h' s.toks fun b o hb e => he b o (fun q => hb (by simp [q])) e
  self := fun i s Q E st hQ => setIter_self st.1 hQ

theorem set_src {a : Addr} {o : Obj} {xs : List Int} {es : Array (Int × Value)} {ep : Nat} {t : SetTable} (hc : o.cls = .type "set") (hd : o.data = .set es ep t)
    (hrows : SetRows es.toList xs) (hp : t.place.toList = xs.map Int.toNat) (hm : t.mask = 7) (hdm : t.dummies = #[]) (hpl : t.plain = true) (hled : t.led = true ∨ w.params.followText "set-order" = true) (hs : xs.Pairwise (· < ·)) (hr : ∀ x ∈ xs, 0 ≤ x ∧ x < 8) (hl : xs.length < 5) :
    KdlSrc prog w "set" a a xs.length (fun i v => ∃ h0, (ordOf w a ep es)[i]? = some (h0, v)) (fun h => h.get? a = some o) where
  type := fun s ho => ⟨_, ho, hc⟩
  there := fun h ho => ⟨Heap.lt_size ho, Heap.lt_size ho⟩
  keep := fun h h' ho hk => hk a (.inl rfl) o ho
  notList := by decide
  notTuple := by decide
  hint := fun z0 z0 s z0 ho hq => set_hint ⟨_, ho, hc⟩ hq
  iter := fun A s hh ho => ⟨_, _, (fun E Q hq => set_iter ho hc hd hrows hp hm hdm hpl hl hq), set_walks hh hd (Nat.ne_of_lt (Heap.lt_size ho)) hrows hp hm hdm hpl hled hs hr hl, ⟨Heap.get?_push_size _ rfl, Heap.get?_push_of_some _ ho⟩⟩

theorem collect_code {T : String} {r d : Addr} {n : Nat} {P : Nat → Value → Prop} {OK : Heap → Prop} {R : Result → Shared → Prop} (K : KdlSrc prog w T r d n P OK) (hh : A.handled = none) (hok : OK s.heap) (hn : n ≤ sizeLine)
    (hR : ∀ h' tk acc' c', (∀ b o, s.heap.get? b = some o → h'.get? b = some o) → h'.get? s.heap.objs.size = some { cls := .type "list", dict := none, data := .seq acc' c', slots := #[] } → ItemsOf P acc' n → R (.ok (.ret (.ref s.heap.objs.size))) { s with heap := h', toks := tk }) :
    codeAny (model prog w) A (.builtin "proto.collect" ⟨[.ref r], []⟩) R s := by
  have hlt := K.there _ hok
  refine codeAny_builtin entry_proto_collect' ?_
  show wpAny _ _ (do again (.builtin "list.__iadd__" ⟨[← newList [], .ref r], []⟩)) _ _ s
  refine wpAny_bind (wpAny_newList (wpAny_pure ⟨Code.quiet_builtin _ (by decide +kernel), codeAny_builtin entry_list_iadd' ?_⟩))
  show wpAny _ _ (Builtin.List.listExtendWith (.ref s.heap.objs.size) (.ref r) (.ref s.heap.objs.size)) _ _ { s with heap := s.heap.push (seqObj "list" #[] 0) }
  rw [Around.under_plainId (id := "list.__iadd__") (by decide +kernel) _]
  have hS : (s.heap.push (seqObj "list" #[] 0)).get? s.heap.objs.size = some { cls := .type "list", data := .seq #[] 0 } := Heap.get?_push_size _ rfl
  exact kdl_extend (s := { s with heap := s.heap.push (seqObj "list" #[] 0) }) (R := R) K hh (K.keep _ _ hok fun b z0 o e => Heap.get?_push_of_some _ e) s.heap.objs.size (Nat.ne_of_gt hlt.1) (Nat.ne_of_gt hlt.2) _ 0 hS (fun h' tk acc c' hk hS' hacc =>
    hR h' tk acc c' (fun b o e => hk b o (Nat.ne_of_lt (Heap.lt_size e)) (Heap.get?_push_of_some _ e)) hS' hacc) hn

/-- all items of a source, as a list -/
theorem collect_src {T : String} {r d : Addr} {n : Nat} {P : Nat → Value → Prop} {OK : Heap → Prop} {Q : List Value → Shared → Prop} (K : KdlSrc prog w T r d n P OK) (hh : A.handled = none) (hok : OK s.heap) (hn : n ≤ sizeLine)
    (hQ : ∀ vs h' tk, (∀ b o, s.heap.get? b = some o → h'.get? b = some o) → vs.length = n → (∀ j v, vs[j]? = some v → P j v) → Q vs { s with heap := h', toks := tk }) :
    wpAny (model prog w) A (collect (.ref r)) Q E s := by
  unfold collect
  refine wpAny_bind (wpAny_runValue (collect_code K hh hok hn fun h' tk acc c' hk hS' hacc => ?_))
  show wpAny (model prog w) A (do
      let o ← load s.heap.objs.size
      match o.data with
      | .seq xs _ => pure xs.toList
      | _ => unsupported "internal:collect") Q E _
  refine wpAny_bind (wpAny_load hS' ?_)
  refine wpAny_pure (hQ acc.toList h' tk hk (by rw [Array.length_toList]; exact hacc.1) fun j v e => hacc.2 j v (by rw [← Array.getElem?_toList]; exact e))

/-- sorted, its items at hand -/
theorem sorted_any {x : Value} {ns : List Int} {Q : Value → Shared → Prop} (hlen : ns.length < 64)
    (hc : ∀ Q' : List Value → Shared → Prop, (∀ vs ms h' tk, (∀ b o, s.heap.get? b = some o → h'.get? b = some o) → IntsAre vs ms → ms.Perm ns → Q' vs { s with heap := h', toks := tk }) → wpAny (model prog w) A.in1 (collect x) Q' E s)
    (hQ : ∀ D h' tk out c ms, (∀ b o, s.heap.get? b = some o → h'.get? b = some o) → s.heap.get? D = none → h'.get? D = some { cls := .type "list", data := .seq out c } → IntsAre out.toList ms → ms.Perm ns → ms.Pairwise (· ≤ ·) → Q (.ref D) { s with heap := h', toks := tk }) :
    wpAny (model prog w) A (call (.builtin "sorted") [x]) Q E s := by
  refine Calls.call_function_entry kind_sorted plain_sorted entry_sorted (args_sorted1 _) ?_
  unfold Builtin.«sorted»
  refine wpAny_bind (m := checkCount "sorted" 1 1 _) (wpAny_pure ?_)
  refine wpAny_bind (hc _ fun vs ms h₁ tk hk hI hperm => ?_)
  have hl : vs.length < 64 := by rw [hI.length, hperm.length_eq]; exact hlen
  refine wpAny_bind (wpAny_newList ?_ (by rw [sizeLine_eq]; lia))
  have hoL : (h₁.push (seqObj "list" vs.toArray 0)).get? h₁.objs.size = some (seqObj "list" vs.toArray 0) := Heap.get?_push_size _ rfl
  refine wpAny_bind (wpAny_holding (wpAny_call_entry slot_list_sort ⟨_, hoL, rfl⟩ entry_list_sort (list_sort_tree hoL hI hl fun out ns' a1 a2 a3 => ⟨_, rfl, ?_⟩) (args_list_sort _)))
  have ho1 := get?_update_seq hoL (fun z0 => #[])
  have hlt : h₁.objs.size < ((h₁.push (seqObj "list" vs.toArray 0)).update h₁.objs.size (Obj.mapSeq fun z0 => #[])).objs.size := Heap.lt_size ho1
  have ho2 := Heap.get?_push_of_some (seqObj "list" #[] 0) (Heap.get?_push_of_some (seqObj "tuple" vs.toArray 0) ho1)
  have ho3 := get?_update_seq ho2 (fun z0 => out)
  have hfresh : s.heap.get? h₁.objs.size = none := by
    cases e : s.heap.get? h₁.objs.size with
    | none => rfl
    | some o => exact absurd (Heap.lt_size (hk _ _ e)) (Nat.lt_irrefl _)
  refine wpAny_pure ⟨_, rfl, hQ h₁.objs.size (sortedHeap (h₁.push (seqObj "list" vs.toArray 0)) h₁.objs.size vs out) tk out _ ns' (fun b o e => ?_) hfresh ho3 a1 (a2.trans hperm) a3⟩
  have hb : b ≠ h₁.objs.size := fun q => by rw [q, hfresh] at e; cases e
  unfold sortedHeap
  have e1 : (h₁.push (seqObj "list" vs.toArray 0)).get? b = some o := Heap.get?_push_of_some _ (hk b o e)
  have e2 : ((h₁.push (seqObj "list" vs.toArray 0)).update h₁.objs.size (Obj.mapSeq fun z0 => #[])).get? b = some o := (Heap.get?_update_other _ _ (Ne.symm hb)).trans e1
  have e3 := Heap.get?_push_of_some (seqObj "list" #[] 0) (Heap.get?_push_of_some (seqObj "tuple" vs.toArray 0) e2)
  exact (Heap.get?_update_other _ _ (Ne.symm hb)).trans e3
end

noncomputable def isort : List Int → List Int
  | [] => []
  | x :: r => ins x (isort r)
where ins (x : Int) : List Int → List Int
  | [] => [x]
  | y :: r => if x ≤ y then x :: y :: r else y :: ins x r

theorem ins_perm (x : Int) : ∀ l, (isort.ins x l).Perm (x :: l)
  | [] => .refl _
  | y :: r => by
    rw [isort.ins]
    split
    · exact .refl _
    · exact ((ins_perm x r).cons y).trans (.swap _ _ _)
theorem isort_perm : ∀ l, (isort l).Perm l
  | [] => .refl _
  | x :: r => (ins_perm x _).trans ((isort_perm r).cons x)
theorem ins_sorted (x : Int) : ∀ l : List Int, l.Pairwise (· ≤ ·) → (isort.ins x l).Pairwise (· ≤ ·)
  | [], _ => by simp [isort.ins]
  | y :: r, h => by
    rw [isort.ins]
    have h' := h
    rw [List.pairwise_cons] at h
    split
    · rename_i hxy
      refine List.pairwise_cons.mpr ⟨fun z hz => ?_, h'⟩
      rcases List.mem_cons.mp hz with rfl | hz
      · exact hxy
      · have := h.1 z hz; lia
    · refine List.pairwise_cons.mpr ⟨fun z hz => ?_, ins_sorted x r h.2⟩
      rcases List.mem_cons.mp ((ins_perm x r).mem_iff.mp hz) with rfl | hz
      · lia
      · exact h.1 z hz
theorem isort_sorted : ∀ l, (isort l).Pairwise (· ≤ ·)
  | [] => .nil
  | x :: r => ins_sorted x _ (isort_sorted r)

noncomputable def sortedD : List D → Option D
  | [.list xs] => (intsOf xs).bind fun ns => if ns.length < 64 then some (.list ((isort ns).map .int)) else none
  | [.setI xs] => some (.list (xs.map .int))
  | _ => none

theorem sorted_same {xs ys : List Int} (hp : xs.Perm ys) (hx : xs.Pairwise (· ≤ ·)) (hy : ys.Pairwise (· ≤ ·)) : xs = ys :=
  List.Perm.eq_of_pairwise (le := (· ≤ ·)) (fun a b z0 z0 h1 h2 => Int.le_antisymm h1 h2) hx hy hp

theorem setRows_ints : ∀ {l : List (Int × Value)} {xs : List Int}, SetRows l xs → IntsAre (l.map (·.2)) xs
  | _, _, .nil => .nil
  | _, _, .cons (x := x) (t := t) r => .cons x t (setRows_ints r)
theorem ints_perm {vs : List Value} : ∀ {us : List Value} {xs : List Int}, vs.Perm us → IntsAre us xs → ∃ ys, IntsAre vs ys ∧ ys.Perm xs := by
  intro us xs hp
  induction hp generalizing xs with
  | nil => intro h; cases h; exact ⟨[], .nil, .refl _⟩
  | cons x p ih =>
    intro h
    cases h with
    | cons n t r =>
      obtain ⟨ys, a, b⟩ := ih r
      exact ⟨n :: ys, .cons n t a, b.cons n⟩
  | swap x y l =>
    intro h
    cases h with
    | cons n t r =>
      cases r with
      | cons m u r => exact ⟨_, .cons m u (.cons n t r), .swap _ _ _⟩
  | trans p q ih1 ih2 =>
    intro h
    obtain ⟨ys, a, b⟩ := ih2 h
    obtain ⟨zs, c, d⟩ := ih1 a
    exact ⟨zs, c, d.trans b⟩

set_option tactic.hygienic true in
theorem bi_sorted {ds : List D} {d : D} (e : sortedD ds = some d) : BiOk prog w (.builtin "sorted") ds d := by
  intro n A s E Q hot vs hA H hsm r hq
  unfold sortedD at e
  split at e <;> (try cases e)
  · simp only [Option.bind_eq_some_iff] at e
    obtain ⟨ns, hns, e⟩ := e
    split at e <;> cases e
    rename_i hlen
    cases r with
    | cons a b =>
      cases b
      obtain ⟨l, us, rfl, nl, il, rl⟩ := a.isList
      have hi := ints_of hns rl
      refine sorted_any (ns := ns) hlen (fun Q' h => ?_) fun D h' tk out c ms hk hD hget a1 a2 a3 => hq _ _ (keeps_both hk) (.list (H.fresh hD) hget ?_)
      · refine collect_list (vs := us.toList) (by simpa using il) ?_ (by rw [hi.length, sizeLine_eq]; lia)
        exact h us.toList ns ((s.heap.push (seqObj "list" #[] 0)).update s.heap.objs.size (Obj.mapSeq (· ++ us.toList.toArray))) s.toks (fun b o e => (Heap.get?_update_other _ _ (Nat.ne_of_gt (Heap.lt_size e))).trans (Heap.get?_push_of_some _ e)) hi (.refl _)
      · rw [sorted_same (a2.trans (isort_perm ns).symm) a3 (isort_sorted ns)] at a1
        exact reps_ints a1
  · rename_i xs
    cases r with
    | cons a b =>
      cases b
      cases a with
      | setI nh ho hS =>
        rename_i a o
        obtain ⟨hc, h2, h3, hs, hr, es, ep, T, hd, hrows, hp, hm, hdm, hpl, hled, hlen⟩ := hS
        refine sorted_any (ns := xs) (by lia) (fun Q' h => ?_) fun D h' tk out c ms hk hD hget a1 a2 a3 => hq _ _ (keeps_both hk) (.list (H.fresh hD) hget ?_)
        · refine collect_src (A := A.in1) (set_src hc hd hrows hp hm hdm hpl hled hs hr hlen) hA.handled ho (by rw [sizeLine_eq]; lia) fun vs h' tk hk hl hv => ?_
          have hperm := ord_perm (w := w) a ep es
          have hvs : vs = (ordOf w a ep es).toList.map (·.2) := by
            refine List.ext_getElem? fun j => ?_
            have hsz : (ordOf w a ep es).toList.length = xs.length := by rw [hperm.length_eq]; exact setRows_len hrows
            by_cases q : j < vs.length
            · obtain ⟨h0, e0⟩ := hv j _ (List.getElem?_eq_getElem q)
              rw [List.getElem?_eq_getElem q, List.getElem?_map, Array.getElem?_toList, e0]; rfl
            · rw [List.getElem?_eq_none (by lia), List.getElem?_eq_none (by rw [List.length_map]; lia)]
          obtain ⟨ys, hy1, hy2⟩ := ints_perm (vs := vs) (by rw [hvs]; exact hperm.map _) (setRows_ints hrows)
          exact h vs ys h' tk hk hy1 hy2
        · rw [sorted_same a2 a3 (hs.imp fun h => Int.le_of_lt h)] at a1
          exact reps_ints a1

noncomputable def setD : List D → Option D
  | [.list xs] => (intsOf xs).bind fun ns => if ns.all (fun n => decide (0 ≤ n ∧ n < 8)) ∧ ns.length ≤ 4 then some (.setI (addFrom (fun i => ns.getD i 0) ns.length 0 [])) else none
  | _ => none
theorem bi_set {ds : List D} {d : D} (e : setD ds = some d) : BiOk prog w (.type "set") ds d := by
  intro n A s E Q hot vs hA H hsm r hq
  unfold setD at e
  split at e <;> (try cases e)
  simp only [Option.bind_eq_some_iff] at e
  obtain ⟨ns, hns, e⟩ := e
  split at e <;> cases e
  rename_i hc
  obtain ⟨hc, hlen⟩ := hc
  cases r with
  | cons a b =>
    cases b
    obtain ⟨l, us, rfl, nl, il, rl⟩ := a.isList
    refine set_of_list hA.handled il (ints_of hns rl) (fun k hk => by have := List.all_eq_true.mp hc k hk; simpa using this) hlen fun h' tk o' hk ho' hS => hq _ _ (keeps_both hk) (.setI (H.new (Nat.le_refl _)) ho' hS)
end Mine

end

section
set_option maxRecDepth 100000
namespace Mine
variable {prog : Program} {w : World}

/-! ## sum -/
noncomputable def bigOk (n : Int) : Bool := decide (-1099511627776 ≤ n ∧ n ≤ 1099511627776)
noncomputable def sumD : List D → Option D := oneD fun d => (listOf d).bind fun xs => (intsOf xs).bind fun ns => if ns.all bigOk ∧ ns.length ≤ 1000 then some (.int ns.sum) else none

theorem preSum_take (ns : List Int) : ∀ j, j ≤ ns.length → preSum (fun i => ns.getD i 0) j = (ns.take j).sum
  | 0, _ => by simp [preSum]
  | j + 1, h => by
    rw [preSum, preSum_take ns j (by lia)]
    rw [List.getD_eq_getElem?_getD, List.getElem?_eq_getElem (by lia : j < ns.length), List.take_succ, List.getElem?_eq_getElem (by lia : j < ns.length), List.sum_append]
    simp
theorem sum_bound (ns : List Int) (h : ns.all bigOk = true) : -1099511627776 * (ns.length : Int) ≤ ns.sum ∧ ns.sum ≤ 1099511627776 * (ns.length : Int) := by
  induction ns with
  | nil => simp
  | cons x r ih =>
    rw [List.all_cons, Bool.and_eq_true] at h
    obtain ⟨h1, h2⟩ := h
    unfold bigOk at h1
    rw [decide_eq_true_eq] at h1
    have := ih h2
    rw [List.sum_cons, List.length_cons]
    lia

theorem bi_sum {ds : List D} {d : D} (e : sumD ds = some d) : BiOk prog w (.builtin "sum") ds d := by
  intro n A s E Q hot vs hA H hsm r hq
  cases one_is e r with
  | @mk v x a e =>
    obtain ⟨xs, hx, e1⟩ := Option.bind_eq_some_iff.mp e
    obtain ⟨ns, hns, e2⟩ := Option.bind_eq_some_iff.mp e1
    obtain ⟨⟨hc, hlen⟩, e3⟩ := ite_of e2
    cases listOf_is hx
    subst e3
    obtain ⟨l, us, nn, rfl, nl, hl, rl⟩ := a.isPlain
    have il : s.heap.IsList l us := ⟨_, hl, rfl, _, rfl⟩
    have hi := ints_of hns rl
    have hlt : l ≠ s.heap.objs.size := Nat.ne_of_lt (Heap.lt_size hl)
    have hsz : us.size = ns.length := by rw [← Array.length_toList]; exact hi.length
    refine call_sum_walk (wpAny_pyIter_list il ⟨_, _, _, us.size, _, _, fun i => ns.getD i 0, rfl, Walks.list (A := A.in1) hA.handled s.heap.objs.size l hlt us, ⟨⟨_, Heap.get?_push_size _ rfl, rfl, rfl⟩, ⟨_, Heap.get?_push_of_some _ hl, rfl, _, rfl⟩⟩, fun b hb => ?_, fun i v hv => ?_, fun j hj => ?_, fun h' tk t' hk => ?_⟩)
    · rw [Heap.size_push]
      rcases List.mem_cons.mp hb with q | q
      · rw [q]; exact Nat.lt_succ_self _
      · rw [List.mem_singleton.mp q]; exact Nat.lt_succ_of_lt (Heap.lt_size hl)
    · exact hi.int_at i v (by rw [Array.getElem?_toList]; exact hv)
    · have hjl : j < ns.length := by lia
      have h1 : bigOk (ns.getD j 0) = true := by
        rw [List.getD_eq_getElem?_getD, List.getElem?_eq_getElem hjl]
        exact List.all_eq_true.mp hc _ (List.getElem_mem hjl)
      unfold bigOk at h1
      rw [decide_eq_true_eq] at h1
      have h2 := sum_bound (ns.take (j + 1)) (List.all_eq_true.mpr fun x hx => List.all_eq_true.mp hc x (List.mem_of_mem_take hx))
      rw [List.length_take, Nat.min_eq_left (by lia)] at h2
      rw [preSum_take ns (j + 1) (by lia)]
      unfold InLong
      dsimp only
      constructor <;> constructor <;> lia
    · have := hq (.int (preSum (fun i => ns.getD i 0) us.size) t') { s with heap := h', toks := tk } (keeps_both fun b o g => hk b o (fun q => ?_) (Heap.get?_push_of_some _ g)) ?_
      · exact this
      · rw [List.mem_singleton.mp q] at g; exact Nat.lt_irrefl _ (Heap.lt_size g)
      · rw [hsz, preSum_take ns _ (Nat.le_refl _), List.take_length]; exact .int _ _

/-! ## issubclass -/
theorem nested_kind : builtinKind "issubclass.nested" = none := by decide +kernel
theorem nested_plain : plainId "issubclass.nested" = true := by decide +kernel
theorem nested_args (a b c : Value) : argsOk "issubclass.nested" ⟨[a, b, c], []⟩ := by unfold argsOk; kernel_rfl
theorem nested_str {A : Around} {E : Value → Shared → Prop} {s : Shared} {Q : Value → Shared → Prop} (hq : Q (.bool true) s) : wpAny (model prog w) A (call (.builtin "issubclass.nested") [.type "str", .type "str", .int 1 0]) Q E s := by
  refine call_function_any nested_kind nested_plain PySem.F.entry_issubclass_nested (nested_args _ _ _) ?_
  have hmt : typeOf (.type "str") = pure (.type "type") := meta_str
  have hss : isSubtype (.type "str") (.type "str") = pure true := by rw [isSubtype_type]; kernel_rfl
  repeat (any_goals (first | assumption | wp_step))

noncomputable def typ2 : List D → Option String
  | a :: r => (typOf a).bind fun t => (oneD (fun b => (typOf b).map fun z0 => b) r).map fun z0 => t
  | [] => none
noncomputable def tup2 : D → Option String
  | .tuple xs => typ2 xs
  | _ => none
theorem tup2_is {d : D} {t : String} (h : tup2 d = some t) : ∃ r, d = .tuple (.typ t :: r) := by
  cases d with
  | tuple xs => cases xs with
    | nil => exact none_ne h
    | cons a r =>
      obtain ⟨u, h1, h2⟩ := Option.bind_eq_some_iff.mp (show (typOf a).bind _ = some t from h)
      obtain ⟨b, _, rfl⟩ := Option.map_eq_some_iff.mp h2
      cases typOf_is h1
      exact ⟨r, rfl⟩
  | _ => exact none_ne h
noncomputable def issubD : List D → Option D := twoD fun x y => (typOf x).bind fun t => (tup2 y).bind fun a => if t = "str" ∧ a = "str" then some (.bool true) else none
set_option tactic.hygienic true in
theorem bi_issub {ds : List D} {d : D} (e : issubD ds = some d) : BiOk prog w (.builtin "issubclass") ds d := by
  intro n A s E Q hot vs hA H hsm r hq
  cases two_is e r with
  | @mk v u x y ra rb e =>
      obtain ⟨t, h1, e1⟩ := Option.bind_eq_some_iff.mp e
      obtain ⟨a, h2, e2⟩ := Option.bind_eq_some_iff.mp e1
      obtain ⟨⟨e3, e4⟩, e5⟩ := ite_of e2
      obtain ⟨r, h3⟩ := tup2_is h2
      cases typOf_is h1
      subst e3 e4 e5 h3
      cases ra.isTyp
      cases rb with
      | tuple nt ho hcl hd rl =>
        rename_i a o us n
        cases hu : us.toList with
        | nil => rw [hu] at rl; cases rl
        | cons u us' =>
          rw [hu] at rl
          cases rl with
          | cons r1 r2 =>
            cases r1
            have hT : s.TypeIs (.ref a) "tuple" := ⟨o, ho, hcl⟩
            refine call_function_any PySem.F.kind_issubclass PySem.F.plain_issubclass PySem.F.entry_issubclass (PySem.F.args_issubclass_2 _ _) ?_
            have hmt : typeOf (.type "str") = pure (.type "type") := meta_str
            obtain ⟨h, g, d, tk, os⟩ := s
            repeat (any_goals (first | assumption | wp_step))
            refine ⟨Code.quiet_builtin _ (by decide +kernel), codeAny_builtin PySem.F.entry_issubclass_nested ?_⟩
            rw [Around.under_plain (show (Code.builtin "issubclass.nested" ⟨[.type "str", .ref a, rawInt 0], []⟩).weight = 0 from rfl) rfl]
            have htt : isSubtype (.type "tuple") (.type "tuple") = pure true := by rw [isSubtype_type]; kernel_rfl
            have hss : isSubtype (.type "str") (.type "str") = pure true := by rw [isSubtype_type]; kernel_rfl
            repeat (any_goals (first | assumption | wp_step))
            rw [hd]
            refine wpAny_pure ?_
            have hus : us = (Value.type "str" :: us').toArray := by rw [← hu]
            subst hus
            refine wpAny_bind ?_
            show wpAny _ _ (forIn (Value.type "str" :: us').toArray _ _) _ _ _
            rw [List.forIn_toArray, List.forIn_cons]
            refine wpAny_bind (wpAny_bind (nested_str ?_))
            refine wpAny_bind (wpAny_truthy_bool ?_)
            simp only [if_true]
            exact wpAny_pure (wpAny_pure (wpAny_pure (hq _ _ (keeps_refl _) (.bool _))))
end Mine

end

section
set_option maxRecDepth 100000
namespace Mine
variable {prog : Program} {w : World}

theorem dictOf_step {K : Type} [DecidableEq K] {knd : KeyKind prog w K} {h h' : Heap} {a : Addr} {kvs : List (K × Value)} (x : h.DictOf knd a kvs) (k : Ext h h') : h'.DictOf knd a kvs := dictOf_at x fun o g => k a o g

theorem stored_len {K : Type} [DecidableEq K] (kvs : List (K × Value)) (k : K) (v : Value) : (stored kvs k v).length ≤ kvs.length + 1 := by
  unfold stored
  split <;> simp

/-! ## dict.fromkeys -/
noncomputable def putI (ks : List Int) (k : Int) : List Int := if k ∈ ks then ks else ks ++ [k]
noncomputable def keysD (xs : List D) : Option D :=
  match strsOf xs with
  | some ks => some (.dictS (ks.foldl putKey []))
  | none => (intsOf xs).map fun ks => .dictI (ks.foldl putI [])
theorem keysD_is {xs : List D} {d : D} (h : keysD xs = some d) : (∃ ks, strsOf xs = some ks ∧ d = .dictS (ks.foldl putKey [])) ∨ ∃ ks, intsOf xs = some ks ∧ d = .dictI (ks.foldl putI []) := by
  unfold keysD at h
  cases hs : strsOf xs with
  | some ks => rw [hs] at h; exact .inl ⟨ks, rfl, (Option.some.inj h).symm⟩
  | none =>
    rw [hs] at h
    obtain ⟨ks, h1, h2⟩ := Option.map_eq_some_iff.mp h
    exact .inr ⟨ks, h1, h2.symm⟩
noncomputable def fromkeysD : List D → Option D := oneD fun d => (listOf d).bind fun xs => if xs.length ≤ 1000000 then keysD xs else none
noncomputable def bytesOf : D → Option (Array UInt8)
  | .bytes b => some b
  | _ => none
theorem bytesOf_is {d : D} {b : Array UInt8} (h : bytesOf d = some b) : d = .bytes b := by
  cases d with
  | bytes c => exact congrArg D.bytes (Option.some.inj h)
  | _ => exact none_ne h

theorem entry_fk : entryFor table "dict.fromkeys" = some Builtin.«dict.fromkeys» := entryFor_of_tree (by kernel_rfl)
theorem entry_fkl : entryFor table "dict.fromkeys.loop" = some Builtin.«dict.fromkeys.loop» := entryFor_of_tree (by kernel_rfl)
theorem plain_fkl : plainId "dict.fromkeys.loop" = true := by decide +kernel
theorem type_fk : typeOf (.builtin "dict.fromkeys") = pure (.type "classmethod_descriptor") := by show builtinType _ = _; rw [builtinType_eq_fast]; kernel_rfl

noncomputable def boundFk : Obj := { cls := .type "builtin_function_or_method", data := .fields #[.builtin "dict.fromkeys", .type "dict"] }

section
variable {A : Around} {R : Result → Shared → Prop} {I : Addr} {fp wr : List Addr} {n : Nat} {P : Nat → Value → Prop} {St : Nat → Heap → Prop} {K : Type} [DecidableEq K] {knd : KeyKind prog w K}

noncomputable def storedFrom (val : Nat → K) : Nat → Nat → List (K × Value) → List (K × Value)
  | 0, _, kvs => kvs
  | k + 1, i, kvs => storedFrom val k (i + 1) (stored kvs (val i) .none)

theorem fk_loop (W : Walks prog w A.in1 I fp wr n P St) (S : Addr) (hSm : (S == sysModules) = false) (hSf : S ∉ fp) (val : Nat → K) (hval : ∀ i v, P i v → knd.is (val i) v = true) (hn : n ≤ 1000000) :
    ∀ (k i : Nat) (s : Shared) (kvs : List (K × Value)), n - i = k → i ≤ n → St i s.heap → s.heap.DictOf knd S kvs → kvs.length ≤ i →
      (∀ h' tk, (∀ b o, b ≠ S → b ∉ wr → s.heap.get? b = some o → h'.get? b = some o) → h'.DictOf knd S (storedFrom val k i kvs) → R (.ok (.ret (.ref S))) { s with heap := h', toks := tk }) →
      codeAny (model prog w) A (.builtin "dict.fromkeys.loop" ⟨[.ref S, .ref I, .none], []⟩) R s := by
  have hSw : S ∉ wr := fun h => hSf (W.sub _ h)
  intro k
  induction k with
  | zero =>
    intro i s kvs hk hi hst hS hl hR
    have hin : i = n := by lia
    subst hin
    refine codeAny_builtin entry_fkl ?_
    rw [Around.under_plainId plain_fkl _]
    show wpAny _ A.in1 (pyNext (.ref I) >>= _) _ _ s
    refine wpAny_bind (W.done s _ _ hst fun h' tk hk' => ?_)
    show wpAny _ A.in1 (ret (.ref S)) _ _ _
    exact wpAny_pure (hR h' tk (fun b o z0 nw g => hk' b o nw g) (dictOf_at hS fun o g => hk' S o hSw g))
  | succ k ih =>
    intro i s kvs hk hi hst hS hl hR
    have hlt : i < n := by lia
    refine codeAny_builtin entry_fkl ?_
    rw [Around.under_plainId plain_fkl _]
    show wpAny _ A.in1 (pyNext (.ref I) >>= _) _ _ s
    refine wpAny_bind (W.item i s _ _ hlt hst fun v h₁ tk hP hst' hk' => ?_)
    have hkey := hval i v hP
    have hS₁ := dictOf_at (h' := h₁) hS fun o g => hk' S o hSw g
    show wpAny _ A.in1 (typeOf (.ref S) >>= _) _ _ _
    refine wpAny_bind (wpAny_typeOf (T := "dict") hS₁.typeIs ?_)
    rw [if_pos (by decide)]
    refine wpAny_bind (wpAny_of_eq (a := S) rfl ?_)
    refine wpAny_bind (wpAny_holding ?_)
    refine wpAny_dictSet_pairs hkey hS₁ (fun h₂ hS₂ hsb => ?_) (by rw [sizeLine_eq]; lia)
    refine wpAny_pure ⟨plainId_quiet plain_fkl _, ih (i + 1) _ _ (by lia) hlt (W.frame _ h₁ _ hst' fun b hb o e => ?_) hS₂ (by have := stored_len kvs (val i) Value.none; lia) fun h₃ tk₃ hk₃ hS₃ => ?_⟩
    · rw [hsb.2 b (fun h : b = S => hSf (h ▸ hb))]; exact e
    · refine hR h₃ tk₃ (fun b o hb hw g => hk₃ b o hb hw ?_) hS₃
      rw [hsb.2 b hb]
      exact hk' b o hw g
end

section
variable {A : Around} {E : Value → Shared → Prop} {s : Shared}

theorem type_dict : isType (.type "dict") = pure true := by first | rfl | kernel_rfl | (unfold isType; rw [isSubtype_type]; kernel_rfl)

/-- an empty dict by its type -/
theorem dict0_args (a : Value) : argsOk "dict.__init__" ⟨[a], []⟩ := by
  unfold argsOk; rw [signature?_of (id := "dict.__init__") (n := ['_', '_', 't', 'i', 'n', 'i', '_', '_']) (o := ['t', 'c', 'i', 'd']) (by kernel_rfl) PySem.F.owner_dict]; kernel_rfl
theorem dict0_type : checkTypeCall "dict" ⟨[], []⟩ = pure () := by kernel_rfl
theorem dict0_new : checkBuiltinCall "dict.__new__" ⟨[.type "dict"], []⟩ = pure () := by kernel_rfl
theorem dict0_code {Q₁ : Value → Shared → Prop} (h : Q₁ (.ref s.heap.objs.size) { s with heap := s.heap.push { cls := .type "dict", data := .dict #[] } }) :
    codeAny (model prog w) A (.call (.builtin "dict.__new__") ⟨[.type "dict"], []⟩) (wants Q₁ E) s := by
  refine codeAny_call_builtin PySem.F.kt_plain_dict_new PySem.F.kt_entry_dict_new (wpAny_of_eq dict0_new ?_)
  have hsub := PySem.F.kt_sub_dict
  have hmro := PySem.F.kt_mro_dict
  obtain ⟨hp, g, d, tk, os⟩ := s
  unfold Builtin.«dict.__new__»
  wp_walk
  exact h
theorem dict0 {Q : Value → Shared → Prop} (h : Q (.ref s.heap.objs.size) { s with heap := s.heap.push { cls := .type "dict", data := .dict #[] } }) : wpAny (model prog w) A (call (.type "dict") []) Q E s := by
  refine callType_codes (Q₁ := fun obj s₁ => obj = .ref s.heap.objs.size ∧ s₁ = { s with heap := s.heap.push { cls := .type "dict", data := .dict #[] } }) PySem.F.kt_called_dict dict0_type PySem.F.entry_dict_init (dict0_code ⟨rfl, rfl⟩) ?_
  rintro obj s₁ ⟨rfl, rfl⟩
  have hT : Shared.TypeIs { s with heap := s.heap.push { cls := .type "dict", data := .dict #[] } } (.ref s.heap.objs.size) "dict" := ⟨_, Heap.get?_push_size _ rfl, rfl⟩
  refine ⟨hT, dict0_args _, ?_⟩
  unfold Builtin.«dict.__init__»
  refine wpAny_bind ?_
  unfold Builtin.Dict.selfAndRest
  refine wpAny_bind (wpAny_notOrdered_dict hT ?_)
  show wpAny _ _ (pure (s.heap.objs.size, [])) _ _ _
  refine wpAny_pure ?_
  exact wpAny_pure ⟨rfl, h⟩

theorem fk_owner : (kfb_private% "ownerAndName") "dict.fromkeys" = ("dict", "fromkeys") := by first | decide +kernel | kernel_rfl
theorem fk_get {M : Model} {P : Fin → Shared → Prop} (h : P (.done (.ret (.ref s.heap.objs.size))) { s with heap := s.heap.push boundFk }) :
    wpAny M A (Builtin.«classmethod_descriptor.__get__» ⟨[.builtin "dict.fromkeys", .none, .type "dict"], []⟩) P E s := by
  unfold Builtin.«classmethod_descriptor.__get__»
  refine wpAny_bind (wpAny_of_eq (a := (.builtin "dict.fromkeys", none, some (.type "dict"))) (by first | rfl | kernel_rfl) ?_)
  simp only [fk_owner]
  refine wpAny_bind (wpAny_of_eq (a := .type "dict") rfl ?_)
  refine wpAny_bind (wpAny_of_eq (a := true) type_dict ?_)
  refine KFB.if_not rfl ?_
  refine wpAny_bind (wpAny_of_eq (a := true) PySem.F.kt_sub_dict ?_)
  refine KFB.if_not rfl ?_
  exact wpAny_bind (wpAny_newObj_type (wpAny_pure h))

theorem in_nil (h : Heap) : Frag.In [] h := fun z0 z0 e => by cases e
theorem fk_found : findCls [] (.type "dict") (.type "type") (Str.ofString "fromkeys") = some (.get (.builtin "classmethod_descriptor.__get__") (.builtin "dict.fromkeys") .none (.type "dict")) := by kernel_rfl

theorem fk_method {pl : Sem Bool} {Q : Value × List Value → Shared → Prop} (h : Q (.ref s.heap.objs.size, []) { s with heap := s.heap.push boundFk, toks := s.toks + 1 }) :
    wpAny (model prog w) A (getMethod (.type "dict") (Str.ofString "fromkeys") pl) Q E s := by
  have X := in_nil s.heap
  have hstub : opaqueClassAbove (.type "dict") = pure none := by unfold opaqueClassAbove; dsimp only; rw [show Manifest.isStub "dict" = false by decide +kernel]; rfl
  have L0 : Looks (model prog w) s.heap (typeOf (.type "dict")) (.type "type") := Looks.of_pure meta_dict
  have hg : findIn [] (.type "type") "__getattribute__" = some (some (.builtin "type.__getattribute__")) := type_tga
  unfold getMethod specialOf
  refine wpAny_bind (wpAny_bind (L0.here ((looks_findIn X hg).here ?_)))
  dsimp only
  rw [if_pos canon_tga]
  refine wpAny_bind (wpAny_mono (Q := fun v => Q (v, [])) (E := E) ?_ (fun z0 z0 z => wpAny_pure z) fun z0 z0 z => z)
  have LO : Looks (model prog w) s.heap (opaqueClassAbove (.type "dict")) none := Looks.of_pure hstub
  refine cls_open X LO L0 hg (looks_hook X (r := none) (by rfl)) (by show subIn [] _ _ = _; rfl) fk_found ?_
  show wpAny _ _ (holding [.builtin "dict.fromkeys"] (call (.builtin "classmethod_descriptor.__get__") [.builtin "dict.fromkeys", .none, .type "dict"]) >>= fun v => ret v) _ _ _
  refine wpAny_bind (wpAny_holding (wpAny_call_entry KFB.slot_get type_fk KFB.entry_get (fk_get ⟨_, rfl, wpAny_pure (wpAny_pure h)⟩) (KFB.args_get _ _ _)))

theorem mt_found : findCls [] (.type "bytes") (.type "type") (Str.ofString "maketrans") = some (.val (.builtin "bytes.maketrans")) := by kernel_rfl
theorem mt_method {pl : Sem Bool} {Q : Value × List Value → Shared → Prop} (h : Q (.builtin "bytes.maketrans", []) { s with toks := s.toks + 1 }) :
    wpAny (model prog w) A (getMethod (.type "bytes") (Str.ofString "maketrans") pl) Q E s := by
  have X := in_nil s.heap
  have hstub : opaqueClassAbove (.type "bytes") = pure none := by unfold opaqueClassAbove; dsimp only; rw [show Manifest.isStub "bytes" = false by decide +kernel]; rfl
  have L0 : Looks (model prog w) s.heap (typeOf (.type "bytes")) (.type "type") := Looks.of_pure meta_bytes
  have hg : findIn [] (.type "type") "__getattribute__" = some (some (.builtin "type.__getattribute__")) := type_tga
  unfold getMethod specialOf
  refine wpAny_bind (wpAny_bind (L0.here ((looks_findIn X hg).here ?_)))
  dsimp only
  rw [if_pos canon_tga]
  refine wpAny_bind (wpAny_mono (Q := fun v => Q (v, [])) (E := E) ?_ (fun z0 z0 z => wpAny_pure z) fun z0 z0 z => z)
  have LO : Looks (model prog w) s.heap (opaqueClassAbove (.type "bytes")) none := Looks.of_pure hstub
  refine cls_open X LO L0 hg (looks_hook X (r := none) (by rfl)) (by show subIn [] _ _ = _; rfl) mt_found ?_
  show wpAny _ _ (ret (.builtin "bytes.maketrans")) _ _ _
  exact wpAny_pure (wpAny_pure h)

theorem fk_keeper {M : Model} {x : Addr} {Q : Keeper → Shared → Prop} (ho : s.heap.get? x = some boundFk) (h : Q .machine s) : wpAny M A (keeperOf (.ref x)) Q E s := by
  unfold keeperOf
  refine wpAny_bind (wpAny_load ho ?_)
  simp only [boundFk, show (Value.type "builtin_function_or_method" != Value.type "method") = true by decide, show (Value.type "builtin_function_or_method" == Value.type "builtin_function_or_method" || Value.type "builtin_function_or_method" == Value.type "method-wrapper") = true by decide, if_true]
  exact wpAny_pure h

theorem plain_fk : plainId "dict.fromkeys" = true := by decide +kernel
theorem fk_check {l : Addr} : checkBoundCall "dict.fromkeys" ⟨[.type "dict", .ref l], []⟩ = pure () := by first | kernel_rfl | rfl

theorem fk_call {K : Type} [DecidableEq K] {knd : KeyKind prog w K} {x l : Addr} {items : Array Value} {val : Nat → K} {Q : Value → Shared → Prop} (hh : A.handled = none) (ho : s.heap.get? x = some boundFk) (hl : s.heap.IsList l items) (hsm : s.heap.objs.size ≠ sysModules)
    (hval : ∀ (i : Nat) (v : Value), items[i]? = some v → knd.is (val i) v = true) (hn : items.size ≤ 1000000)
    (hQ : ∀ h' tk, (∀ b o, s.heap.get? b = some o → h'.get? b = some o) → h'.DictOf knd s.heap.objs.size (storedFrom val items.size 0 []) → Q (.ref s.heap.objs.size) { s with heap := h', toks := tk }) :
    wpAny (model prog w) A (call (.ref x) [.ref l]) Q E s := by
  refine wpAny_call (codeAny_of_tree ?_)
  show wpAny _ A.in1 (callAny (.ref x) ⟨[.ref l], []⟩) _ _ s
  simp only [callAny]
  refine wpAny_bind (wpAny_load ho ?_)
  simp only [boundFk, show (Value.type "builtin_function_or_method" == Value.type "method" || Value.type "builtin_function_or_method" == Value.type "builtin_function_or_method" || Value.type "builtin_function_or_method" == Value.type "method-wrapper") = true by decide, if_true]
  refine KFB.if_so (by decide) ?_
  refine wpAny_bind (wpAny_of_eq (a := ()) fk_check ?_)
  refine wpAny_bind (wpAny_pure (wpAny_pure ?_))
  refine ⟨plainId_quiet plain_fk _, codeAny_builtin entry_fk ?_⟩
  rw [Around.under_plainId plain_fk _]
  unfold Builtin.«dict.fromkeys»
  refine wpAny_bind (wpAny_of_eq (a := true) type_dict ?_)
  refine KFB.if_not rfl ?_
  refine wpAny_bind (wpAny_of_eq (a := true) PySem.F.kt_sub_dict ?_)
  refine KFB.if_not rfl ?_
  refine KFB.if_not rfl ?_
  refine wpAny_bind (wpAny_bind (wpAny_rule (wpAny_pure ?_)))
  refine wpAny_bind (wpAny_pure ?_)
  dsimp only
  refine wpAny_bind (m := call (.type "dict") []) (dict0 ?_)
  have hD : (s.heap.push { cls := .type "dict", data := .dict #[] }).DictOf knd s.heap.objs.size [] := Heap.DictOf.new s.heap
  have hl1 : (s.heap.push { cls := .type "dict", data := .dict #[] }).IsList l items := hl.push _
  refine wpAny_holding ?_
  refine wpAny_bind (wpAny_typeOf (T := "list") hl1.typeIs ?_)
  refine wpAny_bind (wpAny_typeOf (T := "dict") hD.typeIs ?_)
  rw [if_neg (by decide)]
  refine wpAny_bind (wpAny_typeOf (T := "dict") hD.typeIs ?_)
  rw [if_neg (by decide)]
  refine wpAny_bind (wpAny_pyIter_list hl1 ?_)
  have hlS : l < s.heap.objs.size := by obtain ⟨o, g, _⟩ := hl; exact Heap.lt_size g
  have sz : (s.heap.push { cls := .type "dict", data := .dict #[] }).objs.size = s.heap.objs.size + 1 := Heap.size_push _ _
  have hne : l ≠ (s.heap.push { cls := .type "dict", data := .dict #[] }).objs.size := by rw [sz]; exact Nat.ne_of_lt (Nat.lt_succ_of_lt hlS)
  have hSf : s.heap.objs.size ∉ [(s.heap.push { cls := .type "dict", data := .dict #[] }).objs.size, l] := by
    rw [sz]
    intro hm
    rcases List.mem_cons.mp hm with e | hm
    · exact absurd e (Nat.ne_of_lt (Nat.lt_succ_self _))
    · exact absurd (List.mem_singleton.mp hm) (Nat.ne_of_gt hlS)
  refine wpAny_pure ⟨plainId_quiet plain_fkl _, ?_⟩
  refine fk_loop (knd := knd) (Walks.list (A := A.in1) hh _ l hne items) s.heap.objs.size (by rw [beq_eq_false_iff_ne]; exact hsm) hSf val hval hn items.size 0 _ [] (by lia) (Nat.zero_le _)
    ⟨⟨_, Heap.get?_push_size _ rfl, rfl, rfl⟩, hl1.push _⟩ (hD.push _) (Nat.zero_le _) fun h' tk hk hS' => hQ h' tk (fun b o e => ?_) hS'
  have hlt := Heap.lt_size e
  refine hk b o (Nat.ne_of_lt hlt) (fun hm => ?_) (Heap.get?_push_of_some _ (Heap.get?_push_of_some _ e))
  rw [List.mem_singleton.mp hm, sz] at hlt
  exact Nat.lt_irrefl _ (Nat.lt_of_succ_lt hlt)
end

/-! the keys that come of it -/
theorem stored_none' {K : Type} [DecidableEq K] (ks : List K) (k : K) : stored (ks.map fun k => (k, Value.none)) k .none = (if k ∈ ks then ks else ks ++ [k]).map fun k => (k, Value.none) := by
  unfold stored
  have h1 : (ks.map fun k => (k, Value.none)).any (fun kv => kv.1 = k) = decide (k ∈ ks) := by
    rw [List.any_map, Bool.eq_iff_iff, List.any_eq_true, decide_eq_true_eq]
    constructor
    · rintro ⟨x, hx, he⟩
      have : x = k := by simpa using he
      exact this ▸ hx
    · intro h; exact ⟨k, h, by simp⟩
  rw [h1]
  by_cases h : k ∈ ks
  · rw [if_pos h, if_pos (by simpa using h), List.map_map]
    refine List.map_congr_left fun x z0 => ?_
    simp only [Function.comp]
    split <;> rfl
  · rw [if_neg h, if_neg (by simpa using h), List.map_append]; rfl

theorem storedFrom_keys {K : Type} [DecidableEq K] (put : List K → K → List K) (hput : ∀ ks k, put ks k = if k ∈ ks then ks else ks ++ [k]) (dflt : K) : ∀ (post pre ks : List K),
    storedFrom (fun i => (pre ++ post).getD i dflt) post.length pre.length (ks.map fun k => (k, Value.none)) = (post.foldl put ks).map fun k => (k, Value.none)
  | [], pre, ks => rfl
  | x :: r, pre, ks => by
    rw [List.length_cons, storedFrom]
    have e1 : (pre ++ x :: r).getD pre.length dflt = x := by
      rw [List.getD_eq_getElem?_getD, List.getElem?_append_right (Nat.le_refl _)]; simp
    rw [e1, stored_none', ← hput]
    have ih := storedFrom_keys put hput dflt r (pre ++ [x]) (put ks x)
    rw [List.append_assoc, List.length_append] at ih
    exact ih

theorem tyok_fk : TyOk prog w (.type "dict") (Str.ofString "fromkeys") fromkeysD := by
  intro n A s E Q pl hA hq
  refine fk_method (hq _ _ (keeps_both (ext_push _ _)) (fun A' s₁ Q' E' hx h => fk_keeper (hx _ _ (Heap.get?_push_size _ rfl)) h) fun m A' s₁ E' Q' hot vs ds d hA' hx H hsm r e hq' => ?_)
  have ho := hx _ _ (Heap.get?_push_size s.heap (o := boundFk) rfl)
  cases one_is e r with
  | @mk v x a e =>
    obtain ⟨xs, hx, e1⟩ := Option.bind_eq_some_iff.mp e
    obtain ⟨hlen, e2⟩ := ite_oo e1
    cases listOf_is hx
    obtain ⟨l, us, rfl, nl, il, rl⟩ := a.isList
    have hle : us.size = xs.length := rl.length
    have hnew : s₁.heap.objs.size ≠ sysModules := fun q => H.new (Nat.le_refl _) (q ▸ hsm)
    rcases keysD_is e2 with ⟨ks, hks, rfl⟩ | ⟨ks, hks, rfl⟩
    · have hi := strs_of hks rl
      refine fk_call (knd := strKind prog w) (val := fun i => ks.getD i Str.empty) hA'.handled ho il hnew (fun i v hv => ?_) (by lia) fun h' tk hk hD => hq' _ _ (keeps_both hk) (.dictS (H.new (Nat.le_refl _)) ?_)
      · obtain ⟨y, t, rfl, hy⟩ := hi.item i v (by rw [Array.getElem?_toList]; exact hv)
        rw [List.getD_eq_getElem?_getD, hy]
        exact strKind_is prog w y t
      · have hsz : us.size = ks.length := by rw [← Array.length_toList]; exact hi.length
        have := storedFrom_keys putKey (fun z0 z0 => rfl) Str.empty ks [] []
        rw [hsz] at hD
        have e2 : storedFrom (fun i => ks.getD i Str.empty) ks.length 0 [] = (ks.foldl putKey []).map fun k => (k, Value.none) := this
        rw [e2] at hD
        exact hD
    · have hi := ints_of hks rl
      refine fk_call (knd := intKind prog w) (val := fun i => ks.getD i 0) hA'.handled ho il hnew (fun i v hv => ?_) (by lia) fun h' tk hk hD => hq' _ _ (keeps_both hk) (.dictI (H.new (Nat.le_refl _)) ?_)
      · obtain ⟨t, rfl⟩ := hi.int_at i v (by rw [Array.getElem?_toList]; exact hv)
        exact intKind_is prog w _ t
      · have hsz : us.size = ks.length := by rw [← Array.length_toList]; exact hi.length
        have := storedFrom_keys putI (fun z0 z0 => rfl) (0 : Int) ks [] []
        rw [hsz] at hD
        have e2 : storedFrom (fun i => ks.getD i 0) ks.length 0 [] = (ks.foldl putI []).map fun k => (k, Value.none) := this
        rw [e2] at hD
        exact hD

/-! ## translation of bytes -/
noncomputable def transTable (f t : Array UInt8) : Array UInt8 := (f.toList.zip t.toList).foldl (fun a (p : UInt8 × UInt8) => a.setIfInBounds p.1.toNat p.2) ((Array.range 256).map (·.toUInt8))
noncomputable def maketransD : List D → Option D := twoD fun a b => (bytesOf a).bind fun f => (bytesOf b).bind fun t => if f.size = t.size then some (.bytes (transTable f t)) else none
theorem entry_mt : entryFor table "bytes.maketrans" = some Builtin.«bytes.maketrans» := entryFor_of_tree (by kernel_rfl)
theorem plain_mt : plainId "bytes.maketrans" = true := by decide +kernel
theorem check_mt (f t : Array UInt8) (u v : Tok) : checkBuiltinCall "bytes.maketrans" ⟨[.bytes f u, .bytes t v], []⟩ = pure () := by kernel_rfl
theorem transTable_size (f t : Array UInt8) : (transTable f t).size = 256 := by
  unfold transTable
  have : ∀ (l : List (UInt8 × UInt8)) (a : Array UInt8), (l.foldl (fun a (p : UInt8 × UInt8) => a.setIfInBounds p.1.toNat p.2) a).size = a.size := by
    intro l
    induction l with
    | nil => intro a; rfl
    | cons p r ih => intro a; rw [List.foldl_cons, ih]; simp
  rw [this]; simp

theorem mt_call {A : Around} {E : Value → Shared → Prop} {s : Shared} {f t : Array UInt8} {u v : Tok} {Q : Value → Shared → Prop} (hs : f.size = t.size) (hq : Q (.bytes (transTable f t) s.toks) { s with toks := s.toks + 1 }) :
    wpAny (model prog w) A (call (.builtin "bytes.maketrans") [.bytes f u, .bytes t v]) Q E s := by
  refine wpAny_call (codeAny_call_builtin plain_mt entry_mt (wpAny_of_eq (check_mt f t u v) ?_))
  show wpAny _ _ (Builtin.Bytes.maketransM .bytes ⟨[.bytes f u, .bytes t v], []⟩) _ _ s
  unfold Builtin.Bytes.maketransM
  refine wpAny_bind (wpAny_of_eq (a := ()) rfl ?_)
  refine wpAny_bind (wpAny_of_eq (a := ()) rfl ?_)
  refine wpAny_bind (wpAny_of_eq (a := f) KBd.like_eq ?_)
  refine wpAny_bind (wpAny_of_eq (a := t) KBd.like_eq ?_)
  refine KFB.if_not (by rw [hs]; simp) ?_
  refine wpAny_bind ?_
  show wpAny _ _ (mkBytes (transTable f t)) _ _ s
  unfold mkBytes
  rw [if_neg (by rw [transTable_size]; decide)]
  refine wpAny_bind (wpAny_fresh (wpAny_pure ?_))
  exact wpAny_pure hq

theorem tyok_mt : TyOk prog w (.type "bytes") (Str.ofString "maketrans") maketransD := by
  intro n A s E Q pl hA hq
  refine mt_method (hq _ _ (keeps_tok _) (fun A' s₁ Q' E' hx h => keeper_flat (fun a => by intro z; cases z) h) fun m A' s₁ E' Q' hot vs ds d hA' hx H hsm r e hq' => ?_)
  cases two_is e r with
  | @mk v u x y a b e =>
    obtain ⟨f, h1, e1⟩ := Option.bind_eq_some_iff.mp e
    obtain ⟨t, h2, e2⟩ := Option.bind_eq_some_iff.mp e1
    obtain ⟨hs, e3⟩ := ite_of e2
    cases bytesOf_is h1
    cases bytesOf_is h2
    subst e3
    obtain ⟨_, rfl⟩ := a.isBytes
    obtain ⟨_, rfl⟩ := b.isBytes
    exact mt_call hs (hq' _ _ (keeps_tok _) (.bytes _ _))

noncomputable def transD (b t : Array UInt8) : Array UInt8 := b.map fun c => t.getD c.toNat c
noncomputable def translateD : List D → Option D := twoD fun a b => (bytesOf a).bind fun b' => (bytesOf b).bind fun t => if t.size = 256 ∧ b'.size ≤ 1000000 then some (.bytes (transD b' t)) else none
theorem entry_tr : entryFor table "bytes.translate" = some Builtin.«bytes.translate» := entryFor_of_tree (by kernel_rfl)
theorem slot_tr : Slot "bytes" "translate" "bytes.translate" :=
  .of (owner := "bytes") (n := "translate") (by rw [typeLookup_type, builtinLookup_eq_fast]; kernel_rfl) (by decide +kernel) (by decide +kernel) (by decide +kernel)
    (by first | exact .inl (by decide +kernel) | exact .inr (by decide +kernel)) (by rw [isSubtype_type]; kernel_rfl)
theorem type_tr : typeOf (.builtin "bytes.translate") = pure (.type "method_descriptor") := by show builtinType _ = _; rw [builtinType_eq_fast]; kernel_rfl
theorem owner_bytes' : Manifest.owners.lookup (String.ofList ['s', 'e', 't', 'y', 'b'].reverse) = some Manifest.sig_bytes := by kernel_rfl
theorem args_tr (a b : Value) : argsOk "bytes.translate" ⟨[a, b], []⟩ := by
  unfold argsOk; rw [signature?_of (id := "bytes.translate") (n := ['e', 't', 'a', 'l', 's', 'n', 'a', 'r', 't']) (o := ['s', 'e', 't', 'y', 'b']) (by kernel_rfl) owner_bytes']; kernel_rfl

theorem bi_translate {ds : List D} {d : D} (e : translateD ds = some d) : BiOk prog w (.builtin "bytes.translate") ds d := by
  intro n A s E Q hot vs hA H hsm r hq
  cases two_is e r with
  | @mk v v' x y ra rb e =>
      obtain ⟨b, h1, e1⟩ := Option.bind_eq_some_iff.mp e
      obtain ⟨t, h2, e2⟩ := Option.bind_eq_some_iff.mp e1
      obtain ⟨⟨ht, hb⟩, e3⟩ := ite_of e2
      cases bytesOf_is h1
      cases bytesOf_is h2
      subst e3
      obtain ⟨u, rfl⟩ := ra.isBytes
      obtain ⟨v, rfl⟩ := rb.isBytes
      refine wpAny_call (codeAny_call_builtin slot_tr.plain entry_tr (slot_tr.check _ _ _ _ _ _ _ _ (typeIs_bytes s b u) (args_tr _ _) ?_))
      show wpAny _ _ (Builtin.Bytes.translateM .bytes ⟨[.bytes b u, .bytes t v], []⟩) _ _ s
      unfold Builtin.Bytes.translateM
      dsimp only
      rw [if_neg (by simp)]
      refine KFB.if_not rfl ?_
      refine KFB.if_not rfl ?_
      refine wpAny_bind (wpAny_of_eq (a := t) KBd.like_eq ?_)
      refine KFB.if_not (by rw [ht]; rfl) ?_
      refine wpAny_bind (wpAny_pure ?_)
      refine wpAny_bind (wpAny_of_eq (a := #[]) rfl ?_)
      refine wpAny_bind (wpAny_of_eq (a := b) rfl ?_)
      have hf : Array.filter (fun x => !(#[] : Array UInt8).contains x) b = b := by simp
      dsimp only
      rw [hf]
      by_cases hout : (transD b t == b) = true
      · have he : transD b t = b := by simpa using hout
        refine KFB.if_so hout ?_
        refine wpAny_bind (wpAny_rule (wpAny_pure ?_))
        rw [he] at hq
        exact hq _ _ (keeps_refl s) (.bytes _ _)
      · have hout' : (transD b t == b) = false := by simpa using hout
        refine KFB.if_not hout' ?_
        refine wpAny_bind ?_
        show wpAny _ _ (mkBytes (transD b t)) _ _ s
        unfold mkBytes
        rw [if_neg (by unfold transD; rw [Array.size_map, sizeLine_eq]; lia)]
        refine wpAny_bind (wpAny_fresh (wpAny_pure ?_))
        exact wpAny_pure (hq _ _ (keeps_tok _) (.bytes _ _))
end Mine

end

section
set_option maxRecDepth 100000
namespace Mine
variable {prog : Program} {w : World}

/-! ## the table of the built-in ones -/
noncomputable def lookT {κ α : Type} [DecidableEq κ] (f : String → κ) (k : κ) : List (String × α) → Option α
  | [] => none
  | p :: r => if k = f p.1 then some p.2 else lookT f k r
noncomputable def AllT {α : Type} (P : String → α → Prop) : List (String × α) → Prop
  | [] => True
  | p :: r => P p.1 p.2 ∧ AllT P r
theorem ite_or {α : Type} {c : Prop} [Decidable c] {x : α} {y : Option α} {r : α} (h : (if c then some x else y) = some r) : (c ∧ x = r) ∨ y = some r := by
  by_cases hc : c
  · rw [if_pos hc] at h; exact .inl ⟨hc, Option.some.inj h⟩
  · rw [if_neg hc] at h; exact .inr h
theorem lookT_is {κ α : Type} [DecidableEq κ] {f : String → κ} {k : κ} {P : String → α → Prop} {a : α} : ∀ {l : List (String × α)}, AllT P l → lookT f k l = some a → ∃ n, k = f n ∧ P n a
  | [], _, e => nomatch e
  | p :: r, h, e => (ite_or e).elim (fun x => ⟨p.1, x.1, x.2 ▸ h.1⟩) fun x => lookT_is h.2 x
noncomputable def biL : List (String × (List D → Option D)) := [("abs", absD), ("len", lenD), ("sorted", sortedD), ("chr", chrD), ("sum", sumD), ("isinstance", isinstD), ("issubclass", issubD),
  ("str.startswith", str2D startsD), ("str.endswith", str2D endsD), ("str.rfind", str2D rfindD), ("str.rstrip", str2D rstripD), ("str.split", str2D splitD), ("str.join", joinD), ("list.index", indexD), ("bytes.translate", translateD)]
noncomputable def tyL : List (String × (List D → Option D)) := [("range", rangeD), ("list", listD), ("set", setD), ("bytes", bytesD), ("type", typeD)]
noncomputable def biD (f : Value) (ds : List D) : Option D := match f with
  | .builtin id => (lookT (fun s => s) id biL).bind fun F => F ds
  | .type n => (lookT (fun s => s) n tyL).bind fun F => F ds
  | _ => none
theorem biL_ok : AllT (fun n F => ∀ {ds d}, F ds = some d → BiOk prog w (.builtin n) ds d) biL :=
  And.intro bi_abs <| And.intro bi_len <| And.intro bi_sorted <| And.intro bi_chr <| And.intro bi_sum <| And.intro bi_isinst <| And.intro bi_issub <| And.intro bi_starts <| And.intro bi_ends <|
  And.intro bi_rfind <| And.intro bi_rstrip <| And.intro bi_split <| And.intro bi_join <| And.intro bi_index <| And.intro bi_translate trivial
theorem tyL_ok : AllT (fun n F => ∀ {ds d}, F ds = some d → BiOk prog w (.type n) ds d) tyL :=
  And.intro bi_range <| And.intro bi_list <| And.intro bi_set <| And.intro bi_bytes <| And.intro bi_type trivial
theorem biD_ok {f : Value} {ds : List D} {d : D} (e : biD f ds = some d) : BiOk prog w f ds d := by
  unfold biD at e
  cases f with
  | builtin id =>
    obtain ⟨F, e1, e2⟩ := Option.bind_eq_some_iff.mp e
    obtain ⟨n, h1, h⟩ := lookT_is biL_ok e1
    exact h1 ▸ h e2
  | type id =>
    obtain ⟨F, e1, e2⟩ := Option.bind_eq_some_iff.mp e
    obtain ⟨n, h1, h⟩ := lookT_is tyL_ok e1
    exact h1 ▸ h e2
  | _ => exact none_ne e

noncomputable def strL : List (String × String) := [("startswith", "str.startswith"), ("endswith", "str.endswith"), ("rfind", "str.rfind"), ("rstrip", "str.rstrip"), ("split", "str.split"), ("join", "str.join")]
noncomputable def methD (d : D) (name : Str) : Option (String × String) := match d with
  | .str _ => (lookT Str.ofString name strL).map fun id => ("str", id)
  | .list _ => if name = Str.ofString "index" then some ("list", "list.index") else none
  | .bytes _ => if name = Str.ofString "translate" then some ("bytes", "bytes.translate") else none
  | _ => none
theorem strL_ok : AllT (fun n id => Slot "str" (Str.ofString n) id ∧ typeOf (.builtin id) = pure (.type "method_descriptor")) strL :=
  And.intro ⟨PySem.F.slot_str_startswith, PySem.F.type_str_startswith⟩ <| And.intro ⟨PySem.F.slot_str_endswith, PySem.F.type_str_endswith⟩ <| And.intro ⟨PySem.F.slot_str_rfind, PySem.F.type_str_rfind⟩ <|
  And.intro ⟨PySem.F.slot_str_rstrip, PySem.F.type_str_rstrip⟩ <| And.intro ⟨PySem.F.slot_str_split, PySem.F.type_str_split⟩ <| And.intro ⟨PySem.F.slot_str_join, PySem.F.type_str_join⟩ trivial

theorem meth_str {hot : Addr → Prop} (x : Str) (s : Shared) (v : Value) (r : Rep prog w hot s.heap v (.str x)) : s.TypeIs v "str" ∧ ∀ a, v = .ref a → ∃ ob, s.heap.get? a = some ob ∧ ob.dict = none := by
  cases r; exact ⟨typeIs_str _ _ _, fun a e => by cases e⟩

theorem methD_ok {d : D} {name : Str} {Tn id : String} (e : methD d name = some (Tn, id)) : PlainAttrs Tn ∧ Slot Tn name id ∧ typeOf (.builtin id) = pure (.type "method_descriptor") ∧
    ∀ hot (s : Shared) v, Rep prog w hot s.heap v d → s.TypeIs v Tn ∧ ∀ a, v = .ref a → ∃ ob, s.heap.get? a = some ob ∧ ob.dict = none := by
  unfold methD at e
  cases d with
  | str x =>
    obtain ⟨i, e1, e2⟩ := Option.map_eq_some_iff.mp e
    obtain ⟨n, h1, h⟩ := lookT_is strL_ok e1
    obtain ⟨rfl, rfl⟩ := Prod.mk.inj e2
    exact ⟨PySem.F.plainAttrs_str, h1 ▸ h.1, h.2, fun hot s v r => meth_str x s v r⟩
  | list x =>
    replace e := ite_of e
    obtain ⟨h, e⟩ := e
    obtain ⟨rfl, rfl⟩ := Prod.mk.inj e
    refine ⟨PySem.F.plainAttrs_list, h ▸ PySem.F.slot_list_index, PySem.F.type_list_index, fun hot s v r => ?_⟩
    obtain ⟨l, vs, n, rfl, nl, hl, rl⟩ := r.isPlain
    exact ⟨⟨_, hl, rfl⟩, fun a e => Value.ref.inj e ▸ ⟨_, hl, rfl⟩⟩
  | bytes x =>
    replace e := ite_of e
    obtain ⟨h, e⟩ := e
    obtain ⟨rfl, rfl⟩ := Prod.mk.inj e
    refine ⟨FB.plainAttrs_bytes, h ▸ slot_tr, type_tr, fun hot s v r => ?_⟩
    obtain ⟨t, rfl⟩ := r.isBytes
    exact ⟨typeIs_bytes _ _ _, fun a e => nomatch e⟩
  | _ => exact none_ne e

noncomputable def bvL : List (String × Value) := [("abs", .builtin "abs"), ("len", .builtin "len"), ("sorted", .builtin "sorted"), ("chr", .builtin "chr"), ("sum", .builtin "sum"), ("isinstance", .builtin "isinstance"), ("issubclass", .builtin "issubclass"),
  ("range", .type "range"), ("list", .type "list"), ("set", .type "set"), ("bytes", .type "bytes"), ("type", .type "type")]
noncomputable def bvD (x : Str) : Option Value := lookT Str.ofString x bvL
noncomputable def tyD (t name : Str) : Option (List D → Option D) :=
  if t = Str.ofString "dict" ∧ name = Str.ofString "fromkeys" then some fromkeysD else if t = Str.ofString "bytes" ∧ name = Str.ofString "maketrans" then some maketransD else none
noncomputable def typeNames : List String := ["bytes", "bytearray", "bool", "int", "float", "complex", "str", "list", "tuple", "dict", "set", "frozenset", "range"]
noncomputable def b64 : Array UInt8 := (((List.range 26).map (65 + ·) ++ (List.range 26).map (97 + ·) ++ (List.range 10).map (48 + ·) ++ [43, 47]).map Nat.toUInt8).toArray
noncomputable def cstD (x : Str) : Option D :=
  if x = Str.ofString "_B64" then some (.bytes b64) else (typeNames.find? fun n => Str.ofString n = x).map .typ

noncomputable def T0 : Tab where
  fn := fun z0 => none
  cst := cstD
  bv := bvD
  bi := biD
  meth := methD
  ty := tyD
end Mine

end

section
set_option maxRecDepth 100000
namespace Mine

/-! ## the defs of the text -/
noncomputable def defAt (i : Nat) : List Stmt × Scope := match PySem.Challenge.pw_rt0044_01.main.body[i]? with
  | some (.FunctionDef _ _ body _ _ _ sc _ _ _) => (body, sc)
  | _ => ([], default)

noncomputable def posB (names : List Str) (ds : List D) (kds : List (Str × D)) : Option St :=
  match kds with
  | [] => if ds.length = names.length then some (names.zip (ds.map .cold)) else none
  | _ => none
noncomputable def runF (T : Tab) (i : Nat) (B : List D → List (Str × D) → Option St) : List D → List (Str × D) → Option D := fun ds kds => (B ds kds).bind fun σ => runD T (defAt i).1 (defAt i).2 σ

noncomputable def sO (x : String) : Str := Str.ofString x
noncomputable def withF (T : Tab) (fs : List (Str × (List D → List (Str × D) → Option D))) : Tab := { T with fn := fun x => match fs.lookup x with | some F => some F | none => T.fn x }

noncomputable def one1 {α β : Type} (f : α → Option β) : List α → Option β
  | d :: r => if r.isEmpty then f d else none
  | [] => none
theorem one1_is {α β : Type} {f : α → Option β} {ds : List α} {b : β} (e : one1 f ds = some b) : ∃ d, ds = [d] ∧ f d = some b := by
  cases ds with
  | nil => exact none_ne e
  | cons a r =>
    obtain ⟨h1, h2⟩ := ite_oo e
    cases List.isEmpty_iff.mp h1
    exact ⟨a, rfl, h2⟩
theorem oneD_is {f : D → Option D} {ds : List D} {b : D} (e : oneD f ds = some b) : ∃ d, ds = [d] ∧ f d = some b := by
  cases ds with
  | nil => exact none_ne e
  | cons a r =>
    obtain ⟨h1, h2⟩ := ite_oo e
    cases List.isEmpty_iff.mp h1
    exact ⟨a, rfl, h2⟩
theorem twoD_is {f : D → D → Option D} {ds : List D} {b : D} (e : twoD f ds = some b) : ∃ c d, ds = [c, d] ∧ f c d = some b := by
  cases ds with
  | nil => exact none_ne e
  | cons a r =>
    obtain ⟨d, rfl, h⟩ := oneD_is e
    exact ⟨a, d, rfl, h⟩
theorem len2 {α : Type} {l : List α} (h : l.length = 2) : ∃ a b, l = [a, b] := by
  cases l with
  | nil => cases h
  | cons a r =>
    obtain ⟨b, rfl⟩ := List.length_eq_one_iff.mp (Nat.succ.inj h)
    exact ⟨a, b, rfl⟩
noncomputable def dedB (ds : List D) (kds : List (Str × D)) : Option St := match kds with
  | [] => one1 (fun d => some [(sO "params", .cold d), (sO "unhashable_fallback", .cold (.bool false))]) ds
  | _ => none
noncomputable def b2aB (ds : List D) (kds : List (Str × D)) : Option St :=
  one1 (fun d => one1 (fun p => if p.1 = sO "newline" then some [(sO "data", .cold d), (sO "newline", .cold p.2)] else none) kds) ds
noncomputable def joinB (ds : List D) (kds : List (Str × D)) : Option St := match kds with
  | [] => (match ds with
    | d :: r => if r.length = 1 ∨ r.length = 2 then some [(sO "a", .cold d), (sO "p", .cold (.tuple r))] else none
    | [] => none)
  | _ => none

noncomputable def fns1 : List (Str × (List D → List (Str × D) → Option D)) := [
  (sO "_buffer", runF T0 6 (posB [sO "data"])), (sO "_truth", runF T0 7 (posB [sO "x"])), (sO "fspath", runF T0 20 (posB [sO "path"])), (sO "_get_sep", runF T0 24 (posB [sO "path"])),
  (sO "_deduplicate", runF T0 2 dedB), (sO "_deduplicate_unhashable", runF T0 3 (posB [sO "unhashable_params"])), (sO "_law_links", runF T0 31 (posB [sO "script"])), (sO "_law_goals", runF T0 33 (posB [sO "links"])),
  (sO "_law_alike", runF T0 35 (posB [sO "kinds", sO "goals"])), (sO "_law_code", runF T0 36 (posB [sO "kind", sO "line"]))]
noncomputable def T1 : Tab := withF T0 fns1

/-- what _compare_args_orderless says -/
noncomputable def strike : List D → List D → Option (List D)
  | [], t => some t
  | d :: r, t => if eqOk 9 d ∧ t.all (eqOk 9) then (match t.findIdx? fun y => eqvD y d with
      | some j => strike r (t.eraseIdx j)
      | none => none) else none
noncomputable def strikeOk : List D → List D → Bool
  | [], t => true
  | d :: r, t => eqOk 9 d && t.all (eqOk 9) && (match t.findIdx? fun y => eqvD y d with
      | some j => strikeOk r (t.eraseIdx j)
      | none => true)
noncomputable def cmp2 (a b : D) : Option D := (runF T0 3 (posB [sO "unhashable_params"]) [a] []).bind fun fa => (runF T0 3 (posB [sO "unhashable_params"]) [b] []).bind fun fb =>
  (listOf fa).bind fun xs => (listOf fb).bind fun ys => if strikeOk xs ys ∧ ys.length ≤ 1000 ∧ xs.length ≤ 1000 then some (.bool ((strike xs ys).any List.isEmpty)) else none
noncomputable def cmpF (ds : List D) (kds : List (Str × D)) : Option D := match kds with
  | [] => twoD cmp2 ds
  | _ => none

noncomputable def fns2 : List (Str × (List D → List (Str × D) → Option D)) := [
  (sO "b2a_base64", runF T1 9 b2aB), (sO "join", runF T1 25 joinB), (sO "splitroot", runF T1 26 (posB [sO "p"])), (sO "basename", runF T1 27 (posB [sO "p"])), (sO "dirname", runF T1 28 (posB [sO "p"]))]
noncomputable def T2 : Tab := withF T1 fns2
noncomputable def fns3 : List (Str × (List D → List (Str × D) → Option D)) := [(sO "b64encode", runF T2 11 (posB [sO "s", sO "altchars"])), (sO "normpath", runF T2 29 (posB [sO "path"]))]
noncomputable def T3 : Tab := withF T2 fns3
noncomputable def fns4 : List (Str × (List D → List (Str × D) → Option D)) := [(sO "_law_told", runF T3 32 (posB [sO "files", sO "links"])), (sO "_law_codes", runF T3 34 (posB [sO "kinds", sO "goals"]))]
noncomputable def T4 : Tab := withF T3 fns4

end Mine

end

section
set_option maxRecDepth 100000
namespace Mine

/-! ## the top: the objects that the walk wants -/
noncomputable def defName (i : Nat) : Str := match PySem.Challenge.pw_rt0044_01.main.body[i]? with
  | some (.FunctionDef name _ _ _ _ _ _ _ _ _) => name
  | _ => Str.empty
noncomputable def defArgs (i : Nat) : Arguments := match PySem.Challenge.pw_rt0044_01.main.body[i]? with
  | some (.FunctionDef _ args _ _ _ _ _ _ _ _) => args
  | _ => { posonlyargs := [], args := [], vararg := none, kwonlyargs := [], kw_defaults := [], kwarg := none, defaults := [] }
noncomputable def fnD (i : Nat) (dV kV md cd : Value) : FuncData := { name := defName i, qualname := defName i, params := defArgs i, body := .stmts (defAt i).1, scope := (defAt i).2, globals := 3, closure := [], defaults := dV, kwdefaults := kV, pyModule := md, code := cd }
noncomputable def viewQ : Program := { PySem.Challenge.pw_rt0044_01 with main := { PySem.Challenge.pw_rt0044_01.main with body := [0, 3, 4, 6, 7, 8, 13, 15, 17, 18, 20, 22, 24, 25, 26, 27, 28, 29, 31, 32, 33, 34, 35, 36, 37].filterMap fun i => PySem.Challenge.pw_rt0044_01.main.body[i]? } }
noncomputable def looseL : List Str := [Str.ofString "_deduplicate", Str.ofString "b2a_base64", Str.ofString "b64encode"]
noncomputable def KF (P : Params) : Frag := [
  (3, { cls := Value.type "dict", data := Data.dict #[{ hash := PyData.keyHash P (Str.ofString "__name__"), key := Value.str (Str.ofString "__name__") 165, val := Value.str (Str.ofString "law_rt0044_01") 446 }, { hash := PyData.keyHash P (Str.ofString "__doc__"), key := Value.str (Str.ofString "__doc__") 166, val := Value.none }, { hash := PyData.keyHash P (Str.ofString "__package__"), key := Value.str (Str.ofString "__package__") 167, val := Value.none }, { hash := PyData.keyHash P (Str.ofString "__loader__"), key := Value.str (Str.ofString "__loader__") 168, val := Value.builtin "__main__.__loader__#opaque" }, { hash := PyData.keyHash P (Str.ofString "__spec__"), key := Value.str (Str.ofString "__spec__") 169, val := Value.none }, { hash := PyData.keyHash P (Str.ofString "__annotations__"), key := Value.str (Str.ofString "__annotations__") 170, val := Value.ref 6 }, { hash := PyData.keyHash P (Str.ofString "__builtins__"), key := Value.str (Str.ofString "__builtins__") 171, val := Value.ref 4 }, { hash := PyData.keyHash P (Str.ofString "__file__"), key := Value.str (Str.ofString "__file__") 173, val := Value.str (Str.ofString "/claim/cut.py") 172 }, { hash := PyData.keyHash P (Str.ofString "__cached__"), key := Value.str (Str.ofString "__cached__") 174, val := Value.none }, { hash := PyData.keyHash P (Str.ofString "_wall"), key := Value.str (Str.ofString "_wall") 193, val := Value.ref 21 }, { hash := PyData.keyHash P (Str.ofString "_deduplicate"), key := Value.str (Str.ofString "_deduplicate") 204, val := Value.ref 29 }, { hash := PyData.keyHash P (Str.ofString "_deduplicate_unhashable"), key := Value.str (Str.ofString "_deduplicate_unhashable") 213, val := Value.ref 36 }, { hash := PyData.keyHash P (Str.ofString "_compare_args_orderless"), key := Value.str (Str.ofString "_compare_args_orderless") 225, val := Value.ref 43 }, { hash := PyData.keyHash P (Str.ofString "_buffer"), key := Value.str (Str.ofString "_buffer") 235, val := Value.ref 50 }, { hash := PyData.keyHash P (Str.ofString "_truth"), key := Value.str (Str.ofString "_truth") 243, val := Value.ref 57 }, { hash := PyData.keyHash P (Str.ofString "_B64"), key := Value.str (Str.ofString "_B64") 245, val := Value.bytes #[65, 66, 67, 68, 69, 70, 71, 72, 73, 74, 75, 76, 77, 78, 79, 80, 81, 82, 83, 84, 85, 86, 87, 88, 89, 90, 97, 98, 99, 100, 101, 102, 103, 104, 105, 106, 107, 108, 109, 110, 111, 112, 113, 114, 115, 116, 117, 118, 119, 120, 121, 122, 48, 49, 50, 51, 52, 53, 54, 55, 56, 57, 43, 47] 244 }, { hash := PyData.keyHash P (Str.ofString "b2a_base64"), key := Value.str (Str.ofString "b2a_base64") 259, val := Value.ref 65 }, { hash := PyData.keyHash P (Str.ofString "b64encode"), key := Value.str (Str.ofString "b64encode") 270, val := Value.ref 73 }, { hash := PyData.keyHash P (Str.ofString "_plain_name"), key := Value.str (Str.ofString "_plain_name") 281, val := Value.ref 80 }, { hash := PyData.keyHash P (Str.ofString "ABCMeta"), key := Value.str (Str.ofString "ABCMeta") 307, val := Value.ref 97 }, { hash := PyData.keyHash P (Str.ofString "_ABCLike"), key := Value.str (Str.ofString "_ABCLike") 350, val := Value.ref 130 }, { hash := PyData.keyHash P (Str.ofString "_abc_plain_meta"), key := Value.str (Str.ofString "_abc_plain_meta") 357, val := Value.ref 139 }, { hash := PyData.keyHash P (Str.ofString "fspath"), key := Value.str (Str.ofString "fspath") 369, val := Value.ref 146 }, { hash := PyData.keyHash P (Str.ofString "_check_arg_types"), key := Value.str (Str.ofString "_check_arg_types") 382, val := Value.ref 153 }, { hash := PyData.keyHash P (Str.ofString "_get_sep"), key := Value.str (Str.ofString "_get_sep") 391, val := Value.ref 160 }, { hash := PyData.keyHash P (Str.ofString "join"), key := Value.str (Str.ofString "join") 402, val := Value.ref 167 }, { hash := PyData.keyHash P (Str.ofString "splitroot"), key := Value.str (Str.ofString "splitroot") 411, val := Value.ref 174 }, { hash := PyData.keyHash P (Str.ofString "basename"), key := Value.str (Str.ofString "basename") 420, val := Value.ref 181 }, { hash := PyData.keyHash P (Str.ofString "dirname"), key := Value.str (Str.ofString "dirname") 430, val := Value.ref 188 }, { hash := PyData.keyHash P (Str.ofString "normpath"), key := Value.str (Str.ofString "normpath") 445, val := Value.ref 195 }, { hash := PyData.keyHash P (Str.ofString "_law_links"), key := Value.str (Str.ofString "_law_links") 453, val := Value.ref 200 }, { hash := PyData.keyHash P (Str.ofString "_law_told"), key := Value.str (Str.ofString "_law_told") 459, val := Value.ref 205 }, { hash := PyData.keyHash P (Str.ofString "_law_goals"), key := Value.str (Str.ofString "_law_goals") 475, val := Value.ref 212 }, { hash := PyData.keyHash P (Str.ofString "_law_codes"), key := Value.str (Str.ofString "_law_codes") 481, val := Value.ref 217 }, { hash := PyData.keyHash P (Str.ofString "_law_alike"), key := Value.str (Str.ofString "_law_alike") 487, val := Value.ref 222 }, { hash := PyData.keyHash P (Str.ofString "_law_code"), key := Value.str (Str.ofString "_law_code") 493, val := Value.ref 227 }, { hash := PyData.keyHash P (Str.ofString "law"), key := Value.str (Str.ofString "law") 499, val := Value.ref 232 }] 37 }),
  (22, { cls := Value.type "dict", data := Data.dict #[{ hash := PyData.keyHash P (Str.ofString "unhashable_fallback"), key := Value.str (Str.ofString "unhashable_fallback") 196, val := Value.bool false }] 1 }),
  (28, { cls := Value.type "code", data := Data.fields #[Value.str (Str.ofString "_deduplicate") 197, Value.str (Str.ofString "_deduplicate") 198, Value.str (Str.ofString "/claim/cut.py") 199, Value.int 5 0, Value.int 1 0, Value.int 0 0, Value.int 1 0, Value.int 3 0, Value.ref 23, Value.bool true, Value.int 181 0, Value.ref 24, Value.none, Value.ref 25, Value.ref 26, Value.ref 27, Value.int 202 0, Value.int 5 0, Value.str (Str.ofString "/claim/cut.py") 203] }),
  (29, { cls := .type "function", data := .func (fnD 2 (Value.none) (Value.ref 22) (Value.str (Str.ofString "cpy313.typing") 194) (Value.ref 28)) }),
  (35, { cls := Value.type "code", data := Data.fields #[Value.str (Str.ofString "_deduplicate_unhashable") 205, Value.str (Str.ofString "_deduplicate_unhashable") 206, Value.str (Str.ofString "/claim/cut.py") 207, Value.int 12 0, Value.int 1 0, Value.int 0 0, Value.int 0 0, Value.int 3 0, Value.ref 30, Value.bool true, Value.int 181 0, Value.ref 31, Value.none, Value.ref 32, Value.ref 33, Value.ref 34, Value.int 211 0, Value.int 12 0, Value.str (Str.ofString "/claim/cut.py") 212] }),
  (36, { cls := .type "function", data := .func (fnD 3 (Value.none) (Value.none) (Value.str (Str.ofString "cpy313.typing") 194) (Value.ref 35)) }),
  (42, { cls := Value.type "code", data := Data.fields #[Value.str (Str.ofString "_compare_args_orderless") 214, Value.str (Str.ofString "_compare_args_orderless") 215, Value.str (Str.ofString "/claim/cut.py") 216, Value.int 18 0, Value.int 2 0, Value.int 0 0, Value.int 0 0, Value.int 3 0, Value.ref 37, Value.bool true, Value.int 181 0, Value.ref 38, Value.none, Value.ref 39, Value.ref 40, Value.ref 41, Value.int 223 0, Value.int 18 0, Value.str (Str.ofString "/claim/cut.py") 224] }),
  (43, { cls := .type "function", data := .func (fnD 4 (Value.none) (Value.none) (Value.str (Str.ofString "cpy313.typing") 194) (Value.ref 42)) }),
  (49, { cls := Value.type "code", data := Data.fields #[Value.str (Str.ofString "_buffer") 228, Value.str (Str.ofString "_buffer") 229, Value.str (Str.ofString "/claim/cut.py") 230, Value.int 29 0, Value.int 1 0, Value.int 0 0, Value.int 0 0, Value.int 3 0, Value.ref 44, Value.bool true, Value.int 181 0, Value.ref 45, Value.none, Value.ref 46, Value.ref 47, Value.ref 48, Value.int 233 0, Value.int 29 0, Value.str (Str.ofString "/claim/cut.py") 234] }),
  (50, { cls := .type "function", data := .func (fnD 6 (Value.none) (Value.none) (Value.str (Str.ofString "binascii") 226) (Value.ref 49)) }),
  (56, { cls := Value.type "code", data := Data.fields #[Value.str (Str.ofString "_truth") 236, Value.str (Str.ofString "_truth") 237, Value.str (Str.ofString "/claim/cut.py") 238, Value.int 36 0, Value.int 1 0, Value.int 0 0, Value.int 0 0, Value.int 3 0, Value.ref 51, Value.bool true, Value.int 181 0, Value.ref 52, Value.none, Value.ref 53, Value.ref 54, Value.ref 55, Value.int 241 0, Value.int 36 0, Value.str (Str.ofString "/claim/cut.py") 242] }),
  (57, { cls := .type "function", data := .func (fnD 7 (Value.none) (Value.none) (Value.str (Str.ofString "binascii") 226) (Value.ref 56)) }),
  (58, { cls := Value.type "dict", data := Data.dict #[{ hash := PyData.keyHash P (Str.ofString "newline"), key := Value.str (Str.ofString "newline") 246, val := Value.bool true }] 1 }),
  (64, { cls := Value.type "code", data := Data.fields #[Value.str (Str.ofString "b2a_base64") 247, Value.str (Str.ofString "b2a_base64") 248, Value.str (Str.ofString "/claim/cut.py") 249, Value.int 42 0, Value.int 1 0, Value.int 1 0, Value.int 1 0, Value.int 3 0, Value.ref 59, Value.bool true, Value.int 181 0, Value.ref 60, Value.none, Value.ref 61, Value.ref 62, Value.ref 63, Value.int 257 0, Value.int 42 0, Value.str (Str.ofString "/claim/cut.py") 258] }),
  (65, { cls := .type "function", data := .func (fnD 9 (Value.none) (Value.ref 58) (Value.str (Str.ofString "binascii") 226) (Value.ref 64)) }),
  (66, { cls := Value.type "tuple", data := Data.seq #[Value.none] }),
  (72, { cls := Value.type "code", data := Data.fields #[Value.str (Str.ofString "b64encode") 262, Value.str (Str.ofString "b64encode") 263, Value.str (Str.ofString "/claim/cut.py") 264, Value.int 65 0, Value.int 2 0, Value.int 0 0, Value.int 0 0, Value.int 3 0, Value.ref 67, Value.bool true, Value.int 181 0, Value.ref 68, Value.none, Value.ref 69, Value.ref 70, Value.ref 71, Value.int 268 0, Value.int 65 0, Value.str (Str.ofString "/claim/cut.py") 269] }),
  (73, { cls := .type "function", data := .func (fnD 11 (Value.ref 66) (Value.none) (Value.str (Str.ofString "cpy313.base64") 260) (Value.ref 72)) }),
  (145, { cls := Value.type "code", data := Data.fields #[Value.str (Str.ofString "fspath") 360, Value.str (Str.ofString "fspath") 361, Value.str (Str.ofString "/claim/cut.py") 362, Value.int 102 0, Value.int 1 0, Value.int 0 0, Value.int 0 0, Value.int 3 0, Value.ref 140, Value.bool true, Value.int 181 0, Value.ref 141, Value.none, Value.ref 142, Value.ref 143, Value.ref 144, Value.int 367 0, Value.int 102 0, Value.str (Str.ofString "/claim/cut.py") 368] }),
  (146, { cls := .type "function", data := .func (fnD 20 (Value.none) (Value.none) (Value.str (Str.ofString "os") 358) (Value.ref 145)) }),
  (159, { cls := Value.type "code", data := Data.fields #[Value.str (Str.ofString "_get_sep") 385, Value.str (Str.ofString "_get_sep") 386, Value.str (Str.ofString "/claim/cut.py") 387, Value.int 131 0, Value.int 1 0, Value.int 0 0, Value.int 0 0, Value.int 3 0, Value.ref 154, Value.bool true, Value.int 181 0, Value.ref 155, Value.none, Value.ref 156, Value.ref 157, Value.ref 158, Value.int 389 0, Value.int 131 0, Value.str (Str.ofString "/claim/cut.py") 390] }),
  (160, { cls := .type "function", data := .func (fnD 24 (Value.none) (Value.none) (Value.str (Str.ofString "cpy313.posixpath") 383) (Value.ref 159)) }),
  (166, { cls := Value.type "code", data := Data.fields #[Value.str (Str.ofString "join") 392, Value.str (Str.ofString "join") 393, Value.str (Str.ofString "/claim/cut.py") 394, Value.int 136 0, Value.int 1 0, Value.int 0 0, Value.int 0 0, Value.int 7 0, Value.ref 161, Value.bool true, Value.int 181 0, Value.ref 162, Value.none, Value.ref 163, Value.ref 164, Value.ref 165, Value.int 400 0, Value.int 136 0, Value.str (Str.ofString "/claim/cut.py") 401] }),
  (167, { cls := .type "function", data := .func (fnD 25 (Value.none) (Value.none) (Value.str (Str.ofString "cpy313.posixpath") 383) (Value.ref 166)) }),
  (173, { cls := Value.type "code", data := Data.fields #[Value.str (Str.ofString "splitroot") 403, Value.str (Str.ofString "splitroot") 404, Value.str (Str.ofString "/claim/cut.py") 405, Value.int 153 0, Value.int 1 0, Value.int 0 0, Value.int 0 0, Value.int 3 0, Value.ref 168, Value.bool true, Value.int 181 0, Value.ref 169, Value.none, Value.ref 170, Value.ref 171, Value.ref 172, Value.int 409 0, Value.int 153 0, Value.str (Str.ofString "/claim/cut.py") 410] }),
  (174, { cls := .type "function", data := .func (fnD 26 (Value.none) (Value.none) (Value.str (Str.ofString "cpy313.posixpath") 383) (Value.ref 173)) }),
  (180, { cls := Value.type "code", data := Data.fields #[Value.str (Str.ofString "basename") 412, Value.str (Str.ofString "basename") 413, Value.str (Str.ofString "/claim/cut.py") 414, Value.int 167 0, Value.int 1 0, Value.int 0 0, Value.int 0 0, Value.int 3 0, Value.ref 175, Value.bool true, Value.int 181 0, Value.ref 176, Value.none, Value.ref 177, Value.ref 178, Value.ref 179, Value.int 418 0, Value.int 167 0, Value.str (Str.ofString "/claim/cut.py") 419] }),
  (181, { cls := .type "function", data := .func (fnD 27 (Value.none) (Value.none) (Value.str (Str.ofString "cpy313.posixpath") 383) (Value.ref 180)) }),
  (187, { cls := Value.type "code", data := Data.fields #[Value.str (Str.ofString "dirname") 421, Value.str (Str.ofString "dirname") 422, Value.str (Str.ofString "/claim/cut.py") 423, Value.int 172 0, Value.int 1 0, Value.int 0 0, Value.int 0 0, Value.int 3 0, Value.ref 182, Value.bool true, Value.int 181 0, Value.ref 183, Value.none, Value.ref 184, Value.ref 185, Value.ref 186, Value.int 428 0, Value.int 172 0, Value.str (Str.ofString "/claim/cut.py") 429] }),
  (188, { cls := .type "function", data := .func (fnD 28 (Value.none) (Value.none) (Value.str (Str.ofString "cpy313.posixpath") 383) (Value.ref 187)) }),
  (194, { cls := Value.type "code", data := Data.fields #[Value.str (Str.ofString "normpath") 431, Value.str (Str.ofString "normpath") 432, Value.str (Str.ofString "/claim/cut.py") 433, Value.int 180 0, Value.int 1 0, Value.int 0 0, Value.int 0 0, Value.int 3 0, Value.ref 189, Value.bool true, Value.int 181 0, Value.ref 190, Value.none, Value.ref 191, Value.ref 192, Value.ref 193, Value.int 443 0, Value.int 180 0, Value.str (Str.ofString "/claim/cut.py") 444] }),
  (195, { cls := .type "function", data := .func (fnD 29 (Value.none) (Value.none) (Value.str (Str.ofString "cpy313.posixpath") 383) (Value.ref 194)) }),
  (199, { cls := Value.type "code", data := Data.fields #[Value.str (Str.ofString "_law_links") 448, Value.str (Str.ofString "_law_links") 449, Value.str (Str.ofString "/claim/cut.py") 450, Value.int 206 0, Value.int 1 0, Value.int 0 0, Value.int 0 0, Value.int 3 0, Value.ref 196, Value.bool true, Value.int 181 0, Value.ref 197, Value.none, Value.none, Value.none, Value.ref 198, Value.int 451 0, Value.int 206 0, Value.str (Str.ofString "/claim/cut.py") 452] }),
  (200, { cls := .type "function", data := .func (fnD 31 (Value.none) (Value.none) (Value.str (Str.ofString "law_rt0044_01") 446) (Value.ref 199)) }),
  (204, { cls := Value.type "code", data := Data.fields #[Value.str (Str.ofString "_law_told") 454, Value.str (Str.ofString "_law_told") 455, Value.str (Str.ofString "/claim/cut.py") 456, Value.int 213 0, Value.int 2 0, Value.int 0 0, Value.int 0 0, Value.int 3 0, Value.ref 201, Value.bool true, Value.int 181 0, Value.ref 202, Value.none, Value.none, Value.none, Value.ref 203, Value.int 457 0, Value.int 213 0, Value.str (Str.ofString "/claim/cut.py") 458] }),
  (205, { cls := .type "function", data := .func (fnD 32 (Value.none) (Value.none) (Value.str (Str.ofString "law_rt0044_01") 446) (Value.ref 204)) }),
  (211, { cls := Value.type "code", data := Data.fields #[Value.str (Str.ofString "_law_goals") 460, Value.str (Str.ofString "_law_goals") 461, Value.str (Str.ofString "/claim/cut.py") 462, Value.int 219 0, Value.int 1 0, Value.int 0 0, Value.int 0 0, Value.int 3 0, Value.ref 206, Value.bool true, Value.int 181 0, Value.ref 207, Value.none, Value.ref 208, Value.ref 209, Value.ref 210, Value.int 473 0, Value.int 219 0, Value.str (Str.ofString "/claim/cut.py") 474] }),
  (212, { cls := .type "function", data := .func (fnD 33 (Value.none) (Value.none) (Value.str (Str.ofString "law_rt0044_01") 446) (Value.ref 211)) }),
  (216, { cls := Value.type "code", data := Data.fields #[Value.str (Str.ofString "_law_codes") 476, Value.str (Str.ofString "_law_codes") 477, Value.str (Str.ofString "/claim/cut.py") 478, Value.int 237 0, Value.int 2 0, Value.int 0 0, Value.int 0 0, Value.int 3 0, Value.ref 213, Value.bool true, Value.int 181 0, Value.ref 214, Value.none, Value.none, Value.none, Value.ref 215, Value.int 479 0, Value.int 237 0, Value.str (Str.ofString "/claim/cut.py") 480] }),
  (217, { cls := .type "function", data := .func (fnD 34 (Value.none) (Value.none) (Value.str (Str.ofString "law_rt0044_01") 446) (Value.ref 216)) }),
  (221, { cls := Value.type "code", data := Data.fields #[Value.str (Str.ofString "_law_alike") 482, Value.str (Str.ofString "_law_alike") 483, Value.str (Str.ofString "/claim/cut.py") 484, Value.int 247 0, Value.int 2 0, Value.int 0 0, Value.int 0 0, Value.int 3 0, Value.ref 218, Value.bool true, Value.int 181 0, Value.ref 219, Value.none, Value.none, Value.none, Value.ref 220, Value.int 485 0, Value.int 247 0, Value.str (Str.ofString "/claim/cut.py") 486] }),
  (222, { cls := .type "function", data := .func (fnD 35 (Value.none) (Value.none) (Value.str (Str.ofString "law_rt0044_01") 446) (Value.ref 221)) }),
  (226, { cls := Value.type "code", data := Data.fields #[Value.str (Str.ofString "_law_code") 488, Value.str (Str.ofString "_law_code") 489, Value.str (Str.ofString "/claim/cut.py") 490, Value.int 256 0, Value.int 2 0, Value.int 0 0, Value.int 0 0, Value.int 3 0, Value.ref 223, Value.bool true, Value.int 181 0, Value.ref 224, Value.none, Value.none, Value.none, Value.ref 225, Value.int 491 0, Value.int 256 0, Value.str (Str.ofString "/claim/cut.py") 492] }),
  (227, { cls := .type "function", data := .func (fnD 36 (Value.none) (Value.none) (Value.str (Str.ofString "law_rt0044_01") 446) (Value.ref 226)) }),
  (231, { cls := Value.type "code", data := Data.fields #[Value.str (Str.ofString "law") 494, Value.str (Str.ofString "law") 495, Value.str (Str.ofString "/claim/cut.py") 496, Value.int 261 0, Value.int 1 0, Value.int 0 0, Value.int 0 0, Value.int 3 0, Value.ref 228, Value.bool true, Value.int 181 0, Value.ref 229, Value.none, Value.none, Value.none, Value.ref 230, Value.int 497 0, Value.int 261 0, Value.str (Str.ofString "/claim/cut.py") 498] }),
  (232, { cls := .type "function", data := .func (fnD 37 (Value.none) (Value.none) (Value.str (Str.ofString "law_rt0044_01") 446) (Value.ref 231)) })]
noncomputable def addrs : List Addr := [3, 22, 28, 29, 35, 36, 42, 43, 49, 50, 56, 57, 58, 64, 65, 66, 72, 73, 145, 146, 159, 160, 166, 167, 173, 174, 180, 181, 187, 188, 194, 195, 199, 200, 204, 205, 211, 212, 216, 217, 221, 222, 226, 227, 231, 232]
noncomputable def hookK : Hook := kHook KF addrs fun P => by kernel_rfl
set_option maxHeartbeats 0 in
theorem left_ok : LeftO PySem.Challenge.pw_rt0044_01 viewQ looseL (fun s => xlAt viewQ [] s && recOk (RowW.records PySem.Challenge.rw_rt0044_01.row.toRowW) s) (Hook.obs hookK) (Hook.val hookK) 2906 := by
  intro w
  kernel_rfl
end Mine

end

section
set_option maxRecDepth 100000
namespace Mine
variable {prog : Program} {w : World} {T : Tab} {n : Nat} {h₀ : Heap}

theorem wf_all : [2, 3, 6, 7, 9, 11, 20, 24, 25, 26, 27, 28, 29, 31, 32, 33, 34, 35, 36, 37].all (fun i => wfSs (defAt i).1 (defAt i).2) = true := by decide +kernel

theorem fn_at (TO : TabOk prog w T n h₀) (X : (KF w.params).In h₀) (lim : h₀.NoLimit) {a : Addr} {i : Nat} {fd : FuncData} {B : List D → List (Str × D) → Option St} {names : List Str}
    (hl : (KF w.params).lookup a = some { cls := .type "function", data := .func fd }) (hbody : fd.body = .stmts (defAt i).1) (hsc : fd.scope = (defAt i).2) (hclo : fd.closure = []) (hglb : fd.globals = mainGlobals) (hblt : fd.builtins = builtinsNs)
    (hcd : codeIn (KF w.params) fd.code fd.qualname = true) (hco : (defAt i).2.isCoroutine = false) (hgen : (defAt i).2.isGenerator = false) (hd : scopeDef (defAt i).2 names = true) (hwf : wfSs (defAt i).1 (defAt i).2 = true)
    (hB : BindOk prog w h₀ fd B) (hnm : ∀ ds kds σ, B ds kds = some σ → σ.map (·.1) = names) : FnOk prog w (n + 1) h₀ a (runF T i B) :=
  fn_ok TO (X a _ hl) rfl hbody hclo hglb hblt (codeRec_of X hcd) lim (by rw [hsc]; exact hco) (by rw [hsc]; exact hgen) (by rw [hsc]; exact hd) (by rw [hsc]; exact hwf) hB hnm fun ds kds => by rw [hsc]; rfl

theorem zip_binds {hot : Addr → Prop} {h : Heap} : ∀ (names : List Str) (vs : List Value) (ds : List D), Reps prog w hot h vs ds → BindReps prog w hot h (names.zip vs) (names.zip (ds.map .cold))
  | [], _, _, _ => .nil
  | _ :: _, _, _, .nil => .nil
  | x :: xs, _, _, .cons a b => .cons a (zip_binds xs _ _ b)
theorem posB_is {names : List Str} {ds : List D} {kds : List (Str × D)} {σ : St} (h : posB names ds kds = some σ) : kds = [] ∧ ds.length = names.length ∧ names.zip (ds.map .cold) = σ := by
  cases kds with
  | nil => exact ⟨rfl, ite_of h⟩
  | cons a r => exact none_ne h
theorem posB_names {names : List Str} {ds : List D} {kds : List (Str × D)} {σ : St} (h : posB names ds kds = some σ) : σ.map (·.1) = names := by
  obtain ⟨_, hl, rfl⟩ := posB_is h
  exact List.map_fst_zip (by rw [List.length_map, hl]; exact Nat.le_refl _)
/-- a def whose parameters are plain -/
theorem bind_pos {fd : FuncData} {names : List Str} (hb : ∀ vs : List Value, vs.length = names.length → bindArgs fd ⟨vs, []⟩ = pure (names.zip vs)) : BindOk prog w h₀ fd (posB names) := by
  intro A s E Q hot vs ds kvs kds σ₀ hh hE H r kr e hq
  obtain ⟨rfl, hl, rfl⟩ := posB_is e
  cases kr
  exact wpAny_of_eq (hb vs (r.length.trans hl)) (hq _ s (keeps_refl s) (zip_binds names vs ds r))

theorem bind_one {fd : FuncData} {x : Str} (hb : ∀ v, bindArgs fd ⟨[v], []⟩ = pure [(x, v)]) : BindOk prog w h₀ fd (posB [x]) := bind_pos fun vs hl => by
  obtain ⟨v, rfl⟩ := List.length_eq_one_iff.mp hl
  exact hb v
theorem bind_two {fd : FuncData} {x y : Str} (hb : ∀ v u, bindArgs fd ⟨[v, u], []⟩ = pure [(x, v), (y, u)]) : BindOk prog w h₀ fd (posB [x, y]) := bind_pos fun vs hl => by
  obtain ⟨v, u, rfl⟩ := len2 hl
  exact hb v u

theorem ex_buffer (TO : TabOk prog w T n h₀) (X : (KF w.params).In h₀) (lim : h₀.NoLimit) : FnOk prog w (n + 1) h₀ 50 (runF T 6 (posB [sO "data"])) :=
  fn_at (names := [sO "data"]) TO X lim (i := 6) (by rfl) (by rfl) (by rfl) (by rfl) (by rfl) (by rfl) (by rfl) (by rfl) (by rfl) (by decide +kernel) (by decide +kernel) (bind_one fun v => rfl) fun z0 z0 z0 h => posB_names h
end Mine

end

section
set_option maxRecDepth 100000
namespace Mine
variable {prog : Program} {w : World} {T : Tab} {n : Nat} {h₀ : Heap}

theorem fx_dedu (TO : TabOk prog w T n h₀) (X : (KF w.params).In h₀) (lim : h₀.NoLimit) : FnOk prog w (n + 1) h₀ 36 (runF T 3 (posB [sO "unhashable_params"])) :=
  fn_at (names := [sO "unhashable_params"]) TO X lim (i := 3) (by rfl) (by rfl) (by rfl) (by rfl) (by rfl) (by rfl) (by rfl) (by rfl) (by rfl) (by decide +kernel) (by decide +kernel) (bind_one fun v => rfl) fun z0 z0 z0 h => posB_names h

theorem fx_buffer (TO : TabOk prog w T n h₀) (X : (KF w.params).In h₀) (lim : h₀.NoLimit) : FnOk prog w (n + 1) h₀ 50 (runF T 6 (posB [sO "data"])) :=
  fn_at (names := [sO "data"]) TO X lim (i := 6) (by rfl) (by rfl) (by rfl) (by rfl) (by rfl) (by rfl) (by rfl) (by rfl) (by rfl) (by decide +kernel) (by decide +kernel) (bind_one fun v => rfl) fun z0 z0 z0 h => posB_names h

theorem fx_truth (TO : TabOk prog w T n h₀) (X : (KF w.params).In h₀) (lim : h₀.NoLimit) : FnOk prog w (n + 1) h₀ 57 (runF T 7 (posB [sO "x"])) :=
  fn_at (names := [sO "x"]) TO X lim (i := 7) (by rfl) (by rfl) (by rfl) (by rfl) (by rfl) (by rfl) (by rfl) (by rfl) (by rfl) (by decide +kernel) (by decide +kernel) (bind_one fun v => rfl) fun z0 z0 z0 h => posB_names h

theorem fx_fspath (TO : TabOk prog w T n h₀) (X : (KF w.params).In h₀) (lim : h₀.NoLimit) : FnOk prog w (n + 1) h₀ 146 (runF T 20 (posB [sO "path"])) :=
  fn_at (names := [sO "path"]) TO X lim (i := 20) (by rfl) (by rfl) (by rfl) (by rfl) (by rfl) (by rfl) (by rfl) (by rfl) (by rfl) (by decide +kernel) (by decide +kernel) (bind_one fun v => rfl) fun z0 z0 z0 h => posB_names h

theorem fx_getsep (TO : TabOk prog w T n h₀) (X : (KF w.params).In h₀) (lim : h₀.NoLimit) : FnOk prog w (n + 1) h₀ 160 (runF T 24 (posB [sO "path"])) :=
  fn_at (names := [sO "path"]) TO X lim (i := 24) (by rfl) (by rfl) (by rfl) (by rfl) (by rfl) (by rfl) (by rfl) (by rfl) (by rfl) (by decide +kernel) (by decide +kernel) (bind_one fun v => rfl) fun z0 z0 z0 h => posB_names h

theorem fx_splitroot (TO : TabOk prog w T n h₀) (X : (KF w.params).In h₀) (lim : h₀.NoLimit) : FnOk prog w (n + 1) h₀ 174 (runF T 26 (posB [sO "p"])) :=
  fn_at (names := [sO "p"]) TO X lim (i := 26) (by rfl) (by rfl) (by rfl) (by rfl) (by rfl) (by rfl) (by rfl) (by rfl) (by rfl) (by decide +kernel) (by decide +kernel) (bind_one fun v => rfl) fun z0 z0 z0 h => posB_names h

theorem fx_basename (TO : TabOk prog w T n h₀) (X : (KF w.params).In h₀) (lim : h₀.NoLimit) : FnOk prog w (n + 1) h₀ 181 (runF T 27 (posB [sO "p"])) :=
  fn_at (names := [sO "p"]) TO X lim (i := 27) (by rfl) (by rfl) (by rfl) (by rfl) (by rfl) (by rfl) (by rfl) (by rfl) (by rfl) (by decide +kernel) (by decide +kernel) (bind_one fun v => rfl) fun z0 z0 z0 h => posB_names h

theorem fx_dirname (TO : TabOk prog w T n h₀) (X : (KF w.params).In h₀) (lim : h₀.NoLimit) : FnOk prog w (n + 1) h₀ 188 (runF T 28 (posB [sO "p"])) :=
  fn_at (names := [sO "p"]) TO X lim (i := 28) (by rfl) (by rfl) (by rfl) (by rfl) (by rfl) (by rfl) (by rfl) (by rfl) (by rfl) (by decide +kernel) (by decide +kernel) (bind_one fun v => rfl) fun z0 z0 z0 h => posB_names h

theorem fx_normpath (TO : TabOk prog w T n h₀) (X : (KF w.params).In h₀) (lim : h₀.NoLimit) : FnOk prog w (n + 1) h₀ 195 (runF T 29 (posB [sO "path"])) :=
  fn_at (names := [sO "path"]) TO X lim (i := 29) (by rfl) (by rfl) (by rfl) (by rfl) (by rfl) (by rfl) (by rfl) (by rfl) (by rfl) (by decide +kernel) (by decide +kernel) (bind_one fun v => rfl) fun z0 z0 z0 h => posB_names h

theorem fx_links (TO : TabOk prog w T n h₀) (X : (KF w.params).In h₀) (lim : h₀.NoLimit) : FnOk prog w (n + 1) h₀ 200 (runF T 31 (posB [sO "script"])) :=
  fn_at (names := [sO "script"]) TO X lim (i := 31) (by rfl) (by rfl) (by rfl) (by rfl) (by rfl) (by rfl) (by rfl) (by rfl) (by rfl) (by decide +kernel) (by decide +kernel) (bind_one fun v => rfl) fun z0 z0 z0 h => posB_names h

theorem fx_told (TO : TabOk prog w T n h₀) (X : (KF w.params).In h₀) (lim : h₀.NoLimit) : FnOk prog w (n + 1) h₀ 205 (runF T 32 (posB [sO "files", sO "links"])) :=
  fn_at (names := [sO "files", sO "links"]) TO X lim (i := 32) (by rfl) (by rfl) (by rfl) (by rfl) (by rfl) (by rfl) (by rfl) (by rfl) (by rfl) (by decide +kernel) (by decide +kernel) (bind_two fun v u => rfl) fun z0 z0 z0 h => posB_names h

theorem fx_goals (TO : TabOk prog w T n h₀) (X : (KF w.params).In h₀) (lim : h₀.NoLimit) : FnOk prog w (n + 1) h₀ 212 (runF T 33 (posB [sO "links"])) :=
  fn_at (names := [sO "links"]) TO X lim (i := 33) (by rfl) (by rfl) (by rfl) (by rfl) (by rfl) (by rfl) (by rfl) (by rfl) (by rfl) (by decide +kernel) (by decide +kernel) (bind_one fun v => rfl) fun z0 z0 z0 h => posB_names h

theorem fx_codes (TO : TabOk prog w T n h₀) (X : (KF w.params).In h₀) (lim : h₀.NoLimit) : FnOk prog w (n + 1) h₀ 217 (runF T 34 (posB [sO "kinds", sO "goals"])) :=
  fn_at (names := [sO "kinds", sO "goals"]) TO X lim (i := 34) (by rfl) (by rfl) (by rfl) (by rfl) (by rfl) (by rfl) (by rfl) (by rfl) (by rfl) (by decide +kernel) (by decide +kernel) (bind_two fun v u => rfl) fun z0 z0 z0 h => posB_names h

theorem fx_alike (TO : TabOk prog w T n h₀) (X : (KF w.params).In h₀) (lim : h₀.NoLimit) : FnOk prog w (n + 1) h₀ 222 (runF T 35 (posB [sO "kinds", sO "goals"])) :=
  fn_at (names := [sO "kinds", sO "goals"]) TO X lim (i := 35) (by rfl) (by rfl) (by rfl) (by rfl) (by rfl) (by rfl) (by rfl) (by rfl) (by rfl) (by decide +kernel) (by decide +kernel) (bind_two fun v u => rfl) fun z0 z0 z0 h => posB_names h

theorem fx_code (TO : TabOk prog w T n h₀) (X : (KF w.params).In h₀) (lim : h₀.NoLimit) : FnOk prog w (n + 1) h₀ 227 (runF T 36 (posB [sO "kind", sO "line"])) :=
  fn_at (names := [sO "kind", sO "line"]) TO X lim (i := 36) (by rfl) (by rfl) (by rfl) (by rfl) (by rfl) (by rfl) (by rfl) (by rfl) (by rfl) (by decide +kernel) (by decide +kernel) (bind_two fun v u => rfl) fun z0 z0 z0 h => posB_names h

theorem fx_law (TO : TabOk prog w T n h₀) (X : (KF w.params).In h₀) (lim : h₀.NoLimit) : FnOk prog w (n + 1) h₀ 232 (runF T 37 (posB [sO "script"])) :=
  fn_at (names := [sO "script"]) TO X lim (i := 37) (by rfl) (by rfl) (by rfl) (by rfl) (by rfl) (by rfl) (by rfl) (by rfl) (by rfl) (by decide +kernel) (by decide +kernel) (bind_one fun v => rfl) fun z0 z0 z0 h => posB_names h

end Mine

end

section
set_option maxRecDepth 100000
namespace Mine
variable {prog : Program} {w : World} {T : Tab} {n : Nat} {h₀ : Heap}

theorem reps_one {hot : Addr → Prop} {h : Heap} {vs : List Value} {d : D} (r : Reps prog w hot h vs [d]) : ∃ v, vs = [v] ∧ Rep prog w hot h v d := by
  cases r with
  | cons a b => cases b; exact ⟨_, rfl, a⟩
theorem reps_two {hot : Addr → Prop} {h : Heap} {vs : List Value} {d e : D} (r : Reps prog w hot h vs [d, e]) : ∃ v u, vs = [v, u] ∧ Rep prog w hot h v d ∧ Rep prog w hot h u e := by
  cases r with
  | cons a b => cases b with
    | cons c d => cases d; exact ⟨_, _, rfl, a, c⟩

theorem wp_cong {M : Model} {A : Around} {α : Type} {t u : Sem α} {Q : α → Shared → Prop} {E : Value → Shared → Prop} {s : Shared} (h : t = u) (k : wpAny M A u Q E s) : wpAny M A t Q E s := h ▸ k
theorem fx_b64 (TO : TabOk prog w T n h₀) (X : (KF w.params).In h₀) (lim : h₀.NoLimit) : FnOk prog w (n + 1) h₀ 73 (runF T 11 (posB [sO "s", sO "altchars"])) := by
  refine fn_at (names := [sO "s", sO "altchars"]) TO X lim (i := 11) (by rfl) (by rfl) (by rfl) (by rfl) (by rfl) (by rfl) (by rfl) (by rfl) (by rfl) (by decide +kernel) (by decide +kernel) ?_ fun z0 z0 z0 h => posB_names h
  intro A s E Q hot vs ds kvs kds σ₀ hh hE H r kr e hq
  obtain ⟨rfl, hl, rfl⟩ := posB_is e
  cases kr
  obtain ⟨d, d', rfl⟩ := len2 hl
  obtain ⟨v, u, rfl, r1, r2⟩ := reps_two r
  exact kp_binds (K := KF w.params) (binds := [(sO "s", v), (sO "altchars", u)]) (fun a o q => hE a o (X a o q)) (fun S => by rfl) _ _ _ _ (hq _ s (keeps_refl s) (.cons r1 (.cons r2 .nil)))

theorem dedB_is {ds : List D} {kds : List (Str × D)} {σ : St} (h : dedB ds kds = some σ) : kds = [] ∧ ∃ d, ds = [d] ∧ σ = [(sO "params", .cold d), (sO "unhashable_fallback", .cold (.bool false))] := by
  cases kds with
  | nil =>
    obtain ⟨d, h1, h2⟩ := one1_is h
    exact ⟨rfl, d, h1, (Option.some.inj h2).symm⟩
  | cons a r => exact none_ne h
theorem fx_ded (TO : TabOk prog w T n h₀) (X : (KF w.params).In h₀) (lim : h₀.NoLimit) : FnOk prog w (n + 1) h₀ 29 (runF T 2 dedB) := by
  refine fn_at (names := [sO "params", sO "unhashable_fallback"]) TO X lim (i := 2) (by rfl) (by rfl) (by rfl) (by rfl) (by rfl) (by rfl) (by rfl) (by rfl) (by rfl) (by decide +kernel) (by decide +kernel) ?_ ?_
  · intro A s E Q hot vs ds kvs kds σ₀ hh hE H r kr e hq
    obtain ⟨rfl, d, rfl, rfl⟩ := dedB_is e
    cases kr
    obtain ⟨v, rfl, r1⟩ := reps_one r
    exact kp_binds (K := KF w.params) (binds := [(sO "params", v), (sO "unhashable_fallback", .bool false)]) (fun a o q => hE a o (X a o q)) (fun S => by rfl) _ _ _ _ (hq _ s (keeps_refl s) (.cons r1 (.cons (.bool false) .nil)))
  · intro ds kds σ h
    obtain ⟨_, d, _, rfl⟩ := dedB_is h
    rfl

theorem b2aB_is {ds : List D} {kds : List (Str × D)} {σ : St} (h : b2aB ds kds = some σ) : ∃ d e, ds = [d] ∧ kds = [(sO "newline", e)] ∧ σ = [(sO "data", .cold d), (sO "newline", .cold e)] := by
  obtain ⟨d, h1, h2⟩ := one1_is h
  obtain ⟨p, h3, h4⟩ := one1_is h2
  obtain ⟨h5, h6⟩ := ite_of h4
  exact ⟨d, p.2, h1, h3.trans (congrArg (fun x => [(x, p.2)]) h5), h6.symm⟩
theorem fx_b2a (TO : TabOk prog w T n h₀) (X : (KF w.params).In h₀) (lim : h₀.NoLimit) : FnOk prog w (n + 1) h₀ 65 (runF T 9 b2aB) := by
  refine fn_at (names := [sO "data", sO "newline"]) TO X lim (i := 9) (by rfl) (by rfl) (by rfl) (by rfl) (by rfl) (by rfl) (by rfl) (by rfl) (by rfl) (by decide +kernel) (by decide +kernel) ?_ ?_
  · intro A s E Q hot vs ds kvs kds σ₀ hh hE H r kr e hq
    obtain ⟨d, e', rfl, rfl, rfl⟩ := b2aB_is e
    obtain ⟨v, rfl, r1⟩ := reps_one r
    cases kr with
    | cons r2 kr =>
    cases kr
    exact kp_binds (K := KF w.params) (binds := [(sO "data", v), (sO "newline", _)]) (fun a o q => hE a o (X a o q)) (fun S => by rfl) _ _ _ _ (hq _ s (keeps_refl s) (.cons r1 (.cons r2 .nil)))
  · intro ds kds σ h
    obtain ⟨d, e, _, _, rfl⟩ := b2aB_is h
    rfl

theorem joinB_is {ds : List D} {kds : List (Str × D)} {σ : St} (h : joinB ds kds = some σ) : kds = [] ∧ ∃ d r, ds = d :: r ∧ (r.length = 1 ∨ r.length = 2) ∧ σ = [(sO "a", .cold d), (sO "p", .cold (.tuple r))] := by
  cases kds with
  | nil => cases ds with
    | nil => exact none_ne h
    | cons d r =>
      obtain ⟨h1, h2⟩ := ite_of h
      exact ⟨rfl, d, r, rfl, h1, h2.symm⟩
  | cons a r => exact none_ne h
theorem fx_join (TO : TabOk prog w T n h₀) (X : (KF w.params).In h₀) (lim : h₀.NoLimit) : FnOk prog w (n + 1) h₀ 167 (runF T 25 joinB) := by
  refine fn_at (names := [sO "a", sO "p"]) TO X lim (i := 25) (by rfl) (by rfl) (by rfl) (by rfl) (by rfl) (by rfl) (by rfl) (by rfl) (by rfl) (by decide +kernel) (by decide +kernel) ?_ ?_
  · intro A s E Q hot vs ds kvs kds σ₀ hh hE H r kr e hq
    obtain ⟨rfl, d, rest, rfl, hl, rfl⟩ := joinB_is e
    cases kr
    cases r with
    | @cons v vs _ _ r1 r2 =>
    have hlen := r2.length
    have hsz : vs.length ≤ sizeLine := by rw [sizeLine_eq]; lia
    have fin : wpAny (model prog w) A (newTuple vs >>= fun t => pure [(sO "a", v), (sO "p", t)]) Q E s :=
      wpAny_bind (wpAny_newTuple (wpAny_pure (hq _ _ (keeps_heap (ext_push _ _)) (.cons (r1.mono (ext_push _ _).sees) (.cons (rep_tuple_new H r2) .nil)))) hsz)
    rw [← hlen] at hl
    clear r2 hlen hq
    rcases hl with hl | hl
    · obtain ⟨a, rfl⟩ := List.length_eq_one_iff.mp hl
      exact wp_cong (by rfl) fin
    · obtain ⟨a, b, rfl⟩ := len2 hl
      exact wp_cong (by rfl) fin
  · intro ds kds σ h
    obtain ⟨_, d, r, _, _, rfl⟩ := joinB_is h
    rfl
end Mine

end

section
set_option maxRecDepth 100000
namespace Mine
variable {prog : Program} {w : World} {T : Tab} {n : Nat} {h₀ : Heap}

noncomputable def esG (P : Params) : Array DictEntry := match (KF P).lookup mainGlobals with
  | some o => (match o.data with
    | .dict es _ => es
    | _ => #[])
  | none => #[]
structure HB (w : World) (h₀ : Heap) (mg mb : Str → Option Value) : Prop where
  X : (KF w.params).In h₀
  g : h₀.Ns mainGlobals mg
  b : h₀.Ns builtinsNs mb
  bi : ∀ x : Str, x ≠ "__name__" → mb x = bootBuiltins x
  lim : h₀.NoLimit
section
variable {mg mb : Str → Option Value}
theorem HB.at (H : HB w h₀ mg mb) {x : Str} {v : Option Value} (e : nsFind (esG w.params) x = v) : mg x = v := by
  obtain ⟨o, es, ep, ho, hd, sk, f⟩ := H.g
  have hl : ∃ o', (KF w.params).lookup mainGlobals = some o' := ⟨_, rfl⟩
  obtain ⟨o', hl⟩ := hl
  have h2 := H.X _ _ hl
  rw [ho] at h2
  cases h2
  rw [← f x, ← e]
  unfold esG
  rw [hl]
  dsimp only
  rw [hd]
theorem HB.glob (H : HB w h₀ mg mb) {x : Str} {v : Value} (e : nsFind (esG w.params) x = some v) : GlobAt h₀ x v := ⟨mg, H.g, .inl (H.at e)⟩
theorem HB.built (H : HB w h₀ mg mb) {x : Str} {v : Value} (e : nsFind (esG w.params) x = none) (e2 : bootBuiltins x = some v) (hn : x ≠ "__name__" := by decide +kernel) : GlobAt h₀ x v :=
  ⟨mg, H.g, .inr ⟨H.at e, mb, H.b, (H.bi x hn).trans e2⟩⟩

theorem gt_bytes (H : HB w h₀ mg mb) : GlobAt h₀ (Str.ofString "bytes") (.type "bytes") := H.built (by kernel_rfl) (by kernel_rfl)
theorem gt_bytearray (H : HB w h₀ mg mb) : GlobAt h₀ (Str.ofString "bytearray") (.type "bytearray") := H.built (by kernel_rfl) (by kernel_rfl)
theorem gt_bool (H : HB w h₀ mg mb) : GlobAt h₀ (Str.ofString "bool") (.type "bool") := H.built (by kernel_rfl) (by kernel_rfl)
theorem gt_int (H : HB w h₀ mg mb) : GlobAt h₀ (Str.ofString "int") (.type "int") := H.built (by kernel_rfl) (by kernel_rfl)
theorem gt_float (H : HB w h₀ mg mb) : GlobAt h₀ (Str.ofString "float") (.type "float") := H.built (by kernel_rfl) (by kernel_rfl)
theorem gt_complex (H : HB w h₀ mg mb) : GlobAt h₀ (Str.ofString "complex") (.type "complex") := H.built (by kernel_rfl) (by kernel_rfl)
theorem gt_str (H : HB w h₀ mg mb) : GlobAt h₀ (Str.ofString "str") (.type "str") := H.built (by kernel_rfl) (by kernel_rfl)
theorem gt_list (H : HB w h₀ mg mb) : GlobAt h₀ (Str.ofString "list") (.type "list") := H.built (by kernel_rfl) (by kernel_rfl)
theorem gt_tuple (H : HB w h₀ mg mb) : GlobAt h₀ (Str.ofString "tuple") (.type "tuple") := H.built (by kernel_rfl) (by kernel_rfl)
theorem gt_dict (H : HB w h₀ mg mb) : GlobAt h₀ (Str.ofString "dict") (.type "dict") := H.built (by kernel_rfl) (by kernel_rfl)
theorem gt_set (H : HB w h₀ mg mb) : GlobAt h₀ (Str.ofString "set") (.type "set") := H.built (by kernel_rfl) (by kernel_rfl)
theorem gt_frozenset (H : HB w h₀ mg mb) : GlobAt h₀ (Str.ofString "frozenset") (.type "frozenset") := H.built (by kernel_rfl) (by kernel_rfl)
theorem gt_range (H : HB w h₀ mg mb) : GlobAt h₀ (Str.ofString "range") (.type "range") := H.built (by kernel_rfl) (by kernel_rfl)
theorem gb_abs (H : HB w h₀ mg mb) : GlobAt h₀ (Str.ofString "abs") (.builtin "abs") := H.built (by kernel_rfl) (by kernel_rfl)
theorem gb_len (H : HB w h₀ mg mb) : GlobAt h₀ (Str.ofString "len") (.builtin "len") := H.built (by kernel_rfl) (by kernel_rfl)
theorem gb_sorted (H : HB w h₀ mg mb) : GlobAt h₀ (Str.ofString "sorted") (.builtin "sorted") := H.built (by kernel_rfl) (by kernel_rfl)
theorem gb_chr (H : HB w h₀ mg mb) : GlobAt h₀ (Str.ofString "chr") (.builtin "chr") := H.built (by kernel_rfl) (by kernel_rfl)
theorem gb_sum (H : HB w h₀ mg mb) : GlobAt h₀ (Str.ofString "sum") (.builtin "sum") := H.built (by kernel_rfl) (by kernel_rfl)
theorem gb_isinstance (H : HB w h₀ mg mb) : GlobAt h₀ (Str.ofString "isinstance") (.builtin "isinstance") := H.built (by kernel_rfl) (by kernel_rfl)
theorem gb_issubclass (H : HB w h₀ mg mb) : GlobAt h₀ (Str.ofString "issubclass") (.builtin "issubclass") := H.built (by kernel_rfl) (by kernel_rfl)
theorem gt_type (H : HB w h₀ mg mb) : GlobAt h₀ (Str.ofString "type") (.type "type") := H.built (by kernel_rfl) (by kernel_rfl)
theorem gt_enumerate (H : HB w h₀ mg mb) : GlobAt h₀ (Str.ofString "enumerate") (.type "enumerate") := H.built (by kernel_rfl) (by kernel_rfl)
theorem g_b64 (H : HB w h₀ mg mb) : ∃ t, GlobAt h₀ (Str.ofString "_B64") (.bytes b64 t) := ⟨match nsFind (esG w.params) (Str.ofString "_B64") with | some (.bytes _ t) => t | _ => 0, H.glob (by kernel_rfl)⟩
theorem typ_at (H : HB w h₀ mg mb) : ∀ n ∈ typeNames, GlobAt h₀ (Str.ofString n) (.type n) :=
  List.forall_mem_cons.2 <| And.intro (gt_bytes H) <| List.forall_mem_cons.2 <| And.intro (gt_bytearray H) <| List.forall_mem_cons.2 <| And.intro (gt_bool H) <| List.forall_mem_cons.2 <| And.intro (gt_int H) <|
  List.forall_mem_cons.2 <| And.intro (gt_float H) <| List.forall_mem_cons.2 <| And.intro (gt_complex H) <| List.forall_mem_cons.2 <| And.intro (gt_str H) <| List.forall_mem_cons.2 <| And.intro (gt_list H) <|
  List.forall_mem_cons.2 <| And.intro (gt_tuple H) <| List.forall_mem_cons.2 <| And.intro (gt_dict H) <| List.forall_mem_cons.2 <| And.intro (gt_set H) <| List.forall_mem_cons.2 <| And.intro (gt_frozenset H) <|
  List.forall_mem_cons.2 <| And.intro (gt_range H) fun _ h => nomatch h
theorem cst_ok (H : HB w h₀ mg mb) {x : Str} {d : D} (e : cstD x = some d) : ∃ v, GlobAt h₀ x v ∧ ∀ hot h, Rep prog w hot h v d := by
  unfold cstD at e
  split at e
  · rename_i hx
    cases e
    subst hx
    obtain ⟨t, g⟩ := g_b64 H
    exact ⟨_, g, fun hot h => .bytes _ _⟩
  · rw [Option.map_eq_some_iff] at e
    obtain ⟨n, hn, rfl⟩ := e
    have hm := List.mem_of_find?_eq_some hn
    have hx := List.find?_some hn
    rw [decide_eq_true_eq] at hx
    subst hx
    refine ⟨.type n, ?_, fun hot h => .typ _⟩
    exact typ_at H n hm
theorem nb (s : String) : ∀ a, Value.builtin s ≠ .ref a := fun a z => nomatch z
theorem nt (s : String) : ∀ a, Value.type s ≠ .ref a := fun a z => nomatch z
theorem bvL_ok (H : HB w h₀ mg mb) : AllT (fun n f => GlobAt h₀ (Str.ofString n) f ∧ ∀ a, f ≠ .ref a) bvL :=
  And.intro ⟨gb_abs H, nb _⟩ <| And.intro ⟨gb_len H, nb _⟩ <| And.intro ⟨gb_sorted H, nb _⟩ <| And.intro ⟨gb_chr H, nb _⟩ <| And.intro ⟨gb_sum H, nb _⟩ <| And.intro ⟨gb_isinstance H, nb _⟩ <| And.intro ⟨gb_issubclass H, nb _⟩ <|
  And.intro ⟨gt_range H, nt _⟩ <| And.intro ⟨gt_list H, nt _⟩ <| And.intro ⟨gt_set H, nt _⟩ <| And.intro ⟨gt_bytes H, nt _⟩ <| And.intro ⟨gt_type H, nt _⟩ trivial
theorem bv_ok (H : HB w h₀ mg mb) {x : Str} {f : Value} (e : bvD x = some f) : GlobAt h₀ x f ∧ ∀ a, f ≠ .ref a := by
  obtain ⟨n, h1, h⟩ := lookT_is (bvL_ok H) e
  exact h1 ▸ h
theorem ty_ok (H : HB w h₀ mg mb) {t name : Str} {F : List D → Option D} (e : tyD t name = some F) : ∃ v, GlobAt h₀ t v ∧ TyOk prog w v name F := by
  unfold tyD at e
  split at e
  · rename_i h; cases e; obtain ⟨rfl, rfl⟩ := h; exact ⟨_, gt_dict H, tyok_fk⟩
  · split at e
    · rename_i h; cases e; obtain ⟨rfl, rfl⟩ := h; exact ⟨_, gt_bytes H, tyok_mt⟩
    · cases e
theorem tab0 (H : HB w h₀ mg mb) (n : Nat) : TabOk prog w T0 n h₀ := by
  refine ⟨fun x d e => cst_ok H e, fun x f e => bv_ok H e, fun f ds d e => biD_ok e, fun x F e => ?_, fun d name Tn id e => methD_ok e, fun t name F e => ty_ok H e, gt_enumerate H⟩
  cases e
set_option tactic.hygienic true in
theorem tab_with (TO : TabOk prog w T n h₀) {fs : List (Str × (List D → List (Str × D) → Option D))} (hf : ∀ p ∈ fs, ∃ a, GlobAt h₀ p.1 (.ref a) ∧ FnOk prog w n h₀ a p.2) : TabOk prog w (withF T fs) n h₀ := by
  refine ⟨TO.cst, TO.bv, TO.bi, fun x F e => ?_, TO.meth, TO.ty, TO.enum⟩
  change (match fs.lookup x with | some F => some F | none => T.fn x) = some F at e
  split at e
  · rename_i F' hl
    cases e
    exact hf (x, F) (mem_of_lookup hl)
  · exact TO.fn x F e

theorem gf_buffer (H : HB w h₀ mg mb) : GlobAt h₀ (sO "_buffer") (.ref 50) := H.glob (by kernel_rfl)
theorem gf_truth (H : HB w h₀ mg mb) : GlobAt h₀ (sO "_truth") (.ref 57) := H.glob (by kernel_rfl)
theorem gf_fspath (H : HB w h₀ mg mb) : GlobAt h₀ (sO "fspath") (.ref 146) := H.glob (by kernel_rfl)
theorem gf_getsep (H : HB w h₀ mg mb) : GlobAt h₀ (sO "_get_sep") (.ref 160) := H.glob (by kernel_rfl)
theorem gf_ded (H : HB w h₀ mg mb) : GlobAt h₀ (sO "_deduplicate") (.ref 29) := H.glob (by kernel_rfl)
theorem gf_dedu (H : HB w h₀ mg mb) : GlobAt h₀ (sO "_deduplicate_unhashable") (.ref 36) := H.glob (by kernel_rfl)
theorem gf_links (H : HB w h₀ mg mb) : GlobAt h₀ (sO "_law_links") (.ref 200) := H.glob (by kernel_rfl)
theorem gf_goals (H : HB w h₀ mg mb) : GlobAt h₀ (sO "_law_goals") (.ref 212) := H.glob (by kernel_rfl)
theorem gf_alike (H : HB w h₀ mg mb) : GlobAt h₀ (sO "_law_alike") (.ref 222) := H.glob (by kernel_rfl)
theorem gf_code (H : HB w h₀ mg mb) : GlobAt h₀ (sO "_law_code") (.ref 227) := H.glob (by kernel_rfl)
theorem gf_b2a (H : HB w h₀ mg mb) : GlobAt h₀ (sO "b2a_base64") (.ref 65) := H.glob (by kernel_rfl)
theorem gf_join (H : HB w h₀ mg mb) : GlobAt h₀ (sO "join") (.ref 167) := H.glob (by kernel_rfl)
theorem gf_splitroot (H : HB w h₀ mg mb) : GlobAt h₀ (sO "splitroot") (.ref 174) := H.glob (by kernel_rfl)
theorem gf_basename (H : HB w h₀ mg mb) : GlobAt h₀ (sO "basename") (.ref 181) := H.glob (by kernel_rfl)
theorem gf_dirname (H : HB w h₀ mg mb) : GlobAt h₀ (sO "dirname") (.ref 188) := H.glob (by kernel_rfl)
theorem gf_b64 (H : HB w h₀ mg mb) : GlobAt h₀ (sO "b64encode") (.ref 73) := H.glob (by kernel_rfl)
theorem gf_normpath (H : HB w h₀ mg mb) : GlobAt h₀ (sO "normpath") (.ref 195) := H.glob (by kernel_rfl)
theorem gf_told (H : HB w h₀ mg mb) : GlobAt h₀ (sO "_law_told") (.ref 205) := H.glob (by kernel_rfl)
theorem gf_codes (H : HB w h₀ mg mb) : GlobAt h₀ (sO "_law_codes") (.ref 217) := H.glob (by kernel_rfl)
theorem gf_cmp (H : HB w h₀ mg mb) : GlobAt h₀ (sO "_compare_args_orderless") (.ref 43) := H.glob (by kernel_rfl)
theorem gf_law (H : HB w h₀ mg mb) : GlobAt h₀ (sO "law") (.ref 232) := H.glob (by kernel_rfl)
theorem tab1 (H : HB w h₀ mg mb) (n : Nat) : TabOk prog w T1 (n + 1) h₀ := by
  have TO : TabOk prog w T0 (n) h₀ := tab0 H n
  have TO' : TabOk prog w T0 (n + 1) h₀ := tab0 H (n + 1)
  refine tab_with TO' fun p hp => ?_
  simp only [fns1, List.mem_cons, List.not_mem_nil, or_false] at hp
  rcases hp with rfl | rfl | rfl | rfl | rfl | rfl | rfl | rfl | rfl | rfl
  · exact ⟨_, gf_buffer H, fx_buffer TO H.X H.lim⟩
  · exact ⟨_, gf_truth H, fx_truth TO H.X H.lim⟩
  · exact ⟨_, gf_fspath H, fx_fspath TO H.X H.lim⟩
  · exact ⟨_, gf_getsep H, fx_getsep TO H.X H.lim⟩
  · exact ⟨_, gf_ded H, fx_ded TO H.X H.lim⟩
  · exact ⟨_, gf_dedu H, fx_dedu TO H.X H.lim⟩
  · exact ⟨_, gf_links H, fx_links TO H.X H.lim⟩
  · exact ⟨_, gf_goals H, fx_goals TO H.X H.lim⟩
  · exact ⟨_, gf_alike H, fx_alike TO H.X H.lim⟩
  · exact ⟨_, gf_code H, fx_code TO H.X H.lim⟩
theorem tab2 (H : HB w h₀ mg mb) (n : Nat) : TabOk prog w T2 (n + 2) h₀ := by
  have TO : TabOk prog w T1 (n + 1) h₀ := tab1 H n
  have TO' : TabOk prog w T1 (n + 2) h₀ := by have := tab1 (prog := prog) H (n + 1); rw [show n + 1 + 1 = n + 2 by lia] at this; exact this
  refine tab_with TO' fun p hp => ?_
  simp only [fns2, List.mem_cons, List.not_mem_nil, or_false] at hp
  rcases hp with rfl | rfl | rfl | rfl | rfl
  · exact ⟨_, gf_b2a H, fx_b2a TO H.X H.lim⟩
  · exact ⟨_, gf_join H, fx_join TO H.X H.lim⟩
  · exact ⟨_, gf_splitroot H, fx_splitroot TO H.X H.lim⟩
  · exact ⟨_, gf_basename H, fx_basename TO H.X H.lim⟩
  · exact ⟨_, gf_dirname H, fx_dirname TO H.X H.lim⟩
theorem tab3 (H : HB w h₀ mg mb) (n : Nat) : TabOk prog w T3 (n + 3) h₀ := by
  have TO : TabOk prog w T2 (n + 2) h₀ := tab2 H n
  have TO' : TabOk prog w T2 (n + 3) h₀ := by have := tab2 (prog := prog) H (n + 1); rw [show n + 1 + 2 = n + 3 by lia] at this; exact this
  refine tab_with TO' fun p hp => ?_
  simp only [fns3, List.mem_cons, List.not_mem_nil, or_false] at hp
  rcases hp with rfl | rfl
  · exact ⟨_, gf_b64 H, fx_b64 TO H.X H.lim⟩
  · exact ⟨_, gf_normpath H, fx_normpath TO H.X H.lim⟩
theorem tab4 (H : HB w h₀ mg mb) (n : Nat) : TabOk prog w T4 (n + 4) h₀ := by
  have TO : TabOk prog w T3 (n + 3) h₀ := tab3 H n
  have TO' : TabOk prog w T3 (n + 4) h₀ := by have := tab3 (prog := prog) H (n + 1); rw [show n + 1 + 3 = n + 4 by lia] at this; exact this
  refine tab_with TO' fun p hp => ?_
  simp only [fns4, List.mem_cons, List.not_mem_nil, or_false] at hp
  rcases hp with rfl | rfl
  · exact ⟨_, gf_told H, fx_told TO H.X H.lim⟩
  · exact ⟨_, gf_codes H, fx_codes TO H.X H.lim⟩
end
end Mine

end

section
set_option maxRecDepth 100000
namespace Mine

/-! ## parts of the text -/
noncomputable def noE : Expr := .Constant .none 0 default
noncomputable def stN (b : List Stmt) (i : Nat) : Stmt := b.getD i (.Pass default)
noncomputable def forB : Stmt → List Stmt | .For _ _ b _ _ => b | _ => []
noncomputable def forI : Stmt → Expr | .For _ i _ _ _ => i | _ => noE
noncomputable def forT : Stmt → Expr | .For t _ _ _ _ => t | _ => noE
noncomputable def isForS : Stmt → Bool | .For _ _ _ [] _ => true | _ => false
noncomputable def asgE : Stmt → Expr | .Assign _ v _ => v | _ => noE
noncomputable def tstE : Stmt → Expr | .If t _ _ _ => t | _ => noE
noncomputable def thenB : Stmt → List Stmt | .If _ b _ _ => b | _ => []
noncomputable def exprE : Stmt → Expr | .Expr e _ => e | _ => noE
noncomputable def eltX : Expr → Expr | .ListComp e _ _ _ => e | _ => noE
noncomputable def gensX : Expr → List Comprehension | .ListComp _ g _ _ => g | _ => []
noncomputable def scX : Expr → Scope | .ListComp _ _ s _ => s | _ => default
noncomputable def genI : List Comprehension → Expr | ⟨_, i, _, _⟩ :: _ => i | _ => noE
noncomputable def argX (i : Nat) : Expr → Expr | .Call _ as _ _ => as.getD i noE | _ => noE
noncomputable def cmpR : Expr → Expr | .Compare _ _ rs _ => rs.getD 0 noE | _ => noE
noncomputable def cmpL : Expr → Expr | .Compare l _ _ _ => l | _ => noE
noncomputable def cmpO : Expr → Option CmpOp | .Compare _ [o] [_] _ => some o | _ => none
noncomputable def isIfS : Stmt → Bool | .If _ _ [] _ => true | _ => false

noncomputable def nI (n : Nat) : D := .int (n : Int)

section
variable {T : Tab} {sc : Scope} {ρ : Vars} {σ σ' σ₁ : St} {b : List Stmt} {st : Stmt} {e : Expr} {i : Nat} {xs ds : List D} {d : D} {fl : Fl}

/-! ## comprehensions -/
noncomputable def compF (T : Tab) (e : Expr) (ρ : Vars) (d : D) : Option (Option D) :=
  (bindG (gensX e) d ρ).bind fun ρ' => (evIfs T (gensX e) (scX e) ρ').bind fun b => if b then (evE T (eltX e) (scX e) ρ').bind fun x => some (some x) else some none
theorem evE_comp (he : isComp e = true) : evE T e sc ρ = (evIter T (gensX e) sc ρ).bind fun items => (compO (compF T e ρ) items).bind fun ds => some (.list ds) := by
  cases e <;> first | (cases he; done) | rfl
theorem evIter_plain (g : List Comprehension) (hn : isEnumCall (genI g) = false) (hg : g ≠ []) : evIter T g sc ρ = (evE T (genI g) sc ρ).bind iterD := by
  cases g with
  | nil => exact absurd rfl hg
  | cons c r =>
    obtain ⟨t, it, ifs, a⟩ := c
    show evItems T it sc ρ (evE T it sc ρ) = _
    change isEnumCall it = false at hn
    exact items_plain hn
theorem iterD_list (h : xs.length ≤ 1000000) : iterD (.list xs) = some xs := by unfold iterD; exact if_pos h
theorem ev_comp (he : isComp e = true) {items : List D} (hi : evIter T (gensX e) sc ρ = some items) (hc : compO (compF T e ρ) items = some ds) : evE T e sc ρ = some (.list ds) := by
  rw [evE_comp he, hi, Option.bind_some, hc]; rfl
theorem ev_comp_list (he : isComp e = true) (hn : isEnumCall (genI (gensX e)) = false) (hg : (gensX e).isEmpty = false) (hs : evE T (genI (gensX e)) sc ρ = some (.list xs)) (hl : xs.length ≤ 1000000)
    (hc : compO (compF T e ρ) xs = some ds) : evE T e sc ρ = some (.list ds) := by
  refine ev_comp he ?_ hc
  rw [evIter_plain _ hn (by intro q; rw [q] at hg; cases hg), hs]
  exact iterD_list hl
theorem compO_fm {α : Type} {f : D → Option (Option D)} (k : α → D) (o : α → Option D) : ∀ (xs : List α), (∀ x ∈ xs, f (k x) = some (o x)) → compO f (xs.map k) = some (xs.filterMap o)
  | [], _ => rfl
  | x :: r, h => by
    rw [List.map_cons, compO, h x List.mem_cons_self, Option.bind_some, compO_fm k o r fun y hy => h y (List.mem_cons_of_mem _ hy), Option.bind_some, List.filterMap_cons]
    cases o x <;> rfl
theorem compO_map {α : Type} {f : D → Option (Option D)} (k : α → D) (o : α → D) (xs : List α) (h : ∀ x ∈ xs, f (k x) = some (some (o x))) : compO f (xs.map k) = some (xs.map o) := by
  rw [compO_fm k (fun x => some (o x)) xs h]
  congr 1
  induction xs with
  | nil => rfl
  | cons x r ih => rw [List.filterMap_cons, List.map_cons, ih fun y hy => h y (List.mem_cons_of_mem _ hy)]

/-! ## blocks -/
theorem drop_stN (hi : i < b.length) : b.drop i = stN b i :: b.drop (i + 1) := by
  rw [List.drop_eq_getElem_cons hi]
  congr 1
  unfold stN
  rw [List.getD_eq_getElem?_getD, List.getElem?_eq_getElem hi]; rfl
theorem run_next (h : evS T (stN b i) sc σ = some (.next, σ')) (hi : i < b.length := by decide +kernel) : evSs T (b.drop i) sc σ = evSs T (b.drop (i + 1)) sc σ' := by
  rw [drop_stN hi, evSs_c, h]; rfl
theorem run_ret (h : evS T (stN b i) sc σ = some (.ret d, σ')) (hi : i < b.length := by decide +kernel) : evSs T (b.drop i) sc σ = some (.ret d, σ') := by
  rw [drop_stN hi, evSs_c, h]; rfl
theorem run_end (h : b.drop i = []) : evSs T (b.drop i) sc σ = some (.next, σ) := by rw [h]; rfl
theorem run_all : evSs T b sc σ = evSs T (b.drop 0) sc σ := by rw [List.drop_zero]
theorem runD_of {body : List Stmt} {d : D} (h : evSs T body sc σ = some (.ret d, σ')) : runD T body sc σ = some d := by unfold runD; rw [h]; rfl

/-- the one of a list -/
noncomputable def oneE : List Expr → Option Expr
  | t :: r => if r.isEmpty then some t else none
  | [] => none
theorem oneE_is {ts : List Expr} {t : Expr} (h : oneE ts = some t) : ts = [t] := by
  cases ts with
  | nil => exact none_ne h
  | cons a r =>
    obtain ⟨h1, rfl⟩ := ite_of h
    rw [List.isEmpty_iff.mp h1]
/-- the one target of an assignment -/
noncomputable def tgsX : Stmt → List Expr | .Assign ts _ _ => ts | _ => []
noncomputable def tg1 (st : Stmt) : Option Expr := oneE (tgsX st)
theorem asg_is {st : Stmt} (h : tgsX st ≠ []) : ∃ p, st = .Assign (tgsX st) (asgE st) p := by
  cases st with
  | Assign ts v p => exact ⟨p, rfl⟩
  | _ => exact absurd rfl h
theorem tg1_is {t : Expr} (h : tg1 st = some t) : ∃ v p, st = .Assign [t] v p ∧ asgE st = v := by
  have h1 := oneE_is h
  obtain ⟨p, hp⟩ := asg_is (st := st) (by rw [h1]; exact List.cons_ne_nil _ _)
  rw [h1] at hp
  exact ⟨_, p, hp, rfl⟩
/-- the name of a plain assignment -/
noncomputable def plainA (st : Stmt) : Option Str :=
  (tg1 st).bind fun t => (nameX t).bind fun x => if isNilL (asgE st) || isCompComp (asgE st) then none else some x
theorem evS_plain {x : Str} (hp : plainA st = some x) : evS T st sc σ = (evV T (asgE st) sc σ).bind fun r => some (.next, put x (.cold r.1) r.2) := by
  replace hp := Option.bind_eq_some_iff.mp hp
  obtain ⟨t, h1, hp⟩ := hp
  replace hp := Option.bind_eq_some_iff.mp hp
  obtain ⟨y, h2, hp⟩ := hp
  replace hp := ite_no hp
  obtain ⟨hc, hp⟩ := hp
  cases hp
  obtain ⟨q, rfl⟩ := nameX_is h2
  obtain ⟨v, p, h3, h4⟩ := tg1_is h1
  rw [h4] at hc ⊢
  rw [h3]
  have h5 : isNilL v = false ∧ isCompComp v = false := by simpa using hc
  show (if isNilL v then some (put x (.hot1 []) σ) else (evV T v sc σ).bind fun r => some (putNew (isCompComp v) x r.1 r.2)).bind _ = _
  rw [h5.1, h5.2, if_neg (by decide)]
  cases evV T v sc σ <;> rfl
theorem evS_cold {x : Str} (hp : plainA st = some x) (h : evE T (asgE st) sc (coldV σ) = some d) : evS T st sc σ = some (.next, put x (.cold d) σ) := by
  rw [evS_plain hp]; unfold evV; rw [h]; rfl
theorem evS_for (hf : isForS st = true) {items : List D} (hv : evV T (forI st) sc σ = some (d, σ₁)) (hi : iterD d = some items) :
    evS T st sc σ = forO (fun d σ => (bindS (forT st) d σ).bind fun σ' => evSs T (forB st) sc σ') items σ₁ := by
  cases st with
  | For t it b o p =>
    cases o with
    | nil =>
      show (evV T it sc σ).bind _ = _
      change evV T it sc σ = _ at hv
      rw [hv, Option.bind_some, hi]; rfl
    | cons _ _ => cases hf
  | _ => cases hf
theorem evS_if_true (hf : isIfS st = true) (h : evT T (tstE st) sc (allV σ) (evE T (tstE st) sc (allV σ)) = some true) : evS T st sc σ = evSs T (thenB st) sc σ := by
  cases st with
  | If t b o p =>
    show (evT T t sc (allV σ) (evE T t sc (allV σ))).bind _ = _
    change evT T t sc (allV σ) (evE T t sc (allV σ)) = _ at h
    rw [h]; rfl
  | _ => cases hf
theorem evS_if_false (hf : isIfS st = true) (h : evT T (tstE st) sc (allV σ) (evE T (tstE st) sc (allV σ)) = some false) : evS T st sc σ = some (.next, σ) := by
  cases st with
  | If t b o p =>
    show (evT T t sc (allV σ) (evE T t sc (allV σ))).bind _ = _
    change evT T t sc (allV σ) (evE T t sc (allV σ)) = _ at h
    rw [h]
    cases o with
    | nil => rfl
    | cons _ _ => cases hf
  | _ => cases hf
theorem forO_next {f : D → St → Option (Fl × St)} {d : D} {r : List D} (h : f d σ = some (.next, σ')) : forO f (d :: r) σ = forO f r σ' := by
  rw [forO, h]; rfl
theorem forO_inv (f : D → St → Option (Fl × St)) (P : List D → St → Prop) (hs : ∀ d r σ, P (d :: r) σ → ∃ σ', f d σ = some (.next, σ') ∧ P r σ') : ∀ (items : List D) (σ : St), P items σ → ∃ σ', forO f items σ = some (.next, σ') ∧ P [] σ'
  | [], σ, h => ⟨σ, rfl, h⟩
  | d :: r, σ, h => by
    obtain ⟨σ₁, h1, h2⟩ := hs d r σ h
    rw [forO_next h1]
    exact forO_inv f P hs r σ₁ h2
end

/-! ## equality of data -/
theorem eqv_str (a b : Str) : eqvD (.str a) (.str b) = (a == b) := rfl
theorem eqv_bool (a b : Bool) : eqvD (.bool a) (.bool b) = (a == b) := rfl
theorem eqv_int (a b : Int) : eqvD (.int a) (.int b) = (a == b) := rfl
theorem eqv_list_cons (a b : D) (xs ys : List D) : eqvD (.list (a :: xs)) (.list (b :: ys)) = (eqvD a b && eqvD (.list xs) (.list ys)) := rfl

theorem eqvAll_of {L : D → Bool} (ih : ∀ d, L d = true → eqvD d d = true) : ∀ xs : List D, xs.all L = true → PyData.eqvAll (toPys xs) (toPys xs) = true
  | [], _ => rfl
  | x :: r, h => by
    rw [List.all_cons, Bool.and_eq_true] at h
    exact Bool.and_eq_true_iff.mpr ⟨ih x h.1, eqvAll_of ih r h.2⟩
theorem eqB_refl {L : List D → Bool} (ih : ∀ xs, L xs = true → PyData.eqvAll (toPys xs) (toPys xs) = true) (d : D) (e : eqB L d = true) : eqvD d d = true := by
  cases d with
  | none => rfl
  | bool b => exact beq_self_eq_true b
  | int i => exact beq_self_eq_true i
  | str x => exact beq_self_eq_true x
  | list xs => exact ih xs e
  | tuple xs => exact ih xs e
  | _ => exact false_ne e
theorem eqv_refl : ∀ (n : Nat) (d : D), eqOk n d = true → eqvD d d = true
  | 0, d, e => eqB_refl (fun z0 e => false_ne e) d e
  | n + 1, d, e => eqB_refl (eqvAll_of (eqv_refl n)) d e
theorem eqvAll_refl (n : Nat) (xs : List D) (h : xs.all (eqOk n) = true) : PyData.eqvAll (toPys xs) (toPys xs) = true := eqvAll_of (eqv_refl n) xs h

theorem sliceD_list {xs : List D} {lo hi st : Option Int} (h : st ≠ some 0) (hl : xs.length ≤ 1000000) : sliceD (.list xs) lo hi st = some (.list (pickD xs lo hi st)) := by unfold sliceD; exact if_pos ⟨h, hl⟩
theorem addD_list {xs ys : List D} (h : xs.length + ys.length ≤ 100000) : binD .Add (.list xs) (.list ys) = some (.list (xs ++ ys)) := if_pos h
/-- a slice from the start -/
theorem pick_take {α : Type} (xs : List α) (n : Nat) : pickD xs none (some (n : Int)) none = xs.take n := by
  have e : sliceBounds none (some (n : Int)) none xs.length = (0, ((min n xs.length : Nat) : Int), 1) := by
    simp only [sliceBounds, Option.getD_none]
    have h2 : ¬ ((n : Int) < 0) := by omega
    simp only [h2, if_false, show (1 : Int) > 0 by decide, if_true]
    congr 2
    omega
  unfold pickD
  rw [e]
  have := pick_run xs.toArray 0 (min n xs.length)
  show (sliceRange ((0 : Nat) : Int) ((min n xs.length : Nat) : Int) 1).filterMap (xs[·]?) = _
  rw [sliceRange_one]
  simp only [List.getElem?_toArray, List.drop_zero] at this
  rw [Nat.sub_zero, this]
  by_cases h : n ≤ xs.length
  · rw [Nat.min_eq_left h]
  · rw [Nat.min_eq_right (by omega), List.take_of_length_le (Nat.le_refl _), List.take_of_length_le (by omega)]
theorem pick_drop {α : Type} (xs : List α) (n : Nat) : pickD xs (some (n : Int)) none none = xs.drop n := by
  have e : sliceBounds (some (n : Int)) none none xs.length = (((min n xs.length : Nat) : Int), (xs.length : Int), 1) := by
    simp only [sliceBounds, Option.getD_none]
    have h2 : ¬ ((n : Int) < 0) := by omega
    simp only [h2, if_false, show (1 : Int) > 0 by decide, if_true]
    congr 1
    omega
  unfold pickD
  rw [e]
  have := pick_run xs.toArray (min n xs.length) (xs.length - min n xs.length)
  show (sliceRange ((min n xs.length : Nat) : Int) ((xs.length : Nat) : Int) 1).filterMap (xs[·]?) = _
  rw [sliceRange_one]
  simp only [List.getElem?_toArray] at this
  rw [this, List.take_of_length_le (by simp)]
  by_cases h : n ≤ xs.length
  · rw [Nat.min_eq_left h]
  · rw [Nat.min_eq_right (by omega), List.drop_eq_nil_of_le (Nat.le_refl _), List.drop_eq_nil_of_le (by omega)]
end Mine

end

section
set_option maxRecDepth 100000
namespace Mine

/-! ## the links -/
noncomputable def ownL : List Int := [17, 12, 3, 16, 1, 19, 0, 6, 20, 3, 1, 18, 9, 12, 9]
noncomputable def foldersL : List String := [".", "..", "a", "b", "/", "/a/b", "a/../b/.", "../a"]
noncomputable def namesL : List String := ["p", "q", "r", "p", "q"]
noncomputable def folderD (y : Nat) : D := .str (sO (foldersL.getD (y % 8) ""))
noncomputable def nameD' (y : Nat) : D := .str (sO (namesL.getD (y / 8) ""))
noncomputable def pairD (y : Nat) : D := .tuple [folderD y, nameD' y]
noncomputable def linksD (Y : Nat → Nat) : D := .list ((List.range 5).map fun k => .list ((List.range 3).map fun j => pairD (Y (3 * k + j))))

noncomputable def absmod (x : Int) : Int := (if x < 0 then -x else x).fmod 40
theorem absmod_range (x : Int) : 0 ≤ absmod x ∧ absmod x < 40 := by
  unfold absmod
  exact ⟨Int.fmod_nonneg_of_pos _ (by decide), Int.fmod_lt_of_pos _ (by decide)⟩

noncomputable def B31 := (defAt 31).1
noncomputable def S31 := (defAt 31).2
noncomputable def σ31 (xs : List D) : St := [(sO "script", .cold (.list xs)), (sO "own", .cold (.list (ownL.map .int))), (sO "folders", .cold (.list (foldersL.map fun x => .str (sO x)))), (sO "names", .cold (.list (namesL.map fun x => .str (sO x))))]

theorem l31_0 (xs : List D) : evSs T0 B31 S31 [(sO "script", .cold (.list xs))] = evSs T0 (B31.drop 3) S31 (σ31 xs) := by
  rw [run_all]
  rw [run_next (σ' := (σ31 xs).take 2) (by kernel_rfl), run_next (σ' := (σ31 xs).take 3) (by kernel_rfl), run_next (σ' := σ31 xs) (by kernel_rfl)]
theorem l31_iter (xs : List D) : evE T0 (genI (gensX (asgE (stN B31 3)))) S31 (coldV (σ31 xs)) =
    (sliceD (.list xs) none (some 15) none).bind fun a => ((lenD [.list xs]).bind fun n => (partD n).bind fun lo => sliceD (.list (ownL.map .int)) lo none none).bind fun b => binD .Add a b := by kernel_rfl
theorem l31_elt (xs : List D) (x : Int) : compF T0 (asgE (stN B31 3)) (coldV (σ31 xs)) (.int x) = some (some (.int (absmod x))) := by kernel_rfl
/-- the numbers -/
noncomputable def numsL (ns : List Int) : List Int := ((ns.take 15) ++ ownL.drop ns.length).map absmod
theorem numsL_len (ns : List Int) : (numsL ns).length = 15 := by
  unfold numsL
  rw [List.length_map, List.length_append, List.length_take, List.length_drop]
  show min 15 ns.length + (15 - ns.length) = 15
  lia
theorem l31_nums (ns : List Int) (hn : ns.length ≤ 63) : evE T0 (asgE (stN B31 3)) S31 (coldV (σ31 (ns.map .int))) = some (.list ((numsL ns).map .int)) := by
  have h1 : sliceD (.list (ns.map .int)) none (some 15) none = some (.list ((ns.take 15).map .int)) := by
    rw [sliceD_list (by decide) (by rw [List.length_map]; lia)]
    have := pick_take (ns.map D.int) 15
    rw [show ((15 : Nat) : Int) = 15 by rfl] at this
    rw [this, List.map_take]
  have h2 : lenD [.list (ns.map .int)] = some (.int (ns.length : Int)) := by
    show (if (ns.map D.int).length ≤ 1000000 then some (D.int (ns.map D.int).length) else none) = _
    rw [List.length_map, if_pos (by lia)]
  have h3 : sliceD (.list (ownL.map .int)) (some (ns.length : Int)) none none = some (.list ((ownL.drop ns.length).map .int)) := by
    rw [sliceD_list (by decide) (by decide), pick_drop, List.map_drop]
  refine ev_comp_list (xs := (ns.take 15 ++ ownL.drop ns.length).map .int) (by kernel_rfl) (by kernel_rfl) (by kernel_rfl) ?_ ?_ ?_
  · rw [l31_iter, h1, Option.bind_some, h2, Option.bind_some]
    show (sliceD (.list (ownL.map .int)) (some (ns.length : Int)) none none).bind _ = _
    rw [h3, Option.bind_some]
    rw [addD_list (by simp only [List.length_map, List.length_take, List.length_drop]; show _ + (15 - ns.length) ≤ _; lia), List.map_append]
  · simp only [List.length_map, List.length_append, List.length_take, List.length_drop]; show _ + (15 - ns.length) ≤ _; lia
  · unfold numsL
    rw [compO_map .int (fun x => .int (absmod x)) _ fun x z0 => l31_elt _ x, List.map_map]
    rfl
noncomputable def σ31n (xs : List D) (Y : Nat → Nat) : St := σ31 xs ++ [(sO "numbers", .cold (.list ((List.range 15).map fun i => nI (Y i))))]
theorem l31_pairs (xs : List D) (Y : Nat → Nat) : (List.range 40).map (fun y => compF T0 (asgE (stN B31 4)) (coldV (σ31n xs Y)) (nI y)) = (List.range 40).map fun y => some (some (pairD y)) := by kernel_rfl
theorem l31_links (xs : List D) (Y : Nat → Nat) (hY : ∀ i, Y i < 40) : evE T0 (asgE (stN B31 4)) S31 (coldV (σ31n xs Y)) = some (.list ((List.range 15).map fun i => pairD (Y i))) := by
  refine ev_comp_list (xs := (List.range 15).map fun i => nI (Y i)) (by kernel_rfl) (by kernel_rfl) (by kernel_rfl) (by kernel_rfl) (by simp) ?_
  refine compO_map (fun i => nI (Y i)) (fun i => pairD (Y i)) _ fun i z0 => ?_
  exact List.map_inj_left.mp (l31_pairs xs Y) (Y i) (List.mem_range.mpr (hY i))
theorem l31_ret (xs : List D) (Y : Nat → Nat) : evS T0 (stN B31 5) S31 (σ31n xs Y ++ [(sO "links", .cold (.list ((List.range 15).map fun i => pairD (Y i))))]) = some (.ret (linksD Y), σ31n xs Y ++ [(sO "links", .cold (.list ((List.range 15).map fun i => pairD (Y i))))]) := by kernel_rfl

theorem links_run40 (ns : List Int) (hn : ns.length ≤ 63) : ∃ Y : Nat → Nat, (∀ i, Y i < 40) ∧ runF T0 31 (posB [sO "script"]) [.list (ns.map .int)] [] = some (linksD Y) := by
  refine ⟨fun i => ((numsL ns).getD i 0).toNat, fun i => ?_, ?_⟩
  · by_cases h : i < (numsL ns).length
    · have e : (numsL ns).getD i 0 = (numsL ns)[i] := by rw [List.getD_eq_getElem?_getD, List.getElem?_eq_getElem h]; rfl
      have hm : (numsL ns)[i] ∈ numsL ns := List.getElem_mem h
      dsimp only
      rw [e]
      unfold numsL at hm
      rw [List.mem_map] at hm
      obtain ⟨x, _, hx⟩ := hm
      have := absmod_range x
      have hx' : absmod x = (numsL ns)[i] := hx
      lia
    · have e : (numsL ns).getD i 0 = 0 := by rw [List.getD_eq_getElem?_getD, List.getElem?_eq_none (by lia)]; rfl
      dsimp only
      rw [e]; decide
  · generalize hY : (fun i => ((numsL ns).getD i 0).toNat) = Y
    have hY40 : ∀ i, Y i < 40 := by
      intro i
      rw [← hY]
      by_cases h : i < (numsL ns).length
      · have e : (numsL ns).getD i 0 = (numsL ns)[i] := by rw [List.getD_eq_getElem?_getD, List.getElem?_eq_getElem h]; rfl
        have hm : (numsL ns)[i] ∈ numsL ns := List.getElem_mem h
        dsimp only
        rw [e]
        unfold numsL at hm
        rw [List.mem_map] at hm
        obtain ⟨x, _, hx⟩ := hm
        have := absmod_range x
        have hx' : absmod x = (numsL ns)[i] := hx
        lia
      · have e : (numsL ns).getD i 0 = 0 := by rw [List.getD_eq_getElem?_getD, List.getElem?_eq_none (by lia)]; rfl
        dsimp only
        rw [e]; decide
    have hnums : (numsL ns).map D.int = (List.range 15).map fun i => nI (Y i) := by
      apply List.ext_getElem
      · simp [numsL_len]
      · intro i h1 h2
        have h : i < (numsL ns).length := by simpa using h1
        simp only [List.getElem_map, List.getElem_range]
        rw [← hY]
        have e : (numsL ns).getD i 0 = (numsL ns)[i] := by rw [List.getD_eq_getElem?_getD, List.getElem?_eq_getElem h]; rfl
        unfold nI
        dsimp only
        rw [e]
        have hm : (numsL ns)[i] ∈ numsL ns := List.getElem_mem h
        unfold numsL at hm
        rw [List.mem_map] at hm
        obtain ⟨x, _, hx⟩ := hm
        have := absmod_range x
        have hx' : absmod x = (numsL ns)[i] := hx
        congr 1
        lia
    have e0 : runF T0 31 (posB [sO "script"]) [.list (ns.map .int)] [] = runD T0 B31 S31 [(sO "script", .cold (.list (ns.map .int)))] := by kernel_rfl
    rw [e0]
    refine runD_of (σ' := σ31n (ns.map .int) Y ++ [(sO "links", .cold (.list ((List.range 15).map fun i => pairD (Y i))))]) ?_
    rw [l31_0, run_next (σ' := σ31n (ns.map .int) Y) (evS_cold (x := sO "numbers") (by kernel_rfl) (by rw [l31_nums ns hn, hnums]))]
    rw [run_next (evS_cold (x := sO "links") (by kernel_rfl) (l31_links _ Y hY40))]
    exact run_ret (l31_ret _ Y)
theorem pair24 : (List.range 40).map pairD = (List.range 40).map fun y => pairD (y % 24) := by kernel_rfl
theorem links_run (ns : List Int) (hn : ns.length ≤ 63) : ∃ Y : Nat → Nat, (∀ i, Y i < 24) ∧ runF T0 31 (posB [sO "script"]) [.list (ns.map .int)] [] = some (linksD Y) := by
  obtain ⟨Y, hY, h⟩ := links_run40 ns hn
  refine ⟨fun i => Y i % 24, fun i => Nat.mod_lt _ (by decide), ?_⟩
  rw [h]
  unfold linksD
  congr 2
  refine List.map_congr_left fun k z0 => ?_
  congr 1
  exact List.map_congr_left fun j z0 => List.map_inj_left.mp pair24 _ (List.mem_range.mpr (hY _))
end Mine

end

section
set_option maxRecDepth 100000
namespace Mine

/-! ## where the links lead -/
noncomputable def goalRow : List (List Nat) := [[0, 0, 2, 5, 0, 4, 5, 2, 1, 1, 3, 5, 1, 5, 5, 3, 5, 5, 5, 5, 5, 5, 5, 5], [0, 0, 2, 5, 0, 4, 5, 2, 1, 1, 3, 5, 1, 5, 5, 3, 5, 5, 5, 5, 5, 5, 5, 5], [2, 0, 5, 4, 0, 4, 4, 2, 3, 1, 5, 5, 1, 5, 5, 3, 5, 5, 5, 5, 5, 5, 5, 5], [2, 0, 5, 4, 0, 4, 4, 2, 3, 1, 5, 5, 1, 5, 5, 3, 5, 5, 5, 5, 5, 5, 5, 5], [4, 2, 5, 5, 0, 4, 5, 5, 5, 3, 5, 5, 1, 5, 5, 5, 5, 5, 5, 5, 5, 5, 5, 5]]
noncomputable def goalN (k y : Nat) : Nat := (goalRow.getD k []).getD y 5
noncomputable def goalT (k y : Nat) : Option Nat := if goalN k y < 5 then some (goalN k y) else none
/-- the files that file k leads to -/
noncomputable def goalsOf (Y : Nat → Nat) (k : Nat) : List Nat := ((List.range 3).map fun j => Y (3 * k + j)).filterMap (goalT k)
noncomputable def rowsD (g : Nat → List Nat) : D := .list ((List.range 5).map fun k => .list ((g k).map nI))

theorem goalT_lt {k y g : Nat} (h : goalT k y = some g) : g < 5 := by
  unfold goalT at h
  split at h
  · cases h; assumption
  · cases h
theorem goalsOf_lt {Y : Nat → Nat} {k g : Nat} (h : g ∈ goalsOf Y k) : g < 5 := by
  unfold goalsOf at h
  rw [List.mem_filterMap] at h
  obtain ⟨y, _, hy⟩ := h
  exact goalT_lt hy
theorem goalsOf_len (Y : Nat → Nat) (k : Nat) : (goalsOf Y k).length ≤ 3 := by
  unfold goalsOf
  exact Nat.le_trans (List.length_filterMap_le _ _) (by simp)

noncomputable def B33 := (defAt 33).1
noncomputable def S33 := (defAt 33).2
noncomputable def F33 : Stmt := stN B33 2
noncomputable def I33 : Stmt := stN (forB F33) 1
noncomputable def IB33 : List Stmt := forB I33
noncomputable def spotsD : D := .list [.list [.str (sO "p")], .list [.str (sO "q")], .list [.str (sO "a"), .str (sO "p")], .list [.str (sO "a"), .str (sO "q")], .list [.str (sO "a"), .str (sO "b"), .str (sO "p")]]

noncomputable def σ33 (L : D) (R : Slt) (k : D) (rest : List (Str × Slt)) : St := [(sO "links", .cold L), (sO "spots", .cold spotsD), (sO "goals", R), (sO "k", .cold k)] ++ rest
noncomputable def full33 (f n a m b p : D) : List (Str × Slt) := [(sO "folder", .cold f), (sO "name", .cold n), (sO "ahead", .cold a), (sO "names", .cold m), (sO "debt", .cold b), (sO "piece", .cold p)]
noncomputable def fn33 (f n : D) : List (Str × Slt) := [(sO "folder", .cold f), (sO "name", .cold n)]
/-! the pieces of a path, by numbers -/
noncomputable def pieceS (c : Nat) : D := .str (sO (["", ".", "..", "a", "b", "p", "q", "r"].getD c ""))
noncomputable def splitN (y : Nat) : List Nat := [[1], [2], [3], [4], [0, 0], [0, 3, 4], [3, 2, 4, 1], [2, 3]].getD (y % 8) []
noncomputable def nameN (y : Nat) : Nat := [5, 6, 7, 5, 6].getD (y / 8) 0
noncomputable def aheadN (k y : Nat) : List Nat := if y % 8 = 4 ∨ y % 8 = 5 then [] else [[], [], [3], [3], [3, 4]].getD k []
noncomputable def piecesN (k y : Nat) : List Nat := aheadN k y ++ splitN y ++ [nameN y]
noncomputable def walkN (c : Nat) (a : List Nat × Nat) : List Nat × Nat := if c = 2 then (a.1, a.2 + 1) else if 2 < c ∧ 0 < a.2 then (a.1, a.2 - 1) else if 2 < c then (c :: a.1, a.2) else a
noncomputable def endN (k y : Nat) : List Nat × Nat := (piecesN k y).foldr walkN ([], 0)
noncomputable def front33 (k y : Nat) : List (Str × Slt) := full33 (folderD y) (nameD' y) (.list ((aheadN k y).map pieceS)) (.list ((endN k y).1.map pieceS)) (nI (endN k y).2) (pieceS ((piecesN k y).getD 0 0))

noncomputable def kys : List (Nat × Nat) := (List.range 5).flatMap fun k => (List.range 24).map fun y => (k, y)
theorem mem_kys {k y : Nat} (hk : k < 5) (hy : y < 24) : (k, y) ∈ kys := by
  unfold kys
  rw [List.mem_flatMap]
  exact ⟨k, List.mem_range.mpr hk, List.mem_map.mpr ⟨y, List.mem_range.mpr hy, rfl⟩⟩

theorem front33_a (L : D) (R : List (List D)) : (List.range 24).map (fun y => evSs T0 (IB33.take 3) S33 (σ33 L (.hot2 R) (nI 0) (fn33 (folderD y) (nameD' y)))) = (List.range 24).map fun y => some (.next, σ33 L (.hot2 R) (nI 0) (front33 0 y)) := by kernel_rfl
theorem front33_b (L : D) (R : List (List D)) (a m b p : D) : kys.map (fun q => evSs T0 (IB33.take 3) S33 (σ33 L (.hot2 R) (nI q.1) (full33 (folderD q.2) (nameD' q.2) a m b p))) = kys.map fun q => some (.next, σ33 L (.hot2 R) (nI q.1) (front33 q.1 q.2)) := by kernel_rfl

noncomputable def rowsTo (k : Nat) (r : Nat → List D) (row : List D) : List (List D) := (List.range k).map r ++ [row]
noncomputable def If33 : Stmt := stN IB33 3
theorem test33 (L : D) (R : List (List D)) : kys.map (fun q => evT T0 (tstE If33) S33 (allV (σ33 L (.hot2 R) (nI q.1) (front33 q.1 q.2))) (evE T0 (tstE If33) S33 (allV (σ33 L (.hot2 R) (nI q.1) (front33 q.1 q.2))))) =
    kys.map fun q => some (goalT q.1 q.2).isSome := by kernel_rfl
theorem app33 (L : D) (r : Nat → List D) (row : List D) : kys.map (fun q => exprS T0 (exprE (stN (thenB If33) 0)) S33 (σ33 L (.hot2 (rowsTo q.1 r row)) (nI q.1) (front33 q.1 q.2))) =
    kys.map fun q => match goalT q.1 q.2 with
      | none => exprS T0 (exprE (stN (thenB If33) 0)) S33 (σ33 L (.hot2 (rowsTo q.1 r row)) (nI q.1) (front33 q.1 q.2))
      | some g => if row.length ≤ 1000000 ∧ (rowsTo q.1 r row).length ≤ 1000000 ∧ flat (nI g) = true then some (σ33 L (.hot2 (rowsTo q.1 r (row ++ [nI g]))) (nI q.1) (front33 q.1 q.2)) else none := by kernel_rfl

/-! the loops -/
theorem evSs_append {T : Tab} {sc : Scope} : ∀ {a b : List Stmt} {σ σ' : St}, evSs T a sc σ = some (.next, σ') → evSs T (a ++ b) sc σ = evSs T b sc σ'
  | [], b, σ, σ', h => by cases h; rfl
  | x :: r, b, σ, σ', h => by
    rw [List.cons_append, evSs_c] at *
    cases hx : evS T x sc σ with
    | none => rw [hx] at h; cases h
    | some p =>
      obtain ⟨fl, σ₁⟩ := p
      rw [hx] at h
      cases fl with
      | next => exact evSs_append (b := b) (show evSs T r sc σ₁ = some (.next, σ') from h)
      | cont => cases h
      | ret d => cases h
theorem evS_expr {T : Tab} {sc : Scope} {st : Stmt} {σ σ' : St} (hx : (match st with | .Expr _ _ => true | _ => false) = true) (h : exprS T (exprE st) sc σ = some σ') : evS T st sc σ = some (.next, σ') := by
  cases st with
  | Expr e p =>
    show (exprS T e sc σ).bind _ = _
    change exprS T e sc σ = _ at h
    rw [h]; rfl
  | _ => cases hx

theorem last33 (L : D) (r : Nat → List D) (row : List D) (hr : row.length ≤ 3) {k y : Nat} (hk : k < 5) (hy : y < 24) :
    evSs T0 (IB33.drop 3) S33 (σ33 L (.hot2 (rowsTo k r row)) (nI k) (front33 k y)) = some (.next, σ33 L (.hot2 (rowsTo k r (row ++ (goalT k y).toList.map nI))) (nI k) (front33 k y)) := by
  have h1 := List.map_inj_left.mp (test33 L (rowsTo k r row)) _ (mem_kys hk hy)
  have h2 := List.map_inj_left.mp (app33 L r row) _ (mem_kys hk hy)
  dsimp only at h1 h2
  have e : stN IB33 3 = If33 := rfl
  cases hg : goalT k y with
  | none =>
    rw [hg] at h1
    rw [run_next (evS_if_false (by kernel_rfl) h1), run_end (by kernel_rfl)]
    simp
  | some g =>
    rw [hg] at h1 h2
    have hlen : (rowsTo k r row).length ≤ 1000000 := by unfold rowsTo; simp; lia
    dsimp only at h2
    rw [if_pos ⟨by lia, hlen, rfl⟩] at h2
    have h3 : evS T0 (stN IB33 3) S33 (σ33 L (.hot2 (rowsTo k r row)) (nI k) (front33 k y)) = some (.next, σ33 L (.hot2 (rowsTo k r (row ++ [nI g]))) (nI k) (front33 k y)) := by
      rw [e, evS_if_true (by kernel_rfl) h1]
      rw [run_all, run_next (evS_expr (by kernel_rfl) h2), run_end (by kernel_rfl)]
    rw [run_next h3, run_end (by kernel_rfl)]
    rfl

noncomputable def turn33 : D → St → Option (Fl × St) := fun d σ => (bindS (forT I33) d σ).bind fun σ' => evSs T0 (forB I33) S33 σ'
theorem ib33 : IB33.take 3 ++ IB33.drop 3 = IB33 := List.take_append_drop 3 IB33
theorem turn33_a (L : D) (r : Nat → List D) (row : List D) (hr : row.length ≤ 3) {y : Nat} (hy : y < 24) : turn33 (pairD y) (σ33 L (.hot2 (rowsTo 0 r row)) (nI 0) []) = some (.next, σ33 L (.hot2 (rowsTo 0 r (row ++ (goalT 0 y).toList.map nI))) (nI 0) (front33 0 y)) := by
  have h0 : bindS (forT I33) (pairD y) (σ33 L (.hot2 (rowsTo 0 r row)) (nI 0) []) = some (σ33 L (.hot2 (rowsTo 0 r row)) (nI 0) (fn33 (folderD y) (nameD' y))) := by kernel_rfl
  have h1 := List.map_inj_left.mp (front33_a L (rowsTo 0 r row)) y (List.mem_range.mpr hy)
  unfold turn33
  rw [h0, Option.bind_some]
  show evSs T0 IB33 S33 _ = _
  rw [← ib33, evSs_append h1]
  exact last33 L r row hr (by decide) hy
theorem turn33_b (L : D) (r : Nat → List D) (row : List D) (hr : row.length ≤ 3) {k y : Nat} (hk : k < 5) (hy : y < 24) (f n a m b p : D) :
    turn33 (pairD y) (σ33 L (.hot2 (rowsTo k r row)) (nI k) (full33 f n a m b p)) = some (.next, σ33 L (.hot2 (rowsTo k r (row ++ (goalT k y).toList.map nI))) (nI k) (front33 k y)) := by
  have h0 : bindS (forT I33) (pairD y) (σ33 L (.hot2 (rowsTo k r row)) (nI k) (full33 f n a m b p)) = some (σ33 L (.hot2 (rowsTo k r row)) (nI k) (full33 (folderD y) (nameD' y) a m b p)) := by kernel_rfl
  have h1 := List.map_inj_left.mp (front33_b L (rowsTo k r row) a m b p) _ (mem_kys hk hy)
  unfold turn33
  rw [h0, Option.bind_some]
  show evSs T0 IB33 S33 _ = _
  rw [← ib33, evSs_append h1]
  exact last33 L r row hr hk hy
theorem three33 (k a b c : Nat) : ((([] : List D) ++ (goalT k a).toList.map nI) ++ (goalT k b).toList.map nI) ++ (goalT k c).toList.map nI = ([a, b, c].filterMap (goalT k)).map nI := by
  rw [List.filterMap_cons, List.filterMap_cons, List.filterMap_cons, List.filterMap_nil]
  cases goalT k a <;> cases goalT k b <;> cases goalT k c <;> rfl
theorem tl (k y : Nat) : ((goalT k y).toList.map nI).length ≤ 1 := by cases goalT k y <;> simp
theorem inner33_b (L : D) (r : Nat → List D) {k a b c : Nat} (hk : k < 5) (ha : a < 24) (hb : b < 24) (hc : c < 24) (x1 x2 x3 x4 x5 x6 : D) :
    forO turn33 [pairD a, pairD b, pairD c] (σ33 L (.hot2 (rowsTo k r [])) (nI k) (full33 x1 x2 x3 x4 x5 x6)) = some (.next, σ33 L (.hot2 (rowsTo k r (([a, b, c].filterMap (goalT k)).map nI))) (nI k) (front33 k c)) := by
  have t1 := tl k a
  have t2 := tl k b
  rw [forO_next (turn33_b L r [] (by simp) hk ha _ _ _ _ _ _)]
  unfold front33
  rw [forO_next (turn33_b L r _ (by simp only [List.nil_append]; lia) hk hb _ _ _ _ _ _)]
  unfold front33
  rw [forO_next (turn33_b L r _ (by rw [List.length_append]; simp only [List.nil_append]; lia) hk hc _ _ _ _ _ _), three33]
  rfl
theorem inner33_a (L : D) (r : Nat → List D) {a b c : Nat} (ha : a < 24) (hb : b < 24) (hc : c < 24) :
    forO turn33 [pairD a, pairD b, pairD c] (σ33 L (.hot2 (rowsTo 0 r [])) (nI 0) []) = some (.next, σ33 L (.hot2 (rowsTo 0 r (([a, b, c].filterMap (goalT 0)).map nI))) (nI 0) (front33 0 c)) := by
  have t1 := tl 0 a
  have t2 := tl 0 b
  rw [forO_next (turn33_a L r [] (by simp) ha)]
  unfold front33
  rw [forO_next (turn33_b L r _ (by simp only [List.nil_append]; lia) (by decide) hb _ _ _ _ _ _)]
  unfold front33
  rw [forO_next (turn33_b L r _ (by rw [List.length_append]; simp only [List.nil_append]; lia) (by decide) hc _ _ _ _ _ _), three33]
  rfl

noncomputable def out33 : D → St → Option (Fl × St) := fun d σ => (bindS (forT F33) d σ).bind fun σ' => evSs T0 (forB F33) S33 σ'
noncomputable def gr (Y : Nat → Nat) (k : Nat) : List D := (goalsOf Y k).map nI
noncomputable def st33 (Y : Nat → Nat) (k : Nat) : St := σ33 (linksD Y) (.hot2 ((List.range (k + 1)).map (gr Y))) (nI k) (front33 k (Y (3 * k + 2)))
theorem out33_0 (Y : Nat → Nat) (hY : ∀ i, Y i < 24) : out33 (nI 0) [(sO "links", .cold (linksD Y)), (sO "spots", .cold spotsD), (sO "goals", .hot1 [])] = some (.next, st33 Y 0) := by
  unfold out33
  have h0 : bindS (forT F33) (nI 0) [(sO "links", .cold (linksD Y)), (sO "spots", .cold spotsD), (sO "goals", .hot1 [])] = some (σ33 (linksD Y) (.hot1 []) (nI 0) []) := by kernel_rfl
  rw [h0, Option.bind_some, run_all, run_next (σ' := σ33 (linksD Y) (.hot2 (rowsTo 0 (gr Y) [])) (nI 0) []) (by kernel_rfl)]
  have h1 : evV T0 (forI I33) S33 (σ33 (linksD Y) (.hot2 (rowsTo 0 (gr Y) [])) (nI 0) []) = some (.list [pairD (Y 0), pairD (Y 1), pairD (Y 2)], σ33 (linksD Y) (.hot2 (rowsTo 0 (gr Y) [])) (nI 0) []) := by kernel_rfl
  have h2 : evS T0 (stN (forB F33) 1) S33 (σ33 (linksD Y) (.hot2 (rowsTo 0 (gr Y) [])) (nI 0) []) = some (.next, st33 Y 0) := by
    show evS T0 I33 _ _ = _
    rw [evS_for (by kernel_rfl) h1 (iterD_list (by simp))]
    exact inner33_a _ _ (hY _) (hY _) (hY _)
  rw [run_next h2, run_end (by kernel_rfl)]
theorem out33_1 (Y : Nat → Nat) (hY : ∀ i, Y i < 24) (x1 x2 x3 x4 x5 x6 : D) : out33 (nI 1) (σ33 (linksD Y) (.hot2 ((List.range 1).map (gr Y))) (nI 0) (full33 x1 x2 x3 x4 x5 x6)) = some (.next, st33 Y 1) := by
  unfold out33
  have h0 : bindS (forT F33) (nI 1) (σ33 (linksD Y) (.hot2 ((List.range 1).map (gr Y))) (nI 0) (full33 x1 x2 x3 x4 x5 x6)) = some (σ33 (linksD Y) (.hot2 ((List.range 1).map (gr Y))) (nI 1) (full33 x1 x2 x3 x4 x5 x6)) := by kernel_rfl
  rw [h0, Option.bind_some, run_all, run_next (σ' := σ33 (linksD Y) (.hot2 (rowsTo 1 (gr Y) [])) (nI 1) (full33 x1 x2 x3 x4 x5 x6)) (by kernel_rfl)]
  have h1 : evV T0 (forI I33) S33 (σ33 (linksD Y) (.hot2 (rowsTo 1 (gr Y) [])) (nI 1) (full33 x1 x2 x3 x4 x5 x6)) = some (.list [pairD (Y 3), pairD (Y 4), pairD (Y 5)], σ33 (linksD Y) (.hot2 (rowsTo 1 (gr Y) [])) (nI 1) (full33 x1 x2 x3 x4 x5 x6)) := by kernel_rfl
  have h2 : evS T0 (stN (forB F33) 1) S33 (σ33 (linksD Y) (.hot2 (rowsTo 1 (gr Y) [])) (nI 1) (full33 x1 x2 x3 x4 x5 x6)) = some (.next, st33 Y 1) := by
    show evS T0 I33 _ _ = _
    rw [evS_for (by kernel_rfl) h1 (iterD_list (by simp))]
    exact inner33_b _ _ (by decide) (hY _) (hY _) (hY _) _ _ _ _ _ _
  rw [run_next h2, run_end (by kernel_rfl)]
theorem out33_2 (Y : Nat → Nat) (hY : ∀ i, Y i < 24) (x1 x2 x3 x4 x5 x6 : D) : out33 (nI 2) (σ33 (linksD Y) (.hot2 ((List.range 2).map (gr Y))) (nI 1) (full33 x1 x2 x3 x4 x5 x6)) = some (.next, st33 Y 2) := by
  unfold out33
  have h0 : bindS (forT F33) (nI 2) (σ33 (linksD Y) (.hot2 ((List.range 2).map (gr Y))) (nI 1) (full33 x1 x2 x3 x4 x5 x6)) = some (σ33 (linksD Y) (.hot2 ((List.range 2).map (gr Y))) (nI 2) (full33 x1 x2 x3 x4 x5 x6)) := by kernel_rfl
  rw [h0, Option.bind_some, run_all, run_next (σ' := σ33 (linksD Y) (.hot2 (rowsTo 2 (gr Y) [])) (nI 2) (full33 x1 x2 x3 x4 x5 x6)) (by kernel_rfl)]
  have h1 : evV T0 (forI I33) S33 (σ33 (linksD Y) (.hot2 (rowsTo 2 (gr Y) [])) (nI 2) (full33 x1 x2 x3 x4 x5 x6)) = some (.list [pairD (Y 6), pairD (Y 7), pairD (Y 8)], σ33 (linksD Y) (.hot2 (rowsTo 2 (gr Y) [])) (nI 2) (full33 x1 x2 x3 x4 x5 x6)) := by kernel_rfl
  have h2 : evS T0 (stN (forB F33) 1) S33 (σ33 (linksD Y) (.hot2 (rowsTo 2 (gr Y) [])) (nI 2) (full33 x1 x2 x3 x4 x5 x6)) = some (.next, st33 Y 2) := by
    show evS T0 I33 _ _ = _
    rw [evS_for (by kernel_rfl) h1 (iterD_list (by simp))]
    exact inner33_b _ _ (by decide) (hY _) (hY _) (hY _) _ _ _ _ _ _
  rw [run_next h2, run_end (by kernel_rfl)]
theorem out33_3 (Y : Nat → Nat) (hY : ∀ i, Y i < 24) (x1 x2 x3 x4 x5 x6 : D) : out33 (nI 3) (σ33 (linksD Y) (.hot2 ((List.range 3).map (gr Y))) (nI 2) (full33 x1 x2 x3 x4 x5 x6)) = some (.next, st33 Y 3) := by
  unfold out33
  have h0 : bindS (forT F33) (nI 3) (σ33 (linksD Y) (.hot2 ((List.range 3).map (gr Y))) (nI 2) (full33 x1 x2 x3 x4 x5 x6)) = some (σ33 (linksD Y) (.hot2 ((List.range 3).map (gr Y))) (nI 3) (full33 x1 x2 x3 x4 x5 x6)) := by kernel_rfl
  rw [h0, Option.bind_some, run_all, run_next (σ' := σ33 (linksD Y) (.hot2 (rowsTo 3 (gr Y) [])) (nI 3) (full33 x1 x2 x3 x4 x5 x6)) (by kernel_rfl)]
  have h1 : evV T0 (forI I33) S33 (σ33 (linksD Y) (.hot2 (rowsTo 3 (gr Y) [])) (nI 3) (full33 x1 x2 x3 x4 x5 x6)) = some (.list [pairD (Y 9), pairD (Y 10), pairD (Y 11)], σ33 (linksD Y) (.hot2 (rowsTo 3 (gr Y) [])) (nI 3) (full33 x1 x2 x3 x4 x5 x6)) := by kernel_rfl
  have h2 : evS T0 (stN (forB F33) 1) S33 (σ33 (linksD Y) (.hot2 (rowsTo 3 (gr Y) [])) (nI 3) (full33 x1 x2 x3 x4 x5 x6)) = some (.next, st33 Y 3) := by
    show evS T0 I33 _ _ = _
    rw [evS_for (by kernel_rfl) h1 (iterD_list (by simp))]
    exact inner33_b _ _ (by decide) (hY _) (hY _) (hY _) _ _ _ _ _ _
  rw [run_next h2, run_end (by kernel_rfl)]
theorem out33_4 (Y : Nat → Nat) (hY : ∀ i, Y i < 24) (x1 x2 x3 x4 x5 x6 : D) : out33 (nI 4) (σ33 (linksD Y) (.hot2 ((List.range 4).map (gr Y))) (nI 3) (full33 x1 x2 x3 x4 x5 x6)) = some (.next, st33 Y 4) := by
  unfold out33
  have h0 : bindS (forT F33) (nI 4) (σ33 (linksD Y) (.hot2 ((List.range 4).map (gr Y))) (nI 3) (full33 x1 x2 x3 x4 x5 x6)) = some (σ33 (linksD Y) (.hot2 ((List.range 4).map (gr Y))) (nI 4) (full33 x1 x2 x3 x4 x5 x6)) := by kernel_rfl
  rw [h0, Option.bind_some, run_all, run_next (σ' := σ33 (linksD Y) (.hot2 (rowsTo 4 (gr Y) [])) (nI 4) (full33 x1 x2 x3 x4 x5 x6)) (by kernel_rfl)]
  have h1 : evV T0 (forI I33) S33 (σ33 (linksD Y) (.hot2 (rowsTo 4 (gr Y) [])) (nI 4) (full33 x1 x2 x3 x4 x5 x6)) = some (.list [pairD (Y 12), pairD (Y 13), pairD (Y 14)], σ33 (linksD Y) (.hot2 (rowsTo 4 (gr Y) [])) (nI 4) (full33 x1 x2 x3 x4 x5 x6)) := by kernel_rfl
  have h2 : evS T0 (stN (forB F33) 1) S33 (σ33 (linksD Y) (.hot2 (rowsTo 4 (gr Y) [])) (nI 4) (full33 x1 x2 x3 x4 x5 x6)) = some (.next, st33 Y 4) := by
    show evS T0 I33 _ _ = _
    rw [evS_for (by kernel_rfl) h1 (iterD_list (by simp))]
    exact inner33_b _ _ (by decide) (hY _) (hY _) (hY _) _ _ _ _ _ _
  rw [run_next h2, run_end (by kernel_rfl)]

theorem goals_run (Y : Nat → Nat) (hY : ∀ i, Y i < 24) : runF T0 33 (posB [sO "links"]) [linksD Y] [] = some (rowsD (goalsOf Y)) := by
  have e0 : runF T0 33 (posB [sO "links"]) [linksD Y] [] = runD T0 B33 S33 [(sO "links", .cold (linksD Y))] := by kernel_rfl
  rw [e0]
  refine runD_of (σ' := st33 Y 4) ?_
  rw [run_all, run_next (σ' := [(sO "links", .cold (linksD Y)), (sO "spots", .cold spotsD)]) (by kernel_rfl), run_next (σ' := [(sO "links", .cold (linksD Y)), (sO "spots", .cold spotsD), (sO "goals", .hot1 [])]) (by kernel_rfl)]
  have h1 : evV T0 (forI F33) S33 [(sO "links", .cold (linksD Y)), (sO "spots", .cold spotsD), (sO "goals", .hot1 [])] = some (.rng 0 5 1, [(sO "links", .cold (linksD Y)), (sO "spots", .cold spotsD), (sO "goals", .hot1 [])]) := by kernel_rfl
  have h2 : evS T0 (stN B33 2) S33 [(sO "links", .cold (linksD Y)), (sO "spots", .cold spotsD), (sO "goals", .hot1 [])] = some (.next, st33 Y 4) := by
    show evS T0 F33 _ _ = _
    rw [evS_for (by kernel_rfl) h1 (items := [nI 0, nI 1, nI 2, nI 3, nI 4]) (by kernel_rfl)]
    show forO out33 _ _ = _
    rw [forO_next (out33_0 Y hY)]
    unfold st33 front33
    rw [forO_next (out33_1 Y hY _ _ _ _ _ _)]
    unfold st33 front33
    rw [forO_next (out33_2 Y hY _ _ _ _ _ _)]
    unfold st33 front33
    rw [forO_next (out33_3 Y hY _ _ _ _ _ _)]
    unfold st33 front33
    rw [forO_next (out33_4 Y hY _ _ _ _ _ _)]
    rfl
  rw [run_next h2]
  exact run_ret (by kernel_rfl)
end Mine

end

section
set_option maxRecDepth 100000
namespace Mine

/-! ## what the paths tell -/
noncomputable def wayTab : List (List String) := [
  ["/p", "/p", "/a/p", "/b/p", "/p", "/a/b/p", "/b/p", "/a/p", "/q", "/q", "/a/q", "/b/q", "/q", "/a/b/q", "/b/q", "/a/q", "/r", "/r", "/a/r", "/b/r", "/r", "/a/b/r", "/b/r", "/a/r"],
  ["/a/p", "/p", "/a/a/p", "/a/b/p", "/p", "/a/b/p", "/a/b/p", "/a/p", "/a/q", "/q", "/a/a/q", "/a/b/q", "/q", "/a/b/q", "/a/b/q", "/a/q", "/a/r", "/r", "/a/a/r", "/a/b/r", "/r", "/a/b/r", "/a/b/r", "/a/r"],
  ["/a/b/p", "/a/p", "/a/b/a/p", "/a/b/b/p", "/p", "/a/b/p", "/a/b/b/p", "/a/a/p", "/a/b/q", "/a/q", "/a/b/a/q", "/a/b/b/q", "/q", "/a/b/q", "/a/b/b/q", "/a/a/q", "/a/b/r", "/a/r", "/a/b/a/r", "/a/b/b/r", "/r", "/a/b/r", "/a/b/b/r", "/a/a/r"]]
noncomputable def wayD (i y : Nat) : D := .str (sO ((wayTab.getD i []).getD y ""))
noncomputable def dirD (i : Nat) : D := .str (sO (["/", "/a", "/a/b"].getD i ""))
noncomputable def dirI (k : Nat) : Nat := [0, 0, 1, 1, 2].getD k 0
noncomputable def fileL : List String := ["/p", "/q", "/a/p", "/a/q", "/a/b/p"]
noncomputable def fileD (k : Nat) : D := .str (sO (fileL.getD k ""))
noncomputable def filesD : D := .list ((List.range 5).map fileD)
noncomputable def B32 := (defAt 32).1
noncomputable def S32 := (defAt 32).2
noncomputable def F32 : Stmt := stN B32 1
noncomputable def pathF (d : D) (y : Nat) : Option D := (callT T3 (sO "join") [] [d, folderD y, nameD' y]).bind fun j => callT T3 (sO "normpath") [] [j]
noncomputable def diys : List (Nat × Nat) := (List.range 3).flatMap fun i => (List.range 24).map fun y => (i, y)
theorem mem_diys {i y : Nat} (hi : i < 3) (hy : y < 24) : (i, y) ∈ diys := by
  unfold diys
  rw [List.mem_flatMap]
  exact ⟨i, List.mem_range.mpr hi, List.mem_map.mpr ⟨y, List.mem_range.mpr hy, rfl⟩⟩
theorem dirs32 : (List.range 5).map (fun k => callT T3 (sO "dirname") [] [fileD k]) = (List.range 5).map fun k => some (dirD (dirI k)) := by kernel_rfl
theorem paths32 : diys.map (fun q => pathF (dirD q.1) q.2) = diys.map fun q => some (wayD q.1 q.2) := by kernel_rfl
end Mine

end

section
set_option maxRecDepth 100000
namespace Mine
noncomputable def WE : Expr := asgE (stN (forB F32) 0)
noncomputable def TE : Expr := argX 0 (exprE (stN (forB F32) 1))
noncomputable def σ32 (Y : Nat → Nat) (R : List D) (rest : List (Str × Slt)) : St := [(sO "files", .cold filesD), (sO "links", .cold (linksD Y)), (sO "told", .hot1 R)] ++ rest
noncomputable def k32 (k : Nat) : List (Str × Slt) := [(sO "k", .cold (nI k))]
noncomputable def kw32 (k : Nat) (w : D) : List (Str × Slt) := [(sO "k", .cold (nI k)), (sO "ways", .cold w)]
theorem told_elt (Y : Nat → Nat) (R : List D) (w : D) : kys.map (fun q => compF T3 TE (coldV (σ32 Y R (kw32 q.1 w))) (wayD (dirI q.1) q.2)) = kys.map fun q => some ((goalT q.1 q.2).map nI) := by kernel_rfl
noncomputable def pathN (k y : Nat) : Option D := (seqO [(seqO [(seqO [some (fileD k)]).bind (callT T3 (sO "dirname") []), some (folderD y), some (nameD' y)]).bind (callT T3 (sO "join") [])]).bind (callT T3 (sO "normpath") [])
theorem pathN_is {k y : Nat} (hk : k < 5) (hy : y < 24) : pathN k y = some (wayD (dirI k) y) := by
  have h1 := List.map_inj_left.mp dirs32 k (List.mem_range.mpr hk)
  have hd : dirI k < 3 := by
    have : ∀ k < 5, dirI k < 3 := by decide
    exact this k hk
  have h2 := List.map_inj_left.mp paths32 _ (mem_diys hd hy)
  unfold pathN
  have e1 : (seqO [some (fileD k)]).bind (callT T3 (sO "dirname") []) = some (dirD (dirI k)) := h1
  rw [e1]
  unfold pathF at h2
  dsimp only at h2
  have e2 : (seqO [some (dirD (dirI k)), some (folderD y), some (nameD' y)]).bind (callT T3 (sO "join") []) = callT T3 (sO "join") [] [dirD (dirI k), folderD y, nameD' y] := rfl
  rw [e2]
  cases hj : callT T3 (sO "join") [] [dirD (dirI k), folderD y, nameD' y] with
  | none => rw [hj] at h2; cases h2
  | some j => rw [hj] at h2; exact h2

theorem way_elt0 (Y : Nat → Nat) (R : List D) (w : D) (y : Nat) : compF T3 WE (coldV (σ32 Y R (k32 0))) (pairD y) = (pathN 0 y).bind fun x => some (some x) := by kernel_rfl
theorem ways0 (Y : Nat → Nat) (hY : ∀ i, Y i < 24) (R : List D) (w : D) : evE T3 WE S32 (coldV (σ32 Y R (k32 0))) = some (.list (([Y 0, Y 1, Y 2]).map (wayD (dirI 0)))) := by
  refine ev_comp_list (xs := [Y 0, Y 1, Y 2].map pairD) (by kernel_rfl) (by kernel_rfl) (by kernel_rfl) (by kernel_rfl) (by simp) ?_
  refine compO_map pairD (wayD (dirI 0)) _ fun y hy => ?_
  have hy' : y < 24 := by
    simp only [List.mem_cons, List.not_mem_nil, or_false] at hy
    rcases hy with h | h | h <;> rw [h] <;> exact hY _
  rw [way_elt0 Y R w y, pathN_is (by decide) hy']; rfl

theorem way_elt1 (Y : Nat → Nat) (R : List D) (w : D) (y : Nat) : compF T3 WE (coldV (σ32 Y R (kw32 1 w))) (pairD y) = (pathN 1 y).bind fun x => some (some x) := by kernel_rfl
theorem ways1 (Y : Nat → Nat) (hY : ∀ i, Y i < 24) (R : List D) (w : D) : evE T3 WE S32 (coldV (σ32 Y R (kw32 1 w))) = some (.list (([Y 3, Y 4, Y 5]).map (wayD (dirI 1)))) := by
  refine ev_comp_list (xs := [Y 3, Y 4, Y 5].map pairD) (by kernel_rfl) (by kernel_rfl) (by kernel_rfl) (by kernel_rfl) (by simp) ?_
  refine compO_map pairD (wayD (dirI 1)) _ fun y hy => ?_
  have hy' : y < 24 := by
    simp only [List.mem_cons, List.not_mem_nil, or_false] at hy
    rcases hy with h | h | h <;> rw [h] <;> exact hY _
  rw [way_elt1 Y R w y, pathN_is (by decide) hy']; rfl

theorem way_elt2 (Y : Nat → Nat) (R : List D) (w : D) (y : Nat) : compF T3 WE (coldV (σ32 Y R (kw32 2 w))) (pairD y) = (pathN 2 y).bind fun x => some (some x) := by kernel_rfl
theorem ways2 (Y : Nat → Nat) (hY : ∀ i, Y i < 24) (R : List D) (w : D) : evE T3 WE S32 (coldV (σ32 Y R (kw32 2 w))) = some (.list (([Y 6, Y 7, Y 8]).map (wayD (dirI 2)))) := by
  refine ev_comp_list (xs := [Y 6, Y 7, Y 8].map pairD) (by kernel_rfl) (by kernel_rfl) (by kernel_rfl) (by kernel_rfl) (by simp) ?_
  refine compO_map pairD (wayD (dirI 2)) _ fun y hy => ?_
  have hy' : y < 24 := by
    simp only [List.mem_cons, List.not_mem_nil, or_false] at hy
    rcases hy with h | h | h <;> rw [h] <;> exact hY _
  rw [way_elt2 Y R w y, pathN_is (by decide) hy']; rfl

theorem way_elt3 (Y : Nat → Nat) (R : List D) (w : D) (y : Nat) : compF T3 WE (coldV (σ32 Y R (kw32 3 w))) (pairD y) = (pathN 3 y).bind fun x => some (some x) := by kernel_rfl
theorem ways3 (Y : Nat → Nat) (hY : ∀ i, Y i < 24) (R : List D) (w : D) : evE T3 WE S32 (coldV (σ32 Y R (kw32 3 w))) = some (.list (([Y 9, Y 10, Y 11]).map (wayD (dirI 3)))) := by
  refine ev_comp_list (xs := [Y 9, Y 10, Y 11].map pairD) (by kernel_rfl) (by kernel_rfl) (by kernel_rfl) (by kernel_rfl) (by simp) ?_
  refine compO_map pairD (wayD (dirI 3)) _ fun y hy => ?_
  have hy' : y < 24 := by
    simp only [List.mem_cons, List.not_mem_nil, or_false] at hy
    rcases hy with h | h | h <;> rw [h] <;> exact hY _
  rw [way_elt3 Y R w y, pathN_is (by decide) hy']; rfl

theorem way_elt4 (Y : Nat → Nat) (R : List D) (w : D) (y : Nat) : compF T3 WE (coldV (σ32 Y R (kw32 4 w))) (pairD y) = (pathN 4 y).bind fun x => some (some x) := by kernel_rfl
theorem ways4 (Y : Nat → Nat) (hY : ∀ i, Y i < 24) (R : List D) (w : D) : evE T3 WE S32 (coldV (σ32 Y R (kw32 4 w))) = some (.list (([Y 12, Y 13, Y 14]).map (wayD (dirI 4)))) := by
  refine ev_comp_list (xs := [Y 12, Y 13, Y 14].map pairD) (by kernel_rfl) (by kernel_rfl) (by kernel_rfl) (by kernel_rfl) (by simp) ?_
  refine compO_map pairD (wayD (dirI 4)) _ fun y hy => ?_
  have hy' : y < 24 := by
    simp only [List.mem_cons, List.not_mem_nil, or_false] at hy
    rcases hy with h | h | h <;> rw [h] <;> exact hY _
  rw [way_elt4 Y R w y, pathN_is (by decide) hy']; rfl

theorem ways_told (Y : Nat → Nat) (R : List D) {k a b c : Nat} (hk : k < 5) (ha : a < 24) (hb : b < 24) (hc : c < 24) (w : D) :
    compO (compF T3 TE (coldV (σ32 Y R (kw32 k w)))) ([a, b, c].map (wayD (dirI k))) = some (([a, b, c].filterMap (goalT k)).map nI) := by
  have h := fun y hy => List.map_inj_left.mp (told_elt Y R w) _ (mem_kys hk (y := y) hy)
  dsimp only at h
  rw [compO_fm (wayD (dirI k)) (fun y => (goalT k y).map nI) _ fun y hy => ?_]
  · congr 1
    simp only [List.filterMap_cons, List.filterMap_nil]
    cases goalT k a <;> cases goalT k b <;> cases goalT k c <;> rfl
  · simp only [List.mem_cons, List.not_mem_nil, or_false] at hy
    refine h y ?_
    rcases hy with h | h | h <;> rw [h] <;> assumption
noncomputable def out32 : D → St → Option (Fl × St) := fun d σ => (bindS (forT F32) d σ).bind fun σ' => evSs T3 (forB F32) S32 σ'
noncomputable def gl (Y : Nat → Nat) (k : Nat) : D := .list ((goalsOf Y k).map nI)
noncomputable def wy (Y : Nat → Nat) (k : Nat) : D := .list (([Y (3 * k), Y (3 * k + 1), Y (3 * k + 2)]).map (wayD (dirI k)))
noncomputable def st32 (Y : Nat → Nat) (k : Nat) : St := σ32 Y ((List.range (k + 1)).map (gl Y)) (kw32 k (wy Y k))

theorem out32_0 (Y : Nat → Nat) (hY : ∀ i, Y i < 24) (w : D) : out32 (nI 0) [(sO "files", .cold filesD), (sO "links", .cold (linksD Y)), (sO "told", .hot1 [])] = some (.next, st32 Y 0) := by
  have h0 : bindS (forT F32) (nI 0) [(sO "files", .cold filesD), (sO "links", .cold (linksD Y)), (sO "told", .hot1 [])] = some (σ32 Y ((List.range 0).map (gl Y)) (k32 0)) := by kernel_rfl
  unfold out32
  rw [h0, Option.bind_some, run_all, run_next (evS_cold (x := sO "ways") (by kernel_rfl) (ways0 Y hY _ w))]
  have e : put (sO "ways") (.cold (.list (([Y 0, Y 1, Y 2]).map (wayD (dirI 0))))) (σ32 Y ((List.range 0).map (gl Y)) (k32 0)) = σ32 Y ((List.range 0).map (gl Y)) (kw32 0 (wy Y 0)) := by kernel_rfl
  rw [e]
  have h1 : evE T3 TE S32 (coldV (σ32 Y ((List.range 0).map (gl Y)) (kw32 0 (wy Y 0)))) = some (gl Y 0) := by
    refine ev_comp_list (xs := ([Y 0, Y 1, Y 2]).map (wayD (dirI 0))) (by kernel_rfl) (by kernel_rfl) (by kernel_rfl) (by kernel_rfl) (by simp) ?_
    exact ways_told Y _ (by decide) (hY _) (hY _) (hY _) _
  have h2 : exprS T3 (exprE (stN (forB F32) 1)) S32 (σ32 Y ((List.range 0).map (gl Y)) (kw32 0 (wy Y 0))) = (evE T3 TE S32 (coldV (σ32 Y ((List.range 0).map (gl Y)) (kw32 0 (wy Y 0))))).bind fun d => some (σ32 Y ((List.range 0).map (gl Y) ++ [d]) (kw32 0 (wy Y 0))) := by kernel_rfl
  rw [h1, Option.bind_some] at h2
  rw [run_next (evS_expr (by kernel_rfl) h2), run_end (by kernel_rfl)]
  rfl

theorem out32_1 (Y : Nat → Nat) (hY : ∀ i, Y i < 24) (w : D) : out32 (nI 1) (σ32 Y ((List.range 1).map (gl Y)) (kw32 0 w)) = some (.next, st32 Y 1) := by
  have h0 : bindS (forT F32) (nI 1) (σ32 Y ((List.range 1).map (gl Y)) (kw32 0 w)) = some (σ32 Y ((List.range 1).map (gl Y)) (kw32 1 w)) := by kernel_rfl
  unfold out32
  rw [h0, Option.bind_some, run_all, run_next (evS_cold (x := sO "ways") (by kernel_rfl) (ways1 Y hY _ w))]
  have e : put (sO "ways") (.cold (.list (([Y 3, Y 4, Y 5]).map (wayD (dirI 1))))) (σ32 Y ((List.range 1).map (gl Y)) (kw32 1 w)) = σ32 Y ((List.range 1).map (gl Y)) (kw32 1 (wy Y 1)) := by kernel_rfl
  rw [e]
  have h1 : evE T3 TE S32 (coldV (σ32 Y ((List.range 1).map (gl Y)) (kw32 1 (wy Y 1)))) = some (gl Y 1) := by
    refine ev_comp_list (xs := ([Y 3, Y 4, Y 5]).map (wayD (dirI 1))) (by kernel_rfl) (by kernel_rfl) (by kernel_rfl) (by kernel_rfl) (by simp) ?_
    exact ways_told Y _ (by decide) (hY _) (hY _) (hY _) _
  have h2 : exprS T3 (exprE (stN (forB F32) 1)) S32 (σ32 Y ((List.range 1).map (gl Y)) (kw32 1 (wy Y 1))) = (evE T3 TE S32 (coldV (σ32 Y ((List.range 1).map (gl Y)) (kw32 1 (wy Y 1))))).bind fun d => some (σ32 Y ((List.range 1).map (gl Y) ++ [d]) (kw32 1 (wy Y 1))) := by kernel_rfl
  rw [h1, Option.bind_some] at h2
  rw [run_next (evS_expr (by kernel_rfl) h2), run_end (by kernel_rfl)]
  rfl

theorem out32_2 (Y : Nat → Nat) (hY : ∀ i, Y i < 24) (w : D) : out32 (nI 2) (σ32 Y ((List.range 2).map (gl Y)) (kw32 1 w)) = some (.next, st32 Y 2) := by
  have h0 : bindS (forT F32) (nI 2) (σ32 Y ((List.range 2).map (gl Y)) (kw32 1 w)) = some (σ32 Y ((List.range 2).map (gl Y)) (kw32 2 w)) := by kernel_rfl
  unfold out32
  rw [h0, Option.bind_some, run_all, run_next (evS_cold (x := sO "ways") (by kernel_rfl) (ways2 Y hY _ w))]
  have e : put (sO "ways") (.cold (.list (([Y 6, Y 7, Y 8]).map (wayD (dirI 2))))) (σ32 Y ((List.range 2).map (gl Y)) (kw32 2 w)) = σ32 Y ((List.range 2).map (gl Y)) (kw32 2 (wy Y 2)) := by kernel_rfl
  rw [e]
  have h1 : evE T3 TE S32 (coldV (σ32 Y ((List.range 2).map (gl Y)) (kw32 2 (wy Y 2)))) = some (gl Y 2) := by
    refine ev_comp_list (xs := ([Y 6, Y 7, Y 8]).map (wayD (dirI 2))) (by kernel_rfl) (by kernel_rfl) (by kernel_rfl) (by kernel_rfl) (by simp) ?_
    exact ways_told Y _ (by decide) (hY _) (hY _) (hY _) _
  have h2 : exprS T3 (exprE (stN (forB F32) 1)) S32 (σ32 Y ((List.range 2).map (gl Y)) (kw32 2 (wy Y 2))) = (evE T3 TE S32 (coldV (σ32 Y ((List.range 2).map (gl Y)) (kw32 2 (wy Y 2))))).bind fun d => some (σ32 Y ((List.range 2).map (gl Y) ++ [d]) (kw32 2 (wy Y 2))) := by kernel_rfl
  rw [h1, Option.bind_some] at h2
  rw [run_next (evS_expr (by kernel_rfl) h2), run_end (by kernel_rfl)]
  rfl

theorem out32_3 (Y : Nat → Nat) (hY : ∀ i, Y i < 24) (w : D) : out32 (nI 3) (σ32 Y ((List.range 3).map (gl Y)) (kw32 2 w)) = some (.next, st32 Y 3) := by
  have h0 : bindS (forT F32) (nI 3) (σ32 Y ((List.range 3).map (gl Y)) (kw32 2 w)) = some (σ32 Y ((List.range 3).map (gl Y)) (kw32 3 w)) := by kernel_rfl
  unfold out32
  rw [h0, Option.bind_some, run_all, run_next (evS_cold (x := sO "ways") (by kernel_rfl) (ways3 Y hY _ w))]
  have e : put (sO "ways") (.cold (.list (([Y 9, Y 10, Y 11]).map (wayD (dirI 3))))) (σ32 Y ((List.range 3).map (gl Y)) (kw32 3 w)) = σ32 Y ((List.range 3).map (gl Y)) (kw32 3 (wy Y 3)) := by kernel_rfl
  rw [e]
  have h1 : evE T3 TE S32 (coldV (σ32 Y ((List.range 3).map (gl Y)) (kw32 3 (wy Y 3)))) = some (gl Y 3) := by
    refine ev_comp_list (xs := ([Y 9, Y 10, Y 11]).map (wayD (dirI 3))) (by kernel_rfl) (by kernel_rfl) (by kernel_rfl) (by kernel_rfl) (by simp) ?_
    exact ways_told Y _ (by decide) (hY _) (hY _) (hY _) _
  have h2 : exprS T3 (exprE (stN (forB F32) 1)) S32 (σ32 Y ((List.range 3).map (gl Y)) (kw32 3 (wy Y 3))) = (evE T3 TE S32 (coldV (σ32 Y ((List.range 3).map (gl Y)) (kw32 3 (wy Y 3))))).bind fun d => some (σ32 Y ((List.range 3).map (gl Y) ++ [d]) (kw32 3 (wy Y 3))) := by kernel_rfl
  rw [h1, Option.bind_some] at h2
  rw [run_next (evS_expr (by kernel_rfl) h2), run_end (by kernel_rfl)]
  rfl

theorem out32_4 (Y : Nat → Nat) (hY : ∀ i, Y i < 24) (w : D) : out32 (nI 4) (σ32 Y ((List.range 4).map (gl Y)) (kw32 3 w)) = some (.next, st32 Y 4) := by
  have h0 : bindS (forT F32) (nI 4) (σ32 Y ((List.range 4).map (gl Y)) (kw32 3 w)) = some (σ32 Y ((List.range 4).map (gl Y)) (kw32 4 w)) := by kernel_rfl
  unfold out32
  rw [h0, Option.bind_some, run_all, run_next (evS_cold (x := sO "ways") (by kernel_rfl) (ways4 Y hY _ w))]
  have e : put (sO "ways") (.cold (.list (([Y 12, Y 13, Y 14]).map (wayD (dirI 4))))) (σ32 Y ((List.range 4).map (gl Y)) (kw32 4 w)) = σ32 Y ((List.range 4).map (gl Y)) (kw32 4 (wy Y 4)) := by kernel_rfl
  rw [e]
  have h1 : evE T3 TE S32 (coldV (σ32 Y ((List.range 4).map (gl Y)) (kw32 4 (wy Y 4)))) = some (gl Y 4) := by
    refine ev_comp_list (xs := ([Y 12, Y 13, Y 14]).map (wayD (dirI 4))) (by kernel_rfl) (by kernel_rfl) (by kernel_rfl) (by kernel_rfl) (by simp) ?_
    exact ways_told Y _ (by decide) (hY _) (hY _) (hY _) _
  have h2 : exprS T3 (exprE (stN (forB F32) 1)) S32 (σ32 Y ((List.range 4).map (gl Y)) (kw32 4 (wy Y 4))) = (evE T3 TE S32 (coldV (σ32 Y ((List.range 4).map (gl Y)) (kw32 4 (wy Y 4))))).bind fun d => some (σ32 Y ((List.range 4).map (gl Y) ++ [d]) (kw32 4 (wy Y 4))) := by kernel_rfl
  rw [h1, Option.bind_some] at h2
  rw [run_next (evS_expr (by kernel_rfl) h2), run_end (by kernel_rfl)]
  rfl

theorem told_run (Y : Nat → Nat) (hY : ∀ i, Y i < 24) : runF T3 32 (posB [sO "files", sO "links"]) [filesD, linksD Y] [] = some (rowsD (goalsOf Y)) := by
  have e0 : runF T3 32 (posB [sO "files", sO "links"]) [filesD, linksD Y] [] = runD T3 B32 S32 [(sO "files", .cold filesD), (sO "links", .cold (linksD Y))] := by kernel_rfl
  rw [e0]
  refine runD_of (σ' := st32 Y 4) ?_
  rw [run_all, run_next (σ' := [(sO "files", .cold filesD), (sO "links", .cold (linksD Y)), (sO "told", .hot1 [])]) (by kernel_rfl)]
  have h1 : evV T3 (forI F32) S32 [(sO "files", .cold filesD), (sO "links", .cold (linksD Y)), (sO "told", .hot1 [])] = some (.rng 0 5 1, [(sO "files", .cold filesD), (sO "links", .cold (linksD Y)), (sO "told", .hot1 [])]) := by kernel_rfl
  have h2 : evS T3 (stN B32 1) S32 [(sO "files", .cold filesD), (sO "links", .cold (linksD Y)), (sO "told", .hot1 [])] = some (.next, st32 Y 4) := by
    show evS T3 F32 _ _ = _
    rw [evS_for (by kernel_rfl) h1 (items := [nI 0, nI 1, nI 2, nI 3, nI 4]) (by kernel_rfl)]
    show forO out32 _ _ = _
    rw [forO_next (out32_0 Y hY .none)]
    unfold st32
    rw [forO_next (out32_1 Y hY _)]
    unfold st32
    rw [forO_next (out32_2 Y hY _)]
    unfold st32
    rw [forO_next (out32_3 Y hY _)]
    unfold st32
    rw [forO_next (out32_4 Y hY _)]
    rfl
  rw [run_next h2]
  exact run_ret (by kernel_rfl)
end Mine

end

section
set_option maxRecDepth 100000
namespace Mine

/-! ## which files are alike -/
noncomputable def ifX : Expr → Expr | .ListComp _ [⟨_, _, [i], _⟩] _ _ => i | _ => noE
noncomputable def tgG : List Comprehension → Option Str
  | g :: _ => nameX g.target
  | [] => none
noncomputable def tgX (e : Expr) : Str := (tgG (gensX e)).getD (sO "")
noncomputable def isTrueX : Expr → Bool
  | .Constant c _ _ => (match c with
    | .bool b => b
    | _ => false)
  | _ => false
theorem trueX_is {e : Expr} (h : isTrueX e = true) : ∃ k p, e = .Constant (.bool true) k p := by
  cases e with
  | Constant c k p => cases c with
    | bool b => cases b with
      | true => exact ⟨k, p, rfl⟩
      | false => exact false_ne h
    | _ => exact false_ne h
  | _ => exact false_ne h
noncomputable def isNotIn : List CmpOp → Bool
  | o :: r => r.isEmpty && (match o with
    | .NotIn => true
    | _ => false)
  | [] => false
theorem notIn_is {ops : List CmpOp} (h : isNotIn ops = true) : ops = [.NotIn] := by
  cases ops with
  | nil => exact false_ne h
  | cons o r =>
    obtain ⟨h1, h2⟩ := Bool.and_eq_true_iff.mp h
    rw [List.isEmpty_iff.mp h1]
    cases o <;> first | rfl | exact false_ne h2
noncomputable def cmpS : Expr → Bool
  | .Compare l ops cs _ => isTrueX l && isNotIn ops && (oneE cs).isSome
  | _ => false
theorem cmpS_is {e : Expr} (h : cmpS e = true) : ∃ u v c2 cp, e = .Compare (.Constant (.bool true) u v) [.NotIn] [c2] cp := by
  cases e with
  | Compare l ops cs p =>
    obtain ⟨h1, h3⟩ := Bool.and_eq_true_iff.mp h
    replace h1 := Bool.and_eq_true_iff.mp h1
    obtain ⟨h1, h2⟩ := h1
    obtain ⟨u, v, rfl⟩ := trueX_is h1
    cases notIn_is h2
    replace h3 := Option.isSome_iff_exists.mp h3
    obtain ⟨c2, h3⟩ := h3
    cases oneE_is h3
    exact ⟨u, v, c2, p, rfl⟩
  | _ => exact false_ne h
noncomputable def genS : List Comprehension → Bool
  | g :: r => r.isEmpty && (nameX g.target).isSome && (oneE g.ifs).any cmpS
  | [] => false
theorem genS_is {gs : List Comprehension} (h : genS gs = true) : ∃ s sp it u v c2 cp a, gs = [⟨.Name s sp, it, [.Compare (.Constant (.bool true) u v) [.NotIn] [c2] cp], a⟩] := by
  cases gs with
  | nil => exact false_ne h
  | cons g r =>
    obtain ⟨t, it, ifs, a⟩ := g
    obtain ⟨h1, h3⟩ := Bool.and_eq_true_iff.mp h
    replace h1 := Bool.and_eq_true_iff.mp h1
    obtain ⟨h1, h2⟩ := h1
    rw [List.isEmpty_iff.mp h1]
    replace h2 := Option.isSome_iff_exists.mp h2
    obtain ⟨s, h2⟩ := h2
    obtain ⟨sp, h2⟩ := nameX_is h2
    obtain ⟨i, h4, h5⟩ := (Option.any_eq_true _ _).mp h3
    obtain ⟨u, v, c2, cp, h5⟩ := cmpS_is h5
    have h6 := oneE_is h4
    dsimp only at h2 h6
    rw [h2, h6, h5]
    exact ⟨s, sp, it, u, v, c2, cp, a, rfl⟩
noncomputable def notinShape (e : Expr) : Bool := isComp e && genS (gensX e)
theorem compF_notin {T : Tab} {e : Expr} {ρ : Vars} {d : D} (he : notinShape e = true) (hel : evE T (eltX e) (scX e) ((tgX e, d) :: ρ) = some d) :
    compF T e ρ d = (evE T (cmpR (ifX e)) (scX e) ((tgX e, d) :: ρ)).bind fun x => (cmpD .NotIn (.bool true) x).bind fun c => some (if c then some d else none) := by
  replace he := Bool.and_eq_true_iff.mp he
  obtain ⟨he, hg⟩ := he
  cases e with
  | ListComp elt gs sc' p =>
    obtain ⟨s, sp, it, u, v, c2, cp, a, hg⟩ := genS_is (show genS gs = true from hg)
    subst hg
    change evE T elt sc' ((s, d) :: ρ) = some d at hel
    show (evTs T .And [.Compare (.Constant (.bool true) u v) [.NotIn] [c2] cp] sc' ((s, d) :: ρ)).bind (fun b => if b then (evE T elt sc' ((s, d) :: ρ)).bind fun x => some (some x) else some none) = (evE T c2 sc' ((s, d) :: ρ)).bind _
    rw [hel]
    have e1 : evE T (.Compare (.Constant (.bool true) u v) [.NotIn] [c2] cp) sc' ((s, d) :: ρ) = (evE T c2 sc' ((s, d) :: ρ)).bind fun b => (cmpD .NotIn (.bool true) b).bind fun c => some (.bool c) := rfl
    show ((evT T (.Compare (.Constant (.bool true) u v) [.NotIn] [c2] cp) sc' ((s, d) :: ρ) (evE T (.Compare (.Constant (.bool true) u v) [.NotIn] [c2] cp) sc' ((s, d) :: ρ))).bind _).bind _ = _
    have e2 : ∀ whole, evT T (.Compare (.Constant (.bool true) u v) [.NotIn] [c2] cp) sc' ((s, d) :: ρ) whole = whole.bind truthD := fun z0 => rfl
    rw [e2, e1]
    cases evE T c2 sc' ((s, d) :: ρ) with
    | none => rfl
    | some x =>
      simp only [Option.bind_some]
      cases cmpD .NotIn (.bool true) x with
      | none => rfl
      | some c => cases c <;> rfl
  | _ => exact false_ne he
theorem compO_weaken {f f' : D → Option (Option D)} (h : ∀ d x, f d = some x → f' d = some x) : ∀ {xs ds}, compO f xs = some ds → compO f' xs = some ds
  | [], ds, e => e
  | x :: r, ds, e => by
    rw [compO] at e ⊢
    cases hx : f x with
    | none => rw [hx] at e; cases e
    | some o =>
      rw [hx, Option.bind_some] at e
      rw [h x o hx, Option.bind_some]
      cases hr : compO f r with
      | none => rw [hr] at e; cases e
      | some ys => rw [hr] at e; rw [compO_weaken h hr]; exact e
theorem all_none {f : D → Option (Option D)} (h : ∀ d, f d = none) : ∀ {xs ds}, compO f xs = some ds → xs = [] ∧ ds = []
  | [], ds, e => by cases e; exact ⟨rfl, rfl⟩
  | x :: r, ds, e => by rw [compO, h x] at e; cases e

structure B4 where
  p : Bool
  q : Bool
  r : Bool
  s : Bool
noncomputable def matL (b : B4) : List (List Bool) := [[true, false, b.p, false, b.q], [false, true, false, b.s, false], [b.p, false, true, false, b.r], [false, b.s, false, true, false], [b.q, false, b.r, false, true]]
noncomputable def mat (b : B4) (i j : Nat) : Bool := ((matL b).getD i []).getD j false
noncomputable def matD (b : B4) : List (List D) := (matL b).map fun r => r.map .bool
noncomputable def kindL : List String := ["p", "q", "p", "q", "p"]
noncomputable def kindsD : D := .list (kindL.map fun x => .str (sO x))

noncomputable def B35 := (defAt 35).1
noncomputable def S35 := (defAt 35).2
noncomputable def F35 : Stmt := stN B35 1
noncomputable def U35 : Stmt := stN (forB F35) 0
noncomputable def V35 : Stmt := stN (forB U35) 0
noncomputable def HE : Expr := asgE (stN (forB V35) 0)
noncomputable def TE' : Expr := asgE (stN (forB V35) 1)
noncomputable def tail35 : Option (D × D × D) → List (Str × Slt)
  | none => []
  | some (v, h, t) => [(sO "v", .cold v), (sO "here", .cold h), (sO "there", .cold t)]
noncomputable def σ35 (g : Nat → List Nat) (b : B4) (rest : List (Str × Slt)) : St := [(sO "kinds", .cold kindsD), (sO "goals", .cold (rowsD g)), (sO "alike", .hot2 (matD b))] ++ rest
noncomputable def tu (t u : D) (l : List (Str × Slt)) : List (Str × Slt) := (sO "turn", .cold t) :: (sO "u", .cold u) :: l
noncomputable def v1 (v : D) : List (Str × Slt) := [(sO "v", .cold v)]
noncomputable def v2 (v h : D) : List (Str × Slt) := [(sO "v", .cold v), (sO "here", .cold h)]
noncomputable def v3 (v h t : D) : List (Str × Slt) := [(sO "v", .cold v), (sO "here", .cold h), (sO "there", .cold t)]

theorem eqOk_bools (xs : List Bool) : (xs.map D.bool).all (eqOk 9) = true := by
  induction xs with
  | nil => rfl
  | cons x r ih => rw [List.map_cons, List.all_cons, ih]; rfl
theorem eqOk_ints (xs : List Nat) : (xs.map nI).all (eqOk 8) = true := by
  induction xs with
  | nil => rfl
  | cons x r ih => rw [List.map_cons, List.all_cons, ih]; rfl
theorem notin_bools (xs : List Bool) : cmpD .NotIn (.bool true) (.list (xs.map .bool)) = some (!xs.any fun y => y) := by
  have h : cmpD .NotIn (.bool true) (.list (xs.map D.bool)) = if eqOk 9 (.bool true) && (xs.map D.bool).all (eqOk 9) then some (!(xs.map D.bool).any fun y => eqvD y (.bool true)) else none := rfl
  rw [h, eqOk_bools]
  show some _ = _
  congr 2
  rw [List.any_map]
  congr 1
  funext y
  show (y == true) = y
  cases y <;> rfl
noncomputable def five : List (Nat × Nat) := (List.range 5).flatMap fun i => (List.range 5).map fun j => (i, j)
theorem mem_five {i j : Nat} (hi : i < 5) (hj : j < 5) : (i, j) ∈ five := by
  unfold five
  rw [List.mem_flatMap]
  exact ⟨i, List.mem_range.mpr hi, List.mem_map.mpr ⟨j, List.mem_range.mpr hj, rfl⟩⟩
noncomputable def hereL (g : Nat → List Nat) (b : B4) (u v : Nat) : List Nat := (g u).filter fun s => !(g v).any fun t => mat b s t
noncomputable def thereL (g : Nat → List Nat) (b : B4) (u v : Nat) : List Nat := (g v).filter fun t => !(g u).any fun s => mat b s t
noncomputable def chk (g : Nat → List Nat) (b : B4) (u v : Nat) : Bool := (g u).all (fun s => (g v).any fun t => mat b s t) && (g v).all fun t => (g u).any fun s => mat b s t

theorem fm_filter (k : Nat → D) (c : Nat → Bool) (xs : List Nat) : xs.filterMap (fun s => if c s then some (k s) else none) = (xs.filter c).map k := by
  induction xs with
  | nil => rfl
  | cons x r ih => rw [List.filterMap_cons, List.filter_cons]; cases c x <;> simp [ih]
theorem lists_empty (xs : List Nat) : cmpD .Eq (.list (xs.map nI)) (.list []) = some xs.isEmpty := by
  have h : cmpD .Eq (.list (xs.map nI)) (.list []) = if eqOk 9 (.list (xs.map nI)) && eqOk 9 (.list []) then some (eqvD (.list (xs.map nI)) (.list [])) else none := rfl
  have h1 : eqOk 9 (.list (xs.map nI)) = true := eqOk_ints xs
  rw [h, h1]
  show some _ = _
  cases xs <;> rfl
theorem chk_is (g : Nat → List Nat) (b : B4) (u v : Nat) : (hereL g b u v ++ thereL g b u v).isEmpty = chk g b u v := by
  have h : ∀ (c : Nat → Bool) (xs : List Nat), (xs.filter fun s => !c s).isEmpty = xs.all c := fun c xs => by
    induction xs with
    | nil => rfl
    | cons x r ih => rw [List.filter_cons, List.all_cons]; cases hx : c x <;> simp [ih]
  unfold hereL thereL chk
  rw [← h, ← h]
  cases (g u).filter fun s => !(g v).any fun t => mat b s t <;> rfl
noncomputable def turn35 : D → St → Option (Fl × St) := fun d σ => (bindS (forT V35) d σ).bind fun σ' => evSs T0 (forB V35) S35 σ'

noncomputable def twoA (st : Stmt) : Bool := decide (2 ≤ (tgsX st).length)
theorem evS_two {T : Tab} {sc : Scope} {st : Stmt} {σ σ' : St} {d : D} (ht : twoA st = true) (h : evE T (asgE st) sc (allV σ) = some d) (hf : flat d = true) (hs : setAllS T d sc (tgsX st) σ = some σ') : evS T st sc σ = some (.next, σ') := by
  have ht : 2 ≤ (tgsX st).length := of_decide_eq_true ht
  obtain ⟨p, hp⟩ := asg_is (st := st) (fun e => by rw [e] at ht; cases ht)
  rw [hp]
  show (assignS T (tgsX st) (asgE st) sc σ).bind _ = _
  have : assignS T (tgsX st) (asgE st) sc σ = (evE T (asgE st) sc (allV σ)).bind fun d => if flat d then setAllS T d sc (tgsX st) σ else none := by
    generalize tgsX st = ts at ht
    match ts, ht with
    | _ :: _ :: _, _ => rfl
  rw [this, h, Option.bind_some, hf, if_pos rfl, hs]; rfl
/-- a comprehension that may read what is changed in place -/
theorem evS_flat {T : Tab} {sc : Scope} {st : Stmt} {σ : St} {x : Str} {d : D} (hp : plainA st = some x) (hc : isComp (asgE st) = true) (hall : evE T (asgE st) sc (allV σ) = some d) (hfl : flatList d = true)
    (hw : ∀ d', evE T (asgE st) sc (coldV σ) = some d' → evE T (asgE st) sc (allV σ) = some d') : evS T st sc σ = some (.next, put x (.cold d) σ) := by
  rw [evS_plain hp]
  unfold evV
  cases h : evE T (asgE st) sc (coldV σ) with
  | some d' =>
    have := hw d' h
    rw [hall] at this
    cases this
    rfl
  | none =>
    dsimp only
    rw [hall, Option.bind_some, hc, hfl]
    simp
theorem notin_weaken {T : Tab} {e : Expr} {sc : Scope} {ρc ρa : Vars} (he : notinShape e = true) (hcc : isComp e = true) (hc2 : isComp (cmpR (ifX e)) = true) (h1 : evIter T (gensX e) sc ρc = evIter T (gensX e) sc ρa)
    (h2 : ∀ d, evIter T (gensX (cmpR (ifX e))) (scX e) ((tgX e, d) :: ρc) = evIter T (gensX (cmpR (ifX e))) (scX e) ((tgX e, d) :: ρa)) (h3 : ∀ d d', compF T (cmpR (ifX e)) ((tgX e, d) :: ρc) d' = none)
    (h4 : ∀ d, evE T (eltX e) (scX e) ((tgX e, d) :: ρc) = some d) (h5 : ∀ d, evE T (eltX e) (scX e) ((tgX e, d) :: ρa) = some d) : ∀ d', evE T e sc ρc = some d' → evE T e sc ρa = some d' := by
  intro d' hc
  rw [evE_comp hcc] at hc ⊢
  rw [h1] at hc
  cases hi : evIter T (gensX e) sc ρa with
  | none => rw [hi] at hc; cases hc
  | some items =>
    rw [hi, Option.bind_some] at hc
    rw [Option.bind_some]
    cases hco : compO (compF T e ρc) items with
    | none => rw [hco] at hc; cases hc
    | some ds =>
      rw [hco] at hc
      rw [compO_weaken (fun d x hx => ?_) hco]
      · exact hc
      · rw [compF_notin he (h4 d)] at hx
        rw [compF_notin he (h5 d)]
        rw [evE_comp hc2] at hx ⊢
        rw [h2 d] at hx
        cases hi2 : evIter T (gensX (cmpR (ifX e))) (scX e) ((tgX e, d) :: ρa) with
        | none => rw [hi2] at hx; cases hx
        | some it2 =>
          rw [hi2, Option.bind_some] at hx
          rw [Option.bind_some]
          cases hc2 : compO (compF T (cmpR (ifX e)) ((tgX e, d) :: ρc)) it2 with
          | none => rw [hc2] at hx; cases hx
          | some d2 =>
            obtain ⟨q1, q2⟩ := all_none (h3 d) hc2
            rw [hc2] at hx
            subst q1 q2
            exact hx
theorem notin_value {T : Tab} {e : Expr} {sc : Scope} {ρ : Vars} (he : notinShape e = true) (hcc : isComp e = true) (hc2 : isComp (cmpR (ifX e)) = true) (hn : isEnumCall (genI (gensX e)) = false) (hg : (gensX e).isEmpty = false)
    (hn2 : isEnumCall (genI (gensX (cmpR (ifX e)))) = false) (hg2 : (gensX (cmpR (ifX e))).isEmpty = false) {xs ys : List Nat} {m : Nat → Nat → Bool} (hx : evE T (genI (gensX e)) sc ρ = some (.list (xs.map nI))) (hlx : xs.length ≤ 1000000) (hly : ys.length ≤ 1000000)
    (h5 : ∀ d, evE T (eltX e) (scX e) ((tgX e, d) :: ρ) = some d) (hy : ∀ d, evE T (genI (gensX (cmpR (ifX e)))) (scX e) ((tgX e, d) :: ρ) = some (.list (ys.map nI)))
    (hm : ∀ s ∈ xs, ∀ t ∈ ys, compF T (cmpR (ifX e)) ((tgX e, nI s) :: ρ) (nI t) = some (some (.bool (m s t)))) : evE T e sc ρ = some (.list ((xs.filter fun s => !ys.any fun t => m s t).map nI)) := by
  refine ev_comp_list (xs := xs.map nI) hcc hn hg hx (by rw [List.length_map]; exact hlx) ?_
  rw [compO_fm nI (fun s => if !ys.any (fun t => m s t) then some (nI s) else none) _ fun s hs => ?_, fm_filter]
  rw [compF_notin he (h5 _)]
  have e : evE T (cmpR (ifX e)) (scX e) ((tgX e, nI s) :: ρ) = some (.list ((ys.map fun t => m s t).map .bool)) := by
    refine ev_comp_list (xs := ys.map nI) hc2 hn2 hg2 (hy _) (by rw [List.length_map]; exact hly) ?_
    rw [compO_map nI (fun t => .bool (m s t)) _ fun t ht => hm s hs t ht, List.map_map]; rfl
  rw [e, Option.bind_some, notin_bools, Option.bind_some, List.any_map]
  rfl
theorem flat_ints (xs : List Nat) : flatList (.list (xs.map nI)) = true := by
  show (xs.map nI).all flat = true
  induction xs with
  | nil => rfl
  | cons x r ih => rw [List.map_cons, List.all_cons, ih]; rfl

section
variable (g : Nat → List Nat) (b : B4) (t h h0 t0 v0 : D)
theorem here_el20a : five.map (fun q => compF T0 (cmpR (ifX HE)) ((tgX HE, nI q.1) :: allV (σ35 g b (tu t (nI 2) (v1 (nI 0))))) (nI q.2)) = five.map fun q => some (some (.bool (mat b q.1 q.2))) := by kernel_rfl
theorem there_el20a : five.map (fun q => compF T0 (cmpR (ifX TE')) ((tgX TE', nI q.2) :: allV (σ35 g b (tu t (nI 2) (v2 (nI 0) h)))) (nI q.1)) = five.map fun q => some (some (.bool (mat b q.1 q.2))) := by kernel_rfl
theorem here20a (hl : ∀ k, (g k).length ≤ 3) (h5 : ∀ k x, x ∈ g k → x < 5) : evS T0 (stN (forB V35) 0) S35 (σ35 g b (tu t (nI 2) (v1 (nI 0)))) = some (.next, σ35 g b (tu t (nI 2) (v2 (nI 0) (.list ((hereL g b 2 0).map nI))))) := by
  have hv : evE T0 HE S35 (allV (σ35 g b (tu t (nI 2) (v1 (nI 0))))) = some (.list ((hereL g b 2 0).map nI)) :=
    notin_value (ys := g 0) (m := fun s t => mat b s t) (by kernel_rfl) (by kernel_rfl) (by kernel_rfl) (by kernel_rfl) (by kernel_rfl) (by kernel_rfl) (by kernel_rfl) (by kernel_rfl) (by have := hl 2; lia) (by have := hl 0; lia)
      (fun d => by kernel_rfl) (fun d => by kernel_rfl) fun s hs t' ht => List.map_inj_left.mp (here_el20a g b t ) _ (mem_five (h5 _ _ hs) (h5 _ _ ht))
  have hw : ∀ d', evE T0 HE S35 (coldV (σ35 g b (tu t (nI 2) (v1 (nI 0))))) = some d' → evE T0 HE S35 (allV (σ35 g b (tu t (nI 2) (v1 (nI 0))))) = some d' :=
    notin_weaken (by kernel_rfl) (by kernel_rfl) (by kernel_rfl) (by kernel_rfl) (fun d => by kernel_rfl) (fun d d' => by kernel_rfl) (fun d => by kernel_rfl) (fun d => by kernel_rfl)
  exact evS_flat (st := stN (forB V35) 0) (x := sO "here") (by kernel_rfl) (by kernel_rfl) hv (flat_ints _) hw
theorem there20a (hl : ∀ k, (g k).length ≤ 3) (h5 : ∀ k x, x ∈ g k → x < 5) : evS T0 (stN (forB V35) 1) S35 (σ35 g b (tu t (nI 2) (v2 (nI 0) h))) = some (.next, σ35 g b (tu t (nI 2) (v3 (nI 0) h (.list ((thereL g b 2 0).map nI))))) := by
  have hv : evE T0 TE' S35 (allV (σ35 g b (tu t (nI 2) (v2 (nI 0) h)))) = some (.list ((thereL g b 2 0).map nI)) :=
    notin_value (ys := g 2) (m := fun t s => mat b s t) (by kernel_rfl) (by kernel_rfl) (by kernel_rfl) (by kernel_rfl) (by kernel_rfl) (by kernel_rfl) (by kernel_rfl) (by kernel_rfl) (by have := hl 0; lia) (by have := hl 2; lia)
      (fun d => by kernel_rfl) (fun d => by kernel_rfl) fun s hs t' ht => List.map_inj_left.mp (there_el20a g b t h ) _ (mem_five (h5 _ _ ht) (h5 _ _ hs))
  have hw : ∀ d', evE T0 TE' S35 (coldV (σ35 g b (tu t (nI 2) (v2 (nI 0) h)))) = some d' → evE T0 TE' S35 (allV (σ35 g b (tu t (nI 2) (v2 (nI 0) h)))) = some d' :=
    notin_weaken (by kernel_rfl) (by kernel_rfl) (by kernel_rfl) (by kernel_rfl) (fun d => by kernel_rfl) (fun d d' => by kernel_rfl) (fun d => by kernel_rfl) (fun d => by kernel_rfl)
  exact evS_flat (st := stN (forB V35) 1) (x := sO "there") (by kernel_rfl) (by kernel_rfl) hv (flat_ints _) hw
theorem pair20a (hl : ∀ k, (g k).length ≤ 3) (h5 : ∀ k x, x ∈ g k → x < 5) : ∃ h w, turn35 (nI 0) (σ35 g b (tu t (nI 2) [])) = some (.next, σ35 g { b with p := chk g b 2 0 } (tu t (nI 2) (v3 (nI 0) h w))) := by
  refine ⟨.list ((hereL g b 2 0).map nI), .list ((thereL g b 2 0).map nI), ?_⟩
  unfold turn35
  have hb0 : bindS (forT V35) (nI 0) (σ35 g b (tu t (nI 2) [])) = some (σ35 g b (tu t (nI 2) (v1 (nI 0)))) := by kernel_rfl
  have l1 := hl 2
  have l2 := hl 0
  have l3 : (hereL g b 2 0).length ≤ 3 := Nat.le_trans (List.length_filter_le _ _) l1
  have l4 : (thereL g b 2 0).length ≤ 3 := Nat.le_trans (List.length_filter_le _ _) l2
  rw [hb0, Option.bind_some, run_all, run_next (here20a g b t hl h5), run_next (there20a g b t _ hl h5)]
  have e1 : evE T0 (asgE (stN (forB V35) 2)) S35 (allV (σ35 g b (tu t (nI 2) (v3 (nI 0) (.list ((hereL g b 2 0).map nI)) (.list ((thereL g b 2 0).map nI)))))) =
      (binD .Add (.list ((hereL g b 2 0).map nI)) (.list ((thereL g b 2 0).map nI))).bind fun a => (cmpD .Eq a (.list [])).bind fun c => some (.bool c) := by kernel_rfl
  rw [addD_list (by rw [List.length_map, List.length_map]; lia), Option.bind_some, ← List.map_append, lists_empty, Option.bind_some, chk_is] at e1
  rw [run_next (evS_two (by kernel_rfl) e1 rfl (σ' := σ35 g { b with p := chk g b 2 0 } (tu t (nI 2) (v3 (nI 0) (.list ((hereL g b 2 0).map nI)) (.list ((thereL g b 2 0).map nI))))) (by kernel_rfl)), run_end (by kernel_rfl)]
end

section
variable (g : Nat → List Nat) (b : B4) (t h h0 t0 v0 : D)
theorem here_el20b : five.map (fun q => compF T0 (cmpR (ifX HE)) ((tgX HE, nI q.1) :: allV (σ35 g b (tu t (nI 2) (v3 (nI 0) h0 t0)))) (nI q.2)) = five.map fun q => some (some (.bool (mat b q.1 q.2))) := by kernel_rfl
theorem there_el20b : five.map (fun q => compF T0 (cmpR (ifX TE')) ((tgX TE', nI q.2) :: allV (σ35 g b (tu t (nI 2) (v3 (nI 0) h t0)))) (nI q.1)) = five.map fun q => some (some (.bool (mat b q.1 q.2))) := by kernel_rfl
theorem here20b (hl : ∀ k, (g k).length ≤ 3) (h5 : ∀ k x, x ∈ g k → x < 5) : evS T0 (stN (forB V35) 0) S35 (σ35 g b (tu t (nI 2) (v3 (nI 0) h0 t0))) = some (.next, σ35 g b (tu t (nI 2) (v3 (nI 0) (.list ((hereL g b 2 0).map nI)) t0))) := by
  have hv : evE T0 HE S35 (allV (σ35 g b (tu t (nI 2) (v3 (nI 0) h0 t0)))) = some (.list ((hereL g b 2 0).map nI)) :=
    notin_value (ys := g 0) (m := fun s t => mat b s t) (by kernel_rfl) (by kernel_rfl) (by kernel_rfl) (by kernel_rfl) (by kernel_rfl) (by kernel_rfl) (by kernel_rfl) (by kernel_rfl) (by have := hl 2; lia) (by have := hl 0; lia)
      (fun d => by kernel_rfl) (fun d => by kernel_rfl) fun s hs t' ht => List.map_inj_left.mp (here_el20b g b t h0 t0) _ (mem_five (h5 _ _ hs) (h5 _ _ ht))
  have hw : ∀ d', evE T0 HE S35 (coldV (σ35 g b (tu t (nI 2) (v3 (nI 0) h0 t0)))) = some d' → evE T0 HE S35 (allV (σ35 g b (tu t (nI 2) (v3 (nI 0) h0 t0)))) = some d' :=
    notin_weaken (by kernel_rfl) (by kernel_rfl) (by kernel_rfl) (by kernel_rfl) (fun d => by kernel_rfl) (fun d d' => by kernel_rfl) (fun d => by kernel_rfl) (fun d => by kernel_rfl)
  exact evS_flat (st := stN (forB V35) 0) (x := sO "here") (by kernel_rfl) (by kernel_rfl) hv (flat_ints _) hw
theorem there20b (hl : ∀ k, (g k).length ≤ 3) (h5 : ∀ k x, x ∈ g k → x < 5) : evS T0 (stN (forB V35) 1) S35 (σ35 g b (tu t (nI 2) (v3 (nI 0) h t0))) = some (.next, σ35 g b (tu t (nI 2) (v3 (nI 0) h (.list ((thereL g b 2 0).map nI))))) := by
  have hv : evE T0 TE' S35 (allV (σ35 g b (tu t (nI 2) (v3 (nI 0) h t0)))) = some (.list ((thereL g b 2 0).map nI)) :=
    notin_value (ys := g 2) (m := fun t s => mat b s t) (by kernel_rfl) (by kernel_rfl) (by kernel_rfl) (by kernel_rfl) (by kernel_rfl) (by kernel_rfl) (by kernel_rfl) (by kernel_rfl) (by have := hl 0; lia) (by have := hl 2; lia)
      (fun d => by kernel_rfl) (fun d => by kernel_rfl) fun s hs t' ht => List.map_inj_left.mp (there_el20b g b t h t0) _ (mem_five (h5 _ _ ht) (h5 _ _ hs))
  have hw : ∀ d', evE T0 TE' S35 (coldV (σ35 g b (tu t (nI 2) (v3 (nI 0) h t0)))) = some d' → evE T0 TE' S35 (allV (σ35 g b (tu t (nI 2) (v3 (nI 0) h t0)))) = some d' :=
    notin_weaken (by kernel_rfl) (by kernel_rfl) (by kernel_rfl) (by kernel_rfl) (fun d => by kernel_rfl) (fun d d' => by kernel_rfl) (fun d => by kernel_rfl) (fun d => by kernel_rfl)
  exact evS_flat (st := stN (forB V35) 1) (x := sO "there") (by kernel_rfl) (by kernel_rfl) hv (flat_ints _) hw
theorem pair20b (hl : ∀ k, (g k).length ≤ 3) (h5 : ∀ k x, x ∈ g k → x < 5) : ∃ h w, turn35 (nI 0) (σ35 g b (tu t (nI 2) (v3 v0 h0 t0))) = some (.next, σ35 g { b with p := chk g b 2 0 } (tu t (nI 2) (v3 (nI 0) h w))) := by
  refine ⟨.list ((hereL g b 2 0).map nI), .list ((thereL g b 2 0).map nI), ?_⟩
  unfold turn35
  have hb0 : bindS (forT V35) (nI 0) (σ35 g b (tu t (nI 2) (v3 v0 h0 t0))) = some (σ35 g b (tu t (nI 2) (v3 (nI 0) h0 t0))) := by kernel_rfl
  have l1 := hl 2
  have l2 := hl 0
  have l3 : (hereL g b 2 0).length ≤ 3 := Nat.le_trans (List.length_filter_le _ _) l1
  have l4 : (thereL g b 2 0).length ≤ 3 := Nat.le_trans (List.length_filter_le _ _) l2
  rw [hb0, Option.bind_some, run_all, run_next (here20b g b t h0 t0 hl h5), run_next (there20b g b t _ t0 hl h5)]
  have e1 : evE T0 (asgE (stN (forB V35) 2)) S35 (allV (σ35 g b (tu t (nI 2) (v3 (nI 0) (.list ((hereL g b 2 0).map nI)) (.list ((thereL g b 2 0).map nI)))))) =
      (binD .Add (.list ((hereL g b 2 0).map nI)) (.list ((thereL g b 2 0).map nI))).bind fun a => (cmpD .Eq a (.list [])).bind fun c => some (.bool c) := by kernel_rfl
  rw [addD_list (by rw [List.length_map, List.length_map]; lia), Option.bind_some, ← List.map_append, lists_empty, Option.bind_some, chk_is] at e1
  rw [run_next (evS_two (by kernel_rfl) e1 rfl (σ' := σ35 g { b with p := chk g b 2 0 } (tu t (nI 2) (v3 (nI 0) (.list ((hereL g b 2 0).map nI)) (.list ((thereL g b 2 0).map nI))))) (by kernel_rfl)), run_end (by kernel_rfl)]
end

section
variable (g : Nat → List Nat) (b : B4) (t h h0 t0 v0 : D)
theorem here_el31a : five.map (fun q => compF T0 (cmpR (ifX HE)) ((tgX HE, nI q.1) :: allV (σ35 g b (tu t (nI 3) (v1 (nI 1))))) (nI q.2)) = five.map fun q => some (some (.bool (mat b q.1 q.2))) := by kernel_rfl
theorem there_el31a : five.map (fun q => compF T0 (cmpR (ifX TE')) ((tgX TE', nI q.2) :: allV (σ35 g b (tu t (nI 3) (v2 (nI 1) h)))) (nI q.1)) = five.map fun q => some (some (.bool (mat b q.1 q.2))) := by kernel_rfl
theorem here31a (hl : ∀ k, (g k).length ≤ 3) (h5 : ∀ k x, x ∈ g k → x < 5) : evS T0 (stN (forB V35) 0) S35 (σ35 g b (tu t (nI 3) (v1 (nI 1)))) = some (.next, σ35 g b (tu t (nI 3) (v2 (nI 1) (.list ((hereL g b 3 1).map nI))))) := by
  have hv : evE T0 HE S35 (allV (σ35 g b (tu t (nI 3) (v1 (nI 1))))) = some (.list ((hereL g b 3 1).map nI)) :=
    notin_value (ys := g 1) (m := fun s t => mat b s t) (by kernel_rfl) (by kernel_rfl) (by kernel_rfl) (by kernel_rfl) (by kernel_rfl) (by kernel_rfl) (by kernel_rfl) (by kernel_rfl) (by have := hl 3; lia) (by have := hl 1; lia)
      (fun d => by kernel_rfl) (fun d => by kernel_rfl) fun s hs t' ht => List.map_inj_left.mp (here_el31a g b t ) _ (mem_five (h5 _ _ hs) (h5 _ _ ht))
  have hw : ∀ d', evE T0 HE S35 (coldV (σ35 g b (tu t (nI 3) (v1 (nI 1))))) = some d' → evE T0 HE S35 (allV (σ35 g b (tu t (nI 3) (v1 (nI 1))))) = some d' :=
    notin_weaken (by kernel_rfl) (by kernel_rfl) (by kernel_rfl) (by kernel_rfl) (fun d => by kernel_rfl) (fun d d' => by kernel_rfl) (fun d => by kernel_rfl) (fun d => by kernel_rfl)
  exact evS_flat (st := stN (forB V35) 0) (x := sO "here") (by kernel_rfl) (by kernel_rfl) hv (flat_ints _) hw
theorem there31a (hl : ∀ k, (g k).length ≤ 3) (h5 : ∀ k x, x ∈ g k → x < 5) : evS T0 (stN (forB V35) 1) S35 (σ35 g b (tu t (nI 3) (v2 (nI 1) h))) = some (.next, σ35 g b (tu t (nI 3) (v3 (nI 1) h (.list ((thereL g b 3 1).map nI))))) := by
  have hv : evE T0 TE' S35 (allV (σ35 g b (tu t (nI 3) (v2 (nI 1) h)))) = some (.list ((thereL g b 3 1).map nI)) :=
    notin_value (ys := g 3) (m := fun t s => mat b s t) (by kernel_rfl) (by kernel_rfl) (by kernel_rfl) (by kernel_rfl) (by kernel_rfl) (by kernel_rfl) (by kernel_rfl) (by kernel_rfl) (by have := hl 1; lia) (by have := hl 3; lia)
      (fun d => by kernel_rfl) (fun d => by kernel_rfl) fun s hs t' ht => List.map_inj_left.mp (there_el31a g b t h ) _ (mem_five (h5 _ _ ht) (h5 _ _ hs))
  have hw : ∀ d', evE T0 TE' S35 (coldV (σ35 g b (tu t (nI 3) (v2 (nI 1) h)))) = some d' → evE T0 TE' S35 (allV (σ35 g b (tu t (nI 3) (v2 (nI 1) h)))) = some d' :=
    notin_weaken (by kernel_rfl) (by kernel_rfl) (by kernel_rfl) (by kernel_rfl) (fun d => by kernel_rfl) (fun d d' => by kernel_rfl) (fun d => by kernel_rfl) (fun d => by kernel_rfl)
  exact evS_flat (st := stN (forB V35) 1) (x := sO "there") (by kernel_rfl) (by kernel_rfl) hv (flat_ints _) hw
theorem pair31a (hl : ∀ k, (g k).length ≤ 3) (h5 : ∀ k x, x ∈ g k → x < 5) : ∃ h w, turn35 (nI 1) (σ35 g b (tu t (nI 3) [])) = some (.next, σ35 g { b with s := chk g b 3 1 } (tu t (nI 3) (v3 (nI 1) h w))) := by
  refine ⟨.list ((hereL g b 3 1).map nI), .list ((thereL g b 3 1).map nI), ?_⟩
  unfold turn35
  have hb0 : bindS (forT V35) (nI 1) (σ35 g b (tu t (nI 3) [])) = some (σ35 g b (tu t (nI 3) (v1 (nI 1)))) := by kernel_rfl
  have l1 := hl 3
  have l2 := hl 1
  have l3 : (hereL g b 3 1).length ≤ 3 := Nat.le_trans (List.length_filter_le _ _) l1
  have l4 : (thereL g b 3 1).length ≤ 3 := Nat.le_trans (List.length_filter_le _ _) l2
  rw [hb0, Option.bind_some, run_all, run_next (here31a g b t hl h5), run_next (there31a g b t _ hl h5)]
  have e1 : evE T0 (asgE (stN (forB V35) 2)) S35 (allV (σ35 g b (tu t (nI 3) (v3 (nI 1) (.list ((hereL g b 3 1).map nI)) (.list ((thereL g b 3 1).map nI)))))) =
      (binD .Add (.list ((hereL g b 3 1).map nI)) (.list ((thereL g b 3 1).map nI))).bind fun a => (cmpD .Eq a (.list [])).bind fun c => some (.bool c) := by kernel_rfl
  rw [addD_list (by rw [List.length_map, List.length_map]; lia), Option.bind_some, ← List.map_append, lists_empty, Option.bind_some, chk_is] at e1
  rw [run_next (evS_two (by kernel_rfl) e1 rfl (σ' := σ35 g { b with s := chk g b 3 1 } (tu t (nI 3) (v3 (nI 1) (.list ((hereL g b 3 1).map nI)) (.list ((thereL g b 3 1).map nI))))) (by kernel_rfl)), run_end (by kernel_rfl)]
end

section
variable (g : Nat → List Nat) (b : B4) (t h h0 t0 v0 : D)
theorem here_el31b : five.map (fun q => compF T0 (cmpR (ifX HE)) ((tgX HE, nI q.1) :: allV (σ35 g b (tu t (nI 3) (v3 (nI 1) h0 t0)))) (nI q.2)) = five.map fun q => some (some (.bool (mat b q.1 q.2))) := by kernel_rfl
theorem there_el31b : five.map (fun q => compF T0 (cmpR (ifX TE')) ((tgX TE', nI q.2) :: allV (σ35 g b (tu t (nI 3) (v3 (nI 1) h t0)))) (nI q.1)) = five.map fun q => some (some (.bool (mat b q.1 q.2))) := by kernel_rfl
theorem here31b (hl : ∀ k, (g k).length ≤ 3) (h5 : ∀ k x, x ∈ g k → x < 5) : evS T0 (stN (forB V35) 0) S35 (σ35 g b (tu t (nI 3) (v3 (nI 1) h0 t0))) = some (.next, σ35 g b (tu t (nI 3) (v3 (nI 1) (.list ((hereL g b 3 1).map nI)) t0))) := by
  have hv : evE T0 HE S35 (allV (σ35 g b (tu t (nI 3) (v3 (nI 1) h0 t0)))) = some (.list ((hereL g b 3 1).map nI)) :=
    notin_value (ys := g 1) (m := fun s t => mat b s t) (by kernel_rfl) (by kernel_rfl) (by kernel_rfl) (by kernel_rfl) (by kernel_rfl) (by kernel_rfl) (by kernel_rfl) (by kernel_rfl) (by have := hl 3; lia) (by have := hl 1; lia)
      (fun d => by kernel_rfl) (fun d => by kernel_rfl) fun s hs t' ht => List.map_inj_left.mp (here_el31b g b t h0 t0) _ (mem_five (h5 _ _ hs) (h5 _ _ ht))
  have hw : ∀ d', evE T0 HE S35 (coldV (σ35 g b (tu t (nI 3) (v3 (nI 1) h0 t0)))) = some d' → evE T0 HE S35 (allV (σ35 g b (tu t (nI 3) (v3 (nI 1) h0 t0)))) = some d' :=
    notin_weaken (by kernel_rfl) (by kernel_rfl) (by kernel_rfl) (by kernel_rfl) (fun d => by kernel_rfl) (fun d d' => by kernel_rfl) (fun d => by kernel_rfl) (fun d => by kernel_rfl)
  exact evS_flat (st := stN (forB V35) 0) (x := sO "here") (by kernel_rfl) (by kernel_rfl) hv (flat_ints _) hw
theorem there31b (hl : ∀ k, (g k).length ≤ 3) (h5 : ∀ k x, x ∈ g k → x < 5) : evS T0 (stN (forB V35) 1) S35 (σ35 g b (tu t (nI 3) (v3 (nI 1) h t0))) = some (.next, σ35 g b (tu t (nI 3) (v3 (nI 1) h (.list ((thereL g b 3 1).map nI))))) := by
  have hv : evE T0 TE' S35 (allV (σ35 g b (tu t (nI 3) (v3 (nI 1) h t0)))) = some (.list ((thereL g b 3 1).map nI)) :=
    notin_value (ys := g 3) (m := fun t s => mat b s t) (by kernel_rfl) (by kernel_rfl) (by kernel_rfl) (by kernel_rfl) (by kernel_rfl) (by kernel_rfl) (by kernel_rfl) (by kernel_rfl) (by have := hl 1; lia) (by have := hl 3; lia)
      (fun d => by kernel_rfl) (fun d => by kernel_rfl) fun s hs t' ht => List.map_inj_left.mp (there_el31b g b t h t0) _ (mem_five (h5 _ _ ht) (h5 _ _ hs))
  have hw : ∀ d', evE T0 TE' S35 (coldV (σ35 g b (tu t (nI 3) (v3 (nI 1) h t0)))) = some d' → evE T0 TE' S35 (allV (σ35 g b (tu t (nI 3) (v3 (nI 1) h t0)))) = some d' :=
    notin_weaken (by kernel_rfl) (by kernel_rfl) (by kernel_rfl) (by kernel_rfl) (fun d => by kernel_rfl) (fun d d' => by kernel_rfl) (fun d => by kernel_rfl) (fun d => by kernel_rfl)
  exact evS_flat (st := stN (forB V35) 1) (x := sO "there") (by kernel_rfl) (by kernel_rfl) hv (flat_ints _) hw
theorem pair31b (hl : ∀ k, (g k).length ≤ 3) (h5 : ∀ k x, x ∈ g k → x < 5) : ∃ h w, turn35 (nI 1) (σ35 g b (tu t (nI 3) (v3 v0 h0 t0))) = some (.next, σ35 g { b with s := chk g b 3 1 } (tu t (nI 3) (v3 (nI 1) h w))) := by
  refine ⟨.list ((hereL g b 3 1).map nI), .list ((thereL g b 3 1).map nI), ?_⟩
  unfold turn35
  have hb0 : bindS (forT V35) (nI 1) (σ35 g b (tu t (nI 3) (v3 v0 h0 t0))) = some (σ35 g b (tu t (nI 3) (v3 (nI 1) h0 t0))) := by kernel_rfl
  have l1 := hl 3
  have l2 := hl 1
  have l3 : (hereL g b 3 1).length ≤ 3 := Nat.le_trans (List.length_filter_le _ _) l1
  have l4 : (thereL g b 3 1).length ≤ 3 := Nat.le_trans (List.length_filter_le _ _) l2
  rw [hb0, Option.bind_some, run_all, run_next (here31b g b t h0 t0 hl h5), run_next (there31b g b t _ t0 hl h5)]
  have e1 : evE T0 (asgE (stN (forB V35) 2)) S35 (allV (σ35 g b (tu t (nI 3) (v3 (nI 1) (.list ((hereL g b 3 1).map nI)) (.list ((thereL g b 3 1).map nI)))))) =
      (binD .Add (.list ((hereL g b 3 1).map nI)) (.list ((thereL g b 3 1).map nI))).bind fun a => (cmpD .Eq a (.list [])).bind fun c => some (.bool c) := by kernel_rfl
  rw [addD_list (by rw [List.length_map, List.length_map]; lia), Option.bind_some, ← List.map_append, lists_empty, Option.bind_some, chk_is] at e1
  rw [run_next (evS_two (by kernel_rfl) e1 rfl (σ' := σ35 g { b with s := chk g b 3 1 } (tu t (nI 3) (v3 (nI 1) (.list ((hereL g b 3 1).map nI)) (.list ((thereL g b 3 1).map nI))))) (by kernel_rfl)), run_end (by kernel_rfl)]
end

section
variable (g : Nat → List Nat) (b : B4) (t h h0 t0 v0 : D)
theorem here_el40a : five.map (fun q => compF T0 (cmpR (ifX HE)) ((tgX HE, nI q.1) :: allV (σ35 g b (tu t (nI 4) (v1 (nI 0))))) (nI q.2)) = five.map fun q => some (some (.bool (mat b q.1 q.2))) := by kernel_rfl
theorem there_el40a : five.map (fun q => compF T0 (cmpR (ifX TE')) ((tgX TE', nI q.2) :: allV (σ35 g b (tu t (nI 4) (v2 (nI 0) h)))) (nI q.1)) = five.map fun q => some (some (.bool (mat b q.1 q.2))) := by kernel_rfl
theorem here40a (hl : ∀ k, (g k).length ≤ 3) (h5 : ∀ k x, x ∈ g k → x < 5) : evS T0 (stN (forB V35) 0) S35 (σ35 g b (tu t (nI 4) (v1 (nI 0)))) = some (.next, σ35 g b (tu t (nI 4) (v2 (nI 0) (.list ((hereL g b 4 0).map nI))))) := by
  have hv : evE T0 HE S35 (allV (σ35 g b (tu t (nI 4) (v1 (nI 0))))) = some (.list ((hereL g b 4 0).map nI)) :=
    notin_value (ys := g 0) (m := fun s t => mat b s t) (by kernel_rfl) (by kernel_rfl) (by kernel_rfl) (by kernel_rfl) (by kernel_rfl) (by kernel_rfl) (by kernel_rfl) (by kernel_rfl) (by have := hl 4; lia) (by have := hl 0; lia)
      (fun d => by kernel_rfl) (fun d => by kernel_rfl) fun s hs t' ht => List.map_inj_left.mp (here_el40a g b t ) _ (mem_five (h5 _ _ hs) (h5 _ _ ht))
  have hw : ∀ d', evE T0 HE S35 (coldV (σ35 g b (tu t (nI 4) (v1 (nI 0))))) = some d' → evE T0 HE S35 (allV (σ35 g b (tu t (nI 4) (v1 (nI 0))))) = some d' :=
    notin_weaken (by kernel_rfl) (by kernel_rfl) (by kernel_rfl) (by kernel_rfl) (fun d => by kernel_rfl) (fun d d' => by kernel_rfl) (fun d => by kernel_rfl) (fun d => by kernel_rfl)
  exact evS_flat (st := stN (forB V35) 0) (x := sO "here") (by kernel_rfl) (by kernel_rfl) hv (flat_ints _) hw
theorem there40a (hl : ∀ k, (g k).length ≤ 3) (h5 : ∀ k x, x ∈ g k → x < 5) : evS T0 (stN (forB V35) 1) S35 (σ35 g b (tu t (nI 4) (v2 (nI 0) h))) = some (.next, σ35 g b (tu t (nI 4) (v3 (nI 0) h (.list ((thereL g b 4 0).map nI))))) := by
  have hv : evE T0 TE' S35 (allV (σ35 g b (tu t (nI 4) (v2 (nI 0) h)))) = some (.list ((thereL g b 4 0).map nI)) :=
    notin_value (ys := g 4) (m := fun t s => mat b s t) (by kernel_rfl) (by kernel_rfl) (by kernel_rfl) (by kernel_rfl) (by kernel_rfl) (by kernel_rfl) (by kernel_rfl) (by kernel_rfl) (by have := hl 0; lia) (by have := hl 4; lia)
      (fun d => by kernel_rfl) (fun d => by kernel_rfl) fun s hs t' ht => List.map_inj_left.mp (there_el40a g b t h ) _ (mem_five (h5 _ _ ht) (h5 _ _ hs))
  have hw : ∀ d', evE T0 TE' S35 (coldV (σ35 g b (tu t (nI 4) (v2 (nI 0) h)))) = some d' → evE T0 TE' S35 (allV (σ35 g b (tu t (nI 4) (v2 (nI 0) h)))) = some d' :=
    notin_weaken (by kernel_rfl) (by kernel_rfl) (by kernel_rfl) (by kernel_rfl) (fun d => by kernel_rfl) (fun d d' => by kernel_rfl) (fun d => by kernel_rfl) (fun d => by kernel_rfl)
  exact evS_flat (st := stN (forB V35) 1) (x := sO "there") (by kernel_rfl) (by kernel_rfl) hv (flat_ints _) hw
theorem pair40a (hl : ∀ k, (g k).length ≤ 3) (h5 : ∀ k x, x ∈ g k → x < 5) : ∃ h w, turn35 (nI 0) (σ35 g b (tu t (nI 4) [])) = some (.next, σ35 g { b with q := chk g b 4 0 } (tu t (nI 4) (v3 (nI 0) h w))) := by
  refine ⟨.list ((hereL g b 4 0).map nI), .list ((thereL g b 4 0).map nI), ?_⟩
  unfold turn35
  have hb0 : bindS (forT V35) (nI 0) (σ35 g b (tu t (nI 4) [])) = some (σ35 g b (tu t (nI 4) (v1 (nI 0)))) := by kernel_rfl
  have l1 := hl 4
  have l2 := hl 0
  have l3 : (hereL g b 4 0).length ≤ 3 := Nat.le_trans (List.length_filter_le _ _) l1
  have l4 : (thereL g b 4 0).length ≤ 3 := Nat.le_trans (List.length_filter_le _ _) l2
  rw [hb0, Option.bind_some, run_all, run_next (here40a g b t hl h5), run_next (there40a g b t _ hl h5)]
  have e1 : evE T0 (asgE (stN (forB V35) 2)) S35 (allV (σ35 g b (tu t (nI 4) (v3 (nI 0) (.list ((hereL g b 4 0).map nI)) (.list ((thereL g b 4 0).map nI)))))) =
      (binD .Add (.list ((hereL g b 4 0).map nI)) (.list ((thereL g b 4 0).map nI))).bind fun a => (cmpD .Eq a (.list [])).bind fun c => some (.bool c) := by kernel_rfl
  rw [addD_list (by rw [List.length_map, List.length_map]; lia), Option.bind_some, ← List.map_append, lists_empty, Option.bind_some, chk_is] at e1
  rw [run_next (evS_two (by kernel_rfl) e1 rfl (σ' := σ35 g { b with q := chk g b 4 0 } (tu t (nI 4) (v3 (nI 0) (.list ((hereL g b 4 0).map nI)) (.list ((thereL g b 4 0).map nI))))) (by kernel_rfl)), run_end (by kernel_rfl)]
end

section
variable (g : Nat → List Nat) (b : B4) (t h h0 t0 v0 : D)
theorem here_el40b : five.map (fun q => compF T0 (cmpR (ifX HE)) ((tgX HE, nI q.1) :: allV (σ35 g b (tu t (nI 4) (v3 (nI 0) h0 t0)))) (nI q.2)) = five.map fun q => some (some (.bool (mat b q.1 q.2))) := by kernel_rfl
theorem there_el40b : five.map (fun q => compF T0 (cmpR (ifX TE')) ((tgX TE', nI q.2) :: allV (σ35 g b (tu t (nI 4) (v3 (nI 0) h t0)))) (nI q.1)) = five.map fun q => some (some (.bool (mat b q.1 q.2))) := by kernel_rfl
theorem here40b (hl : ∀ k, (g k).length ≤ 3) (h5 : ∀ k x, x ∈ g k → x < 5) : evS T0 (stN (forB V35) 0) S35 (σ35 g b (tu t (nI 4) (v3 (nI 0) h0 t0))) = some (.next, σ35 g b (tu t (nI 4) (v3 (nI 0) (.list ((hereL g b 4 0).map nI)) t0))) := by
  have hv : evE T0 HE S35 (allV (σ35 g b (tu t (nI 4) (v3 (nI 0) h0 t0)))) = some (.list ((hereL g b 4 0).map nI)) :=
    notin_value (ys := g 0) (m := fun s t => mat b s t) (by kernel_rfl) (by kernel_rfl) (by kernel_rfl) (by kernel_rfl) (by kernel_rfl) (by kernel_rfl) (by kernel_rfl) (by kernel_rfl) (by have := hl 4; lia) (by have := hl 0; lia)
      (fun d => by kernel_rfl) (fun d => by kernel_rfl) fun s hs t' ht => List.map_inj_left.mp (here_el40b g b t h0 t0) _ (mem_five (h5 _ _ hs) (h5 _ _ ht))
  have hw : ∀ d', evE T0 HE S35 (coldV (σ35 g b (tu t (nI 4) (v3 (nI 0) h0 t0)))) = some d' → evE T0 HE S35 (allV (σ35 g b (tu t (nI 4) (v3 (nI 0) h0 t0)))) = some d' :=
    notin_weaken (by kernel_rfl) (by kernel_rfl) (by kernel_rfl) (by kernel_rfl) (fun d => by kernel_rfl) (fun d d' => by kernel_rfl) (fun d => by kernel_rfl) (fun d => by kernel_rfl)
  exact evS_flat (st := stN (forB V35) 0) (x := sO "here") (by kernel_rfl) (by kernel_rfl) hv (flat_ints _) hw
theorem there40b (hl : ∀ k, (g k).length ≤ 3) (h5 : ∀ k x, x ∈ g k → x < 5) : evS T0 (stN (forB V35) 1) S35 (σ35 g b (tu t (nI 4) (v3 (nI 0) h t0))) = some (.next, σ35 g b (tu t (nI 4) (v3 (nI 0) h (.list ((thereL g b 4 0).map nI))))) := by
  have hv : evE T0 TE' S35 (allV (σ35 g b (tu t (nI 4) (v3 (nI 0) h t0)))) = some (.list ((thereL g b 4 0).map nI)) :=
    notin_value (ys := g 4) (m := fun t s => mat b s t) (by kernel_rfl) (by kernel_rfl) (by kernel_rfl) (by kernel_rfl) (by kernel_rfl) (by kernel_rfl) (by kernel_rfl) (by kernel_rfl) (by have := hl 0; lia) (by have := hl 4; lia)
      (fun d => by kernel_rfl) (fun d => by kernel_rfl) fun s hs t' ht => List.map_inj_left.mp (there_el40b g b t h t0) _ (mem_five (h5 _ _ ht) (h5 _ _ hs))
  have hw : ∀ d', evE T0 TE' S35 (coldV (σ35 g b (tu t (nI 4) (v3 (nI 0) h t0)))) = some d' → evE T0 TE' S35 (allV (σ35 g b (tu t (nI 4) (v3 (nI 0) h t0)))) = some d' :=
    notin_weaken (by kernel_rfl) (by kernel_rfl) (by kernel_rfl) (by kernel_rfl) (fun d => by kernel_rfl) (fun d d' => by kernel_rfl) (fun d => by kernel_rfl) (fun d => by kernel_rfl)
  exact evS_flat (st := stN (forB V35) 1) (x := sO "there") (by kernel_rfl) (by kernel_rfl) hv (flat_ints _) hw
theorem pair40b (hl : ∀ k, (g k).length ≤ 3) (h5 : ∀ k x, x ∈ g k → x < 5) : ∃ h w, turn35 (nI 0) (σ35 g b (tu t (nI 4) (v3 v0 h0 t0))) = some (.next, σ35 g { b with q := chk g b 4 0 } (tu t (nI 4) (v3 (nI 0) h w))) := by
  refine ⟨.list ((hereL g b 4 0).map nI), .list ((thereL g b 4 0).map nI), ?_⟩
  unfold turn35
  have hb0 : bindS (forT V35) (nI 0) (σ35 g b (tu t (nI 4) (v3 v0 h0 t0))) = some (σ35 g b (tu t (nI 4) (v3 (nI 0) h0 t0))) := by kernel_rfl
  have l1 := hl 4
  have l2 := hl 0
  have l3 : (hereL g b 4 0).length ≤ 3 := Nat.le_trans (List.length_filter_le _ _) l1
  have l4 : (thereL g b 4 0).length ≤ 3 := Nat.le_trans (List.length_filter_le _ _) l2
  rw [hb0, Option.bind_some, run_all, run_next (here40b g b t h0 t0 hl h5), run_next (there40b g b t _ t0 hl h5)]
  have e1 : evE T0 (asgE (stN (forB V35) 2)) S35 (allV (σ35 g b (tu t (nI 4) (v3 (nI 0) (.list ((hereL g b 4 0).map nI)) (.list ((thereL g b 4 0).map nI)))))) =
      (binD .Add (.list ((hereL g b 4 0).map nI)) (.list ((thereL g b 4 0).map nI))).bind fun a => (cmpD .Eq a (.list [])).bind fun c => some (.bool c) := by kernel_rfl
  rw [addD_list (by rw [List.length_map, List.length_map]; lia), Option.bind_some, ← List.map_append, lists_empty, Option.bind_some, chk_is] at e1
  rw [run_next (evS_two (by kernel_rfl) e1 rfl (σ' := σ35 g { b with q := chk g b 4 0 } (tu t (nI 4) (v3 (nI 0) (.list ((hereL g b 4 0).map nI)) (.list ((thereL g b 4 0).map nI))))) (by kernel_rfl)), run_end (by kernel_rfl)]
end

section
variable (g : Nat → List Nat) (b : B4) (t h h0 t0 v0 : D)
theorem here_el42a : five.map (fun q => compF T0 (cmpR (ifX HE)) ((tgX HE, nI q.1) :: allV (σ35 g b (tu t (nI 4) (v1 (nI 2))))) (nI q.2)) = five.map fun q => some (some (.bool (mat b q.1 q.2))) := by kernel_rfl
theorem there_el42a : five.map (fun q => compF T0 (cmpR (ifX TE')) ((tgX TE', nI q.2) :: allV (σ35 g b (tu t (nI 4) (v2 (nI 2) h)))) (nI q.1)) = five.map fun q => some (some (.bool (mat b q.1 q.2))) := by kernel_rfl
theorem here42a (hl : ∀ k, (g k).length ≤ 3) (h5 : ∀ k x, x ∈ g k → x < 5) : evS T0 (stN (forB V35) 0) S35 (σ35 g b (tu t (nI 4) (v1 (nI 2)))) = some (.next, σ35 g b (tu t (nI 4) (v2 (nI 2) (.list ((hereL g b 4 2).map nI))))) := by
  have hv : evE T0 HE S35 (allV (σ35 g b (tu t (nI 4) (v1 (nI 2))))) = some (.list ((hereL g b 4 2).map nI)) :=
    notin_value (ys := g 2) (m := fun s t => mat b s t) (by kernel_rfl) (by kernel_rfl) (by kernel_rfl) (by kernel_rfl) (by kernel_rfl) (by kernel_rfl) (by kernel_rfl) (by kernel_rfl) (by have := hl 4; lia) (by have := hl 2; lia)
      (fun d => by kernel_rfl) (fun d => by kernel_rfl) fun s hs t' ht => List.map_inj_left.mp (here_el42a g b t ) _ (mem_five (h5 _ _ hs) (h5 _ _ ht))
  have hw : ∀ d', evE T0 HE S35 (coldV (σ35 g b (tu t (nI 4) (v1 (nI 2))))) = some d' → evE T0 HE S35 (allV (σ35 g b (tu t (nI 4) (v1 (nI 2))))) = some d' :=
    notin_weaken (by kernel_rfl) (by kernel_rfl) (by kernel_rfl) (by kernel_rfl) (fun d => by kernel_rfl) (fun d d' => by kernel_rfl) (fun d => by kernel_rfl) (fun d => by kernel_rfl)
  exact evS_flat (st := stN (forB V35) 0) (x := sO "here") (by kernel_rfl) (by kernel_rfl) hv (flat_ints _) hw
theorem there42a (hl : ∀ k, (g k).length ≤ 3) (h5 : ∀ k x, x ∈ g k → x < 5) : evS T0 (stN (forB V35) 1) S35 (σ35 g b (tu t (nI 4) (v2 (nI 2) h))) = some (.next, σ35 g b (tu t (nI 4) (v3 (nI 2) h (.list ((thereL g b 4 2).map nI))))) := by
  have hv : evE T0 TE' S35 (allV (σ35 g b (tu t (nI 4) (v2 (nI 2) h)))) = some (.list ((thereL g b 4 2).map nI)) :=
    notin_value (ys := g 4) (m := fun t s => mat b s t) (by kernel_rfl) (by kernel_rfl) (by kernel_rfl) (by kernel_rfl) (by kernel_rfl) (by kernel_rfl) (by kernel_rfl) (by kernel_rfl) (by have := hl 2; lia) (by have := hl 4; lia)
      (fun d => by kernel_rfl) (fun d => by kernel_rfl) fun s hs t' ht => List.map_inj_left.mp (there_el42a g b t h ) _ (mem_five (h5 _ _ ht) (h5 _ _ hs))
  have hw : ∀ d', evE T0 TE' S35 (coldV (σ35 g b (tu t (nI 4) (v2 (nI 2) h)))) = some d' → evE T0 TE' S35 (allV (σ35 g b (tu t (nI 4) (v2 (nI 2) h)))) = some d' :=
    notin_weaken (by kernel_rfl) (by kernel_rfl) (by kernel_rfl) (by kernel_rfl) (fun d => by kernel_rfl) (fun d d' => by kernel_rfl) (fun d => by kernel_rfl) (fun d => by kernel_rfl)
  exact evS_flat (st := stN (forB V35) 1) (x := sO "there") (by kernel_rfl) (by kernel_rfl) hv (flat_ints _) hw
theorem pair42a (hl : ∀ k, (g k).length ≤ 3) (h5 : ∀ k x, x ∈ g k → x < 5) : ∃ h w, turn35 (nI 2) (σ35 g b (tu t (nI 4) [])) = some (.next, σ35 g { b with r := chk g b 4 2 } (tu t (nI 4) (v3 (nI 2) h w))) := by
  refine ⟨.list ((hereL g b 4 2).map nI), .list ((thereL g b 4 2).map nI), ?_⟩
  unfold turn35
  have hb0 : bindS (forT V35) (nI 2) (σ35 g b (tu t (nI 4) [])) = some (σ35 g b (tu t (nI 4) (v1 (nI 2)))) := by kernel_rfl
  have l1 := hl 4
  have l2 := hl 2
  have l3 : (hereL g b 4 2).length ≤ 3 := Nat.le_trans (List.length_filter_le _ _) l1
  have l4 : (thereL g b 4 2).length ≤ 3 := Nat.le_trans (List.length_filter_le _ _) l2
  rw [hb0, Option.bind_some, run_all, run_next (here42a g b t hl h5), run_next (there42a g b t _ hl h5)]
  have e1 : evE T0 (asgE (stN (forB V35) 2)) S35 (allV (σ35 g b (tu t (nI 4) (v3 (nI 2) (.list ((hereL g b 4 2).map nI)) (.list ((thereL g b 4 2).map nI)))))) =
      (binD .Add (.list ((hereL g b 4 2).map nI)) (.list ((thereL g b 4 2).map nI))).bind fun a => (cmpD .Eq a (.list [])).bind fun c => some (.bool c) := by kernel_rfl
  rw [addD_list (by rw [List.length_map, List.length_map]; lia), Option.bind_some, ← List.map_append, lists_empty, Option.bind_some, chk_is] at e1
  rw [run_next (evS_two (by kernel_rfl) e1 rfl (σ' := σ35 g { b with r := chk g b 4 2 } (tu t (nI 4) (v3 (nI 2) (.list ((hereL g b 4 2).map nI)) (.list ((thereL g b 4 2).map nI))))) (by kernel_rfl)), run_end (by kernel_rfl)]
end

section
variable (g : Nat → List Nat) (b : B4) (t h h0 t0 v0 : D)
theorem here_el42b : five.map (fun q => compF T0 (cmpR (ifX HE)) ((tgX HE, nI q.1) :: allV (σ35 g b (tu t (nI 4) (v3 (nI 2) h0 t0)))) (nI q.2)) = five.map fun q => some (some (.bool (mat b q.1 q.2))) := by kernel_rfl
theorem there_el42b : five.map (fun q => compF T0 (cmpR (ifX TE')) ((tgX TE', nI q.2) :: allV (σ35 g b (tu t (nI 4) (v3 (nI 2) h t0)))) (nI q.1)) = five.map fun q => some (some (.bool (mat b q.1 q.2))) := by kernel_rfl
theorem here42b (hl : ∀ k, (g k).length ≤ 3) (h5 : ∀ k x, x ∈ g k → x < 5) : evS T0 (stN (forB V35) 0) S35 (σ35 g b (tu t (nI 4) (v3 (nI 2) h0 t0))) = some (.next, σ35 g b (tu t (nI 4) (v3 (nI 2) (.list ((hereL g b 4 2).map nI)) t0))) := by
  have hv : evE T0 HE S35 (allV (σ35 g b (tu t (nI 4) (v3 (nI 2) h0 t0)))) = some (.list ((hereL g b 4 2).map nI)) :=
    notin_value (ys := g 2) (m := fun s t => mat b s t) (by kernel_rfl) (by kernel_rfl) (by kernel_rfl) (by kernel_rfl) (by kernel_rfl) (by kernel_rfl) (by kernel_rfl) (by kernel_rfl) (by have := hl 4; lia) (by have := hl 2; lia)
      (fun d => by kernel_rfl) (fun d => by kernel_rfl) fun s hs t' ht => List.map_inj_left.mp (here_el42b g b t h0 t0) _ (mem_five (h5 _ _ hs) (h5 _ _ ht))
  have hw : ∀ d', evE T0 HE S35 (coldV (σ35 g b (tu t (nI 4) (v3 (nI 2) h0 t0)))) = some d' → evE T0 HE S35 (allV (σ35 g b (tu t (nI 4) (v3 (nI 2) h0 t0)))) = some d' :=
    notin_weaken (by kernel_rfl) (by kernel_rfl) (by kernel_rfl) (by kernel_rfl) (fun d => by kernel_rfl) (fun d d' => by kernel_rfl) (fun d => by kernel_rfl) (fun d => by kernel_rfl)
  exact evS_flat (st := stN (forB V35) 0) (x := sO "here") (by kernel_rfl) (by kernel_rfl) hv (flat_ints _) hw
theorem there42b (hl : ∀ k, (g k).length ≤ 3) (h5 : ∀ k x, x ∈ g k → x < 5) : evS T0 (stN (forB V35) 1) S35 (σ35 g b (tu t (nI 4) (v3 (nI 2) h t0))) = some (.next, σ35 g b (tu t (nI 4) (v3 (nI 2) h (.list ((thereL g b 4 2).map nI))))) := by
  have hv : evE T0 TE' S35 (allV (σ35 g b (tu t (nI 4) (v3 (nI 2) h t0)))) = some (.list ((thereL g b 4 2).map nI)) :=
    notin_value (ys := g 4) (m := fun t s => mat b s t) (by kernel_rfl) (by kernel_rfl) (by kernel_rfl) (by kernel_rfl) (by kernel_rfl) (by kernel_rfl) (by kernel_rfl) (by kernel_rfl) (by have := hl 2; lia) (by have := hl 4; lia)
      (fun d => by kernel_rfl) (fun d => by kernel_rfl) fun s hs t' ht => List.map_inj_left.mp (there_el42b g b t h t0) _ (mem_five (h5 _ _ ht) (h5 _ _ hs))
  have hw : ∀ d', evE T0 TE' S35 (coldV (σ35 g b (tu t (nI 4) (v3 (nI 2) h t0)))) = some d' → evE T0 TE' S35 (allV (σ35 g b (tu t (nI 4) (v3 (nI 2) h t0)))) = some d' :=
    notin_weaken (by kernel_rfl) (by kernel_rfl) (by kernel_rfl) (by kernel_rfl) (fun d => by kernel_rfl) (fun d d' => by kernel_rfl) (fun d => by kernel_rfl) (fun d => by kernel_rfl)
  exact evS_flat (st := stN (forB V35) 1) (x := sO "there") (by kernel_rfl) (by kernel_rfl) hv (flat_ints _) hw
theorem pair42b (hl : ∀ k, (g k).length ≤ 3) (h5 : ∀ k x, x ∈ g k → x < 5) : ∃ h w, turn35 (nI 2) (σ35 g b (tu t (nI 4) (v3 v0 h0 t0))) = some (.next, σ35 g { b with r := chk g b 4 2 } (tu t (nI 4) (v3 (nI 2) h w))) := by
  refine ⟨.list ((hereL g b 4 2).map nI), .list ((thereL g b 4 2).map nI), ?_⟩
  unfold turn35
  have hb0 : bindS (forT V35) (nI 2) (σ35 g b (tu t (nI 4) (v3 v0 h0 t0))) = some (σ35 g b (tu t (nI 4) (v3 (nI 2) h0 t0))) := by kernel_rfl
  have l1 := hl 4
  have l2 := hl 2
  have l3 : (hereL g b 4 2).length ≤ 3 := Nat.le_trans (List.length_filter_le _ _) l1
  have l4 : (thereL g b 4 2).length ≤ 3 := Nat.le_trans (List.length_filter_le _ _) l2
  rw [hb0, Option.bind_some, run_all, run_next (here42b g b t h0 t0 hl h5), run_next (there42b g b t _ t0 hl h5)]
  have e1 : evE T0 (asgE (stN (forB V35) 2)) S35 (allV (σ35 g b (tu t (nI 4) (v3 (nI 2) (.list ((hereL g b 4 2).map nI)) (.list ((thereL g b 4 2).map nI)))))) =
      (binD .Add (.list ((hereL g b 4 2).map nI)) (.list ((thereL g b 4 2).map nI))).bind fun a => (cmpD .Eq a (.list [])).bind fun c => some (.bool c) := by kernel_rfl
  rw [addD_list (by rw [List.length_map, List.length_map]; lia), Option.bind_some, ← List.map_append, lists_empty, Option.bind_some, chk_is] at e1
  rw [run_next (evS_two (by kernel_rfl) e1 rfl (σ' := σ35 g { b with r := chk g b 4 2 } (tu t (nI 4) (v3 (nI 2) (.list ((hereL g b 4 2).map nI)) (.list ((thereL g b 4 2).map nI))))) (by kernel_rfl)), run_end (by kernel_rfl)]
end

noncomputable def stepB (g : Nat → List Nat) (b : B4) : B4 :=
  let b1 : B4 := { b with p := b.p && chk g b 2 0 }
  let b2 : B4 := { b1 with s := b1.s && chk g b1 3 1 }
  let b3 : B4 := { b2 with q := b2.q && chk g b2 4 0 }
  { b3 with r := b3.r && chk g b3 4 2 }
/-- the places of the pairs -/
noncomputable def tail35' (o : Option (D × D × D)) : List (Str × Slt) := match o with
  | none => []
  | some (v, h, t) => v3 v h t
noncomputable def uTurn : D → St → Option (Fl × St) := fun d σ => (bindS (forT U35) d σ).bind fun σ' => evSs T0 (forB U35) S35 σ'
section
variable (g : Nat → List Nat) (hl : ∀ k, (g k).length ≤ 3) (h5 : ∀ k x, x ∈ g k → x < 5)
include hl h5

theorem pr20 (b : B4) (t : D) (o : Option (D × D × D)) : ∃ o', turn35 (nI 0) (σ35 g b (tu t (nI 2) (tail35' o))) = some (.next, σ35 g { b with p := chk g b 2 0 } (tu t (nI 2) (tail35' o'))) := by
  cases o with
  | none =>
    obtain ⟨h, w, e⟩ := pair20a g b t hl h5
    exact ⟨some (nI 0, h, w), e⟩
  | some x =>
    obtain ⟨x, y, z⟩ := x
    obtain ⟨h, w, e⟩ := pair20b g b t y z x hl h5
    exact ⟨some (nI 0, h, w), e⟩

theorem pr31 (b : B4) (t : D) (o : Option (D × D × D)) : ∃ o', turn35 (nI 1) (σ35 g b (tu t (nI 3) (tail35' o))) = some (.next, σ35 g { b with s := chk g b 3 1 } (tu t (nI 3) (tail35' o'))) := by
  cases o with
  | none =>
    obtain ⟨h, w, e⟩ := pair31a g b t hl h5
    exact ⟨some (nI 1, h, w), e⟩
  | some x =>
    obtain ⟨x, y, z⟩ := x
    obtain ⟨h, w, e⟩ := pair31b g b t y z x hl h5
    exact ⟨some (nI 1, h, w), e⟩

theorem pr40 (b : B4) (t : D) (o : Option (D × D × D)) : ∃ o', turn35 (nI 0) (σ35 g b (tu t (nI 4) (tail35' o))) = some (.next, σ35 g { b with q := chk g b 4 0 } (tu t (nI 4) (tail35' o'))) := by
  cases o with
  | none =>
    obtain ⟨h, w, e⟩ := pair40a g b t hl h5
    exact ⟨some (nI 0, h, w), e⟩
  | some x =>
    obtain ⟨x, y, z⟩ := x
    obtain ⟨h, w, e⟩ := pair40b g b t y z x hl h5
    exact ⟨some (nI 0, h, w), e⟩

theorem pr42 (b : B4) (t : D) (o : Option (D × D × D)) : ∃ o', turn35 (nI 2) (σ35 g b (tu t (nI 4) (tail35' o))) = some (.next, σ35 g { b with r := chk g b 4 2 } (tu t (nI 4) (tail35' o'))) := by
  cases o with
  | none =>
    obtain ⟨h, w, e⟩ := pair42a g b t hl h5
    exact ⟨some (nI 2, h, w), e⟩
  | some x =>
    obtain ⟨x, y, z⟩ := x
    obtain ⟨h, w, e⟩ := pair42b g b t y z x hl h5
    exact ⟨some (nI 2, h, w), e⟩

theorem u_any {b : B4} {t u' : D} {o : Option (D × D × D)} {u : Nat} {vs : List D} {b' : B4} (hb : bindS (forT U35) (nI u) (σ35 g b (tu t u' (tail35' o))) = some (σ35 g b (tu t (nI u) (tail35' o))))
    (hv : evV T0 (forI V35) S35 (σ35 g b (tu t (nI u) (tail35' o))) = some (.list vs, σ35 g b (tu t (nI u) (tail35' o)))) (hvl : vs.length ≤ 1000000)
    (hf : ∃ o', forO turn35 vs (σ35 g b (tu t (nI u) (tail35' o))) = some (.next, σ35 g b' (tu t (nI u) (tail35' o')))) :
    ∃ o', uTurn (nI u) (σ35 g b (tu t u' (tail35' o))) = some (.next, σ35 g b' (tu t (nI u) (tail35' o'))) := by
  obtain ⟨o', ho⟩ := hf
  refine ⟨o', ?_⟩
  unfold uTurn
  rw [hb, Option.bind_some, run_all]
  have h2 : evS T0 (stN (forB U35) 0) S35 (σ35 g b (tu t (nI u) (tail35' o))) = some (.next, σ35 g b' (tu t (nI u) (tail35' o'))) := by
    show evS T0 V35 _ _ = _
    rw [evS_for (by kernel_rfl) hv (iterD_list hvl)]
    exact ho
  rw [run_next h2, run_end (by kernel_rfl)]

theorem ut0 (b : B4) (t u' : D) (o : Option (D × D × D)) : ∃ o', uTurn (nI 0) (σ35 g b (tu t u' (tail35' o))) = some (.next, σ35 g b (tu t (nI 0) (tail35' o'))) := by
  refine u_any g hl h5 (vs := []) (by cases o <;> kernel_rfl) (by cases o <;> kernel_rfl) (by simp) ⟨o, rfl⟩

theorem ut1 (b : B4) (t u' : D) (o : Option (D × D × D)) : ∃ o', uTurn (nI 1) (σ35 g b (tu t u' (tail35' o))) = some (.next, σ35 g b (tu t (nI 1) (tail35' o'))) := by
  refine u_any g hl h5 (vs := []) (by cases o <;> kernel_rfl) (by cases o <;> kernel_rfl) (by simp) ⟨o, rfl⟩

theorem ut2 (b : B4) (t u' : D) (o : Option (D × D × D)) : ∃ o', uTurn (nI 2) (σ35 g b (tu t u' (tail35' o))) = some (.next, σ35 g { b with p := b.p && chk g b 2 0 } (tu t (nI 2) (tail35' o'))) := by
  obtain ⟨p, q, r, s⟩ := b
  cases p with
  | false => exact u_any g hl h5 (vs := []) (by cases o <;> kernel_rfl) (by cases o <;> kernel_rfl) (by simp) ⟨o, rfl⟩
  | true =>
    refine u_any g hl h5 (vs := [nI 0]) (by cases o <;> kernel_rfl) (by cases o <;> kernel_rfl) (by simp) ?_
    obtain ⟨o', ho⟩ := pr20 g hl h5 ⟨true, q, r, s⟩ t o
    exact ⟨o', by rw [forO_next ho]; rfl⟩
theorem ut3 (b : B4) (t u' : D) (o : Option (D × D × D)) : ∃ o', uTurn (nI 3) (σ35 g b (tu t u' (tail35' o))) = some (.next, σ35 g { b with s := b.s && chk g b 3 1 } (tu t (nI 3) (tail35' o'))) := by
  obtain ⟨p, q, r, s⟩ := b
  cases s with
  | false => exact u_any g hl h5 (vs := []) (by cases o <;> kernel_rfl) (by cases o <;> kernel_rfl) (by simp) ⟨o, rfl⟩
  | true =>
    refine u_any g hl h5 (vs := [nI 1]) (by cases o <;> kernel_rfl) (by cases o <;> kernel_rfl) (by simp) ?_
    obtain ⟨o', ho⟩ := pr31 g hl h5 ⟨p, q, r, true⟩ t o
    exact ⟨o', by rw [forO_next ho]; rfl⟩
theorem ut4 (b : B4) (t u' : D) (o : Option (D × D × D)) : ∃ o', uTurn (nI 4) (σ35 g b (tu t u' (tail35' o))) =
    some (.next, σ35 g { ({ b with q := b.q && chk g b 4 0 } : B4) with r := b.r && chk g { b with q := b.q && chk g b 4 0 } 4 2 } (tu t (nI 4) (tail35' o'))) := by
  obtain ⟨p, q, r, s⟩ := b
  cases q with
  | false =>
    cases r with
    | false => exact u_any g hl h5 (vs := []) (by cases o <;> kernel_rfl) (by cases o <;> kernel_rfl) (by simp) ⟨o, rfl⟩
    | true =>
      refine u_any g hl h5 (vs := [nI 2]) (by cases o <;> kernel_rfl) (by cases o <;> kernel_rfl) (by simp) ?_
      obtain ⟨o', ho⟩ := pr42 g hl h5 ⟨p, false, true, s⟩ t o
      exact ⟨o', by rw [forO_next ho]; rfl⟩
  | true =>
    cases r with
    | false =>
      refine u_any g hl h5 (vs := [nI 0]) (by cases o <;> kernel_rfl) (by cases o <;> kernel_rfl) (by simp) ?_
      obtain ⟨o', ho⟩ := pr40 g hl h5 ⟨p, true, false, s⟩ t o
      exact ⟨o', by rw [forO_next ho]; rfl⟩
    | true =>
      refine u_any g hl h5 (vs := [nI 0, nI 2]) (by cases o <;> kernel_rfl) (by cases o <;> kernel_rfl) (by simp) ?_
      obtain ⟨o', ho⟩ := pr40 g hl h5 ⟨p, true, true, s⟩ t o
      obtain ⟨o2, ho2⟩ := pr42 g hl h5 ⟨p, chk g ⟨p, true, true, s⟩ 4 0, true, s⟩ t o'
      exact ⟨o2, by rw [forO_next ho, forO_next ho2]; rfl⟩

noncomputable def tTurn : D → St → Option (Fl × St) := fun d σ => (bindS (forT F35) d σ).bind fun σ' => evSs T0 (forB F35) S35 σ'
noncomputable def pre35 : Option (D × D × Option (D × D × D)) → List (Str × Slt)
  | none => []
  | some (t, u, o) => tu t u (tail35' o)
theorem five_turns (b : B4) (t u' : D) (o : Option (D × D × D)) : ∃ o', forO uTurn [nI 0, nI 1, nI 2, nI 3, nI 4] (σ35 g b (tu t u' (tail35' o))) = some (.next, σ35 g (stepB g b) (tu t (nI 4) (tail35' o'))) := by
  obtain ⟨o0, h0⟩ := ut0 g hl h5 b t u' o
  obtain ⟨o1, h1⟩ := ut1 g hl h5 b t (nI 0) o0
  obtain ⟨o2, h2⟩ := ut2 g hl h5 b t (nI 1) o1
  obtain ⟨o3, h3⟩ := ut3 g hl h5 _ t (nI 2) o2
  obtain ⟨o4, h4⟩ := ut4 g hl h5 _ t (nI 3) o3
  exact ⟨o4, by rw [forO_next h0, forO_next h1, forO_next h2, forO_next h3, forO_next h4]; rfl⟩
end

end Mine

end

section
set_option linter.unusedSectionVars false
set_option maxRecDepth 100000
namespace Mine
section
variable (g : Nat → List Nat) (hl : ∀ k, (g k).length ≤ 3) (h5 : ∀ k x, x ∈ g k → x < 5)
include hl h5

theorem ut0_first (b : B4) (t : D) : uTurn (nI 0) (σ35 g b [(sO "turn", .cold t)]) = some (.next, σ35 g b (tu t (nI 0) (tail35' none))) := by
  unfold uTurn
  have hb : bindS (forT U35) (nI 0) (σ35 g b [(sO "turn", .cold t)]) = some (σ35 g b (tu t (nI 0) (tail35' none))) := by kernel_rfl
  rw [hb, Option.bind_some, run_all]
  have hv : evV T0 (forI V35) S35 (σ35 g b (tu t (nI 0) (tail35' none))) = some (.list [], σ35 g b (tu t (nI 0) (tail35' none))) := by kernel_rfl
  have h2 : evS T0 (stN (forB U35) 0) S35 (σ35 g b (tu t (nI 0) (tail35' none))) = some (.next, σ35 g b (tu t (nI 0) (tail35' none))) := by
    show evS T0 V35 _ _ = _
    rw [evS_for (by kernel_rfl) hv (iterD_list (by simp))]
    rfl
  rw [run_next h2, run_end (by kernel_rfl)]
theorem five_first (b : B4) (t : D) : ∃ o', forO uTurn [nI 0, nI 1, nI 2, nI 3, nI 4] (σ35 g b [(sO "turn", .cold t)]) = some (.next, σ35 g (stepB g b) (tu t (nI 4) (tail35' o'))) := by
  obtain ⟨o1, h1⟩ := ut1 g hl h5 b t (nI 0) none
  obtain ⟨o2, h2⟩ := ut2 g hl h5 b t (nI 1) o1
  obtain ⟨o3, h3⟩ := ut3 g hl h5 _ t (nI 2) o2
  obtain ⟨o4, h4⟩ := ut4 g hl h5 _ t (nI 3) o3
  exact ⟨o4, by rw [forO_next (ut0_first g hl h5 b t), forO_next h1, forO_next h2, forO_next h3, forO_next h4]; rfl⟩
theorem turn_first (b : B4) (d : D) : ∃ o', tTurn d (σ35 g b []) = some (.next, σ35 g (stepB g b) (tu d (nI 4) (tail35' o'))) := by
  obtain ⟨o', ho⟩ := five_first g hl h5 b d
  refine ⟨o', ?_⟩
  unfold tTurn
  have hb : bindS (forT F35) d (σ35 g b []) = some (σ35 g b [(sO "turn", .cold d)]) := by kernel_rfl
  rw [hb, Option.bind_some, run_all]
  have hv : evV T0 (forI U35) S35 (σ35 g b [(sO "turn", .cold d)]) = some (.rng 0 5 1, σ35 g b [(sO "turn", .cold d)]) := by kernel_rfl
  have h2 : evS T0 (stN (forB F35) 0) S35 (σ35 g b [(sO "turn", .cold d)]) = some (.next, σ35 g (stepB g b) (tu d (nI 4) (tail35' o'))) := by
    show evS T0 U35 _ _ = _
    rw [evS_for (by kernel_rfl) hv (items := [nI 0, nI 1, nI 2, nI 3, nI 4]) (by kernel_rfl)]
    exact ho
  rw [run_next h2, run_end (by kernel_rfl)]
theorem turn_later (b : B4) (d t : D) (o : Option (D × D × D)) : ∃ o', tTurn d (σ35 g b (tu t (nI 4) (tail35' o))) = some (.next, σ35 g (stepB g b) (tu d (nI 4) (tail35' o'))) := by
  obtain ⟨o', ho⟩ := five_turns g hl h5 b d (nI 4) o
  refine ⟨o', ?_⟩
  unfold tTurn
  have hb : bindS (forT F35) d (σ35 g b (tu t (nI 4) (tail35' o))) = some (σ35 g b (tu d (nI 4) (tail35' o))) := by cases o <;> kernel_rfl
  rw [hb, Option.bind_some, run_all]
  have hv : evV T0 (forI U35) S35 (σ35 g b (tu d (nI 4) (tail35' o))) = some (.rng 0 5 1, σ35 g b (tu d (nI 4) (tail35' o))) := by cases o <;> kernel_rfl
  have h2 : evS T0 (stN (forB F35) 0) S35 (σ35 g b (tu d (nI 4) (tail35' o))) = some (.next, σ35 g (stepB g b) (tu d (nI 4) (tail35' o'))) := by
    show evS T0 U35 _ _ = _
    rw [evS_for (by kernel_rfl) hv (items := [nI 0, nI 1, nI 2, nI 3, nI 4]) (by kernel_rfl)]
    exact ho
  rw [run_next h2, run_end (by kernel_rfl)]

noncomputable def topB : B4 := ⟨true, true, true, true⟩
noncomputable def alikeB (g : Nat → List Nat) : B4 := stepB g (stepB g (stepB g (stepB g (stepB g topB))))
theorem alike_run : runF T0 35 (posB [sO "kinds", sO "goals"]) [kindsD, rowsD g] [] = some (.list ((matD (alikeB g)).map .list)) := by
  have e0 : runF T0 35 (posB [sO "kinds", sO "goals"]) [kindsD, rowsD g] [] = runD T0 B35 S35 [(sO "kinds", .cold kindsD), (sO "goals", .cold (rowsD g))] := by kernel_rfl
  rw [e0]
  obtain ⟨o1, h1⟩ := turn_first g hl h5 topB (.str (sO "p"))
  obtain ⟨o2, h2⟩ := turn_later g hl h5 (stepB g topB) (.str (sO "q")) (.str (sO "p")) o1
  obtain ⟨o3, h3⟩ := turn_later g hl h5 (stepB g (stepB g topB)) (.str (sO "p")) (.str (sO "q")) o2
  obtain ⟨o4, h4⟩ := turn_later g hl h5 (stepB g (stepB g (stepB g topB))) (.str (sO "q")) (.str (sO "p")) o3
  obtain ⟨o5, h5⟩ := turn_later g hl h5 (stepB g (stepB g (stepB g (stepB g topB)))) (.str (sO "p")) (.str (sO "q")) o4
  refine runD_of (σ' := σ35 g (alikeB g) (tu (.str (sO "p")) (nI 4) (tail35' o5))) ?_
  rw [run_all, run_next (σ' := σ35 g topB []) (by kernel_rfl)]
  have hv : evV T0 (forI F35) S35 (σ35 g topB []) = some (kindsD, σ35 g topB []) := by kernel_rfl
  have hs : evS T0 (stN B35 1) S35 (σ35 g topB []) = some (.next, σ35 g (alikeB g) (tu (.str (sO "p")) (nI 4) (tail35' o5))) := by
    show evS T0 F35 _ _ = _
    rw [evS_for (by kernel_rfl) hv (items := [.str (sO "p"), .str (sO "q"), .str (sO "p"), .str (sO "q"), .str (sO "p")]) (by kernel_rfl)]
    show forO tTurn _ _ = _
    rw [forO_next h1, forO_next h2, forO_next h3, forO_next h4, forO_next h5]
    rfl
  rw [run_next hs]
  exact run_ret (by cases o5 <;> kernel_rfl)
end
end Mine

end

section
set_option linter.unusedSectionVars false
set_option maxRecDepth 100000
namespace Mine

/-! ## the codes -/
noncomputable def signTab : List (List Nat × String) := [([], ""), ([0], "_w=="), ([1], "_g=="), ([2], "_Q=="), ([3], "_A=="), ([4], "-w=="), ([0, 1], "_v8="), ([0, 2], "_f8="), ([0, 3], "_P8="), ([0, 4], "-_8="), ([1, 2], "_f4="), ([1, 3], "_P4="), ([1, 4], "-_4="), ([2, 3], "_P0="), ([2, 4], "-_0="), ([3, 4], "-_w="), ([0, 1, 2], "_f7_"), ([0, 1, 3], "_P7_"), ([0, 1, 4], "-_7_"), ([0, 2, 3], "_P3_"), ([0, 2, 4], "-_3_"), ([0, 3, 4], "-_z_"), ([1, 2, 3], "_P3-"), ([1, 2, 4], "-_3-"), ([1, 3, 4], "-_z-"), ([2, 3, 4], "-_z9")]
noncomputable def subsL : List (List Nat) := signTab.map (·.1)
noncomputable def signS (S : List Nat) : String := (signTab.lookup S).getD ""
noncomputable def kindS (k : Nat) : String := kindL.getD k ""
noncomputable def codeS (k : Nat) (S : List Nat) : Str := sO (kindS k ++ "/" ++ signS S)
noncomputable def codeQ (q : Bool) (S : List Nat) : Str := sO ((if q then "q" else "p") ++ "/" ++ signS S)
noncomputable def isQ (k : Nat) : Bool := k % 2 == 1
/-- the places that stand in a list, from the lowest up -/
noncomputable def norm (xs : List Nat) : List Nat := (List.range 5).filter fun x => xs.contains x
noncomputable def shortL : List (List Nat) := [[]] ++ ((List.range 5).map fun a => [a]) ++ ((List.range 5).flatMap fun a => (List.range 5).map fun b => [a, b]) ++ ((List.range 5).flatMap fun a => (List.range 5).flatMap fun b => (List.range 5).map fun c => [a, b, c])
theorem mem_shortL : ∀ {xs : List Nat}, xs.length ≤ 3 → (∀ x ∈ xs, x < 5) → xs ∈ shortL
  | [], _, _ => by decide
  | [a], _, h => by
    have ha := h a (by simp)
    unfold shortL
    simp only [List.mem_append, List.mem_map, List.mem_range]
    exact .inl (.inl (.inr ⟨a, ha, rfl⟩))
  | [a, b], _, h => by
    have ha := h a (by simp)
    have hb := h b (by simp)
    unfold shortL
    simp only [List.mem_append, List.mem_map, List.mem_range, List.mem_flatMap]
    exact .inl (.inr ⟨a, ha, b, hb, rfl⟩)
  | [a, b, c], _, h => by
    have ha := h a (by simp)
    have hb := h b (by simp)
    have hc := h c (by simp)
    unfold shortL
    simp only [List.mem_append, List.mem_map, List.mem_range, List.mem_flatMap]
    exact .inr ⟨a, ha, b, hb, c, hc, rfl⟩
  | a :: b :: c :: d :: r, h, _ => by simp at h
theorem norm_short : shortL.all (fun xs => subsL.contains (norm xs)) = true := by decide +kernel
theorem norm_mem {xs : List Nat} (h1 : xs.length ≤ 3) (h2 : ∀ x ∈ xs, x < 5) : norm xs ∈ subsL := by
  have := List.all_eq_true.mp norm_short xs (mem_shortL h1 h2)
  simpa using this

noncomputable def B34 := (defAt 34).1
noncomputable def S34 := (defAt 34).2
noncomputable def F34 : Stmt := stN B34 1
noncomputable def K34 : Stmt := stN (forB F34) 3
noncomputable def LE : Expr := asgE (stN (forB K34) 0)
noncomputable def AE : Expr := argX 0 (exprE (stN (forB K34) 1))
noncomputable def CE : Expr := argX 0 (argX 0 (argX 0 (argX 0 LE)))
noncomputable def lineD (S : List Nat) : D := .bytes ((S.reverse.map fun s => (255 - s).toUInt8).toArray)
noncomputable def octD (x : Nat) : D := .int (255 - (x : Int))
noncomputable def lineX (l : Option D) : Option D := (seqO [(seqO [(seqO [(seqO [l]).bind (callT T3 (sO "_deduplicate") [])]).bind (callT T3 (sO "list") [])]).bind (callT T3 (sO "sorted") [])]).bind (callT T3 (sO "bytes") [])
theorem lines34 : shortL.map (fun xs => lineX (some (.list (xs.map octD)))) = shortL.map fun xs => some (lineD (norm xs)) := by kernel_rfl
noncomputable def σ34 (g : Nat → List Nat) (C : Slt) (rest : List (Str × Slt)) : St := [(sO "kinds", .cold kindsD), (sO "goals", .cold (rowsD g)), (sO "codes", C)] ++ rest
noncomputable def tuo (t u : D) (l : List (Str × Slt)) : List (Str × Slt) := (sO "turn", .cold t) :: (sO "unlike", .cold u) :: l
noncomputable def o1 (o : D) : List (Str × Slt) := [(sO "octets", .cold o)]
noncomputable def o2 (o k : D) : List (Str × Slt) := [(sO "octets", .cold o), (sO "k", .cold k)]
noncomputable def o3 (o k l : D) : List (Str × Slt) := [(sO "octets", .cold o), (sO "k", .cold k), (sO "line", .cold l)]
theorem signs34 (g : Nat → List Nat) (R : List D) (t u o k : D) : subsL.map (fun S => evE T3 (argX 1 AE) S34 (coldV (σ34 g (.hot1 R) (tuo t u (o3 o k (lineD S)))))) = subsL.map fun S => some (.str (sO (signS S))) := by kernel_rfl
theorem joins34 : subsL.flatMap (fun S => [callT T3 (sO "join") [] [.str (sO "p"), .str (sO (signS S))], callT T3 (sO "join") [] [.str (sO "q"), .str (sO (signS S))]]) = subsL.flatMap fun S => [some (.str (codeQ false S)), some (.str (codeQ true S))] := by kernel_rfl
end Mine

end

section
set_option linter.unusedSectionVars false
set_option maxRecDepth 100000
namespace Mine

theorem evS_freeze {T : Tab} {sc : Scope} {st : Stmt} {σ : St} {x : Str} {d : D} (hp : plainA st = some x) (h1 : evE T (asgE st) sc (coldV σ) = none) (h2 : evE T (asgE st) sc (allV σ) = some d) (hf : flat d = false) (hc : isComp (asgE st) = false) :
    evS T st sc σ = some (.next, put x (.cold d) (freeze σ)) := by
  rw [evS_plain hp]
  unfold evV
  rw [h1]
  dsimp only
  rw [h2, Option.bind_some, hf, hc]
  rfl

noncomputable def codesL (cs : Nat → Str) : List D := (List.range 5).map fun k => .str (cs k)
noncomputable def usL (cs : Nat → Str) : List Str := ((List.range 5).map cs).foldl putKey []
noncomputable def cl (cs : Nat → Str) (k : Nat) : Nat := (usL cs).findIdx (· == cs k)
noncomputable def octsD (cs : Nat → Str) : D := .list ((List.range 5).map fun k => octD (cl cs k))

theorem putKey_mem {ks : List Str} {k x : Str} : x ∈ putKey ks k ↔ x ∈ ks ∨ x = k := by
  unfold putKey
  split
  · constructor
    · exact .inl
    · rintro (h | rfl)
      · exact h
      · assumption
  · simp
theorem foldl_putKey_mem {x : Str} : ∀ (xs ks : List Str), x ∈ xs.foldl putKey ks ↔ x ∈ ks ∨ x ∈ xs
  | [], ks => by simp
  | y :: r, ks => by
    rw [List.foldl_cons, foldl_putKey_mem r, putKey_mem, List.mem_cons]
    constructor
    · rintro ((h | h) | h)
      · exact .inl h
      · exact .inr (.inl h)
      · exact .inr (.inr h)
    · rintro (h | h | h)
      · exact .inl (.inl h)
      · exact .inl (.inr h)
      · exact .inr h
theorem foldl_putKey_len : ∀ (xs ks : List Str), (xs.foldl putKey ks).length ≤ ks.length + xs.length
  | [], ks => by simp
  | y :: r, ks => by
    rw [List.foldl_cons]
    refine Nat.le_trans (foldl_putKey_len r _) ?_
    have : (putKey ks y).length ≤ ks.length + 1 := by unfold putKey; split <;> simp
    simp only [List.length_cons]; lia
theorem usL_mem {cs : Nat → Str} {x : Str} : x ∈ usL cs ↔ ∃ k, k < 5 ∧ cs k = x := by
  unfold usL
  rw [foldl_putKey_mem, List.mem_map]
  simp only [List.not_mem_nil, false_or, List.mem_range]
theorem usL_len (cs : Nat → Str) : (usL cs).length ≤ 5 := by
  have := foldl_putKey_len ((List.range 5).map cs) []
  rw [List.length_map, List.length_range] at this
  simpa [usL] using this
theorem cl_lt {cs : Nat → Str} {k : Nat} (hk : k < 5) : cl cs k < (usL cs).length := by
  unfold cl
  exact List.findIdx_lt_length_of_exists ⟨cs k, usL_mem.mpr ⟨k, hk, rfl⟩, by simp⟩
theorem cl_lt5 {cs : Nat → Str} {k : Nat} (hk : k < 5) : cl cs k < 5 := Nat.lt_of_lt_of_le (cl_lt hk) (usL_len cs)

theorem index_str {us : List Str} {c : Str} (hc : c ∈ us) (hok : ∀ x ∈ us, PyData.strOk x = true) (hl : us.length ≤ 1000000) : indexD [.list (us.map .str), .str c] = some (.int ((us.findIdx (· == c) : Nat) : Int)) := by
  show (if eqOk 9 (.str c) ∧ (us.map D.str).all (eqOk 9) ∧ (us.map D.str).length ≤ 1000000 then ((us.map D.str).findIdx? fun y => eqvD y (.str c)).map fun (j : Nat) => D.int (j : Int) else none) = _
  have h1 : eqOk 9 (.str c) = true := hok c hc
  have h2 : (us.map D.str).all (eqOk 9) = true := by
    rw [List.all_eq_true]
    intro x hx
    rw [List.mem_map] at hx
    obtain ⟨y, hy, rfl⟩ := hx
    exact hok y hy
  rw [if_pos ⟨h1, h2, by rw [List.length_map]; exact hl⟩, List.findIdx?_map]
  have h3 : ((fun y => eqvD y (.str c)) ∘ D.str) = fun x : Str => x == c := rfl
  rw [h3]
  have h4 : us.findIdx (· == c) < us.length := List.findIdx_lt_length_of_exists ⟨c, hc, by simp⟩
  rw [List.findIdx?_eq_some_iff_findIdx_eq.mpr ⟨h4, rfl⟩]
  rfl

section
variable (g : Nat → List Nat) (cs : Nat → Str) (t u o k l : D)

theorem st0_a (hok : True) : evS T3 (stN (forB F34) 0) S34 (σ34 g (.cold (.list (codesL cs))) [(sO "turn", .cold t)]) = some (.next, σ34 g (.cold (.list (codesL cs))) (tuo t (.list ((usL cs).map .str)) [])) := by
  have h1 : evE T3 (asgE (stN (forB F34) 0)) S34 (coldV (σ34 g (.cold (.list (codesL cs))) [(sO "turn", .cold t)])) = listD [.dictS (usL cs)] := by kernel_rfl
  have h2 : listD [.dictS (usL cs)] = some (.list ((usL cs).map .str)) := by
    exact if_pos (by have := usL_len cs; lia)
  rw [h2] at h1
  exact evS_cold (x := sO "unlike") (by kernel_rfl) h1
theorem st0_b : evS T3 (stN (forB F34) 0) S34 (σ34 g (.hot1 (codesL cs)) (tuo t u (o3 o k l))) = some (.next, σ34 g (.cold (.list (codesL cs))) (tuo t (.list ((usL cs).map .str)) (o3 o k l))) := by
  have h1 : evE T3 (asgE (stN (forB F34) 0)) S34 (allV (σ34 g (.hot1 (codesL cs)) (tuo t u (o3 o k l)))) = listD [.dictS (usL cs)] := by kernel_rfl
  have h2 : listD [.dictS (usL cs)] = some (.list ((usL cs).map .str)) := by
    exact if_pos (by have := usL_len cs; lia)
  rw [h2] at h1
  exact evS_freeze (x := sO "unlike") (by kernel_rfl) (by kernel_rfl) h1 rfl (by kernel_rfl)

noncomputable def OE : Expr := asgE (stN (forB F34) 1)
theorem oct_elt_a (us : List Str) (c : Str) : compF T3 OE (coldV (σ34 g (.cold (.list (codesL cs))) (tuo t (.list (us.map .str)) []))) (.str c) = ((indexD [.list (us.map .str), .str c]).bind fun b => binD .Sub (.int 255) b).bind fun x => some (some x) := by kernel_rfl
theorem oct_elt_b (us : List Str) (c : Str) : compF T3 OE (coldV (σ34 g (.cold (.list (codesL cs))) (tuo t (.list (us.map .str)) (o3 o k l)))) (.str c) = ((indexD [.list (us.map .str), .str c]).bind fun b => binD .Sub (.int 255) b).bind fun x => some (some x) := by kernel_rfl
noncomputable def StrsOk (cs : Nat → Str) : Prop := ∀ k, k < 5 → PyData.strOk (cs k) = true
theorem index_is (hok : StrsOk cs) {x : Nat} (hx : x < 5) : indexD [.list ((usL cs).map .str), .str (cs x)] = some (.int ((cl cs x : Nat) : Int)) := by
  refine index_str (usL_mem.mpr ⟨x, hx, rfl⟩) (fun y hy => ?_) (by have := usL_len cs; lia)
  obtain ⟨j, hj, rfl⟩ := usL_mem.mp hy
  exact hok j hj
theorem st1_a (hok : StrsOk cs) : evS T3 (stN (forB F34) 1) S34 (σ34 g (.cold (.list (codesL cs))) (tuo t (.list ((usL cs).map .str)) [])) = some (.next, σ34 g (.cold (.list (codesL cs))) (tuo t (.list ((usL cs).map .str)) (o1 (octsD cs)))) := by
  have h : evE T3 OE S34 (coldV (σ34 g (.cold (.list (codesL cs))) (tuo t (.list ((usL cs).map .str)) []))) = some (octsD cs) := by
    refine ev_comp_list (xs := codesL cs) (by kernel_rfl) (by kernel_rfl) (by kernel_rfl) (by kernel_rfl) (by simp [codesL]) ?_
    refine compO_map (fun k => .str (cs k)) (fun k => octD (cl cs k)) _ fun x hx => ?_
    rw [oct_elt_a, index_is cs hok (List.mem_range.mp hx)]; rfl
  exact evS_cold (st := stN (forB F34) 1) (x := sO "octets") (by kernel_rfl) h
theorem st1_b (hok : StrsOk cs) : evS T3 (stN (forB F34) 1) S34 (σ34 g (.cold (.list (codesL cs))) (tuo t (.list ((usL cs).map .str)) (o3 o k l))) = some (.next, σ34 g (.cold (.list (codesL cs))) (tuo t (.list ((usL cs).map .str)) (o3 (octsD cs) k l))) := by
  have h : evE T3 OE S34 (coldV (σ34 g (.cold (.list (codesL cs))) (tuo t (.list ((usL cs).map .str)) (o3 o k l)))) = some (octsD cs) := by
    refine ev_comp_list (xs := codesL cs) (by kernel_rfl) (by kernel_rfl) (by kernel_rfl) (by kernel_rfl) (by simp [codesL]) ?_
    refine compO_map (fun k => .str (cs k)) (fun k => octD (cl cs k)) _ fun x hx => ?_
    rw [oct_elt_b, index_is cs hok (List.mem_range.mp hx)]; rfl
  exact evS_cold (st := stN (forB F34) 1) (x := sO "octets") (by kernel_rfl) h
end

/-! the lines -/
noncomputable def setOf (g : Nat → List Nat) (cs : Nat → Str) (k : Nat) : List Nat := norm ((g k).map (cl cs))
noncomputable def kTurn : D → St → Option (Fl × St) := fun d σ => (bindS (forT K34) d σ).bind fun σ' => evSs T3 (forB K34) S34 σ'
theorem line_of {xs : List Nat} (h1 : xs.length ≤ 3) (h2 : ∀ x ∈ xs, x < 5) : lineX (some (.list (xs.map octD))) = some (lineD (norm xs)) := List.map_inj_left.mp lines34 xs (mem_shortL h1 h2)
theorem sign_of (g : Nat → List Nat) (R : List D) (t u o k : D) {xs : List Nat} (h1 : xs.length ≤ 3) (h2 : ∀ x ∈ xs, x < 5) :
    evE T3 (argX 1 AE) S34 (coldV (σ34 g (.hot1 R) (tuo t u (o3 o k (lineD (norm xs)))))) = some (.str (sO (signS (norm xs)))) := List.map_inj_left.mp (signs34 g R t u o k) _ (norm_mem h1 h2)
theorem flatMap_two {α β : Type} {f1 f2 g1 g2 : α → β} : ∀ {xs : List α}, xs.flatMap (fun x => [f1 x, f2 x]) = xs.flatMap (fun x => [g1 x, g2 x]) → ∀ x ∈ xs, f1 x = g1 x ∧ f2 x = g2 x
  | [], _, x, hx => by cases hx
  | y :: r, h, x, hx => by
    simp only [List.flatMap_cons, List.cons_append, List.nil_append, List.cons.injEq] at h
    rcases List.mem_cons.mp hx with rfl | hx
    · exact ⟨h.1, h.2.1⟩
    · exact flatMap_two h.2.2 x hx
theorem join_of {S : List Nat} (hS : S ∈ subsL) (k : Nat) : callT T3 (sO "join") [] [.str (sO (if isQ k then "q" else "p")), .str (sO (signS S))] = some (.str (codeQ (isQ k) S)) := by
  have := flatMap_two joins34 S hS
  cases isQ k
  · exact this.1
  · exact this.2

section
variable (g : Nat → List Nat) (cs : Nat → Str) (t u k0 l0 : D) (r : Nat → D)
theorem line_elt0 : (List.range 5).map (fun x => compF T3 CE (coldV (σ34 g (.hot1 ((List.range 0).map r)) (tuo t u (o2 (octsD cs) (nI 0))))) (nI x)) = (List.range 5).map fun x => some (some (octD (cl cs x))) := by kernel_rfl
theorem kTurn0 (hl : ∀ k, (g k).length ≤ 3) (h5 : ∀ k x, x ∈ g k → x < 5) : kTurn (nI 0) (σ34 g (.hot1 ((List.range 0).map r)) (tuo t u (o1 (octsD cs)))) =
    some (.next, σ34 g (.hot1 ((List.range 0).map r ++ [.str (codeQ (isQ 0) (setOf g cs 0))])) (tuo t u (o3 (octsD cs) (nI 0) (lineD (setOf g cs 0))))) := by
  have hb : bindS (forT K34) (nI 0) (σ34 g (.hot1 ((List.range 0).map r)) (tuo t u (o1 (octsD cs)))) = some (σ34 g (.hot1 ((List.range 0).map r)) (tuo t u (o2 (octsD cs) (nI 0)))) := by kernel_rfl
  have hs1 : ((g 0).map (cl cs)).length ≤ 3 := by rw [List.length_map]; exact hl 0
  have hs2 : ∀ x ∈ (g 0).map (cl cs), x < 5 := fun x hx => by
    obtain ⟨y, hy, rfl⟩ := List.mem_map.mp hx
    exact cl_lt5 (h5 _ _ hy)
  have hc : evE T3 CE S34 (coldV (σ34 g (.hot1 ((List.range 0).map r)) (tuo t u (o2 (octsD cs) (nI 0))))) = some (.list (((g 0).map (cl cs)).map octD)) := by
    refine ev_comp_list (xs := (g 0).map nI) (by kernel_rfl) (by kernel_rfl) (by kernel_rfl) (by kernel_rfl) (by rw [List.length_map]; have := hl 0; lia) ?_
    rw [compO_map nI (fun x => octD (cl cs x)) _ fun x hx => List.map_inj_left.mp (line_elt0 g cs t u r) x (List.mem_range.mpr (h5 _ _ hx)), List.map_map]
    rfl
  have hL : evE T3 LE S34 (coldV (σ34 g (.hot1 ((List.range 0).map r)) (tuo t u (o2 (octsD cs) (nI 0))))) = lineX (evE T3 CE S34 (coldV (σ34 g (.hot1 ((List.range 0).map r)) (tuo t u (o2 (octsD cs) (nI 0)))))) := by kernel_rfl
  rw [hc, line_of hs1 hs2] at hL
  have h1 : evS T3 (stN (forB K34) 0) S34 (σ34 g (.hot1 ((List.range 0).map r)) (tuo t u (o2 (octsD cs) (nI 0)))) = some (.next, σ34 g (.hot1 ((List.range 0).map r)) (tuo t u (o3 (octsD cs) (nI 0) (lineD (setOf g cs 0))))) :=
    evS_cold (st := stN (forB K34) 0) (x := sO "line") (by kernel_rfl) hL
  have hA : evE T3 AE S34 (coldV (σ34 g (.hot1 ((List.range 0).map r)) (tuo t u (o3 (octsD cs) (nI 0) (lineD (setOf g cs 0)))))) =
      (seqO [some (.str (sO "p")), evE T3 (argX 1 AE) S34 (coldV (σ34 g (.hot1 ((List.range 0).map r)) (tuo t u (o3 (octsD cs) (nI 0) (lineD (setOf g cs 0))))))]).bind (callT T3 (sO "join") []) := by kernel_rfl
  have hA2 : evE T3 AE S34 (coldV (σ34 g (.hot1 ((List.range 0).map r)) (tuo t u (o3 (octsD cs) (nI 0) (lineD (setOf g cs 0)))))) = some (.str (codeQ (isQ 0) (setOf g cs 0))) := by
    rw [hA]
    unfold setOf
    rw [sign_of g _ t u _ _ hs1 hs2]
    exact join_of (norm_mem hs1 hs2) 0
  have hx : exprS T3 (exprE (stN (forB K34) 1)) S34 (σ34 g (.hot1 ((List.range 0).map r)) (tuo t u (o3 (octsD cs) (nI 0) (lineD (setOf g cs 0))))) =
      (evE T3 AE S34 (coldV (σ34 g (.hot1 ((List.range 0).map r)) (tuo t u (o3 (octsD cs) (nI 0) (lineD (setOf g cs 0))))))).bind fun d => some (σ34 g (.hot1 ((List.range 0).map r ++ [d])) (tuo t u (o3 (octsD cs) (nI 0) (lineD (setOf g cs 0))))) := by kernel_rfl
  rw [hA2, Option.bind_some] at hx
  unfold kTurn
  rw [hb, Option.bind_some, run_all, run_next h1, run_next (evS_expr (by kernel_rfl) hx), run_end (by kernel_rfl)]
end

section
variable (g : Nat → List Nat) (cs : Nat → Str) (t u k0 l0 : D) (r : Nat → D)
theorem line_elt0b : (List.range 5).map (fun x => compF T3 CE (coldV (σ34 g (.hot1 ((List.range 0).map r)) (tuo t u (o3 (octsD cs) (nI 0) l0)))) (nI x)) = (List.range 5).map fun x => some (some (octD (cl cs x))) := by kernel_rfl
theorem kTurn0b (hl : ∀ k, (g k).length ≤ 3) (h5 : ∀ k x, x ∈ g k → x < 5) : kTurn (nI 0) (σ34 g (.hot1 ((List.range 0).map r)) (tuo t u (o3 (octsD cs) k0 l0))) =
    some (.next, σ34 g (.hot1 ((List.range 0).map r ++ [.str (codeQ (isQ 0) (setOf g cs 0))])) (tuo t u (o3 (octsD cs) (nI 0) (lineD (setOf g cs 0))))) := by
  have hb : bindS (forT K34) (nI 0) (σ34 g (.hot1 ((List.range 0).map r)) (tuo t u (o3 (octsD cs) k0 l0))) = some (σ34 g (.hot1 ((List.range 0).map r)) (tuo t u (o3 (octsD cs) (nI 0) l0))) := by kernel_rfl
  have hs1 : ((g 0).map (cl cs)).length ≤ 3 := by rw [List.length_map]; exact hl 0
  have hs2 : ∀ x ∈ (g 0).map (cl cs), x < 5 := fun x hx => by
    obtain ⟨y, hy, rfl⟩ := List.mem_map.mp hx
    exact cl_lt5 (h5 _ _ hy)
  have hc : evE T3 CE S34 (coldV (σ34 g (.hot1 ((List.range 0).map r)) (tuo t u (o3 (octsD cs) (nI 0) l0)))) = some (.list (((g 0).map (cl cs)).map octD)) := by
    refine ev_comp_list (xs := (g 0).map nI) (by kernel_rfl) (by kernel_rfl) (by kernel_rfl) (by kernel_rfl) (by rw [List.length_map]; have := hl 0; lia) ?_
    rw [compO_map nI (fun x => octD (cl cs x)) _ fun x hx => List.map_inj_left.mp (line_elt0b g cs t u l0 r) x (List.mem_range.mpr (h5 _ _ hx)), List.map_map]
    rfl
  have hL : evE T3 LE S34 (coldV (σ34 g (.hot1 ((List.range 0).map r)) (tuo t u (o3 (octsD cs) (nI 0) l0)))) = lineX (evE T3 CE S34 (coldV (σ34 g (.hot1 ((List.range 0).map r)) (tuo t u (o3 (octsD cs) (nI 0) l0))))) := by kernel_rfl
  rw [hc, line_of hs1 hs2] at hL
  have h1 : evS T3 (stN (forB K34) 0) S34 (σ34 g (.hot1 ((List.range 0).map r)) (tuo t u (o3 (octsD cs) (nI 0) l0))) = some (.next, σ34 g (.hot1 ((List.range 0).map r)) (tuo t u (o3 (octsD cs) (nI 0) (lineD (setOf g cs 0))))) :=
    evS_cold (st := stN (forB K34) 0) (x := sO "line") (by kernel_rfl) hL
  have hA : evE T3 AE S34 (coldV (σ34 g (.hot1 ((List.range 0).map r)) (tuo t u (o3 (octsD cs) (nI 0) (lineD (setOf g cs 0)))))) =
      (seqO [some (.str (sO "p")), evE T3 (argX 1 AE) S34 (coldV (σ34 g (.hot1 ((List.range 0).map r)) (tuo t u (o3 (octsD cs) (nI 0) (lineD (setOf g cs 0))))))]).bind (callT T3 (sO "join") []) := by kernel_rfl
  have hA2 : evE T3 AE S34 (coldV (σ34 g (.hot1 ((List.range 0).map r)) (tuo t u (o3 (octsD cs) (nI 0) (lineD (setOf g cs 0)))))) = some (.str (codeQ (isQ 0) (setOf g cs 0))) := by
    rw [hA]
    unfold setOf
    rw [sign_of g _ t u _ _ hs1 hs2]
    exact join_of (norm_mem hs1 hs2) 0
  have hx : exprS T3 (exprE (stN (forB K34) 1)) S34 (σ34 g (.hot1 ((List.range 0).map r)) (tuo t u (o3 (octsD cs) (nI 0) (lineD (setOf g cs 0))))) =
      (evE T3 AE S34 (coldV (σ34 g (.hot1 ((List.range 0).map r)) (tuo t u (o3 (octsD cs) (nI 0) (lineD (setOf g cs 0))))))).bind fun d => some (σ34 g (.hot1 ((List.range 0).map r ++ [d])) (tuo t u (o3 (octsD cs) (nI 0) (lineD (setOf g cs 0))))) := by kernel_rfl
  rw [hA2, Option.bind_some] at hx
  unfold kTurn
  rw [hb, Option.bind_some, run_all, run_next h1, run_next (evS_expr (by kernel_rfl) hx), run_end (by kernel_rfl)]
end

section
variable (g : Nat → List Nat) (cs : Nat → Str) (t u k0 l0 : D) (r : Nat → D)
theorem line_elt1 : (List.range 5).map (fun x => compF T3 CE (coldV (σ34 g (.hot1 ((List.range 1).map r)) (tuo t u (o3 (octsD cs) (nI 1) l0)))) (nI x)) = (List.range 5).map fun x => some (some (octD (cl cs x))) := by kernel_rfl
theorem kTurn1 (hl : ∀ k, (g k).length ≤ 3) (h5 : ∀ k x, x ∈ g k → x < 5) : kTurn (nI 1) (σ34 g (.hot1 ((List.range 1).map r)) (tuo t u (o3 (octsD cs) k0 l0))) =
    some (.next, σ34 g (.hot1 ((List.range 1).map r ++ [.str (codeQ (isQ 1) (setOf g cs 1))])) (tuo t u (o3 (octsD cs) (nI 1) (lineD (setOf g cs 1))))) := by
  have hb : bindS (forT K34) (nI 1) (σ34 g (.hot1 ((List.range 1).map r)) (tuo t u (o3 (octsD cs) k0 l0))) = some (σ34 g (.hot1 ((List.range 1).map r)) (tuo t u (o3 (octsD cs) (nI 1) l0))) := by kernel_rfl
  have hs1 : ((g 1).map (cl cs)).length ≤ 3 := by rw [List.length_map]; exact hl 1
  have hs2 : ∀ x ∈ (g 1).map (cl cs), x < 5 := fun x hx => by
    obtain ⟨y, hy, rfl⟩ := List.mem_map.mp hx
    exact cl_lt5 (h5 _ _ hy)
  have hc : evE T3 CE S34 (coldV (σ34 g (.hot1 ((List.range 1).map r)) (tuo t u (o3 (octsD cs) (nI 1) l0)))) = some (.list (((g 1).map (cl cs)).map octD)) := by
    refine ev_comp_list (xs := (g 1).map nI) (by kernel_rfl) (by kernel_rfl) (by kernel_rfl) (by kernel_rfl) (by rw [List.length_map]; have := hl 1; lia) ?_
    rw [compO_map nI (fun x => octD (cl cs x)) _ fun x hx => List.map_inj_left.mp (line_elt1 g cs t u l0 r) x (List.mem_range.mpr (h5 _ _ hx)), List.map_map]
    rfl
  have hL : evE T3 LE S34 (coldV (σ34 g (.hot1 ((List.range 1).map r)) (tuo t u (o3 (octsD cs) (nI 1) l0)))) = lineX (evE T3 CE S34 (coldV (σ34 g (.hot1 ((List.range 1).map r)) (tuo t u (o3 (octsD cs) (nI 1) l0))))) := by kernel_rfl
  rw [hc, line_of hs1 hs2] at hL
  have h1 : evS T3 (stN (forB K34) 0) S34 (σ34 g (.hot1 ((List.range 1).map r)) (tuo t u (o3 (octsD cs) (nI 1) l0))) = some (.next, σ34 g (.hot1 ((List.range 1).map r)) (tuo t u (o3 (octsD cs) (nI 1) (lineD (setOf g cs 1))))) :=
    evS_cold (st := stN (forB K34) 0) (x := sO "line") (by kernel_rfl) hL
  have hA : evE T3 AE S34 (coldV (σ34 g (.hot1 ((List.range 1).map r)) (tuo t u (o3 (octsD cs) (nI 1) (lineD (setOf g cs 1)))))) =
      (seqO [some (.str (sO "q")), evE T3 (argX 1 AE) S34 (coldV (σ34 g (.hot1 ((List.range 1).map r)) (tuo t u (o3 (octsD cs) (nI 1) (lineD (setOf g cs 1))))))]).bind (callT T3 (sO "join") []) := by kernel_rfl
  have hA2 : evE T3 AE S34 (coldV (σ34 g (.hot1 ((List.range 1).map r)) (tuo t u (o3 (octsD cs) (nI 1) (lineD (setOf g cs 1)))))) = some (.str (codeQ (isQ 1) (setOf g cs 1))) := by
    rw [hA]
    unfold setOf
    rw [sign_of g _ t u _ _ hs1 hs2]
    exact join_of (norm_mem hs1 hs2) 1
  have hx : exprS T3 (exprE (stN (forB K34) 1)) S34 (σ34 g (.hot1 ((List.range 1).map r)) (tuo t u (o3 (octsD cs) (nI 1) (lineD (setOf g cs 1))))) =
      (evE T3 AE S34 (coldV (σ34 g (.hot1 ((List.range 1).map r)) (tuo t u (o3 (octsD cs) (nI 1) (lineD (setOf g cs 1))))))).bind fun d => some (σ34 g (.hot1 ((List.range 1).map r ++ [d])) (tuo t u (o3 (octsD cs) (nI 1) (lineD (setOf g cs 1))))) := by kernel_rfl
  rw [hA2, Option.bind_some] at hx
  unfold kTurn
  rw [hb, Option.bind_some, run_all, run_next h1, run_next (evS_expr (by kernel_rfl) hx), run_end (by kernel_rfl)]
end

section
variable (g : Nat → List Nat) (cs : Nat → Str) (t u k0 l0 : D) (r : Nat → D)
theorem line_elt2 : (List.range 5).map (fun x => compF T3 CE (coldV (σ34 g (.hot1 ((List.range 2).map r)) (tuo t u (o3 (octsD cs) (nI 2) l0)))) (nI x)) = (List.range 5).map fun x => some (some (octD (cl cs x))) := by kernel_rfl
theorem kTurn2 (hl : ∀ k, (g k).length ≤ 3) (h5 : ∀ k x, x ∈ g k → x < 5) : kTurn (nI 2) (σ34 g (.hot1 ((List.range 2).map r)) (tuo t u (o3 (octsD cs) k0 l0))) =
    some (.next, σ34 g (.hot1 ((List.range 2).map r ++ [.str (codeQ (isQ 2) (setOf g cs 2))])) (tuo t u (o3 (octsD cs) (nI 2) (lineD (setOf g cs 2))))) := by
  have hb : bindS (forT K34) (nI 2) (σ34 g (.hot1 ((List.range 2).map r)) (tuo t u (o3 (octsD cs) k0 l0))) = some (σ34 g (.hot1 ((List.range 2).map r)) (tuo t u (o3 (octsD cs) (nI 2) l0))) := by kernel_rfl
  have hs1 : ((g 2).map (cl cs)).length ≤ 3 := by rw [List.length_map]; exact hl 2
  have hs2 : ∀ x ∈ (g 2).map (cl cs), x < 5 := fun x hx => by
    obtain ⟨y, hy, rfl⟩ := List.mem_map.mp hx
    exact cl_lt5 (h5 _ _ hy)
  have hc : evE T3 CE S34 (coldV (σ34 g (.hot1 ((List.range 2).map r)) (tuo t u (o3 (octsD cs) (nI 2) l0)))) = some (.list (((g 2).map (cl cs)).map octD)) := by
    refine ev_comp_list (xs := (g 2).map nI) (by kernel_rfl) (by kernel_rfl) (by kernel_rfl) (by kernel_rfl) (by rw [List.length_map]; have := hl 2; lia) ?_
    rw [compO_map nI (fun x => octD (cl cs x)) _ fun x hx => List.map_inj_left.mp (line_elt2 g cs t u l0 r) x (List.mem_range.mpr (h5 _ _ hx)), List.map_map]
    rfl
  have hL : evE T3 LE S34 (coldV (σ34 g (.hot1 ((List.range 2).map r)) (tuo t u (o3 (octsD cs) (nI 2) l0)))) = lineX (evE T3 CE S34 (coldV (σ34 g (.hot1 ((List.range 2).map r)) (tuo t u (o3 (octsD cs) (nI 2) l0))))) := by kernel_rfl
  rw [hc, line_of hs1 hs2] at hL
  have h1 : evS T3 (stN (forB K34) 0) S34 (σ34 g (.hot1 ((List.range 2).map r)) (tuo t u (o3 (octsD cs) (nI 2) l0))) = some (.next, σ34 g (.hot1 ((List.range 2).map r)) (tuo t u (o3 (octsD cs) (nI 2) (lineD (setOf g cs 2))))) :=
    evS_cold (st := stN (forB K34) 0) (x := sO "line") (by kernel_rfl) hL
  have hA : evE T3 AE S34 (coldV (σ34 g (.hot1 ((List.range 2).map r)) (tuo t u (o3 (octsD cs) (nI 2) (lineD (setOf g cs 2)))))) =
      (seqO [some (.str (sO "p")), evE T3 (argX 1 AE) S34 (coldV (σ34 g (.hot1 ((List.range 2).map r)) (tuo t u (o3 (octsD cs) (nI 2) (lineD (setOf g cs 2))))))]).bind (callT T3 (sO "join") []) := by kernel_rfl
  have hA2 : evE T3 AE S34 (coldV (σ34 g (.hot1 ((List.range 2).map r)) (tuo t u (o3 (octsD cs) (nI 2) (lineD (setOf g cs 2)))))) = some (.str (codeQ (isQ 2) (setOf g cs 2))) := by
    rw [hA]
    unfold setOf
    rw [sign_of g _ t u _ _ hs1 hs2]
    exact join_of (norm_mem hs1 hs2) 2
  have hx : exprS T3 (exprE (stN (forB K34) 1)) S34 (σ34 g (.hot1 ((List.range 2).map r)) (tuo t u (o3 (octsD cs) (nI 2) (lineD (setOf g cs 2))))) =
      (evE T3 AE S34 (coldV (σ34 g (.hot1 ((List.range 2).map r)) (tuo t u (o3 (octsD cs) (nI 2) (lineD (setOf g cs 2))))))).bind fun d => some (σ34 g (.hot1 ((List.range 2).map r ++ [d])) (tuo t u (o3 (octsD cs) (nI 2) (lineD (setOf g cs 2))))) := by kernel_rfl
  rw [hA2, Option.bind_some] at hx
  unfold kTurn
  rw [hb, Option.bind_some, run_all, run_next h1, run_next (evS_expr (by kernel_rfl) hx), run_end (by kernel_rfl)]
end

section
variable (g : Nat → List Nat) (cs : Nat → Str) (t u k0 l0 : D) (r : Nat → D)
theorem line_elt3 : (List.range 5).map (fun x => compF T3 CE (coldV (σ34 g (.hot1 ((List.range 3).map r)) (tuo t u (o3 (octsD cs) (nI 3) l0)))) (nI x)) = (List.range 5).map fun x => some (some (octD (cl cs x))) := by kernel_rfl
theorem kTurn3 (hl : ∀ k, (g k).length ≤ 3) (h5 : ∀ k x, x ∈ g k → x < 5) : kTurn (nI 3) (σ34 g (.hot1 ((List.range 3).map r)) (tuo t u (o3 (octsD cs) k0 l0))) =
    some (.next, σ34 g (.hot1 ((List.range 3).map r ++ [.str (codeQ (isQ 3) (setOf g cs 3))])) (tuo t u (o3 (octsD cs) (nI 3) (lineD (setOf g cs 3))))) := by
  have hb : bindS (forT K34) (nI 3) (σ34 g (.hot1 ((List.range 3).map r)) (tuo t u (o3 (octsD cs) k0 l0))) = some (σ34 g (.hot1 ((List.range 3).map r)) (tuo t u (o3 (octsD cs) (nI 3) l0))) := by kernel_rfl
  have hs1 : ((g 3).map (cl cs)).length ≤ 3 := by rw [List.length_map]; exact hl 3
  have hs2 : ∀ x ∈ (g 3).map (cl cs), x < 5 := fun x hx => by
    obtain ⟨y, hy, rfl⟩ := List.mem_map.mp hx
    exact cl_lt5 (h5 _ _ hy)
  have hc : evE T3 CE S34 (coldV (σ34 g (.hot1 ((List.range 3).map r)) (tuo t u (o3 (octsD cs) (nI 3) l0)))) = some (.list (((g 3).map (cl cs)).map octD)) := by
    refine ev_comp_list (xs := (g 3).map nI) (by kernel_rfl) (by kernel_rfl) (by kernel_rfl) (by kernel_rfl) (by rw [List.length_map]; have := hl 3; lia) ?_
    rw [compO_map nI (fun x => octD (cl cs x)) _ fun x hx => List.map_inj_left.mp (line_elt3 g cs t u l0 r) x (List.mem_range.mpr (h5 _ _ hx)), List.map_map]
    rfl
  have hL : evE T3 LE S34 (coldV (σ34 g (.hot1 ((List.range 3).map r)) (tuo t u (o3 (octsD cs) (nI 3) l0)))) = lineX (evE T3 CE S34 (coldV (σ34 g (.hot1 ((List.range 3).map r)) (tuo t u (o3 (octsD cs) (nI 3) l0))))) := by kernel_rfl
  rw [hc, line_of hs1 hs2] at hL
  have h1 : evS T3 (stN (forB K34) 0) S34 (σ34 g (.hot1 ((List.range 3).map r)) (tuo t u (o3 (octsD cs) (nI 3) l0))) = some (.next, σ34 g (.hot1 ((List.range 3).map r)) (tuo t u (o3 (octsD cs) (nI 3) (lineD (setOf g cs 3))))) :=
    evS_cold (st := stN (forB K34) 0) (x := sO "line") (by kernel_rfl) hL
  have hA : evE T3 AE S34 (coldV (σ34 g (.hot1 ((List.range 3).map r)) (tuo t u (o3 (octsD cs) (nI 3) (lineD (setOf g cs 3)))))) =
      (seqO [some (.str (sO "q")), evE T3 (argX 1 AE) S34 (coldV (σ34 g (.hot1 ((List.range 3).map r)) (tuo t u (o3 (octsD cs) (nI 3) (lineD (setOf g cs 3))))))]).bind (callT T3 (sO "join") []) := by kernel_rfl
  have hA2 : evE T3 AE S34 (coldV (σ34 g (.hot1 ((List.range 3).map r)) (tuo t u (o3 (octsD cs) (nI 3) (lineD (setOf g cs 3)))))) = some (.str (codeQ (isQ 3) (setOf g cs 3))) := by
    rw [hA]
    unfold setOf
    rw [sign_of g _ t u _ _ hs1 hs2]
    exact join_of (norm_mem hs1 hs2) 3
  have hx : exprS T3 (exprE (stN (forB K34) 1)) S34 (σ34 g (.hot1 ((List.range 3).map r)) (tuo t u (o3 (octsD cs) (nI 3) (lineD (setOf g cs 3))))) =
      (evE T3 AE S34 (coldV (σ34 g (.hot1 ((List.range 3).map r)) (tuo t u (o3 (octsD cs) (nI 3) (lineD (setOf g cs 3))))))).bind fun d => some (σ34 g (.hot1 ((List.range 3).map r ++ [d])) (tuo t u (o3 (octsD cs) (nI 3) (lineD (setOf g cs 3))))) := by kernel_rfl
  rw [hA2, Option.bind_some] at hx
  unfold kTurn
  rw [hb, Option.bind_some, run_all, run_next h1, run_next (evS_expr (by kernel_rfl) hx), run_end (by kernel_rfl)]
end

section
variable (g : Nat → List Nat) (cs : Nat → Str) (t u k0 l0 : D) (r : Nat → D)
theorem line_elt4 : (List.range 5).map (fun x => compF T3 CE (coldV (σ34 g (.hot1 ((List.range 4).map r)) (tuo t u (o3 (octsD cs) (nI 4) l0)))) (nI x)) = (List.range 5).map fun x => some (some (octD (cl cs x))) := by kernel_rfl
theorem kTurn4 (hl : ∀ k, (g k).length ≤ 3) (h5 : ∀ k x, x ∈ g k → x < 5) : kTurn (nI 4) (σ34 g (.hot1 ((List.range 4).map r)) (tuo t u (o3 (octsD cs) k0 l0))) =
    some (.next, σ34 g (.hot1 ((List.range 4).map r ++ [.str (codeQ (isQ 4) (setOf g cs 4))])) (tuo t u (o3 (octsD cs) (nI 4) (lineD (setOf g cs 4))))) := by
  have hb : bindS (forT K34) (nI 4) (σ34 g (.hot1 ((List.range 4).map r)) (tuo t u (o3 (octsD cs) k0 l0))) = some (σ34 g (.hot1 ((List.range 4).map r)) (tuo t u (o3 (octsD cs) (nI 4) l0))) := by kernel_rfl
  have hs1 : ((g 4).map (cl cs)).length ≤ 3 := by rw [List.length_map]; exact hl 4
  have hs2 : ∀ x ∈ (g 4).map (cl cs), x < 5 := fun x hx => by
    obtain ⟨y, hy, rfl⟩ := List.mem_map.mp hx
    exact cl_lt5 (h5 _ _ hy)
  have hc : evE T3 CE S34 (coldV (σ34 g (.hot1 ((List.range 4).map r)) (tuo t u (o3 (octsD cs) (nI 4) l0)))) = some (.list (((g 4).map (cl cs)).map octD)) := by
    refine ev_comp_list (xs := (g 4).map nI) (by kernel_rfl) (by kernel_rfl) (by kernel_rfl) (by kernel_rfl) (by rw [List.length_map]; have := hl 4; lia) ?_
    rw [compO_map nI (fun x => octD (cl cs x)) _ fun x hx => List.map_inj_left.mp (line_elt4 g cs t u l0 r) x (List.mem_range.mpr (h5 _ _ hx)), List.map_map]
    rfl
  have hL : evE T3 LE S34 (coldV (σ34 g (.hot1 ((List.range 4).map r)) (tuo t u (o3 (octsD cs) (nI 4) l0)))) = lineX (evE T3 CE S34 (coldV (σ34 g (.hot1 ((List.range 4).map r)) (tuo t u (o3 (octsD cs) (nI 4) l0))))) := by kernel_rfl
  rw [hc, line_of hs1 hs2] at hL
  have h1 : evS T3 (stN (forB K34) 0) S34 (σ34 g (.hot1 ((List.range 4).map r)) (tuo t u (o3 (octsD cs) (nI 4) l0))) = some (.next, σ34 g (.hot1 ((List.range 4).map r)) (tuo t u (o3 (octsD cs) (nI 4) (lineD (setOf g cs 4))))) :=
    evS_cold (st := stN (forB K34) 0) (x := sO "line") (by kernel_rfl) hL
  have hA : evE T3 AE S34 (coldV (σ34 g (.hot1 ((List.range 4).map r)) (tuo t u (o3 (octsD cs) (nI 4) (lineD (setOf g cs 4)))))) =
      (seqO [some (.str (sO "p")), evE T3 (argX 1 AE) S34 (coldV (σ34 g (.hot1 ((List.range 4).map r)) (tuo t u (o3 (octsD cs) (nI 4) (lineD (setOf g cs 4))))))]).bind (callT T3 (sO "join") []) := by kernel_rfl
  have hA2 : evE T3 AE S34 (coldV (σ34 g (.hot1 ((List.range 4).map r)) (tuo t u (o3 (octsD cs) (nI 4) (lineD (setOf g cs 4)))))) = some (.str (codeQ (isQ 4) (setOf g cs 4))) := by
    rw [hA]
    unfold setOf
    rw [sign_of g _ t u _ _ hs1 hs2]
    exact join_of (norm_mem hs1 hs2) 4
  have hx : exprS T3 (exprE (stN (forB K34) 1)) S34 (σ34 g (.hot1 ((List.range 4).map r)) (tuo t u (o3 (octsD cs) (nI 4) (lineD (setOf g cs 4))))) =
      (evE T3 AE S34 (coldV (σ34 g (.hot1 ((List.range 4).map r)) (tuo t u (o3 (octsD cs) (nI 4) (lineD (setOf g cs 4))))))).bind fun d => some (σ34 g (.hot1 ((List.range 4).map r ++ [d])) (tuo t u (o3 (octsD cs) (nI 4) (lineD (setOf g cs 4))))) := by kernel_rfl
  rw [hA2, Option.bind_some] at hx
  unfold kTurn
  rw [hb, Option.bind_some, run_all, run_next h1, run_next (evS_expr (by kernel_rfl) hx), run_end (by kernel_rfl)]
end

theorem codes_ok : subsL.all (fun S => PyData.strOk (codeQ false S) && PyData.strOk (codeQ true S)) = true := by decide +kernel
noncomputable def cs0 (k : Nat) : Str := sO (kindS k)
theorem cs0_ok : StrsOk cs0 := fun k hk => by
  have : ∀ k < 5, PyData.strOk (cs0 k) = true := by decide +kernel
  exact this k hk
/-! the turns -/
noncomputable def newCs (g : Nat → List Nat) (cs : Nat → Str) (k : Nat) : Str := codeQ (isQ k) (setOf g cs k)
noncomputable def fTurn : D → St → Option (Fl × St) := fun d σ => (bindS (forT F34) d σ).bind fun σ' => evSs T3 (forB F34) S34 σ'
section
variable (g : Nat → List Nat) (cs : Nat → Str) (t u k0 l0 o : D) (hl : ∀ k, (g k).length ≤ 3) (h5 : ∀ k x, x ∈ g k → x < 5)
include hl h5
theorem ks_a : forO kTurn [nI 0, nI 1, nI 2, nI 3, nI 4] (σ34 g (.hot1 []) (tuo t u (o1 (octsD cs)))) = some (.next, σ34 g (.hot1 (codesL (newCs g cs))) (tuo t u (o3 (octsD cs) (nI 4) (lineD (setOf g cs 4))))) := by
  have e0 : kTurn (nI 0) (σ34 g (.hot1 []) (tuo t u (o1 (octsD cs)))) = some (.next, σ34 g (.hot1 ((List.range 1).map fun k => D.str (newCs g cs k))) (tuo t u (o3 (octsD cs) (nI 0) (lineD (setOf g cs 0))))) := kTurn0 g cs t u (fun k => .str (newCs g cs k)) hl h5
  have e1 : kTurn (nI 1) (σ34 g (.hot1 ((List.range 1).map fun k => D.str (newCs g cs k))) (tuo t u (o3 (octsD cs) (nI 0) (lineD (setOf g cs 0))))) = some (.next, σ34 g (.hot1 ((List.range 2).map fun k => D.str (newCs g cs k))) (tuo t u (o3 (octsD cs) (nI 1) (lineD (setOf g cs 1))))) := kTurn1 g cs t u _ _ (fun k => .str (newCs g cs k)) hl h5
  have e2 : kTurn (nI 2) (σ34 g (.hot1 ((List.range 2).map fun k => D.str (newCs g cs k))) (tuo t u (o3 (octsD cs) (nI 1) (lineD (setOf g cs 1))))) = some (.next, σ34 g (.hot1 ((List.range 3).map fun k => D.str (newCs g cs k))) (tuo t u (o3 (octsD cs) (nI 2) (lineD (setOf g cs 2))))) := kTurn2 g cs t u _ _ (fun k => .str (newCs g cs k)) hl h5
  have e3 : kTurn (nI 3) (σ34 g (.hot1 ((List.range 3).map fun k => D.str (newCs g cs k))) (tuo t u (o3 (octsD cs) (nI 2) (lineD (setOf g cs 2))))) = some (.next, σ34 g (.hot1 ((List.range 4).map fun k => D.str (newCs g cs k))) (tuo t u (o3 (octsD cs) (nI 3) (lineD (setOf g cs 3))))) := kTurn3 g cs t u _ _ (fun k => .str (newCs g cs k)) hl h5
  have e4 : kTurn (nI 4) (σ34 g (.hot1 ((List.range 4).map fun k => D.str (newCs g cs k))) (tuo t u (o3 (octsD cs) (nI 3) (lineD (setOf g cs 3))))) = some (.next, σ34 g (.hot1 ((List.range 5).map fun k => D.str (newCs g cs k))) (tuo t u (o3 (octsD cs) (nI 4) (lineD (setOf g cs 4))))) := kTurn4 g cs t u _ _ (fun k => .str (newCs g cs k)) hl h5
  rw [forO_next e0, forO_next e1, forO_next e2, forO_next e3, forO_next e4]
  rfl
theorem ks_b : forO kTurn [nI 0, nI 1, nI 2, nI 3, nI 4] (σ34 g (.hot1 []) (tuo t u (o3 (octsD cs) k0 l0))) = some (.next, σ34 g (.hot1 (codesL (newCs g cs))) (tuo t u (o3 (octsD cs) (nI 4) (lineD (setOf g cs 4))))) := by
  have e0 : kTurn (nI 0) (σ34 g (.hot1 []) (tuo t u (o3 (octsD cs) k0 l0))) = some (.next, σ34 g (.hot1 ((List.range 1).map fun k => D.str (newCs g cs k))) (tuo t u (o3 (octsD cs) (nI 0) (lineD (setOf g cs 0))))) := kTurn0b g cs t u k0 l0 (fun k => .str (newCs g cs k)) hl h5
  have e1 : kTurn (nI 1) (σ34 g (.hot1 ((List.range 1).map fun k => D.str (newCs g cs k))) (tuo t u (o3 (octsD cs) (nI 0) (lineD (setOf g cs 0))))) = some (.next, σ34 g (.hot1 ((List.range 2).map fun k => D.str (newCs g cs k))) (tuo t u (o3 (octsD cs) (nI 1) (lineD (setOf g cs 1))))) := kTurn1 g cs t u _ _ (fun k => .str (newCs g cs k)) hl h5
  have e2 : kTurn (nI 2) (σ34 g (.hot1 ((List.range 2).map fun k => D.str (newCs g cs k))) (tuo t u (o3 (octsD cs) (nI 1) (lineD (setOf g cs 1))))) = some (.next, σ34 g (.hot1 ((List.range 3).map fun k => D.str (newCs g cs k))) (tuo t u (o3 (octsD cs) (nI 2) (lineD (setOf g cs 2))))) := kTurn2 g cs t u _ _ (fun k => .str (newCs g cs k)) hl h5
  have e3 : kTurn (nI 3) (σ34 g (.hot1 ((List.range 3).map fun k => D.str (newCs g cs k))) (tuo t u (o3 (octsD cs) (nI 2) (lineD (setOf g cs 2))))) = some (.next, σ34 g (.hot1 ((List.range 4).map fun k => D.str (newCs g cs k))) (tuo t u (o3 (octsD cs) (nI 3) (lineD (setOf g cs 3))))) := kTurn3 g cs t u _ _ (fun k => .str (newCs g cs k)) hl h5
  have e4 : kTurn (nI 4) (σ34 g (.hot1 ((List.range 4).map fun k => D.str (newCs g cs k))) (tuo t u (o3 (octsD cs) (nI 3) (lineD (setOf g cs 3))))) = some (.next, σ34 g (.hot1 ((List.range 5).map fun k => D.str (newCs g cs k))) (tuo t u (o3 (octsD cs) (nI 4) (lineD (setOf g cs 4))))) := kTurn4 g cs t u _ _ (fun k => .str (newCs g cs k)) hl h5
  rw [forO_next e0, forO_next e1, forO_next e2, forO_next e3, forO_next e4]
  rfl
noncomputable def UL (cs : Nat → Str) : D := .list ((usL cs).map .str)
theorem f_a (hok : StrsOk cs) : fTurn t (σ34 g (.cold (.list (codesL cs))) []) = some (.next, σ34 g (.hot1 (codesL (newCs g cs))) (tuo t (UL cs) (o3 (octsD cs) (nI 4) (lineD (setOf g cs 4))))) := by
  unfold fTurn
  have hb : bindS (forT F34) t (σ34 g (.cold (.list (codesL cs))) []) = some (σ34 g (.cold (.list (codesL cs))) [(sO "turn", .cold t)]) := by kernel_rfl
  rw [hb, Option.bind_some, run_all, run_next (st0_a g cs t trivial), run_next (st1_a g cs t hok), run_next (σ' := σ34 g (.hot1 []) (tuo t (UL cs) (o1 (octsD cs)))) (by kernel_rfl)]
  have hv : evV T3 (forI K34) S34 (σ34 g (.hot1 []) (tuo t (UL cs) (o1 (octsD cs)))) = some (.rng 0 5 1, σ34 g (.hot1 []) (tuo t (UL cs) (o1 (octsD cs)))) := by kernel_rfl
  have hs : evS T3 (stN (forB F34) 3) S34 (σ34 g (.hot1 []) (tuo t (UL cs) (o1 (octsD cs)))) = some (.next, σ34 g (.hot1 (codesL (newCs g cs))) (tuo t (UL cs) (o3 (octsD cs) (nI 4) (lineD (setOf g cs 4))))) := by
    show evS T3 K34 _ _ = _
    rw [evS_for (by kernel_rfl) hv (items := [nI 0, nI 1, nI 2, nI 3, nI 4]) (by kernel_rfl)]
    exact ks_a g cs t (UL cs) hl h5
  rw [run_next hs, run_end (by kernel_rfl)]
theorem f_b (t0 : D) (hok : StrsOk cs) : fTurn t (σ34 g (.hot1 (codesL cs)) (tuo t0 u (o3 o k0 l0))) = some (.next, σ34 g (.hot1 (codesL (newCs g cs))) (tuo t (UL cs) (o3 (octsD cs) (nI 4) (lineD (setOf g cs 4))))) := by
  unfold fTurn
  have hb : bindS (forT F34) t (σ34 g (.hot1 (codesL cs)) (tuo t0 u (o3 o k0 l0))) = some (σ34 g (.hot1 (codesL cs)) (tuo t u (o3 o k0 l0))) := by kernel_rfl
  rw [hb, Option.bind_some, run_all, run_next (st0_b g cs t u o k0 l0), run_next (st1_b g cs t o k0 l0 hok), run_next (σ' := σ34 g (.hot1 []) (tuo t (UL cs) (o3 (octsD cs) k0 l0))) (by kernel_rfl)]
  have hv : evV T3 (forI K34) S34 (σ34 g (.hot1 []) (tuo t (UL cs) (o3 (octsD cs) k0 l0))) = some (.rng 0 5 1, σ34 g (.hot1 []) (tuo t (UL cs) (o3 (octsD cs) k0 l0))) := by kernel_rfl
  have hs : evS T3 (stN (forB F34) 3) S34 (σ34 g (.hot1 []) (tuo t (UL cs) (o3 (octsD cs) k0 l0))) = some (.next, σ34 g (.hot1 (codesL (newCs g cs))) (tuo t (UL cs) (o3 (octsD cs) (nI 4) (lineD (setOf g cs 4))))) := by
    show evS T3 K34 _ _ = _
    rw [evS_for (by kernel_rfl) hv (items := [nI 0, nI 1, nI 2, nI 3, nI 4]) (by kernel_rfl)]
    exact ks_b g cs t (UL cs) k0 l0 hl h5
  rw [run_next hs, run_end (by kernel_rfl)]

theorem setOf_mem (k : Nat) : setOf g cs k ∈ subsL := norm_mem (by rw [List.length_map]; exact hl k) fun x hx => by
  obtain ⟨y, hy, rfl⟩ := List.mem_map.mp hx
  exact cl_lt5 (h5 _ _ hy)
theorem newCs_ok : StrsOk (newCs g cs) := fun k z0 => by
  have := List.all_eq_true.mp codes_ok _ (setOf_mem g cs hl h5 k)
  rw [Bool.and_eq_true] at this
  unfold newCs
  cases isQ k
  · exact this.1
  · exact this.2
noncomputable def finalCs (g : Nat → List Nat) : Nat → Str := newCs g (newCs g (newCs g (newCs g cs0)))
theorem codes_run : runF T3 34 (posB [sO "kinds", sO "goals"]) [kindsD, rowsD g] [] = some (.list (codesL (finalCs g))) := by
  have e0 : runF T3 34 (posB [sO "kinds", sO "goals"]) [kindsD, rowsD g] [] = runD T3 B34 S34 [(sO "kinds", .cold kindsD), (sO "goals", .cold (rowsD g))] := by kernel_rfl
  rw [e0]
  have ok1 := newCs_ok g cs0 hl h5
  have ok2 := newCs_ok g (newCs g cs0) hl h5
  have ok3 := newCs_ok g (newCs g (newCs g cs0)) hl h5
  refine runD_of (σ' := σ34 g (.hot1 (codesL (finalCs g))) (tuo (.str (sO "p")) (UL (newCs g (newCs g (newCs g cs0)))) (o3 (octsD (newCs g (newCs g (newCs g cs0)))) (nI 4) (lineD (setOf g (newCs g (newCs g (newCs g cs0))) 4))))) ?_
  rw [run_all, run_next (σ' := σ34 g (.cold (.list (codesL cs0))) []) (by kernel_rfl)]
  have hv : evV T3 (forI F34) S34 (σ34 g (.cold (.list (codesL cs0))) []) = some (.list [.str (sO "q"), .str (sO "p"), .str (sO "q"), .str (sO "p")], σ34 g (.cold (.list (codesL cs0))) []) := by kernel_rfl
  have hs : evS T3 (stN B34 1) S34 (σ34 g (.cold (.list (codesL cs0))) []) = some (.next, σ34 g (.hot1 (codesL (finalCs g))) (tuo (.str (sO "p")) (UL (newCs g (newCs g (newCs g cs0)))) (o3 (octsD (newCs g (newCs g (newCs g cs0)))) (nI 4) (lineD (setOf g (newCs g (newCs g (newCs g cs0))) 4))))) := by
    show evS T3 F34 _ _ = _
    rw [evS_for (by kernel_rfl) hv (iterD_list (by simp))]
    show forO fTurn _ _ = _
    rw [forO_next (f_a g cs0 _ hl h5 cs0_ok), forO_next (f_b g (newCs g cs0) _ _ _ _ _ hl h5 _ ok1), forO_next (f_b g (newCs g (newCs g cs0)) _ _ _ _ _ hl h5 _ ok2), forO_next (f_b g (newCs g (newCs g (newCs g cs0))) _ _ _ _ _ hl h5 _ ok3)]
    rfl
  rw [run_next hs]
  exact run_ret (by kernel_rfl)
end
end Mine

end

section
set_option linter.unusedSectionVars false
set_option maxRecDepth 100000
namespace Mine

/-! ## the kinds: what can be told apart -/
noncomputable def leB (a b : B4) : Prop := (a.p = true → b.p = true) ∧ (a.q = true → b.q = true) ∧ (a.r = true → b.r = true) ∧ (a.s = true → b.s = true)
theorem leB_refl (a : B4) : leB a a := ⟨id, id, id, id⟩
theorem leB_trans {a b c : B4} (x : leB a b) (y : leB b c) : leB a c := ⟨y.1 ∘ x.1, y.2.1 ∘ x.2.1, y.2.2.1 ∘ x.2.2.1, y.2.2.2 ∘ x.2.2.2⟩
theorem leB_anti {a b : B4} (x : leB a b) (y : leB b a) : a = b := by
  obtain ⟨p, q, r, s⟩ := a
  obtain ⟨p', q', r', s'⟩ := b
  obtain ⟨x1, x2, x3, x4⟩ := x
  obtain ⟨y1, y2, y3, y4⟩ := y
  dsimp only at *
  rw [Bool.eq_iff_iff.mpr ⟨x1, y1⟩, Bool.eq_iff_iff.mpr ⟨x2, y2⟩, Bool.eq_iff_iff.mpr ⟨x3, y3⟩, Bool.eq_iff_iff.mpr ⟨x4, y4⟩]

theorem mat_mono {a b : B4} (h : leB a b) {i j : Nat} (hi : i < 5) (hj : j < 5) : mat a i j = true → mat b i j = true := by
  obtain ⟨h1, h2, h3, h4⟩ := h
  match i, hi, j, hj with
  | 0, _, 0, _ => exact fun z0 => rfl
  | 0, _, 1, _ => exact fun h => h
  | 0, _, 2, _ => exact h1
  | 0, _, 3, _ => exact fun h => h
  | 0, _, 4, _ => exact h2
  | 1, _, 0, _ => exact fun h => h
  | 1, _, 1, _ => exact fun z0 => rfl
  | 1, _, 2, _ => exact fun h => h
  | 1, _, 3, _ => exact h4
  | 1, _, 4, _ => exact fun h => h
  | 2, _, 0, _ => exact h1
  | 2, _, 1, _ => exact fun h => h
  | 2, _, 2, _ => exact fun z0 => rfl
  | 2, _, 3, _ => exact fun h => h
  | 2, _, 4, _ => exact h3
  | 3, _, 0, _ => exact fun h => h
  | 3, _, 1, _ => exact h4
  | 3, _, 2, _ => exact fun h => h
  | 3, _, 3, _ => exact fun z0 => rfl
  | 3, _, 4, _ => exact fun h => h
  | 4, _, 0, _ => exact h2
  | 4, _, 1, _ => exact fun h => h
  | 4, _, 2, _ => exact h3
  | 4, _, 3, _ => exact fun h => h
  | 4, _, 4, _ => exact fun z0 => rfl
theorem chk_iff {g : Nat → List Nat} {b : B4} {u v : Nat} : chk g b u v = true ↔ (∀ s ∈ g u, ∃ t ∈ g v, mat b s t = true) ∧ ∀ t ∈ g v, ∃ s ∈ g u, mat b s t = true := by
  unfold chk
  rw [Bool.and_eq_true, List.all_eq_true, List.all_eq_true]
  simp only [List.any_eq_true]
section
variable {g : Nat → List Nat} (h5 : ∀ k x, x ∈ g k → x < 5)
include h5
theorem chk_mono {a b : B4} (h : leB a b) (u v : Nat) : chk g a u v = true → chk g b u v = true := by
  rw [chk_iff, chk_iff]
  rintro ⟨h1, h2⟩
  refine ⟨fun s hs => ?_, fun t ht => ?_⟩
  · obtain ⟨t, ht, q⟩ := h1 s hs
    exact ⟨t, ht, mat_mono h (h5 _ _ hs) (h5 _ _ ht) q⟩
  · obtain ⟨s, hs, q⟩ := h2 t ht
    exact ⟨s, hs, mat_mono h (h5 _ _ hs) (h5 _ _ ht) q⟩

noncomputable def phi (g : Nat → List Nat) (b : B4) : B4 := ⟨chk g b 2 0, chk g b 4 0, chk g b 4 2, chk g b 3 1⟩
theorem phi_mono {a b : B4} (h : leB a b) : leB (phi g a) (phi g b) := ⟨chk_mono h5 h 2 0, chk_mono h5 h 4 0, chk_mono h5 h 4 2, chk_mono h5 h 3 1⟩
noncomputable def Et (g : Nat → List Nat) : Nat → B4
  | 0 => topB
  | t + 1 => phi g (Et g t)
theorem Et_le : ∀ t, leB (Et g (t + 1)) (Et g t)
  | 0 => ⟨fun z0 => rfl, fun z0 => rfl, fun z0 => rfl, fun z0 => rfl⟩
  | t + 1 => phi_mono h5 (Et_le t)
end

/-! patterns -/
noncomputable def Pat (cs : Nat → Str) (b : B4) : Prop := ∀ i j, i < 5 → j < 5 → (cs i = cs j ↔ mat b i j = true)
theorem pat_top : Pat cs0 topB := by
  have : ∀ i < 5, ∀ j < 5, (decide (cs0 i = cs0 j)) = mat topB i j := by decide +kernel
  intro i j hi hj
  rw [← this i hi j hj, decide_eq_true_eq]

theorem findIdx_inj {us : List Str} {a b : Str} (ha : a ∈ us) (h : us.findIdx (· == a) = us.findIdx (· == b)) : a = b := by
  have h1 : us.findIdx (· == a) < us.length := List.findIdx_lt_length_of_exists ⟨a, ha, by simp⟩
  have e1 : (us[us.findIdx (· == a)] == a) = true := List.findIdx_getElem (w := h1)
  have h2 : us.findIdx (· == b) < us.length := h ▸ h1
  have e2 : (us[us.findIdx (· == b)] == b) = true := List.findIdx_getElem (w := h2)
  simp only [beq_iff_eq] at e1 e2
  rw [← e1, ← e2]
  congr 1
theorem cl_iff {cs : Nat → Str} {i j : Nat} (hi : i < 5) (hj : j < 5) : cl cs i = cl cs j ↔ cs i = cs j := by
  constructor
  · exact findIdx_inj (usL_mem.mpr ⟨i, hi, rfl⟩)
  · intro h; unfold cl; rw [h]

theorem codeQ_inj : ∀ S ∈ subsL, ∀ S' ∈ subsL, ∀ q q' : Bool, codeQ q S = codeQ q' S' → q = q' ∧ S = S' := by
  have h : subsL.all (fun S => subsL.all fun S' => !(codeQ false S == codeQ true S') && !(codeQ true S == codeQ false S') && (!(codeQ false S == codeQ false S') || S == S') && (!(codeQ true S == codeQ true S') || S == S')) = true := by decide +kernel
  intro S hS S' hS' q q' e
  have h1 := List.all_eq_true.mp (List.all_eq_true.mp h S hS) S' hS'
  simp only [Bool.and_eq_true, Bool.or_eq_true, Bool.not_eq_true', beq_eq_false_iff_ne, beq_iff_eq] at h1
  obtain ⟨⟨⟨a, b⟩, c⟩, d⟩ := h1
  cases q <;> cases q'
  · exact ⟨rfl, c.resolve_left fun z => z e⟩
  · exact absurd e a
  · exact absurd e b
  · exact ⟨rfl, d.resolve_left fun z => z e⟩

theorem norm_eq_iff {xs ys : List Nat} (hx : ∀ x ∈ xs, x < 5) (hy : ∀ y ∈ ys, y < 5) : norm xs = norm ys ↔ ∀ x, x ∈ xs ↔ x ∈ ys := by
  have hm : ∀ (zs : List Nat), (∀ z ∈ zs, z < 5) → ∀ x, x ∈ norm zs ↔ x ∈ zs := fun zs hz x => by
    unfold norm
    rw [List.mem_filter, List.mem_range, List.contains_iff_mem]
    exact ⟨fun h => h.2, fun h => ⟨hz x h, h⟩⟩
  constructor
  · intro h x
    rw [← hm xs hx, ← hm ys hy, h]
  · intro h
    unfold norm
    refine List.filter_congr fun x z0 => ?_
    rw [Bool.eq_iff_iff, List.contains_iff_mem, List.contains_iff_mem]
    exact h x

section
variable {g : Nat → List Nat} (hl : ∀ k, (g k).length ≤ 3) (h5 : ∀ k x, x ∈ g k → x < 5)
include hl h5
theorem setOf_iff {cs : Nat → Str} {b : B4} (hp : Pat cs b) (i j : Nat) : setOf g cs i = setOf g cs j ↔ chk g b i j = true := by
  have lt : ∀ k, ∀ x ∈ (g k).map (cl cs), x < 5 := fun k x hx => by
    obtain ⟨y, hy, rfl⟩ := List.mem_map.mp hx
    exact cl_lt5 (h5 _ _ hy)
  unfold setOf
  rw [norm_eq_iff (lt i) (lt j), chk_iff]
  have key : ∀ s t, s ∈ g i → t ∈ g j → (cl cs s = cl cs t ↔ mat b s t = true) := fun s t hs ht => (cl_iff (h5 _ _ hs) (h5 _ _ ht)).trans (hp s t (h5 _ _ hs) (h5 _ _ ht))
  constructor
  · intro h
    refine ⟨fun s hs => ?_, fun t ht => ?_⟩
    · obtain ⟨t, ht, e⟩ := List.mem_map.mp ((h (cl cs s)).mp (List.mem_map.mpr ⟨s, hs, rfl⟩))
      exact ⟨t, ht, (key s t hs ht).mp e.symm⟩
    · obtain ⟨s, hs, e⟩ := List.mem_map.mp ((h (cl cs t)).mpr (List.mem_map.mpr ⟨t, ht, rfl⟩))
      exact ⟨s, hs, (key s t hs ht).mp e⟩
  · rintro ⟨h1, h2⟩ x
    constructor
    · intro hx
      obtain ⟨s, hs, rfl⟩ := List.mem_map.mp hx
      obtain ⟨t, ht, q⟩ := h1 s hs
      exact List.mem_map.mpr ⟨t, ht, ((key s t hs ht).mpr q).symm⟩
    · intro hx
      obtain ⟨t, ht, rfl⟩ := List.mem_map.mp hx
      obtain ⟨s, hs, q⟩ := h2 t ht
      exact List.mem_map.mpr ⟨s, hs, (key s t hs ht).mpr q⟩
theorem new_iff {cs : Nat → Str} {b : B4} (hp : Pat cs b) (i j : Nat) : newCs g cs i = newCs g cs j ↔ isQ i = isQ j ∧ chk g b i j = true := by
  unfold newCs
  constructor
  · intro h
    obtain ⟨h1, h2⟩ := codeQ_inj _ (setOf_mem g cs hl h5 i) _ (setOf_mem g cs hl h5 j) _ _ h
    exact ⟨h1, (setOf_iff hl h5 hp i j).mp h2⟩
  · rintro ⟨h1, h2⟩
    rw [h1, (setOf_iff hl h5 hp i j).mpr h2]
theorem pat_new {cs : Nat → Str} {b : B4} (hp : Pat cs b) : Pat (newCs g cs) (phi g b) := by
  have n := new_iff hl h5 hp
  have no : ∀ i j, isQ i ≠ isQ j → (newCs g cs i = newCs g cs j ↔ false = true) := fun i j h => ⟨fun e => absurd ((n i j).mp e).1 h, fun e => by cases e⟩
  have yes : ∀ i j, isQ i = isQ j → (newCs g cs i = newCs g cs j ↔ chk g b i j = true) := fun i j h => (n i j).trans ⟨fun e => e.2, fun e => ⟨h, e⟩⟩
  have yes' : ∀ i j, isQ i = isQ j → (newCs g cs j = newCs g cs i ↔ chk g b i j = true) := fun i j h => ⟨fun e => (yes i j h).mp e.symm, fun e => ((yes i j h).mpr e).symm⟩
  intro i j hi hj
  match i, hi, j, hj with
  | 0, _, 0, _ => exact ⟨fun z0 => rfl, fun z0 => rfl⟩
  | 0, _, 1, _ => exact no 0 1 (by decide)
  | 0, _, 2, _ => exact yes' 2 0 (by decide)
  | 0, _, 3, _ => exact no 0 3 (by decide)
  | 0, _, 4, _ => exact yes' 4 0 (by decide)
  | 1, _, 0, _ => exact no 1 0 (by decide)
  | 1, _, 1, _ => exact ⟨fun z0 => rfl, fun z0 => rfl⟩
  | 1, _, 2, _ => exact no 1 2 (by decide)
  | 1, _, 3, _ => exact yes' 3 1 (by decide)
  | 1, _, 4, _ => exact no 1 4 (by decide)
  | 2, _, 0, _ => exact yes 2 0 (by decide)
  | 2, _, 1, _ => exact no 2 1 (by decide)
  | 2, _, 2, _ => exact ⟨fun z0 => rfl, fun z0 => rfl⟩
  | 2, _, 3, _ => exact no 2 3 (by decide)
  | 2, _, 4, _ => exact yes' 4 2 (by decide)
  | 3, _, 0, _ => exact no 3 0 (by decide)
  | 3, _, 1, _ => exact yes 3 1 (by decide)
  | 3, _, 2, _ => exact no 3 2 (by decide)
  | 3, _, 3, _ => exact ⟨fun z0 => rfl, fun z0 => rfl⟩
  | 3, _, 4, _ => exact no 3 4 (by decide)
  | 4, _, 0, _ => exact yes 4 0 (by decide)
  | 4, _, 1, _ => exact no 4 1 (by decide)
  | 4, _, 2, _ => exact yes 4 2 (by decide)
  | 4, _, 3, _ => exact no 4 3 (by decide)
  | 4, _, 4, _ => exact ⟨fun z0 => rfl, fun z0 => rfl⟩

/-- a partition -/
noncomputable def isPart (b : B4) : Bool := (!(b.p && b.q) || b.r) && (!(b.p && b.r) || b.q) && (!(b.q && b.r) || b.p)
noncomputable def rankB (b : B4) : Nat := (if b.s then 0 else 1) + (if b.p && b.q then 0 else if b.p || b.q || b.r then 1 else 2)
noncomputable def csT (g : Nat → List Nat) : Nat → Nat → Str
  | 0 => cs0
  | t + 1 => newCs g (csT g t)
theorem pat_t : ∀ t, Pat (csT g t) (Et g t)
  | 0 => pat_top
  | t + 1 => pat_new hl h5 (pat_t t)
omit hl h5 in
theorem pat_part {cs : Nat → Str} {b : B4} (hp : Pat cs b) : isPart b = true := by
  have h02 := hp 0 2 (by decide) (by decide)
  have h04 := hp 0 4 (by decide) (by decide)
  have h24 := hp 2 4 (by decide) (by decide)
  change cs 0 = cs 2 ↔ b.p = true at h02
  change cs 0 = cs 4 ↔ b.q = true at h04
  change cs 2 = cs 4 ↔ b.r = true at h24
  obtain ⟨p, q, r, s⟩ := b
  dsimp only at *
  cases p <;> cases q <;> cases r <;> first | rfl | (exfalso; simp only [iff_true, iff_false, Bool.false_eq_true] at h02 h04 h24; simp_all)
omit hl h5 in
theorem rank_lt {a b : B4} (ha : isPart a = true) (hb : isPart b = true) (h : leB a b) (hne : a ≠ b) : rankB b < rankB a := by
  obtain ⟨p, q, r, s⟩ := a
  obtain ⟨p', q', r', s'⟩ := b
  obtain ⟨h1, h2, h3, h4⟩ := h
  have key : ∀ p q r s p' q' r' s' : Bool, (isPart ⟨p, q, r, s⟩ && isPart ⟨p', q', r', s'⟩ && (!p || p') && (!q || q') && (!r || r') && (!s || s') && !(p == p' && q == q' && r == r' && s == s')) = true → rankB ⟨p', q', r', s'⟩ < rankB ⟨p, q, r, s⟩ := by
    decide +kernel
  refine key p q r s p' q' r' s' ?_
  dsimp only at h1 h2 h3 h4
  have im : ∀ {x y : Bool}, (x = true → y = true) → (!x || y) = true := fun {x y} h => by cases x <;> cases y <;> simp_all
  rw [ha, hb, im h1, im h2, im h3, im h4]
  simp only [Bool.and_true, Bool.true_and, Bool.not_eq_true', Bool.and_eq_false_iff, beq_eq_false_iff_ne]
  by_cases e1 : p = p'
  · by_cases e2 : q = q'
    · by_cases e3 : r = r'
      · by_cases e4 : s = s'
        · exact absurd (by rw [e1, e2, e3, e4]) hne
        · exact .inr e4
      · exact .inl (.inr e3)
    · exact .inl (.inl (.inr e2))
  · exact .inl (.inl (.inl e1))
theorem stable : phi g (Et g 3) = Et g 3 := by
  have part := fun t => pat_part (pat_t hl h5 t)
  have step : ∀ t, Et g (t + 1) = Et g t ∨ rankB (Et g t) < rankB (Et g (t + 1)) := fun t => by
    by_cases e : Et g (t + 1) = Et g t
    · exact .inl e
    · exact .inr (rank_lt (part _) (part _) (Et_le h5 t) e)
  have prop : ∀ t, Et g (t + 1) = Et g t → Et g (t + 2) = Et g (t + 1) := fun t e => by
    show phi g (Et g (t + 1)) = phi g (Et g t)
    rw [e]
  have top : rankB (Et g 4) ≤ 3 := by
    have : ∀ b : B4, rankB b ≤ 3 := fun b => by
      unfold rankB
      split <;> split <;> (try split) <;> lia
    exact this _
  show Et g 4 = Et g 3
  rcases step 3 with e | e3
  · exact e
  · rcases step 2 with e | e2
    · exact prop 2 e
    · rcases step 1 with e | e1
      · exact prop 2 (prop 1 e)
      · rcases step 0 with e | e0
        · exact prop 2 (prop 1 (prop 0 e))
        · change rankB (Et g 0) < rankB (Et g 1) at e0
          change rankB (Et g 1) < rankB (Et g 2) at e1
          change rankB (Et g 2) < rankB (Et g 3) at e2
          change rankB (Et g 3) < rankB (Et g 4) at e3
          lia

theorem stepB_le {b c : B4} (h : leB b c) : leB (stepB g b) (phi g c) ∧ leB (stepB g b) b := by
  have and1 : ∀ {x y : Bool}, (x && y) = true → x = true := fun h => (Bool.and_eq_true _ _ ▸ h : _ ∧ _).1
  have and2 : ∀ {x y : Bool}, (x && y) = true → y = true := fun h => (Bool.and_eq_true _ _ ▸ h : _ ∧ _).2
  have l1 : leB { b with p := b.p && chk g b 2 0 } b := ⟨and1, id, id, id⟩
  generalize hb1 : ({ b with p := b.p && chk g b 2 0 } : B4) = b1 at l1
  have l2 : leB { b1 with s := b1.s && chk g b1 3 1 } b1 := ⟨id, id, id, and1⟩
  generalize hb2 : ({ b1 with s := b1.s && chk g b1 3 1 } : B4) = b2 at l2
  have l3 : leB { b2 with q := b2.q && chk g b2 4 0 } b2 := ⟨id, and1, id, id⟩
  generalize hb3 : ({ b2 with q := b2.q && chk g b2 4 0 } : B4) = b3 at l3
  have l4 : leB { b3 with r := b3.r && chk g b3 4 2 } b3 := ⟨id, id, and1, id⟩
  have e : stepB g b = { b3 with r := b3.r && chk g b3 4 2 } := by rw [← hb3, ← hb2, ← hb1]; rfl
  rw [e]
  have m1 := leB_trans l1 h
  have m2 := leB_trans l2 m1
  have m3 := leB_trans l3 m2
  refine ⟨⟨fun z => ?_, fun z => ?_, fun z => ?_, fun z => ?_⟩, leB_trans l4 (leB_trans l3 (leB_trans l2 l1))⟩
  · refine chk_mono h5 h 2 0 ?_
    have z1 : b3.p = true := z
    have z2 := l2.1 (l3.1 z1)
    rw [← hb1] at z2
    exact and2 z2
  · refine chk_mono h5 m2 4 0 ?_
    have z1 : b3.q = true := z
    rw [← hb3] at z1
    exact and2 z1
  · exact chk_mono h5 m3 4 2 (and2 z)
  · refine chk_mono h5 m1 3 1 ?_
    have z1 : b3.s = true := z
    have z2 := l3.2.2.2 z1
    rw [← hb2] at z2
    exact and2 z2
theorem stepB_ge {b c : B4} (h : leB c b) (hc : phi g c = c) : leB c (stepB g b) := by
  have and : ∀ {x y : Bool}, x = true → y = true → (x && y) = true := fun h1 h2 => by rw [h1, h2]; rfl
  have up : ∀ {d : B4}, leB c d → (c.p = true → chk g d 2 0 = true) ∧ (c.q = true → chk g d 4 0 = true) ∧ (c.r = true → chk g d 4 2 = true) ∧ (c.s = true → chk g d 3 1 = true) := fun {d} hd => by
    have := phi_mono h5 hd
    rw [hc] at this
    exact this
  have l1 : leB c { b with p := b.p && chk g b 2 0 } := ⟨fun z => and (h.1 z) ((up h).1 z), h.2.1, h.2.2.1, h.2.2.2⟩
  generalize hb1 : ({ b with p := b.p && chk g b 2 0 } : B4) = b1 at l1
  have l2 : leB c { b1 with s := b1.s && chk g b1 3 1 } := ⟨l1.1, l1.2.1, l1.2.2.1, fun z => and (l1.2.2.2 z) ((up l1).2.2.2 z)⟩
  generalize hb2 : ({ b1 with s := b1.s && chk g b1 3 1 } : B4) = b2 at l2
  have l3 : leB c { b2 with q := b2.q && chk g b2 4 0 } := ⟨l2.1, fun z => and (l2.2.1 z) ((up l2).2.1 z), l2.2.2.1, l2.2.2.2⟩
  generalize hb3 : ({ b2 with q := b2.q && chk g b2 4 0 } : B4) = b3 at l3
  have l4 : leB c { b3 with r := b3.r && chk g b3 4 2 } := ⟨l3.1, l3.2.1, fun z => and (l3.2.2.1 z) ((up l3).2.2.1 z), l3.2.2.2⟩
  have e : stepB g b = { b3 with r := b3.r && chk g b3 4 2 } := by rw [← hb3, ← hb2, ← hb1]; rfl
  rw [e]; exact l4
theorem alike_is : alikeB g = Et g 3 := by
  have st := stable hl h5
  have lo : ∀ {b}, leB (Et g 3) b → leB (Et g 3) (stepB g b) := fun h => stepB_ge hl h5 h st
  have up : ∀ {b t}, leB b (Et g t) → leB (stepB g b) (Et g (t + 1)) := fun h => (stepB_le hl h5 h).1
  have E0 : leB (Et g 3) topB := ⟨fun z0 => rfl, fun z0 => rfl, fun z0 => rfl, fun z0 => rfl⟩
  refine leB_anti ?_ (lo (lo (lo (lo (lo E0)))))
  have h := up (up (up (up (up (leB_refl (Et g 0))))))
  have e4 : Et g 4 = Et g 3 := st
  have e5 : Et g 5 = Et g 3 := by
    show phi g (Et g 4) = _
    rw [e4]; exact st
  rw [e5] at h
  exact h
end
end Mine

end

section
set_option linter.unusedSectionVars false
set_option maxRecDepth 100000
namespace Mine

/-! ## first and last ones -/
noncomputable def firstsL (b : B4) : List Nat := (List.range 5).filter fun k => !(List.range k).any fun j => mat b k j
noncomputable def lastsL (b : B4) : List Nat := ((List.range 5).filter fun i => !(List.range i).any fun j => mat b (4 - i) (4 - j)).map (4 - ·)
noncomputable def clsB (b : B4) (k : Nat) : Nat := (firstsL b).findIdx fun f => mat b k f

theorem fold_firsts {f : Nat → Str} {m : Nat → Nat → Bool} : ∀ (n : Nat), (∀ i j, i < n → j < n → (f i = f j ↔ m i j = true)) → ((List.range n).map f).foldl putKey [] = ((List.range n).filter fun k => !(List.range k).any fun j => m k j).map f
  | 0, _ => rfl
  | n + 1, h => by
    have ih := fold_firsts n fun i j hi hj => h i j (by lia) (by lia)
    rw [List.range_succ, List.map_append, List.foldl_append, ih, List.filter_append, List.map_append]
    have hm : f n ∈ ((List.range n).filter fun k => !(List.range k).any fun j => m k j).map f ↔ ((List.range n).any fun j => m n j) = true := by
      rw [← ih, foldl_putKey_mem, List.any_eq_true]
      simp only [List.not_mem_nil, false_or, List.mem_map, List.mem_range]
      constructor
      · rintro ⟨j, hj, e⟩
        exact ⟨j, hj, (h n j (by lia) (by lia)).mp e.symm⟩
      · rintro ⟨j, hj, e⟩
        exact ⟨j, hj, ((h n j (by lia) (by lia)).mpr e).symm⟩
    show putKey _ (f n) = _
    unfold putKey
    by_cases hc : ((List.range n).any fun j => m n j) = true
    · rw [if_pos (hm.mpr hc)]
      have : ([n].filter fun k => !(List.range k).any fun j => m k j) = [] := by
        rw [List.filter_cons, hc]; rfl
      rw [this]; simp
    · rw [if_neg fun z => hc (hm.mp z)]
      have : ([n].filter fun k => !(List.range k).any fun j => m k j) = [n] := by
        rw [List.filter_cons]
        have : ((List.range n).any fun j => m n j) = false := by simpa using hc
        rw [this]; rfl
      rw [this]; rfl

theorem mat_symm (b : B4) {i j : Nat} (hi : i < 5) (hj : j < 5) : mat b i j = mat b j i := by
  match i, hi, j, hj with
  | 0, _, 0, _ => rfl
  | 0, _, 1, _ => rfl
  | 0, _, 2, _ => rfl
  | 0, _, 3, _ => rfl
  | 0, _, 4, _ => rfl
  | 1, _, 0, _ => rfl
  | 1, _, 1, _ => rfl
  | 1, _, 2, _ => rfl
  | 1, _, 3, _ => rfl
  | 1, _, 4, _ => rfl
  | 2, _, 0, _ => rfl
  | 2, _, 1, _ => rfl
  | 2, _, 2, _ => rfl
  | 2, _, 3, _ => rfl
  | 2, _, 4, _ => rfl
  | 3, _, 0, _ => rfl
  | 3, _, 1, _ => rfl
  | 3, _, 2, _ => rfl
  | 3, _, 3, _ => rfl
  | 3, _, 4, _ => rfl
  | 4, _, 0, _ => rfl
  | 4, _, 1, _ => rfl
  | 4, _, 2, _ => rfl
  | 4, _, 3, _ => rfl
  | 4, _, 4, _ => rfl
theorem usL_firsts {cs : Nat → Str} {b : B4} (hp : Pat cs b) : usL cs = (firstsL b).map cs := fold_firsts 5 fun i j hi hj => hp i j hi hj
theorem firsts_lt {b : B4} {f : Nat} (h : f ∈ firstsL b) : f < 5 := List.mem_range.mp (List.mem_filter.mp h).1
theorem findIdx_congr {α : Type} {p q : α → Bool} : ∀ {xs : List α}, (∀ x ∈ xs, p x = q x) → xs.findIdx p = xs.findIdx q
  | [], _ => rfl
  | x :: r, h => by
    rw [List.findIdx_cons, List.findIdx_cons, h x List.mem_cons_self, findIdx_congr fun y hy => h y (List.mem_cons_of_mem _ hy)]
theorem findIdx_map' {α β : Type} {f : α → β} {p : β → Bool} : ∀ (xs : List α), (xs.map f).findIdx p = xs.findIdx fun x => p (f x)
  | [] => rfl
  | x :: r => by rw [List.map_cons, List.findIdx_cons, List.findIdx_cons, findIdx_map' r]
theorem cl_is {cs : Nat → Str} {b : B4} (hp : Pat cs b) {k : Nat} (hk : k < 5) : cl cs k = clsB b k := by
  unfold cl clsB
  rw [usL_firsts hp, findIdx_map']
  refine findIdx_congr fun f hf => ?_
  have hf5 := firsts_lt hf
  rw [Bool.eq_iff_iff, beq_iff_eq, hp f k hf5 hk, mat_symm b hf5 hk]
/-- keys from the last on -/
theorem rev_lasts {cs : Nat → Str} {b : B4} (hp : Pat cs b) : ((List.range 5).map fun i => cs (4 - i)).foldl putKey [] = (lastsL b).map cs := by
  rw [fold_firsts (f := fun i => cs (4 - i)) (m := fun i j => mat b (4 - i) (4 - j)) 5 fun i j hi hj => hp _ _ (by lia) (by lia)]
  unfold lastsL
  rw [List.map_map]; rfl
theorem lasts_lt {b : B4} {f : Nat} (h : f ∈ lastsL b) : f < 5 := by
  unfold lastsL at h
  rw [List.mem_map] at h
  obtain ⟨i, hi, rfl⟩ := h
  lia
theorem putKey_nodup {ks : List Str} {k : Str} (h : ks.Nodup) : (putKey ks k).Nodup := by
  unfold putKey
  split
  · exact h
  · rename_i hn
    exact List.nodup_append.mpr ⟨h, by simp, fun a ha b hb e => hn (by rw [List.mem_singleton] at hb; rw [← hb, ← e]; exact ha)⟩
theorem fold_nodup : ∀ (xs ks : List Str), ks.Nodup → (xs.foldl putKey ks).Nodup
  | [], _, h => h
  | x :: r, ks, h => fold_nodup r _ (putKey_nodup h)
theorem fold_id : ∀ (xs ks : List Str), (ks ++ xs).Nodup → xs.foldl putKey ks = ks ++ xs
  | [], ks, _ => by simp
  | x :: r, ks, h => by
    have hx : x ∉ ks := fun hm => by
      rw [List.nodup_append] at h
      exact h.2.2 x hm x List.mem_cons_self rfl
    rw [List.foldl_cons]
    have : putKey ks x = ks ++ [x] := by unfold putKey; rw [if_neg hx]
    rw [this, fold_id r _ (by simpa using h)]
    simp
theorem keysO_is (xs ks : List Str) : keysO (xs.map .str) ks = some (xs.foldl putKey ks) := congrArg (Option.map fun (l : List Str) => l.foldl putKey ks) (strsOf_map xs)

/-! ## the same kinds -/
noncomputable def dedN : List Nat → List Nat → List Nat
  | acc, [] => acc
  | acc, x :: r => dedN (if acc.contains x then acc else acc ++ [x]) r
noncomputable def strikeN : List Nat → List Nat → Option (List Nat)
  | [], t => some t
  | d :: r, t => match t.findIdx? (· == d) with
    | some j => strikeN r (t.eraseIdx j)
    | none => none
theorem dedN_mem {x : Nat} : ∀ (xs acc : List Nat), x ∈ dedN acc xs ↔ x ∈ acc ∨ x ∈ xs
  | [], acc => by simp [dedN]
  | y :: r, acc => by
    rw [dedN, dedN_mem r]
    split
    · rename_i h
      rw [List.contains_iff_mem] at h
      simp only [List.mem_cons]
      constructor
      · rintro (a | a)
        · exact .inl a
        · exact .inr (.inr a)
      · rintro (a | rfl | a)
        · exact .inl a
        · exact .inl h
        · exact .inr a
    · simp only [List.mem_append, List.mem_cons, or_assoc, List.not_mem_nil, or_false]
theorem dedN_nodup : ∀ (xs acc : List Nat), acc.Nodup → (dedN acc xs).Nodup
  | [], _, h => h
  | y :: r, acc, h => by
    rw [dedN]
    refine dedN_nodup r _ ?_
    split
    · exact h
    · rename_i hn
      rw [List.contains_iff_mem] at hn
      exact List.nodup_append.mpr ⟨h, by simp, fun a ha b hb e => hn (by rw [List.mem_singleton] at hb; rw [← hb, ← e]; exact ha)⟩
theorem dedN_len : ∀ (xs acc : List Nat), (dedN acc xs).length ≤ acc.length + xs.length
  | [], acc => by simp [dedN]
  | y :: r, acc => by
    rw [dedN]
    refine Nat.le_trans (dedN_len r _) ?_
    split <;> simp <;> lia
theorem strike_some {t : List Nat} {d : Nat} (h : d ∈ t) (hn : t.Nodup) : ∃ j, t.findIdx? (· == d) = some j ∧ (t.eraseIdx j).Nodup ∧ ∀ x, x ∈ t.eraseIdx j ↔ x ∈ t ∧ x ≠ d := by
  have h1 : t.findIdx (· == d) < t.length := List.findIdx_lt_length_of_exists ⟨d, h, by simp⟩
  refine ⟨t.findIdx (· == d), List.findIdx?_eq_some_iff_findIdx_eq.mpr ⟨h1, rfl⟩, ?_, ?_⟩
  · exact hn.sublist (List.eraseIdx_sublist _ _)
  · have e : t.eraseIdx (t.findIdx (· == d)) = t.erase d := by
      rw [List.erase_eq_eraseIdx]
      have : t.idxOf? d = some (t.findIdx (· == d)) := List.findIdx?_eq_some_iff_findIdx_eq.mpr ⟨h1, rfl⟩
      rw [this]
    intro x
    rw [e, hn.mem_erase_iff]
    exact And.comm
noncomputable def endB : Option (List Nat) → Bool
  | none => false
  | some t => t.isEmpty
theorem strikeN_is : ∀ (xs t : List Nat), xs.Nodup → t.Nodup → (endB (strikeN xs t) = true ↔ ∀ x, x ∈ xs ↔ x ∈ t)
  | [], t, _, _ => by
    simp only [strikeN, endB, List.isEmpty_iff]
    constructor
    · rintro rfl; simp
    · intro h
      rw [List.eq_nil_iff_forall_not_mem]
      intro x hx
      have := (h x).mpr hx
      cases this
  | d :: r, t, hx, ht => by
    rw [List.nodup_cons] at hx
    rw [strikeN]
    by_cases hd : d ∈ t
    · obtain ⟨j, hj, hn, hm⟩ := strike_some hd ht
      rw [hj]
      dsimp only
      rw [strikeN_is r _ hx.2 hn]
      constructor
      · intro h x
        rw [List.mem_cons]
        constructor
        · rintro (rfl | hr)
          · exact hd
          · exact ((hm x).mp ((h x).mp hr)).1
        · intro hxt
          by_cases e : x = d
          · exact .inl e
          · exact .inr ((h x).mpr ((hm x).mpr ⟨hxt, e⟩))
      · intro h x
        rw [hm]
        constructor
        · intro hr
          exact ⟨(h x).mp (List.mem_cons_of_mem _ hr), fun e => hx.1 (e ▸ hr)⟩
        · rintro ⟨h1, h2⟩
          exact (List.mem_cons.mp ((h x).mpr h1)).resolve_left h2
    · have : t.findIdx? (· == d) = none := by
        rw [List.findIdx?_eq_none_iff]
        intro x hxt
        rw [beq_eq_false_iff_ne]
        rintro rfl; exact hd hxt
      rw [this]
      dsimp only
      constructor
      · intro h; cases h
      · intro h; exact absurd ((h d).mp List.mem_cons_self) hd
end Mine

end

section
set_option linter.unusedSectionVars false
set_option maxRecDepth 100000
namespace Mine

/-! ## the same kinds, as the text asks -/
theorem eraseIdx_map' {α β : Type} {f : α → β} : ∀ (xs : List α) (j : Nat), (xs.map f).eraseIdx j = (xs.eraseIdx j).map f
  | [], _ => rfl
  | _ :: _, 0 => rfl
  | x :: r, j + 1 => by
    rw [List.map_cons, List.eraseIdx_cons_succ, List.eraseIdx_cons_succ, List.map_cons, eraseIdx_map' r j]
theorem eqB_up {L L' : List D → Bool} (ih : ∀ xs, L xs = true → L' xs = true) (d : D) (e : eqB L d = true) : eqB L' d = true := by
  cases d with
  | list xs => exact ih xs e
  | tuple xs => exact ih xs e
  | _ => exact e
theorem eqOk_up : ∀ (k : Nat) (d : D), eqOk k d = true → eqOk (k + 1) d = true
  | 0, d, e => eqB_up (fun z0 e => false_ne e) d e
  | k + 1, d, e => eqB_up (fun xs e => List.all_eq_true.mpr fun x hx => eqOk_up k x (List.all_eq_true.mp e x hx)) d e

section
variable {E : Nat → D} {n : Nat} (he : ∀ y z, y < n → z < n → eqvD (E y) (E z) = (y == z)) (ho : ∀ y, y < n → eqOk 8 (E y) = true)
include he ho
theorem all_ok9 {zs : List Nat} (hz : ∀ z ∈ zs, z < n) : (zs.map E).all (eqOk 9) = true := by
  rw [List.all_eq_true]
  intro d hd
  obtain ⟨z, hzm, rfl⟩ := List.mem_map.mp hd
  exact eqOk_up 8 _ (ho z (hz z hzm))
theorem any_E {zs : List Nat} {y : Nat} (hz : ∀ z ∈ zs, z < n) (hy : y < n) : ((zs.map E).any fun d => eqvD d (E y)) = zs.contains y := by
  rw [List.any_map, Bool.eq_iff_iff, List.any_eq_true, List.contains_iff_mem]
  constructor
  · rintro ⟨z, hzm, e⟩
    have e : eqvD (E z) (E y) = true := e
    rw [he z y (hz z hzm) hy, beq_iff_eq] at e
    exact e ▸ hzm
  · intro h
    refine ⟨y, h, ?_⟩
    show eqvD (E y) (E y) = true
    rw [he y y hy hy]; simp
theorem notin_E {zs : List Nat} {y : Nat} (hz : ∀ z ∈ zs, z < n) (hy : y < n) : cmpD .NotIn (E y) (.list (zs.map E)) = some (!zs.contains y) := by
  have h : cmpD .NotIn (E y) (.list (zs.map E)) = if eqOk 9 (E y) && (zs.map E).all (eqOk 9) then some (!(zs.map E).any fun d => eqvD d (E y)) else none := rfl
  rw [h, eqOk_up 8 _ (ho y hy), all_ok9 he ho hz, any_E he ho hz hy]
  rfl

noncomputable def B3 := (defAt 3).1
noncomputable def S3 := (defAt 3).2
noncomputable def F3 : Stmt := stN B3 1
noncomputable def σ3 (P : D) (acc : List D) (rest : List (Str × Slt)) : St := [(sO "unhashable_params", .cold P), (sO "new_unhashable", .hot1 acc)] ++ rest
noncomputable def r3 : Option D → List (Str × Slt)
  | none => []
  | some d => [(sO "t", .cold d)]
noncomputable def turn3 : D → St → Option (Fl × St) := fun d σ => (bindS (forT F3) d σ).bind fun σ' => evSs T0 (forB F3) S3 σ'
theorem turn3_ok (P : D) (o : Option D) {zs : List Nat} {y : Nat} (hz : ∀ z ∈ zs, z < n) (hy : y < n) (hl : zs.length ≤ 1000) :
    turn3 (E y) (σ3 P (zs.map E) (r3 o)) = some (.next, σ3 P ((if zs.contains y then zs else zs ++ [y]).map E) (r3 (some (E y)))) := by
  unfold turn3
  generalize hE : zs.map E = acc
  have hb : ∀ d, bindS (forT F3) d (σ3 P acc (r3 o)) = some (σ3 P acc (r3 (some d))) := fun d => by cases o <;> kernel_rfl
  rw [hb, Option.bind_some, run_all]
  have ht : ∀ d, evT T0 (tstE (stN (forB F3) 0)) S3 (allV (σ3 P acc (r3 (some d)))) (evE T0 (tstE (stN (forB F3) 0)) S3 (allV (σ3 P acc (r3 (some d))))) = ((cmpD .NotIn d (.list acc)).bind fun c => some (.bool c)).bind truthD := fun d => by kernel_rfl
  have h2 := ht (E y)
  rw [← hE, notin_E he ho hz hy, Option.bind_some, Option.bind_some, hE] at h2
  cases hc : zs.contains y with
  | true =>
    rw [hc] at h2
    rw [run_next (evS_if_false (by kernel_rfl) h2), run_end (by kernel_rfl), if_pos rfl, hE]
  | false =>
    rw [hc] at h2
    have hx : ∀ d, exprS T0 (exprE (stN (thenB (stN (forB F3) 0)) 0)) S3 (σ3 P acc (r3 (some d))) = if acc.length ≤ 1000000 then some (σ3 P (acc ++ [d]) (r3 (some d))) else none := fun d => by kernel_rfl
    have hx2 := hx (E y)
    rw [if_pos (by rw [← hE, List.length_map]; lia)] at hx2
    have h3 : evS T0 (stN (forB F3) 0) S3 (σ3 P acc (r3 (some (E y)))) = some (.next, σ3 P (acc ++ [E y]) (r3 (some (E y)))) := by
      rw [evS_if_true (by kernel_rfl) h2, run_all, run_next (evS_expr (by kernel_rfl) hx2), run_end (by kernel_rfl)]
    rw [run_next h3, run_end (by kernel_rfl)]
    simp [hE]
theorem loop3 (P : D) : ∀ (xs : List Nat) (o : Option D) (acc : List Nat), (∀ z ∈ acc, z < n) → (∀ x ∈ xs, x < n) → acc.length + xs.length ≤ 1000 →
    ∃ o', forO turn3 (xs.map E) (σ3 P (acc.map E) (r3 o)) = some (.next, σ3 P ((dedN acc xs).map E) (r3 o'))
  | [], o, acc, _, _, _ => ⟨o, rfl⟩
  | x :: r, o, acc, ha, hx, hl => by
    rw [List.length_cons] at hl
    have hxn := hx x List.mem_cons_self
    rw [List.map_cons, forO_next (turn3_ok he ho P o ha hxn (by lia)), dedN]
    refine loop3 P r _ _ (fun z hz => ?_) (fun y hy => hx y (List.mem_cons_of_mem _ hy)) (by split; (· lia); (· rw [List.length_append, List.length_singleton]; lia))
    split at hz
    · exact ha z hz
    · rcases List.mem_append.mp hz with h | h
      · exact ha z h
      · rw [List.mem_singleton.mp h]; exact hxn
theorem dedu_run {xs : List Nat} (hx : ∀ x ∈ xs, x < n) (hl : xs.length ≤ 1000) : runF T0 3 (posB [sO "unhashable_params"]) [.list (xs.map E)] [] = some (.list ((dedN [] xs).map E)) := by
  have e0 : ∀ P, runF T0 3 (posB [sO "unhashable_params"]) [P] [] = runD T0 B3 S3 [(sO "unhashable_params", .cold P)] := fun P => by kernel_rfl
  obtain ⟨o, ho'⟩ := loop3 he ho (.list (xs.map E)) xs none [] (by simp) hx (by simpa using hl)
  rw [e0]
  refine runD_of (σ' := σ3 (.list (xs.map E)) ((dedN [] xs).map E) (r3 o)) ?_
  generalize hX : xs.map E = X at *
  generalize hY : (dedN [] xs).map E = Y at *
  rw [run_all, run_next (σ' := σ3 (.list X) [] (r3 none)) (by kernel_rfl)]
  have hv : evV T0 (forI F3) S3 (σ3 (.list X) [] (r3 none)) = some (.list X, σ3 (.list X) [] (r3 none)) := by kernel_rfl
  have hs : evS T0 (stN B3 1) S3 (σ3 (.list X) [] (r3 none)) = some (.next, σ3 (.list X) Y (r3 o)) := by
    show evS T0 F3 _ _ = _
    rw [evS_for (by kernel_rfl) hv (iterD_list (by rw [← hX, List.length_map]; lia))]
    exact ho'
  rw [run_next hs]
  exact run_ret (by cases o <;> kernel_rfl)

theorem find_E {zs : List Nat} {y : Nat} (hz : ∀ z ∈ zs, z < n) (hy : y < n) : (zs.map E).findIdx? (fun d => eqvD d (E y)) = zs.findIdx? (· == y) := by
  rw [List.findIdx?_map]
  induction zs with
  | nil => rfl
  | cons z r ih =>
    rw [List.findIdx?_cons, List.findIdx?_cons, ih fun x hx => hz x (List.mem_cons_of_mem _ hx)]
    have : ((fun d => eqvD d (E y)) ∘ E) z = (z == y) := he z y (hz z List.mem_cons_self) hy
    rw [this]
theorem strike_E : ∀ (xs t : List Nat), (∀ x ∈ xs, x < n) → (∀ z ∈ t, z < n) → strikeOk (xs.map E) (t.map E) = true ∧ strike (xs.map E) (t.map E) = (strikeN xs t).map fun t => t.map E
  | [], t, _, _ => ⟨rfl, rfl⟩
  | x :: r, t, hx, ht => by
    have hxn := hx x List.mem_cons_self
    have h1 : eqOk 9 (E x) = true := eqOk_up 8 _ (ho x hxn)
    have h2 := all_ok9 he ho ht
    rw [List.map_cons, strikeOk, strike, strikeN, h1, h2, find_E he ho ht hxn]
    cases hj : t.findIdx? (· == x) with
    | none => exact ⟨rfl, rfl⟩
    | some j =>
      have ih := strike_E r (t.eraseIdx j) (fun y hy => hx y (List.mem_cons_of_mem _ hy)) fun z hz => ht z (List.mem_of_mem_eraseIdx hz)
      have e : (t.map E).eraseIdx j = (t.eraseIdx j).map E := eraseIdx_map' ..
      dsimp only
      rw [e]
      exact ⟨ih.1, ih.2⟩
theorem cmpF_run {xs ys : List Nat} (hx : ∀ x ∈ xs, x < n) (hy : ∀ y ∈ ys, y < n) (hl : xs.length ≤ 3) (hl' : ys.length ≤ 3) :
    ∃ r : Bool, cmpF [.list (xs.map E), .list (ys.map E)] [] = some (.bool r) ∧ (r = true ↔ ∀ x, x ∈ xs ↔ x ∈ ys) := by
  have hdx : ∀ x ∈ dedN [] xs, x < n := fun x h => hx x (((dedN_mem xs []).mp h).resolve_left (by simp))
  have hdy : ∀ x ∈ dedN [] ys, x < n := fun x h => hy x (((dedN_mem ys []).mp h).resolve_left (by simp))
  obtain ⟨h1, h2⟩ := strike_E he ho (dedN [] xs) (dedN [] ys) hdx hdy
  have l1 : ((dedN [] xs).map E).length ≤ 1000 := by have := dedN_len xs []; rw [List.length_map]; simp at this; lia
  have l2 : ((dedN [] ys).map E).length ≤ 1000 := by have := dedN_len ys []; rw [List.length_map]; simp at this; lia
  have key := strikeN_is (dedN [] xs) (dedN [] ys) (dedN_nodup xs [] (by simp)) (dedN_nodup ys [] (by simp))
  refine ⟨endB (strikeN (dedN [] xs) (dedN [] ys)), ?_, ?_⟩
  · show cmp2 _ _ = _
    unfold cmp2
    rw [dedu_run he ho hx (by lia), dedu_run he ho hy (by lia)]
    refine (if_pos ⟨h1, l2, l1⟩).trans ?_
    rw [h2]
    cases strikeN (dedN [] xs) (dedN [] ys) with
    | none => rfl
    | some t => cases t <;> rfl
  · rw [key]
    constructor
    · intro h x
      have := h x
      rw [dedN_mem, dedN_mem] at this
      simpa using this
    · intro h x
      rw [dedN_mem, dedN_mem]
      simpa using h x
end
end Mine

end

section
set_option linter.unusedSectionVars false
set_option maxRecDepth 100000
namespace Mine

/-! ## the law -/
noncomputable def B37 := (defAt 37).1
noncomputable def S37 := (defAt 37).2
noncomputable def natsD (xs : List Nat) : D := .list (xs.map nI)
noncomputable def full37 (S L : D) (g : Nat → List Nat) (b : B4) (c : Nat → Nat) (r : Nat → List Nat) (cs : Nat → Str) : St := [
  (sO "script", .cold S), (sO "files", .cold filesD), (sO "links", .cold L), (sO "goals", .cold (rowsD g)), (sO "kinds", .cold kindsD), (sO "alike", .cold (.list ((matD b).map .list))),
  (sO "firsts", .cold (natsD (firstsL b))), (sO "lasts", .cold (natsD (lastsL b))), (sO "classes", .cold (natsD ((List.range 5).map c))), (sO "reach", .cold (rowsD r)), (sO "codes", .cold (.list (codesL cs)))]

theorem eqOk_rows (g : Nat → List Nat) : eqOk 9 (rowsD g) = true := by
  unfold rowsD
  rw [eqOk_list, List.all_eq_true]
  intro d hd
  obtain ⟨k, _, rfl⟩ := List.mem_map.mp hd
  rw [eqOk_list, List.all_eq_true]
  intro e he
  obtain ⟨x, _, rfl⟩ := List.mem_map.mp he
  rfl
theorem ne_refl {d : D} (h : eqOk 9 d = true) (hd : ∀ k, d ≠ .dictS k) : cmpD .NotEq d d = some false := by
  have e : cmpD .NotEq d d = if eqOk 9 d && eqOk 9 d then some (!eqvD d d) else none := by
    cases d <;> first | rfl | exact absurd rfl (hd _)
  rw [e, h, eqv_refl 9 d h]; rfl

section
variable (S L : D) (g : Nat → List Nat) (b : B4) (c : Nat → Nat) (r : Nat → List Nat) (cs : Nat → Str)
theorem law_0 : evS T4 (stN B37 0) S37 ((full37 S L g b c r cs).take 1) = some (.next, (full37 S L g b c r cs).take 2) := by kernel_rfl
theorem law_1 (h : runF T0 31 (posB [sO "script"]) [S] [] = some L) : evS T4 (stN B37 1) S37 ((full37 S L g b c r cs).take 2) = some (.next, (full37 S L g b c r cs).take 3) := by
  have e : evE T4 (asgE (stN B37 1)) S37 (coldV ((full37 S L g b c r cs).take 2)) = runF T0 31 (posB [sO "script"]) [S] [] := by kernel_rfl
  rw [h] at e
  exact evS_cold (x := sO "links") (by kernel_rfl) e
theorem law_2 (h : runF T0 33 (posB [sO "links"]) [L] [] = some (rowsD g)) : evS T4 (stN B37 2) S37 ((full37 S L g b c r cs).take 3) = some (.next, (full37 S L g b c r cs).take 4) := by
  have e : evE T4 (asgE (stN B37 2)) S37 (coldV ((full37 S L g b c r cs).take 3)) = runF T0 33 (posB [sO "links"]) [L] [] := by kernel_rfl
  rw [h] at e
  exact evS_cold (x := sO "goals") (by kernel_rfl) e
theorem law_3 : evS T4 (stN B37 3) S37 ((full37 S L g b c r cs).take 4) = some (.next, (full37 S L g b c r cs).take 5) := by kernel_rfl
theorem law_4 : evS T4 (stN B37 4) S37 ((full37 S L g b c r cs).take 5) = some (.next, (full37 S L g b c r cs).take 5) := evS_if_false (by kernel_rfl) (by kernel_rfl)
theorem law_5 (h : runF T3 32 (posB [sO "files", sO "links"]) [filesD, L] [] = some (rowsD g)) : evS T4 (stN B37 5) S37 ((full37 S L g b c r cs).take 5) = some (.next, (full37 S L g b c r cs).take 5) := by
  have e : evT T4 (tstE (stN B37 5)) S37 (allV ((full37 S L g b c r cs).take 5)) (evE T4 (tstE (stN B37 5)) S37 (allV ((full37 S L g b c r cs).take 5))) =
      ((runF T3 32 (posB [sO "files", sO "links"]) [filesD, L] []).bind fun a => (cmpD .NotEq a (rowsD g)).bind fun q => some (.bool q)).bind truthD := by kernel_rfl
  rw [h, Option.bind_some, ne_refl (eqOk_rows g) fun k z => (by cases z)] at e
  exact evS_if_false (by kernel_rfl) e
theorem law_6 (h : runF T0 35 (posB [sO "kinds", sO "goals"]) [kindsD, rowsD g] [] = some (.list ((matD b).map .list))) : evS T4 (stN B37 6) S37 ((full37 S L g b c r cs).take 5) = some (.next, (full37 S L g b c r cs).take 6) := by
  have e : evE T4 (asgE (stN B37 6)) S37 (coldV ((full37 S L g b c r cs).take 5)) = runF T0 35 (posB [sO "kinds", sO "goals"]) [kindsD, rowsD g] [] := by kernel_rfl
  rw [h] at e
  exact evS_cold (x := sO "alike") (by kernel_rfl) e
theorem law_7 : evS T4 (stN B37 7) S37 ((full37 S L g b c r cs).take 6) = some (.next, (full37 S L g b c r cs).take 7) := by
  obtain ⟨p, q, u, s⟩ := b
  cases p <;> cases q <;> cases u <;> cases s <;> kernel_rfl
theorem law_8 : evS T4 (stN B37 8) S37 ((full37 S L g b c r cs).take 7) = some (.next, (full37 S L g b c r cs).take 8) := by
  obtain ⟨p, q, u, s⟩ := b
  cases p <;> cases q <;> cases u <;> cases s <;> kernel_rfl
theorem law_9 (hb : isPart b = true) (hc : ∀ k, k < 5 → c k = clsB b k) : evS T4 (stN B37 9) S37 ((full37 S L g b c r cs).take 8) = some (.next, (full37 S L g b c r cs).take 9) := by
  have e : (full37 S L g b c r cs).take 9 = (full37 S L g b (clsB b) r cs).take 9 := by
    unfold full37 natsD
    simp only [List.take_succ_cons, List.take_zero]
    have : (List.range 5).map c = (List.range 5).map (clsB b) := List.map_congr_left fun k hk => hc k (List.mem_range.mp hk)
    rw [this]
  rw [e]
  have e2 : (full37 S L g b c r cs).take 8 = (full37 S L g b (clsB b) r cs).take 8 := rfl
  rw [e2]
  obtain ⟨p, q, u, s⟩ := b
  cases p <;> cases q <;> cases u <;> cases s <;> first | (exact absurd hb (by decide)) | kernel_rfl

noncomputable def RE : Expr := asgE (stN B37 10)
noncomputable def RC : Expr := argX 0 (argX 0 (eltX RE))
noncomputable def setX (x : Option D) : Option D := (seqO [(seqO [x]).bind (callT T4 (sO "set") [])]).bind (callT T4 (sO "sorted") [])
theorem sets10 : shortL.map (fun xs => setX (some (natsD xs))) = shortL.map fun xs => some (natsD (norm xs)) := by kernel_rfl
theorem cls10 (d : D) : (List.range 5).map (fun x => compF T4 RC ((sO "row", d) :: coldV ((full37 S L g b c r cs).take 9)) (nI x)) = (List.range 5).map fun x => some (some (nI (c x))) := by kernel_rfl
theorem row10 (d : D) : compF T4 RE (coldV ((full37 S L g b c r cs).take 9)) d = (setX (evE T4 RC (scX RE) ((sO "row", d) :: coldV ((full37 S L g b c r cs).take 9)))).bind fun x => some (some x) := by kernel_rfl
theorem law_10 (hl : ∀ k, (g k).length ≤ 3) (h5 : ∀ k x, x ∈ g k → x < 5) (hc : ∀ k, k < 5 → c k < 5) (hr : ∀ k, k < 5 → r k = norm ((g k).map c)) :
    evS T4 (stN B37 10) S37 ((full37 S L g b c r cs).take 9) = some (.next, (full37 S L g b c r cs).take 10) := by
  have h : evE T4 RE S37 (coldV ((full37 S L g b c r cs).take 9)) = some (rowsD r) := by
    refine ev_comp_list (xs := (List.range 5).map fun k => .list ((g k).map nI)) (by kernel_rfl) (by kernel_rfl) (by kernel_rfl) (by kernel_rfl) (by simp) ?_
    refine compO_map (fun k => .list ((g k).map nI)) (fun k => .list ((r k).map nI)) _ fun k hk => ?_
    have hk := List.mem_range.mp hk
    have hC : evE T4 RC (scX RE) ((sO "row", .list ((g k).map nI)) :: coldV ((full37 S L g b c r cs).take 9)) = some (natsD ((g k).map c)) := by
      refine ev_comp_list (xs := (g k).map nI) (by kernel_rfl) (by kernel_rfl) (by kernel_rfl) (by kernel_rfl) (by rw [List.length_map]; have := hl k; lia) ?_
      rw [compO_map nI (fun x => nI (c x)) _ fun x hx => List.map_inj_left.mp (cls10 S L g b c r cs _) x (List.mem_range.mpr (h5 _ _ hx))]
      rw [List.map_map]; rfl
    have hS := List.map_inj_left.mp sets10 ((g k).map c) (mem_shortL (by rw [List.length_map]; exact hl k) fun x hx => by
      obtain ⟨y, hy, rfl⟩ := List.mem_map.mp hx
      exact hc y (h5 _ _ hy))
    rw [row10, hC, hS, hr k hk]
    rfl
  exact evS_cold (st := stN B37 10) (x := sO "reach") (by kernel_rfl) h
theorem law_11 (h : runF T3 34 (posB [sO "kinds", sO "goals"]) [kindsD, rowsD g] [] = some (.list (codesL cs))) : evS T4 (stN B37 11) S37 ((full37 S L g b c r cs).take 10) = some (.next, full37 S L g b c r cs) := by
  have e : evE T4 (asgE (stN B37 11)) S37 (coldV ((full37 S L g b c r cs).take 10)) = runF T3 34 (posB [sO "kinds", sO "goals"]) [kindsD, rowsD g] [] := by kernel_rfl
  rw [h] at e
  exact evS_cold (x := sO "codes") (by kernel_rfl) e

noncomputable def XE : Expr := cmpR (tstE (stN B37 12))
noncomputable def XC : Expr := argX 1 (eltX XE)
theorem code12 : subsL.flatMap (fun S => [callT T4 (sO "_law_code") [] [.str (sO "p"), .list (S.reverse.map octD)], callT T4 (sO "_law_code") [] [.str (sO "q"), .list (S.reverse.map octD)]]) = subsL.flatMap fun S => [some (.str (codeQ false S)), some (.str (codeQ true S))] := by kernel_rfl
noncomputable def rS (r : Nat → List Nat) (k : Nat) (A : List Nat) (j : Nat) : List Nat := if j = k then A else r j
theorem oct12_0 (r : Nat → List Nat) : subsL.map (fun A => evE T4 XC (scX XE) ((sO "k", nI 0) :: allV (full37 S L g b c (rS r 0 A) cs))) = subsL.map fun A => some (.list (A.reverse.map octD)) := by kernel_rfl
theorem elt12_0 (r : Nat → List Nat) : compF T4 XE (allV (full37 S L g b c r cs)) (nI 0) = ((seqO [some (.str (sO (if isQ 0 then "q" else "p"))), evE T4 XC (scX XE) ((sO "k", nI 0) :: allV (full37 S L g b c r cs))]).bind (callT T4 (sO "_law_code") [])).bind fun x => some (some x) := by kernel_rfl
theorem oct12_1 (r : Nat → List Nat) : subsL.map (fun A => evE T4 XC (scX XE) ((sO "k", nI 1) :: allV (full37 S L g b c (rS r 1 A) cs))) = subsL.map fun A => some (.list (A.reverse.map octD)) := by kernel_rfl
theorem elt12_1 (r : Nat → List Nat) : compF T4 XE (allV (full37 S L g b c r cs)) (nI 1) = ((seqO [some (.str (sO (if isQ 1 then "q" else "p"))), evE T4 XC (scX XE) ((sO "k", nI 1) :: allV (full37 S L g b c r cs))]).bind (callT T4 (sO "_law_code") [])).bind fun x => some (some x) := by kernel_rfl
theorem oct12_2 (r : Nat → List Nat) : subsL.map (fun A => evE T4 XC (scX XE) ((sO "k", nI 2) :: allV (full37 S L g b c (rS r 2 A) cs))) = subsL.map fun A => some (.list (A.reverse.map octD)) := by kernel_rfl
theorem elt12_2 (r : Nat → List Nat) : compF T4 XE (allV (full37 S L g b c r cs)) (nI 2) = ((seqO [some (.str (sO (if isQ 2 then "q" else "p"))), evE T4 XC (scX XE) ((sO "k", nI 2) :: allV (full37 S L g b c r cs))]).bind (callT T4 (sO "_law_code") [])).bind fun x => some (some x) := by kernel_rfl
theorem oct12_3 (r : Nat → List Nat) : subsL.map (fun A => evE T4 XC (scX XE) ((sO "k", nI 3) :: allV (full37 S L g b c (rS r 3 A) cs))) = subsL.map fun A => some (.list (A.reverse.map octD)) := by kernel_rfl
theorem elt12_3 (r : Nat → List Nat) : compF T4 XE (allV (full37 S L g b c r cs)) (nI 3) = ((seqO [some (.str (sO (if isQ 3 then "q" else "p"))), evE T4 XC (scX XE) ((sO "k", nI 3) :: allV (full37 S L g b c r cs))]).bind (callT T4 (sO "_law_code") [])).bind fun x => some (some x) := by kernel_rfl
theorem oct12_4 (r : Nat → List Nat) : subsL.map (fun A => evE T4 XC (scX XE) ((sO "k", nI 4) :: allV (full37 S L g b c (rS r 4 A) cs))) = subsL.map fun A => some (.list (A.reverse.map octD)) := by kernel_rfl
theorem elt12_4 (r : Nat → List Nat) : compF T4 XE (allV (full37 S L g b c r cs)) (nI 4) = ((seqO [some (.str (sO (if isQ 4 then "q" else "p"))), evE T4 XC (scX XE) ((sO "k", nI 4) :: allV (full37 S L g b c r cs))]).bind (callT T4 (sO "_law_code") [])).bind fun x => some (some x) := by kernel_rfl
theorem rS_same (r : Nat → List Nat) (k : Nat) : rS r k (r k) = r := by
  funext j; unfold rS; split
  · rename_i h; rw [h]
  · rfl
theorem code_of {A : List Nat} (hA : A ∈ subsL) (k : Nat) : callT T4 (sO "_law_code") [] [.str (sO (if isQ k then "q" else "p")), .list (A.reverse.map octD)] = some (.str (codeQ (isQ k) A)) := by
  have := flatMap_two code12 A hA
  cases isQ k
  · exact this.1
  · exact this.2
theorem exp12 (hr : ∀ k, k < 5 → r k ∈ subsL) : evE T4 XE S37 (allV (full37 S L g b c r cs)) = some (.list (codesL fun k => codeQ (isQ k) (r k))) := by
  have o := fun (k : Nat) (hk : k < 5) => hr k hk
  have o0 := List.map_inj_left.mp (oct12_0 S L g b c cs r) (r 0) (hr 0 (by decide))
  rw [rS_same] at o0
  have e0 := elt12_0 S L g b c cs r
  rw [o0] at e0
  have f0 : compF T4 XE (allV (full37 S L g b c r cs)) (nI 0) = some (some (.str (codeQ (isQ 0) (r 0)))) := by
    rw [e0]
    show ((callT T4 (sO "_law_code") [] [.str (sO (if isQ 0 then "q" else "p")), .list ((r 0).reverse.map octD)])).bind _ = _
    rw [code_of (hr 0 (by decide)) 0]
    rfl
  have o1 := List.map_inj_left.mp (oct12_1 S L g b c cs r) (r 1) (hr 1 (by decide))
  rw [rS_same] at o1
  have e1 := elt12_1 S L g b c cs r
  rw [o1] at e1
  have f1 : compF T4 XE (allV (full37 S L g b c r cs)) (nI 1) = some (some (.str (codeQ (isQ 1) (r 1)))) := by
    rw [e1]
    show ((callT T4 (sO "_law_code") [] [.str (sO (if isQ 1 then "q" else "p")), .list ((r 1).reverse.map octD)])).bind _ = _
    rw [code_of (hr 1 (by decide)) 1]
    rfl
  have o2 := List.map_inj_left.mp (oct12_2 S L g b c cs r) (r 2) (hr 2 (by decide))
  rw [rS_same] at o2
  have e2 := elt12_2 S L g b c cs r
  rw [o2] at e2
  have f2 : compF T4 XE (allV (full37 S L g b c r cs)) (nI 2) = some (some (.str (codeQ (isQ 2) (r 2)))) := by
    rw [e2]
    show ((callT T4 (sO "_law_code") [] [.str (sO (if isQ 2 then "q" else "p")), .list ((r 2).reverse.map octD)])).bind _ = _
    rw [code_of (hr 2 (by decide)) 2]
    rfl
  have o3 := List.map_inj_left.mp (oct12_3 S L g b c cs r) (r 3) (hr 3 (by decide))
  rw [rS_same] at o3
  have e3 := elt12_3 S L g b c cs r
  rw [o3] at e3
  have f3 : compF T4 XE (allV (full37 S L g b c r cs)) (nI 3) = some (some (.str (codeQ (isQ 3) (r 3)))) := by
    rw [e3]
    show ((callT T4 (sO "_law_code") [] [.str (sO (if isQ 3 then "q" else "p")), .list ((r 3).reverse.map octD)])).bind _ = _
    rw [code_of (hr 3 (by decide)) 3]
    rfl
  have o4 := List.map_inj_left.mp (oct12_4 S L g b c cs r) (r 4) (hr 4 (by decide))
  rw [rS_same] at o4
  have e4 := elt12_4 S L g b c cs r
  rw [o4] at e4
  have f4 : compF T4 XE (allV (full37 S L g b c r cs)) (nI 4) = some (some (.str (codeQ (isQ 4) (r 4)))) := by
    rw [e4]
    show ((callT T4 (sO "_law_code") [] [.str (sO (if isQ 4 then "q" else "p")), .list ((r 4).reverse.map octD)])).bind _ = _
    rw [code_of (hr 4 (by decide)) 4]
    rfl
  refine ev_comp (items := (List.range 5).map nI) (by kernel_rfl) (by kernel_rfl) ?_
  refine compO_map nI (fun k => .str (codeQ (isQ k) (r k))) _ fun k hk => ?_
  have hk := List.mem_range.mp hk
  match k, hk with
  | 0, _ => exact f0
  | 1, _ => exact f1
  | 2, _ => exact f2
  | 3, _ => exact f3
  | 4, _ => exact f4
theorem eqOk_codes {cs : Nat → Str} (h : StrsOk cs) : eqOk 9 (.list (codesL cs)) = true := by
  rw [eqOk_list, List.all_eq_true]
  intro d hd
  obtain ⟨k, hk, rfl⟩ := List.mem_map.mp hd
  exact h k (List.mem_range.mp hk)
theorem law_12 (hr : ∀ k, k < 5 → r k ∈ subsL) (hok : StrsOk cs) (hcs : ∀ k, k < 5 → cs k = codeQ (isQ k) (r k)) : evS T4 (stN B37 12) S37 (full37 S L g b c r cs) = some (.next, full37 S L g b c r cs) := by
  have e : evT T4 (tstE (stN B37 12)) S37 (allV (full37 S L g b c r cs)) (evE T4 (tstE (stN B37 12)) S37 (allV (full37 S L g b c r cs))) =
      ((evE T4 XE S37 (allV (full37 S L g b c r cs))).bind fun x => (cmpD .NotEq (.list (codesL cs)) x).bind fun q => some (.bool q)).bind truthD := by kernel_rfl
  have e2 : codesL (fun k => codeQ (isQ k) (r k)) = codesL cs := List.map_congr_left fun k hk => by rw [hcs k (List.mem_range.mp hk)]
  rw [exp12 S L g b c r cs hr, Option.bind_some, e2, ne_refl (eqOk_codes hok) fun k z => (by cases z)] at e
  exact evS_if_false (by kernel_rfl) e
end
end Mine

end

section
set_option linter.unusedSectionVars false
set_option maxRecDepth 100000
namespace Mine

/-! ## what the law asks of each two files -/
noncomputable def U37 : Stmt := stN B37 13
noncomputable def V37 : Stmt := stN (forB U37) 0
noncomputable def R37 : Stmt := stN (forB V37) 0
noncomputable def Y37 : Stmt := stN (forB V37) 1
noncomputable def I37 : Stmt := stN (forB V37) 2
noncomputable def argsX : Expr → List Expr | .Call _ as _ _ => as | _ => []
noncomputable def sayS (σ : St) : Option St := (seqO (evEach T4 (argsX (asgE Y37)) S37 (allV σ))).bind fun ds => (cmpF ds []).bind fun d => some (put (sO "says") (.cold d) σ)
noncomputable def vBody (σ : St) : Option (Fl × St) := (evS T4 R37 S37 σ).bind fun r => match r.1 with
  | .next => (sayS r.2).bind fun σ' => evS T4 I37 S37 σ'
  | _ => none
noncomputable def vTurn37 (d : D) (σ : St) : Option (Fl × St) := (bindS (forT V37) d σ).bind vBody
noncomputable def vLoop (σ : St) : Option (Fl × St) := (evV T4 (forI V37) S37 σ).bind fun r => (iterD r.1).bind fun items => forO vTurn37 items r.2
noncomputable def uTurn37 (d : D) (σ : St) : Option (Fl × St) := (bindS (forT U37) d σ).bind vLoop
noncomputable def uLoop (σ : St) : Option (Fl × St) := (evV T4 (forI U37) S37 σ).bind fun r => (iterD r.1).bind fun items => forO uTurn37 items r.2

noncomputable def ccA (st : Stmt) : Option Str := (tg1 st).bind fun t => (nameX t).bind fun x => if isCompComp (asgE st) then some x else none
theorem cc_nil {v : Expr} (h : isCompComp v = true) : isNilL v = false := by
  cases v with
  | ListComp _ _ _ _ => rfl
  | _ => exact false_ne h
theorem flatLL : ∀ {xs : List D} {xss : List (List D)}, flatListList xs = some xss → xs = xss.map .list
  | [], xss, h => by cases h; rfl
  | x :: r, xss, h => by
    cases x with
    | list xs =>
      replace h := ite_oo h
      obtain ⟨_, h⟩ := h
      obtain ⟨ys, hy, rfl⟩ := Option.map_eq_some_iff.mp h
      rw [List.map_cons, ← flatLL hy]
    | _ => exact none_ne h
theorem evS_cc {T : Tab} {sc : Scope} {st : Stmt} {σ : St} {x : Str} {xs : List D} (hp : ccA st = some x) (h : evE T (asgE st) sc (coldV σ) = some (.list xs)) : ∃ t : Slt, evS T st sc σ = some (.next, put x t σ) ∧ t.d = .list xs := by
  replace hp := Option.bind_eq_some_iff.mp hp
  obtain ⟨t, h1, hp⟩ := hp
  replace hp := Option.bind_eq_some_iff.mp hp
  obtain ⟨y, h2, hp⟩ := hp
  obtain ⟨hc, rfl⟩ := ite_of hp
  obtain ⟨q, rfl⟩ := nameX_is h2
  obtain ⟨v, p, h3, h4⟩ := tg1_is h1
  rw [h4] at hc h
  rw [h3]
  have hv : evV T v sc σ = some (.list xs, σ) := by unfold evV; rw [h]
  have e : evS T (.Assign [.Name y q] v p) sc σ = some (.next, putNew true y (.list xs) σ) := by
    show (if isNilL v then some (put y (.hot1 []) σ) else (evV T v sc σ).bind fun r => some (putNew (isCompComp v) y r.1 r.2)).bind _ = _
    rw [cc_nil hc, if_neg (by decide), hv, hc]; rfl
  rw [e]
  rcases putNew_is true y (.list xs) σ with ⟨ys, xss, _, e1, hf, e2⟩ | e2
  · cases e1
    exact ⟨_, by rw [e2], by rw [flatLL hf]; rfl⟩
  · exact ⟨_, by rw [e2], rfl⟩

noncomputable def tail37 : Option (Slt × D) → List (Str × Slt)
  | none => []
  | some (t, d) => [(sO "rows", t), (sO "says", .cold d)]
noncomputable def EE (f : Bool) (s : Str) : D := if f then .str s else .list [.str s]
noncomputable def uvx : List (Nat × Nat × Nat) := (List.range 5).flatMap fun u => (List.range 5).flatMap fun v => (List.range 5).map fun x => (u, v, x)
theorem mem_uvx {u v x : Nat} (hu : u < 5) (hv : v < 5) (hx : x < 5) : (u, v, x) ∈ uvx := by
  unfold uvx
  simp only [List.mem_flatMap, List.mem_map, List.mem_range]
  exact ⟨u, hu, v, hv, x, hx, rfl⟩

section
variable (S L : D) (g : Nat → List Nat) (b : B4) (c : Nat → Nat) (r : Nat → List Nat) (cs : Nat → Str)
noncomputable def σuv (u v : Nat) (o : Option (Slt × D)) : St := full37 S L g b c r cs ++ ((sO "u", .cold (nI u)) :: (sO "v", .cold (nI v)) :: tail37 o)
noncomputable def RW : Expr := asgE R37
noncomputable def RI : Expr := eltX RW
theorem ri_elt (o : Option (Slt × D)) (k : D) : uvx.map (fun q => compF T4 RI ((sO "k", k) :: coldV (σuv S L g b c r cs q.1 q.2.1 o)) (nI q.2.2)) = uvx.map fun q => some (some (EE (decide (q.1 < q.2.1)) (cs q.2.2))) := by kernel_rfl
theorem ri_iter (o : Option (Slt × D)) (u v : Nat) : (List.range 5).map (fun k => evE T4 (genI (gensX RI)) (scX RW) ((sO "k", nI k) :: coldV (σuv S L g b c r cs u v o))) = (List.range 5).map fun k => some (.list ((g k).map nI)) := by kernel_rfl
noncomputable def rowUV (u v : Nat) (cs : Nat → Str) (xs : List Nat) : D := .list (xs.map fun x => EE (decide (u < v)) (cs x))
theorem rows_val (hl : ∀ k, (g k).length ≤ 3) (h5 : ∀ k x, x ∈ g k → x < 5) (o : Option (Slt × D)) {u v : Nat} (hu : u < 5) (hv : v < 5) : evE T4 RW S37 (coldV (σuv S L g b c r cs u v o)) = some (.list [rowUV u v cs (g u), rowUV u v cs (g v)]) := by
  refine ev_comp_list (xs := [u, v].map nI) (by kernel_rfl) (by kernel_rfl) (by kernel_rfl) (by kernel_rfl) (by simp) ?_
  refine compO_map nI (fun k => rowUV u v cs (g k)) _ fun k hk => ?_
  have hk5 : k < 5 := by
    simp only [List.mem_cons, List.not_mem_nil, or_false] at hk
    rcases hk with h | h <;> rw [h] <;> assumption
  have e : compF T4 RW (coldV (σuv S L g b c r cs u v o)) (nI k) = (evE T4 RI (scX RW) ((sO "k", nI k) :: coldV (σuv S L g b c r cs u v o))).bind fun x => some (some x) := by kernel_rfl
  have e2 : evE T4 RI (scX RW) ((sO "k", nI k) :: coldV (σuv S L g b c r cs u v o)) = some (rowUV u v cs (g k)) := by
    refine ev_comp_list (xs := (g k).map nI) (by kernel_rfl) (by kernel_rfl) (by kernel_rfl) (List.map_inj_left.mp (ri_iter S L g b c r cs o u v) k (List.mem_range.mpr hk5)) (by rw [List.length_map]; have := hl k; lia) ?_
    exact compO_map nI (fun x => EE (decide (u < v)) (cs x)) _ fun x hx => List.map_inj_left.mp (ri_elt S L g b c r cs o (nI k)) _ (mem_uvx hu hv (h5 _ _ hx))
  rw [e, e2]; rfl

theorem nats_eq : ∀ (xs ys : List Nat), eqvD (natsD xs) (natsD ys) = (xs == ys)
  | [], [] => rfl
  | [], _ :: _ => rfl
  | _ :: _, [] => rfl
  | x :: xs, y :: ys => by
    have ih := nats_eq xs ys
    have e : eqvD (natsD (x :: xs)) (natsD (y :: ys)) = (((x : Int) == (y : Int)) && eqvD (natsD xs) (natsD ys)) := rfl
    rw [e, ih]
    have e2 : ((x : Int) == (y : Int)) = (x == y) := by rw [Bool.eq_iff_iff, beq_iff_eq, beq_iff_eq]; lia
    rw [e2]; rfl
theorem eqOk_nats (xs : List Nat) : eqOk 9 (natsD xs) = true := eqOk_ints xs
theorem cmp_nats (xs ys : List Nat) : cmpD .Eq (natsD xs) (natsD ys) = some (xs == ys) := by
  have e : cmpD .Eq (natsD xs) (natsD ys) = if eqOk 9 (natsD xs) && eqOk 9 (natsD ys) then some (eqvD (natsD xs) (natsD ys)) else none := rfl
  rw [e, eqOk_nats, eqOk_nats, nats_eq]; rfl
theorem cmp_nats' (xs ys : List Nat) : cmpD .NotEq (natsD xs) (natsD ys) = some (!(xs == ys)) := by
  have e : cmpD .NotEq (natsD xs) (natsD ys) = if eqOk 9 (natsD xs) && eqOk 9 (natsD ys) then some (!eqvD (natsD xs) (natsD ys)) else none := rfl
  rw [e, eqOk_nats, eqOk_nats, nats_eq]; rfl

theorem EE_eq (f : Bool) (x y : Str) : eqvD (EE f x) (EE f y) = (x == y) := by
  cases f
  · show ((x == y) && true) = _
    rw [Bool.and_true]
  · rfl
theorem EE_ok (f : Bool) {x : Str} (h : PyData.strOk x = true) : eqOk 8 (EE f x) = true := by
  cases f
  · show ([D.str x].all (eqOk 7)) = true
    rw [List.all_cons]
    show (PyData.strOk x && true) = true
    rw [h]; rfl
  · exact h
theorem usL_nodup (cs : Nat → Str) : (usL cs).Nodup := fold_nodup _ _ (by simp)
theorem cs_at {cs : Nat → Str} {x : Nat} (hx : x < 5) : (usL cs).getD (cl cs x) (sO "") = cs x := by
  have h1 := cl_lt (cs := cs) hx
  rw [List.getD_eq_getElem?_getD, List.getElem?_eq_getElem h1]
  have e1 : ((usL cs)[cl cs x] == cs x) = true := List.findIdx_getElem (w := h1)
  simpa using e1
theorem says_val (hl : ∀ k, (g k).length ≤ 3) (h5 : ∀ k x, x ∈ g k → x < 5) (hok : StrsOk cs) (hc : ∀ k, k < 5 → c k = cl cs k) (hr : ∀ k, k < 5 → r k = norm ((g k).map c)) {u v : Nat} (hu : u < 5) (hv : v < 5) :
    cmpF [rowUV u v cs (g u), rowUV u v cs (g v)] [] = some (.bool (r u == r v)) := by
  have he : ∀ y z, y < (usL cs).length → z < (usL cs).length → eqvD (EE (decide (u < v)) ((usL cs).getD y (sO ""))) (EE (decide (u < v)) ((usL cs).getD z (sO ""))) = (y == z) := by
    intro y z hy hz
    rw [EE_eq, Bool.eq_iff_iff, beq_iff_eq, beq_iff_eq, List.getD_eq_getElem?_getD, List.getD_eq_getElem?_getD, List.getElem?_eq_getElem hy, List.getElem?_eq_getElem hz]
    constructor
    · intro e
      have e : (usL cs)[y] = (usL cs)[z] := e
      rcases Nat.lt_trichotomy y z with h | h | h
      · exact absurd e (List.pairwise_iff_getElem.mp (usL_nodup cs) y z hy hz h)
      · exact h
      · exact absurd e.symm (List.pairwise_iff_getElem.mp (usL_nodup cs) z y hz hy h)
    · intro e; subst e; rfl
  have ho : ∀ y, y < (usL cs).length → eqOk 8 (EE (decide (u < v)) ((usL cs).getD y (sO ""))) = true := by
    intro y hy
    refine EE_ok _ ?_
    rw [List.getD_eq_getElem?_getD, List.getElem?_eq_getElem hy]
    obtain ⟨j, hj, e⟩ := usL_mem.mp (List.getElem_mem hy)
    show PyData.strOk (usL cs)[y] = true
    rw [← e]; exact hok j hj
  have row : ∀ k, rowUV u v cs (g k) = .list (((g k).map (cl cs)).map fun z => EE (decide (u < v)) ((usL cs).getD z (sO ""))) := fun k => by
    unfold rowUV
    rw [List.map_map]
    congr 1
    refine List.map_congr_left fun x hx => ?_
    show EE _ (cs x) = EE _ ((usL cs).getD (cl cs x) (sO ""))
    rw [cs_at (h5 _ _ hx)]
  have lt : ∀ k, ∀ x ∈ (g k).map (cl cs), x < (usL cs).length := fun k x hx => by
    obtain ⟨y, hy, rfl⟩ := List.mem_map.mp hx
    exact cl_lt (h5 _ _ hy)
  obtain ⟨q, h1, h2⟩ := cmpF_run he ho (lt u) (lt v) (by rw [List.length_map]; exact hl u) (by rw [List.length_map]; exact hl v)
  rw [row u, row v, h1]
  have hcl : ∀ k, (g k).map c = (g k).map (cl cs) := fun k => List.map_congr_left fun x hx => hc x (h5 _ _ hx)
  congr 2
  rw [Bool.eq_iff_iff, h2, beq_iff_eq, hr u hu, hr v hv, hcl, hcl, norm_eq_iff (fun x hx => Nat.lt_of_lt_of_le (lt u x hx) (usL_len cs)) (fun x hx => Nat.lt_of_lt_of_le (lt v x hx) (usL_len cs))]

theorem say_ok (t : Slt) (A B : D) (ht : t.d = .list [A, B]) (o : Option (Slt × D)) (q : Bool) (h : cmpF [A, B] [] = some (.bool q)) (u v : Nat) :
    sayS (put (sO "rows") t (σuv S L g b c r cs u v o)) = some (σuv S L g b c r cs u v (some (t, .bool q))) := by
  have e : ∀ o : Option (Slt × D), allV (put (sO "rows") t (σuv S L g b c r cs u v o)) = allV (full37 S L g b c r cs) ++ ((sO "u", nI u) :: (sO "v", nI v) :: (sO "rows", t.d) :: (match o with | none => [] | some (_, d) => [(sO "says", d)])) := fun o => by
    cases o <;> kernel_rfl
  unfold sayS
  rw [e, ht]
  have e2 : seqO (evEach T4 (argsX (asgE Y37)) S37 (allV (full37 S L g b c r cs) ++ ((sO "u", nI u) :: (sO "v", nI v) :: (sO "rows", .list [A, B]) :: (match o with | none => [] | some (_, d) => [(sO "says", d)])))) = some [A, B] := by cases o <;> kernel_rfl
  rw [e2, Option.bind_some, h, Option.bind_some]
  cases o <;> kernel_rfl

theorem test37 (t : Slt) (q : Bool) : uvx.map (fun p => evT T4 (tstE I37) S37 (allV (σuv S L g b c r cs p.1 p.2.1 (some (t, .bool q)))) (evE T4 (tstE I37) S37 (allV (σuv S L g b c r cs p.1 p.2.1 (some (t, .bool q)))))) =
    uvx.map fun p => ((((seqO [(cmpD .Eq (natsD (r p.1)) (natsD (r p.2.1))).bind fun z => some (.bool z), (cmpD .NotEq (natsD (r p.1)) (natsD (r p.2.1))).bind fun z => some (.bool z)]).bind fun ds => if ds.length ≤ 1000000 then some (.tuple ds) else none).bind fun x =>
      (cmpD .NotEq (.tuple [.bool (q == true), .bool (q == false)]) x).bind fun z => some (.bool z)).bind truthD) := by kernel_rfl
theorem if_ok37 (t : Slt) {u v : Nat} (hu : u < 5) (hv : v < 5) : evS T4 I37 S37 (σuv S L g b c r cs u v (some (t, .bool (r u == r v)))) = some (.next, σuv S L g b c r cs u v (some (t, .bool (r u == r v)))) := by
  have h := List.map_inj_left.mp (test37 S L g b c r cs t (r u == r v)) _ (mem_uvx hu hv hu)
  dsimp only at h
  refine evS_if_false (by kernel_rfl) ?_
  rw [h, cmp_nats, cmp_nats']
  cases r u == r v <;> rfl
theorem vBody_ok (hl : ∀ k, (g k).length ≤ 3) (h5 : ∀ k x, x ∈ g k → x < 5) (hok : StrsOk cs) (hc : ∀ k, k < 5 → c k = cl cs k) (hr : ∀ k, k < 5 → r k = norm ((g k).map c)) (o : Option (Slt × D)) {u v : Nat} (hu : u < 5) (hv : v < 5) :
    ∃ o', vBody (σuv S L g b c r cs u v o) = some (.next, σuv S L g b c r cs u v o') := by
  obtain ⟨t, h1, h2⟩ := evS_cc (T := T4) (st := R37) (x := sO "rows") (by kernel_rfl) (rows_val S L g b c r cs hl h5 o hu hv)
  refine ⟨some (t, .bool (r u == r v)), ?_⟩
  unfold vBody
  rw [h1, Option.bind_some]
  dsimp only
  rw [say_ok S L g b c r cs t _ _ h2 o _ (says_val g c r cs hl h5 hok hc hr hu hv) u v, Option.bind_some]
  exact if_ok37 S L g b c r cs t hu hv

noncomputable def preV (u : Nat) : Option (Nat × Option (Slt × D)) → St
  | none => full37 S L g b c r cs ++ [(sO "u", .cold (nI u))]
  | some (v, o) => σuv S L g b c r cs u v o
theorem vTurn_ok (hl : ∀ k, (g k).length ≤ 3) (h5 : ∀ k x, x ∈ g k → x < 5) (hok : StrsOk cs) (hc : ∀ k, k < 5 → c k = cl cs k) (hr : ∀ k, k < 5 → r k = norm ((g k).map c)) (p : Option (Nat × Option (Slt × D))) {u v : Nat} (hu : u < 5) (hv : v < 5) :
    ∃ p', vTurn37 (nI v) (preV S L g b c r cs u p) = some (.next, preV S L g b c r cs u p') := by
  have hb : ∃ o, bindS (forT V37) (nI v) (preV S L g b c r cs u p) = some (σuv S L g b c r cs u v o) := by
    cases p with
    | none => exact ⟨none, by kernel_rfl⟩
    | some q => obtain ⟨v0, o⟩ := q; exact ⟨o, by kernel_rfl⟩
  obtain ⟨o, hb⟩ := hb
  obtain ⟨o', h⟩ := vBody_ok S L g b c r cs hl h5 hok hc hr o hu hv
  refine ⟨some (v, o'), ?_⟩
  unfold vTurn37
  rw [hb, Option.bind_some, h]; rfl
noncomputable def fiveD : List D := [nI 0, nI 1, nI 2, nI 3, nI 4]
noncomputable def AllFive (items : List D) : Prop := ∀ d ∈ items, ∃ v, v < 5 ∧ d = nI v
theorem allFive : AllFive fiveD := by
  intro d hd
  simp only [fiveD, List.mem_cons, List.not_mem_nil, or_false] at hd
  rcases hd with h | h | h | h | h
  · exact ⟨0, by decide, h⟩
  · exact ⟨1, by decide, h⟩
  · exact ⟨2, by decide, h⟩
  · exact ⟨3, by decide, h⟩
  · exact ⟨4, by decide, h⟩
theorem vLoop_ok (hl : ∀ k, (g k).length ≤ 3) (h5 : ∀ k x, x ∈ g k → x < 5) (hok : StrsOk cs) (hc : ∀ k, k < 5 → c k = cl cs k) (hr : ∀ k, k < 5 → r k = norm ((g k).map c)) (p : Option (Nat × Option (Slt × D))) {u : Nat} (hu : u < 5) :
    ∃ p', vLoop (preV S L g b c r cs u p) = some (.next, preV S L g b c r cs u p') := by
  have hv : evV T4 (forI V37) S37 (preV S L g b c r cs u p) = some (.rng 0 5 1, preV S L g b c r cs u p) := by
    cases p with
    | none => kernel_rfl
    | some q => obtain ⟨v0, o⟩ := q; kernel_rfl
  unfold vLoop
  rw [hv, Option.bind_some]
  have hi : iterD (.rng 0 5 1) = some fiveD := by kernel_rfl
  dsimp only
  rw [hi, Option.bind_some]
  obtain ⟨σ', h1, h2⟩ := forO_inv vTurn37 (fun items σ => AllFive items ∧ ∃ p', σ = preV S L g b c r cs u p') (fun d rest σ ⟨h1, p', h2⟩ => by
    obtain ⟨v, hv5, rfl⟩ := h1 d List.mem_cons_self
    obtain ⟨p2, h⟩ := vTurn_ok S L g b c r cs hl h5 hok hc hr p' hu hv5
    exact ⟨_, by rw [h2]; exact h, fun e he => h1 e (List.mem_cons_of_mem _ he), p2, rfl⟩) fiveD _ ⟨allFive, p, rfl⟩
  obtain ⟨_, p', rfl⟩ := h2
  exact ⟨p', h1⟩
noncomputable def preU : Option (Nat × Option (Nat × Option (Slt × D))) → St
  | none => full37 S L g b c r cs
  | some (u, p) => preV S L g b c r cs u p
theorem uLoop_ok (hl : ∀ k, (g k).length ≤ 3) (h5 : ∀ k x, x ∈ g k → x < 5) (hok : StrsOk cs) (hc : ∀ k, k < 5 → c k = cl cs k) (hr : ∀ k, k < 5 → r k = norm ((g k).map c)) :
    ∃ p', uLoop (full37 S L g b c r cs) = some (.next, preU S L g b c r cs p') := by
  have hv : evV T4 (forI U37) S37 (full37 S L g b c r cs) = some (.rng 0 5 1, full37 S L g b c r cs) := by kernel_rfl
  unfold uLoop
  rw [hv, Option.bind_some]
  have hi : iterD (.rng 0 5 1) = some fiveD := by kernel_rfl
  dsimp only
  rw [hi, Option.bind_some]
  obtain ⟨σ', h1, h2⟩ := forO_inv uTurn37 (fun items σ => AllFive items ∧ ∃ p', σ = preU S L g b c r cs p') (fun d rest σ ⟨h1, p', h2⟩ => by
    obtain ⟨u, hu5, rfl⟩ := h1 d List.mem_cons_self
    have hb : ∃ p, bindS (forT U37) (nI u) (preU S L g b c r cs p') = some (preV S L g b c r cs u p) := by
      cases p' with
      | none => exact ⟨none, by kernel_rfl⟩
      | some q =>
        obtain ⟨u0, p⟩ := q
        cases p with
        | none => exact ⟨none, by kernel_rfl⟩
        | some z => obtain ⟨v0, o⟩ := z; exact ⟨some (v0, o), by kernel_rfl⟩
    obtain ⟨p, hb⟩ := hb
    obtain ⟨p2, h⟩ := vLoop_ok S L g b c r cs hl h5 hok hc hr p hu5
    refine ⟨preU S L g b c r cs (some (u, p2)), ?_, fun e he => h1 e (List.mem_cons_of_mem _ he), some (u, p2), rfl⟩
    rw [h2]
    unfold uTurn37
    rw [hb, Option.bind_some, h]
    rfl) fiveD _ ⟨allFive, none, rfl⟩
  obtain ⟨_, p', rfl⟩ := h2
  exact ⟨p', h1⟩
end
end Mine

end

section
set_option linter.unusedSectionVars false
set_option maxRecDepth 100000
namespace Mine

/-! ## the dicts -/
noncomputable def F37 : Stmt := stN B37 14
noncomputable def J0 : Stmt := stN (forB F37) 0
noncomputable def J1 : Stmt := stN (forB F37) 1
noncomputable def tupX (i : Nat) : Expr → Expr | .Tuple es _ _ => es.getD i noE | _ => noE
noncomputable def boolX (i : Nat) : Expr → Expr | .BoolOp _ es _ => es.getD i noE | _ => noE
noncomputable def DC : Expr := tupX 1 (asgE J0)
noncomputable def DX : Expr := cmpR (boolX 1 (tstE J1))
noncomputable def isDictX : Expr → Bool | .DictComp k v gens _ _ => dictShape k v gens | _ => false
noncomputable def dictI' : Expr → Expr | .DictComp _ _ gens _ _ => genI gens | _ => noE
noncomputable def dictG : Expr → List Comprehension | .DictComp _ _ gens _ _ => gens | _ => []
theorem evE_dict {T : Tab} {e : Expr} {sc : Scope} {ρ : Vars} {xs : List D} (he : isDictX e = true) (hg : (dictG e).isEmpty = false) (h : evE T (dictI' e) sc ρ = some (.list xs)) (hl : xs.length ≤ 1000000) : evE T e sc ρ = (keysO xs []).bind fun ks => some (.dictS ks) := by
  cases e with
  | DictComp k v gens sc' p =>
    change dictShape k v gens = true at he
    change evE T (genI gens) sc ρ = some (.list xs) at h
    have e1 : evFirst T gens sc ρ = evE T (genI gens) sc ρ := by
      cases gens with
      | nil => cases hg
      | cons c r => obtain ⟨t, i, f, a⟩ := c; rfl
    show ((evFirst T gens sc ρ).bind fun d => _) = _
    rw [e1, h, Option.bind_some]
    dsimp only
    rw [if_pos ⟨he, hl⟩]
  | _ => cases he
noncomputable def tupA (st : Stmt) : Bool := (tg1 st).any isTup
noncomputable def tgtX (st : Stmt) : Expr := (tg1 st).getD noE
theorem evS_tup {T : Tab} {sc : Scope} {st : Stmt} {σ σ' : St} {d : D} (ht : tupA st = true) (h : evE T (asgE st) sc (coldV σ) = some d) (hb : bindS (tgtX st) d σ = some σ') : evS T st sc σ = some (.next, σ') := by
  obtain ⟨t, h1, h2⟩ := (Option.any_eq_true _ _).mp (show (tg1 st).any isTup = true from ht)
  obtain ⟨es, k, p, rfl⟩ := isTup_is h2
  have e : tgtX st = .Tuple es k p := congrArg (fun o => o.getD noE) h1
  rw [e] at hb
  obtain ⟨v, q, h3, h4⟩ := tg1_is h1
  rw [h4] at h
  rw [h3]
  have hv : evV T v sc σ = some (d, σ) := by unfold evV; rw [h]
  show ((evV T v sc σ).bind fun r => bindS (.Tuple es k p) r.1 r.2).bind _ = _
  rw [hv, Option.bind_some, hb]; rfl

noncomputable def rp (R P : D) : Option (D × D) → List (Str × Slt)
  | none => [(sO "row", .cold R), (sO "places", .cold P)]
  | some (k, d) => [(sO "row", .cold R), (sO "places", .cold P), (sO "kept", .cold k), (sO "due", .cold d)]
noncomputable def rp0 : Option (D × D × D × D) → List (Str × Slt)
  | none => []
  | some (R, P, k, d) => [(sO "row", .cold R), (sO "places", .cold P), (sO "kept", .cold k), (sO "due", .cold d)]
noncomputable def rowF (f : Nat → Str) : D := .list ((List.range 5).map fun i => .str (f i))
noncomputable def orB (x y : Option Bool) : Option Bool := x.bind fun b => match BoolOp.Or, b with
  | .And, false => some false
  | .Or, true => some true
  | _, _ => y.bind fun b => match BoolOp.Or, b with
    | .And, false => some false
    | .Or, true => some true
    | _, _ => some (BoolOp.Or == BoolOp.And)
noncomputable def jTurn (d : D) (σ : St) : Option (Fl × St) := (bindS (forT F37) d σ).bind fun σ' => evSs T4 (forB F37) S37 σ'
section
variable (S L : D) (g : Nat → List Nat) (b : B4) (c : Nat → Nat) (r : Nat → List Nat) (cs : Nat → Str)
noncomputable abbrev βs (p : Option (Nat × Option (Nat × Option (Slt × D)))) (l : List (Str × Slt)) : St := preU S L g b c r cs p ++ l
theorem due_elt (p : Option (Nat × Option (Nat × Option (Slt × D)))) (R P : D) (o : Option (D × D)) : (List.range 5).map (fun k => compF T4 DC (coldV (βs S L g b c r cs p (rp R P o))) (nI k)) = (List.range 5).map fun k => some (some (.str (cs k))) := by
  rcases p with _ | ⟨u, _ | ⟨v, _ | ⟨_ | _ | _, d⟩⟩⟩ <;> kernel_rfl
theorem due_it (p : Option (Nat × Option (Nat × Option (Slt × D)))) (R P : D) (o : Option (D × D)) : evE T4 (genI (gensX DC)) S37 (coldV (βs S L g b c r cs p (rp R P o))) = some P := by
  rcases p with _ | ⟨u, _ | ⟨v, _ | ⟨_ | _ | _, d⟩⟩⟩ <;> cases o <;> kernel_rfl
theorem kept_val (p : Option (Nat × Option (Nat × Option (Slt × D)))) (f : Nat → Str) (P : D) (o : Option (D × D)) : evE T4 (asgE J0) S37 (coldV (βs S L g b c r cs p (rp (rowF f) P o))) =
    (seqO [some (.dictS (((List.range 5).map f).foldl putKey [])), evE T4 DC S37 (coldV (βs S L g b c r cs p (rp (rowF f) P o)))]).bind fun ds => if ds.length ≤ 1000000 then some (.tuple ds) else none := by
  rcases p with _ | ⟨u, _ | ⟨v, _ | ⟨_ | _ | _, d⟩⟩⟩ <;> cases o <;> kernel_rfl
theorem bind_row (p : Option (Nat × Option (Nat × Option (Slt × D)))) (R P : D) (o : Option (D × D × D × D)) : ∃ o', bindS (forT F37) (.tuple [R, P]) (βs S L g b c r cs p (rp0 o)) = some (βs S L g b c r cs p (rp R P o')) := by
  cases o with
  | none => exact ⟨none, by rcases p with _ | ⟨u, _ | ⟨v, _ | ⟨_ | _ | _, d⟩⟩⟩ <;> kernel_rfl⟩
  | some q =>
    obtain ⟨q1, q2, q3, q4⟩ := q
    exact ⟨some (q3, q4), by rcases p with _ | ⟨u, _ | ⟨v, _ | ⟨_ | _ | _, d⟩⟩⟩ <;> kernel_rfl⟩
theorem bind_kept (p : Option (Nat × Option (Nat × Option (Slt × D)))) (R P k d : D) (o : Option (D × D)) : bindS (tgtX J0) (.tuple [k, d]) (βs S L g b c r cs p (rp R P o)) = some (βs S L g b c r cs p (rp0 (some (R, P, k, d)))) := by
  rcases p with _ | ⟨u, _ | ⟨v, _ | ⟨_ | _ | _, d'⟩⟩⟩ <;> cases o <;> kernel_rfl
theorem test_j (p : Option (Nat × Option (Nat × Option (Slt × D)))) (R P : D) (ks : List Str) (du : D) : evT T4 (tstE J1) S37 (allV (βs S L g b c r cs p (rp0 (some (R, P, .dictS ks, du))))) (evE T4 (tstE J1) S37 (allV (βs S L g b c r cs p (rp0 (some (R, P, .dictS ks, du)))))) =
    orB (((listD [.dictS ks]).bind fun x => (cmpD .NotEq x du).bind fun q => some (.bool q)).bind truthD) (((evE T4 DX S37 (allV (βs S L g b c r cs p (rp0 (some (R, P, .dictS ks, du)))))).bind fun x => (cmpD .NotEq (.dictS ks) x).bind fun q => some (.bool q)).bind truthD) := by
  rcases p with _ | ⟨u, _ | ⟨v, _ | ⟨_ | _ | _, d'⟩⟩⟩ <;> kernel_rfl
theorem dx_it (p : Option (Nat × Option (Nat × Option (Slt × D)))) (R P k du : D) : evE T4 (dictI' DX) S37 (allV (βs S L g b c r cs p (rp0 (some (R, P, k, du))))) = some du := by
  rcases p with _ | ⟨u, _ | ⟨v, _ | ⟨_ | _ | _, d'⟩⟩⟩ <;> kernel_rfl
theorem eqOk_strs {ks : List Str} (h : ∀ x ∈ ks, PyData.strOk x = true) : eqOk 9 (.list (ks.map .str)) = true := by
  rw [eqOk_list, List.all_eq_true]
  intro d hd
  obtain ⟨k, hk, rfl⟩ := List.mem_map.mp hd
  exact h k hk
theorem jTurn_ok (hok : StrsOk cs) (p : Option (Nat × Option (Nat × Option (Slt × D)))) (o : Option (D × D × D × D)) {f : Nat → Str} {ps : List Nat} (hp : ∀ x ∈ ps, x < 5) (hl : ps.length ≤ 5) (hf : ((List.range 5).map f).foldl putKey [] = ps.map cs) :
    ∃ o', jTurn (.tuple [rowF f, natsD ps]) (βs S L g b c r cs p (rp0 o)) = some (.next, βs S L g b c r cs p (rp0 o')) := by
  obtain ⟨o1, hb⟩ := bind_row S L g b c r cs p (rowF f) (natsD ps) o
  have hnd : (ps.map cs).Nodup := by rw [← hf]; exact fold_nodup _ _ (by simp)
  have hdue : evE T4 DC S37 (coldV (βs S L g b c r cs p (rp (rowF f) (natsD ps) o1))) = some (.list ((ps.map cs).map .str)) := by
    refine ev_comp_list (xs := ps.map nI) (by kernel_rfl) (by kernel_rfl) (by kernel_rfl) (due_it S L g b c r cs p _ _ o1) (by rw [List.length_map]; lia) ?_
    rw [compO_map nI (fun k => .str (cs k)) _ fun x hx => List.map_inj_left.mp (due_elt S L g b c r cs p _ _ o1) x (List.mem_range.mpr (hp x hx)), List.map_map]
    rfl
  have hk := kept_val S L g b c r cs p f (natsD ps) o1
  rw [hdue, hf] at hk
  have h0 : evS T4 J0 S37 (βs S L g b c r cs p (rp (rowF f) (natsD ps) o1)) = some (.next, βs S L g b c r cs p (rp0 (some (rowF f, natsD ps, .dictS (ps.map cs), .list ((ps.map cs).map .str))))) :=
    evS_tup (by kernel_rfl) hk (bind_kept S L g b c r cs p _ _ _ _ o1)
  have okk : ∀ x ∈ ps.map cs, PyData.strOk x = true := fun x hx => by
    obtain ⟨y, hy, rfl⟩ := List.mem_map.mp hx
    exact hok y (hp y hy)
  have ht := test_j S L g b c r cs p (rowF f) (natsD ps) (ps.map cs) (.list ((ps.map cs).map .str))
  have hll : listD [.dictS (ps.map cs)] = some (.list ((ps.map cs).map .str)) := by
    exact if_pos (by rw [List.length_map]; lia)
  have hdx := evE_dict (T := T4) (e := DX) (sc := S37) (by kernel_rfl) (by kernel_rfl) (dx_it S L g b c r cs p (rowF f) (natsD ps) (.dictS (ps.map cs)) (.list ((ps.map cs).map .str))) (by rw [List.length_map, List.length_map]; lia)
  rw [keysO_is, fold_id _ _ (by simpa using hnd)] at hdx
  rw [hll, Option.bind_some, ne_refl (eqOk_strs okk) fun k z => (by cases z), hdx] at ht
  have hdd : cmpD .NotEq (.dictS (ps.map cs)) (.dictS ([] ++ ps.map cs)) = some false := by
    have e : cmpD .NotEq (.dictS (ps.map cs)) (.dictS ([] ++ ps.map cs)) = if ps.map cs == [] ++ ps.map cs then some false else none := rfl
    rw [e, List.nil_append]; simp
  simp only [Option.bind_some] at ht
  rw [hdd] at ht
  refine ⟨some (rowF f, natsD ps, .dictS (ps.map cs), .list ((ps.map cs).map .str)), ?_⟩
  unfold jTurn
  rw [hb, Option.bind_some, run_all, run_next h0, run_next (evS_if_false (st := J1) (by kernel_rfl) ht), run_end (by kernel_rfl)]
theorem law_14 (hok : StrsOk cs) (hp : Pat cs b) (p : Option (Nat × Option (Nat × Option (Slt × D)))) : ∃ o', evS T4 F37 S37 (preU S L g b c r cs p) = some (.next, βs S L g b c r cs p (rp0 o')) := by
  have hv : evV T4 (forI F37) S37 (preU S L g b c r cs p) = some (.list [.tuple [rowF cs, natsD (firstsL b)], .tuple [rowF fun i => cs (4 - i), natsD (lastsL b)]], preU S L g b c r cs p) := by
    rcases p with _ | ⟨u, _ | ⟨v, _ | ⟨_ | _ | _, d'⟩⟩⟩ <;> kernel_rfl
  have hl1 : (firstsL b).length ≤ 5 := Nat.le_trans (List.length_filter_le _ _) (by simp)
  have hl2 : (lastsL b).length ≤ 5 := by unfold lastsL; rw [List.length_map]; exact Nat.le_trans (List.length_filter_le _ _) (by simp)
  obtain ⟨o1, h1⟩ := jTurn_ok S L g b c r cs hok p none (f := cs) (ps := firstsL b) (fun x hx => firsts_lt hx) hl1 (usL_firsts hp)
  obtain ⟨o2, h2⟩ := jTurn_ok S L g b c r cs hok p o1 (f := fun i => cs (4 - i)) (ps := lastsL b) (fun x hx => lasts_lt hx) hl2 (rev_lasts hp)
  refine ⟨o2, ?_⟩
  rw [evS_for (by kernel_rfl) hv (iterD_list (by simp))]
  show forO jTurn _ _ = _
  have h1 : jTurn (.tuple [rowF cs, natsD (firstsL b)]) (preU S L g b c r cs p) = some (.next, βs S L g b c r cs p (rp0 o1)) := by
    have e : preU S L g b c r cs p = βs S L g b c r cs p (rp0 none) := (List.append_nil _).symm
    rw [e]; exact h1
  rw [forO_next h1, forO_next h2]
  rfl
end

/-! ## the law's own run -/
theorem stN_take {b : List Stmt} {n i : Nat} (h : i < n) : stN (b.take n) i = stN b i := by
  unfold stN
  rw [List.getD_eq_getElem?_getD, List.getD_eq_getElem?_getD, List.getElem?_take, if_pos h]
theorem len37 : B37.length = 16 := by decide +kernel
theorem run_take {T : Tab} {sc : Scope} {σ σ' : St} {i : Nat} (h : evS T (stN B37 i) sc σ = some (.next, σ')) (hi : i < 13 := by decide) : evSs T ((B37.take 13).drop i) sc σ = evSs T ((B37.take 13).drop (i + 1)) sc σ' :=
  run_next (by rw [stN_take hi]; exact h) (by rw [List.length_take, len37]; lia)
noncomputable def lawRun (S : D) : Option D := (evSs T4 (B37.take 13) S37 [(sO "script", .cold S)]).bind fun x => match x.1 with
  | .next => (uLoop x.2).bind fun y => match y.1 with
    | .next => (evSs T4 (B37.drop 14) S37 y.2).bind fun z => match z.1 with
      | .ret d => some d
      | _ => none
    | _ => none
  | _ => none

theorem law_true (ns : List Int) (hn : ns.length ≤ 63) : lawRun (.list (ns.map .int)) = some (.bool true) := by
  obtain ⟨Y, hY, h1⟩ := links_run ns hn
  have h2 := goals_run Y hY
  have h3 := told_run Y hY
  generalize hg : goalsOf Y = g at *
  have hl : ∀ k, (g k).length ≤ 3 := fun k => by rw [← hg]; exact goalsOf_len Y k
  have h5 : ∀ k x, x ∈ g k → x < 5 := fun k x hx => by rw [← hg] at hx; exact goalsOf_lt hx
  have h4 := alike_run g hl h5
  have h6 := codes_run g hl h5
  have ha := alike_is hl h5
  have hp3 : Pat (csT g 3) (alikeB g) := by rw [ha]; exact pat_t hl h5 3
  have hp4 : Pat (finalCs g) (alikeB g) := by
    have := pat_t hl h5 4
    have e : Et g 4 = Et g 3 := stable hl h5
    rw [e, ← ha] at this
    exact this
  have hpart := pat_part hp4
  generalize hb : alikeB g = b at *
  have hok : StrsOk (finalCs g) := newCs_ok g _ hl h5
  have hc4 : ∀ k, k < 5 → clsB b k = cl (finalCs g) k := fun k hk => (cl_is hp4 hk).symm
  have hc3 : ∀ k, k < 5 → clsB b k = cl (csT g 3) k := fun k hk => (cl_is hp3 hk).symm
  have hset : ∀ k, setOf g (csT g 3) k = norm ((g k).map (clsB b)) := fun k => by
    unfold setOf
    congr 1
    exact List.map_congr_left fun x hx => (hc3 x (h5 _ _ hx)).symm
  have hcs : ∀ k, k < 5 → finalCs g k = codeQ (isQ k) (norm ((g k).map (clsB b))) := fun k z0 => by
    rw [← hset]; rfl
  have hr : ∀ k, k < 5 → norm ((g k).map (clsB b)) ∈ subsL := fun k z0 => by rw [← hset]; exact setOf_mem g _ hl h5 k
  have e13 : evSs T4 (B37.take 13) S37 [(sO "script", .cold (.list (ns.map .int)))] = some (.next, full37 (.list (ns.map .int)) (linksD Y) g b (clsB b) (fun k => norm ((g k).map (clsB b))) (finalCs g)) := by
    rw [run_all]
    have q0 := law_0 (.list (ns.map .int)) (linksD Y) g b (clsB b) (fun k => norm ((g k).map (clsB b))) (finalCs g)
    have q1 := law_1 (.list (ns.map .int)) (linksD Y) g b (clsB b) (fun k => norm ((g k).map (clsB b))) (finalCs g) h1
    have q2 := law_2 (.list (ns.map .int)) (linksD Y) g b (clsB b) (fun k => norm ((g k).map (clsB b))) (finalCs g) h2
    have q3 := law_3 (.list (ns.map .int)) (linksD Y) g b (clsB b) (fun k => norm ((g k).map (clsB b))) (finalCs g)
    have q4 := law_4 (.list (ns.map .int)) (linksD Y) g b (clsB b) (fun k => norm ((g k).map (clsB b))) (finalCs g)
    have q5 := law_5 (.list (ns.map .int)) (linksD Y) g b (clsB b) (fun k => norm ((g k).map (clsB b))) (finalCs g) h3
    have q6 := law_6 (.list (ns.map .int)) (linksD Y) g b (clsB b) (fun k => norm ((g k).map (clsB b))) (finalCs g) h4
    have q7 := law_7 (.list (ns.map .int)) (linksD Y) g b (clsB b) (fun k => norm ((g k).map (clsB b))) (finalCs g)
    have q8 := law_8 (.list (ns.map .int)) (linksD Y) g b (clsB b) (fun k => norm ((g k).map (clsB b))) (finalCs g)
    have q9 := law_9 (.list (ns.map .int)) (linksD Y) g b (clsB b) (fun k => norm ((g k).map (clsB b))) (finalCs g) hpart fun z0 z0 => rfl
    have q10 := law_10 (.list (ns.map .int)) (linksD Y) g b (clsB b) (fun k => norm ((g k).map (clsB b))) (finalCs g) hl h5 (fun k hk => by rw [hc4 k hk]; exact cl_lt5 hk) fun z0 z0 => rfl
    have q11 := law_11 (.list (ns.map .int)) (linksD Y) g b (clsB b) (fun k => norm ((g k).map (clsB b))) (finalCs g) h6
    have q12 := law_12 (.list (ns.map .int)) (linksD Y) g b (clsB b) (fun k => norm ((g k).map (clsB b))) (finalCs g) hr hok hcs
    have hs : [(sO "script", Slt.cold (.list (ns.map .int)))] = (full37 (.list (ns.map .int)) (linksD Y) g b (clsB b) (fun k => norm ((g k).map (clsB b))) (finalCs g)).take 1 := rfl
    rw [hs, run_take q0, run_take q1, run_take q2, run_take q3, run_take q4, run_take q5, run_take q6, run_take q7, run_take q8, run_take q9, run_take q10, run_take q11, run_take q12, run_end (by kernel_rfl)]
  obtain ⟨p, hu⟩ := uLoop_ok (.list (ns.map .int)) (linksD Y) g b (clsB b) (fun k => norm ((g k).map (clsB b))) (finalCs g) hl h5 hok hc4 fun z0 z0 => rfl
  obtain ⟨o, hj⟩ := law_14 (.list (ns.map .int)) (linksD Y) g b (clsB b) (fun k => norm ((g k).map (clsB b))) (finalCs g) hok hp4 p
  unfold lawRun
  rw [e13, Option.bind_some]
  dsimp only
  rw [hu, Option.bind_some]
  dsimp only
  have h15 : ∀ σ, evS T4 (stN B37 15) S37 σ = some (.ret (.bool true), σ) := fun σ => by kernel_rfl
  have e14 : evSs T4 (B37.drop 14) S37 (preU (.list (ns.map .int)) (linksD Y) g b (clsB b) (fun k => norm ((g k).map (clsB b))) (finalCs g) p) = some (.ret (.bool true), βs (.list (ns.map .int)) (linksD Y) g b (clsB b) (fun k => norm ((g k).map (clsB b))) (finalCs g) p (rp0 o)) := by
    rw [run_next (b := B37) (i := 14) hj]
    exact run_ret (h15 _)
  rw [e14]
  rfl
end Mine

end

section
set_option maxRecDepth 100000
namespace Mine
open PySem.MeetsSeq PySem.SeqAt

/-! ## list.remove, by == as it stands -/
theorem remove_loopAt (l : Addr) (items : Array Value) (n : Nat) (x : Value) (e : Value → Bool) (j : Nat) (hj : j < items.size) (hit : e items[j] = true) (hs1 : items.size ≤ sizeLine) (k : Nat) :
    ∀ i : Nat, j - i = k → i ≤ j → (∀ m (hm : m < items.size), i ≤ m → m < j → e items[m] = false) → Meets (Builtin.«list.remove.loop» ⟨[.ref l, x, rawInt i], []⟩)
      (fun A R s => s.heap.get? l = some { cls := .type "list", dict := none, data := .seq items n, slots := #[] } ∧ (∀ y, y ∈ items → EqAt A.in1 s y x (e y)) ∧
        R (.ok (.ret .none)) { s with heap := s.heap.update l (Obj.mapSeq fun xs => xs.eraseIdxIfInBounds j) }) := by
  induction k with
  | zero =>
    intro i hk hij hno prog w A R s h
    obtain ⟨hp, g, d, tk, os⟩ := s; obtain ⟨hl, he, h⟩ := h
    have hij' : i = j := by omega
    subst hij'
    wp_walk using wpAny_loadPart' hl
    have hi : items[((i : Nat) : Int).toNat]? = some items[i] := by simp [hj]
    rw [hi]
    refine wpAny_bind (he _ (Array.getElem_mem hj) prog w _ _ ?_)
    rw [hit]
    have hz' : (items.eraseIdxIfInBounds i).size ≤ sizeLine + 1 := Nat.le_trans (size_erased items _) (Nat.le_succ_of_le hs1)
    wp_walk using (wpAny_updateSeq hl rfl (hz := hs1) (_hz' := hz')), wpAny_loadPart' hl
    simpa using h
  | succ k ih =>
    intro i hk hij hno prog w A R s h
    obtain ⟨hp, g, d, tk, os⟩ := s; obtain ⟨hl, he, h⟩ := h
    have hlt : i < items.size := by omega
    wp_walk using wpAny_loadPart' hl
    have hi : items[((i : Nat) : Int).toNat]? = some items[i] := by simp [hlt]
    have hc : ((i : Int) + 1) = ((i + 1 : Nat) : Int) := by push_cast; rfl
    rw [hi]
    refine wpAny_bind (he _ (Array.getElem_mem hlt) prog w _ _ ?_)
    rw [hno i hlt (Nat.le_refl _) (by omega)]
    wp_walk
    rw [hc]
    exact ⟨plainId_quiet plain_remove_loop _, codeAny_builtin entry_remove_loop (by
      rw [Around.under_plainId plain_remove_loop _]
      exact ih (i + 1) (by omega) (by omega) (fun m hm h1 h2 => hno m hm (by omega) h2) prog w A R _ ⟨hl, he, h⟩)⟩
theorem list_removeAt (l : Addr) (items : Array Value) (n : Nat) (x : Value) (e : Value → Bool) (j : Nat) (hj : j < items.size)
    (hit : e items[j] = true) (hno : ∀ m (hm : m < items.size), m < j → e items[m] = false) (hs1 : items.size ≤ sizeLine) :
    Meets (Builtin.«list.remove» ⟨[.ref l, x], []⟩)
      (fun A R s => s.heap.get? l = some { cls := .type "list", dict := none, data := .seq items n, slots := #[] } ∧ (∀ y, y ∈ items → EqAt A.in1 s y x (e y)) ∧
        R (.ok (.ret .none)) { s with heap := s.heap.update l (Obj.mapSeq fun xs => xs.eraseIdxIfInBounds j) }) := by
  intro prog w A R s h
  obtain ⟨hp, g, d, tk, os⟩ := s; obtain ⟨hl, he, h⟩ := h
  wp_walk using wpAny_loadPart' hl
  exact ⟨plainId_quiet plain_remove_loop _, codeAny_builtin entry_remove_loop (by
    rw [Around.under_plainId plain_remove_loop _]
    exact remove_loopAt l items n x e j hj hit hs1 _ 0 rfl (Nat.zero_le _) (fun m hm z0 h2 => hno m hm h2) prog w A R _ ⟨hl, he, h⟩)⟩
theorem remove_loop_noneAt (l : Addr) (items : Array Value) (n : Nat) (x : Value) (e : Value → Bool) (hno : ∀ m (hm : m < items.size), e items[m] = false) (k : Nat) :
    ∀ i : Nat, items.size - i = k → Meets (Builtin.«list.remove.loop» ⟨[.ref l, x, rawInt i], []⟩)
      (fun A R s => s.heap.get? l = some { cls := .type "list", dict := none, data := .seq items n, slots := #[] } ∧ (∀ y, y ∈ items → EqAt A.in1 s y x (e y)) ∧ raisesNew "ValueError" A R s) := by
  induction k with
  | zero =>
    intro i hk prog w A R s h
    obtain ⟨hp, g, d, tk, os⟩ := s; obtain ⟨hl, he, h⟩ := h
    wp_walk using wpAny_loadPart' hl
    have hi : items[((i : Nat) : Int).toNat]? = none := by simp; omega
    rw [hi]
    wp_walk
    exact_raiseError plainExc_ValueError h.1 h.2
  | succ k ih =>
    intro i hk prog w A R s h
    obtain ⟨hp, g, d, tk, os⟩ := s; obtain ⟨hl, he, h⟩ := h
    have hlt : i < items.size := by omega
    wp_walk using wpAny_loadPart' hl
    have hi : items[((i : Nat) : Int).toNat]? = some items[i] := by simp [hlt]
    have hc : ((i : Int) + 1) = ((i + 1 : Nat) : Int) := by push_cast; rfl
    rw [hi]
    refine wpAny_bind (he _ (Array.getElem_mem hlt) prog w _ _ ?_)
    rw [hno i hlt]
    wp_walk
    rw [hc]
    exact ⟨plainId_quiet plain_remove_loop _, codeAny_builtin entry_remove_loop (by
      rw [Around.under_plainId plain_remove_loop _]
      exact ih (i + 1) (by omega) prog w A R _ ⟨hl, he, h⟩)⟩
theorem list_remove_noneAt (l : Addr) (items : Array Value) (n : Nat) (x : Value) (e : Value → Bool) (hno : ∀ m (hm : m < items.size), e items[m] = false) :
    Meets (Builtin.«list.remove» ⟨[.ref l, x], []⟩)
      (fun A R s => s.heap.get? l = some { cls := .type "list", dict := none, data := .seq items n, slots := #[] } ∧ (∀ y, y ∈ items → EqAt A.in1 s y x (e y)) ∧ raisesNew "ValueError" A R s) := by
  intro prog w A R s h
  obtain ⟨hp, g, d, tk, os⟩ := s; obtain ⟨hl, he, h⟩ := h
  wp_walk using wpAny_loadPart' hl
  exact ⟨plainId_quiet plain_remove_loop _, codeAny_builtin entry_remove_loop (by
    rw [Around.under_plainId plain_remove_loop _]
    exact remove_loop_noneAt l items n x e hno _ 0 rfl prog w A R _ ⟨hl, he, h⟩)⟩
end Mine

end

section
set_option maxRecDepth 100000
namespace Mine
variable {prog : Program} {w : World}
section
variable {A : Around} {E : Value → Shared → Prop} {s : Shared} {env : Env} {sc : Scope} {T : Tab} {n : Nat} {h₀ hb : Heap} {ext : Addr → Prop} {σ σ₁ σ' : St} {ad : Str → List Addr}

theorem remove_ok {x : Str} {xp : Pos} {e : Expr} {apos pos p2 : Pos} {ts : List D} {d : D} {Q : Flow → Shared → Prop} (TO : TabOk prog w T n h₀) (hline : (apos.endLine == pos.line) = true) (hx : okName x = true) (hw : wfE e sc = true)
    (he : evE T e sc (coldV σ) = some d) (ht : σ.lookup x = some (.hot1 ts)) (hd : eqOk 9 d = true) (hts : ts.all (eqOk 9) = true) (hlen : ts.length ≤ 1000)
    (I : SInv prog w hb ext env sc σ ad s.heap) (hA : Aok n A) (hE : Ext h₀ hb)
    (hq : ∀ j, ts.findIdx? (fun y => eqvD y d) = some j → ∀ s' ad', Same s s' → Next prog w hb ext env sc σ ad s.heap (put x (.hot1 (ts.eraseIdx j)) σ) ad' s'.heap → Q .next s')
    (hr : ts.findIdx? (fun y => eqvD y d) = none → ∀ s₁ h' tk ex, Keeps s s₁ → Heap.NewExc s₁.heap h' ex "ValueError" → E (.ref ex) { s₁ with heap := h', toks := tk }) :
    wpAny (model prog w) A (exec (.Expr (.Call (.Attribute (.Name x xp) (Str.ofString "remove") apos) [e] [] pos) p2) env) Q E s := by
  have hE' : Ext h₀ s.heap := hE.trans I.base
  have hi := not_inter I.ok
  have S := (all_ok TO trivial (sizeOf e + 1) e (Nat.lt_succ_self _)).1
  obtain ⟨v, va, a, vs, rfl, e2, pl, r⟩ := I.at x _ ht
  have hl := r.length
  simp only [Array.length_toList] at hl
  have hstar : starEach [e] env = [(false, eval e env)] := star_of he
  have hb1 : backTo pos (starEach [e] env) = backTo pos [(false, eval e env)] := by rw [hstar]
  have hp : ∀ x ∈ backTo pos (starEach [e] env), x.1 = false := by
    rw [hb1]; intro x hx
    have : x.1 ∈ (backTo pos [(false, eval e env)]).map (·.1) := List.mem_map.mpr ⟨x, hx, rfl⟩
    simpa [backTo] using this
  refine wpAny_Expr ?_ hi rfl
  refine wpAny_Call_method_lateS rfl ?_ hline ?_
  · have h1 : (backTo pos (starEach [e] env)).all (fun x => !x.1) = true := by
      rw [List.all_eq_true]; intro x hx; rw [hp x hx]; rfl
    rw [h1]; rfl
  refine var_load I.ok va hx ?_
  obtain ⟨n0, g⟩ := pl
  refine ⟨"list", "list.remove", PySem.F.plainAttrs_list, PySem.F.slot_list_remove, PySem.F.type_list_remove, ⟨_, g, rfl⟩, fun a' q => (by cases q; exact ⟨_, g, rfl⟩), ?_⟩
  refine callWith_mach hp ?_
  refine wpAny_items_cons (S sc _ d env _ A s E _ hw he I.viewA hA I.hot hE' fun v s₂ k₂ rv z0 => wpAny_items_nil ⟨fun Q' q => keeper_flat (fun a => by intro z; cases z) q, ?_⟩) hstar
  have g2 := kx k₂ a _ g
  have r2 := r.mono (kx k₂).sees
  obtain ⟨as, p⟩ := reps_reads 9 r2 fun y hy => List.all_eq_true.mp hts y hy
  obtain ⟨bs, q⟩ := rep_reads 9 rv hd
  have hlay := lay_all hts
  have hmap := SeqAt.readsAll_map _ _ _ hlay p
  have get : ∀ (k : Nat) (h1 : k < vs.size) (h2 : k < ts.length), SeqAt.readOf s₂.heap vs[k] = toPy ts[k] := fun k h1 h2 => by
    have e1 : (vs.toList.map (SeqAt.readOf s₂.heap))[k]? = some (SeqAt.readOf s₂.heap vs[k]) := by simp [h1]
    rw [hmap] at e1
    have e2 : (toPys ts)[k]? = some (toPy ts[k]) := by
      rw [toPys_eq, List.getElem?_map, List.getElem?_eq_getElem h2]; rfl
    rw [e2] at e1
    exact (Option.some.inj e1).symm
  cases hj : ts.findIdx? (fun y => eqvD y d) with
  | some j =>
    have hj0 := hj
    rw [List.findIdx?_eq_some_iff_getElem] at hj
    obtain ⟨hj1, hj2, hj3⟩ := hj
    refine call_meets PySem.F.slot_list_remove ⟨_, g2, rfl⟩ PySem.F.entry_list_remove (PySem.F.args_list_remove_2 _ _)
      (list_removeAt a vs n0 v (fun y => PyData.eqv (SeqAt.readOf s₂.heap y) (toPy d)) j (by omega) ?_ ?_ (by rw [sizeLine_eq]; omega)) ⟨g2, ?_, ?_⟩
    · show PyData.eqv (SeqAt.readOf s₂.heap vs[j]) (toPy d) = true
      rw [get j (by omega) hj1]
      exact hj2
    · intro k hk hlt
      show PyData.eqv (SeqAt.readOf s₂.heap vs[k]) (toPy d) = false
      rw [get k hk (by omega)]
      have : eqvD ts[k] d = false := by simpa using hj3 k hlt
      exact this
    · exact SeqAt.items_eqAt p q hlay (eqOk_lay 9 _ hd).1 (in_room hA hd)
    · obtain ⟨n', hn'⟩ := mapSeq_plain (fun xs => xs.eraseIdxIfInBounds j) vs n0
      have hfin : (s₂.heap.update a (Obj.mapSeq fun xs => xs.eraseIdxIfInBounds j)).PlainList a (vs.eraseIdxIfInBounds j) := ⟨n', by rw [Heap.get?_update_self _ g2 (by rw [hn']; rfl), hn']⟩
      have sb : Heap.SameBut a s₂.heap (s₂.heap.update a (Obj.mapSeq fun xs => xs.eraseIdxIfInBounds j)) := Heap.SameBut.update ..
      have ha' : a ∈ ad x := by rw [e2]; exact List.mem_cons_self
      have kk : ∀ z o, z ≠ a → s.heap.get? z = some o → (s₂.heap.update a (Obj.mapSeq fun xs => xs.eraseIdxIfInBounds j)).get? z = some o := fun z o nz g => sb.extBut z o nz (kx k₂ z o g)
      have sub : ∀ z ∈ [a], z ∈ ad x ∨ s.heap.get? z = none := fun z hz => .inl (by rw [e2]; exact hz)
      have sees := I.mutSees (t' := .hot1 (ts.eraseIdx j)) (as' := [a]) ht ha' kk sub
      refine hq j hj0 _ _ (Same.trans (Same.of k₂) ⟨_, _, rfl⟩) (I.mut ht ha' kk va ⟨a, vs.eraseIdxIfInBounds j, rfl, rfl, hfin, ?_⟩ sub (by simp))
      have e3 : (vs.eraseIdxIfInBounds j).toList = vs.toList.eraseIdx j := by
        have hjv : j < vs.size := by omega
        simp [Array.eraseIdxIfInBounds, hjv]
      rw [e3]
      exact (r.eraseIdx j).mono sees
  | none =>
    have hj0 := hj
    rw [List.findIdx?_eq_none_iff] at hj
    refine call_meets PySem.F.slot_list_remove ⟨_, g2, rfl⟩ PySem.F.entry_list_remove (PySem.F.args_list_remove_2 _ _)
      (list_remove_noneAt a vs n0 v (fun y => PyData.eqv (SeqAt.readOf s₂.heap y) (toPy d)) ?_) ⟨g2, ?_, hA.handled, fun h' tk ex hx => hr hj0 s₂ h' tk ex k₂ hx⟩
    · intro k hk
      show PyData.eqv (SeqAt.readOf s₂.heap vs[k]) (toPy d) = false
      rw [get k hk (by omega)]
      have : eqvD ts[k] d = false := hj _ (List.getElem_mem _)
      exact this
    · exact SeqAt.items_eqAt p q hlay (eqOk_lay 9 _ hd).1 (in_room hA hd)
end
end Mine

end

section
set_option maxRecDepth 100000
namespace Mine
variable {prog : Program} {w : World}
section
variable {A : Around} {E : Value → Shared → Prop} {s : Shared} {env : Env} {sc : Scope} {T : Tab} {n : Nat} {h₀ hb h h' h₁ h₂ : Heap} {ext ext' : Addr → Prop} {σ σ₁ σ₂ σ' : St} {ad ad₁ ad₂ : Str → List Addr} {wr : List Addr}

/-- a loop, by what holds between its turns -/
theorem for_gen {tg it : Expr} {b : List Stmt} {pos : Pos} {d : D} {items : List D} (TO : TabOk prog w T n h₀) (hwt : plainTg sc tg = true) (hwi : wfE it sc = true) (hv : evV T it sc σ = some (d, σ₁)) (hit : iterD d = some items)
    (P : Nat → St → Prop) (hP : P 0 σ₁) (I : SInv prog w hb ext env sc σ ad s.heap) (hA : Aok n A) (hE : Ext h₀ hb) {Q : Flow → Shared → Prop}
    (turn : ∀ i d σᵢ, items[i]? = some d → P i σᵢ → ∃ σ₂, bindS tg d σᵢ = some σ₂ ∧ ∀ (ext' : Addr → Prop) (ad₂ : Str → List Addr) (s₄ : Shared) (Q' : Flow → Shared → Prop), SInv prog w hb ext' env sc σ₂ ad₂ s₄.heap → Same s s₄ →
      (∀ f s₅ fl σ₃, Post prog w hb ext' env sc σ₂ ad₂ s₄ fl σ₃ f s₅ → (∀ d, fl ≠ .ret d) → P (i + 1) σ₃ → Q' f s₅) → wpAny (model prog w) A (execs b env) Q' (notedBy (model prog w) A env (cameBackBy (model prog w) A env E)) s₄)
    (hq : ∀ s' σ' ad', Same s s' → Next prog w hb ext env sc σ ad s.heap σ' ad' s'.heap → P items.length σ' → Q .next s') :
    wpAny (model prog w) A (exec (.For tg it b [] pos) env) Q E s := by
  refine for_any TO hwt hwi hv hit P (fun z0 z0 => False) hP I hA hE (fun i d σᵢ hd hp => ?_) (fun z0 z0 z0 z0 z0 h => h.elim) hq
  obtain ⟨σ₂, h1, h2⟩ := turn i d σᵢ hd hp
  exact ⟨σ₂, h1, fun ext' ad₂ s₄ Q' J sm k => h2 ext' ad₂ s₄ Q' J sm fun f s₅ fl σ₃ P' hnr h3 => k f s₅ fl σ₃ P' (by
    cases fl with
    | ret d => exact absurd rfl (hnr d)
    | _ => exact h3)⟩
end
end Mine

end

section
set_option maxRecDepth 100000
namespace Mine
variable {prog : Program} {w : World}

/-! ## a caught ValueError -/
/-- two frames, the caller's own places at L₀ -/
structure TwoFr (A : Around) (env envL : Env) (L L₀ : Addr) : Prop where
  fr : A.frames = some [env, envL]
  k1 : env.scope.kind ≠ .module
  k2 : envL.scope.kind ≠ .module
  f1 : env.frame = some L
  f2 : envL.frame = some L₀

/-- what of the heap hb stands, the caller's frame object but for its slots -/
structure But (L₀ : Addr) (hb h : Heap) : Prop where
  keep : ∀ b o, b ≠ L₀ → hb.get? b = some o → h.get? b = some o
  at0 : ∀ o, hb.get? L₀ = some o → ∃ sl, h.get? L₀ = some { o with slots := sl }
theorem But.of_ext {L₀ : Addr} {hb h : Heap} (x : Ext hb h) : But L₀ hb h := ⟨fun b o z0 g => x b o g, fun o g => ⟨o.slots, x _ o g⟩⟩
theorem But.step {L₀ : Addr} {hb h h' : Heap} (x : But L₀ hb h) (k : ∀ b o, (∃ o', hb.get? b = some o') → h.get? b = some o → h'.get? b = some o) : But L₀ hb h' :=
  ⟨fun b o n g => k b o ⟨o, g⟩ (x.keep b o n g), fun o g => let ⟨sl, e⟩ := x.at0 o g; ⟨sl, k _ _ ⟨o, g⟩ e⟩⟩

structure Held (hb : Heap) (L₀ : Addr) (h : Heap) (e tb : Addr) (fl : Value) : Prop where
  but : But L₀ hb h
  exc : ∃ ob vs, h.get? e = some ob ∧ ob.cls = .type "ValueError" ∧ ob.data = .fields vs ∧ vs[1]? = some (.ref tb)
  tbk : ∃ ot ts, h.get? tb = some ot ∧ ot.data = .fields ts ∧ ts[3]? = some fl
  fe : hb.get? e = none
  ft : hb.get? tb = none
  ne : tb ≠ e

section
variable {A : Around} {E : Value → Shared → Prop} {s : Shared} {env envL : Env} {L L₀ e tb : Addr} {hb : Heap} {M : Model}

/-- the flag of a traceback is set -/
theorem flight_set {fl : Value} {f : Option Addr} {Q : Unit → Shared → Prop} (H : Held hb L₀ s.heap e tb fl)
    (h : ∀ h', Held hb L₀ h' e tb (f.elim .none fun f => rawInt f) → Q () { s with heap := h' }) : wpAny M A (setFlight (.ref e) f) Q E s := by
  obtain ⟨B, ⟨ob, vs, he, hc, hd, h1⟩, ⟨ot, ts, ht, htd, h3⟩, fe, ft, ne⟩ := H
  have hsz : 3 < ts.size := (Array.getElem?_eq_some_iff.mp h3).1
  unfold setFlight
  refine wpAny_bind (wpAny_field he hd h1 ?_)
  rw [if_pos (show (Value.ref tb != Value.none) = true from by simp)]
  refine wpAny_setField ht htd hsz (h _ ⟨B.step fun b o ⟨o', g⟩ g' => ?_, ⟨ob, vs, ?_, hc, hd, h1⟩, ⟨_, ts.setIfInBounds 3 _, Heap.get?_update_self _ ht (Obj.isFreed_of_fields (Obj.data_mapFields htd _)), Obj.data_mapFields htd _, by simp [hsz]⟩, fe, ft, ne⟩)
  · exact (Heap.get?_update_ne _ _ _ _ (fun q => by rw [q, ft] at g; cases g)).trans g'
  · exact (Heap.get?_update_ne _ _ _ _ ne.symm).trans he

theorem note_again {Q : Unit → Shared → Prop} (hf : env.frame = some L) (H : Held hb L₀ s.heap e tb (rawInt L)) (h : Q () s) : wpAny M A (noteFrame (.ref e) env) Q E s := by
  obtain ⟨B, ⟨ob, vs, he, hc, hd, h1⟩, ⟨ot, ts, ht, htd, h3⟩, fe, ft, ne⟩ := H
  exact wpAny_noteFrame_inFlight hf he hd h1 ht htd h3 h

/-- the first note of an exception that the frame itself met -/
theorem note_first {h₁ : Heap} {oL : Obj} {Q : Unit → Shared → Prop} (F : TwoFr A env envL L L₀) (hx : Heap.NewExc h₁ s.heap e "ValueError") (hbase : Ext hb h₁) (hL : h₁.get? L = some oL) (hLd : ∀ vs, oL.data ≠ .fields vs)
    (hLn : hb.get? L = none) {o0 : Obj} (h0 : hb.get? L₀ = some o0) (h0d : ∀ vs, o0.data ≠ .fields vs)
    (h : ∀ h' tb, Held hb L₀ h' e tb (rawInt L) → Q () { s with heap := h' }) : wpAny M A (noteFrame (.ref e) env) Q E s := by
  obtain ⟨hk, hn, ob, t, he, hc, hd⟩ := hx
  have lt : ∀ b o, hb.get? b = some o → s.heap.get? b = some o := fun b o g => hk b o (hbase b o g)
  have heb : hb.get? e = none := by
    cases g : hb.get? e with
    | none => rfl
    | some o => rw [hbase e o g] at hn; cases hn
  have hLs := hk _ _ hL
  have h0s := lt _ _ h0
  have hl : s.heap.FunFrames { s.heap with objs := #[] } [env, envL] := ⟨F.k1, ⟨L, oL, F.f1, rfl, hLs, hLd⟩, F.k2, ⟨L₀, o0, F.f2, rfl, h0s, h0d⟩, trivial⟩
  have hfs : ([env, envL].filterMap (·.frame)) = [L, L₀] := by simp [F.f1, F.f2]
  have heL : e ≠ L := fun q => by rw [q, hL] at hn; cases hn
  have he0 : e ≠ L₀ := fun q => by rw [q, h0] at heb; cases heb
  have hnot : e ∉ [L, L₀] := by simp [heL, he0]
  unfold noteFrame
  simp only [F.f1]
  refine wpAny_bind (wpAny_field he hd rfl ?_)
  rw [if_neg (by simp)]
  refine wpAny_bind (wpAny_frameOf_fun F.fr hl F.f1 fun h₂ hs => ?_)
  rw [hfs] at hs
  refine wpAny_bind (wpAny_entryPlaceOf fun pl hpl => ?_)
  unfold EntryCells.newEntry newFields
  refine wpAny_bind (wpAny_newObj_type ?_ (hpl.sizeOk5 _ _ _ _ _))
  have he₁ : h₂.get? e = some ob := (hs.2.1 e hnot).trans he
  have hTe : h₂.objs.size ≠ e := Nat.ne_of_gt (Heap.lt_size he₁)
  have he₂ := Heap.get?_push_of_some (h := h₂) { cls := .type "traceback", dict := none, data := .fields ([Value.none, .ref L, .none, rawInt L, .none] ++ (if pl.isEmpty then List.replicate 6 Value.none else pl)).toArray } he₁
  have hTb : hb.get? h₂.objs.size = none := by
    cases g : hb.get? h₂.objs.size with
    | none => rfl
    | some o =>
      have := Heap.lt_size (lt _ _ g)
      rw [hs.1] at this
      exact absurd this (Nat.lt_irrefl _)
  refine wpAny_setField he₂ hd (by simp) (h _ h₂.objs.size ⟨⟨fun b o nb g => ?_, fun o g => ?_⟩, ?_, ?_, heb, hTb, hTe⟩)
  · have hbe : b ≠ e := fun q => by rw [q, heb] at g; cases g
    have hbL : b ≠ L := fun q => by rw [q, hLn] at g; cases g
    rw [Heap.get?_update_other _ _ (Ne.symm hbe)]
    exact Heap.get?_push_of_some _ ((hs.2.1 b (by simp [hbL, nb])).trans (lt b o g))
  · obtain ⟨sl, g2⟩ := hs.2.2 L₀ o (lt _ _ g)
    refine ⟨sl, ?_⟩
    rw [Heap.get?_update_other _ _ he0]
    exact Heap.get?_push_of_some _ g2
  · refine ⟨_, _, Heap.get?_update_self _ he₂ (Obj.isFreed_of_fields (Obj.data_mapFields hd _)), ?_, Obj.data_mapFields hd _, by simp⟩
    obtain ⟨c, d, dt, sl⟩ := ob
    obtain rfl : dt = _ := hd
    exact hc
  · refine ⟨{ cls := .type "traceback", dict := none, data := .fields ([Value.none, .ref L, .none, rawInt L, .none] ++ (if pl.isEmpty then List.replicate 6 Value.none else pl)).toArray }, _, ?_, rfl, by simp⟩
    rw [Heap.get?_update_other _ _ (Ne.symm hTe)]
    exact Heap.get?_push_size h₂ rfl
end
end Mine

end

section
set_option maxRecDepth 100000
namespace Mine
variable {prog : Program} {w : World}
section
variable {A : Around} {E : Value → Shared → Prop} {s : Shared} {env envL : Env} {sc : Scope} {T : Tab} {n : Nat} {h₀ hb : Heap} {ext : Addr → Prop} {σ σ₁ σ' : St} {ad : Str → List Addr} {L₀ : Addr} {mg mb : Str → Option Value}

theorem cold_up {x : Str} {d : D} : ∀ {σ : St}, σ.lookup x = some (.cold d) → (coldV σ).lookup x = some d
  | (y, t) :: r, h => by
    rw [List.lookup_cons] at h
    cases hx : x == y with
    | true =>
      rw [hx] at h
      cases h
      rw [coldV, List.lookup_cons, hx]
    | false =>
      rw [hx] at h
      cases t with
      | cold e => rw [coldV, List.lookup_cons, hx]; exact cold_up h
      | hot1 _ => exact cold_up (σ := r) h
      | hot2 _ => exact cold_up (σ := r) h

/-- a ValueError met in the loop is caught, False is handed back -/
theorem caught_ok {h₁ : Heap} {ex : Addr} {s₁ : Shared} {oL o0 : Obj} {x : Str} {xp p10 p11 p9 : Pos} {k : Nat} {Q : Flow → Shared → Prop} (H : HB w h₀ mg mb) (hE : Ext h₀ hb) (h00 : h₀.get? L₀ = none) (F : TwoFr A env envL env.locals L₀) (O : EnvOk env sc)
    (hxv : x = Str.ofString "ValueError") (hxk : sc.names.lookup x = some .globalImplicit)
    (hx : Heap.NewExc h₁ s₁.heap ex "ValueError") (hbase : Ext hb h₁) (hL : h₁.get? env.locals = some oL) (hLd : ∀ vs, oL.data ≠ .fields vs) (hLn : hb.get? env.locals = none) (h0 : hb.get? L₀ = some o0) (h0d : ∀ vs, o0.data ≠ .fields vs)
    (hq : ∀ s', Same s₁ s' → But L₀ hb s'.heap → Q (.ret (.bool false)) s') :
    notedBy (model prog w) A env (cameBackBy (model prog w) A env (fun e s₁ => wpAny (model prog w) A (noteFrame e env) (fun z0 s₂ => wpAny (model prog w) A (setFlight e none) (fun z0 s₃ =>
      wpAny (model prog w) A (handleBy e env [.ExceptHandler (some (.Name x xp)) none [.Return (some (.Constant (.bool false) k p9)) p10] p11]) Q E s₃) E s₂) E s₁)) (.ref ex) s₁ := by
  subst hxv
  unfold notedBy
  refine note_first F hx hbase hL hLd hLn h0 h0d fun h' tb K => ?_
  unfold cameBackBy
  obtain ⟨ob, vs, he, hc, hd, h1⟩ := K.exc
  refine wpAny_bind (wpAny_field (s := { s₁ with heap := h' }) he hd h1 ?_)
  rw [if_neg (by simp)]
  refine flight_set (s := { s₁ with heap := h' }) K fun h2 K2 => ?_
  rw [F.f1] at K2
  refine note_again (s := { s₁ with heap := h2 }) F.f1 K2 ?_
  refine flight_set (s := { s₁ with heap := h2 }) K2 fun h3 K3 => ?_
  have low : ∀ h, But L₀ hb h → Ext h₀ h := fun h B b o g => B.keep b o (fun q => by rw [q, h00] at g; cases g) (hE b o g)
  have kk := O.kinds (Str.ofString "ValueError")
  rw [hxk] at kk
  have gv : GlobAt h₀ (Str.ofString "ValueError") (.type "ValueError") := H.built (by kernel_rfl) (by kernel_rfl)
  obtain ⟨ob3, vs3, he3, hc3, hd3, h13⟩ := K3.exc
  refine wpAny_handleBy_builtin (X := "ValueError") (T := "ValueError") (b := true) PySem.F.isExc_ValueError PySem.F.notTuple_ValueError (by rw [isSubtype_type]; kernel_rfl) ?_
  refine glob_load (s := { s₁ with heap := h3 }) (gv.keeps (low h3 K3.but)) O kk (by decide +kernel) ⟨rfl, ⟨ob3, he3, hc3⟩, ?_⟩
  rw [if_pos rfl]
  refine flight_set (s := { s₁ with heap := h3 }) K3 fun h4 K4 => ?_
  refine wpAny_execs_cons (wpAny_Return_some (wpAny_Constant_bool ?_))
  exact hq _ ⟨h4, _, rfl⟩ K4.but

theorem try_cmp {tn en : Str} {tp ep ep2 xp p3 p5 p6 p7 p9 p10 p11 p12 : Pos} {k : Nat} {it : Expr} {x : Str} {xs ys : List D} {o0 : Obj} {Q : Flow → Shared → Prop} (TO : TabOk prog w T n h₀) (H : HB w h₀ mg mb) (hE : Ext h₀ hb) (h00 : h₀.get? L₀ = none) (F : TwoFr A env envL env.locals L₀)
    (hxv : x = Str.ofString "ValueError") (hxk : sc.names.lookup x = some .globalImplicit) (hline : (p3.endLine == p5.line) = true) (hne : tn ≠ en) (htn : okName tn = true) (hen : okName en = true) (hwt : plainTg sc (.Name en ep) = true) (hwi : wfE it sc = true)
    (hek : sc.names.lookup en = some .local) (h0 : hb.get? L₀ = some o0) (h0d : ∀ vs, o0.data ≠ .fields vs)
    (hv : evV T it sc σ = some (.list xs, σ)) (ht : σ.lookup tn = some (.hot1 ys)) (hok : strikeOk xs ys = true) (hl : xs.length ≤ 1000) (hl' : ys.length ≤ 1000) (I : SInv prog w hb ext env sc σ ad s.heap) (hA : Aok n A)
    (hq1 : ∀ t' s' σ' ad', strike xs ys = some t' → Same s s' → Next prog w hb ext env sc σ ad s.heap σ' ad' s'.heap → σ'.lookup tn = some (.hot1 t') → t'.length ≤ 1000 → Q .next s')
    (hq2 : strike xs ys = none → ∀ s', Same s s' → But L₀ hb s'.heap → Q (.ret (.bool false)) s') :
    wpAny (model prog w) A (exec (.Try [.For (.Name en ep) it [.Expr (.Call (.Attribute (.Name tn tp) (Str.ofString "remove") p3) [.Name en ep2] [] p5) p6] [] p7]
      [.ExceptHandler (some (.Name x xp)) none [.Return (some (.Constant (.bool false) k p9)) p10] p11] [] [] p12) env) Q E s := by
  refine wpAny_Try_except ?_
  have hlist : iterD (.list xs) = some xs := by unfold iterD; exact if_pos (by lia)
  refine wpAny_execs_cons (for_gen (P := fun i σ => ∃ ts, σ.lookup tn = some (.hot1 ts) ∧ strikeOk (xs.drop i) ts = true ∧ strike (xs.drop i) ts = strike xs ys ∧ ts.length ≤ 1000) TO hwt hwi hv hlist
    ⟨ys, ht, by simpa using hok, by simp, hl'⟩ I hA hE (fun i d σᵢ hd ⟨ts, hts, ho, hs, hlt⟩ => ?_) fun s' σ' ad' sm N ⟨ts, hts, ho, hs, hlt⟩ => ?_)
  · refine ⟨put en (.cold d) σᵢ, rfl, fun ext' ad₂ s₄ Q' J sm4 hq' => ?_⟩
    have hi : i < xs.length := (List.getElem?_eq_some_iff.mp hd).1
    have hdi : xs[i] = d := (List.getElem?_eq_some_iff.mp hd).2
    rw [List.drop_eq_getElem_cons hi, hdi] at ho hs
    rw [strikeOk, Bool.and_eq_true, Bool.and_eq_true] at ho
    obtain ⟨⟨ho1, ho2⟩, ho3⟩ := ho
    rw [strike, ho1, ho2] at hs
    have hts2 : (put en (.cold d) σᵢ).lookup tn = some (.hot1 ts) := by rw [put_lookup, if_neg hne]; exact hts
    have hev : evE T (.Name en ep2) sc (coldV (put en (.cold d) σᵢ)) = some d := by
      have h1 : (put en (.cold d) σᵢ).lookup en = some (.cold d) := by rw [put_lookup, if_pos rfl]
      show nameD T sc _ en = _
      unfold nameD
      rw [hek]
      exact cold_up h1
    refine wpAny_execs_cons (remove_ok TO hline htn (show wfE (.Name en ep2) sc = true from hen) hev hts2 ho1 ho2 hlt J hA hE (fun j hj s' ad' sm N => ?_) fun hj s₁ h' tk ex k₁ hx => ?_)
    · rw [hj] at hs ho3
      simp only [true_and, if_true] at hs
      refine wpAny_execs_nil (hq' _ _ _ _ (.next sm N) (fun z0 z => by cases z) ⟨ts.eraseIdx j, by rw [put_lookup, if_pos rfl], ho3, hs, ?_⟩)
      have := (List.eraseIdx_sublist ts j).length_le
      lia
    · rw [hj] at hs
      simp only [true_and, if_true] at hs
      obtain ⟨m, q0, es, epp, q1, q2, _⟩ := J.fm.ns
      have hxs : Heap.NewExc s₁.heap h' ex "ValueError" := hx
      refine caught_ok (s₁ := { s₁ with heap := h', toks := tk }) H hE h00 F J.ok hxv hxk hx (J.base.trans (kx k₁)) (kx k₁ _ _ q1) (fun vs z => by rw [q2] at z; cases z) (J.fb _ (.inl rfl)) h0 h0d fun s' sm' B => ?_
      exact hq2 hs.symm s' (sm4.trans ((Same.of k₁).trans (Same.trans ⟨h', tk, rfl⟩ sm'))) B
  · rw [List.drop_length] at hs
    exact wpAny_execs_nil (wpAny_execs_nil (hq1 ts s' σ' ad' hs.symm sm N hts hlt))
end
end Mine

end

section
set_option maxRecDepth 100000
namespace Mine
variable {prog : Program} {w : World}
section
variable {A : Around} {E : Value → Shared → Prop} {s : Shared} {env envL : Env} {sc : Scope} {T : Tab} {n : Nat} {h₀ hb : Heap} {ext : Addr → Prop} {σ σ₁ σ' : St} {ad : Str → List Addr} {L₀ : Addr} {mg mb : Str → Option Value}

end
end Mine

end

section
set_option maxRecDepth 100000
namespace Mine
variable {prog : Program} {w : World}
section
variable {A : Around} {E : Value → Shared → Prop} {s : Shared} {env envL : Env} {sc : Scope} {T : Tab} {n : Nat} {h₀ hb : Heap} {ext : Addr → Prop} {σ σ₁ σ' : St} {ad : Str → List Addr} {L₀ : Addr} {mg mb : Str → Option Value}

theorem list_hot {x y f : Str} {xp fp yp cp pos : Pos} {ys : List D} {Q : Flow → Shared → Prop} (TO : TabOk prog w T n h₀) (hfk : sc.names.lookup f = some .globalImplicit) (hfn : okName f = true) (hbv : GlobAt h₀ f (.type "list")) (hy : wfE (.Name y yp) sc = true)
    (hev : evE T (.Name y yp) sc (coldV σ) = some (.list ys)) (cx : CanStore env env.cells sc x) (hlen : ys.length ≤ 1000)
    (I : SInv prog w hb ext env sc σ ad s.heap) (hA : Aok n A) (hE : Ext h₀ hb)
    (hq : ∀ s' ad', Same s s' → Next prog w hb ext env sc σ ad s.heap (put x (.hot1 ys) σ) ad' s'.heap → Q .next s') :
    wpAny (model prog w) A (exec (.Assign [.Name x xp] (.Call (.Name f fp) [.Name y yp] [] cp) pos) env) Q E s := by
  have hE' : Ext h₀ s.heap := hE.trans I.base
  have kf := I.ok.kinds f
  rw [hfk] at kf
  have hs1 : seqO (evEach T [.Name y yp] sc (coldV σ)) = some [.list ys] := by
    show (evE T (.Name y yp) sc (coldV σ)).bind _ = _
    rw [hev]; rfl
  refine wpAny_Assign_Name ?_ rfl
  have he : eval (.Call (.Name f fp) [.Name y yp] [] cp) env = (do callWith cp (← eval (.Name f fp) env) [] (backTo cp (starEach [.Name y yp] env)) (backToKw cp (keywordEach [] env))) := rfl
  rw [he]
  refine wpAny_bind (glob_load (hbv.keeps hE') I.ok kf (okName_dbg hfn) ?_)
  refine callWith_mach (plain_of [.Name y yp] cp _ hs1) ?_
  refine spliced_ok [.Name y yp] cp _ s _ (fun e z0 => (all_ok TO trivial (sizeOf e + 1) e (Nat.lt_succ_self _)).1) (by show (wfE (.Name y yp) sc && true) = true; rw [hy]; rfl) hs1 I.viewA hA I.hot hE' fun vs s₁ k₁ r₁ => ⟨fun Q' q => keeper_flat (fun a => by intro z; cases z) q, ?_⟩
  obtain ⟨v, rfl, rv⟩ := reps_one r₁
  obtain ⟨l, its, nn, rfl, nl, hl, rl⟩ := rv.isPlain
  have hle := rl.length
  simp only [Array.length_toList] at hle
  refine call_list_seq l (.inl rfl) hl rfl rfl (fun h' c' hk hD => ?_) (by rw [sizeLine_eq]; lia)
  have k₁' := kx k₁
  have kk : Ext s.heap h' := k₁'.trans hk
  have fD : s.heap.get? s₁.heap.objs.size = none := by
    cases g : s.heap.get? s₁.heap.objs.size with
    | none => rfl
    | some o => exact absurd (Heap.lt_size (k₁' _ o g)) (Nat.lt_irrefl _)
  refine store_ok (own := env.cells) I.ok.kind (can_kind cx) (I.fm.keeps fun b o z0 g => kk b o g) fun h'' tk F' k' l' a o => ?_
  have hDF : ¬ PA env s₁.heap.objs.size := fun p => by obtain ⟨o, g⟩ := I.live _ p; rw [fD] at g; cases g
  have hD' := k' _ _ hDF hD
  refine hq _ (upd ad x [s₁.heap.objs.size]) (Same.trans (Same.of k₁) ⟨h'', tk, rfl⟩) (I.store (t := .hot1 ys) (v := .ref s₁.heap.objs.size) F' (fun b o p g => k' b o p (kk b o g)) (fun b p => l' b p (let ⟨q, g⟩ := I.live b p; ⟨q, kk b q g⟩)) a (fun y u ne va => o y u ne (va.keeps kk))
    ⟨_, its, rfl, rfl, ⟨c', hD'⟩, rl.mono fun b q nb g => ⟨fun z => ?_, k' b q (fun p => nb (.inr (.inl p))) (hk b q g)⟩⟩ (fun b hb' => by rw [List.mem_singleton.mp hb']; exact fD) (by simp))
  rcases z with z | z
  · rcases asP_put z with z | z
    · rw [List.mem_singleton.mp z] at g
      exact absurd (Heap.lt_size g) (Nat.lt_irrefl _)
    · exact nb (.inl z)
  · exact nb (.inr z)

noncomputable def BC4 := (defAt 4).1
noncomputable def SC4 := (defAt 4).2
noncomputable def KC0 (a b : D) : St := [(sO "first_args", .cold a), (sO "second_args", .cold b)]
noncomputable def KC1 (a b x : D) : St := KC0 a b ++ [(sO "first_unhashable", .cold x)]
noncomputable def KC2 (a b x y : D) : St := KC1 a b x ++ [(sO "second_unhashable", .cold y)]
theorem c_run1 {a b x : D} (h : runF T0 3 (posB [sO "unhashable_params"]) [a] [] = some x) : evS T1 (stN BC4 0) SC4 (KC0 a b) = some (.next, KC1 a b x) := by
  have e : evE T1 (asgE (stN BC4 0)) SC4 (coldV (KC0 a b)) = runF T0 3 (posB [sO "unhashable_params"]) [a] [] := by kernel_rfl
  rw [h] at e
  exact evS_cold (x := sO "first_unhashable") (by kernel_rfl) e
theorem c_run2 {a b x y : D} (h : runF T0 3 (posB [sO "unhashable_params"]) [b] [] = some y) : evS T1 (stN BC4 1) SC4 (KC1 a b x) = some (.next, KC2 a b x y) := by
  have e : evE T1 (asgE (stN BC4 1)) SC4 (coldV (KC1 a b x)) = runF T0 3 (posB [sO "unhashable_params"]) [b] [] := by kernel_rfl
  rw [h] at e
  exact evS_cold (x := sO "second_unhashable") (by kernel_rfl) e
theorem c_wf0 : wfS (stN BC4 0) SC4 = true := by decide +kernel
theorem c_wf1 : wfS (stN BC4 1) SC4 = true := by decide +kernel
theorem c_wf4 : wfS (stN BC4 4) SC4 = true := by decide +kernel
theorem bc4_is : BC4 = [stN BC4 0, stN BC4 1, stN BC4 2, stN BC4 3, stN BC4 4] := by kernel_rfl

theorem cmp_parts' {a b : D} {r : Bool} (h : cmpF [a, b] [] = some (.bool r)) : ∃ xs ys, runF T0 3 (posB [sO "unhashable_params"]) [a] [] = some (.list xs) ∧ runF T0 3 (posB [sO "unhashable_params"]) [b] [] = some (.list ys) ∧ strikeOk xs ys = true ∧ ys.length ≤ 1000 ∧ xs.length ≤ 1000 ∧
    (strike xs ys = none → r = false) ∧ ∀ t, strike xs ys = some t → r = t.isEmpty := by
  have h : cmp2 a b = some (.bool r) := h
  replace h := Option.bind_eq_some_iff.mp h
  obtain ⟨fa, h1, h⟩ := h
  replace h := Option.bind_eq_some_iff.mp h
  obtain ⟨fb, h2, h⟩ := h
  replace h := Option.bind_eq_some_iff.mp h
  obtain ⟨xs, h3, h⟩ := h
  replace h := Option.bind_eq_some_iff.mp h
  obtain ⟨ys, h4, h⟩ := h
  obtain ⟨hc, h5⟩ := ite_of h
  have h6 := D.bool.inj h5
  exact ⟨xs, ys, h1.trans (congrArg some (listOf_is h3)), h2.trans (congrArg some (listOf_is h4)), hc.1, hc.2.1, hc.2.2, fun e => by rw [← h6, e]; rfl, fun t e => by rw [← h6, e]; rfl⟩
end
end Mine

end

section
set_option maxRecDepth 100000
namespace Mine
variable {prog : Program} {w : World}
section
variable {A : Around} {E : Value → Shared → Prop} {s : Shared} {env envL : Env} {sc : Scope} {T : Tab} {n : Nat} {h₀ hb : Heap} {ext : Addr → Prop} {σ σ₁ σ' : St} {ad : Str → List Addr} {L₀ : Addr} {mg mb : Str → Option Value}

theorem But.pre {L₀ : Addr} {h h₁ h₂ : Heap} (k : Ext h h₁) (x : But L₀ h₁ h₂) : But L₀ h h₂ := ⟨fun b o n g => x.keep b o n (k b o g), fun o g => x.at0 o (k _ _ g)⟩

theorem enter_at (H : HB w h₀ mg mb) {a : Addr} {i : Nat} {fd : FuncData} {names : List Str} {hot : Addr → Prop} {vs : List Value} {ds : List D} {σ₀ : St} {Q : Value → Shared → Prop}
    (hl : (KF w.params).lookup a = some { cls := .type "function", data := .func fd }) (hbody : fd.body = .stmts (defAt i).1) (hsc : fd.scope = (defAt i).2) (hclo : fd.closure = []) (hglb : fd.globals = mainGlobals) (hblt : fd.builtins = builtinsNs)
    (hcd : codeIn (KF w.params) fd.code fd.qualname = true) (hco : (defAt i).2.isCoroutine = false) (hgen : (defAt i).2.isGenerator = false) (hd : scopeDef (defAt i).2 names = true)
    (hB : BindOk prog w h₀ fd (posB names)) (hA : Aok (n + 1) A) (hE : Ext h₀ s.heap) (HI : HotIn hot s.heap) (hsys : hot sysModules) (hr : Reps prog w hot s.heap vs ds) (hb0 : posB names ds [] = some σ₀)
    (k : ∀ env s₁ s₂ (Q₂ : Flow → Shared → Prop) (E₂ : Value → Shared → Prop), Keeps s s₁ → env.frame = some env.locals → env.scope.kind = .function → SInv prog w s₁.heap hot env (defAt i).2 σ₀ (fun z0 => []) s₂.heap → Same s₁ s₂ →
      (∀ v s', Q v s' → Q₂ (.ret v) s') → wpAny (model prog w) (A.deeper env) (execs (defAt i).1 env) Q₂ E₂ s₂) :
    wpAny (model prog w) A (call (.ref a) vs []) Q E s :=
  fn_enter (H.X a _ hl) rfl hbody hclo hglb hblt (codeRec_of H.X hcd) H.lim (by rw [hsc]; exact hco) (by rw [hsc]; exact hgen) (by rw [hsc]; exact hd) hB (fun ds kds σ h => posB_names h) hA hE HI hsys hr .nil hb0
    fun env s₁ s₂ Q₂ E₂ k₁ h1 h2 I sm hQ z0 => k env s₁ s₂ Q₂ E₂ k₁ h1 h2 (by rw [hsc] at I; exact I) sm hQ

theorem ret_not {σ : St} {t : List D} (h : σ.lookup (sO "t") = some (.hot1 t)) (hl : t.length ≤ 1000) : evS T1 (stN BC4 4) SC4 σ = some (.ret (.bool t.isEmpty), σ) := by
  have e : ∀ σ, evS T1 (stN BC4 4) SC4 σ = (((allV σ).lookup (sO "t")).bind (unD .Not)).bind fun d => some (.ret d, σ) := fun σ => by kernel_rfl
  rw [e, allV_lookup, h]
  show ((truthD (.list t)).map fun b => D.bool (!b)).bind _ = _
  have : truthD (.list t) = some (!t.isEmpty) := if_pos (by lia)
  rw [this]
  simp

theorem cmp_call {v1 v2 : Value} {a b : D} {r : Bool} {o0 : Obj} {hot : Addr → Prop} {Q : Value → Shared → Prop} (TO : TabOk prog w T1 n h₀) (H : HB w h₀ mg mb) (hA : Aok (n + 1) A) (hfr : A.frames = some [envL]) (hk2 : envL.scope.kind ≠ .module) (hf2 : envL.frame = some L₀)
    (h0 : s.heap.get? L₀ = some o0) (h0d : ∀ vs, o0.data ≠ .fields vs) (h00 : h₀.get? L₀ = none) (hE : Ext h₀ s.heap) (HI : HotIn hot s.heap) (hsys : hot sysModules) (hr : Reps prog w hot s.heap [v1, v2] [a, b]) (h : cmpF [a, b] [] = some (.bool r))
    (hq : ∀ s', Same s s' → But L₀ s.heap s'.heap → Q (.bool r) s') : wpAny (model prog w) A (call (.ref 43) [v1, v2] []) Q E s := by
  obtain ⟨xs, ys, hx, hy, hok, hyl, hxl, hr1, hr2⟩ := cmp_parts' h
  refine enter_at (i := 4) (names := [sO "first_args", sO "second_args"]) H (by rfl) (by rfl) (by rfl) (by rfl) (by rfl) (by rfl) (by rfl) (by rfl) (by rfl) (by decide +kernel) (bind_pos fun vs hl => ?_) hA hE HI hsys hr (σ₀ := KC0 a b) (by rfl) fun env s₁ s₂ Q₂ E₂ k₁ hfrm hkind I sm hQ => ?_
  · match vs, hl with
    | [v, u], _ => rfl
  change SInv prog w s₁.heap hot env SC4 (KC0 a b) (fun z0 => []) s₂.heap at I
  show wpAny (model prog w) (A.deeper env) (execs BC4 env) Q₂ E₂ s₂
  rw [bc4_is]
  have hA' := hA.deeper env
  have hE₁ : Ext h₀ s₁.heap := hE.trans (kx k₁)
  have SSx : ∀ st, SS prog w T1 n h₀ st := fun st => all_stmts TO (sizeOf st + 1) st (Nat.lt_succ_self _)
  have F : TwoFr (A.deeper env) env envL env.locals L₀ := ⟨Around.frames_deeper hfr, by rw [hkind]; decide, hk2, hfrm, hf2⟩
  have s_s1 : Same s s₁ := Same.of k₁
  refine wpAny_execs_cons (SSx _ SC4 (KC0 a b) .next (KC1 a b (.list xs)) env s₁.heap hot _ (A.deeper env) s₂ _ _ c_wf0 (c_run1 hx) I hA' hE₁ fun f s₃ P => ?_)
  cases P with
  | next sm3 N3 =>
  refine wpAny_execs_cons (SSx _ SC4 (KC1 a b (.list xs)) .next (KC2 a b (.list xs) (.list ys)) env s₁.heap hot _ (A.deeper env) s₃ _ _ c_wf1 (c_run2 hy) N3.inv hA' hE₁ fun f s₄ P => ?_)
  cases P with
  | next sm4 N4 =>
  have e2 : ∃ xp fp yp cp pos, stN BC4 2 = .Assign [.Name (Str.ofString "t") xp] (.Call (.Name (Str.ofString "list") fp) [.Name (Str.ofString "second_unhashable") yp] [] cp) pos := ⟨_, _, _, _, _, rfl⟩
  obtain ⟨xp, fp, yp, cp, pos, e2⟩ := e2
  rw [e2]
  refine wpAny_execs_cons (list_hot (sc := SC4) (x := Str.ofString "t") (y := Str.ofString "second_unhashable") (ys := ys) TO (by kernel_rfl) (by decide +kernel) (gt_list H) (by show okName _ = true; decide +kernel) (by kernel_rfl) (can_of N4.inv.ok N4.inv.scp (by decide +kernel)) hyl N4.inv hA' hE₁ fun s₅ ad₅ sm5 N5 => ?_)
  dsimp only
  have e3 : ∃ ep it tp p3 ep2 p5 p6 p7 xp k p9 p10 p11 p12, stN BC4 3 = .Try [.For (.Name (Str.ofString "elem") ep) it [.Expr (.Call (.Attribute (.Name (Str.ofString "t") tp) (Str.ofString "remove") p3) [.Name (Str.ofString "elem") ep2] [] p5) p6] [] p7]
      [.ExceptHandler (some (.Name (Str.ofString "ValueError") xp)) none [.Return (some (.Constant (.bool false) k p9)) p10] p11] [] [] p12 ∧ (p3.endLine == p5.line) = true ∧ (∃ ip, it = .Name (Str.ofString "first_unhashable") ip) := ⟨_, _, _, _, _, _, _, _, _, _, _, _, _, _, rfl, rfl, _, rfl⟩
  obtain ⟨ep, it, tp, p3, ep2, p5, p6, p7, xp3, k, p9, p10, p11, p12, e3, hline, ip, rfl⟩ := e3
  rw [e3]
  have hv : evV T1 (.Name (Str.ofString "first_unhashable") ip) SC4 (put (Str.ofString "t") (.hot1 ys) (KC2 a b (.list xs) (.list ys))) = some (.list xs, put (Str.ofString "t") (.hot1 ys) (KC2 a b (.list xs) (.list ys))) := by kernel_rfl
  have sx : Same s s₅ := s_s1.trans (sm.trans (sm3.trans (sm4.trans sm5)))
  refine wpAny_execs_cons (try_cmp (sc := SC4) (tn := Str.ofString "t") (en := Str.ofString "elem") (xs := xs) (ys := ys) TO H hE₁ h00 F rfl (by kernel_rfl) hline (by decide +kernel) (by decide +kernel) (by decide +kernel) (by show canStoreB SC4 _ = true; decide +kernel) (by show okName _ = true; decide +kernel) (by kernel_rfl)
    (kx k₁ _ _ h0) h0d hv (by rw [put_lookup, if_pos rfl]) hok hxl hyl N5.inv hA' (fun t' s₆ σ₆ ad₆ hst sm6 N6 hlt htl => ?_) fun hst s₆ sm6 B => ?_)
  · dsimp only
    refine wpAny_execs_cons (SSx _ SC4 σ₆ _ σ₆ env s₁.heap hot _ (A.deeper env) s₆ _ _ c_wf4 (ret_not hlt htl) N6.inv hA' hE₁ fun f s₇ P => ?_)
    cases P with
    | ret sm7 x rv =>
      cases rv
      have := hr2 t' hst
      rw [← this]
      exact hQ _ _ (hq s₇ (sx.trans (sm6.trans sm7)) (But.pre (kx k₁) (But.of_ext x)))
  · dsimp only
    have := hr1 hst
    rw [← this]
    exact hQ _ _ (hq s₆ (sx.trans sm6) (But.pre (kx k₁) B))
end
end Mine

end

section
set_option maxRecDepth 100000
namespace Mine
variable {prog : Program} {w : World}
section
variable {A : Around} {E : Value → Shared → Prop} {s : Shared} {env : Env} {sc : Scope} {T : Tab} {n : Nat} {h₀ hb h h' : Heap} {ext : Addr → Prop} {σ σ₁ σ' : St} {ad : Str → List Addr} {mg mb : Str → Option Value}

/-- the frame's own object may change its slots -/
theorem SInv.but (I : SInv prog w hb ext env sc σ ad h) (B : But env.locals h h') : Next prog w hb ext env sc σ ad h σ ad h' := by
  have kc : ∀ x c o, env.cells.lookup x = some c → h.get? c = some o → h'.get? c = some o := fun x c o hc g => B.keep c o (I.fm.sep x c hc).1 g
  have ks : ∀ b o, ¬ PA env b → h.get? b = some o → h'.get? b = some o := fun b o np g => B.keep b o (fun q => np (.inl q)) g
  have kn : ∀ m, h.Ns env.locals m → h'.Ns env.locals m := fun m ⟨o, es, ep, ho, hd, sk, f⟩ => by
    obtain ⟨sl, g⟩ := B.at0 o ho
    exact ⟨_, es, ep, g, hd, sk, f⟩
  have lv : ∀ b, (∃ o, h.get? b = some o) → ∃ o, h'.get? b = some o := fun b ⟨o, g⟩ => by
    by_cases q : b = env.locals
    · subst q; obtain ⟨sl, g'⟩ := B.at0 o g; exact ⟨_, g'⟩
    · exact ⟨o, B.keep b o q g⟩
  have S : Sees (hotOf env ext σ ad) (hotOf env ext σ ad) h h' := fun a o nb g => ⟨nb, ks a o (fun p => nb (.inr (.inl p))) g⟩
  refine ⟨⟨I.scp, I.ok, ⟨let ⟨m, e⟩ := I.fm.ns; ⟨m, kn m e⟩, fun x c e => let ⟨v, o, ho, hd⟩ := I.fm.cell x c e; ⟨v, o, kc x c o (I.fm.sub x c e) ho, hd⟩, I.fm.sep, I.fm.sub⟩, I.nod, fun x t hx => ?_, I.adn, I.apart, I.free, fun b p => lv b (I.live b p), fun b e => lv b (I.elive b e), I.fb, fun b o g => ?_, I.sysm⟩,
    fun b o np z0 g => ks b o np g, fun b z => .inl z⟩
  · obtain ⟨v, va, sl⟩ := I.at x t hx
    refine ⟨v, ?_, sl.step S fun b hm o g => ks b o (I.free x t b hx hm).1 g⟩
    rcases va with ⟨a, m, e, f⟩ | ⟨a, c, e, o, ho, hd⟩
    · exact .inl ⟨a, m, kn m e, f⟩
    · exact .inr ⟨a, c, e, o, kc x c o e ho, hd⟩
  · exact B.keep b o (fun q => by rw [q, I.fb _ (.inl rfl)] at g; cases g) (I.base b o g)

/-- a block, then the rest -/
theorem block_then (TO : TabOk prog w T n h₀) : ∀ (a b : List Stmt) (σ σ' : St) (ad : Str → List Addr) (s : Shared) (Q : Flow → Shared → Prop), wfSs a sc = true → evSs T a sc σ = some (.next, σ') → SInv prog w hb ext env sc σ ad s.heap → Aok n A → Ext h₀ hb →
    (∀ s' ad', Same s s' → Next prog w hb ext env sc σ ad s.heap σ' ad' s'.heap → wpAny (model prog w) A (execs b env) Q E s') → wpAny (model prog w) A (execs (a ++ b) env) Q E s
  | [], b, σ, σ', ad, s, Q, _, h, I, _, _, hq => by cases h; exact hq s ad (Same.refl s) (.refl I)
  | x :: r, b, σ, σ', ad, s, Q, hw, h, I, hA, hE, hq => by
    rw [wfSs_c, Bool.and_eq_true] at hw
    rw [evSs_c] at h
    simp only [Option.bind_eq_some_iff] at h
    obtain ⟨⟨fl₁, σ₁⟩, h1, h2⟩ := h
    refine wpAny_execs_cons (all_stmts TO (sizeOf x + 1) x (Nat.lt_succ_self _) sc σ fl₁ σ₁ env hb ext ad A s E _ hw.1 h1 I hA hE fun f s₁ P => ?_)
    cases P with
    | next sm N => exact block_then TO r b σ₁ σ' _ s₁ Q hw.2 h2 N.inv hA hE fun s' ad' sm' N' => hq s' ad' (sm.trans sm') (N.trans I N')
    | cont sm N => cases h2
    | ret a b c => cases h2

theorem forO_step {f : D → St → Option (Fl × St)} {d : D} {r : List D} {σ σe : St} (h : forO f (d :: r) σ = some (.next, σe)) : ∃ fl σ', f d σ = some (fl, σ') ∧ (∀ d, fl ≠ .ret d) ∧ forO f r σ' = some (.next, σe) := by
  rw [forO] at h
  cases hf : f d σ with
  | none => rw [hf] at h; cases h
  | some p =>
    obtain ⟨fl, σ'⟩ := p
    rw [hf, Option.bind_some] at h
    cases fl with
    | next => exact ⟨_, _, rfl, (fun z0 z => by cases z), h⟩
    | cont => exact ⟨_, _, rfl, (fun z0 z => by cases z), h⟩
    | ret d => cases h

/-- a loop whose body has a meaning of its own -/
theorem for_own {tg it : Expr} {b : List Stmt} {pos : Pos} {d : D} {items : List D} {f : St → Option (Fl × St)} {σe : St} (TO : TabOk prog w T n h₀) (hwt : plainTg sc tg = true) (hwi : wfE it sc = true) (hv : evV T it sc σ = some (d, σ₁)) (hit : iterD d = some items)
    (hfo : forO (fun d σ => (bindS tg d σ).bind f) items σ₁ = some (.next, σe)) (I : SInv prog w hb ext env sc σ ad s.heap) (hA : Aok n A) (hE : Ext h₀ hb) {Q : Flow → Shared → Prop}
    (hbody : ∀ σ fl σ' ext' ad s' (Q' : Flow → Shared → Prop) (E' : Value → Shared → Prop), f σ = some (fl, σ') → (∀ d, fl ≠ .ret d) → SInv prog w hb ext' env sc σ ad s'.heap → (∀ f s'', Post prog w hb ext' env sc σ ad s' fl σ' f s'' → Q' f s'') → wpAny (model prog w) A (execs b env) Q' E' s')
    (hq : ∀ s' ad', Same s s' → Next prog w hb ext env sc σ ad s.heap σe ad' s'.heap → Q .next s') :
    wpAny (model prog w) A (exec (.For tg it b [] pos) env) Q E s := by
  refine for_gen (P := fun i σ => forO (fun d σ => (bindS tg d σ).bind f) (items.drop i) σ = some (.next, σe)) TO hwt hwi hv hit (by simpa using hfo) I hA hE (fun i d σᵢ hd hP => ?_) fun s' σ' ad' sm N hP => ?_
  · have hi : i < items.length := (List.getElem?_eq_some_iff.mp hd).1
    have hdi : items[i] = d := (List.getElem?_eq_some_iff.mp hd).2
    rw [List.drop_eq_getElem_cons hi, hdi] at hP
    obtain ⟨fl, σ₃, h1, h2, h3⟩ := forO_step hP
    simp only [Option.bind_eq_some_iff] at h1
    obtain ⟨σ₂, h4, h5⟩ := h1
    refine ⟨σ₂, h4, fun ext' ad₂ s₄ Q' J sm4 hq' => ?_⟩
    exact hbody σ₂ fl σ₃ ext' ad₂ s₄ Q' _ h5 h2 J fun f s'' P => hq' f s'' fl σ₃ P h2 h3
  · rw [List.drop_length] at hP
    cases hP
    exact hq s' ad' sm N
end
end Mine

end

section
set_option maxRecDepth 100000
namespace Mine
variable {prog : Program} {w : World}
section
variable {A : Around} {E : Value → Shared → Prop} {s : Shared} {env : Env} {n : Nat} {h₀ hb h h' : Heap} {ext : Addr → Prop} {σ σ₁ σ' : St} {ad : Str → List Addr} {mg mb : Str → Option Value}

theorem cmp_shape {ds : List D} {d : D} (h : cmpF ds [] = some d) : ∃ a b r, ds = [a, b] ∧ d = .bool r := by
  obtain ⟨a, b, h1, h⟩ := twoD_is (f := cmp2) h
  replace h := Option.bind_eq_some_iff.mp h
  obtain ⟨_, _, h⟩ := h
  replace h := Option.bind_eq_some_iff.mp h
  obtain ⟨_, _, h⟩ := h
  replace h := Option.bind_eq_some_iff.mp h
  obtain ⟨_, _, h⟩ := h
  replace h := Option.bind_eq_some_iff.mp h
  obtain ⟨_, _, h⟩ := h
  exact ⟨a, b, _, h1, (ite_of h).2.symm⟩

/-- the law's own frame -/
structure LawFr (A : Around) (env : Env) : Prop where
  fr : A.frames = some [env]
  kind : env.scope.kind = .function
  frm : env.frame = some env.locals

theorem y37_is : ∃ xp fp cp pos, Y37 = .Assign [.Name (Str.ofString "says") xp] (.Call (.Name (Str.ofString "_compare_args_orderless") fp) (argsX (asgE Y37)) [] cp) pos := ⟨_, _, _, _, rfl⟩
theorem y37_wf : wfEach (argsX (asgE Y37)) S37 = true := by decide +kernel

theorem say_stmt {Q : Flow → Shared → Prop} (TO : TabOk prog w T4 (n + 1) h₀) (TO1 : TabOk prog w T1 n h₀) (H : HB w h₀ mg mb) (F : LawFr A env) (hs : sayS σ = some σ')
    (I : SInv prog w hb ext env S37 σ ad s.heap) (hA : Aok (n + 1) A) (hE : Ext h₀ hb)
    (hq : ∀ s' ad', Same s s' → Next prog w hb ext env S37 σ ad s.heap σ' ad' s'.heap → Q .next s') : wpAny (model prog w) A (exec Y37 env) Q E s := by
  unfold sayS at hs
  simp only [Option.bind_eq_some_iff] at hs
  obtain ⟨ds, h1, d, h2, h3⟩ := hs
  cases h3
  obtain ⟨a, b, r, rfl, rfl⟩ := cmp_shape h2
  obtain ⟨xp, fp, cp, pos, hy⟩ := y37_is
  rw [hy]
  generalize hargs : argsX (asgE Y37) = args at *
  have hwf : wfEach args S37 = true := by rw [← hargs]; exact y37_wf
  have hE' : Ext h₀ s.heap := hE.trans I.base
  have kf := I.ok.kinds (Str.ofString "_compare_args_orderless")
  have kk : S37.names.lookup (Str.ofString "_compare_args_orderless") = some .globalImplicit := by kernel_rfl
  rw [kk] at kf
  refine wpAny_Assign_Name ?_ rfl
  have he : eval (.Call (.Name (Str.ofString "_compare_args_orderless") fp) args [] cp) env = (do callWith cp (← eval (.Name (Str.ofString "_compare_args_orderless") fp) env) [] (backTo cp (starEach args env)) (backToKw cp (keywordEach [] env))) := rfl
  rw [he]
  have g0 : GlobAt h₀ (Str.ofString "_compare_args_orderless") (.ref 43) := gf_cmp H
  refine wpAny_bind (glob_load (g0.keeps hE') I.ok kf (by decide +kernel) ?_)
  have hf : ∃ o fd, h₀.get? 43 = some o ∧ o.data = .func fd := ⟨_, _, H.X 43 _ (by rfl), rfl⟩
  obtain ⟨o, fd, ho, hd⟩ := hf
  refine callWith_function_kw (o := o) (fd := fd) (evalArgs_flat (plain_of args cp _ h1) rfl ?_)
  refine spliced_ok args cp _ s _ (fun e z0 => (all_ok TO trivial (sizeOf e + 1) e (Nat.lt_succ_self _)).1) hwf h1 I.viewB hA I.hotb hE' fun vs s₁ k₁ r₁ => ?_
  refine kw_ok (hot := hotB env ext) [] cp [] s₁ _ rfl fun kv s₂ k₂ r₂ => ⟨⟨kx k₂ _ _ (kx k₁ _ _ (hE' _ _ ho)), hd⟩, ?_⟩
  cases r₂
  have k12 := keeps_trans k₁ k₂
  have I₂ := I.keeps (kx k12)
  have r12 := r₁.mono (kx k₂).sees
  obtain ⟨v1, v2, rfl, rv1, rv2⟩ := reps_two r12
  obtain ⟨m, oL, es, epp, q1, q2, _⟩ := I₂.fm.ns
  have h00 : h₀.get? env.locals = none := by
    cases g : h₀.get? env.locals with
    | none => rfl
    | some o => have := hE _ _ g; rw [I.fb _ (.inl rfl)] at this; cases this
  refine cmp_call (envL := env) (L₀ := env.locals) (o0 := oL) (hot := hotB env ext) TO1 H hA F.fr (by rw [F.kind]; decide) F.frm q1 (fun vs z => by rw [q2] at z; cases z) h00 (hE.trans I₂.base) I₂.hotb (.inr I.sysm) (.cons rv1 (.cons rv2 .nil)) h2 fun s₃ sm3 B => ?_
  have N₁ : Next prog w hb ext env S37 σ ad s.heap σ ad s₂.heap := .keep I (kx k12)
  have N₂ := I₂.but B
  have N₃ := N₁.trans I N₂
  refine store_inv (d := .bool r) (can_of I.ok I.scp (by decide +kernel)) N₂.inv (.bool r) fun h' tk z0 N₄ => ?_
  exact hq _ _ ((Same.of k12).trans (sm3.trans ⟨h', tk, rfl⟩)) (N₃.trans I N₄)

theorem v37_body : forB V37 = [R37, Y37, I37] := by kernel_rfl
theorem vBody_sound (TO : TabOk prog w T4 (n + 1) h₀) (TO1 : TabOk prog w T1 n h₀) (H : HB w h₀ mg mb) (F : LawFr A env) {fl : Fl} {Q : Flow → Shared → Prop} (hs : vBody σ = some (fl, σ'))
    (I : SInv prog w hb ext env S37 σ ad s.heap) (hA : Aok (n + 1) A) (hE : Ext h₀ hb) (hq : ∀ f s', Post prog w hb ext env S37 σ ad s fl σ' f s' → Q f s') : wpAny (model prog w) A (execs (forB V37) env) Q E s := by
  unfold vBody at hs
  simp only [Option.bind_eq_some_iff] at hs
  obtain ⟨⟨fl₁, σ₁⟩, h1, h2⟩ := hs
  have SSx : ∀ st, SS prog w T4 (n + 1) h₀ st := fun st => all_stmts TO (sizeOf st + 1) st (Nat.lt_succ_self _)
  rw [v37_body]
  refine wpAny_execs_cons (SSx R37 S37 σ fl₁ σ₁ env hb ext ad A s _ _ (by decide +kernel) h1 I hA hE fun f s₁ P => ?_)
  cases P with
  | cont sm N => cases h2
  | ret a b c => cases h2
  | next sm N =>
    dsimp only at h2
    simp only [Option.bind_eq_some_iff] at h2
    obtain ⟨σ₂, h3, h4⟩ := h2
    dsimp only
    refine wpAny_execs_cons (say_stmt TO TO1 H F h3 N.inv hA hE fun s₂ ad₂ sm2 N2 => ?_)
    dsimp only
    refine wpAny_execs_cons (SSx I37 S37 σ₂ fl σ' env hb ext ad₂ A s₂ _ _ (by decide +kernel) h4 N2.inv hA hE fun f s₃ P => ?_)
    have P' := (P.after N.inv sm2 N2).after I sm N
    cases P' with
    | next a b => exact wpAny_execs_nil (hq _ _ (.next a b))
    | cont a b => exact hq _ _ (.cont a b)
    | ret a b c => exact hq _ _ (.ret a b c)
end
end Mine

end

section
set_option maxRecDepth 100000
namespace Mine
variable {prog : Program} {w : World}
section
variable {A : Around} {E : Value → Shared → Prop} {s : Shared} {env : Env} {n : Nat} {h₀ hb h h' : Heap} {ext : Addr → Prop} {σ σ₁ σ' : St} {ad : Str → List Addr} {mg mb : Str → Option Value}

theorem forO_fl {f : D → St → Option (Fl × St)} : ∀ {items : List D} {σ σ' : St} {fl : Fl}, forO f items σ = some (fl, σ') → (∀ d, fl ≠ .ret d) → fl = .next
  | [], σ, σ', fl, h, _ => by cases h; rfl
  | d :: r, σ, σ', fl, h, hn => by
    rw [forO] at h
    cases hf : f d σ with
    | none => rw [hf] at h; cases h
    | some p =>
      obtain ⟨fl₁, σ₁⟩ := p
      rw [hf, Option.bind_some] at h
      cases fl₁ with
      | next => exact forO_fl h hn
      | cont => exact forO_fl h hn
      | ret d => cases h; exact absurd rfl (hn d)
theorem v37_is : ∃ pos, V37 = .For (forT V37) (forI V37) (forB V37) [] pos := ⟨_, rfl⟩
theorem u37_is : ∃ pos, U37 = .For (forT U37) (forI U37) (forB U37) [] pos := ⟨_, rfl⟩
theorem u37_body : forB U37 = [V37] := by kernel_rfl

theorem vLoop_sound (TO : TabOk prog w T4 (n + 1) h₀) (TO1 : TabOk prog w T1 n h₀) (H : HB w h₀ mg mb) (F : LawFr A env) {fl : Fl} {Q : Flow → Shared → Prop} (hs : vLoop σ = some (fl, σ')) (hn : ∀ d, fl ≠ .ret d)
    (I : SInv prog w hb ext env S37 σ ad s.heap) (hA : Aok (n + 1) A) (hE : Ext h₀ hb) (hq : ∀ f s', Post prog w hb ext env S37 σ ad s fl σ' f s' → Q f s') : wpAny (model prog w) A (exec V37 env) Q E s := by
  unfold vLoop at hs
  simp only [Option.bind_eq_some_iff] at hs
  obtain ⟨⟨d, σ₁⟩, h1, items, h2, h3⟩ := hs
  have hfl := forO_fl h3 hn
  subst hfl
  obtain ⟨pos, hv⟩ := v37_is
  rw [hv]
  refine for_own (f := vBody) TO (by decide +kernel) (by decide +kernel) h1 h2 h3 I hA hE (fun σ fl σ' ext' ad s' Q' E' hb' z0 J hq' => ?_) fun s' ad' sm N => hq _ _ (.next sm N)
  exact vBody_sound TO TO1 H F hb' J hA hE hq'

theorem uLoop_sound (TO : TabOk prog w T4 (n + 1) h₀) (TO1 : TabOk prog w T1 n h₀) (H : HB w h₀ mg mb) (F : LawFr A env) {Q : Flow → Shared → Prop} (hs : uLoop σ = some (.next, σ'))
    (I : SInv prog w hb ext env S37 σ ad s.heap) (hA : Aok (n + 1) A) (hE : Ext h₀ hb) (hq : ∀ s' ad', Same s s' → Next prog w hb ext env S37 σ ad s.heap σ' ad' s'.heap → Q .next s') : wpAny (model prog w) A (exec U37 env) Q E s := by
  unfold uLoop at hs
  simp only [Option.bind_eq_some_iff] at hs
  obtain ⟨⟨d, σ₁⟩, h1, items, h2, h3⟩ := hs
  obtain ⟨pos, hv⟩ := u37_is
  rw [hv]
  refine for_own (f := vLoop) TO (by decide +kernel) (by decide +kernel) h1 h2 h3 I hA hE (fun σ fl σ' ext' ad s' Q' E' hl hn J hq' => ?_) fun s' ad' sm N => hq _ _ sm N
  rw [u37_body]
  refine wpAny_execs_cons (vLoop_sound TO TO1 H F hl hn J hA hE fun f s'' P => ?_)
  cases P with
  | next a b => exact wpAny_execs_nil (hq' _ _ (.next a b))
  | cont a b => exact hq' _ _ (.cont a b)
  | ret a b c => exact hq' _ _ (.ret a b c)

theorem lawRun_parts {S d : D} (h : lawRun S = some d) : ∃ σ₁ σ₂ σ₃, evSs T4 (B37.take 13) S37 [(sO "script", .cold S)] = some (.next, σ₁) ∧ uLoop σ₁ = some (.next, σ₂) ∧ evSs T4 (B37.drop 14) S37 σ₂ = some (.ret d, σ₃) := by
  unfold lawRun at h
  simp only [Option.bind_eq_some_iff] at h
  obtain ⟨⟨fl₁, σ₁⟩, h1, h2⟩ := h
  cases fl₁ with
  | cont => cases h2
  | ret d => cases h2
  | next =>
    dsimp only at h2
    simp only [Option.bind_eq_some_iff] at h2
    obtain ⟨⟨fl₂, σ₂⟩, h3, h4⟩ := h2
    cases fl₂ with
    | cont => cases h4
    | ret d => cases h4
    | next =>
      dsimp only at h4
      simp only [Option.bind_eq_some_iff] at h4
      obtain ⟨⟨fl₃, σ₃⟩, h5, h6⟩ := h4
      cases fl₃ with
      | cont => cases h6
      | next => cases h6
      | ret d' => cases h6; exact ⟨σ₁, σ₂, σ₃, h1, h3, h5⟩
theorem b37_is : B37 = B37.take 13 ++ (U37 :: B37.drop 14) := by
  have h : B37.drop 13 = U37 :: B37.drop 14 := drop_stN (by rw [len37]; decide)
  rw [← h, List.take_append_drop]
theorem b37_wf1 : wfSs (B37.take 13) S37 = true := by decide +kernel
theorem b37_wf2 : wfSs (B37.drop 14) S37 = true := by decide +kernel

theorem law_call {v : Value} {d : D} {S : D} {hot : Addr → Prop} {Q : Value → Shared → Prop} (TO : TabOk prog w T4 (n + 1) h₀) (TO1 : TabOk prog w T1 n h₀) (H : HB w h₀ mg mb) (hA : Aok (n + 2) A) (hfr : A.frames = some [])
    (hE : Ext h₀ s.heap) (HI : HotIn hot s.heap) (hsys : hot sysModules) (hr : Rep prog w hot s.heap v S) (h : lawRun S = some d)
    (hq : ∀ v s', Keeps s s' → Rep prog w hot s'.heap v d → Q v s') : wpAny (model prog w) A (call (.ref 232) [v] []) Q E s := by
  obtain ⟨σ₁, σ₂, σ₃, h1, h2, h3⟩ := lawRun_parts h
  refine enter_at (n := n + 1) (i := 37) (names := [sO "script"]) H (by rfl) (by rfl) (by rfl) (by rfl) (by rfl) (by rfl) (by rfl) (by rfl) (by rfl) (by decide +kernel) (bind_pos fun vs hl => ?_) hA hE HI hsys (.cons hr .nil) (σ₀ := [(sO "script", .cold S)]) (by rfl) fun env s₁ s₂ Q₂ E₂ k₁ hfrm hkind I sm hQ => ?_
  · match vs, hl with
    | [v], _ => rfl
  change SInv prog w s₁.heap hot env S37 [(sO "script", .cold S)] (fun z0 => []) s₂.heap at I
  show wpAny (model prog w) (A.deeper env) (execs B37 env) Q₂ E₂ s₂
  rw [b37_is]
  have hA' := hA.deeper env
  have hE₁ : Ext h₀ s₁.heap := hE.trans (kx k₁)
  have F : LawFr (A.deeper env) env := ⟨Around.frames_deeper hfr, hkind, hfrm⟩
  refine block_then TO _ _ _ σ₁ _ s₂ _ b37_wf1 h1 I hA' hE₁ fun s₃ ad₃ sm3 N3 => ?_
  refine wpAny_execs_cons (uLoop_sound TO TO1 H F h2 N3.inv hA' hE₁ fun s₄ ad₄ sm4 N4 => ?_)
  dsimp only
  refine all_block TO (B37.drop 14) S37 σ₂ _ σ₃ env s₁.heap hot ad₄ (A.deeper env) s₄ _ _ b37_wf2 h3 N4.inv hA' hE₁ fun f s₅ P => ?_
  cases P with
  | ret sm5 x rv =>
    refine hQ _ _ (hq _ s₅ ?_ rv)
    have sx : Same s s₅ := (Same.of k₁).trans (sm.trans (sm3.trans (sm4.trans sm5)))
    obtain ⟨h5, t5, rfl⟩ := sx
    exact ⟨h5, t5, rfl, fun b o g => x b o (kx k₁ b o g)⟩
end
end Mine

end

section
set_option maxRecDepth 100000
namespace Mine
variable {prog : Program} {w : World}
theorem well_ints {P : Params} {h : Heap} {hot : Addr → Prop} : ∀ (ns : List Int) (vs : List Value), WellAll P h vs (ofPys (ns.map PyData.int)) → Reps prog w hot h vs (ns.map .int)
  | [], _, x => by cases x; exact .nil
  | n :: ns, _, x => by
    change WellAll P h _ (ofPy (.int n) :: ofPys (ns.map PyData.int)) at x
    cases x with
    | cons a b =>
      change Well P h _ (.int n) at a
      cases a
      exact .cons (.int _ _) (well_ints ns _ b)
theorem well_list {P : Params} {h : Heap} {hot : Addr → Prop} {a : Addr} {ns : List Int} (na : ¬ hot a) (x : Well P h (.ref a) (ofPy (.list (ns.map PyData.int)))) : Rep prog w hot h (.ref a) (.list (ns.map .int)) := by
  change Well P h _ (.list (ofPys (ns.map PyData.int))) at x
  cases x with
  | list g y => exact .list na g (well_ints ns _ y)
end Mine
set_option maxHeartbeats 8000000 in
theorem Mine.law_good (w : World) (s₀ s₁ : Shared) (mg mb : Str → Option Value) (H : Mine.HB w s₁.heap mg mb) (hg : s₁.gens = #[]) (l : Addr) (ns : List Int) (hl : ns.length ≤ 63) (hls : l ≠ sysModules) (hsys : ∃ o, s₁.heap.get? sysModules = some o)
    (x : Well w.params s₁.heap (.ref l) (ofPy (.list (ns.map PyData.int)))) :
    wpAny (model PySem.Challenge.rw_rt0044_01.row.prog w) callerA (call (.ref 232) [.ref l])
      (fun v s' => GoodWG PySem.Challenge.rw_rt0044_01.row.claim (classAt s₀.heap) (ExcName.means s₀.heap) [ofPy (.list (ns.map PyData.int))] s₁ (.ok (.ret v)) s')
      (fun e s' => GoodWG PySem.Challenge.rw_rt0044_01.row.claim (classAt s₀.heap) (ExcName.means s₀.heap) [ofPy (.list (ns.map PyData.int))] s₁ (.error e) s') s₁ := by
  have hA : Mine.Aok 5 callerA := ⟨rfl, by decide +kernel, by decide +kernel⟩
  refine Mine.law_call (hot := fun a => a = sysModules) (S := .list (ns.map .int)) (d := .bool true) (n := 3) (Mine.tab4 H 0) (Mine.tab1 H 2) H hA rfl (Mine.Ext.refl _) (fun a ha => ha ▸ hsys) rfl (Mine.well_list hls x) (Mine.law_true ns hl) fun v s' k r => ?_
  cases r
  obtain ⟨h', tk, rfl, kp⟩ := k
  refine GoodW.toG ⟨.inl ⟨.bool true, .bool true, [], rfl, fun cls => ?_, .bool true, ?_, fun z0 => ⟨List.nodup_nil, fun a ha => by cases ha⟩⟩, kp, rfl, hg⟩
  · rfl
  · wrow_post
end
set_option tactic.hygienic true in
set_option maxRecDepth 100000 in
set_option maxHeartbeats 8000000 in
theorem PySem.Challenge.cw_rt0044_01_holds : PySem.Challenge.rw_rt0044_01.Holds := by
  w_on
  refine holds_law (by decide +kernel) fun said => ?_
  refine holds_open (q := Mine.viewQ) (loose := Mine.looseL) (Xt := fun s => xlAt Mine.viewQ [] s && recOk (RowW.records PySem.Challenge.rw_rt0044_01.row.toRowW) s) (XP := XL Mine.viewQ []) (Yf := Hook.obs Mine.hookK) (Ya := Hook.val Mine.hookK) (YP := Hook.says Mine.hookK) (N := 2906)
    Mine.left_ok (Hook.of Mine.hookK) (Hook.keeps Mine.hookK) (fun s e => xl_of s (Bool.and_eq_true_iff.mp e).1) XL.keeps (by rfl) (by rfl) (by rfl) (fun s e => recFacts_of (Bool.and_eq_true_iff.mp e).2) (by rfl) (by assumption) (by decide +kernel) ⟨rfl, rfl, rfl, rfl, rfl, by decide +kernel⟩ ?hw ?hc
  case hw => w_witness2
  intro w s₀ s₁ mg mb G Y fa o pm cd doc dV kV ho hd hcd hD hmg hg args vals as hpre hlay hrd hwl hlo
  have X : (Mine.KF w.params).In s₁.heap := kIn_of Y
  have H : Mine.HB w s₁.heap mg mb := ⟨X, G.T.g, G.T.b, G.T.builtins, G.T.nolimit⟩
  have hfa : fa = 232 := by
    have h1 : mg (Mine.sO "law") = some (.ref 232) := H.at (by kernel_rfl)
    have h2 : mg (Mine.sO "law") = some (.ref fa) := hmg
    rw [h1] at h2
    cases h2
    rfl
  subst hfa
  obtain ⟨mm, ⟨om, esm, epm, hm1, hm2, _⟩, _⟩ := (G.T.seer (by decide +kernel)).mods
  clear Y ho hd hcd hD hmg
  wrow_args hpre hlay hrd hwl hlo
  rename_i ns _ _ _ _ _ _ _ l vs _ hL _ hW _ _ _ hn _
  have hn63 : ns.length ≤ 63 := by omega
  have hls : l ≠ sysModules := by
    rintro rfl
    obtain ⟨ol, q1, q2, n, q3⟩ := hL
    rw [hm1] at q1
    cases q1
    rw [hm2] at q3
    cases q3
  exact Mine.law_good w s₀ s₁ mg mb H hg l ns hn63 hls ⟨_, hm1⟩ hW

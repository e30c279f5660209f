import PyProof.Rows.All
import Wide.All
import OpenK.AllK
import Wide.FinOn
import PyProof.InstStore
import PySem.Challenge.RW_pk0028_01
set_option Elab.async false
set_option maxRecDepth 100000
section
open PySem PySem.W PyProof.Rows
set_option maxHeartbeats 8000000
set_option synthInstance.maxSize 1
namespace Mine
open_top hd for PySem.Challenge.rw_pk0028_01
end Mine
end
namespace Mine
section

open PySem PySem.W PyProof.Rows

abbrev PR : Program := PySem.Challenge.rw_pk0028_01.prog

/-- abstract data -/
inductive AV where
  | none
  | bool (b : Bool)
  | int (i : Int)
  | str (x : Str)
  | tup (l : List AV)
  | lst (l : List AV)
  | raw (v : Value)

def Ext (h h' : Heap) : Prop := ∀ b o, h.get? b = some o → h'.get? b = some o
theorem Ext.refl (h : Heap) : Ext h h := fun _ _ e => e
theorem Ext.trans {a b c : Heap} (x : Ext a b) (y : Ext b c) : Ext a c := fun p o e => y p o (x p o e)
theorem Ext.push (h : Heap) (o : Obj) : Ext h (h.push o) := fun _ _ e => Heap.get?_push_of_some _ e

def tupObj (vs : List Value) (n : Nat) : Obj := { cls := .type "tuple", data := .seq vs.toArray n }
def lstObj (vs : List Value) (n : Nat) : Obj := { cls := .type "list", data := .seq vs.toArray n }

mutual
inductive Is (X : Addr → Prop) (h : Heap) : Value → AV → Prop
  | none : Is X h Value.none AV.none
  | bool (b : Bool) : Is X h (Value.bool b) (AV.bool b)
  | int (i : Int) (t : Tok) : Is X h (Value.int i t) (AV.int i)
  | str (x : Str) (t : Tok) : Is X h (Value.str x t) (AV.str x)
  | tup {a : Addr} {vs : List Value} {n : Nat} {l : List AV} : h.get? a = some (tupObj vs n) → ¬ X a → IsL X h vs l → Is X h (Value.ref a) (AV.tup l)
  | lst {a : Addr} {vs : List Value} {n : Nat} {l : List AV} : h.get? a = some (lstObj vs n) → ¬ X a → IsL X h vs l → Is X h (Value.ref a) (AV.lst l)
  | raw (v : Value) : Is X h v (AV.raw v)
inductive IsL (X : Addr → Prop) (h : Heap) : List Value → List AV → Prop
  | nil : IsL X h [] []
  | cons {v : Value} {vs : List Value} {d : AV} {ds : List AV} : Is X h v d → IsL X h vs ds → IsL X h (v :: vs) (d :: ds)
end

/-- what lies outside X in h lies outside X' in h' -/
def Passes (X : Addr → Prop) (h : Heap) (X' : Addr → Prop) (h' : Heap) : Prop := ∀ b o, ¬ X b → h.get? b = some o → ¬ X' b ∧ h'.get? b = some o
mutual
theorem Is.pass {X X' : Addr → Prop} {h h' : Heap} (p : Passes X h X' h') : ∀ {v : Value} {d : AV}, Is X h v d → Is X' h' v d
  | _, _, .none => .none
  | _, _, .bool b => .bool b
  | _, _, .int i t => .int i t
  | _, _, .str x t => .str x t
  | _, _, .tup e n r => .tup (p _ _ n e).2 (p _ _ n e).1 (IsL.pass p r)
  | _, _, .lst e n r => .lst (p _ _ n e).2 (p _ _ n e).1 (IsL.pass p r)
  | _, _, .raw v => .raw v
theorem IsL.pass {X X' : Addr → Prop} {h h' : Heap} (p : Passes X h X' h') : ∀ {vs : List Value} {ds : List AV}, IsL X h vs ds → IsL X' h' vs ds
  | _, _, .nil => .nil
  | _, _, .cons a r => .cons (Is.pass p a) (IsL.pass p r)
end
theorem Passes.ext {X : Addr → Prop} {h h' : Heap} (e : Ext h h') : Passes X h X h' := fun b o n q => ⟨n, e b o q⟩
theorem Is.ext {X : Addr → Prop} {h h' : Heap} {v : Value} {d : AV} (x : Is X h v d) (e : Ext h h') : Is X h' v d := x.pass (.ext e)
theorem IsL.ext {X : Addr → Prop} {h h' : Heap} {v : List Value} {d : List AV} (x : IsL X h v d) (e : Ext h h') : IsL X h' v d := x.pass (.ext e)
theorem IsL.length {X : Addr → Prop} {h : Heap} : ∀ {vs : List Value} {ds : List AV}, IsL X h vs ds → vs.length = ds.length
  | _, _, .nil => rfl
  | _, _, .cons _ r => congrArg (· + 1) (IsL.length r)
theorem IsL.append {X : Addr → Prop} {h : Heap} {ws : List Value} {es : List AV} (k : IsL X h ws es) : ∀ {vs : List Value} {ds : List AV}, IsL X h vs ds → IsL X h (vs ++ ws) (ds ++ es)
  | _, _, .nil => k
  | _, _, .cons a r => .cons a (IsL.append k r)
theorem IsL.get {X : Addr → Prop} {h : Heap} : ∀ {vs : List Value} {ds : List AV}, IsL X h vs ds → ∀ {i : Nat} {d : AV}, ds[i]? = some d → ∃ v, vs[i]? = some v ∧ Is X h v d
  | _, _, .nil, i, d, e => by simp at e
  | _, _, .cons (v := v) a r, 0, d, e => by
    simp at e; subst e; exact ⟨v, rfl, a⟩
  | _, _, .cons a r, i + 1, d, e => IsL.get r (by simpa using e)
theorem IsL.get' {X : Addr → Prop} {h : Heap} : ∀ {vs : List Value} {ds : List AV}, IsL X h vs ds → ∀ {i : Nat} {v : Value}, vs[i]? = some v → ∃ d, ds[i]? = some d ∧ Is X h v d
  | _, _, .nil, i, d, e => by simp at e
  | _, _, .cons (d := d) a r, 0, v, e => by
    simp at e; subst e; exact ⟨d, rfl, a⟩
  | _, _, .cons a r, i + 1, d, e => IsL.get' r (by simpa using e)
theorem IsL.take {X : Addr → Prop} {h : Heap} : ∀ {vs : List Value} {ds : List AV} (n : Nat), IsL X h vs ds → IsL X h (vs.take n) (ds.take n)
  | _, _, n, .nil => by simpa using IsL.nil
  | _, _, 0, .cons _ _ => .nil
  | _, _, n + 1, .cons a r => .cons a (IsL.take n r)
theorem IsL.drop {X : Addr → Prop} {h : Heap} : ∀ {vs : List Value} {ds : List AV} (n : Nat), IsL X h vs ds → IsL X h (vs.drop n) (ds.drop n)
  | _, _, n, .nil => by simpa using IsL.nil
  | _, _, 0, .cons a r => .cons a r
  | _, _, n + 1, .cons a r => IsL.drop n r

/-- the state only grew -/
def Kp (s s' : Shared) : Prop := Keeps s s'
theorem Kp.ext {s s' : Shared} (k : Kp s s') : Ext s.heap s'.heap := by
  obtain ⟨h', tk, rfl, e⟩ := k
  exact e
theorem Kp.refl (s : Shared) : Kp s s := ⟨s.heap, s.toks, rfl, fun _ _ e => e⟩
theorem Kp.tok (s : Shared) (t : Nat) : Kp s { s with toks := t } := ⟨s.heap, t, rfl, fun _ _ e => e⟩
theorem Kp.trans {a b c : Shared} (x : Kp a b) (y : Kp b c) : Kp a c := by
  obtain ⟨h, t, rfl, e⟩ := x
  obtain ⟨h', t', rfl, e'⟩ := y
  exact ⟨h', t', rfl, fun p o q => e' p o (e p o q)⟩
theorem Kp.mk {s : Shared} {h : Heap} {t : Nat} (e : Ext s.heap h) : Kp s { s with heap := h, toks := t } := ⟨h, t, rfl, e⟩
theorem Kp.same {s s' : Shared} (k : Kp s s') : s' = { s with heap := s'.heap, toks := s'.toks } := by
  obtain ⟨h', tk, rfl, _⟩ := k
  rfl

section
variable (w : World) (A : Around) (env : Env) (X : Addr → Prop) (h : Heap)
/-- e yields av in every heap that extends h; the heap only grows, nothing is raised -/
structure Ev (e : Expr) (av : AV) : Prop where
  run : ∀ (s : Shared) (Q : Value → Shared → Prop) (E : Value → Shared → Prop), Ext h s.heap →
    (∀ v s', Kp s s' → Is X s'.heap v av → Q v s') → wpAny (model PR w) A (eval e env) Q E s
structure EvT (e : Expr) (b : Bool) : Prop where
  run : ∀ (s : Shared) (Q : Bool → Shared → Prop) (E : Value → Shared → Prop), Ext h s.heap →
    (∀ s', Kp s s' → Q b s') → wpAny (model PR w) A (isTrue e env (eval e env)) Q E s
/-- the machine's step t yields av from every state that extends h -/
structure Mk (t : Sem Value) (av : AV) : Prop where
  run : ∀ (s : Shared) (Q : Value → Shared → Prop) (E : Value → Shared → Prop), Ext h s.heap →
    (∀ v s', Kp s s' → Is X s'.heap v av → Q v s') → wpAny (model PR w) A t Q E s
end

section
variable {w : World} {A : Around} {env : Env} {X : Addr → Prop} {h : Heap}
theorem Ev.up {h' : Heap} {e : Expr} {av : AV} (x : Ev w A env X h e av) (k : Ext h h') : Ev w A env X h' e av := ⟨fun s Q E hs hQ => x.run s Q E (k.trans hs) hQ⟩
theorem EvT.up {h' : Heap} {e : Expr} {b : Bool} (x : EvT w A env h e b) (k : Ext h h') : EvT w A env h' e b := ⟨fun s Q E hs hQ => x.run s Q E (k.trans hs) hQ⟩
theorem Ev.cast {e : Expr} {av av' : AV} (x : Ev w A env X h e av) (k : av = av') : Ev w A env X h e av' := k ▸ x
theorem EvT.cast {e : Expr} {b b' : Bool} (x : EvT w A env h e b) (k : b = b') : EvT w A env h e b' := k ▸ x

-- literals
theorem Ev.int {i : Int} {k : Nat} {p : Pos} : Ev w A env X h (.Constant (.int i) k p) (.int i) := ⟨fun s _ _ _ hQ => by
  with_reducible exact wpAny_Constant_int (hQ _ _ (Kp.tok s _) (.int i _))⟩
theorem Ev.strc {x : Str} {k : Nat} {p : Pos} : Ev w A env X h (.Constant (.str x) k p) (.str x) := ⟨fun s _ _ _ hQ => by
  with_reducible exact PySem.Calls.Constant_str (hQ _ _ (Kp.tok s _) (.str x _))⟩
theorem Ev.boolc {b : Bool} {k : Nat} {p : Pos} : Ev w A env X h (.Constant (.bool b) k p) (.bool b) := ⟨fun s _ _ _ hQ => by
  with_reducible exact Constant_bool (hQ _ _ (Kp.refl s) (.bool b))⟩
theorem Ev.nonec {k : Nat} {p : Pos} : Ev w A env X h (.Constant .none k p) .none := ⟨fun s _ _ _ hQ => by
  with_reducible exact Constant_none (hQ _ _ (Kp.refl s) .none)⟩

/-- a binary step -/
structure Op2 (w : World) (A : Around) (X : Addr → Prop) (f : Value → Value → Sem Value) (a b c : AV) : Prop where
  run : ∀ (s : Shared) (v u : Value) (Q : Value → Shared → Prop) (E : Value → Shared → Prop), Is X s.heap v a → Is X s.heap u b →
    (∀ r s', Kp s s' → Is X s'.heap r c → Q r s') → wpAny (model PR w) A (f v u) Q E s
theorem Ev.binop {l r : Expr} {op : Operator} {p : Pos} {a b c : AV} (x : Ev w A env X h l a) (y : Ev w A env X h r b) (z : Op2 w A X (binaryOp op) a b c) : Ev w A env X h (.BinOp l op r p) c := ⟨fun s _ _ hs hQ => by
  with_reducible exact wpAny_BinOp (x.run s _ _ hs fun v s₁ k₁ i₁ => y.run s₁ _ _ (hs.trans k₁.ext) fun u s₂ k₂ i₂ => z.run s₂ v u _ _ (i₁.ext k₂.ext) i₂ fun r s₃ k₃ i₃ => hQ r s₃ (k₁.trans (k₂.trans k₃)) i₃)⟩
theorem Ev.cmp {l r : Expr} {op : CmpOp} {p : Pos} {a b : AV} {c : Bool} (x : Ev w A env X h l a) (y : Ev w A env X h r b) (z : Op2 w A X (compareOp op) a b (.bool c))
    (hm : behindInMarks op r = false := by with_unfolding_all rfl) : Ev w A env X h (.Compare l [op] [r] p) (.bool c) := ⟨fun s _ _ hs hQ => by
  with_reducible exact wpAny_Compare1 (x.run s _ _ hs fun v s₁ k₁ i₁ => y.run s₁ _ _ (hs.trans k₁.ext) fun u s₂ k₂ i₂ => z.run s₂ v u _ _ (i₁.ext k₂.ext) i₂ fun r s₃ k₃ i₃ => hQ r s₃ (k₁.trans (k₂.trans k₃)) i₃) hm⟩
theorem EvT.cmp {l r : Expr} {op : CmpOp} {p : Pos} {a b : AV} {c : Bool} (x : Ev w A env X h l a) (y : Ev w A env X h r b) (z : Op2 w A X (compareOp op) a b (.bool c))
    (hm : behindInMarks op r = false := by with_unfolding_all rfl) : EvT w A env h (.Compare l [op] [r] p) c := ⟨fun s _ _ hs hQ => by
  with_reducible refine wpAny_isTrue_Compare1 (x.run s _ _ hs fun v s₁ k₁ i₁ => y.run s₁ _ _ (hs.trans k₁.ext) fun u s₂ k₂ i₂ => z.run s₂ v u _ _ (i₁.ext k₂.ext) i₂ fun r s₃ k₃ i₃ => ?_) hm
  cases i₃
  with_reducible exact wpAny_truthy_bool (hQ s₃ (k₁.trans (k₂.trans k₃)))⟩
theorem EvT.not {x : Expr} {p : Pos} {b : Bool} (y : EvT w A env h x b) : EvT w A env h (.UnaryOp .Not x p) (!b) := ⟨fun s _ _ hs hQ => by
  with_reducible exact isTrue_not (y.run s _ _ hs hQ)⟩
theorem EvT.and0 {p : Pos} : EvT w A env h (.BoolOp .And [] p) true := ⟨fun s _ _ _ hQ => by
  with_reducible exact isTrue_and_nil (hQ s (Kp.refl s))⟩
theorem EvT.or0 {p : Pos} : EvT w A env h (.BoolOp .Or [] p) false := ⟨fun s _ _ _ hQ => by
  with_reducible exact isTrue_or_nil (hQ s (Kp.refl s))⟩
theorem EvT.and {x : Expr} {r : List Expr} {p : Pos} {a b : Bool} (hx : EvT w A env h x a) (hy : a = true → EvT w A env h (.BoolOp .And r p) b) : EvT w A env h (.BoolOp .And (x :: r) p) (a && b) := ⟨fun s _ _ hs hQ => by
  with_reducible refine isTrue_and (hx.run s _ _ hs fun s₁ k₁ => ?_)
  cases a with
  | false => exact hQ s₁ k₁
  | true => exact (hy rfl).run s₁ _ _ (hs.trans k₁.ext) fun s₂ k₂ => hQ s₂ (k₁.trans k₂)⟩
theorem EvT.or {x : Expr} {r : List Expr} {p : Pos} {a b : Bool} (hx : EvT w A env h x a) (hy : a = false → EvT w A env h (.BoolOp .Or r p) b) : EvT w A env h (.BoolOp .Or (x :: r) p) (a || b) := ⟨fun s _ _ hs hQ => by
  with_reducible refine isTrue_or (hx.run s _ _ hs fun s₁ k₁ => ?_)
  cases a with
  | true => exact hQ s₁ k₁
  | false => exact (hy rfl).run s₁ _ _ (hs.trans k₁.ext) fun s₂ k₂ => hQ s₂ (k₁.trans k₂)⟩
structure TruthIs (w : World) (A : Around) (X : Addr → Prop) (a : AV) (b : Bool) : Prop where
  run : ∀ (s : Shared) (v : Value) (Q : Bool → Shared → Prop) (E : Value → Shared → Prop), Is X s.heap v a → (∀ s', Kp s s' → Q b s') → wpAny (model PR w) A (truthy v) Q E s
theorem EvT.plain {e : Expr} {a : AV} {b : Bool} (x : Ev w A env X h e a) (t : TruthIs w A X a b)
    (he : ∀ whole, isTrue e env whole = (do let v ← whole; standAt e.pos; holding [v] (truthy v)) := by intro _; rfl) : EvT w A env h e b := ⟨fun s _ _ hs hQ => by
  with_reducible exact isTrue_plain (x.run s _ _ hs fun v s₁ k₁ i₁ => t.run s₁ v _ _ i₁ fun s₂ k₂ => hQ s₂ (k₁.trans k₂)) (he _)⟩
theorem Ev.ifexp {t a b : Expr} {p : Pos} {c : Bool} {v : AV} (ht : EvT w A env h t c) (ha : c = true → Ev w A env X h a v) (hb : c = false → Ev w A env X h b v) : Ev w A env X h (.IfExp t a b p) v := ⟨fun s _ _ hs hQ => by
  with_reducible refine IfExp_ (ht.run s _ _ hs fun s₁ k₁ => ?_)
  cases c with
  | true => exact (ha rfl).run s₁ _ _ (hs.trans k₁.ext) fun v s₂ k₂ i₂ => hQ v s₂ (k₁.trans k₂) i₂
  | false => exact (hb rfl).run s₁ _ _ (hs.trans k₁.ext) fun v s₂ k₂ i₂ => hQ v s₂ (k₁.trans k₂) i₂⟩
/-- and of two comparisons, as a value -/
theorem Ev.and2b {x y : Expr} {p : Pos} {a b : Bool} (hx : Ev w A env X h x (.bool a)) (hy : a = true → Ev w A env X h y (.bool b)) : Ev w A env X h (.BoolOp .And [x, y] p) (.bool (a && b)) := ⟨fun s _ _ hs hQ => by
  with_reducible refine BoolOp_and (hx.run s _ _ hs fun v s₁ k₁ i₁ => ?_)
  cases i₁
  with_reducible refine wpAny_truthy_bool ?_
  cases a with
  | false => exact hQ _ s₁ k₁ (.bool _)
  | true =>
    simp only [if_true]
    with_reducible refine BoolOp_one ((hy rfl).run s₁ _ _ (hs.trans k₁.ext) fun v s₂ k₂ i₂ => ?_)
    exact hQ v s₂ (k₁.trans k₂) i₂⟩
end
end
section

open PySem PySem.W PyProof.Rows
abbrev AV.nat (n : Nat) : AV := .int (n : Int)

theorem xor_or_and (a b : Nat) : (a ^^^ b) + (a &&& b) = a ||| b := by
  induction a using Nat.strongRecOn generalizing b with
  | ind a ih =>
    by_cases ha : a = 0
    · subst ha; simp
    · have h1 := ih (a / 2) (by omega) (b / 2)
      have e1 : (a ^^^ b) / 2 = a / 2 ^^^ b / 2 := Nat.xor_div_two
      have e2 : (a &&& b) / 2 = a / 2 &&& b / 2 := Nat.and_div_two
      have e3 : (a ||| b) / 2 = a / 2 ||| b / 2 := Nat.or_div_two
      have m1 : (a ^^^ b) % 2 = (a % 2) ^^^ (b % 2) := Nat.xor_mod_two_pow (n := 1)
      have m2 : (a &&& b) % 2 = (a % 2) &&& (b % 2) := Nat.and_mod_two_pow (n := 1)
      have m3 : (a ||| b) % 2 = (a % 2) ||| (b % 2) := Nat.or_mod_two_pow (n := 1)
      rw [← e1, ← e2, ← e3] at h1
      rcases Nat.mod_two_eq_zero_or_one a with p | p <;> rcases Nat.mod_two_eq_zero_or_one b with q | q <;> rw [p, q] at m1 m2 m3 <;> simp only [show (0 ^^^ 0 : Nat) = 0 from rfl, show (0 ^^^ 1 : Nat) = 1 from rfl, show (1 ^^^ 0 : Nat) = 1 from rfl, show (1 ^^^ 1 : Nat) = 0 from rfl, show (0 &&& 0 : Nat) = 0 from rfl, show (0 &&& 1 : Nat) = 0 from rfl, show (1 &&& 0 : Nat) = 0 from rfl, show (1 &&& 1 : Nat) = 1 from rfl, show (0 ||| 0 : Nat) = 0 from rfl, show (0 ||| 1 : Nat) = 1 from rfl, show (1 ||| 0 : Nat) = 1 from rfl, show (1 ||| 1 : Nat) = 1 from rfl] at m1 m2 m3 <;> omega
theorem bitAnd_nat (a b : Nat) : Builtin.bitAnd (a : Int) (b : Int) = ((a &&& b : Nat) : Int) := by
  unfold Builtin.bitAnd
  rw [decide_eq_true (Int.natCast_nonneg a), decide_eq_true (Int.natCast_nonneg b)]
  simp
theorem bitXor_nat (a b : Nat) : Builtin.bitXor (a : Int) (b : Int) = ((a ^^^ b : Nat) : Int) := by
  unfold Builtin.bitXor
  rw [bitAnd_nat]
  have : Builtin.bitOr (a : Int) (b : Int) = ((a ||| b : Nat) : Int) := by
    unfold Builtin.bitOr Builtin.bitAnd
    have h1 : ¬ (0 ≤ Builtin.bitNot (a : Int)) := by unfold Builtin.bitNot; omega
    have h2 : ¬ (0 ≤ Builtin.bitNot (b : Int)) := by unfold Builtin.bitNot; omega
    rw [decide_eq_false h1, decide_eq_false h2]
    have e : ∀ n : Nat, (Builtin.bitNot (Builtin.bitNot (n : Int))) = n := by intro n; unfold Builtin.bitNot; omega
    simp only [e, Int.toNat_natCast]
  rw [this, ← xor_or_and]
  omega

theorem Ev.natc {w : World} {A : Around} {env : Env} {X : Addr → Prop} {h : Heap} {n : Nat} {k : Nat} {p : Pos} : Ev w A env X h (.Constant (.int (Int.ofNat n)) k p) (.nat n) := Ev.int
section
variable {w : World} {A : Around} {X : Addr → Prop}
theorem o_add {a b : Int} : Op2 w A X (binaryOp .Add) (.int a) (.int b) (.int (a + b)) := by
  refine ⟨fun s v u Q E i j hQ => ?_⟩; cases i; cases j
  with_reducible exact PyProof.Rows.add_int (hQ _ _ (Kp.tok s _) (.int _ _))
theorem o_sub {a b : Int} : Op2 w A X (binaryOp .Sub) (.int a) (.int b) (.int (a - b)) := by
  refine ⟨fun s v u Q E i j hQ => ?_⟩; cases i; cases j
  with_reducible exact PyProof.Rows.sub_int (hQ _ _ (Kp.tok s _) (.int _ _))
theorem o_addN {a b : Nat} : Op2 w A X (binaryOp .Add) (.nat a) (.nat b) (.nat (a + b)) := by
  have := @o_add w A X a b
  rwa [show ((a : Int) + (b : Int)) = ((a + b : Nat) : Int) by omega] at this
theorem o_subN {a b : Nat} (h : b ≤ a) : Op2 w A X (binaryOp .Sub) (.nat a) (.nat b) (.nat (a - b)) := by
  have := @o_sub w A X a b
  rwa [show ((a : Int) - (b : Int)) = ((a - b : Nat) : Int) by omega] at this
theorem bits_small {a : Int} (h : a.natAbs < 2 ^ 64) : Builtin.Int.intBits a ≤ 64 := by
  exact intBits_le_64 (by omega) (by omega)
theorem o_mulN {a b : Nat} (h : a < 2 ^ 64 ∨ b < 2 ^ 64) : Op2 w A X (binaryOp .Mult) (.nat a) (.nat b) (.nat (a * b)) := by
  refine ⟨fun s v u Q E i j hQ => ?_⟩; cases i; cases j
  with_reducible refine PyProof.Rows.mul_int (by rw [← Int.natCast_mul]; exact hQ _ _ (Kp.tok s _) (.int _ _)) ?_
  rcases h with h | h
  · exact IntMulOk.of_left (bits_small (by simpa using h))
  · exact IntMulOk.of_right (bits_small (by simpa using h))
theorem o_modN {a b : Nat} (h : b ≠ 0) : Op2 w A X (binaryOp .Mod) (.nat a) (.nat b) (.nat (a % b)) := by
  refine ⟨fun s v u Q E i j hQ => ?_⟩; cases i; cases j
  with_reducible refine PyProof.Rows.mod_int (by omega) ?_
  rw [Int.fmod_eq_emod_of_nonneg _ (by omega), ← Int.natCast_emod]
  exact hQ _ _ (Kp.tok s _) (.int _ _)
theorem o_modI {a : Int} {b : Nat} (h : b ≠ 0) : Op2 w A X (binaryOp .Mod) (.int a) (.nat b) (.int (a % (b : Int))) := by
  refine ⟨fun s v u Q E i j hQ => ?_⟩; cases i; cases j
  with_reducible refine PyProof.Rows.mod_int (by omega) ?_
  rw [Int.fmod_eq_emod_of_nonneg _ (by omega)]
  exact hQ _ _ (Kp.tok s _) (.int _ _)
theorem o_divN {a b : Nat} (h : b ≠ 0) (hb : b < 2 ^ 64) : Op2 w A X (binaryOp .FloorDiv) (.nat a) (.nat b) (.nat (a / b)) := by
  refine ⟨fun s v u Q E i j hQ => ?_⟩; cases i; cases j
  with_reducible refine PyProof.Rows.floordiv_int (by omega) ?_ (Or.inl (PyProof.noPylong_of_log2 (by rw [Int.natAbs_natCast]; have := (Nat.log2_lt h).mpr hb; omega)))
  rw [Int.fdiv_eq_ediv_of_nonneg _ (by omega), ← Int.natCast_ediv]
  exact hQ _ _ (Kp.tok s _) (.int _ _)
theorem o_powN {a b : Nat} (ha : a < 2 ^ 64) (hb : b ≤ 1000000) : Op2 w A X (binaryOp .Pow) (.nat a) (.nat b) (.nat (a ^ b)) := by
  refine ⟨fun s v u Q E i j hQ => ?_⟩; cases i; cases j
  with_reducible refine PyProof.Rows.pow_int_small (by omega) (by omega) (by simpa using ha) ?_
  have e : ((a : Int) ^ ((b : Int).toNat)) = ((a ^ b : Nat) : Int) := by rw [Int.toNat_natCast, Int.natCast_pow]
  rw [e]
  exact hQ _ _ (Kp.tok s _) (.int _ _)
theorem bits_lt {a k : Nat} (h : a < 2 ^ k) : Builtin.Int.intBits (a : Int) ≤ k := by
  unfold Builtin.Int.intBits
  by_cases z : a = 0
  · subst z; simp
  · have hz : ¬ ((a : Int) = 0) := by omega
    simp only [Int.natAbs_natCast]
    have := (Nat.log2_lt z).mpr h
    first | (split <;> omega) | omega
theorem o_shlN {a b k : Nat} (ha : a < 2 ^ k) (hk : k + b ≤ 100000000) : Op2 w A X (binaryOp .LShift) (.nat a) (.nat b) (.nat (a <<< b)) := by
  refine ⟨fun s v u Q E i j hQ => ?_⟩; cases i; cases j
  have hb := bits_lt ha
  with_reducible refine PyProof.Rows.lshift_int (by omega) (by omega) ?_
  have e : ((a : Int) * 2 ^ ((b : Int).toNat)) = ((a <<< b : Nat) : Int) := by
    rw [Int.toNat_natCast, Nat.shiftLeft_eq, Int.natCast_mul, Int.natCast_pow]; rfl
  rw [e]
  exact hQ _ _ (Kp.tok s _) (.int _ _)
theorem shr_cast (a b : Nat) : ((a : Int).fdiv (2 ^ ((b : Int).toNat))) = ((a >>> b : Nat) : Int) := by
  have h2 : (0 : Int) ≤ 2 ^ b := Int.pow_nonneg (by omega)
  rw [Int.toNat_natCast, Int.fdiv_eq_ediv_of_nonneg _ h2, Nat.shiftRight_eq_div_pow, Int.natCast_ediv, Int.natCast_pow]; rfl
theorem o_shrN {a b : Nat} : Op2 w A X (binaryOp .RShift) (.nat a) (.nat b) (.nat (a >>> b)) := by
  refine ⟨fun s v u Q E i j hQ => ?_⟩; cases i; cases j
  with_reducible refine PyProof.Rows.rshift_int (by omega) ?_
  rw [shr_cast]
  exact hQ _ _ (Kp.tok s _) (.int _ _)
theorem o_ishrN {a b : Nat} : Op2 w A X (inplaceOp .RShift) (.nat a) (.nat b) (.nat (a >>> b)) := by
  refine ⟨fun s v u Q E i j hQ => ?_⟩; cases i; cases j
  with_reducible refine PyProof.Rows.irshift_int (by omega) ?_
  rw [shr_cast]
  exact hQ _ _ (Kp.tok s _) (.int _ _)
theorem o_andN {a b : Nat} : Op2 w A X (binaryOp .BitAnd) (.nat a) (.nat b) (.nat (a &&& b)) := by
  refine ⟨fun s v u Q E i j hQ => ?_⟩; cases i; cases j
  with_reducible refine PyProof.Rows.and_int ?_
  rw [bitAnd_nat]
  exact hQ _ _ (Kp.tok s _) (.int _ _)
theorem o_xorN {a b : Nat} : Op2 w A X (binaryOp .BitXor) (.nat a) (.nat b) (.nat (a ^^^ b)) := by
  refine ⟨fun s v u Q E i j hQ => ?_⟩; cases i; cases j
  with_reducible refine PyProof.Rows.xor_int ?_
  rw [bitXor_nat]
  exact hQ _ _ (Kp.tok s _) (.int _ _)
theorem o_ixorN {a b : Nat} : Op2 w A X (inplaceOp .BitXor) (.nat a) (.nat b) (.nat (a ^^^ b)) := by
  refine ⟨fun s v u Q E i j hQ => ?_⟩; cases i; cases j
  with_reducible refine PyProof.Rows.ixor_int ?_
  rw [bitXor_nat]
  exact hQ _ _ (Kp.tok s _) (.int _ _)
theorem o_iaddN {a b : Nat} : Op2 w A X (inplaceOp .Add) (.nat a) (.nat b) (.nat (a + b)) := by
  refine ⟨fun s v u Q E i j hQ => ?_⟩; cases i; cases j
  with_reducible refine PyProof.Rows.iadd_int ?_
  rw [← Int.natCast_add]
  exact hQ _ _ (Kp.tok s _) (.int _ _)
theorem o_eqI {a b : Int} : Op2 w A X (compareOp .Eq) (.int a) (.int b) (.bool (a == b)) := by
  refine ⟨fun s v u Q E i j hQ => ?_⟩; cases i; cases j
  with_reducible exact PyProof.Rows.eq_int (hQ _ _ (Kp.refl s) (.bool _))
theorem o_eqN {a b : Nat} : Op2 w A X (compareOp .Eq) (.nat a) (.nat b) (.bool (a == b)) := by
  have := @o_eqI w A X a b
  rwa [show (((a : Int) == (b : Int))) = (a == b) by rw [Bool.eq_iff_iff, beq_iff_eq, beq_iff_eq]; omega] at this
theorem o_ltN {a b : Nat} : Op2 w A X (compareOp .Lt) (.nat a) (.nat b) (.bool (decide (a < b))) := by
  refine ⟨fun s v u Q E i j hQ => ?_⟩; cases i; cases j
  with_reducible refine PyProof.Rows.lt_int ?_
  rw [show decide ((a : Int) < (b : Int)) = decide (a < b) by rw [decide_eq_decide]; omega]
  exact hQ _ _ (Kp.refl s) (.bool _)
theorem o_addS {x y : Str} (hz : x.length + y.length ≤ 1000000) : Op2 w A X (binaryOp .Add) (.str x) (.str y) (.str (x ++ y)) := by
  refine ⟨fun s v u Q E i j hQ => ?_⟩; cases i; cases j
  with_reducible exact PyProof.Rows.add_str (fun t tk => hQ _ _ (Kp.tok s _) (.str _ _)) (by rw [sizeLine_eq]; omega)
theorem o_iaddS {x y : Str} (hz : x.length + y.length ≤ 1000000) : Op2 w A X (inplaceOp .Add) (.str x) (.str y) (.str (x ++ y)) := by
  refine ⟨fun s v u Q E i j hQ => ?_⟩; cases i; cases j
  with_reducible exact PyProof.Rows.iadd_str (fun t tk => hQ _ _ (Kp.tok s _) (.str _ _)) (by rw [sizeLine_eq]; omega)
theorem o_eqS {x y : Str} : Op2 w A X (compareOp .Eq) (.str x) (.str y) (.bool (x == y)) := by
  refine ⟨fun s v u Q E i j hQ => ?_⟩; cases i; cases j
  with_reducible exact PyProof.Rows.eq_str (hQ _ _ (Kp.refl s) (.bool _))
theorem o_neS {x y : Str} : Op2 w A X (compareOp .NotEq) (.str x) (.str y) (.bool (x != y)) := by
  refine ⟨fun s v u Q E i j hQ => ?_⟩; cases i; cases j
  with_reducible exact PyProof.Rows.ne_str (hQ _ _ (Kp.refl s) (.bool _))
def inS (y x : Str) : Bool := !(Builtin.Str.occurrences x y 0 x.length 1).isEmpty
theorem o_inS {x y : Str} : Op2 w A X (compareOp .In) (.str y) (.str x) (.bool (inS y x)) := by
  refine ⟨fun s v u Q E i j hQ => ?_⟩; cases i; cases j
  with_reducible exact PyProof.Rows.in_str (hQ _ _ (Kp.refl s) (.bool _))
theorem o_notInS {x y : Str} : Op2 w A X (compareOp .NotIn) (.str y) (.str x) (.bool (!(inS y x))) := by
  refine ⟨fun s v u Q E i j hQ => ?_⟩; cases i; cases j
  with_reducible exact PyProof.Rows.notIn_str (hQ _ _ (Kp.refl s) (.bool _))
theorem o_isNotNoneN : Op2 w A X (compareOp .IsNot) .none .none (.bool false) := by
  refine ⟨fun s v u Q E i j hQ => ?_⟩; cases i; cases j
  with_reducible exact PySem.isNot_none (hQ _ _ (Kp.refl s) (.bool _))
theorem o_isNotNoneS {x : Str} : Op2 w A X (compareOp .IsNot) (.str x) .none (.bool true) := by
  refine ⟨fun s v u Q E i j hQ => ?_⟩; cases i; cases j
  with_reducible exact PySem.isNot_none (hQ _ _ (Kp.refl s) (.bool _))
theorem o_isNoneN : Op2 w A X (compareOp .Is) .none .none (.bool true) := by
  refine ⟨fun s v u Q E i j hQ => ?_⟩; cases i; cases j
  with_reducible exact PyProof.Rows.is_none_none (hQ _ _ (Kp.refl s) (.bool _))
theorem o_isNoneS {x : Str} : Op2 w A X (compareOp .Is) (.str x) .none (.bool false) := by
  refine ⟨fun s v u Q E i j hQ => ?_⟩; cases i; cases j
  with_reducible exact PyProof.Rows.is_none_ne (fun e => nomatch e) (hQ _ _ (Kp.refl s) (.bool _))
theorem t_int {a : Int} : TruthIs w A X (.int a) (a != 0) := by
  refine ⟨fun s v Q E i hQ => ?_⟩; cases i
  with_reducible exact PyProof.Rows.truthy_int (hQ _ (Kp.refl s))
theorem t_nat {a : Nat} : TruthIs w A X (.nat a) (a != 0) := by
  have := @t_int w A X a
  rwa [show (((a : Int) != 0)) = (a != 0) by rw [Bool.eq_iff_iff]; simp] at this
theorem t_bool {b : Bool} : TruthIs w A X (.bool b) b := by
  refine ⟨fun s v Q E i hQ => ?_⟩; cases i
  with_reducible exact wpAny_truthy_bool (hQ _ (Kp.refl s))
end
end
section

open PySem PySem.W PyProof.Rows

noncomputable abbrev KK (w : World) : Frag := hd.heap_39 w.params
/-- addresses of the top that stay -/
def GA (b : Addr) : Prop := (∃ w, ((KK w).lookup b).isSome = true) ∨ b = 0 ∨ b = 2 ∨ b = 3 ∨ b = 4
/-- what is known of the text's top -/
structure Gl (w : World) (h : Heap) : Prop where
  K : Frag.In (KK w) h
  T : ∃ mg mb, TopRead hd.view_39 [] mg mb h
  M : ∃ ob, h.get? 4 = some ob ∧ ob.cls = .type "module" ∧ ob.dict = some builtinsNs ∧ ob.data = .plain
theorem lookup_keys {β : Type} (b : Addr) : ∀ l : List (Addr × β), (l.lookup b).isSome = (l.map (·.1)).contains b
  | [] => rfl
  | (a, o) :: r => by
    rw [List.lookup_cons, List.map_cons, List.contains_cons, ← lookup_keys b r]
    cases b == a <;> rfl
theorem KK_same (w w' : World) (b : Addr) : ((KK w).lookup b).isSome = ((KK w').lookup b).isSome := by
  rw [lookup_keys, lookup_keys, show (KK w).map (·.1) = (KK w').map (·.1) from rfl]
theorem KK_keys (w : World) : ∀ a o, (KK w).lookup a = some o → GA a := fun a o e => .inl ⟨w, by rw [e]; rfl⟩
theorem nga88 : ¬ GA 88 := by
  rintro (⟨w, e⟩ | e | e | e | e)
  · exact absurd e (by rw [show (KK w).lookup 88 = none from rfl]; decide)
  all_goals exact absurd e (by decide)
theorem Gl.keep {w : World} {h h' : Heap} (x : Gl w h) (k : ∀ b o, GA b → h.get? b = some o → h'.get? b = some o) : Gl w h' := by
  refine ⟨fun a o e => k a o (KK_keys w a o e) (x.K a o e), ?_, let ⟨ob, e, r⟩ := x.M; ⟨ob, k 4 ob (by unfold GA; simp) e, r⟩⟩
  obtain ⟨mg, mb, T⟩ := x.T
  refine ⟨mg, mb, ⟨?_, ?_, ?_, T.builtins, T.free⟩⟩
  · exact T.g.at' fun o e => k _ o (by unfold GA; simp [mainGlobals, builtinsNs, cStatics]) e
  · exact T.b.at' fun o e => k _ o (by unfold GA; simp [mainGlobals, builtinsNs, cStatics]) e
  · obtain ⟨mc, a, b⟩ := T.nolimit
    exact ⟨mc, a.at' fun o e => k _ o (by unfold GA; simp [mainGlobals, builtinsNs, cStatics]) e, b⟩
theorem Gl.live {w : World} {h : Heap} (x : Gl w h) {b : Addr} (hb : GA b) : ∃ o, h.get? b = some o := by
  obtain ⟨mg, mb, T⟩ := x.T
  rcases hb with ⟨w', e⟩ | e | e | e | e
  · rw [KK_same w' w] at e
    obtain ⟨o, e⟩ := Option.isSome_iff_exists.mp e
    exact ⟨o, x.K b o e⟩
  · obtain ⟨o, _, _, q, _⟩ := T.b; exact ⟨o, e ▸ q⟩
  · obtain ⟨mc, ⟨o, _, _, q, _⟩, _⟩ := T.nolimit; exact ⟨o, e ▸ q⟩
  · obtain ⟨o, _, _, q, _⟩ := T.g; exact ⟨o, e ▸ q⟩
  · obtain ⟨o, q, _⟩ := x.M; exact ⟨o, e ▸ q⟩
theorem Gl.ext {w : World} {h h' : Heap} (x : Gl w h) (k : Ext h h') : Gl w h' := x.keep fun b o _ e => k b o e

/-- a variable of env holds v in h -/
def VarIs (env : Env) (h : Heap) (x : Str) (v : Value) : Prop :=
  (env.kindOf x = some .local ∧ ∃ m, h.Ns env.locals m ∧ m x = some v) ∨
  ((env.kindOf x = some .cell ∨ env.kindOf x = some .free) ∧ ∃ c, env.cells.lookup x = some c ∧ h.IsCell c (some v))
theorem VarIs.ext {env : Env} {h h' : Heap} {x : Str} {v : Value} (k : Ext h h') : VarIs env h x v → VarIs env h' x v
  | .inl ⟨a, m, b, c⟩ => .inl ⟨a, m, b.keeps k, c⟩
  | .inr ⟨a, c, b, d⟩ => .inr ⟨a, c, b, d.keeps k⟩
section
variable {w : World} {A : Around} {env : Env} {X : Addr → Prop} {h : Heap}
theorem Ev.var {x : Str} {p : Pos} {v : Value} {av : AV} (hk : env.scope.kind = .function) (hv : VarIs env h x v) (hi : Is X h v av) (hd : (x == ("__debug__" : Str)) = false) (hc : (x == ("__classdict__" : Str)) = false) : Ev w A env X h (.Name x p) av := ⟨fun s _ _ hs hQ => by
  have fin := hQ v s (Kp.refl s) (hi.ext hs)
  rcases hv.ext hs with ⟨hl, m, hn, hm⟩ | ⟨hl, c, hcl, hcv⟩
  · with_reducible exact wpAny_Name (wpAny_loadName_local hk hl hn hm fin) hd
  · rcases hl with hl | hl
    · with_reducible exact wpAny_Name (wpAny_loadName_cell hk hl hcl hcv fin) hd
    · with_reducible exact wpAny_Name (wpAny_loadName_free hk hl hcl hcv fin hc) hd⟩
theorem Ev.glob {x : Str} {p : Pos} {v : Value} (g : Gl w h) (hk : env.scope.kind = .function) (hx : env.kindOf x = some .globalImplicit) (hg : env.globals = mainGlobals)
    (e : nsIn (KK w) mainGlobals x = some (some v)) (hd : (x == ("__debug__" : Str)) = false) : Ev w A env X h (.Name x p) (.raw v) := ⟨fun s _ _ hs hQ => by
  obtain ⟨mg, mb, T⟩ := (g.ext hs).T
  with_reducible refine Calls.Name_function_global hk hx ?_ hd
  have h1 : s.heap.Ns env.globals mg := hg ▸ T.g
  with_reducible exact Calls.loadGlobal_global h1 (mg_of (g.ext hs).K T.g e) (hQ v s (Kp.refl s) (.raw v))⟩
theorem Ev.built {x : Str} {p : Pos} {v : Value} (g : Gl w h) (hk : env.scope.kind = .function) (hx : env.kindOf x = some .globalImplicit) (hg : env.globals = mainGlobals) (hb : env.builtins = builtinsNs)
    (e : nsIn (KK w) mainGlobals x = some none) (hv : bootBuiltins x = some v) (hn : x ≠ "__name__") (hd : (x == ("__debug__" : Str)) = false) : Ev w A env X h (.Name x p) (.raw v) := ⟨fun s _ _ hs hQ => by
  obtain ⟨mg, mb, T⟩ := (g.ext hs).T
  with_reducible refine Calls.Name_function_global hk hx ?_ hd
  have h1 : s.heap.Ns env.globals mg := hg ▸ T.g
  have h2 : s.heap.Ns env.builtins mb := hb ▸ T.b
  with_reducible exact Calls.loadGlobal_builtin h1 (mg_none_of (g.ext hs).K T.g e) h2 ((T.builtins x hn).trans hv) (hQ v s (Kp.refl s) (.raw v))⟩
end
end
section

open PySem PySem.W PyProof.Rows

abbrev Rho := List (Str × AV)
def Sub : Rho → Rho → Prop
  | [], _ => True
  | (x, v) :: r, ρ => ρ.lookup x = some v ∧ Sub r ρ
theorem Sub.get {ρ : Rho} : ∀ {r : Rho}, Sub r ρ → ∀ {x : Str} {v : AV}, r.lookup x = some v → ρ.lookup x = some v
  | (y, u) :: r, ⟨a, b⟩, x, v, e => by
    rw [List.lookup_cons] at e
    split at e
    · rename_i q; cases e; rw [beq_iff_eq.mp q]; exact a
    · exact b.get e

/-- a part of the heap that an activation holds: fp, the addresses that change; holds, what stands there (X: what may change at all) -/
structure Res where
  fp : Addr → Prop
  holds : (Addr → Prop) → Heap → Prop
  stable : ∀ X X' h h', holds X h → (∀ b o, fp b → h.get? b = some o → h'.get? b = some o) → Passes X h X' h' → holds X' h'
def Res.emp : Res := ⟨fun _ => False, fun _ _ => True, fun _ _ _ _ _ _ _ => trivial⟩
def Res.and (a b : Res) : Res := ⟨fun x => a.fp x ∨ b.fp x, fun X h => a.holds X h ∧ b.holds X h,
  fun X X' h h' p k q => ⟨a.stable X X' h h' p.1 (fun b o f => k b o (.inl f)) q, b.stable X X' h h' p.2 (fun b o f => k b o (.inr f)) q⟩⟩
/-- a list that is filled -/
def Res.list (a : Addr) (l : List AV) : Res := ⟨fun b => b = a, fun X h => ∃ vs n, h.get? a = some (lstObj vs n) ∧ IsL X h vs l,
  fun _ _ _ _ ⟨vs, n, e, i⟩ k q => ⟨vs, n, k _ _ rfl e, i.pass q⟩⟩

/-- own addresses of the activation: its locals and its cells -/
def Own (env : Env) (b : Addr) : Prop := b = env.locals ∨ ∃ x, env.kindOf x = some .cell ∧ env.cells.lookup x = some b

/-- an activation. Y: outer addresses that may change; X: addresses that may change from here on; W: what else holds of the heap -/
structure Act (w : World) (Y X : Addr → Prop) (s₀ : Shared) (env : Env) (ρ : Rho) (W : Res) (s : Shared) : Prop where
  same : ∃ h tk, s = { s₀ with heap := h, toks := tk }
  keep : ∀ b o, ¬ Y b → s₀.heap.get? b = some o → s.heap.get? b = some o
  loc : ∃ m, s.heap.Ns env.locals m ∧ ∀ x av, env.kindOf x = some .local → ρ.lookup x = some av → ∃ v, m x = some v ∧ Is X s.heap v av
  cel : ∀ x c, env.kindOf x = some .cell → env.cells.lookup x = some c → ∃ v?, s.heap.IsCell c v? ∧ ∀ av, ρ.lookup x = some av → ∃ v, v? = some v ∧ Is X s.heap v av
  fre : ∀ x av, env.kindOf x = some .free → ρ.lookup x = some av → ∃ c v, env.cells.lookup x = some c ∧ s.heap.IsCell c (some v) ∧ ¬ X c ∧ Is X s.heap v av
  fresh : ∀ b, Own env b → s₀.heap.get? b = none
  apart : ∀ x c, env.kindOf x = some .cell → env.cells.lookup x = some c → c ≠ env.locals ∧ ∀ y, env.kindOf y = some .cell → env.cells.lookup y = some c → y = x
  own : ∀ b, Own env b → X b
  yx : ∀ b, Y b → X b
  xin : ∀ b, X b → ∃ o, s.heap.get? b = some o
  yga : ∀ b, Y b → ¬ GA b ∧ b < s₀.heap.objs.size
  gl : Gl w s₀.heap
  wfx : ∀ b, W.fp b → X b ∧ ¬ Own env b ∧ (Y b ∨ s₀.heap.get? b = none)
  wh : W.holds X s.heap

section
variable {w : World} {Y X : Addr → Prop} {s₀ : Shared} {env : Env} {ρ : Rho} {W : Res} {s s' : Shared}
theorem Act.Gl (a : Act w Y X s₀ env ρ W s) : Gl w s.heap := a.gl.keep fun b o g e => a.keep b o (fun y => (a.yga b y).1 g) e
theorem Act.var (a : Act w Y X s₀ env ρ W s) {x : Str} {av : AV} (e : ρ.lookup x = some av) (hk : env.kindOf x = some .local ∨ (env.kindOf x = some .cell ∧ (env.cells.lookup x).isSome = true) ∨ env.kindOf x = some .free) :
    ∃ v, VarIs env s.heap x v ∧ Is X s.heap v av := by
  rcases hk with hk | ⟨hk, hs⟩ | hk
  · obtain ⟨m, hn, hm⟩ := a.loc
    obtain ⟨v, hv, hi⟩ := hm x av hk e
    exact ⟨v, .inl ⟨hk, m, hn, hv⟩, hi⟩
  · obtain ⟨c, hc⟩ := Option.isSome_iff_exists.mp hs
    obtain ⟨v?, h1, h2⟩ := a.cel x c hk hc
    obtain ⟨v, rfl, hi⟩ := h2 av e
    exact ⟨v, .inr ⟨.inl hk, c, hc, h1⟩, hi⟩
  · obtain ⟨c, v, hc, h1, _, hi⟩ := a.fre x av hk e
    exact ⟨v, .inr ⟨.inr hk, c, hc, h1⟩, hi⟩
theorem Act.sub (a : Act w Y X s₀ env ρ W s) {ρ' : Rho} (e : Sub ρ' ρ) : Act w Y X s₀ env ρ' W s :=
  { a with
    loc := let ⟨m, h1, h2⟩ := a.loc; ⟨m, h1, fun x av k q => h2 x av k (e.get q)⟩
    cel := fun x c k q => let ⟨v?, h1, h2⟩ := a.cel x c k q; ⟨v?, h1, fun av p => h2 av (e.get p)⟩
    fre := fun x av k q => a.fre x av k (e.get q) }
theorem Act.wk (a : Act w Y X s₀ env ρ W s) {W' : Res} (f : ∀ b, W'.fp b → W.fp b) (g : W.holds X s.heap → W'.holds X s.heap) : Act w Y X s₀ env ρ W' s :=
  { a with wfx := fun b q => a.wfx b (f b q), wh := g a.wh }
/-- the heap changes at most at Z, off the own addresses; X becomes X' -/
theorem Act.move0 (a : Act w Y X s₀ env ρ W s) {X' : Addr → Prop} {W' : Res} {h' : Heap} {tk : Nat} (Z : Addr → Prop)
    (hz : ∀ b o, ¬ Z b → s.heap.get? b = some o → h'.get? b = some o) (zo : ∀ b, Z b → ¬ Own env b) (zy : ∀ b, Z b → Y b ∨ s₀.heap.get? b = none)
    (pass : Passes X s.heap X' h') (ow : ∀ b, Own env b → X' b) (yx : ∀ b, Y b → X' b) (xi : ∀ b, X' b → ∃ o, h'.get? b = some o)
    (wf : ∀ b, W'.fp b → X' b ∧ ¬ Own env b ∧ (Y b ∨ s₀.heap.get? b = none)) (wh : W'.holds X' h') : Act w Y X' s₀ env ρ W' { s with heap := h', toks := tk } := by
  refine { same := ?_, keep := ?_, loc := ?_, cel := ?_, fre := ?_, fresh := a.fresh, apart := a.apart, own := ow, yx := yx, xin := xi, yga := a.yga, gl := a.gl, wfx := wf, wh := wh }
  · obtain ⟨h, t, rfl⟩ := a.same
    exact ⟨h', tk, rfl⟩
  · intro b o ny e
    refine hz b o (fun q => ?_) (a.keep b o ny e)
    rcases zy b q with q | q
    · exact ny q
    · rw [q] at e; cases e
  · obtain ⟨m, h1, h2⟩ := a.loc
    exact ⟨m, h1.at' fun o e => hz _ o (fun q => zo _ q (.inl rfl)) e, fun x av k q => let ⟨v, p, i⟩ := h2 x av k q; ⟨v, p, i.pass pass⟩⟩
  · intro x c k q
    obtain ⟨v?, ⟨o, ho, hd⟩, h2⟩ := a.cel x c k q
    exact ⟨v?, ⟨o, hz _ o (fun z => zo _ z (.inr ⟨x, k, q⟩)) ho, hd⟩, fun av p => let ⟨v, e, i⟩ := h2 av p; ⟨v, e, i.pass pass⟩⟩
  · intro x av k q
    obtain ⟨c, v, hc, ⟨o, ho, hd⟩, nx, hi⟩ := a.fre x av k q
    exact ⟨c, v, hc, ⟨o, (pass c o nx ho).2, hd⟩, (pass c o nx ho).1, hi.pass pass⟩
/-- the heap changes at most at Z, addresses that may change, off the own ones; new X' -/
theorem Act.move (a : Act w Y X s₀ env ρ W s) {X' : Addr → Prop} {W' : Res} {h' : Heap} {tk : Nat} (Z : Addr → Prop)
    (hz : ∀ b o, ¬ Z b → s.heap.get? b = some o → h'.get? b = some o) (zx : ∀ b, Z b → X b) (zo : ∀ b, Z b → ¬ Own env b) (zy : ∀ b, Z b → Y b ∨ s₀.heap.get? b = none)
    (xx : ∀ b, X b → X' b) (xn : ∀ b, X' b → X b ∨ s.heap.get? b = none) (xi : ∀ b, X' b → ¬ X b ∨ Z b → ∃ o, h'.get? b = some o)
    (wf : ∀ b, W'.fp b → X' b ∧ ¬ Own env b ∧ (Y b ∨ s₀.heap.get? b = none)) (wh : W'.holds X' h') : Act w Y X' s₀ env ρ W' { s with heap := h', toks := tk } := by
  have pass : Passes X s.heap X' h' := fun b o nx e => ⟨fun x' => (xn b x').elim nx (fun q => by rw [q] at e; cases e), hz b o (fun q => nx (zx b q)) e⟩
  refine a.move0 Z hz zo zy pass (fun b hb => xx b (a.own b hb)) (fun b hb => xx b (a.yx b hb)) (fun b hb => ?_) wf wh
  by_cases q : X b
  · by_cases z : Z b
    · exact xi b hb (.inr z)
    · obtain ⟨o, e⟩ := a.xin b q
      exact ⟨o, hz b o z e⟩
  · exact xi b hb (.inl q)
theorem Act.kp (a : Act w Y X s₀ env ρ W s) (k : Kp s s') : Act w Y X s₀ env ρ W s' := by
  obtain ⟨h', tk, rfl, e⟩ := k
  exact a.move (fun _ => False) (fun b o _ q => e b o q) (fun _ q => q.elim) (fun _ q => q.elim) (fun _ q => q.elim) (fun _ q => q) (fun _ q => .inl q) (fun b q r => (r.elim (fun n => absurd q n) (fun z => z.elim))) a.wfx (W.stable _ _ _ _ a.wh (fun b o _ q => e b o q) (.ext e))
/-- a local is stored -/
theorem Act.setL (a : Act w Y X s₀ env ρ W s) {x : Str} {v : Value} {av : AV} {h' : Heap} {tk : Nat} (hk : env.kindOf x = some .local) (hi : Is X s.heap v av)
    (hn : ∀ m, s.heap.Ns env.locals m → h'.Ns env.locals (fun y => if y = x then some v else m y)) (hs : Heap.SameBut env.locals s.heap h') : Act w Y X s₀ env ((x, av) :: ρ) W { s with heap := h', toks := tk } := by
  have nb : ∀ b o, b ≠ env.locals → s.heap.get? b = some o → h'.get? b = some o := fun b o q e => (hs.2 b q).trans e
  have pass : Passes X s.heap X h' := fun b o nx e => ⟨nx, nb b o (fun q => nx (q ▸ a.own _ (.inl rfl))) e⟩
  refine { a with same := ?_, keep := ?_, loc := ?_, cel := ?_, fre := ?_, xin := ?_, wh := ?_ }
  · obtain ⟨h, t, rfl⟩ := a.same
    exact ⟨h', tk, rfl⟩
  · intro b o ny e
    refine nb b o (fun q => ?_) (a.keep b o ny e)
    rw [a.fresh b (.inl q)] at e; cases e
  · obtain ⟨m, h1, h2⟩ := a.loc
    refine ⟨_, hn m h1, fun y av' k q => ?_⟩
    rw [List.lookup_cons] at q
    by_cases e : y = x
    · subst e
      simp only [beq_self_eq_true, Option.some.injEq] at q
      subst q
      exact ⟨v, by simp, hi.pass pass⟩
    · rw [show (y == x) = false by simpa using e] at q
      obtain ⟨u, p, i⟩ := h2 y av' k q
      exact ⟨u, by simpa [e] using p, i.pass pass⟩
  · intro y c k q
    obtain ⟨v?, ⟨o, ho, hd⟩, h2⟩ := a.cel y c k q
    refine ⟨v?, ⟨o, nb _ o (a.apart y c k q).1 ho, hd⟩, fun av' p => ?_⟩
    rw [List.lookup_cons] at p
    by_cases e : y = x
    · subst e; rw [hk] at k; cases k
    · rw [show (y == x) = false by simpa using e] at p
      obtain ⟨u, e', i⟩ := h2 av' p
      exact ⟨u, e', i.pass pass⟩
  · intro y av' k p
    rw [List.lookup_cons] at p
    by_cases e : y = x
    · subst e; rw [hk] at k; cases k
    · rw [show (y == x) = false by simpa using e] at p
      obtain ⟨c, u, hc, ⟨o, ho, hd⟩, nx, i⟩ := a.fre y av' k p
      exact ⟨c, u, hc, ⟨o, (pass c o nx ho).2, hd⟩, nx, i.pass pass⟩
  · intro b hb
    by_cases q : b = env.locals
    · obtain ⟨m, h1, _⟩ := a.loc
      obtain ⟨o, _, _, e, _⟩ := hn m h1
      exact ⟨o, q ▸ e⟩
    · obtain ⟨o, e⟩ := a.xin b hb
      exact ⟨o, nb b o q e⟩
  · exact W.stable _ _ _ _ a.wh (fun b o f e => nb b o (fun q => (a.wfx b f).2.1 (.inl q)) e) pass
/-- a cell is stored -/
theorem Act.setC (a : Act w Y X s₀ env ρ W s) {x : Str} {c : Addr} {v : Value} {av : AV} {h' : Heap} {tk : Nat} (hk : env.kindOf x = some .cell) (hc : env.cells.lookup x = some c) (hi : Is X s.heap v av)
    (hn : h'.IsCell c (some v)) (hs : Heap.SameBut c s.heap h') : Act w Y X s₀ env ((x, av) :: ρ) W { s with heap := h', toks := tk } := by
  have oc : Own env c := .inr ⟨x, hk, hc⟩
  have nb : ∀ b o, b ≠ c → s.heap.get? b = some o → h'.get? b = some o := fun b o q e => (hs.2 b q).trans e
  have pass : Passes X s.heap X h' := fun b o nx e => ⟨nx, nb b o (fun q => nx (q ▸ a.own _ oc)) e⟩
  refine { a with same := ?_, keep := ?_, loc := ?_, cel := ?_, fre := ?_, xin := ?_, wh := ?_ }
  · obtain ⟨h, t, rfl⟩ := a.same
    exact ⟨h', tk, rfl⟩
  · intro b o ny e
    refine nb b o (fun q => ?_) (a.keep b o ny e)
    rw [a.fresh b (q ▸ oc)] at e; cases e
  · obtain ⟨m, h1, h2⟩ := a.loc
    refine ⟨m, h1.at' fun o e => nb _ o (Ne.symm (a.apart x c hk hc).1) e, fun y av' k q => ?_⟩
    rw [List.lookup_cons] at q
    by_cases e : y = x
    · subst e; rw [hk] at k; cases k
    · rw [show (y == x) = false by simpa using e] at q
      obtain ⟨u, p, i⟩ := h2 y av' k q
      exact ⟨u, p, i.pass pass⟩
  · intro y c' k q
    by_cases e : y = x
    · subst e
      rw [hc] at q; cases q
      refine ⟨some v, hn, fun av' p => ?_⟩
      rw [List.lookup_cons] at p
      simp only [beq_self_eq_true, Option.some.injEq] at p
      subst p
      exact ⟨v, rfl, hi.pass pass⟩
    · obtain ⟨v?, ⟨o, ho, hd⟩, h2⟩ := a.cel y c' k q
      refine ⟨v?, ⟨o, nb _ o (fun z => e ((a.apart x c hk hc).2 y k (z ▸ q))) ho, hd⟩, fun av' p => ?_⟩
      rw [List.lookup_cons, show (y == x) = false by simpa using e] at p
      obtain ⟨u, e', i⟩ := h2 av' p
      exact ⟨u, e', i.pass pass⟩
  · intro y av' k p
    rw [List.lookup_cons] at p
    by_cases e : y = x
    · subst e; rw [hk] at k; cases k
    · rw [show (y == x) = false by simpa using e] at p
      obtain ⟨c', u, hc', ⟨o, ho, hd⟩, nx, i⟩ := a.fre y av' k p
      exact ⟨c', u, hc', ⟨o, (pass c' o nx ho).2, hd⟩, nx, i.pass pass⟩
  · intro b hb
    by_cases q : b = c
    · obtain ⟨o, e, _⟩ := hn
      exact ⟨o, q ▸ e⟩
    · obtain ⟨o, e⟩ := a.xin b hb
      exact ⟨o, nb b o q e⟩
  · exact W.stable _ _ _ _ a.wh (fun b o f e => nb b o (fun q => (a.wfx b f).2.1 (q ▸ oc)) e) pass
end

section
variable {w : World} {A : Around} {Y X : Addr → Prop} {s₀ : Shared} {env : Env} {ρ : Rho} {W : Res} {s : Shared} {Q : Flow → Shared → Prop} {E : Value → Shared → Prop}
/-- how a name is bound in env: local, or a cell -/
def Bindable (env : Env) (x : Str) : Bool := env.kindOf x == some .local || (env.kindOf x == some .cell && (env.cells.lookup x).isSome)
theorem x_store {x : Str} {v : Value} {av : AV} {Q : Unit → Shared → Prop} (a : Act w Y X s₀ env ρ W s) (hi : Is X s.heap v av) (hf : env.scope.kind = .function) (hb : Bindable env x = true)
    (k : ∀ s', Act w Y X s₀ env ((x, av) :: ρ) W s' → Q () s') : wpAny (model PR w) A (storeName env x v) Q E s := by
  have hp : (env.scope.kind == .class || (env.scope.kind == .module && env.locals != env.globals)) = false := by rw [hf]; rfl
  unfold Bindable at hb
  rcases Bool.or_eq_true_iff.mp hb with hl | hl
  · have hl := beq_iff_eq.mp hl
    obtain ⟨m, hn, _⟩ := a.loc
    refine wpAny_storeName_local hl hn (fun h' hn' hs' => ?_) hp
    refine k _ (a.setL hl hi (fun m' hm' => ?_) hs')
    have : m' = m := by
      funext y
      obtain ⟨o, es, ep, h1, h2, _, h3⟩ := hn
      obtain ⟨o', es', ep', h1', h2', _, h3'⟩ := hm'
      rw [h1] at h1'; cases h1'
      rw [h2] at h2'; cases h2'
      rw [← h3, ← h3']
    exact this ▸ hn'
  · obtain ⟨hl, hc⟩ := Bool.and_eq_true_iff.mp hl
    have hl := beq_iff_eq.mp hl
    obtain ⟨c, hc⟩ := Option.isSome_iff_exists.mp hc
    obtain ⟨v?, hcv, _⟩ := a.cel x c hl hc
    exact wpAny_storeName_cell hf hl hc hcv fun h' hc' hs' => k _ (a.setC hl hc hi hc' hs')
theorem x_assign {x : Str} {p p' : Pos} {e : Expr} {rest : List Stmt} {av : AV} (a : Act w Y X s₀ env ρ W s) (he : Ev w A env X s.heap e av) (hf : env.scope.kind = .function) (hb : Bindable env x = true)
    (hs : swapsWith e (some (.Name x p)) p'.line env = pure false) (k : ∀ s', Act w Y X s₀ env ((x, av) :: ρ) W s' → wpAny (model PR w) A (execs rest env) Q E s') :
    wpAny (model PR w) A (execs (.Assign [.Name x p] e p' :: rest) env) Q E s := by
  with_reducible refine wpAny_execs_cons (wpAny_Assign_Name (he.run s _ _ (Ext.refl _) fun v s₁ k₁ i₁ => ?_) hs)
  exact x_store (a.kp k₁) i₁ hf hb fun s' a' => k s' a'
theorem ld_run {x : Str} {v : Value} {Q : Value → Shared → Prop} (hf : env.scope.kind = .function) (hv : VarIs env s.heap x v) (hc : (x == ("__classdict__" : Str)) = false) (h : Q v s) : wpAny (model PR w) A (loadName env x) Q E s := by
  rcases hv with ⟨hl, m, hn, hm⟩ | ⟨hl, c, hcl, hcv⟩
  · with_reducible exact wpAny_loadName_local hf hl hn hm h
  · rcases hl with hl | hl
    · with_reducible exact wpAny_loadName_cell hf hl hcl hcv h
    · with_reducible exact wpAny_loadName_free hf hl hcl hcv h hc
def Known (env : Env) (x : Str) : Bool := env.kindOf x == some .local || (env.kindOf x == some .cell && (env.cells.lookup x).isSome) || env.kindOf x == some .free
theorem Act.var' (a : Act w Y X s₀ env ρ W s) {x : Str} {av : AV} (e : ρ.lookup x = some av) (hk : Known env x = true) : ∃ v, VarIs env s.heap x v ∧ Is X s.heap v av := by
  refine a.var e ?_
  unfold Known at hk
  rcases Bool.or_eq_true_iff.mp hk with hk | hk
  · rcases Bool.or_eq_true_iff.mp hk with hk | hk
    · exact .inl (beq_iff_eq.mp hk)
    · obtain ⟨h1, h2⟩ := Bool.and_eq_true_iff.mp hk
      exact .inr (.inl ⟨beq_iff_eq.mp h1, h2⟩)
  · exact .inr (.inr (beq_iff_eq.mp hk))
theorem Act.ev (a : Act w Y X s₀ env ρ W s) {x : Str} {p : Pos} {av : AV} (e : ρ.lookup x = some av) (hf : env.scope.kind = .function) (hk : Known env x = true) (hd : (x == ("__debug__" : Str)) = false) (hc : (x == ("__classdict__" : Str)) = false) :
    Ev w A env X s.heap (.Name x p) av := let ⟨_, hv, hi⟩ := a.var' e hk; Ev.var hf hv hi hd hc
theorem x_aug {x : Str} {p p' : Pos} {op : Operator} {e : Expr} {rest : List Stmt} {o av r : AV} (a : Act w Y X s₀ env ρ W s) (hn : ρ.lookup x = some o) (he : Ev w A env X s.heap e av) (ho : Op2 w A X (inplaceOp op) o av r)
    (hf : env.scope.kind = .function) (hb : Bindable env x = true) (hc : (x == ("__classdict__" : Str)) = false)
    (k : ∀ s', Act w Y X s₀ env ((x, r) :: ρ) W s' → wpAny (model PR w) A (execs rest env) Q E s') :
    wpAny (model PR w) A (execs (.AugAssign (.Name x p) op e p' :: rest) env) Q E s := by
  have hkn : Known env x = true := by unfold Known; unfold Bindable at hb; rw [hb]; rfl
  obtain ⟨v, hv, hi⟩ := a.var' hn hkn
  with_reducible refine wpAny_execs_cons (wpAny_AugAssign_Name (ld_run hf hv hc (he.run s _ _ (Ext.refl _) fun u s₂ k₂ i₂ => ho.run s₂ v u _ _ (hi.ext k₂.ext) i₂ fun r s₃ k₃ i₃ => ?_)))
  exact x_store (a.kp (k₂.trans k₃)) i₃ hf hb fun s' a' => k s' a'
theorem x_if {t : Expr} {p : Pos} {b o rest : List Stmt} {c : Bool} (a : Act w Y X s₀ env ρ W s) (ht : EvT w A env s.heap t c)
    (kt : c = true → ∀ s', Act w Y X s₀ env ρ W s' → wpAny (model PR w) A (execs b env) (fun f s₂ => match f with | .next => wpAny (model PR w) A (execs rest env) Q E s₂ | f => Q f s₂) E s')
    (kf : c = false → ∀ s', Act w Y X s₀ env ρ W s' → wpAny (model PR w) A (execs o env) (fun f s₂ => match f with | .next => wpAny (model PR w) A (execs rest env) Q E s₂ | f => Q f s₂) E s') :
    wpAny (model PR w) A (execs (.If t b o p :: rest) env) Q E s := by
  with_reducible refine wpAny_execs_cons (wpAny_If (ht.run s _ _ (Ext.refl _) fun s₁ k₁ => ?_))
  cases c
  · exact kf rfl s₁ (a.kp k₁)
  · exact kt rfl s₁ (a.kp k₁)
theorem x_nil (h : Q .next s) : wpAny (model PR w) A (execs [] env) Q E s := wpAny_execs_nil h
theorem x_ret {e : Expr} {p : Pos} {rest : List Stmt} {av : AV} (a : Act w Y X s₀ env ρ W s) (he : Ev w A env X s.heap e av) (k : ∀ v s', Act w Y X s₀ env ρ W s' → Is X s'.heap v av → Q (.ret v) s') :
    wpAny (model PR w) A (execs (.Return (some e) p :: rest) env) Q E s := by
  with_reducible refine wpAny_execs_cons (wpAny_Return_some (he.run s _ _ (Ext.refl _) fun v s₁ k₁ i₁ => ?_))
  exact k v s₁ (a.kp k₁) i₁
theorem x_cont {p : Pos} {rest : List Stmt} (h : Q .cont s) : wpAny (model PR w) A (execs (.Continue p :: rest) env) Q E s := by
  with_reducible refine wpAny_execs_cons (wpAny_Continue ?_)
  exact h
end
end
section

open PySem PySem.W PyProof PyProof.Rows
/-- a text by its signs -/
abbrev S (l : List Nat) : Str := ⟨l.toArray⟩
theorem S_len (l : List Nat) : (S l).length = l.length := by simp [Str.length]
theorem S_app (l r : List Nat) : S l ++ S r = S (l ++ r) := by
  show Str.append (S l) (S r) = _
  simp [Str.append, S]
theorem S_inj {l r : List Nat} (e : S l = S r) : l = r := by
  have := congrArg (fun x : Str => x.cps.toList) e
  simpa [S] using this
theorem S_beq (l r : List Nat) : (S l == S r) = (l == r) := by
  rw [Bool.eq_iff_iff, beq_iff_eq, beq_iff_eq]
  exact ⟨S_inj, fun e => by rw [e]⟩
theorem S_bne (l r : List Nat) : (S l != S r) = (l != r) := by unfold bne; rw [S_beq]
theorem S_slice {l : List Nat} {a b : Nat} (h1 : a ≤ b) (h2 : b ≤ l.length) : Txt.slice (S l) (some (a : Int)) (some (b : Int)) = S ((l.drop a).take (b - a)) := by
  have := beq_iff_eq.mp (slice_closesL (x := S l) (i := a) (j := b) (by omega) (by omega) (by rw [S_len]; omega))
  rw [this]
  simp [S, show ((b : Int) - (a : Int)).toNat = b - a by omega]
theorem S_sliceTo {l : List Nat} {b : Nat} (h2 : b ≤ l.length) : Txt.slice (S l) none (some (b : Int)) = S (l.take b) := by
  have := beq_iff_eq.mp (slice_closes_toL (x := S l) (j := b) (by omega) (by rw [S_len]; omega))
  rw [this]
  simp [S]
theorem S_sliceFrom {l : List Nat} {a : Nat} (h2 : a ≤ l.length) : Txt.slice (S l) (some (a : Int)) none = S (l.drop a) := by
  have := beq_iff_eq.mp (slice_closes_fromL (x := S l) (i := a) (b := (l.length : Int)) (by omega) (by rw [S_len]; omega) (by rw [S_len]))
  rw [this]
  have e : ((l.length : Int) - (a : Int)).toNat = l.length - a := by omega
  simp only [S, e, Int.toNat_natCast]
  rw [List.take_of_length_le (by simp)]
theorem S_in (c : Nat) (l : List Nat) : inS (S [c]) (S l) = decide (c ∈ l) := by
  have := StrLaws.found_one (S l) c
  unfold inS
  rw [show S [c] = ⟨#[c]⟩ from rfl, this]

theorem IsL.one {X : Addr → Prop} {h : Heap} {vs : List Value} {a : AV} (i : IsL X h vs [a]) : ∃ v, vs = [v] ∧ Is X h v a := by
  cases i with
  | cons x r => cases r; exact ⟨_, rfl, x⟩
theorem IsL.two {X : Addr → Prop} {h : Heap} {vs : List Value} {a b : AV} (i : IsL X h vs [a, b]) : ∃ v u, vs = [v, u] ∧ Is X h v a ∧ Is X h u b := by
  cases i with
  | cons x r => obtain ⟨u, rfl, y⟩ := r.one; exact ⟨_, u, rfl, x, y⟩
theorem seqIndex_nat {k n : Nat} (h : k < n) : seqIndex? (k : Int) n = some k := by
  unfold seqIndex?
  have h1 : ¬ ((k : Int) < 0) := by omega
  simp only [h1, if_false]
  have h2 : (decide (0 ≤ (k : Int)) && decide ((k : Int) < (n : Int))) = true := by
    rw [decide_eq_true (by omega), decide_eq_true (by omega)]; rfl
  rw [if_pos h2]
  simp
/-- every address of X is taken in h -/
def XIn (X : Addr → Prop) (h : Heap) : Prop := ∀ b, X b → ∃ o, h.get? b = some o
theorem XIn.ext {X : Addr → Prop} {h h' : Heap} (x : XIn X h) (e : Ext h h') : XIn X h' := fun b q => let ⟨o, p⟩ := x b q; ⟨o, e b o p⟩
theorem XIn.fresh {X : Addr → Prop} {h : Heap} (x : XIn X h) {b : Addr} (hb : h.objs.size ≤ b) : ¬ X b := fun q => by
  obtain ⟨o, e⟩ := x b q
  exact absurd (Heap.lt_size e) (Nat.not_lt.mpr hb)
theorem Act.xIn {w : World} {Y X : Addr → Prop} {s₀ : Shared} {env : Env} {ρ : Rho} {W : Res} {s : Shared} (a : Act w Y X s₀ env ρ W s) : XIn X s.heap := a.xin

section
variable (w : World) (A : Around) (env : Env) (X : Addr → Prop) (h : Heap)
structure EvL (p : Pos) (es : List Expr) (avs : List AV) : Prop where
  run : ∀ (s : Shared) (Q : List Value → Shared → Prop) (E : Value → Shared → Prop), Ext h s.heap →
    (∀ vs s', Kp s s' → IsL X s'.heap vs avs → Q vs s') → wpAny (model PR w) A (spliced (backTo p (starEach es env))) Q E s
end
/-- a call of value f at data avs -/
structure CallIs (w : World) (A : Around) (X : Addr → Prop) (h : Heap) (f : Value) (avs : List AV) (r : AV) : Prop where
  run : ∀ (s : Shared) (vs : List Value) (Q : Value → Shared → Prop) (E : Value → Shared → Prop), Ext h s.heap → IsL X s.heap vs avs →
    (∀ u s', Kp s s' → Is X s'.heap u r → Q u s') → wpAny (model PR w) A (call f vs) Q E s
section
variable {w : World} {A : Around} {env : Env} {X : Addr → Prop} {h : Heap}
theorem EvL.nil {p : Pos} : EvL w A env X h p [] [] := ⟨fun s _ _ _ hQ => by
  with_reducible exact args_nil (hQ [] s (Kp.refl s) .nil)⟩
theorem EvL.cons {p : Pos} {e : Expr} {es : List Expr} {v : AV} {vs : List AV} (x : Ev w A env X h e v) (y : EvL w A env X h p es vs) (he : starEach (e :: es) env = (false, eval e env) :: starEach es env) : EvL w A env X h p (e :: es) (v :: vs) := ⟨fun s _ _ hs hQ => by
  with_reducible exact args_cons (x.run s _ _ hs fun v s₁ k₁ i₁ => y.run s₁ _ _ (hs.trans k₁.ext) fun vs s₂ k₂ i₂ => hQ _ s₂ (k₁.trans k₂) (.cons (i₁.ext k₂.ext) i₂)) he⟩
theorem Ev.tup {es : List Expr} {k : Nat} {p : Pos} {vs : List AV} (y : EvL w A env X h p es vs) (xi : XIn X h) (hz : vs.length ≤ 1000) : Ev w A env X h (.Tuple es k p) (.tup vs) := ⟨fun s _ _ hs hQ => by
  with_reducible refine Tuple_ (y.run s _ _ hs fun vs s₁ k₁ i₁ => ?_)
  have e := Ext.push s₁.heap { cls := .type "tuple", data := .seq vs.toArray }
  unfold newTuple
  with_reducible refine wpAny_newObj_type ?_ ?_
  · exact hQ _ _ (k₁.trans (Kp.mk e)) (.tup (n := 0) (Heap.get?_push_size _ rfl) (XIn.fresh (xi.ext (hs.trans k₁.ext)) (Nat.le_refl _)) (i₁.ext e))
  · show vs.toArray.size ≤ sizeLine
    rw [List.size_toArray, i₁.length, sizeLine_eq]; omega⟩
theorem Ev.lst {es : List Expr} {p : Pos} {vs : List AV} (y : EvL w A env X h p es vs) (xi : XIn X h) (hz : vs.length ≤ 1000) : Ev w A env X h (.List es p) (.lst vs) := ⟨fun s _ _ hs hQ => by
  with_reducible refine List_ (y.run s _ _ hs fun vs s₁ k₁ i₁ => ?_)
  have e := Ext.push s₁.heap { cls := .type "list", data := .seq vs.toArray }
  unfold newList
  with_reducible refine wpAny_newObj_type ?_ ?_
  · exact hQ _ _ (k₁.trans (Kp.mk e)) (.lst (n := 0) (Heap.get?_push_size _ rfl) (XIn.fresh (xi.ext (hs.trans k₁.ext)) (Nat.le_refl _)) (i₁.ext e))
  · show vs.toArray.size ≤ sizeLine
    rw [List.size_toArray, i₁.length, sizeLine_eq]; omega⟩
-- calls
theorem Ev.callB {f e : Expr} {es : List Expr} {p : Pos} {id : String} {avs : List AV} {r : AV} (x : Ev w A env X h f (.raw (.builtin id))) (y : EvL w A env X h p (e :: es) avs) (z : CallIs w A X h (.builtin id) avs r)
    (hc : eval (.Call f (e :: es) [] p) env = (do callWith p (← eval f env) [] (backTo p (starEach (e :: es) env)) (backToKw p (keywordEach [] env))))
    (he : starEach (e :: es) env = (false, eval e env) :: starEach es env) (hp : (backTo p (starEach es env)).any (·.1) = false) : Ev w A env X h (.Call f (e :: es) [] p) r := ⟨fun s _ _ hs hQ => by
  with_reducible refine Call_ (x.run s _ _ hs fun v s₁ k₁ i₁ => ?_) hc
  cases i₁
  with_reducible exact callWith_builtin1 (y.run s₁ _ _ (hs.trans k₁.ext) fun vs s₂ k₂ i₂ => z.run s₂ vs _ _ (hs.trans (k₁.trans k₂).ext) i₂ fun u s₃ k₃ i₃ => hQ u s₃ (k₁.trans (k₂.trans k₃)) i₃) he hp⟩
theorem Ev.callF {f e : Expr} {es : List Expr} {p : Pos} {a : Addr} {o : Obj} {fd : FuncData} {avs : List AV} {r : AV} (x : Ev w A env X h f (.raw (.ref a))) (ho : h.get? a = some o) (hd : o.data = .func fd) (y : EvL w A env X h p (e :: es) avs) (z : CallIs w A X h (.ref a) avs r)
    (hc : eval (.Call f (e :: es) [] p) env = (do callWith p (← eval f env) [] (backTo p (starEach (e :: es) env)) (backToKw p (keywordEach [] env))))
    (he : starEach (e :: es) env = (false, eval e env) :: starEach es env) : Ev w A env X h (.Call f (e :: es) [] p) r := ⟨fun s _ _ hs hQ => by
  with_reducible refine Call_ (x.run s _ _ hs fun v s₁ k₁ i₁ => ?_) hc
  cases i₁
  with_reducible refine callWith_def (o := o) hd (y.run s₁ _ _ (hs.trans k₁.ext) fun vs s₂ k₂ i₂ => ⟨?_, ?_⟩) he
  · have e : Ext h s₂.heap := hs.trans (k₁.trans k₂).ext
    exact e _ _ ho
  exact z.run s₂ vs _ _ (hs.trans (k₁.trans k₂).ext) i₂ fun u s₃ k₃ i₃ => hQ u s₃ (k₁.trans (k₂.trans k₃)) i₃⟩
theorem CallIs.len_str {x : Str} (hz : x.length ≤ 1000000) : CallIs w A X h (.builtin "len") [.str x] (.nat x.length) := ⟨fun s vs Q E _ i hQ => by
  obtain ⟨v, rfl, j⟩ := i.one; cases j
  with_reducible refine PyProof.Rows.len_str (by omega) ?_
  exact hQ _ _ (Kp.tok s _) (.int _ _)⟩
theorem CallIs.ord {c : Nat} : CallIs w A X h (.builtin "ord") [.str (S [c])] (.nat c) := ⟨fun s vs Q E _ i hQ => by
  obtain ⟨v, rfl, j⟩ := i.one; cases j
  have e : (S [c]).length = 1 := S_len [c]
  with_reducible refine PyProof.Rows.ord_of_one e ?_
  exact hQ _ _ (Kp.tok s _) (.int _ _)⟩
theorem CallIs.chr {c : Nat} (hc : c < 256) : CallIs w A X h (.builtin "chr") [.nat c] (.str (S [c])) := ⟨fun s vs Q E _ i hQ => by
  obtain ⟨v, rfl, j⟩ := i.one; cases j
  with_reducible refine PyProof.Rows.chr_of_range (by omega) (by omega) ?_
  exact hQ _ _ (Kp.tok s _) (.str _ _)⟩
-- subscripts
theorem Ev.strItem {v i : Expr} {p : Pos} {l : List Nat} {k c : Nat} (x : Ev w A env X h v (.str (S l))) (y : Ev w A env X h i (.nat k)) (hk : l[k]? = some c) (hz : l.length ≤ 1000000)
    (hs : ∀ o j, subscripted i false o j = operate [o, j] (getItem o j)) : Ev w A env X h (.Subscript v i p) (.str (S [c])) := ⟨fun s _ _ hh hQ => by
  with_reducible refine Subscript_ (x.run s _ _ hh fun v s₁ k₁ i₁ => y.run s₁ _ _ (hh.trans k₁.ext) fun u s₂ k₂ i₂ => ?_)
  cases i₁; cases i₂
  obtain ⟨hl, hc⟩ := List.getElem?_eq_some_iff.mp hk
  with_reducible refine tail_any (typeIs_str _ _ _) F.slot_str_getitem.lookup ?_ (hs _ _)
  refine PyProof.Rows.getItem_str ?_ ?_ (hQ _ _ (k₁.trans (k₂.trans (Kp.tok s₂ _))) (.str _ _))
  · rw [decide_eq_false (by omega), decide_eq_false (by omega)]; rfl
  · rw [S_len, seqIndex_nat hl]
    simpa [S] using hk⟩
theorem Ev.lstItem {v i : Expr} {p : Pos} {l : List AV} {k : Nat} {d : AV} (x : Ev w A env X h v (.lst l)) (y : Ev w A env X h i (.nat k)) (hk : l[k]? = some d) (hz : l.length ≤ 1000000)
    (hs : ∀ o j, subscripted i false o j = operate [o, j] (getItem o j)) : Ev w A env X h (.Subscript v i p) d := ⟨fun s _ _ hh hQ => by
  with_reducible refine Subscript_ (x.run s _ _ hh fun v s₁ k₁ i₁ => y.run s₁ _ _ (hh.trans k₁.ext) fun u s₂ k₂ i₂ => ?_)
  obtain ⟨hl, hc⟩ := List.getElem?_eq_some_iff.mp hk
  replace i₁ := i₁.ext k₂.ext
  cases i₂
  cases i₁ with | lst e nx r =>
  rename_i a vs n
  obtain ⟨u, hu, iu⟩ := r.get hk
  have hL : s₂.heap.IsList a vs.toArray := ⟨_, e, rfl, n, rfl⟩
  with_reducible refine tail_any hL.typeIs slot_list_getitem.lookup ?_ (hs _ _)
  with_reducible refine wpAny_getItem_list hL (by omega) (by omega) (by simpa using hu) ?_
  exact hQ _ _ (k₁.trans k₂) iu⟩
theorem Ev.tupItem {v i : Expr} {p : Pos} {l : List AV} {k : Nat} {d : AV} (x : Ev w A env X h v (.tup l)) (y : Ev w A env X h i (.nat k)) (hk : l[k]? = some d) (hz : l.length ≤ 1000000)
    (hs : ∀ o j, subscripted i false o j = operate [o, j] (getItem o j)) : Ev w A env X h (.Subscript v i p) d := ⟨fun s _ _ hh hQ => by
  with_reducible refine Subscript_ (x.run s _ _ hh fun v s₁ k₁ i₁ => y.run s₁ _ _ (hh.trans k₁.ext) fun u s₂ k₂ i₂ => ?_)
  obtain ⟨hl, hc⟩ := List.getElem?_eq_some_iff.mp hk
  replace i₁ := i₁.ext k₂.ext
  cases i₂
  cases i₁ with | tup e nx r =>
  rename_i a vs n
  obtain ⟨u, hu, iu⟩ := r.get hk
  have hL : IsTup s₂.heap a vs.toArray := ⟨_, e, rfl, n, rfl⟩
  have hlen := r.length
  with_reducible refine tail_any hL.typeIs slot_tuple_getitem.lookup ?_ (hs _ _)
  with_reducible refine PyProof.Rows.getItem_tuple (j := k) hL (by omega) (by omega) ?_ (by simpa using hu) ?_
  · rw [List.size_toArray, hlen, seqIndex_nat hl]
  · exact hQ _ _ (k₁.trans k₂) iu⟩
end
end
section

open PySem PySem.W PyProof PyProof.Rows

/-- it, made since s, hands out the items, one by one -/
structure IterAt (w : World) (A : Around) (X : Addr → Prop) (s s' : Shared) (it : Value) (items : List AV) : Prop where
  ex : ∃ (I : Addr) (fp wr : List Addr) (P : Nat → Value → Prop) (St : Nat → Heap → Prop), it = .ref I ∧ Walks PR w A I fp wr items.length P St ∧ St 0 s'.heap ∧
    (∀ i v, i < items.length → P i v → ∃ d, items[i]? = some d ∧ Is (fun b => X b ∨ b ∈ wr) s'.heap v d) ∧ (∀ b ∈ wr, s.heap.get? b = none) ∧ (∀ b ∈ wr, ∃ o, s'.heap.get? b = some o) ∧
    (∀ i h, St i h → ∀ b ∈ wr, ∃ o, h.get? b = some o) ∧ (∀ b ∈ fp, b ∈ wr ∨ (¬ X b ∧ b ∉ wr ∧ ∃ o, s'.heap.get? b = some o)) ∧
    ∀ i h, St i h → ∃ o, h.get? I = some o ∧ (o.cls = .type "list_iterator" ∨ o.cls = .type "range_iterator" ∨ o.cls = .type "str_ascii_iterator" ∨ o.cls = .type "str_iterator")
section
variable (w : World) (A : Around) (env : Env) (X : Addr → Prop) (h : Heap)
structure EvIt (e : Expr) (items : List AV) : Prop where
  run : ∀ (s : Shared) (Q : Value → Shared → Prop) (E : Value → Shared → Prop), Ext h s.heap →
    (∀ it s', Kp s s' → IterAt w A X s s' it items → Q it s') → wpAny (model PR w) A (eval e env) (fun v s₁ => wpAny (model PR w) A (pyIter v) Q E s₁) E s
end
section
variable {w : World} {A : Around} {env : Env} {X : Addr → Prop} {h : Heap}
theorem EvIt.up {h' : Heap} {e : Expr} {l : List AV} (x : EvIt w A env X h e l) (k : Ext h h') : EvIt w A env X h' e l := ⟨fun s Q E hs hQ => x.run s Q E (k.trans hs) hQ⟩
theorem EvIt.cast {e : Expr} {l l' : List AV} (x : EvIt w A env X h e l) (k : l = l') : EvIt w A env X h e l' := k ▸ x
theorem fresh_none {s s' : Shared} (k : Kp s s') {b : Addr} (hb : s'.heap.objs.size ≤ b) : s.heap.get? b = none := by
  cases e : s.heap.get? b with
  | none => rfl
  | some o => exact absurd (Heap.lt_size (k.ext b o e)) (Nat.not_lt.mpr hb)
theorem EvIt.lst {e : Expr} {l : List AV} (hh : A.handled = none) (x : Ev w A env X h e (.lst l)) : EvIt w A env X h e l := ⟨fun s Q E hs hQ => by
  refine x.run s _ _ hs fun v s₁ k₁ i₁ => ?_
  cases i₁ with | lst e nx r =>
  rename_i a vs n
  have hL : s₁.heap.IsList a vs.toArray := ⟨_, e, rfl, n, rfl⟩
  with_reducible refine wpAny_pyIter_list hL ?_
  have ext := Ext.push s₁.heap { cls := .type "list_iterator", data := .fields #[.ref a, .int 0 0] }
  have hne : a ≠ s₁.heap.objs.size := Nat.ne_of_lt (Heap.lt_size e)
  have hlen := r.length
  have W := Walks.list (prog := PR) (w := w) hh s₁.heap.objs.size a hne vs.toArray
  have hsz : vs.toArray.size = l.length := by rw [List.size_toArray, hlen]
  rw [hsz] at W
  refine hQ _ _ (k₁.trans (Kp.mk ext)) ⟨_, _, _, _, _, rfl, W, ⟨⟨_, Heap.get?_push_size _ rfl, rfl, rfl⟩, ⟨_, ext _ _ e, rfl, n, rfl⟩⟩, ?_, ?_, ?_, ?_, ?_, fun i h st => let ⟨⟨o, ho, hc, _⟩, _⟩ := st; ⟨o, ho, .inl hc⟩⟩
  · intro i v _ hv
    obtain ⟨d, hd, id⟩ := r.get' (i := i) (v := v) (by simpa using hv)
    refine ⟨d, hd, id.pass fun b o nx e => ⟨fun q => q.elim nx fun q => ?_, ext b o e⟩⟩
    have := Heap.lt_size e
    rw [List.mem_singleton.mp q] at this
    exact Nat.lt_irrefl _ this
  · intro b hb
    rw [List.mem_singleton.mp hb]
    exact fresh_none k₁ (Nat.le_refl _)
  · intro b hb
    rw [List.mem_singleton.mp hb]
    exact ⟨_, Heap.get?_push_size _ rfl⟩
  · intro i h st b hb
    obtain ⟨⟨o, ho, _⟩, _⟩ := st
    rw [List.mem_singleton.mp hb]
    exact ⟨o, ho⟩
  · intro b hb
    rcases List.mem_cons.mp hb with rfl | hb
    · exact .inl (List.mem_singleton.mpr rfl)
    · rw [List.mem_singleton.mp hb]; exact .inr ⟨nx, fun q => hne (List.mem_singleton.mp q), _, ext _ _ e⟩⟩
theorem EvIt.str {e : Expr} {l : List Nat} (hh : A.handled = none) (x : Ev w A env X h e (.str (S l))) : EvIt w A env X h e (l.map fun c => .str (S [c])) := ⟨fun s Q E hs hQ => by
  refine x.run s _ _ hs fun v s₁ k₁ i₁ => ?_
  cases i₁
  rename_i t
  refine wpAny_pyIter_str' hh fun o St W hst hw => ?_
  have ext := Ext.push s₁.heap o
  have ho : ∃ o', (s₁.heap.push o).get? s₁.heap.objs.size = some o' := let ⟨o', e, _⟩ := hw 0 _ hst; ⟨o', e⟩
  refine hQ _ _ (k₁.trans (Kp.mk ext)) ⟨_, _, _, _, _, rfl, (by rw [List.length_map]; simpa [S] using W), hst, ?_, ?_, ?_, ?_, ?_, ?_⟩
  · rintro i v _ ⟨c, u, hc, rfl⟩
    refine ⟨.str (S [c]), ?_, .str _ _⟩
    rw [List.getElem?_map]
    have : l[i]? = some c := by simpa [S] using hc
    rw [this]; rfl
  · intro b hb
    rw [List.mem_singleton.mp hb]
    exact fresh_none k₁ (Nat.le_refl _)
  · intro b hb
    rw [List.mem_singleton.mp hb]
    exact ho
  · intro i h st b hb
    rw [List.mem_singleton.mp hb]
    exact let ⟨o', e, _⟩ := hw i h st; ⟨o', e⟩
  · intro b hb
    exact .inl hb
  · intro i h st
    obtain ⟨o', e', hc⟩ := hw i h st
    exact ⟨o', e', .inr (.inr hc)⟩⟩
where
  wpAny_pyIter_str' {w : World} {A : Around} {E : Value → Shared → Prop} {s : Shared} {x : Str} {t : Tok} {Q : Value → Shared → Prop} (hh : A.handled = none)
      (hQ : ∀ (o : Obj) (St : Nat → Heap → Prop), Walks PR w A s.heap.objs.size [s.heap.objs.size] [s.heap.objs.size] x.cps.size (SignAt x) St → St 0 (s.heap.push o) →
        (∀ i h, St i h → ∃ o', h.get? s.heap.objs.size = some o' ∧ (o'.cls = .type "str_ascii_iterator" ∨ o'.cls = .type "str_iterator")) →
        Q (.ref s.heap.objs.size) { s with heap := s.heap.push o }) : wpAny (model PR w) A (pyIter (.str x t)) Q E s := by
    cases ha : x.cps.all (· < 128)
    · refine wpAny_pyIter_wide ha (hQ _ _ (Walks.strWide hh _ x t) ⟨_, Heap.get?_push_size _ rfl, rfl, rfl⟩ ?_)
      rintro i h ⟨o, ho, hc, _⟩
      exact ⟨o, ho, .inr hc⟩
    · refine wpAny_pyIter_ascii ha (hQ _ _ (Walks.strAscii hh _ x t) ⟨_, Heap.get?_push_size _ rfl, rfl, rfl⟩ ?_)
      rintro i h ⟨o, ho, hc, _⟩
      exact ⟨o, ho, .inl hc⟩
/-- range over a, a + c, .. (n items), given the call's own step -/
theorem iter_range {a b c : Int} {n : Nat} {l : List AV} {s s₁ : Shared} {r : Addr} {t u v : Tok} {Q : Value → Shared → Prop} {E : Value → Shared → Prop} (hh : A.handled = none) (k : Kp s s₁) (hr : IsRange s₁.heap r a b c t u v)
    (hsm : Builtin.Range.small a b c = true) (hn : Builtin.Range.rangeSize a b c = (n : Int)) (hl : l.length = n) (hi : ∀ i, i < n → l[i]? = some (.int (a + (i : Int) * c)))
    (hQ : ∀ it s', Kp s s' → IterAt w A X s s' it l → Q it s') : wpAny (model PR w) A (pyIter (.ref r)) Q E s₁ := by
  with_reducible refine wpAny_pyIter_range hr hsm ?_
  have ext := Ext.push s₁.heap { cls := .type "range_iterator", data := .fields #[rawInt a, rawInt (Builtin.Range.rangeSize a b c), rawInt c] }
  have W := Walks.range (prog := PR) (w := w) hh s₁.heap.objs.size a c n
  rw [← hl] at W
  refine hQ _ _ (k.trans (Kp.mk ext)) ⟨_, _, _, _, _, rfl, W, ?_, ?_, ?_, ?_, ?_, ?_, fun i h st => ⟨_, st, .inr (.inl rfl)⟩⟩
  · show IsRangeIter _ _ _ _ _
    have := Heap.get?_push_size s₁.heap (o := { cls := .type "range_iterator", data := .fields #[rawInt a, rawInt (Builtin.Range.rangeSize a b c), rawInt c] }) rfl
    rw [hn] at this ⊢
    have e1 : a + ((0 : Nat) : Int) * c = a := by simp
    have e2 : ((l.length : Nat) : Int) - ((0 : Nat) : Int) = (n : Int) := by rw [hl]; simp
    unfold IsRangeIter
    rw [e1, e2]
    exact this
  · rintro i v hlt ⟨t, rfl⟩
    exact ⟨_, hi i (hl ▸ hlt), .int _ _⟩
  · intro b hb
    rw [List.mem_singleton.mp hb]
    exact fresh_none k (Nat.le_refl _)
  · intro b hb
    rw [List.mem_singleton.mp hb]
    exact ⟨_, Heap.get?_push_size _ rfl⟩
  · intro i h st b hb
    rw [List.mem_singleton.mp hb]
    exact ⟨_, st⟩
  · intro b hb
    exact .inl hb
theorem small_up {a b : Nat} (ha : a ≤ 1000000) (hb : b ≤ 1000000) : Builtin.Range.small (a : Int) (b : Int) 1 = true := small_one (by omega) (by omega) (by omega) (by omega)
theorem size_up {a b : Nat} (h : a ≤ b) : Builtin.Range.rangeSize (a : Int) (b : Int) 1 = ((b - a : Nat) : Int) := by
  rw [rangeSize_one]; split <;> omega
def upTo (a b : Nat) : List AV := (List.range (b - a)).map fun i => .nat (a + i)
theorem upTo_len (a b : Nat) : (upTo a b).length = b - a := by simp [upTo]
theorem upTo_get {a b i : Nat} (h : i < b - a) : (upTo a b)[i]? = some (.nat (a + i)) := by simp [upTo, h]
theorem EvIt.range1 {f e : Expr} {p : Pos} {n : Nat} (hh : A.handled = none) (x : Ev w A env X h f (.raw (.type "range"))) (y : EvL w A env X h p [e] [.nat n]) (hz : n ≤ 1000000)
    (hc : eval (.Call f [e] [] p) env = (do callWith p (← eval f env) [] (backTo p (starEach [e] env)) (backToKw p (keywordEach [] env))))
    (he : starEach [e] env = (false, eval e env) :: starEach [] env) : EvIt w A env X h (.Call f [e] [] p) (upTo 0 n) := ⟨fun s Q E hs hQ => by
  with_reducible refine Call_ (x.run s _ _ hs fun v s₁ k₁ i₁ => ?_) hc
  cases i₁
  with_reducible refine PyProof.Rows.callWith_type1 (y.run s₁ _ _ (hs.trans k₁.ext) fun vs s₂ k₂ i₂ => ?_) he rfl
  obtain ⟨v, rfl, j⟩ := i₂.one; cases j
  with_reducible refine call_range_1 ?_
  refine iter_range (n := n) hh (k₁.trans (k₂.trans (Kp.mk (Ext.push _ _)))) (IsRange.new ..) (small_up (a := 0) (by omega) hz) (size_up (a := 0) (by omega)) (by rw [upTo_len]; rfl) (fun i hi => ?_) hQ
  rw [upTo_get (by omega)]
  simp⟩
theorem EvIt.range2 {f e e' : Expr} {p : Pos} {a b : Nat} (hh : A.handled = none) (x : Ev w A env X h f (.raw (.type "range"))) (y : EvL w A env X h p [e, e'] [.nat a, .nat b]) (hab : a ≤ b) (hz : b ≤ 1000000)
    (hc : eval (.Call f [e, e'] [] p) env = (do callWith p (← eval f env) [] (backTo p (starEach [e, e'] env)) (backToKw p (keywordEach [] env))))
    (he : starEach [e, e'] env = (false, eval e env) :: starEach [e'] env) (hp : (backTo p (starEach [e'] env)).any (·.1) = false) : EvIt w A env X h (.Call f [e, e'] [] p) (upTo a b) := ⟨fun s Q E hs hQ => by
  with_reducible refine Call_ (x.run s _ _ hs fun v s₁ k₁ i₁ => ?_) hc
  cases i₁
  with_reducible refine PyProof.Rows.callWith_type1 (y.run s₁ _ _ (hs.trans k₁.ext) fun vs s₂ k₂ i₂ => ?_) he hp
  obtain ⟨v, u, rfl, j, j'⟩ := i₂.two; cases j; cases j'
  with_reducible refine call_range_2 ?_
  refine iter_range (n := b - a) hh (k₁.trans (k₂.trans (Kp.mk (Ext.push _ _)))) (IsRange.new ..) (small_up (by omega) hz) (size_up hab) (upTo_len a b) (fun i hi => ?_) hQ
  rw [upTo_get hi]
  simp⟩
/-- the iterator behind i items -/
def Res.iter {w : World} {A : Around} {I : Addr} {fp wr : List Addr} {n : Nat} {P : Nat → Value → Prop} {St : Nat → Heap → Prop} (W : Walks PR w A I fp wr n P St) (items : List AV) (i : Nat) : Res :=
  ⟨fun b => b ∈ wr, fun X h => St i h ∧ (∀ b ∈ fp, b ∈ wr ∨ (¬ X b ∧ ∃ o, h.get? b = some o)) ∧ ∀ j v, j < items.length → P j v → ∃ d, items[j]? = some d ∧ Is X h v d,
   fun X X' h h' p k q => ⟨W.frame i h h' p.1 (fun b hb o e => (p.2.1 b hb).elim (fun f => k b o f e) fun f => (q b o f.1 e).2),
     fun b hb => (p.2.1 b hb).elim .inl fun ⟨nx, o, e⟩ => .inr ⟨(q b o nx e).1, o, (q b o nx e).2⟩,
     fun j v hj hv => let ⟨d, hd, i⟩ := p.2.2 j v hj hv; ⟨d, hd, i.pass q⟩⟩⟩
/-- a for over a name -/
theorem x_for {σ : Type} {Y : Addr → Prop} {s₀ : Shared} {ρ : Rho} {W : Res} {s : Shared} {Q : Flow → Shared → Prop} {E : Value → Shared → Prop} {x : Str} {p p' : Pos} {iter : Expr} {body rest : List Stmt} {items : List AV}
    (R : Nat → σ → Rho) (V : Nat → σ → Res) (P : Nat → σ → Prop) (c₀ : σ) (a : Act w Y X s₀ env ρ W s) (hit : EvIt w A env X s.heap iter items) (hf : env.scope.kind = .function) (hb : Bindable env x = true)
    (hfs : ∀ v, foldedSetIterable iter env v = pure v) (h0 : P 0 c₀) (hR : Sub (R 0 c₀) ρ) (hVf : ∀ i c b, (V i c).fp b → W.fp b) (hV : ∀ X h, W.holds X h → (V 0 c₀).holds X h)
    (turn : ∀ (X' : Addr → Prop) (U : Res) (i : Nat) (c : σ) (d : AV) (s' : Shared), (∀ b, X b → X' b) → (∀ b, U.fp b → ¬ W.fp b) → items[i]? = some d → P i c → Act w Y X' s₀ env ((x, d) :: R i c) ((V i c).and U) s' →
      ∀ E', wpAny (model PR w) A (execs body env) (fun f s₂ => match f with
        | .next | .cont => ∃ c', P (i + 1) c' ∧ Act w Y X' s₀ env (R (i + 1) c') ((V (i + 1) c').and U) s₂
        | .brk => False
        | .ret v => Q (.ret v) s₂) E' s')
    (done : ∀ (c : σ) (s' : Shared), P items.length c → Act w Y X s₀ env (R items.length c) (V items.length c) s' → wpAny (model PR w) A (execs rest env) Q E s') :
    wpAny (model PR w) A (execs (.For (.Name x p) iter body [] p' :: rest) env) Q E s := by
  with_reducible refine wpAny_execs_cons (wpAny_For (hit.run s _ _ (Ext.refl _) fun it s₁ k₁ it₁ => ?_) hfs)
  obtain ⟨I, fp, wr, Pn, St, rfl, Wk, hst, hP, hwr, hwi, hws, hfx, _⟩ := it₁
  obtain ⟨X', hX'⟩ : ∃ X' : Addr → Prop, X' = fun b => X b ∨ b ∈ wr := ⟨_, rfl⟩
  have xx : ∀ b, X b → X' b := fun b q => by rw [hX']; exact .inl q
  have wx : ∀ b ∈ wr, X' b := fun b q => by rw [hX']; exact .inr q
  have wn : ∀ b ∈ wr, ¬ X b := fun b q z => by
    obtain ⟨o, e⟩ := a.xin b z
    rw [hwr b q] at e; cases e
  have wo : ∀ b ∈ wr, ¬ Own env b := fun b q z => wn b q (a.own b z)
  have ws : ∀ b ∈ wr, s₀.heap.get? b = none := fun b q => by
    cases e : s₀.heap.get? b with
    | none => rfl
    | some o =>
      by_cases y : Y b
      · exact absurd (a.yx b y) (wn b q)
      · have := a.keep b o y e
        rw [hwr b q] at this; cases this
  have wfx : ∀ i c j b, ((V i c).and (Res.iter Wk items j)).fp b → X' b ∧ ¬ Own env b ∧ (Y b ∨ s₀.heap.get? b = none) := fun i c j b q => by
    rcases q with q | q
    · have := a.wfx b (hVf i c b q)
      exact ⟨xx b this.1, this.2⟩
    · exact ⟨wx b q, wo b q, .inr (ws b q)⟩
  have a₁ : Act w Y X' s₀ env (R 0 c₀) ((V 0 c₀).and (Res.iter Wk items 0)) s₁ := by
    have ps : Passes X s.heap X' s₁.heap := fun b o nx e => by
      refine ⟨fun q => ?_, k₁.ext b o e⟩
      rw [hX'] at q
      rcases q with q | q
      · exact nx q
      · rw [hwr b q] at e; cases e
    have hW := (V 0 c₀).stable X X' _ _ (hV X s.heap a.wh) (fun b o _ e => k₁.ext b o e) ps
    have := (a.sub hR).move (X' := X') (W' := (V 0 c₀).and (Res.iter Wk items 0)) (h' := s₁.heap) (tk := s₁.toks) (fun _ => False) (fun b o _ e => k₁.ext b o e) (fun _ q => q.elim) (fun _ q => q.elim) (fun _ q => q.elim) xx
      (fun b q => by rw [hX'] at q; exact q.imp id (hwr b)) (fun b q r => by
        rw [hX'] at q
        rcases q with q | q
        · exact r.elim (fun n => absurd q n) fun z => z.elim
        · exact hwi b q) (wfx 0 c₀ 0)
      ⟨hW, hst, fun b hb => (hfx b hb).imp id fun ⟨h1, h2, h3⟩ => ⟨by rw [hX']; exact fun q => q.elim h1 h2, h3⟩, by rw [hX']; exact hP⟩
    rw [k₁.same]
    exact this
  have key : codeAny (model PR w) A (.forLoop (.Name x p) (.ref I) body [] env) (fun r s' => match r with
      | .ok f => (match f with | .next => wpAny (model PR w) A (execs rest env) Q E s' | f => Q f s')
      | .error e => cameBackBy (model PR w) A env E e s') s₁ := by
    refine codeAny_forLoop_any (fun k s' => ∃ i c, i ≤ items.length ∧ k = items.length + 1 - i ∧ P i c ∧ Act w Y X' s₀ env (R i c) ((V i c).and (Res.iter Wk items i)) s') ?_ (items.length + 1) ⟨0, c₀, Nat.zero_le _, rfl, h0, a₁⟩
    rintro k s' ⟨i, c, hi, rfl, hPc, a'⟩
    by_cases hlt : i < items.length
    · refine Wk.item i s' _ _ hlt a'.wh.2.1 fun v h' tk hv hst' hk => ?_
      have pw : ∀ b o, ¬ b ∈ wr → s'.heap.get? b = some o → h'.get? b = some o := hk
      have ps : Passes X' s'.heap X' h' := fun b o nx e => ⟨nx, hk b o (fun q => nx (wx b q)) e⟩
      obtain ⟨d, hd, hid⟩ := a'.wh.2.2.2 i v hlt hv
      have hW := (V i c).stable X' X' _ _ a'.wh.1 (fun b o f e => hk b o (fun q => wn b q (a.wfx b (hVf i c b f)).1) e) ps
      have a'' := a'.move (X' := X') (W' := (V i c).and (Res.iter Wk items (i + 1))) (h' := h') (tk := tk) (fun b => b ∈ wr) hk wx wo (fun b q => .inr (ws b q)) (fun _ q => q) (fun _ q => .inl q)
        (fun b q r => r.elim (fun n => absurd q n) fun z => hws (i + 1) h' hst' b z) (wfx i c (i + 1))
        ⟨hW, hst', fun b hb => (a'.wh.2.2.1 b hb).imp id fun ⟨h1, o, e⟩ => ⟨h1, o, (ps b o h1 e).2⟩, fun j u hj hu => let ⟨d, hd, iu⟩ := a'.wh.2.2.2 j u hj hu; ⟨d, hd, iu.pass ps⟩⟩
      refine wpAny_pure ?_
      refine wpAny_assign_Name (x_store a'' (hid.pass ps) hf hb fun s₂ a₂ => ?_)
      refine wpAny_mono (turn X' (Res.iter Wk items (i + 1)) i c d s₂ xx (fun b q z => wn b q (a.wfx b z).1) hd hPc a₂ _) (fun f s₃ h₃ => ?_) fun _ _ e => e
      cases f with
      | next => obtain ⟨c', p', a₃⟩ := h₃; exact ⟨_, by omega, i + 1, c', hlt, rfl, p', a₃⟩
      | cont => obtain ⟨c', p', a₃⟩ := h₃; exact ⟨_, by omega, i + 1, c', hlt, rfl, p', a₃⟩
      | brk => exact h₃.elim
      | ret v => exact h₃
    · have e : i = items.length := by omega
      subst e
      refine Wk.done s' _ _ a'.wh.2.1 fun h' tk hk => wpAny_execs_nil ?_
      have ps : Passes X' s'.heap X h' := fun b o nx e => ⟨fun q => nx (xx b q), hk b o (fun q => nx (wx b q)) e⟩
      have hW := (V items.length c).stable X' X _ _ a'.wh.1 (fun b o f e => hk b o (fun q => wn b q (a.wfx b (hVf _ c b f)).1) e) ps
      exact done c _ hPc (a'.move0 (X' := X) (W' := V items.length c) (h' := h') (tk := tk) (fun b => b ∈ wr) hk wo (fun b q => .inr (ws b q)) ps a.own a.yx
        (fun b q => let ⟨o, e⟩ := a'.xin b (xx b q); ⟨o, hk b o (fun z => wn b z q) e⟩) (fun b q => a.wfx b (hVf _ c b q)) hW)
  exact key
end
end
section

open PySem PySem.W PyProof PyProof.Rows

abbrev fEnv (sc : Scope) (L f : Addr) (q : Str) (cd : Value) : Env :=
  { scope := sc, locals := L, globals := mainGlobals, cells := cellsFrom (L + 1) sc.names [], qual := q ++ ".<locals>.", func := some f, code := cd, frame := some L, builtins := builtinsNs }

theorem bindL_at {k : Str → Option NameKind} : ∀ {binds : List (Str × Value)} {ρ : Rho} {X : Addr → Prop} {h : Heap} {m : Str → Option Value}, binds.map (·.1) = ρ.map (·.1) → (ρ.map (·.1)).Nodup → IsL X h (binds.map (·.2)) (ρ.map (·.2)) →
    ∀ x av, k x = some .local → ρ.lookup x = some av → ∃ v, bindL k binds m x = some v ∧ Is X h v av
  | [], [], _, _, _, _, _, _, x, av, _, e => by cases e
  | (n, v) :: r, (n', a) :: ρ, X, h, m, hn, hd, hi, x, av, hk, e => by
    simp only [List.map_cons, List.cons.injEq] at hn
    obtain ⟨rfl, hn⟩ := hn
    have hd' := List.nodup_cons.mp hd
    cases hi with | cons i is =>
    rw [List.lookup_cons] at e
    unfold bindL
    by_cases q : x = n
    · subst q
      simp only [beq_self_eq_true, Option.some.injEq] at e
      subst e
      rw [if_pos hk]
      refine ⟨v, ?_, i⟩
      have : ∀ (l : List (Str × Value)) (m : Str → Option Value), x ∉ l.map (·.1) → m x = some v → bindL k l m x = some v := by
        intro l
        induction l with
        | nil => intro m _ h; exact h
        | cons p l ih =>
          intro m hm h
          obtain ⟨y, u⟩ := p
          unfold bindL
          simp only [List.map_cons, List.mem_cons, not_or] at hm
          refine ih _ hm.2 ?_
          split
          · simp [hm.1, h]
          · exact h
      exact this r _ (by rw [hn]; exact hd'.1) (by simp)
    · rw [show (x == n) = false by simpa using q] at e
      exact bindL_at hn hd'.2 is x av hk e
  | [], _ :: _, _, _, _, hn, _, _, _, _, _, _ => by simp at hn
  | _ :: _, [], _, _, _, hn, _, _, _, _, _, _ => by simp at hn
theorem bindC_at {k : Str → Option NameKind} : ∀ {binds : List (Str × Value)} {ρ : Rho} {X : Addr → Prop} {h : Heap} {m : Str → Option Value}, binds.map (·.1) = ρ.map (·.1) → (ρ.map (·.1)).Nodup → IsL X h (binds.map (·.2)) (ρ.map (·.2)) →
    ∀ x av, k x = some .cell → ρ.lookup x = some av → ∃ v, bindC k binds m x = some v ∧ Is X h v av
  | [], [], _, _, _, _, _, _, x, av, _, e => by cases e
  | (n, v) :: r, (n', a) :: ρ, X, h, m, hn, hd, hi, x, av, hk, e => by
    simp only [List.map_cons, List.cons.injEq] at hn
    obtain ⟨rfl, hn⟩ := hn
    have hd' := List.nodup_cons.mp hd
    cases hi with | cons i is =>
    rw [List.lookup_cons] at e
    unfold bindC
    by_cases q : x = n
    · subst q
      simp only [beq_self_eq_true, Option.some.injEq] at e
      subst e
      rw [if_neg (by rw [hk]; intro z; cases z)]
      refine ⟨v, ?_, i⟩
      have : ∀ (l : List (Str × Value)) (m : Str → Option Value), x ∉ l.map (·.1) → m x = some v → bindC k l m x = some v := by
        intro l
        induction l with
        | nil => intro m _ h; exact h
        | cons p l ih =>
          intro m hm h
          obtain ⟨y, u⟩ := p
          unfold bindC
          simp only [List.map_cons, List.mem_cons, not_or] at hm
          refine ih _ hm.2 ?_
          split
          · exact h
          · simp [hm.1, h]
      exact this r _ (by rw [hn]; exact hd'.1) (by simp)
    · rw [show (x == n) = false by simpa using q] at e
      exact bindC_at hn hd'.2 is x av hk e
  | [], _ :: _, _, _, _, hn, _, _, _, _, _, _ => by simp at hn
  | _ :: _, [], _, _, _, hn, _, _, _, _, _, _ => by simp at hn

section
variable {w : World} {A : Around} {X : Addr → Prop} {h : Heap}
/-- a def of the top is called -/
theorem CallIs.fn {f : Addr} {oc : Value} {od : Option Addr} {osl : Array (Option Value)} {name q : Str} {params : Arguments} {body : List Stmt} {sc : Scope} {dV kV doc pm cd ct : Value} {an : Option Addr} {names : List Str} {avs : List AV} {r : AV} (g : Gl w h) (xi : XIn X h)
    (ho : (KK w).lookup f = some ⟨oc, od, .func (fnOf name q params body sc dV kV doc pm an cd ct), osl⟩) (hcd : codeIn (KK w) cd q = true) (hroom : A.depth < recursionLimit)
    (hlen : avs.length = names.length) (hnd : names.Nodup) (hbind : ∀ vs : List Value, vs.length = names.length → bindArgs (fnOf name q params body sc dV kV doc pm an cd ct) ⟨vs, []⟩ = pure (names.zip vs))
    (hkd : (names.all fun y => sc.names.lookup y == some .local || sc.names.lookup y == some .cell) = true)
    (hco : sc.isCoroutine = false) (hgen : sc.isGenerator = false) (hk : sc.kind = .function)
    (k : ∀ (s s₁ : Shared) (Q : Flow → Shared → Prop) (E : Value → Shared → Prop), Ext h s.heap → XIn X s.heap →
      Act w (fun _ => False) (fun b => X b ∨ Own (fEnv sc s.heap.objs.size f q cd) b) s (fEnv sc s.heap.objs.size f q cd) (names.zip avs) Res.emp s₁ →
      (∀ v s', Kp s s' → Is X s'.heap v r → Q (.ret v) s') → wpAny (model PR w) (A.deeper (fEnv sc s.heap.objs.size f q cd)) (execs body (fEnv sc s.heap.objs.size f q cd)) Q E s₁) : CallIs w A X h (.ref f) avs r := ⟨fun s vs Q E hs i hQ => by
  have G := g.ext hs
  have xi' := xi.ext hs
  obtain ⟨mg, mb, T⟩ := G.T
  have hvl : vs.length = names.length := i.length.trans hlen
  refine wpAny_call (codeAny_call_cells (fd := fnOf name q params body sc dV kV doc pm an cd ct) (body := body) hroom (G.K _ _ ho) rfl T.nolimit (codeRec_of G.K hcd) rfl (hbind vs hvl) rfl (fun x hx => ?_) (fun s₁ x => ?_) hco hgen hk)
  · have hm : x.1 ∈ names := (List.of_mem_zip (a := x.1) (b := x.2) hx).1
    have := List.all_eq_true.mp hkd x.1 hm
    rcases Bool.or_eq_true_iff.mp this with p | p
    · exact .inl (by simpa using p)
    · have p' : sc.names.lookup x.1 = some .cell := by simpa using p
      exact .inr ⟨p', cellsFrom_some _ _ _ (.inl p')⟩
  · change InCallC s (fEnv sc s.heap.objs.size f q cd).locals (bindL (fEnv sc s.heap.objs.size f q cd).kindOf (names.zip vs) fun _ => none) (fEnv sc s.heap.objs.size f q cd).cells (bindC (fEnv sc s.heap.objs.size f q cd).kindOf (names.zip vs) fun _ => none) s₁ at x
    have own_ge : ∀ b, Own (fEnv sc s.heap.objs.size f q cd) b → s.heap.objs.size ≤ b := by
      rintro b (e | ⟨y, hy, hc⟩)
      · exact Nat.le_of_eq e.symm
      · exact Nat.le_of_lt (x.above y b (PySem.mem_of_lookup hc))
    have own_none : ∀ b, Own (fEnv sc s.heap.objs.size f q cd) b → s.heap.get? b = none := fun b hb => by
      cases e : s.heap.get? b with
      | none => rfl
      | some o => exact absurd (Heap.lt_size e) (Nat.not_lt.mpr (own_ge b hb))
    have ps : Passes X s.heap (fun b => X b ∨ Own (fEnv sc s.heap.objs.size f q cd) b) s₁.heap := fun b o nx e => ⟨fun z => z.elim nx fun z => (by rw [own_none b z] at e; cases e), x.toInCall.keep b o e⟩
    have zi : (names.zip vs).map (·.1) = (names.zip avs).map (·.1) := by rw [List.map_fst_zip (by omega), List.map_fst_zip (by omega)]
    have zd : ((names.zip avs).map (·.1)).Nodup := by rw [List.map_fst_zip (by omega)]; exact hnd
    have zv : IsL (fun b => X b ∨ Own (fEnv sc s.heap.objs.size f q cd) b) s₁.heap ((names.zip vs).map (·.2)) ((names.zip avs).map (·.2)) := by
      rw [List.map_snd_zip (by omega), List.map_snd_zip (by omega)]
      exact i.pass ps
    have act : Act w (fun _ => False) (fun b => X b ∨ Own (fEnv sc s.heap.objs.size f q cd) b) s (fEnv sc s.heap.objs.size f q cd) (names.zip avs) Res.emp s₁ := by
      refine { same := x.toInCall.same, keep := fun b o _ e => x.toInCall.keep b o e, loc := ⟨_, x.toInCall.ns, fun y av hy e => bindL_at zi zd zv y av hy e⟩, cel := ?_, fre := ?_, fresh := own_none, apart := ?_, own := fun b hb => .inr hb, yx := fun _ z => z.elim, xin := ?_, yga := fun _ z => z.elim, gl := G, wfx := fun _ z => z.elim, wh := trivial }
      · intro y c hy hc
        refine ⟨_, x.cell y c hc, fun av e => ?_⟩
        exact bindC_at zi zd zv y av hy e
      · intro y av hy e
        exfalso
        have : y ∈ names := by
          have := PySem.mem_of_lookup e
          exact (List.of_mem_zip this).1
        have := List.all_eq_true.mp hkd y this
        have hy' : sc.names.lookup y = some .free := hy
        rw [hy'] at this
        exact absurd this (by decide)
      · intro y c hy hc
        refine ⟨Nat.ne_of_gt (x.above y c (PySem.mem_of_lookup hc)), fun z _ hz => name_of_addr x.apart (PySem.mem_of_lookup hz) (PySem.mem_of_lookup hc)⟩
      · rintro b (z | z | ⟨y, hy, hc⟩)
        · obtain ⟨o, e⟩ := xi' b z
          exact ⟨o, x.toInCall.keep b o e⟩
        · obtain ⟨o, _, _, e, _⟩ := x.toInCall.ns
          exact ⟨o, z ▸ e⟩
        · obtain ⟨o, e, _⟩ := x.cell y b hc
          exact ⟨o, e⟩
    refine wpAny_mono (k s s₁ (fun fl s' => ∃ v, fl = .ret v ∧ Kp s s' ∧ Is X s'.heap v r) (fun _ _ => False) hs xi' act fun v s' k₁ i₁ => ⟨v, rfl, k₁, i₁⟩) (fun fl s' hl => ?_) fun _ _ z => z.elim
    obtain ⟨v, rfl, k₁, i₁⟩ := hl
    exact hQ v s' k₁ i₁⟩
/-- the end of a def: what it hands back, read by its caller -/
theorem Act.leave {X₁ : Addr → Prop} {s : Shared} {env : Env} {ρ : Rho} {W : Res} {s' : Shared} (a : Act w (fun _ => False) X₁ s env ρ W s') (xx : ∀ b, X b → X₁ b) {v : Value} {r : AV} (i : Is X₁ s'.heap v r) : Kp s s' ∧ Is X s'.heap v r := by
  refine ⟨?_, i.pass fun b o nx e => ⟨fun q => nx (xx b q), e⟩⟩
  obtain ⟨h', tk, rfl⟩ := a.same
  exact Kp.mk fun b o e => a.keep b o (fun z => z) e
end
end
section

open PySem PySem.W PyProof PyProof.Rows
section
variable {w : World} {A : Around} {env : Env} {X : Addr → Prop} {h : Heap}
theorem n_range (w : World) : nsIn (KK w) mainGlobals "range" = some none := rfl
theorem n_len (w : World) : nsIn (KK w) mainGlobals "len" = some none := rfl
theorem n_ord (w : World) : nsIn (KK w) mainGlobals "ord" = some none := rfl
theorem n_chr (w : World) : nsIn (KK w) mainGlobals "chr" = some none := rfl
theorem n_sum (w : World) : nsIn (KK w) mainGlobals "sum" = some none := rfl
theorem n_isinstance (w : World) : nsIn (KK w) mainGlobals "isinstance" = some none := rfl
theorem n_int (w : World) : nsIn (KK w) mainGlobals "int" = some none := rfl
theorem n_bool (w : World) : nsIn (KK w) mainGlobals "bool" = some none := rfl
theorem n_str (w : World) : nsIn (KK w) mainGlobals "str" = some none := rfl
theorem n_iter (w : World) : nsIn (KK w) mainGlobals "iter" = some none := rfl
theorem b_range : bootBuiltins "range" = some (.type "range") := by decide +kernel
theorem b_len : bootBuiltins "len" = some (.builtin "len") := by decide +kernel
theorem b_ord : bootBuiltins "ord" = some (.builtin "ord") := by decide +kernel
theorem b_chr : bootBuiltins "chr" = some (.builtin "chr") := by decide +kernel
theorem b_sum : bootBuiltins "sum" = some (.builtin "sum") := by decide +kernel
theorem b_isinstance : bootBuiltins "isinstance" = some (.builtin "isinstance") := by decide +kernel
theorem b_int : bootBuiltins "int" = some (.type "int") := by decide +kernel
theorem b_bool : bootBuiltins "bool" = some (.type "bool") := by decide +kernel
theorem b_str : bootBuiltins "str" = some (.type "str") := by decide +kernel
theorem b_iter : bootBuiltins "iter" = some (.builtin "iter") := by decide +kernel
variable (g : Gl w h) (hk : env.scope.kind = .function) (hg : env.globals = mainGlobals) (hb : env.builtins = builtinsNs)
include g hk hg hb
theorem Ev.range {p : Pos} (hx : env.kindOf "range" = some .globalImplicit) : Ev w A env X h (.Name "range" p) (.raw (.type "range")) := Ev.built g hk hx hg hb (n_range w) b_range (by decide) (by decide)
theorem Ev.len {p : Pos} (hx : env.kindOf "len" = some .globalImplicit) : Ev w A env X h (.Name "len" p) (.raw (.builtin "len")) := Ev.built g hk hx hg hb (n_len w) b_len (by decide) (by decide)
theorem Ev.ord {p : Pos} (hx : env.kindOf "ord" = some .globalImplicit) : Ev w A env X h (.Name "ord" p) (.raw (.builtin "ord")) := Ev.built g hk hx hg hb (n_ord w) b_ord (by decide) (by decide)
theorem Ev.chr {p : Pos} (hx : env.kindOf "chr" = some .globalImplicit) : Ev w A env X h (.Name "chr" p) (.raw (.builtin "chr")) := Ev.built g hk hx hg hb (n_chr w) b_chr (by decide) (by decide)
theorem Ev.sum {p : Pos} (hx : env.kindOf "sum" = some .globalImplicit) : Ev w A env X h (.Name "sum" p) (.raw (.builtin "sum")) := Ev.built g hk hx hg hb (n_sum w) b_sum (by decide) (by decide)
theorem Ev.isinstance {p : Pos} (hx : env.kindOf "isinstance" = some .globalImplicit) : Ev w A env X h (.Name "isinstance" p) (.raw (.builtin "isinstance")) := Ev.built g hk hx hg hb (n_isinstance w) b_isinstance (by decide) (by decide)
theorem Ev.tint {p : Pos} (hx : env.kindOf "int" = some .globalImplicit) : Ev w A env X h (.Name "int" p) (.raw (.type "int")) := Ev.built g hk hx hg hb (n_int w) b_int (by decide) (by decide)
theorem Ev.tbool {p : Pos} (hx : env.kindOf "bool" = some .globalImplicit) : Ev w A env X h (.Name "bool" p) (.raw (.type "bool")) := Ev.built g hk hx hg hb (n_bool w) b_bool (by decide) (by decide)
theorem Ev.tstr {p : Pos} (hx : env.kindOf "str" = some .globalImplicit) : Ev w A env X h (.Name "str" p) (.raw (.type "str")) := Ev.built g hk hx hg hb (n_str w) b_str (by decide) (by decide)
theorem Ev.iter {p : Pos} (hx : env.kindOf "iter" = some .globalImplicit) : Ev w A env X h (.Name "iter" p) (.raw (.builtin "iter")) := Ev.built g hk hx hg hb (n_iter w) b_iter (by decide) (by decide)
end
end
section

open PySem PySem.W PyProof PyProof.Rows
local macro_rules | `(tactic| walk_at "ev") => `(tactic| first
  | with_reducible exact Ev.strc
  | with_reducible exact Ev.nonec
  | with_reducible exact Ev.boolc
  | exact Ev.natc
  | exact Ev.int
  | exact Act.ev (by with_reducible assumption) rfl rfl rfl rfl rfl
  | exact Ev.range (Act.Gl (by with_reducible assumption)) rfl rfl rfl rfl
  | exact Ev.len (Act.Gl (by with_reducible assumption)) rfl rfl rfl rfl
  | exact Ev.ord (Act.Gl (by with_reducible assumption)) rfl rfl rfl rfl
  | exact Ev.chr (Act.Gl (by with_reducible assumption)) rfl rfl rfl rfl
  | exact Ev.sum (Act.Gl (by with_reducible assumption)) rfl rfl rfl rfl
  | ((with_reducible refine' Ev.binop ?l ?r ?o); (case l => walk_at "ev"); (case r => walk_at "ev"); (case o => walk_at "op")))
local macro_rules | `(tactic| walk_at "evl") => `(tactic| first
  | with_reducible exact EvL.nil
  | (refine' EvL.cons ?x ?y rfl; (case x => walk_at "ev"); (case y => walk_at "evl")))
local macro_rules | `(tactic| walk_at "evt") => `(tactic| first
  | (refine' EvT.cmp ?l ?r ?o rfl; (case l => walk_at "ev"); (case r => walk_at "ev"); (case o => walk_at "op"))
  | (refine' EvT.plain ?x ?t (fun _ => rfl); (case x => walk_at "ev"); (case t => walk_at "truth")))
local macro_rules | `(tactic| walk_at "truth") => `(tactic| first
  | with_reducible exact t_nat
  | with_reducible exact t_bool)
local macro_rules | `(tactic| walk_at "op") => `(tactic| first
  | with_reducible exact o_shrN
  | with_reducible exact o_xorN
  | with_reducible exact o_andN
  | with_reducible exact o_ishrN
  | with_reducible exact o_addN)
local macro_rules | `(tactic| walk_at "set") => `(tactic| (refine' x_assign (by with_reducible assumption) ?e rfl rfl rfl ?k; (case e => walk_at "ev"); intro s a))
local macro_rules | `(tactic| walk_at "aug") => `(tactic| (refine' x_aug (by with_reducible assumption) rfl ?e ?o rfl rfl rfl ?k; (case e => walk_at "ev"); (case o => walk_at "op"); intro s a))
def gstep (c : Nat) : Nat := if c &&& 1 != 0 then (c >>> 1) ^^^ 3988292384 else c >>> 1
def giter : Nat → Nat → Nat
  | 0, c => c
  | n + 1, c => gstep (giter n c)
def genCrc (c : Nat) : Nat := giter 8 c
theorem gstep_t {c : Nat} (h : (c &&& 1 != 0) = true) : gstep c = (c >>> 1) ^^^ 3988292384 := if_pos h
theorem gstep_f {c : Nat} (h : (c &&& 1 != 0) = false) : gstep c = c >>> 1 := if_neg (by rw [h]; exact Bool.false_ne_true)
theorem gen_is {w : World} {A : Around} {X : Addr → Prop} {h : Heap} (g : Gl w h) (xi : XIn X h) (hh : A.handled = none) (hroom : A.depth + 1 < recursionLimit) (c : Nat) : CallIs w A X h (.ref 76) [.nat c] (.nat (genCrc c)) := by
  refine CallIs.fn (names := ["crc"]) g xi rfl rfl (by omega) rfl (by decide) (fun vs hv => ?_) rfl rfl rfl rfl fun s s₁ Q E hs xs a hQ => ?_
  · match vs, hv with
    | [v], _ => rfl
  · refine x_for (σ := Unit) (fun i _ => [("crc", .nat (giter i c))]) (fun _ _ => Res.emp) (fun _ _ => True) () a (EvIt.range1 hh ?e ?l (n := 8) (by omega) rfl rfl) rfl rfl (fun _ => rfl) trivial ⟨rfl, trivial⟩ (fun _ _ _ q => q) (fun _ _ q => q) ?t ?d
    case e => walk_at "ev"
    case l => walk_at "evl"
    case t =>
      intro X' U i u d s' xx ux hd _ a E'
      refine' x_if a ?e ?kt ?kf
      case e => walk_at "evt"
      case kt =>
        intro ht s₂ a
        walk_at "set"
        refine x_nil (x_nil ⟨(), trivial, Act.sub (by with_reducible assumption) ⟨?_, trivial⟩⟩)
        exact congrArg (fun n => some (AV.nat n)) (gstep_t ht).symm
      case kf =>
        intro ht s₂ a
        walk_at "aug"
        refine x_nil (x_nil ⟨(), trivial, Act.sub (by with_reducible assumption) ⟨?_, trivial⟩⟩)
        exact congrArg (fun n => some (AV.nat n)) (gstep_f ht).symm
    case d =>
      intro u s' _ a
      refine x_ret a (av := .nat (giter 8 c)) ?e fun v s₂ a₂ i₂ => ?_
      case e => walk_at "ev"
      obtain ⟨k, i⟩ := a₂.leave (X := X) (fun b q => .inl q) i₂
      exact hQ v s₂ k i
end
section

open PySem PySem.W PyProof PyProof.Rows

/-- what an expression may read -/
structure Ctx (w : World) (env : Env) (X : Addr → Prop) (ρ : Rho) (h : Heap) : Prop where
  gl : Gl w h
  xin : XIn X h
  var : ∀ x av, ρ.lookup x = some av → Known env x = true → (x == (".0" : Str)) = false → ∃ v, VarIs env h x v ∧ Is X h v av
theorem Act.ctx {w : World} {Y X : Addr → Prop} {s₀ : Shared} {env : Env} {ρ : Rho} {W : Res} {s : Shared} (a : Act w Y X s₀ env ρ W s) : Ctx w env X ρ s.heap :=
  ⟨a.Gl, a.xin, fun _ _ e hk _ => a.var' e hk⟩
section
variable {w : World} {A : Around} {env : Env} {X : Addr → Prop} {h : Heap} {ρ : Rho}
theorem Ctx.up {h' : Heap} (c : Ctx w env X ρ h) (k : Ext h h') : Ctx w env X ρ h' :=
  ⟨c.gl.ext k, c.xin.ext k, fun x av e hk hd => let ⟨v, hv, hi⟩ := c.var x av e hk hd; ⟨v, hv.ext k, hi.ext k⟩⟩
theorem Ctx.ev (c : Ctx w env X ρ h) {x : Str} {p : Pos} {av : AV} (e : ρ.lookup x = some av) (hf : env.scope.kind = .function) (hk : Known env x = true) (hd : (x == ("__debug__" : Str)) = false) (hc : (x == ("__classdict__" : Str)) = false) (hz : (x == (".0" : Str)) = false) :
    Ev w A env X h (.Name x p) av := let ⟨_, hv, hi⟩ := c.var x av e hk hz; Ev.var hf hv hi hd hc

/-- the cells that a comprehension takes along -/
def closOf (scope : Scope) (env : Env) : List (Str × Addr) := scope.names.foldl (fun cs p => if p.2 == .free then (p.1, (env.cells.lookup p.1).getD 0) :: cs else cs) []
def closOk (scope : Scope) (env : Env) : Bool := scope.names.all fun p => p.2 != .free || ((env.cells.lookup p.1).isSome && (env.kindOf p.1 == some .cell || env.kindOf p.1 == some .free))
theorem clos_eq {scope : Scope} {env : Env} (ok : closOk scope env = true) : closureFor scope env = pure (closOf scope env) := by
  unfold closureFor closOf
  unfold closOk at ok
  have key : ∀ (l : List (Str × NameKind)) (cs : List (Str × Addr)), (l.all fun p => p.2 != .free || ((env.cells.lookup p.1).isSome && (env.kindOf p.1 == some .cell || env.kindOf p.1 == some .free))) = true →
      (forIn l cs fun p cs => if p.2 == .free then do let c ← cellOf env p.1; pure (ForInStep.yield ((p.1, c) :: cs)) else pure (ForInStep.yield cs) : Sem (List (Str × Addr))) =
      pure (l.foldl (fun cs p => if p.2 == .free then (p.1, (env.cells.lookup p.1).getD 0) :: cs else cs) cs) := by
    intro l
    induction l with
    | nil => intro cs _; rfl
    | cons p l ih =>
      intro cs h
      rw [List.all_cons, Bool.and_eq_true] at h
      rw [List.forIn_cons, List.foldl_cons]
      by_cases hp : (p.2 == .free) = true
      · rw [if_pos hp, if_pos hp]
        have h1 := h.1
        rw [show (p.2 != NameKind.free) = false by unfold bne; rw [hp]; rfl, Bool.false_or, Bool.and_eq_true] at h1
        obtain ⟨c, hc⟩ := Option.isSome_iff_exists.mp h1.1
        have : cellOf env p.1 = pure c := by unfold cellOf; rw [hc]
        rw [this, hc]
        exact ih _ h.2
      · rw [if_neg hp, if_neg hp]
        exact ih _ h.2
  exact congrArg (fun t : Sem (List (Str × Addr)) => t >>= pure) (key scope.names [] ok)
theorem closOf_lookup {scope : Scope} {env : Env} (ok : closOk scope env = true) {x : Str} {c : Addr} (e : (closOf scope env).lookup x = some c) : env.cells.lookup x = some c ∧ (env.kindOf x = some .cell ∨ env.kindOf x = some .free) := by
  unfold closOf at e
  unfold closOk at ok
  have key : ∀ (l : List (Str × NameKind)) (cs : List (Str × Addr)), (l.all fun p => p.2 != .free || ((env.cells.lookup p.1).isSome && (env.kindOf p.1 == some .cell || env.kindOf p.1 == some .free))) = true →
      (∀ c, cs.lookup x = some c → env.cells.lookup x = some c ∧ (env.kindOf x = some .cell ∨ env.kindOf x = some .free)) →
      ∀ c, (l.foldl (fun cs p => if p.2 == .free then (p.1, (env.cells.lookup p.1).getD 0) :: cs else cs) cs).lookup x = some c → env.cells.lookup x = some c ∧ (env.kindOf x = some .cell ∨ env.kindOf x = some .free) := by
    intro l
    induction l with
    | nil => intro cs _ hcs c e; exact hcs c e
    | cons p l ih =>
      intro cs h hcs c e
      rw [List.all_cons, Bool.and_eq_true] at h
      rw [List.foldl_cons] at e
      refine ih _ h.2 (fun c' e' => ?_) c e
      by_cases hp : (p.2 == .free) = true
      · rw [if_pos hp] at e'
        have h1 := h.1
        rw [show (p.2 != NameKind.free) = false by unfold bne; rw [hp]; rfl, Bool.false_or, Bool.and_eq_true] at h1
        rw [List.lookup_cons] at e'
        split at e'
        · rename_i q
          rw [beq_iff_eq.mp q]
          cases e'
          obtain ⟨c, hc⟩ := Option.isSome_iff_exists.mp h1.1
          rw [hc]
          refine ⟨rfl, ?_⟩
          rcases Bool.or_eq_true_iff.mp h1.2 with z | z
          · exact .inl (beq_iff_eq.mp z)
          · exact .inr (beq_iff_eq.mp z)
        · exact hcs c' e'
      · rw [if_neg hp] at e'
        exact hcs c' e'
  exact key scope.names [] ok (fun c e => by cases e) c e
theorem closOf_some {scope : Scope} {env : Env} {x : Str} (e : scope.names.lookup x = some .free) : ((closOf scope env).lookup x).isSome = true := by
  unfold closOf
  have mono : ∀ (l : List (Str × NameKind)) (cs : List (Str × Addr)), (cs.lookup x).isSome = true →
      ((l.foldl (fun cs p => if p.2 == .free then (p.1, (env.cells.lookup p.1).getD 0) :: cs else cs) cs).lookup x).isSome = true := by
    intro l
    induction l with
    | nil => intro cs h; exact h
    | cons p l ih =>
      intro cs h
      rw [List.foldl_cons]
      refine ih _ ?_
      split
      · rw [List.lookup_cons]; split
        · rfl
        · exact h
      · exact h
  have key : ∀ (l : List (Str × NameKind)) (cs : List (Str × Addr)), l.lookup x = some .free →
      ((l.foldl (fun cs p => if p.2 == .free then (p.1, (env.cells.lookup p.1).getD 0) :: cs else cs) cs).lookup x).isSome = true := by
    intro l
    induction l with
    | nil => intro cs h; cases h
    | cons p l ih =>
      intro cs h
      rw [List.foldl_cons]
      obtain ⟨n, k⟩ := p
      rw [List.lookup_cons] at h
      split at h
      · rename_i q
        cases h
        refine mono _ _ ?_
        rw [if_pos (by rfl), List.lookup_cons, q]; rfl
      · exact ih _ h
  exact key _ _ e

/-- how relabel changes a kind -/
theorem relabel_lookup {scope : Scope} {env : Env} {x : Str} : ((relabel scope env).names.lookup x) = (scope.names.lookup x).map fun k => if (k == NameKind.free && env.scope.kind == .function && env.kindOf x == some .cell) = true then NameKind.cell else k := by
  unfold relabel
  dsimp only
  generalize scope.names = l
  induction l with
  | nil => rfl
  | cons p l ih =>
    obtain ⟨n, k⟩ := p
    rw [List.map_cons]
    by_cases q : (x == n) = true
    · have e : x = n := beq_iff_eq.mp q
      subst e
      dsimp only
      by_cases hc : (k == NameKind.free && env.scope.kind == .function && env.kindOf x == some .cell) = true
      · rw [if_pos hc, List.lookup_cons, List.lookup_cons]; simp only [beq_self_eq_true, Option.map_some, hc, if_true]
      · rw [if_neg hc, List.lookup_cons, List.lookup_cons]; simp only [beq_self_eq_true, Option.map_some]; rw [if_neg hc]
    · have q' : (x == n) = false := by simpa using q
      dsimp only
      have r : List.lookup x ((n, k) :: l) = List.lookup x l := by rw [List.lookup_cons, q']
      rw [r, ← ih]
      by_cases hc : (k == NameKind.free && env.scope.kind == .function && env.kindOf n == some .cell) = true
      · rw [if_pos hc, List.lookup_cons, q']
      · rw [if_neg hc, List.lookup_cons, q']

/-- the names a comprehension binds are its locals -/
def localsOk (scope : Scope) (ts : List Str) : Bool := (ts.all fun n => scope.names.lookup n == some .local) && scope.names.all fun p => p.2 != .cell && (p.2 != .local || (scope.names.lookup p.1 == some .local && (p.1 == (".0" : Str) || ts.contains p.1)))

/-- assigning to a comprehension's target -/
structure Binds (w : World) (A : Around) (scope : Scope) (target : Expr) (d : AV) (ρd : Rho) : Prop where
  run : ∀ (X : Addr → Prop) (s : Shared) (env : Env) (I : Addr) (v : Value) (m : Str → Option Value) (Q : Unit → Shared → Prop) (E : Value → Shared → Prop), env.scope.kind = .function → (∀ x, scope.names.lookup x = some .local → env.kindOf x = some .local) →
    XIn X s.heap → X env.locals → s.heap.Ns env.locals m → Is X s.heap v d →
    (∃ o, s.heap.get? I = some o ∧ (o.cls = .type "list_iterator" ∨ o.cls = .type "range_iterator" ∨ o.cls = .type "str_ascii_iterator" ∨ o.cls = .type "str_iterator")) →
    (∀ h' tk m', h'.Ns env.locals m' → (∀ x av, ρd.lookup x = some av → ∃ u, m' x = some u ∧ Is X h' u av) → (∀ b o, b ≠ env.locals → s.heap.get? b = some o → h'.get? b = some o) → Q () { s with heap := h', toks := tk }) →
    wpAny (model PR w) A (letOwnedTupleGo target (.ref I) v) (fun _ s₁ => wpAny (model PR w) A (assign target env v) Q E s₁) E s
theorem Binds.name {scope : Scope} {x : Str} {p : Pos} {d : AV} (hx : scope.names.lookup x = some .local) : Binds w A scope (.Name x p) d [(x, d)] := ⟨fun X s env I v m Q E hf hl xi hX hn hi _ hQ => by
  refine wpAny_pure ?_
  refine wpAny_assign_Name (wpAny_storeName_local (hl x hx) hn (fun h' hn' hs' => ?_) (by rw [hf]; rfl))
  refine hQ h' _ _ hn' (fun y av e => ?_) fun b o hb e => (hs'.2 b hb).trans e
  rw [List.lookup_cons] at e
  split at e
  · rename_i q
    cases e
    rw [beq_iff_eq.mp q]
    refine ⟨v, by simp, hi.pass fun b o nx e => ⟨nx, (hs'.2 b fun z => nx (z ▸ hX)).trans e⟩⟩
  · cases e⟩
theorem goQuiet {elts : List Expr} {k : Nat} {pos : Pos} {I : Addr} {v : Value} {s : Shared} {Q : Unit → Shared → Prop} {E : Value → Shared → Prop}
    (ho : ∃ o, s.heap.get? I = some o ∧ (o.cls = .type "list_iterator" ∨ o.cls = .type "range_iterator" ∨ o.cls = .type "str_ascii_iterator" ∨ o.cls = .type "str_iterator")) (hQ : Q () s) :
    wpAny (model PR w) A (letOwnedTupleGo (.Tuple elts k pos) (.ref I) v) Q E s := by
  obtain ⟨o, ho, hc⟩ := ho
  unfold letOwnedTupleGo
  cases v with
  | ref a =>
    refine wpAny_bind (wpAny_load ho ?_)
    obtain ⟨c, d, dt, sl⟩ := o
    rcases hc with rfl | rfl | rfl | rfl <;> cases dt <;> first
      | exact wpAny_pure hQ
      | (dsimp only
         rw [if_neg (by
          intro h
          rw [Bool.and_eq_true] at h
          exact absurd h.1 (by decide))]
         exact wpAny_pure hQ)
  | _ => exact wpAny_pure hQ
theorem Binds.pair {scope : Scope} {x y : Str} {p p' p'' : Pos} {k : Nat} {d e : AV} (hh : A.handled = none) (hx : scope.names.lookup x = some .local) (hy : scope.names.lookup y = some .local) : Binds w A scope (.Tuple [.Name x p, .Name y p'] k p'') (.tup [d, e]) [(y, e), (x, d)] := ⟨fun X s env I v m Q E hf hl xi hX hn hi ho hQ => by
  cases hi with | tup he nx r =>
  rename_i a vs n
  obtain ⟨u, u', rfl, iu, iu'⟩ := r.two
  refine goQuiet ho ?_
  have hT : s.heap.IsTuple a #[u, u'] := ⟨_, he, rfl, n, rfl⟩
  refine wpAny_assign_Tuple hh hT rfl rfl fun h₁ he₁ => ?_
  have ex : ∀ b o, s.heap.get? b = some o → h₁.get? b = some o := fun b o e => he₁ b o (Nat.ne_of_lt (Heap.lt_size e)) e
  show wpAny _ _ (assignInOrder [assign (.Name x p) env, assign (.Name y p') env] [u, u']) _ _ _
  refine wpAny_assignInOrder_more (wpAny_assign_Name (wpAny_storeName_local (hl x hx) (hn.at' fun o e => ex _ o e) (fun h₂ hn₂ hs₂ => ?_) (by rw [hf]; rfl)))
  refine wpAny_assignInOrder_more (wpAny_assign_Name (wpAny_storeName_local (hl y hy) hn₂ (fun h₃ hn₃ hs₃ => wpAny_pure ?_) (by rw [hf]; rfl)))
  have up : ∀ b o, b ≠ env.locals → s.heap.get? b = some o → h₃.get? b = some o := fun b o hb e => (hs₃.2 b hb).trans ((hs₂.2 b hb).trans (ex b o e))
  refine hQ h₃ _ _ hn₃ (fun z av e => ?_) up
  have ps : Passes X s.heap X h₃ := fun b o nx e => ⟨nx, up b o (fun z => nx (z ▸ hX)) e⟩
  rw [List.lookup_cons] at e
  by_cases q : z = y
  · subst q
    simp only [beq_self_eq_true, Option.some.injEq] at e
    subst e
    exact ⟨u', by simp, iu'.pass ps⟩
  · rw [show (z == y) = false by simpa using q, List.lookup_cons] at e
    by_cases q' : z = x
    · subst q'
      simp only [beq_self_eq_true, Option.some.injEq] at e
      subst e
      exact ⟨u, by simp [q], iu.pass ps⟩
    · rw [show (z == x) = false by simpa using q'] at e; cases e⟩

/-- the tests of a comprehension -/
structure EvIf (w : World) (A : Around) (env : Env) (h : Heap) (ifs : List Expr) (b : Bool) : Prop where
  run : ∀ (s : Shared) (Q : Bool → Shared → Prop) (E : Value → Shared → Prop), Ext h s.heap → (∀ s', Kp s s' → Q b s') →
    wpAny (model PR w) A (forIn ifs true fun c r => if r = true then do let ok ← isTrue c env (eval c env); pure (ForInStep.yield ok) else pure (ForInStep.yield r)) Q E s
theorem EvIf.nil : EvIf w A env h [] true := ⟨fun s _ _ _ hQ => wpAny_tests_nil (hQ s (Kp.refl s))⟩
theorem EvIf.one {t : Expr} {b : Bool} (x : EvT w A env h t b) : EvIf w A env h [t] b := ⟨fun s _ _ hs hQ => wpAny_tests_one (x.run s _ _ hs hQ)⟩
theorem comp_loop {elt target iter : Expr} {ifs : List Expr} {scope : Scope} {pos : Pos} {it acc : Value} {env : Env} {R : Result → Shared → Prop} {s : Shared} (I : Nat → Shared → Prop)
    (turn : ∀ n s, I n s → ∀ E', wpAny (model PR w) A (pyNext it) (fun r s₁ => match r with
      | none => R (.ok .next) s₁
      | some v => wpAny (model PR w) A (letOwnedTupleGo target it v) (fun _ s₁' => wpAny (model PR w) A (assign target env v) (fun _ s₂ =>
          wpAny (model PR w) A (forIn ifs true fun c r => if r = true then do let ok ← isTrue c env (eval c env); pure (ForInStep.yield ok) else pure (ForInStep.yield r)) (fun ok s₃ =>
            if ok = true then wpAny (model PR w) A (eval elt env) (fun x s₄ => wpAny (model PR w) A (call (.builtin "list.append") [acc, x]) (fun _ s₅ => ∃ m, m < n ∧ I m s₅) E' s₄) E' s₃
            else ∃ m, m < n ∧ I m s₃) E' s₂) E' s₁') E' s₁) E' s)
    (n : Nat) (h : I n s) : codeAny (model PR w) A (.compLoop (.ListComp elt [⟨target, iter, ifs, 0⟩] scope pos) 0 it acc env) R s := by
  refine codeAny_loop rfl I (fun n s hI => ?_) n h
  show wpAny _ A ((compTurn (.ListComp elt [⟨target, iter, ifs, 0⟩] scope pos) 0 it acc env).onRaise (fun x => do noteFrame x env; theTreesLotGoes x)) _ _ s
  refine wpAny_noted ?_
  rw [compTurn_list]
  refine wpAny_bind (wpAny_standAt (wpAny_bind (wpAny_mono (turn n s hI _) (fun r s₁ h₁ => ?_) fun _ _ h' => h')))
  cases r with
  | none => exact wpAny_pure h₁
  | some v =>
    refine wpAny_bind (wpAny_mono h₁ (fun _ s₁' h₁' => ?_) fun _ _ h' => h')
    refine wpAny_bind (wpAny_mono h₁' (fun _ s₂ h₂ => wpAny_bind (wpAny_mono h₂ (fun ok s₃ h₃ => ?_) fun _ _ h' => h')) fun _ _ h' => h')
    cases ok with
    | false => exact wpAny_pure ⟨rfl, h₃⟩
    | true => exact wpAny_bind (wpAny_bind (wpAny_mono h₃ (fun x s₄ h₄ => wpAny_bind (wpAny_mono h₄ (fun _ s₅ h₅ => wpAny_pure (wpAny_pure ⟨rfl, h₅⟩)) fun _ _ h' => h')) fun _ _ h' => h'))

theorem Kp.trans0 {a b : Shared} (x : Kp a b) {h : Heap} {t : Nat} (e : Ext a.heap h) : Kp a { b with heap := h, toks := t } := by
  obtain ⟨h', t', rfl, _⟩ := x
  exact ⟨h, t, rfl, e⟩
theorem take_step {α : Type} (l : List α) (i : Nat) (a : α) (h : l[i]? = some a) (p : α → Bool) (F : α → AV) : ((l.take (i + 1)).filter p).map F = ((l.take i).filter p).map F ++ (if p a then [F a] else []) := by
  rw [List.take_add_one, h, List.filter_append, List.map_append]
  cases hp : p a <;> simp [hp]
/-- a list comprehension, its end given -/
theorem comp_core {α : Type} {l : List α} {f : α → AV} (g : α → Rho) (p : α → Bool) (F : α → AV) {ts : List Str} {elt target iter : Expr} {ifs : List Expr} {scope : Scope} {pos pos' : Pos} {use : Option (Value → Sem Unit)} {Q : Value → Shared → Prop} {E : Value → Shared → Prop} {s : Shared}
    (c : Ctx w env X ρ s.heap) (hit : EvIt w A env X s.heap iter (l.map f)) (hz : l.length ≤ 1000000) (hb : ∀ a, Binds w A scope target (f a) (g a)) (hg : ∀ a, (g a).map (·.1) = ts)
    (hfs : ∀ v, foldedSetIterable iter env v = pure v) (hkind : scope.kind = .function) (hlo : localsOk scope ts = true) (hco : closOk scope env = true)
    (turn : ∀ (C : Addr) (X' : Addr → Prop) (h' : Heap) (a : α), a ∈ l → Ctx w (compEnvC scope (closOf scope env) C env) X' (g a ++ ρ) h' →
      EvIf w A (compEnvC scope (closOf scope env) C env) h' ifs (p a) ∧ (p a = true → Ev w A (compEnvC scope (closOf scope env) C env) X' h' elt (F a)))
    (hpost : ∀ (C D : Addr) (s' : Shared), Kp s s' → s.heap.get? C = none → (∃ m, s'.heap.Ns C m) → Is (fun b => X b ∨ b = C) s'.heap (.ref D) (.lst ((l.filter p).map F)) → compPost (model PR w) A E use Q (.ref D) C (.ok .next) s') :
    wpAny (model PR w) A (comprehension (.ListComp elt [⟨target, iter, ifs, 0⟩] scope pos) scope env pos' (newList []) false (eval iter env) use) Q E s := by
  have hlo' := Bool.and_eq_true_iff.mp hlo
  have hl2 : ∀ y ∈ scope.names, y.2 ≠ .cell ∧ (y.2 = .local → scope.names.lookup y.1 = some .local ∧ ((y.1 == (".0" : Str)) = true ∨ y.1 ∈ ts)) := fun y hy => by
    have := List.all_eq_true.mp hlo'.2 y hy
    rw [Bool.and_eq_true] at this
    refine ⟨by simpa using this.1, fun hl => ?_⟩
    have h2 := this.2
    rw [hl, show (NameKind.local != NameKind.local) = false from rfl, Bool.false_or, Bool.and_eq_true, Bool.or_eq_true] at h2
    exact ⟨beq_iff_eq.mp h2.1, h2.2.imp id (by simp)⟩
  have hcell : ∀ y ∈ scope.names, y.2 ≠ .cell := fun y hy => (hl2 y hy).1
  refine wpAny_comprehension_free (use := use) rfl hfs (clos_eq hco) hkind (fun y hy hl => ((hl2 y hy).2 hl).1) ?_
  refine hit.run s _ _ (Ext.refl _) fun it s₂ k₂ it₂ => ?_
  obtain ⟨I, fp, wr, Pn, St, rfl, Wk, hst, hP, hwr, hwi, hws, hfx, hq⟩ := it₂
  refine wpAny_newObj_type (wpAny_newFunctionEnv hcell (by intro y hy; simp at hy) (fun h₁ hns₁ hsb₁ => ?_) hkind) (show (0 : Nat) ≤ sizeLine from Nat.zero_le _)
  dsimp only at hns₁ hsb₁ ⊢
  generalize hH2 : s₂.heap.push { cls := .type "list", dict := none, data := .seq ([] : List Value).toArray } = H2 at hns₁ hsb₁ ⊢
  have hCD : H2.objs.size = s₂.heap.objs.size + 1 := by rw [← hH2, Heap.size_push]
  have hDo : ∀ o, H2.get? s₂.heap.objs.size = some o → o = { cls := .type "list", dict := none, data := .seq ([] : List Value).toArray } := fun o e => by
    rw [← hH2, Heap.get?_push_size _ rfl] at e
    exact (Option.some.inj e).symm
  have hDi : H2.get? s₂.heap.objs.size = some { cls := .type "list", dict := none, data := .seq ([] : List Value).toArray } := by rw [← hH2]; exact Heap.get?_push_size _ rfl
  have hfr : ∀ b, s₂.heap.objs.size ≤ b → s₂.heap.get? b = none := fun b hb => by
    cases e : s₂.heap.get? b with
    | none => rfl
    | some o => exact absurd (Heap.lt_size e) (Nat.not_lt.mpr hb)
  have hH2e : ∀ b o, s₂.heap.get? b = some o → H2.get? b = some o := fun b o e => by rw [← hH2]; exact Heap.get?_push_of_some _ e
  have h₁o : ∀ b o, b ≠ H2.objs.size → H2.get? b = some o → h₁.get? b = some o := fun b o hb e => hsb₁.extBut b o hb (Heap.get?_push_of_some _ e)
  have hC2 : s₂.heap.get? H2.objs.size = none := hfr _ (by omega)
  have hD2 : s₂.heap.get? s₂.heap.objs.size = none := hfr _ (Nat.le_refl _)
  have hDC : s₂.heap.objs.size ≠ H2.objs.size := by omega
  have hD1 : h₁.PlainList s₂.heap.objs.size #[] := ⟨_, h₁o _ _ hDC hDi⟩
  generalize hD : s₂.heap.objs.size = D at *
  generalize hC : H2.objs.size = C at *
  have hCs : s.heap.get? C = none := by
    cases e : s.heap.get? C with
    | none => rfl
    | some o => rw [k₂.ext C o e] at hC2; cases hC2
  have hDs : s.heap.get? D = none := by
    cases e : s.heap.get? D with
    | none => rfl
    | some o => rw [k₂.ext D o e] at hD2; cases hD2
  have hwC : C ∉ wr := fun q => by obtain ⟨o, e⟩ := hwi C q; rw [hC2] at e; cases e
  have hwD : D ∉ wr := fun q => by obtain ⟨o, e⟩ := hwi D q; rw [hD2] at e; cases e
  have hfC : C ∉ fp := fun q => (hfx C q).elim hwC fun ⟨_, _, o, e⟩ => by rw [hC2] at e; cases e
  have hfD : D ∉ fp := fun q => (hfx D q).elim hwD fun ⟨_, _, o, e⟩ => by rw [hD2] at e; cases e
  have hXC : ¬ X C := fun q => by obtain ⟨o, e⟩ := c.xin C q; rw [hCs] at e; cases e
  have hXD : ¬ X D := fun q => by obtain ⟨o, e⟩ := c.xin D q; rw [hDs] at e; cases e
  obtain ⟨X', hX'⟩ : ∃ X' : Addr → Prop, X' = fun b => X b ∨ b ∈ wr ∨ b = C ∨ b = D := ⟨_, rfl⟩
  have xC : X' C := by rw [hX']; exact .inr (.inr (.inl rfl))
  have xD : X' D := by rw [hX']; exact .inr (.inr (.inr rfl))
  have xw : ∀ b ∈ wr, X' b := fun b q => by rw [hX']; exact .inr (.inl q)
  have xx : ∀ b, X b → X' b := fun b q => by rw [hX']; exact .inl q
  -- what was there in s stays
  have fr : ∀ (H : Heap), (∀ b o, b ∉ wr → b ≠ C → b ≠ D → s₂.heap.get? b = some o → H.get? b = some o) → Passes X s.heap X' H ∧ Ext s.heap H := fun H hk => by
    have ex : Ext s.heap H := fun b o e => hk b o (fun q => by rw [hwr b q] at e; cases e) (fun q => by rw [q, hCs] at e; cases e) (fun q => by rw [q, hDs] at e; cases e) (k₂.ext b o e)
    refine ⟨fun b o nx e => ⟨fun q => ?_, ex b o e⟩, ex⟩
    rw [hX'] at q
    rcases q with q | q | q | q
    · exact nx q
    · rw [hwr b q] at e; cases e
    · rw [q, hCs] at e; cases e
    · rw [q, hDs] at e; cases e
  have ps₂ : ∀ (H : Heap), (∀ b o, b ∉ wr → b ≠ C → b ≠ D → s₂.heap.get? b = some o → H.get? b = some o) → Passes (fun b => X b ∨ b ∈ wr) s₂.heap X' H := fun H hk b o nx e => by
    have n1 : b ≠ C := fun q => by rw [q, hC2] at e; cases e
    have n2 : b ≠ D := fun q => by rw [q, hD2] at e; cases e
    refine ⟨fun q => ?_, hk b o (fun q => nx (.inr q)) n1 n2 e⟩
    rw [hX'] at q
    rcases q with q | q | q | q
    · exact nx (.inl q)
    · exact nx (.inr q)
    · exact n1 q
    · exact n2 q
  have loop : codeAny (model PR w) A (.compLoop (.ListComp elt [⟨target, iter, ifs, 0⟩] scope pos) 0 (.ref I) (.ref D) (compEnvC scope (closOf scope env) C env)) (compPost (model PR w) A E use Q (.ref D) C) { s₂ with heap := h₁, toks := s₂.toks + ([] : List (Str × Value)).length } := by
    refine comp_loop (fun n s' => ∃ i vs m, i ≤ l.length ∧ n = l.length + 1 - i ∧ (∃ tk, s' = { s₂ with heap := s'.heap, toks := tk }) ∧ (∀ b o, b ∉ wr → b ≠ C → b ≠ D → s₂.heap.get? b = some o → s'.heap.get? b = some o) ∧ St i s'.heap ∧
      s'.heap.PlainList D vs ∧ IsL X' s'.heap vs.toList (((l.take i).filter p).map F) ∧ s'.heap.Ns C m ∧ XIn X' s'.heap) ?_ (l.length + 1) ⟨0, #[], _, Nat.zero_le _, rfl, ⟨_, rfl⟩, ?_, ?_, hD1, (by simpa using IsL.nil), hns₁, ?_⟩
    · rintro n s' ⟨i, vs, m, hi, rfl, ⟨tk, hs'⟩, hk, st, hpl, hil, hns, xin⟩ E'
      by_cases hlt : i < l.length
      · refine Wk.item i s' _ _ (by rw [List.length_map]; exact hlt) st fun v h' tk' hv hst' hk' => ?_
        obtain ⟨d, hd, hid⟩ := hP i v (by rw [List.length_map]; exact hlt) hv
        obtain ⟨a, ha, rfl⟩ : ∃ a, l[i]? = some a ∧ f a = d := by
          rw [List.getElem?_map] at hd
          cases e : l[i]? with
          | none => rw [e] at hd; cases hd
          | some a => rw [e] at hd; exact ⟨a, rfl, Option.some.inj hd⟩
        have hk1 : ∀ b o, b ∉ wr → b ≠ C → b ≠ D → s₂.heap.get? b = some o → h'.get? b = some o := fun b o n1 n2 n3 e => hk' b o n1 (hk b o n1 n2 n3 e)
        have xin1 : XIn X' h' := fun b q => by
          by_cases z : b ∈ wr
          · exact hws (i + 1) h' hst' b z
          · obtain ⟨o, e⟩ := xin b q; exact ⟨o, hk' b o z e⟩
        have ps1 : Passes X' s'.heap X' h' := fun b o nx e => ⟨nx, hk' b o (fun q => nx (xw b q)) e⟩
        refine (hb a).run X' { s' with heap := h', toks := tk' } (compEnvC scope (closOf scope env) C env) I v m _ _ (by simp [compEnvC, relabel, hkind]) (fun x hx => lookup_relabel_local hx) xin1 xC (hns.at' fun o e => hk' _ o hwC e) (hid.pass (ps₂ _ hk1)) (hq _ _ hst') fun h₂ tk₂ m₂ hn₂ hρ hk₂ => ?_
        have hk2 : ∀ b o, b ∉ wr → b ≠ C → b ≠ D → s₂.heap.get? b = some o → h₂.get? b = some o := fun b o n1 n2 n3 e => hk₂ b o n2 (hk1 b o n1 n2 n3 e)
        have ps2 : Passes X' h' X' h₂ := fun b o nx e => ⟨nx, hk₂ b o (fun q => nx (q ▸ xC)) e⟩
        have xin2 : XIn X' h₂ := fun b q => by
          by_cases z : b = C
          · obtain ⟨o, _, _, e, _⟩ := hn₂; exact ⟨o, z ▸ e⟩
          · obtain ⟨o, e⟩ := xin1 b q; exact ⟨o, hk₂ b o z e⟩
        obtain ⟨psC, exC⟩ := fr h₂ hk2
        have cx : Ctx w (compEnvC scope (closOf scope env) C env) X' (g a ++ ρ) h₂ := by
          refine ⟨c.gl.ext exC, xin2, fun x av e hkn hz => ?_⟩
          rw [List.lookup_append] at e
          cases eg : (g a).lookup x with
          | some av' =>
            rw [eg] at e
            cases e
            obtain ⟨u, hu, iu⟩ := hρ x _ eg
            have hm : x ∈ ts := by rw [← hg a]; exact List.mem_map.mpr ⟨(x, _), PySem.mem_of_lookup eg, rfl⟩
            have := List.all_eq_true.mp hlo'.1 x hm
            exact ⟨u, .inl ⟨lookup_relabel_local (beq_iff_eq.mp this), m₂, hn₂, hu⟩, iu⟩
          | none =>
            rw [eg] at e
            have e : ρ.lookup x = some av := e
            have hnt : x ∉ ts := fun hm => by
              rw [← hg a] at hm
              obtain ⟨⟨y, u⟩, hy, rfl⟩ := List.mem_map.mp hm
              have : ∀ (r : Rho), (y, u) ∈ r → r.lookup y ≠ none := by
                intro r
                induction r with
                | nil => intro h; cases h
                | cons q r ih =>
                  intro h
                  obtain ⟨y', u'⟩ := q
                  rw [List.lookup_cons]
                  split
                  · intro z; cases z
                  · rename_i q
                    rcases List.mem_cons.mp h with z | z
                    · cases z; simp at q
                    · exact ih z
              exact this _ hy eg
            have hkx : (compEnvC scope (closOf scope env) C env).kindOf x = (scope.names.lookup x).map fun k => if (k == NameKind.free && env.scope.kind == .function && env.kindOf x == some .cell) = true then NameKind.cell else k := relabel_lookup
            have hfree : scope.names.lookup x = some .free ∧ ((compEnvC scope (closOf scope env) C env).kindOf x = some .cell ∨ (compEnvC scope (closOf scope env) C env).kindOf x = some .free) := by
              cases en : scope.names.lookup x with
              | none =>
                rw [en] at hkx
                unfold Known at hkn
                rw [hkx] at hkn
                exact absurd hkn (by simp)
              | some k =>
                have hmem := PySem.mem_of_lookup en
                rw [en] at hkx
                cases k with
                | «local» => exact absurd ((hl2 _ hmem).2 rfl).2 (fun z => z.elim (fun z => by rw [hz] at z; cases z) hnt)
                | cell => exact absurd rfl (hcell _ hmem)
                | free =>
                  refine ⟨rfl, ?_⟩
                  rw [hkx]
                  simp only [Option.map_some]
                  split
                  · exact .inl rfl
                  · exact .inr rfl
                | _ =>
                  unfold Known at hkn
                  rw [hkx] at hkn
                  exact absurd hkn (by simp)
            obtain ⟨cc, hcc⟩ := Option.isSome_iff_exists.mp (closOf_some (env := env) hfree.1)
            obtain ⟨hce, hke⟩ := closOf_lookup hco hcc
            have hke' : Known env x = true := by
              unfold Known
              rcases hke with z | z
              · rw [z, hce]; rfl
              · rw [z]; rfl
            obtain ⟨u, hu, iu⟩ := c.var x av e hke' hz
            refine ⟨u, .inr ⟨hfree.2, cc, hcc, ?_⟩, iu.pass psC⟩
            rcases hu with ⟨z, _⟩ | ⟨_, c', z, ic⟩
            · rcases hke with y | y <;> · rw [y] at z; cases z
            · rw [hce] at z; cases z
              exact ic.keeps exC
        obtain ⟨et, ee⟩ := turn C X' h₂ a (List.mem_of_getElem? ha) cx
        refine et.run _ _ _ (Ext.refl _) fun s₃ k₃ => ?_
        have hst₂ : St (i + 1) h₂ := Wk.frame _ _ _ hst' fun b hb o e => hk₂ b o (fun q => hfC ((show b = C from q) ▸ hb)) e
        have hpl₂ : h₂.PlainList D vs := (hpl.at fun o e => hk' D o hwD e).at fun o e => hk₂ D o hDC e
        have hil₂ : IsL X' h₂ vs.toList (((l.take i).filter p).map F) := (hil.pass ps1).pass ps2
        obtain ⟨h₃, tk₃, rfl, ex₃⟩ := k₃
        cases hp : p a with
        | false =>
          simp only [Bool.false_eq_true, if_false]
          refine ⟨l.length + 1 - (i + 1), by omega, i + 1, vs, m₂, hlt, rfl, ⟨tk₃, by rw [hs']⟩, fun b o n1 n2 n3 e => ex₃ b o (hk2 b o n1 n2 n3 e), Wk.frame _ _ _ hst₂ fun b _ o e => ex₃ b o e, hpl₂.at fun o e => ex₃ D o e, ?_, hn₂.keeps ex₃, xin2.ext ex₃⟩
          rw [take_step l i a ha, hp]
          simpa using hil₂.ext ex₃
        | true =>
          simp only [if_true]
          refine (ee hp).run _ _ _ ex₃ fun y s₄ k₄ i₄ => ?_
          obtain ⟨h₄, tk₄, rfl, ex₄⟩ := k₄
          have exx : Ext h₂ h₄ := fun b o e => ex₄ b o (ex₃ b o e)
          have hvs : vs.size ≤ l.length := by
            have e1 := hil.length
            have e2 : ((l.take i).filter p).length ≤ (l.take i).length := List.length_filter_le _ _
            rw [List.length_map] at e1
            rw [List.length_take] at e2
            have : vs.toList.length = vs.size := by simp
            omega
          refine wpAny_list_append_plain (hsz := by rw [sizeLine_eq]; omega) (hpl₂.at fun o e => exx D o e) fun h₅ hl₅ hs₅ => ?_
          have up5 : ∀ b o, b ≠ D → h₄.get? b = some o → h₅.get? b = some o := fun b o n e => hs₅.extBut b o n e
          have ps5 : Passes X' h₄ X' h₅ := fun b o nx e => ⟨nx, up5 b o (fun q => nx (q ▸ xD)) e⟩
          refine ⟨l.length + 1 - (i + 1), by omega, i + 1, vs.push y, m₂, hlt, rfl, ⟨tk₄, by rw [hs']⟩, fun b o n1 n2 n3 e => up5 b o n3 (exx b o (hk2 b o n1 n2 n3 e)), Wk.frame _ _ _ hst₂ fun b hb o e => up5 b o (fun q => hfD (q ▸ hb)) (exx b o e), hl₅, ?_,
            (hn₂.keeps exx).sameBut hs₅ (Ne.symm hDC), ?_⟩
          · rw [take_step l i a ha, hp, if_pos rfl, Array.toList_push]
            exact IsL.append (.cons (i₄.pass ps5) .nil) ((hil₂.ext exx).pass ps5)
          · intro b q
            by_cases z : b = D
            · obtain ⟨n, e⟩ := hl₅; exact ⟨_, z ▸ e⟩
            · obtain ⟨o, e⟩ := xin2 b q; exact ⟨o, up5 b o z (exx b o e)⟩
      · have hie : i = l.length := by omega
        subst hie
        refine Wk.done s' _ _ (by rw [List.length_map]; exact st) fun h' tk' hk' => ?_
        have hk1 : ∀ b o, b ∉ wr → b ≠ C → b ≠ D → s₂.heap.get? b = some o → h'.get? b = some o := fun b o n1 n2 n3 e => hk' b o n1 (hk b o n1 n2 n3 e)
        obtain ⟨_, exC⟩ := fr h' hk1
        obtain ⟨n, en⟩ := hpl
        refine hpost C D _ ?_ hCs ⟨m, hns.at' fun o e => hk' _ o hwC e⟩ ?_
        · rw [hs']
          exact k₂.trans0 exC
        · refine .lst (vs := vs.toList) (n := n) ?_ ?_ ?_
          · have := hk' D _ hwD en
            unfold lstObj
            simpa using this
          · intro q; exact q.elim hXD hDC
          · rw [List.take_length] at hil
            exact hil.pass fun b o nx e => ⟨fun q => nx (q.elim (xx b) fun z => z ▸ xC), hk' b o (fun q => nx (xw b q)) e⟩
    · exact fun b o _ n2 _ e => h₁o b o n2 (hH2e b o e)
    · exact Wk.frame _ _ _ hst fun b hb o e => h₁o b o (fun q => hfC (q ▸ hb)) (hH2e b o e)
    · intro b q
      rw [hX'] at q
      rcases q with q | q | q | q
      · obtain ⟨o, e⟩ := c.xin b q
        exact ⟨o, h₁o b o (fun z => hXC (z ▸ q)) (hH2e b o (k₂.ext b o e))⟩
      · obtain ⟨o, e⟩ := hwi b q
        exact ⟨o, h₁o b o (fun z => hwC (z ▸ q)) (hH2e b o e)⟩
      · obtain ⟨o, _, _, e, _⟩ := hns₁; exact ⟨o, q ▸ e⟩
      · obtain ⟨n, e⟩ := hD1; exact ⟨_, q ▸ e⟩
  have hst₁ : St 0 h₁ := Wk.frame _ _ _ hst fun b hb o e => h₁o b o (fun q => hfC (q ▸ hb)) (hH2e b o e)
  exact codeAny_compStart_list loop (Wk.self 0 _ _ _ hst₁ loop)
end
end
section

open PySem PySem.W PyProof PyProof.Rows
section
variable {w : World} {A : Around} {env : Env} {X : Addr → Prop} {h : Heap} {ρ : Rho}
theorem Ev.comp {α : Type} {l : List α} {f : α → AV} (g : α → Rho) (p : α → Bool) (F : α → AV) {ts : List Str} {elt target iter : Expr} {ifs : List Expr} {scope : Scope} {pos : Pos}
    (c : Ctx w env X ρ h) (hit : EvIt w A env X h iter (l.map f)) (hz : l.length ≤ 1000000) (hb : ∀ a, Binds w A scope target (f a) (g a)) (hg : ∀ a, (g a).map (·.1) = ts)
    (hfs : ∀ v, foldedSetIterable iter env v = pure v) (hkind : scope.kind = .function) (hlo : localsOk scope ts = true) (hco : closOk scope env = true)
    (turn : ∀ (C : Addr) (X' : Addr → Prop) (h' : Heap) (a : α), a ∈ l → Ctx w (compEnvC scope (closOf scope env) C env) X' (g a ++ ρ) h' →
      EvIf w A (compEnvC scope (closOf scope env) C env) h' ifs (p a) ∧ (p a = true → Ev w A (compEnvC scope (closOf scope env) C env) X' h' elt (F a))) :
    Ev w A env X h (.ListComp elt [⟨target, iter, ifs, 0⟩] scope pos) (.lst ((l.filter p).map F)) := ⟨fun s Q E hs hQ => by
  rw [eval_ListComp]
  refine comp_core g p F (use := none) (c.up hs) (hit.up hs) hz hb hg hfs hkind hlo hco turn fun C D s' k hC hn i => ?_
  obtain ⟨m, hn⟩ := hn
  refine ⟨m, hn, fun h' hs' => ?_⟩
  refine hQ _ _ (k.trans0 (t := s'.toks) fun b o e => (hs'.2 b fun z => by rw [z, hC] at e; cases e).trans (k.ext b o e)) ?_
  exact i.pass fun b o nx e => ⟨fun q => nx (.inl q), (hs'.2 b fun z => nx (.inr z)).trans e⟩⟩

theorem preSum_nat (l : List Nat) : ∀ n, n ≤ l.length → preSum (fun i => ((l.getD i 0 : Nat) : Int)) n = (((l.take n).sum : Nat) : Int)
  | 0, _ => by simp [preSum]
  | n + 1, h => by
    rw [preSum, preSum_nat l n (by omega), List.take_add_one, List.sum_append]
    have : l[n]? = some (l.getD n 0) := by rw [List.getD_eq_getElem?_getD, List.getElem?_eq_getElem (by omega)]; rfl
    rw [this]
    simp
theorem CallIs.sumN {l : List Nat} (hh : A.handled = none) : CallIs w A X h (.builtin "sum") [.lst (l.map AV.nat)] (.nat l.sum) := ⟨fun s vs Q E _ i hQ => by
  obtain ⟨v, rfl, j⟩ := i.one
  cases j with | lst e nx r =>
  rename_i a vs n
  have hL : s.heap.IsList a vs.toArray := ⟨_, e, rfl, n, rfl⟩
  refine call_sum_walkG (wpAny_pyIter_list hL ?_)
  have hne : a ≠ s.heap.objs.size := Nat.ne_of_lt (Heap.lt_size e)
  have ext := Ext.push s.heap { cls := .type "list_iterator", data := .fields #[.ref a, .int 0 0] }
  have W := Walks.list (prog := PR) (w := w) (A := A.in1) hh s.heap.objs.size a hne vs.toArray
  refine ⟨_, _, _, _, _, _, (fun i => ((l.getD i 0 : Nat) : Int)), rfl, W, ⟨⟨_, Heap.get?_push_size _ rfl, rfl, rfl⟩, ⟨_, ext _ _ e, rfl, n, rfl⟩⟩, ?_, ?_, ?_⟩
  · intro b hb
    rw [Heap.size_push]
    rcases List.mem_cons.mp hb with z | z
    · rw [z]; exact Nat.lt_succ_self _
    · rw [List.mem_singleton.mp z]; exact Nat.lt_succ_of_lt (Heap.lt_size e)
  · intro i v hv
    obtain ⟨d, hd, id⟩ := r.get' (i := i) (v := v) (by simpa using hv)
    rw [List.getElem?_map] at hd
    cases el : l[i]? with
    | none => rw [el] at hd; cases hd
    | some k =>
      rw [el] at hd
      cases hd
      cases id
      have : l.getD i 0 = k := by rw [List.getD_eq_getElem?_getD, el]; rfl
      dsimp only
      rw [this]
      exact ⟨_, rfl⟩
  · intro h' tk t' hk
    have ex : Ext s.heap h' := fun b o e => hk b o (fun q => by rw [List.mem_singleton.mp q] at e; exact Nat.lt_irrefl _ (Heap.lt_size e)) (ext b o e)
    refine hQ _ _ ⟨h', tk, rfl, ex⟩ ?_
    have hl : vs.toArray.size = l.length := by rw [List.size_toArray, r.length, List.length_map]
    rw [hl, preSum_nat l l.length (Nat.le_refl _), List.take_length]
    exact .int _ _⟩
theorem strs_of {ls : List (List Nat)} : ∀ {vs : List Value}, IsL X h vs (ls.map fun t => .str (S t)) → ∃ l : List (Str × Tok), vs = strValues l ∧ l.map (·.1) = ls.map S := by
  induction ls with
  | nil => intro vs i; cases i; exact ⟨[], rfl, rfl⟩
  | cons t r ih =>
    intro vs i
    cases i with | cons i is =>
    obtain ⟨l, rfl, hl⟩ := ih is
    cases i
    rename_i tk
    exact ⟨(S t, tk) :: l, rfl, by simp [hl]⟩
theorem join_flat (ls : List (List Nat)) : Txt.join (Str.ofString "") (ls.map S) = S ls.flatten := by
  have key : ∀ (r : List (List Nat)) (a : List Nat), (r.map S).foldl (fun (acc : Array Nat) (p : Str) => acc ++ (Str.ofString "").cps ++ p.cps) a.toArray = (a ++ r.flatten).toArray := by
    intro r
    induction r with
    | nil => intro a; simp
    | cons t r ih =>
      intro a
      rw [List.map_cons, List.foldl_cons]
      have e : a.toArray ++ (Str.ofString "").cps ++ (S t).cps = (a ++ t).toArray := by
        rw [show (Str.ofString "").cps = #[] from rfl]; simp [S]
      rw [e, ih]
      simp
  match ls with
  | [] => rfl
  | t :: r =>
    show Builtin.Str.glued _ _ = _
    unfold Builtin.Str.glued
    simp only [List.map_cons, List.drop_one, List.tail_cons, List.headD_cons]
    have := key r t
    rw [this]
    simp [S]
theorem JoinOk_small {ls : List (List Nat)} (hz : ls.flatten.length ≤ 1000000) : JoinOk (Str.ofString "") (ls.map S) = true := by
  unfold JoinOk
  rw [Bool.not_eq_true', StrLaws.joinTotal]
  have e1 : ((ls.map S).map (·.length)).sum = ls.flatten.length := by
    rw [List.length_flatten, List.map_map]
    exact congrArg List.sum (List.map_congr_left fun t _ => S_len t)
  rw [e1, show (Str.ofString "").length = 0 from rfl]
  unfold PySem.Builtin.Str.tooLong
  rw [sizeLine_eq]
  simp only [decide_eq_false_iff_not]
  omega
theorem Ev.join {e : Expr} {k : Nat} {p ap pos : Pos} {pl : Sem Bool} {ls : List (List Nat)} (y : EvL w A env X h pos [e] [.lst (ls.map fun t => .str (S t))]) (hz : ls.flatten.length ≤ 1000000)
    (hc : eval (.Call (.Attribute (.Constant (.str (Str.ofString "")) k p) "join" ap) [e] [] pos) env = (do
      let ov ← eval (.Constant (.str (Str.ofString "")) k p) env
      standAt ap.atName
      let (f, first) ← holding [ov] (getMethod ov "join" pl)
      callWith pos f first (backTo pos (starEach [e] env)) []))
    (he : starEach [e] env = (false, eval e env) :: starEach [] env) : Ev w A env X h (.Call (.Attribute (.Constant (.str (Str.ofString "")) k p) "join" ap) [e] [] pos) (.str (S ls.flatten)) := ⟨fun s Q E hs hQ => by
  refine MethodCall_ (pl := pl) (PySem.Calls.Constant_str (GM.join (callWith_method1 (y.run _ _ _ (hs.trans (Kp.tok s _).ext) fun vs s₂ k₂ i₂ => ?_) he rfl))) hc
  obtain ⟨v, rfl, j⟩ := i₂.one
  cases j with | lst e nx r =>
  rename_i a vs n
  obtain ⟨l, rfl, hl⟩ := strs_of r
  refine SC.join (texts := ls.map S) ⟨_, e, rfl, n, rfl⟩ hl (JoinOk_small hz) fun t' tk => ?_
  rw [join_flat]
  exact hQ _ _ ((Kp.tok s _).trans (k₂.trans (Kp.tok _ _))) (.str _ _)⟩
-- lists
theorem o_addL {a b : List AV} (xi : XIn X h) (hz : a.length + b.length ≤ 1000000) : ∀ (s : Shared) (v u : Value) (Q : Value → Shared → Prop) (E : Value → Shared → Prop), Ext h s.heap → Is X s.heap v (.lst a) → Is X s.heap u (.lst b) →
    (∀ r s', Kp s s' → Is X s'.heap r (.lst (a ++ b)) → Q r s') → wpAny (model PR w) A (binaryOp .Add v u) Q E s := fun s v u Q E hs i j hQ => by
  cases i with | lst e nx r =>
  cases j with | lst e' nx' r' =>
  rename_i a₁ vs n a₂ vs' n'
  refine PySem.P.add_list e e' ?_ (by rw [List.size_toArray, List.size_toArray, r.length, r'.length, sizeLine_eq]; omega)
  have ext := Ext.push s.heap { cls := .type "list", data := .seq (vs.toArray ++ vs'.toArray) }
  refine hQ _ _ (Kp.mk ext) (.lst (vs := vs ++ vs') (n := 0) ?_ (XIn.fresh (xi.ext hs) (Nat.le_refl _)) ((IsL.append r' r).ext ext))
  have := Heap.get?_push_size s.heap (o := { cls := .type "list", data := .seq (vs.toArray ++ vs'.toArray) }) rfl
  unfold lstObj
  simpa using this
theorem Ev.addL {l r : Expr} {p : Pos} {a b : List AV} (x : Ev w A env X h l (.lst a)) (y : Ev w A env X h r (.lst b)) (xi : XIn X h) (hz : a.length + b.length ≤ 1000000) : Ev w A env X h (.BinOp l .Add r p) (.lst (a ++ b)) := ⟨fun s _ _ hs hQ => by
  with_reducible exact wpAny_BinOp (x.run s _ _ hs fun v s₁ k₁ i₁ => y.run s₁ _ _ (hs.trans k₁.ext) fun u s₂ k₂ i₂ => o_addL xi hz s₂ v u _ _ (hs.trans (k₁.trans k₂).ext) (i₁.ext k₂.ext) i₂ fun r s₃ k₃ i₃ => hQ r s₃ (k₁.trans (k₂.trans k₃)) i₃)⟩
theorem CallIs.len_lst {l : List AV} (hz : l.length ≤ 1000000) : CallIs w A X h (.builtin "len") [.lst l] (.nat l.length) := ⟨fun s vs Q E _ i hQ => by
  obtain ⟨v, rfl, j⟩ := i.one
  cases j with | lst e nx r =>
  rename_i a vs n
  refine PyProof.Rows.len_list (items := vs.toArray) ⟨_, e, rfl, n, rfl⟩ (by rw [List.size_toArray, r.length]; omega) ?_
  rw [List.size_toArray, r.length]
  exact hQ _ _ (Kp.tok s _) (.int _ _)⟩
theorem slice_done {s : Shared} {l : List AV} {vs ws : List Value} {a : Addr} {n : Nat} {sl : Obj} (xi : XIn X s.heap) {ds : List AV} (is : IsL X s.heap ws ds) : 
    Is X ((s.heap.push sl).push { cls := .type "list", data := .seq ws.toArray }) (.ref (s.heap.objs.size + 1)) (.lst ds) := by
  have e1 := Heap.get?_push_size (s.heap.push sl) (o := { cls := .type "list", data := .seq ws.toArray }) rfl
  rw [Heap.size_push] at e1
  exact .lst (n := 0) e1 (xi.fresh (Nat.le_succ _)) (is.ext ((Ext.push _ _).trans (Ext.push _ _)))
theorem Ev.lstTo {v u : Expr} {p p' : Pos} {l : List AV} {k : Nat} (x : Ev w A env X h v (.lst l)) (y : Ev w A env X h u (.nat k)) (xi : XIn X h) (hz : l.length ≤ 1000000) (hk : k ≤ l.length)
    (ht : ∀ o r, letTemporaryGo v o r = pure ()) : Ev w A env X h (.Subscript v (.Slice none (some u) none p) p') (.lst (l.take k)) := ⟨fun s _ _ hs hQ => by
  refine wpAny_Subscript_list_slice (x.run s _ _ hs fun o s₁ k₁ i₁ => wpAny_evalPart_none (wpAny_evalPart_some (y.run s₁ _ _ (hs.trans k₁.ext) fun j s₂ k₂ i₂ => ?_))) ht
  replace i₁ := i₁.ext k₂.ext
  cases i₁ with | lst e nx r =>
  rename_i a vs n
  cases i₂
  refine ⟨a, vs.toArray, none, some (k : Int), rfl, ⟨_, e, rfl, n, rfl⟩, (by rw [List.size_toArray, r.length, sizeLine_eq]; omega), .none, .int _ _, ?_⟩
  rw [slicePick_upto _ k (by rw [List.size_toArray, r.length]; omega)]
  refine hQ _ _ (k₁.trans (k₂.trans (Kp.mk ((Ext.push _ _).trans (Ext.push _ _))))) (slice_done (l := l) (vs := vs) (a := a) (n := n) (xi.ext (hs.trans (k₁.trans k₂).ext)) (by simpa using r.take k))⟩
theorem Ev.lstFrom {v u : Expr} {p p' : Pos} {l : List AV} {k : Nat} (x : Ev w A env X h v (.lst l)) (y : Ev w A env X h u (.nat k)) (xi : XIn X h) (hz : l.length ≤ 1000000) (hk : k ≤ l.length)
    (ht : ∀ o r, letTemporaryGo v o r = pure ()) : Ev w A env X h (.Subscript v (.Slice (some u) none none p) p') (.lst (l.drop k)) := ⟨fun s _ _ hs hQ => by
  refine wpAny_Subscript_list_slice (x.run s _ _ hs fun o s₁ k₁ i₁ => wpAny_evalPart_some (y.run s₁ _ _ (hs.trans k₁.ext) fun j s₂ k₂ i₂ => wpAny_evalPart_none ?_)) ht
  replace i₁ := i₁.ext k₂.ext
  cases i₁ with | lst e nx r =>
  rename_i a vs n
  cases i₂
  refine ⟨a, vs.toArray, some (k : Int), none, rfl, ⟨_, e, rfl, n, rfl⟩, (by rw [List.size_toArray, r.length, sizeLine_eq]; omega), .int _ _, .none, ?_⟩
  rw [slicePick_from _ k (by rw [List.size_toArray, r.length]; omega)]
  refine hQ _ _ (k₁.trans (k₂.trans (Kp.mk ((Ext.push _ _).trans (Ext.push _ _))))) (slice_done (l := l) (vs := vs) (a := a) (n := n) (xi.ext (hs.trans (k₁.trans k₂).ext)) (by simpa using r.drop k))⟩
-- texts
theorem Ev.strTo {v u : Expr} {p p' : Pos} {l : List Nat} {k : Nat} (x : Ev w A env X h v (.str (S l))) (y : Ev w A env X h u (.nat k)) (hz : l.length ≤ 1000000) (hk : k ≤ l.length)
    (ht : ∀ o r, letTemporaryGo v o r = pure ()) : Ev w A env X h (.Subscript v (.Slice none (some u) none p) p') (.str (S (l.take k))) := ⟨fun s _ _ hs hQ => by
  refine Subscript_Slice (x.run s _ _ hs fun o s₁ k₁ i₁ => wpAny_Slice (wpAny_evalPart_none (wpAny_evalPart_some (y.run s₁ _ _ (hs.trans k₁.ext) fun j s₂ k₂ i₂ => wpAny_evalPart_none ?_)))) ht
  cases i₁; cases i₂
  refine SBH.sliceItem_ns (P := fun h => Ext s₂.heap h) (fun h ob k => k.trans (Ext.push h ob)) (Ext.refl _) (fun h' t' tk ex => ?_) (by rw [S_len, sizeLine_eq]; omega)
  rw [S_sliceTo hk]
  exact hQ _ _ (k₁.trans (k₂.trans ⟨h', tk, rfl, ex⟩)) (.str _ _)⟩
theorem Ev.strFrom {v u : Expr} {p p' : Pos} {l : List Nat} {k : Nat} (x : Ev w A env X h v (.str (S l))) (y : Ev w A env X h u (.nat k)) (hz : l.length ≤ 1000000) (hk : k ≤ l.length)
    (ht : ∀ o r, letTemporaryGo v o r = pure ()) : Ev w A env X h (.Subscript v (.Slice (some u) none none p) p') (.str (S (l.drop k))) := ⟨fun s _ _ hs hQ => by
  refine Subscript_Slice (x.run s _ _ hs fun o s₁ k₁ i₁ => wpAny_Slice (wpAny_evalPart_some (y.run s₁ _ _ (hs.trans k₁.ext) fun j s₂ k₂ i₂ => wpAny_evalPart_none (wpAny_evalPart_none ?_)))) ht
  cases i₁; cases i₂
  refine SBH.sliceItem_sn (P := fun h => Ext s₂.heap h) (fun h ob k => k.trans (Ext.push h ob)) (Ext.refl _) (fun h' t' tk ex => ?_) (by rw [S_len, sizeLine_eq]; omega)
  rw [S_sliceFrom hk]
  exact hQ _ _ (k₁.trans (k₂.trans ⟨h', tk, rfl, ex⟩)) (.str _ _)⟩
theorem Ev.strMid {v u u' : Expr} {p p' : Pos} {l : List Nat} {a b : Nat} (x : Ev w A env X h v (.str (S l))) (y : Ev w A env X h u (.nat a)) (z : Ev w A env X h u' (.nat b)) (hz : l.length ≤ 1000000) (hab : a ≤ b) (hb : b ≤ l.length)
    (ht : ∀ o r, letTemporaryGo v o r = pure ()) : Ev w A env X h (.Subscript v (.Slice (some u) (some u') none p) p') (.str (S ((l.drop a).take (b - a)))) := ⟨fun s _ _ hs hQ => by
  refine Subscript_Slice (x.run s _ _ hs fun o s₁ k₁ i₁ => wpAny_Slice (wpAny_evalPart_some (y.run s₁ _ _ (hs.trans k₁.ext) fun j s₂ k₂ i₂ => wpAny_evalPart_some (z.run s₂ _ _ (hs.trans (k₁.trans k₂).ext) fun j' s₃ k₃ i₃ => wpAny_evalPart_none ?_)))) ht
  cases i₁; cases i₂; cases i₃
  refine SBH.sliceItem_ss (P := fun h => Ext s₃.heap h) (fun h ob k => k.trans (Ext.push h ob)) (Ext.refl _) (fun h' t' tk ex => ?_) (by rw [S_len, sizeLine_eq]; omega)
  rw [S_slice hab hb]
  exact hQ _ _ (k₁.trans (k₂.trans (k₃.trans ⟨h', tk, rfl, ex⟩))) (.str _ _)⟩
-- isinstance
theorem CallIs.int_int {i : Int} : CallIs w A X h (.builtin "isinstance") [.int i, .raw (.type "int")] (.bool true) := ⟨fun s vs Q E _ i hQ => by
  obtain ⟨v, u, rfl, j, j'⟩ := i.two; cases j; cases j'
  exact IsiPair.int_int (hQ _ _ (Kp.refl s) (.bool _))⟩
theorem CallIs.int_bool {i : Int} : CallIs w A X h (.builtin "isinstance") [.int i, .raw (.type "bool")] (.bool false) := ⟨fun s vs Q E _ i hQ => by
  obtain ⟨v, u, rfl, j, j'⟩ := i.two; cases j; cases j'
  exact IsiPair.int_bool (hQ _ _ (Kp.tok s _) (.bool _))⟩
end
end
section

open PySem PySem.W PyProof PyProof.Rows
section
variable {w : World} {A : Around} {env : Env} {X : Addr → Prop} {h : Heap} {ρ : Rho}
theorem Ev.neg {e : Expr} {p : Pos} {i : Int} (x : Ev w A env X h e (.int i)) : Ev w A env X h (.UnaryOp .USub e p) (.int (-i)) := ⟨fun s _ _ hs hQ => by
  refine wpAny_UnaryOp (x.run s _ _ hs fun v s₁ k₁ i₁ => ?_)
  cases i₁
  exact PySem.P.neg_int (hQ _ _ (k₁.trans (Kp.tok _ _)) (.int _ _))⟩
def downTo (a b : Nat) : List AV := (List.range (a - b)).map fun i => .nat (a - i)
theorem EvIt.range3 {f e e' e'' : Expr} {p : Pos} {a b : Nat} (hh : A.handled = none) (x : Ev w A env X h f (.raw (.type "range"))) (y : EvL w A env X h p [e, e', e''] [.nat a, .nat b, .int (-1)]) (hab : b ≤ a) (hz : a ≤ 1000000)
    (hc : eval (.Call f [e, e', e''] [] p) env = (do callWith p (← eval f env) [] (backTo p (starEach [e, e', e''] env)) (backToKw p (keywordEach [] env))))
    (he : starEach [e, e', e''] env = (false, eval e env) :: starEach [e', e''] env) (hp : (backTo p (starEach [e', e''] env)).any (·.1) = false) : EvIt w A env X h (.Call f [e, e', e''] [] p) (downTo a b) := ⟨fun s Q E hs hQ => by
  with_reducible refine Call_ (x.run s _ _ hs fun v s₁ k₁ i₁ => ?_) hc
  cases i₁
  with_reducible refine PyProof.Rows.callWith_type1 (y.run s₁ _ _ (hs.trans k₁.ext) fun vs s₂ k₂ i₂ => ?_) he hp
  cases i₂ with | cons j r =>
  obtain ⟨v, u, rfl, j', j''⟩ := r.two; cases j; cases j'; cases j''
  refine PySem.call_range_3 (by decide) ?_ (.inl (PyProof.noPylong_small (by decide)))
  have hsz : Builtin.Range.rangeSize (a : Int) (b : Int) (-1) = ((a - b : Nat) : Int) := by
    unfold Builtin.Range.rangeSize
    rw [if_neg (by decide)]
    rw [show (- (-1 : Int)) = 1 by decide, Int.ediv_one]
    split <;> omega
  refine iter_range (n := a - b) hh (k₁.trans (k₂.trans (Kp.mk (Ext.push _ _)))) (IsRange.new ..) ?_ hsz (by simp [downTo]) (fun i hi => ?_) hQ
  · unfold Builtin.Range.small
    rw [hsz]
    simp only [Builtin.Range.rangeFitsLong, Bool.and_eq_true, Bool.or_eq_true, decide_eq_true_eq, beq_iff_eq]
    simp only [show ¬ ((-1 : Int) > 0) by decide, if_false]
    simp only [Bool.and_eq_true, decide_eq_true_eq]
    omega
  · unfold downTo
    rw [List.getElem?_map, List.getElem?_range hi]
    simp only [Option.map_some, AV.nat]
    congr 2
    omega⟩


/-- flat data -/
def Flat : AV → Prop
  | .none | .int _ | .str _ => True
  | _ => False
theorem eq_flat {d : AV} (hd : Flat d) {s : Shared} {v u : Value} (i : Is X s.heap v d) (j : Is X s.heap u d) : PySem.SeqAt.EqAt A s v u true := by
  match d, hd with
  | .none, _ => cases i; cases j; exact .same _
  | .int k, _ =>
    cases i; cases j
    rename_i t u
    have := PySem.SeqAt.EqAt.int_int (A := A) (s := s) k t k u
    simpa using this
  | .str k, _ =>
    cases i; cases j
    rename_i t u
    have := PySem.SeqAt.EqAt.str_str (A := A) (s := s) k t k u
    simpa using this
theorem all_true (n : Nat) : (List.range n).all (fun _ => true) = true := by simp
theorem eq_tup {l : List AV} (hl : ∀ d ∈ l, Flat d) {A : Around} (hu : A.units < cLine) {s : Shared} {v u : Value} (i : Is X s.heap v (.tup l)) (j : Is X s.heap u (.tup l)) : PySem.SeqAt.EqAt A s v u true := by
  cases i with | tup e nx r =>
  cases j with | tup e' nx' r' =>
  rename_i a vs n a' vs' n'
  by_cases q : a = a'
  · subst q; exact .same _
  · have hT : s.heap.IsTuple a vs.toArray := ⟨_, e, rfl, n, rfl⟩
    have hT' : s.heap.IsTuple a' vs'.toArray := ⟨_, e', rfl, n', rfl⟩
    have := PySem.SeqAt.EqAt.of_refs q (PySem.SeqAt.RcAt.tuples hT hT' hu (e := fun _ => true) fun k h1 h2 => ?_)
    · rw [all_true] at this
      simpa [r.length, r'.length] using this
    · have h1' : k < vs.length := by simpa using h1
      have h2' : k < vs'.length := by simpa using h2
      obtain ⟨d, hd, id⟩ := r.get' (i := k) (v := vs[k]) (List.getElem?_eq_getElem h1')
      obtain ⟨d', hd', id'⟩ := r'.get' (i := k) (v := vs'[k]) (List.getElem?_eq_getElem h2')
      rw [hd] at hd'; cases hd'
      simpa using eq_flat (A := A.in1) (hl d (List.mem_of_getElem? hd)) id id'
/-- lists of tuples of flat data -/
theorem Op2.eqL {l : List AV} (hl : ∀ d ∈ l, ∃ t, d = .tup t ∧ ∀ e ∈ t, Flat e) (hu : A.units + 1 < cLine) : Op2 w A X (compareOp .Eq) (.lst l) (.lst l) (.bool true) := ⟨fun s v u Q E i j hQ => by
  cases i with | lst e nx r =>
  cases j with | lst e' nx' r' =>
  rename_i a vs n a' vs' n'
  refine PySem.SeqAt.eq_listAt (items := vs.toArray) (items2 := vs'.toArray) (e := fun _ => true) ⟨_, e, rfl, n, rfl⟩ ⟨_, e', rfl, n', rfl⟩ (by simp [r.length, r'.length]) (by omega) (fun k h1 h2 => ?_) ?_
  · have h1' : k < vs.length := by simpa using h1
    have h2' : k < vs'.length := by simpa using h2
    obtain ⟨d, hd, id⟩ := r.get' (i := k) (v := vs[k]) (List.getElem?_eq_getElem h1')
    obtain ⟨d', hd', id'⟩ := r'.get' (i := k) (v := vs'[k]) (List.getElem?_eq_getElem h2')
    rw [hd] at hd'; cases hd'
    obtain ⟨t, rfl, ht⟩ := hl d (List.mem_of_getElem? hd)
    simpa using eq_tup (A := A.in1) ht (show A.units + 1 < cLine from hu) id id'
  · rw [all_true]
    exact hQ _ _ (Kp.refl s) (.bool _)⟩
end

section
variable {w : World} {A : Around} {Y X : Addr → Prop} {s₀ : Shared} {env : Env} {ρ : Rho} {W : Res} {s : Shared} {Q : Flow → Shared → Prop} {E : Value → Shared → Prop}
/-- a raw name is read as what it stands for -/
theorem Act.recast (a : Act w Y X s₀ env ρ W s) {x : Str} {u : Value} {av : AV} (e : ρ.lookup x = some (.raw u)) (i : Is X s.heap u av) : Act w Y X s₀ env ((x, av) :: ρ) W s := by
  have key : ∀ (y : Str) (av' : AV) (v : Value), ((x, av) :: ρ).lookup y = some av' → (∀ av'', ρ.lookup y = some av'' → Is X s.heap v av'') → Is X s.heap v av' := by
    intro y av' v q hv
    rw [List.lookup_cons] at q
    split at q
    · rename_i z
      have := hv (.raw u) (by rw [beq_iff_eq.mp z]; exact e)
      cases q
      cases this
      exact i
    · exact hv av' q
  have dom : ∀ (y : Str) (av' : AV), ((x, av) :: ρ).lookup y = some av' → ∃ av'', ρ.lookup y = some av'' := by
    intro y av' q
    rw [List.lookup_cons] at q
    split at q
    · rename_i z; exact ⟨_, by rw [beq_iff_eq.mp z]; exact e⟩
    · exact ⟨_, q⟩
  refine { a with loc := ?_, cel := ?_, fre := ?_ }
  · obtain ⟨m, h1, h2⟩ := a.loc
    refine ⟨m, h1, fun y av' k q => ?_⟩
    obtain ⟨av'', q'⟩ := dom y av' q
    obtain ⟨v, hv, _⟩ := h2 y av'' k q'
    refine ⟨v, hv, key y av' v q fun av3 q3 => ?_⟩
    obtain ⟨v', hv', i'⟩ := h2 y av3 k q3
    rw [hv] at hv'; cases hv'; exact i'
  · intro y c k q
    obtain ⟨v?, h1, h2⟩ := a.cel y c k q
    refine ⟨v?, h1, fun av' p => ?_⟩
    obtain ⟨av'', q'⟩ := dom y av' p
    obtain ⟨v, rfl, _⟩ := h2 av'' q'
    refine ⟨v, rfl, key y av' v p fun av3 q3 => ?_⟩
    obtain ⟨v', hv', i'⟩ := h2 av3 q3
    cases hv'; exact i'
  · intro y av' k p
    obtain ⟨av'', q'⟩ := dom y av' p
    obtain ⟨c, v, h1, h2, h3, _⟩ := a.fre y av'' k q'
    refine ⟨c, v, h1, h2, h3, key y av' v p fun av3 q3 => ?_⟩
    obtain ⟨c', v', h1', h2', _, i'⟩ := a.fre y av3 k q3
    rw [h1] at h1'; cases h1'
    obtain ⟨o, ho, hd⟩ := h2
    obtain ⟨o', ho', hd'⟩ := h2'
    rw [ho] at ho'; cases ho'
    rw [hd] at hd'; cases hd'
    exact i'
/-- a new list -/
theorem Act.newList (a : Act w Y X s₀ env ρ W s) {l : List AV} {vs : List Value} {n : Nat} {D : Addr} {h' : Heap} {tk : Nat} (hD : s.heap.get? D = none) (ho : h'.get? D = some (lstObj vs n)) (hi : IsL X s.heap vs l) (ex : Ext s.heap h') :
    Act w Y (fun b => X b ∨ b = D) s₀ env ρ ((Res.list D l).and W) { s with heap := h', toks := tk } := by
  have hXD : ¬ X D := fun q => by obtain ⟨o, e⟩ := a.xin D q; rw [hD] at e; cases e
  have h0 : s₀.heap.get? D = none := by
    cases e : s₀.heap.get? D with
    | none => rfl
    | some o =>
      have : ¬ Y D := fun y => hXD (a.yx D y)
      rw [a.keep D o this e] at hD; cases hD
  have ps : Passes X s.heap (fun b => X b ∨ b = D) h' := fun b o nx e => ⟨fun q => q.elim nx fun z => (by rw [z, hD] at e; cases e), ex b o e⟩
  refine a.move (fun _ => False) (fun b o _ e => ex b o e) (fun _ q => q.elim) (fun _ q => q.elim) (fun _ q => q.elim) (fun _ q => .inl q) (fun b q => q.imp id fun (z : b = D) => z ▸ hD) (fun b q r => ?_) (fun b q => ?_) ⟨⟨vs, n, ho, hi.pass ps⟩, ?_⟩
  · rcases q with q | q
    · exact r.elim (fun n => absurd q n) fun z => z.elim
    · exact ⟨_, q ▸ ho⟩
  · rcases q with q | q
    · have q : b = D := q
      subst q
      exact ⟨.inr rfl, fun z => hXD (a.own _ z), .inr h0⟩
    · have := a.wfx b q
      exact ⟨.inl this.1, this.2⟩
  · exact W.stable _ _ _ _ a.wh (fun b o _ e => ex b o e) ps
theorem x_newlist {x : Str} {p p' p'' : Pos} {rest : List Stmt} (a : Act w Y X s₀ env ρ W s) (hf : env.scope.kind = .function) (hb : Bindable env x = true)
    (k : ∀ (D : Addr) (X' : Addr → Prop) (s' : Shared), (∀ b, X b → X' b) → (∀ b, X' b → X b ∨ b = D) → ¬ X D → ¬ W.fp D → Act w Y X' s₀ env ((x, .raw (.ref D)) :: ρ) ((Res.list D []).and W) s' → wpAny (model PR w) A (execs rest env) Q E s') :
    wpAny (model PR w) A (execs (.Assign [.Name x p] (.List [] p') p'' :: rest) env) Q E s := by
  refine wpAny_execs_cons (wpAny_Assign_Name (List_ (args_nil ?_)) rfl)
  unfold newList
  refine wpAny_newObj_type ?_ (show (0 : Nat) ≤ sizeLine from Nat.zero_le _)
  have hD : s.heap.get? s.heap.objs.size = none := by
    cases e : s.heap.get? s.heap.objs.size with
    | none => rfl
    | some o => exact absurd (Heap.lt_size e) (Nat.lt_irrefl _)
  have hXD : ¬ X s.heap.objs.size := fun q => by obtain ⟨o, e⟩ := a.xin _ q; rw [hD] at e; cases e
  have a₁ := a.newList (l := []) (vs := []) (n := 0) (D := s.heap.objs.size) (h' := s.heap.push { cls := .type "list", data := .seq ([] : List Value).toArray }) (tk := s.toks) hD (Heap.get?_push_size _ rfl) .nil (Ext.push _ _)
  exact x_store a₁ (.raw _) hf hb fun s' a' => k _ _ s' (fun b q => .inl q) (fun b q => q) hXD (fun q => hXD (a.wfx _ q).1) a'
/-- a list ceases to change -/
theorem Act.freeze {D : Addr} {l : List AV} (a : Act w Y X s₀ env ρ ((Res.list D l).and W) s) (hY : ¬ Y D) (hW : ¬ W.fp D) : Act w Y (fun b => X b ∧ b ≠ D) s₀ env ρ W s ∧ Is (fun b => X b ∧ b ≠ D) s.heap (.ref D) (.lst l) := by
  have ps : Passes X s.heap (fun b => X b ∧ b ≠ D) s.heap := fun b o nx e => ⟨fun q => nx q.1, e⟩
  obtain ⟨⟨vs, n, e, i⟩, hw⟩ := a.wh
  refine ⟨?_, .lst e (fun q => q.2 rfl) (i.pass ps)⟩
  have := a.move0 (X' := fun b => X b ∧ b ≠ D) (W' := W) (h' := s.heap) (tk := s.toks) (fun _ => False) (fun b o _ e => e) (fun _ q => q.elim) (fun _ q => q.elim) ps
    (fun b q => ⟨a.own b q, fun z => (a.wfx D (.inl rfl)).2.1 (z ▸ q)⟩) (fun b q => ⟨a.yx b q, fun z => hY (z ▸ q)⟩) (fun b q => a.xin b q.1)
    (fun b q => ⟨⟨(a.wfx b (.inr q)).1, fun z => hW (z ▸ q)⟩, (a.wfx b (.inr q)).2⟩) (W.stable _ _ _ _ hw (fun _ _ _ e => e) ps)
  exact this
/-- the list's content changes -/
theorem Act.setList {D : Addr} {l l' : List AV} (a : Act w Y X s₀ env ρ ((Res.list D l).and W) s) (hW : ¬ W.fp D) {h' : Heap} {vs : List Value} {n : Nat} {tk : Nat} (ho : h'.get? D = some (lstObj vs n)) (hi : IsL X s.heap vs l') (hs : Heap.SameBut D s.heap h') :
    Act w Y X s₀ env ρ ((Res.list D l').and W) { s with heap := h', toks := tk } := by
  have wD := a.wfx D (.inl rfl)
  have ps : Passes X s.heap X h' := fun b o nx e => ⟨nx, (hs.2 b fun z => nx (z ▸ wD.1)).trans e⟩
  refine a.move (fun b => b = D) (fun b o nb e => (hs.2 b nb).trans e) (fun b q => by rw [q]; exact wD.1) (fun b q => by rw [q]; exact wD.2.1) (fun b q => by rw [q]; exact wD.2.2) (fun _ q => q) (fun _ q => .inl q) (fun b q r => ?_) a.wfx ⟨⟨vs, n, ho, hi.pass ps⟩, ?_⟩
  · rcases r with r | r
    · exact absurd q r
    · exact ⟨_, r ▸ ho⟩
  · exact W.stable _ _ _ _ a.wh.2 (fun b o f e => (hs.2 b fun z => hW (z ▸ f)).trans e) ps
theorem x_append {x : Str} {p p' p'' p3 : Pos} {e : Expr} {pl : Sem Bool} {rest : List Stmt} {D : Addr} {l : List AV} {d : AV} (a : Act w Y X s₀ env ρ ((Res.list D l).and W) s) (hn : ρ.lookup x = some (.raw (.ref D))) (hW : ¬ W.fp D) (he : EvL w A env X s.heap p'' [e] [d]) (hz : l.length ≤ 1000000)
    (hf : env.scope.kind = .function) (hk : Known env x = true) (hd : (x == ("__debug__" : Str)) = false) (hcd : (x == ("__classdict__" : Str)) = false)
    (hc : eval (.Call (.Attribute (.Name x p) "append" p') [e] [] p'') env = (do
      let ov ← eval (.Name x p) env
      standAt p'.atName
      let (f, first) ← holding [ov] (getMethod ov "append" pl)
      callWith p'' f first (backTo p'' (starEach [e] env)) []))
    (hst : starEach [e] env = (false, eval e env) :: starEach [] env) (hi : interactive env = false) (hsw : swapsWith (.Call (.Attribute (.Name x p) "append" p') [e] [] p'') none p3.line env = pure false)
    (k : ∀ s', Act w Y X s₀ env ρ ((Res.list D (l ++ [d])).and W) s' → wpAny (model PR w) A (execs rest env) Q E s') :
    wpAny (model PR w) A (execs (.Expr (.Call (.Attribute (.Name x p) "append" p') [e] [] p'') p3 :: rest) env) Q E s := by
  refine wpAny_execs_cons (wpAny_Expr (MethodCall_ (pl := pl) ((a.ev hn hf hk hd hcd).run s _ _ (Ext.refl _) fun v s₁ k₁ i₁ => ?_) hc) hi hsw)
  cases i₁
  have a₁ := a.kp k₁
  obtain ⟨⟨vs, n, ho, hi⟩, _⟩ := a₁.wh
  refine PySem.Calls.getMethod_list_append ho rfl rfl (callWith_method1 (he.run s₁ _ _ k₁.ext fun us s₂ k₂ i₂ => ?_) hst rfl)
  obtain ⟨u, rfl, iu⟩ := i₂.one
  have a₂ := a₁.kp k₂
  obtain ⟨⟨vs, n, ho, hi⟩, _⟩ := a₂.wh
  refine wpAny_list_append_plain (items := vs.toArray) (hsz := by rw [List.size_toArray, hi.length, sizeLine_eq]; omega) ⟨n, ho⟩ fun h' hl' hs' => ?_
  obtain ⟨n', hl'⟩ := hl'
  refine k _ (a₂.setList (vs := vs ++ [u]) (n := n') (tk := s₂.toks) hW ?_ (IsL.append (.cons iu .nil) hi) hs')
  unfold lstObj
  simpa using hl'
theorem fi_list : fillsInplaceSlot (.type "list") "add" (Operator.Add == .Add) = pure false := by
  unfold fillsInplaceSlot
  show (typeLookup (.type "list") (dunderI "add") >>= fun fi => pure (fi.isSome && !isSeqSlot fi)) = pure false
  rw [F.slot_list_iadd.lookup]
  show (pure (true && !isSeqSlot (some (.builtin "list.__iadd__"))) : Sem Bool) = pure false
  rw [show isSeqSlot (some (.builtin "list.__iadd__")) = true by decide +kernel]; rfl
theorem x_extend {x : Str} {p p' : Pos} {e : Expr} {rest : List Stmt} {D : Addr} {l es : List AV} (a : Act w Y X s₀ env ρ ((Res.list D l).and W) s) (hn : ρ.lookup x = some (.raw (.ref D))) (hW : ¬ W.fp D) (he : Ev w A env X s.heap e (.lst es)) (hz : l.length + es.length ≤ 1000000)
    (hf : env.scope.kind = .function) (hb : Bindable env x = true) (hc : (x == ("__classdict__" : Str)) = false)
    (k : ∀ s', Act w Y X s₀ env ((x, .raw (.ref D)) :: ρ) ((Res.list D (l ++ es)).and W) s' → wpAny (model PR w) A (execs rest env) Q E s') :
    wpAny (model PR w) A (execs (.AugAssign (.Name x p) .Add e p' :: rest) env) Q E s := by
  have hkn : Known env x = true := by unfold Known; unfold Bindable at hb; rw [hb]; rfl
  obtain ⟨v, hv, hi⟩ := a.var' hn hkn
  cases hi
  with_reducible refine wpAny_execs_cons (wpAny_AugAssign_Name (ld_run hf hv hc (he.run s _ _ (Ext.refl _) fun u s₂ k₂ i₂ => ?_)))
  have a₂ := a.kp k₂
  obtain ⟨⟨vs, n, ho, hi⟩, _⟩ := a₂.wh
  cases i₂ with | lst eo nx r =>
  rename_i b ws n'
  have hbD : b ≠ D := fun z => nx (z ▸ (a.wfx D (.inl rfl)).1)
  have hT : s₂.TypeIs (.ref D) "list" := ⟨_, ho, rfl⟩
  have hT' : s₂.TypeIs (.ref b) "list" := ⟨_, eo, rfl⟩
  unfold inplaceOp
  refine wpAny_holding ?_
  refine wpAny_bind (wpAny_typeOf hT (wpAny_bind (wpAny_of_eq fi_list ?_)))
  show wpAny _ A (if false = true then _ else _) _ E s₂
  rw [if_neg Bool.false_ne_true]
  refine wpAny_bind (wpAny_binaryOp1_none (nm := "add") hT hT' noFill_list_add ?_)
  refine wpAny_bind (wpAny_of_eq (PySem.seqSlot_of F.slot_list_iadd.lookup (by decide +kernel)) ?_)
  refine wpAny_bind (wpAny_rule ?_)
  have hl1 : vs.toArray.size = l.length := by rw [List.size_toArray, hi.length]
  have hl2 : ws.toArray.size = es.length := by rw [List.size_toArray, r.length]
  refine call_meets F.slot_list_iadd hT F.entry_list_iadd (F.args_list_iadd_2 _ _) (AutoSeq1.list___iadd___list_list_0 D vs.toArray n b ws.toArray n' ?_ (by rw [hl1, sizeLine_eq]; omega) (by rw [hl1, hl2, sizeLine_eq]; omega)) ⟨ho, eo, ?_⟩
  · intro z
    rw [Bool.and_eq_true] at z
    have z2 := z.2
    unfold Builtin.List.listTooLong at z2
    rw [hl1, hl2, sizeLine_eq] at z2
    simp at z2
    omega
  · show wpAny _ A (storeName env x (.ref D)) _ E _
    have hu := Heap.get?_update_self (Obj.mapSeq fun x => x ++ ws.toArray) ho rfl
    have a₃ := a₂.setList (l' := l ++ es) (vs := vs ++ ws) (n := _) (tk := s₂.toks) hW (h' := s₂.heap.update D (Obj.mapSeq fun x => x ++ ws.toArray)) (by rw [hu]; unfold lstObj Obj.mapSeq; simp; rfl) (IsL.append r hi) (Heap.SameBut.update ..)
    exact x_store a₃ (.raw _) hf hb fun s' a' => k s' a'
end
end
section

open PySem PySem.W PyProof PyProof.Rows
section
variable {w : World} {A : Around} {Y X : Addr → Prop} {s₀ : Shared} {env : Env} {ρ : Rho} {W : Res} {s : Shared} {Q : Flow → Shared → Prop} {E : Value → Shared → Prop}
/-- a datum kept in mind -/
def Res.know (v : Value) (d : AV) : Res := ⟨fun _ => False, fun X h => Is X h v d, fun _ _ _ _ i _ q => i.pass q⟩
theorem Act.know (a : Act w Y X s₀ env ρ W s) {v : Value} {d : AV} (i : Is X s.heap v d) : Act w Y X s₀ env ρ ((Res.know v d).and W) s :=
  { a with wfx := fun b q => q.elim (fun z => z.elim) (a.wfx b), wh := ⟨i, a.wh⟩ }
theorem Act.unknow {V : Res} (a : Act w Y X s₀ env ρ (V.and W) s) : Act w Y X s₀ env ρ W s :=
  { a with wfx := fun b q => a.wfx b (.inr q), wh := a.wh.2 }
/-- a namespace kept in mind -/
def Res.ns (C : Addr) : Res := ⟨fun b => b = C, fun _ h => ∃ m, h.Ns C m, fun _ _ _ _ ⟨m, hn⟩ k _ => ⟨m, hn.at' fun o e => k C o rfl e⟩⟩
/-- a, b = e -/
theorem x_unpack {x y : Str} {p p' p'' p3 : Pos} {k : Nat} {e : Expr} {rest : List Stmt} {d d' : AV} (hh : A.handled = none) (a : Act w Y X s₀ env ρ W s) (he : Ev w A env X s.heap e (.tup [d, d'])) (hf : env.scope.kind = .function) (hb : Bindable env x = true) (hb' : Bindable env y = true)
    (hs : swapsWithSole [.Tuple [.Name x p, .Name y p'] k p''] e p3.line env = pure false) (hw : swappedStores [.Tuple [.Name x p, .Name y p'] k p''] e env = pure none)
    (kk : ∀ s', Act w Y X s₀ env ((y, d') :: (x, d) :: ρ) W s' → wpAny (model PR w) A (execs rest env) Q E s') :
    wpAny (model PR w) A (execs (.Assign [.Tuple [.Name x p, .Name y p'] k p''] e p3 :: rest) env) Q E s := by
  refine wpAny_execs_cons (Assign_Tuple (he.run s _ _ (Ext.refl _) fun v s₁ k₁ i₁ => ?_) hs hw)
  have a₁ := a.kp k₁
  cases i₁ with | tup eo nx r =>
  rename_i t vs n
  obtain ⟨u, u', rfl, iu, iu'⟩ := r.two
  have hT : s₁.heap.IsTuple t #[u, u'] := ⟨_, eo, rfl, n, rfl⟩
  refine wpAny_assign_Tuple hh hT rfl rfl fun h₁ he₁ => ?_
  have ex : Ext s₁.heap h₁ := fun b o e => he₁ b o (Nat.ne_of_lt (Heap.lt_size e)) e
  have k₂ : Kp s₁ { s₁ with heap := h₁ } := Kp.mk (t := s₁.toks) ex
  have a₂ := a₁.kp k₂
  show wpAny _ _ (assignInOrder [assign (.Name x p) env, assign (.Name y p') env] [u, u']) _ _ _
  refine wpAny_assignInOrder_more (wpAny_assign_Name (x_store (a₂.know (iu'.ext ex)) (iu.ext ex) hf hb fun s₃ a₃ => ?_))
  exact wpAny_assignInOrder_more (wpAny_assign_Name (x_store a₃.unknow a₃.wh.1 hf hb' fun s' a' => wpAny_pure (kk s' a')))
/-- x = [.. for .. in ..] on one line, x a local -/
theorem x_assignComp {α : Type} {l : List α} {f : α → AV} (g : α → Rho) (p : α → Bool) (F : α → AV) {ts : List Str} {elt target iter : Expr} {ifs : List Expr} {scope : Scope} {pos : Pos} {x : Str} {px spos : Pos} {rest : List Stmt}
    (a : Act w Y X s₀ env ρ W s) (hit : EvIt w A env X s.heap iter (l.map f)) (hz : l.length ≤ 1000000) (hb : ∀ a, Binds w A scope target (f a) (g a)) (hg : ∀ a, (g a).map (·.1) = ts)
    (hfs : ∀ v, foldedSetIterable iter env v = pure v) (hkind : scope.kind = .function) (hlo : localsOk scope ts = true) (hco : closOk scope env = true)
    (turn : ∀ (C : Addr) (X' : Addr → Prop) (h' : Heap) (a : α), a ∈ l → Ctx w (compEnvC scope (closOf scope env) C env) X' (g a ++ ρ) h' →
      EvIf w A (compEnvC scope (closOf scope env) C env) h' ifs (p a) ∧ (p a = true → Ev w A (compEnvC scope (closOf scope env) C env) X' h' elt (F a)))
    (hf : env.scope.kind = .function) (hbx : Bindable env x = true) (hsw : swapsWith (.ListComp elt [⟨target, iter, ifs, 0⟩] scope pos) (some (.Name x px)) spos.line env = pure true)
    (k : ∀ s', Act w Y X s₀ env ((x, .lst ((l.filter p).map F)) :: ρ) W s' → wpAny (model PR w) A (execs rest env) Q E s') :
    wpAny (model PR w) A (execs (.Assign [.Name x px] (.ListComp elt [⟨target, iter, ifs, 0⟩] scope pos) spos :: rest) env) Q E s := by
  refine wpAny_execs_cons ?_
  rw [exec_Assign_Name_used _ _ _ _ hsw]
  refine wpAny_bind (wpAny_standAt (wpAny_bind ?_))
  show wpAny _ A (do let _ ← comprehension (.ListComp elt [⟨target, iter, ifs, 0⟩] scope pos) scope env _ (newList []) false (eval iter env) (some (assign (.Name x px) env))) _ _ s
  refine wpAny_bind (wpAny_mono (comp_core (Q := fun _ s' => wpAny (model PR w) A (execs rest env) Q E s') g p F (use := some (assign (.Name x px) env)) a.ctx hit hz hb hg hfs hkind hlo hco turn fun C D s' kp hC hn i => ?_)
    (fun _ s' hq => wpAny_pure (wpAny_pure hq)) fun _ _ e => e)
  show wpAny _ A (assign (.Name x px) env (.ref D)) _ _ _
  have hXC : ¬ X C := fun q => by obtain ⟨o, e⟩ := a.xin C q; rw [hC] at e; cases e
  have hC0 : s₀.heap.get? C = none := by
    cases e : s₀.heap.get? C with
    | none => rfl
    | some o =>
      have : ¬ Y C := fun y => hXC (a.yx C y)
      rw [a.keep C o this e] at hC; cases hC
  have ps : Passes X s.heap (fun b => X b ∨ b = C) s'.heap := fun b o nx e => ⟨fun q => q.elim nx fun z => (by rw [z, hC] at e; cases e), kp.ext b o e⟩
  have a₁ : Act w Y (fun b => X b ∨ b = C) s₀ env ρ ((Res.ns C).and W) s' := by
    have := a.move (X' := fun b => X b ∨ b = C) (W' := (Res.ns C).and W) (h' := s'.heap) (tk := s'.toks) (fun _ => False) (fun b o _ e => kp.ext b o e) (fun _ q => q.elim) (fun _ q => q.elim) (fun _ q => q.elim) (fun _ q => .inl q)
      (fun b q => q.imp id fun (z : b = C) => z ▸ hC) (fun b q r => by
        rcases q with q | q
        · exact r.elim (fun n => absurd q n) fun z => z.elim
        · obtain ⟨m, o, _, _, e, _⟩ := hn; exact ⟨o, q ▸ e⟩)
      (fun b q => by
        rcases q with q | q
        · have q : b = C := q
          subst q
          exact ⟨.inr rfl, fun z => hXC (a.own _ z), .inr hC0⟩
        · have := a.wfx b q
          exact ⟨.inl this.1, this.2⟩)
      ⟨hn, W.stable _ _ _ _ a.wh (fun b o _ e => kp.ext b o e) ps⟩
    rw [kp.same]
    exact this
  refine wpAny_assign_Name (x_store a₁ i hf hbx fun s₂ a₂ => ?_)
  obtain ⟨⟨m, hn₂⟩, hw₂⟩ := a₂.wh
  refine ⟨m, hn₂, fun h' hs' => k _ ?_⟩
  have hWC : ¬ W.fp C := fun q => hXC (a.wfx C q).1
  have ps' : Passes (fun b => X b ∨ b = C) s₂.heap X h' := fun b o nx e => ⟨fun q => nx (.inl q), (hs'.2 b fun z => nx (.inr z)).trans e⟩
  have := a₂.move0 (X' := X) (W' := W) (h' := h') (tk := s₂.toks) (fun b => b = C) (fun b o nb e => (hs'.2 b nb).trans e) (fun b q z => hXC (q ▸ a.own b z)) (fun b q => .inr (q ▸ hC0)) ps' a.own a.yx
    (fun b q => let ⟨o, e⟩ := a₂.xin b (.inl q); ⟨o, (hs'.2 b fun z => hXC (z ▸ q)).trans e⟩) a.wfx
    (W.stable _ _ _ _ hw₂ (fun b o f e => (hs'.2 b fun z => hWC (z ▸ f)).trans e) ps')
  exact this
end
end
section

open PySem PySem.W PyProof PyProof.Rows
section
variable {w : World} {A : Around} {env : Env} {X : Addr → Prop} {h : Heap} {ρ : Rho}
theorem Ev.natl {n : Nat} {k : Nat} {p : Pos} : Ev w A env X h (.Constant (.int (OfNat.ofNat n)) k p) (.nat (OfNat.ofNat n)) := Ev.int
theorem Ev.strS {x : Str} {l : List Nat} {k : Nat} {p : Pos} (e : x = S l) : Ev w A env X h (.Constant (.str x) k p) (.str (S l)) := e ▸ Ev.strc
theorem o_addS' {x y : List Nat} (hz : x.length + y.length ≤ 1000000) : Op2 w A X (binaryOp .Add) (.str (S x)) (.str (S y)) (.str (S (x ++ y))) := by
  have := o_addS (w := w) (A := A) (X := X) (x := S x) (y := S y) (by rw [S_len, S_len]; exact hz)
  rwa [S_app] at this
theorem o_iaddS' {x y : List Nat} (hz : x.length + y.length ≤ 1000000) : Op2 w A X (inplaceOp .Add) (.str (S x)) (.str (S y)) (.str (S (x ++ y))) := by
  have := o_iaddS (w := w) (A := A) (X := X) (x := S x) (y := S y) (by rw [S_len, S_len]; exact hz)
  rwa [S_app] at this
theorem CallIs.len_strS {l : List Nat} (hz : l.length ≤ 1000000) : CallIs w A X h (.builtin "len") [.str (S l)] (.nat l.length) := by
  have := CallIs.len_str (w := w) (A := A) (X := X) (h := h) (x := S l) (by rw [S_len]; exact hz)
  rwa [S_len] at this
end
end
section
open PySem PySem.W PyProof PyProof.Rows
local macro_rules | `(tactic| walk_at "ctx") => `(tactic| first
  | with_reducible assumption
  | exact Act.ctx (by with_reducible assumption))
local macro_rules | `(tactic| walk_at "side") => `(tactic| first
  | assumption
  | decide
  | omega)
local macro_rules | `(tactic| walk_at "ev") => `(tactic| first
  | with_reducible exact Ev.nonec
  | with_reducible exact Ev.boolc
  | exact Ev.strS (l := []) rfl
  | exact Ev.strS (l := [10]) rfl
  | exact Ev.strS (l := [34]) rfl
  | exact Ev.strS (l := [92]) rfl
  | exact Ev.strS (l := [32, 9, 13, 10]) rfl
  | with_reducible exact Ev.strc
  | with_reducible exact Ev.natl
  | exact Ev.natc
  | exact Ctx.ev (by walk_at "ctx") rfl rfl rfl rfl rfl rfl
  | exact Ev.range (Ctx.gl (by walk_at "ctx")) rfl rfl rfl rfl
  | exact Ev.len (Ctx.gl (by walk_at "ctx")) rfl rfl rfl rfl
  | exact Ev.ord (Ctx.gl (by walk_at "ctx")) rfl rfl rfl rfl
  | exact Ev.chr (Ctx.gl (by walk_at "ctx")) rfl rfl rfl rfl
  | exact Ev.sum (Ctx.gl (by walk_at "ctx")) rfl rfl rfl rfl
  | ((with_reducible refine' Ev.binop ?l ?r ?o); (case l => walk_at "ev"); (case r => walk_at "ev"); (case o => walk_at "op"))
  | (refine' Ev.callB ?f ?l ?c rfl rfl rfl; (case f => walk_at "ev"); (case l => walk_at "evl"); (case c => walk_at "call"))
  | (refine' Ev.strItem ?v ?i ?k ?z (fun _ _ => rfl); (case v => walk_at "ev"); (case i => walk_at "ev"); (case k => walk_at "side"); (case z => walk_at "side"))
  | (refine' Ev.tupItem ?v ?i ?k ?z (fun _ _ => rfl); (case v => walk_at "ev"); (case i => walk_at "ev"); (case k => rfl); (case z => first | decide | simp))
  | (refine' Ev.lstItem ?v ?i ?k ?z (fun _ _ => rfl); (case v => walk_at "ev"); (case i => walk_at "ev"); (case k => assumption); (case z => walk_at "side"))
  | (refine' Ev.ifexp ?t ?a ?b; (case t => walk_at "evt"); (case a => (intro _; walk_at "ev")); (case b => (intro _; walk_at "ev"))))
local macro_rules | `(tactic| walk_at "call") => `(tactic| first
  | exact CallIs.ord
  | exact CallIs.chr (by walk_at "side")
  | exact CallIs.len_strS (by walk_at "side")
  | exact CallIs.len_lst (by walk_at "side")
  | exact CallIs.sumN (by assumption))
local macro_rules | `(tactic| walk_at "evl") => `(tactic| first
  | with_reducible exact EvL.nil
  | (refine' EvL.cons ?x ?y rfl; (case x => walk_at "ev"); (case y => walk_at "evl")))
local macro_rules | `(tactic| walk_at "evt") => `(tactic| first
  | with_reducible exact EvT.and0
  | with_reducible exact EvT.or0
  | (refine' EvT.and ?x ?y; (case x => walk_at "evt"); (case y => (intro _; walk_at "evt")))
  | (refine' EvT.or ?x ?y; (case x => walk_at "evt"); (case y => (intro _; walk_at "evt")))
  | (refine' EvT.not ?x; (case x => walk_at "evt"))
  | (refine' EvT.cmp ?l ?r ?o rfl; (case l => walk_at "ev"); (case r => walk_at "ev"); (case o => walk_at "op"))
  | (refine' EvT.plain ?x ?t (fun _ => rfl); (case x => walk_at "ev"); (case t => walk_at "truth")))
local macro_rules | `(tactic| walk_at "truth") => `(tactic| first
  | with_reducible exact t_nat
  | with_reducible exact t_bool)
local macro_rules | `(tactic| walk_at "op") => `(tactic| first
  | with_reducible exact o_addN
  | with_reducible exact o_shrN
  | with_reducible exact o_xorN
  | with_reducible exact o_ixorN
  | with_reducible exact o_andN
  | with_reducible exact o_ishrN
  | with_reducible exact o_iaddN
  | with_reducible exact o_eqN
  | with_reducible exact o_ltN
  | with_reducible exact o_eqS
  | with_reducible exact o_neS
  | with_reducible exact o_inS
  | with_reducible exact o_notInS
  | with_reducible exact o_isNotNoneN
  | with_reducible exact o_isNotNoneS
  | with_reducible exact o_isNoneN
  | with_reducible exact o_isNoneS
  | ((with_reducible refine' o_subN ?s); (case s => walk_at "side"))
  | ((with_reducible refine' o_modN ?s); (case s => walk_at "side"))
  | ((with_reducible refine' o_divN ?s ?t); (case s => walk_at "side"); (case t => walk_at "side"))
  | ((with_reducible refine' o_powN ?s ?t); (case s => walk_at "side"); (case t => walk_at "side"))
  | ((with_reducible refine' o_mulN ?s); (case s => first | exact .inl (by walk_at "side") | exact .inr (by walk_at "side")))
  | ((with_reducible refine' o_shlN ?s ?t); (case s => assumption); (case t => walk_at "side"))
  | ((with_reducible refine' o_addS' ?s); (case s => walk_at "side"))
  | ((with_reducible refine' o_iaddS' ?s); (case s => walk_at "side")))
local macro_rules | `(tactic| walk_at "set") => `(tactic| (refine' x_assign (by with_reducible assumption) ?e rfl rfl rfl ?k; (case e => walk_at "ev"); intro s a))
local macro_rules | `(tactic| walk_at "aug") => `(tactic| (refine' x_aug (by with_reducible assumption) rfl ?e ?o rfl rfl rfl ?k; (case e => walk_at "ev"); (case o => walk_at "op"); intro s a))
section
open PySem PySem.W PyProof PyProof.Rows
def tbl : List Nat := [97, 35, 32, 9, 13, 10, 34, 92]
def mSize (n : Nat) : Nat := 1 + n % 5
def mRest (n : Nat) : Nat := n / 15
def mData (n : Nat) : List Nat := (List.range (mSize n)).map fun k => tbl.getD (mRest n / 8 ^ k % 8) 0
def mSpoil (n : Nat) : Nat := if n / 5 % 3 == 0 then (mRest n / 32768 + 1) % 2 ^ 32 else 0
def mFirst (n : Nat) : Nat := (mRest n + mRest n / 2 ^ 47) % mSize n
def mMeant (n : Nat) : List Nat := (mData n).take (mFirst n) ++ (List.range (mSize n - mFirst n)).map fun i => (mData n).getD (mFirst n + i) 0 ^^^ (mSpoil n >>> (8 * i) &&& 255)
theorem mData_len (n : Nat) : (mData n).length = mSize n := by simp [mData]
theorem flat_map_one {α : Type} (l : List Nat) (f : Nat → α) : (l.map fun k => [f k]).flatten = l.map f := by
  induction l with
  | nil => rfl
  | cons a r ih => simp only [List.map_cons, List.flatten_cons, ih]; rfl
theorem filter_tt {α : Type} (l : List α) : l.filter (fun _ => true) = l := List.filter_eq_self.mpr fun _ _ => rfl
theorem upTo0 (n : Nat) : upTo 0 n = (List.range n).map AV.nat := by
  unfold upTo
  rw [Nat.sub_zero]
  exact List.map_congr_left fun i _ => by rw [Nat.zero_add]
theorem member_is {w : World} {A : Around} {X : Addr → Prop} {h : Heap} (g : Gl w h) (xi : XIn X h) (hh : A.handled = none) (hroom : A.depth + 1 < recursionLimit) (n : Nat) :
    CallIs w A X h (.ref 81) [.nat n] (.tup [.str (S (mData n)), .str (S (mMeant n))]) := by
  refine CallIs.fn (names := ["number"]) g xi rfl rfl (by omega) rfl (by decide) (fun vs hv => ?_) rfl rfl rfl rfl fun s s₁ Q E hs xs a hQ => ?_
  · match vs, hv with
    | [v], _ => rfl
  · have hsz : mSize n ≤ 5 ∧ 1 ≤ mSize n := by unfold mSize; omega
    walk_at "set"
    walk_at "set"
    refine x_assign (by with_reducible assumption) (Ev.join (ls := (List.range (mSize n)).map fun k => [tbl.getD (mRest n / 8 ^ k % 8) 0]) (EvL.cons ?c EvL.nil rfl) ?z rfl rfl) rfl rfl rfl ?k
    case z => rw [flat_map_one]; simp; omega
    case c =>
      refine Ev.cast (Ev.comp (ts := ["k"]) (l := List.range (mSize n)) (f := AV.nat) (fun k => [("k", AV.nat k)]) (fun _ => true) (fun k => AV.str (S [tbl.getD (mRest n / 8 ^ k % 8) 0])) (by walk_at "ctx") (EvIt.cast (EvIt.range1 hh ?e ?el (n := mSize n) (by omega) rfl rfl) (upTo0 _)) (by simp; omega) (fun _ => Binds.name rfl) (fun _ => rfl) (fun _ => rfl) rfl rfl rfl ?t) ?q
      case e => walk_at "ev"
      case el => walk_at "evl"
      case q => rw [filter_tt, List.map_map]; rfl
      case t =>
        intro C X' h' k hk c
        refine ⟨EvIf.nil, fun _ => ?_⟩
        have hk' : k < 5 := by have := List.mem_range.mp hk; omega
        have h8 : 8 ^ k ≠ 0 := Nat.pos_iff_ne_zero.mp (Nat.pow_pos (by decide))
        have h8' : 8 ^ k < 2 ^ 64 := Nat.lt_of_le_of_lt (Nat.pow_le_pow_right (n := 8) (by decide) (show k ≤ 4 by omega)) (by decide)
        have hk5 : k ≤ 1000000 := by omega
        have ht : tbl[n / 15 / 8 ^ k % 8]? = some (tbl.getD (mRest n / 8 ^ k % 8) 0) := by
          have : n / 15 / 8 ^ k % 8 < tbl.length := Nat.mod_lt _ (by decide)
          unfold mRest
          rw [List.getD_eq_getElem?_getD, List.getElem?_eq_getElem this]; rfl
        refine' Ev.strItem (l := tbl) ?v ?i ht (by decide) (fun _ _ => rfl)
        case v => exact Ev.strS rfl
        case i => walk_at "ev"
    case k =>
      intro s a
      rw [flat_map_one] at a
      change Act w _ _ _ _ (("data", .str (S (mData n))) :: _) _ _ at a
      refine x_assign (av := .nat (mSpoil n)) (by with_reducible assumption) (Ev.ifexp (c := n / 5 % 3 == 0) ?e1 ?e2 ?e3) rfl rfl rfl ?k3
      case e1 => walk_at "evt"
      case e2 => 
        intro ht
        refine Ev.cast (av := .nat ((n / 15 / 32768 + 1) % 2 ^ 32)) ?_ ?_
        · walk_at "ev"
        · unfold mSpoil mRest; rw [if_pos ht]
      case e3 =>
        intro ht
        refine Ev.cast (av := .nat 0) ?_ ?_
        · walk_at "ev"
        · unfold mSpoil mRest; rw [if_neg (by rw [ht]; exact Bool.false_ne_true)]
      intro s a
      have hz : mSize n ≠ 0 := by omega
      walk_at "set"
      rename_i s a
      change Act w _ _ _ _ (("first", .nat (mFirst n)) :: _) _ _ at a
      have hf : mFirst n < mSize n := Nat.mod_lt _ (by omega)
      have hlen := mData_len n
      refine x_assign (av := .str (S ((mData n).take (mFirst n)))) (by with_reducible assumption) (Ev.strTo ?e4 ?e5 (by omega) (by omega) (fun _ _ => rfl)) rfl rfl rfl (fun s a => ?k4)
      case e4 => walk_at "ev"
      case e5 => walk_at "ev"
      refine x_for (σ := Unit) (fun i _ => [("meant", .str (S ((mData n).take (mFirst n) ++ (List.range i).map fun i => (mData n).getD (mFirst n + i) 0 ^^^ (mSpoil n >>> (8 * i) &&& 255)))), ("data", .str (S (mData n))), ("first", .nat (mFirst n)), ("spoil", .nat (mSpoil n))]) (fun _ _ => Res.emp) (fun _ _ => True) () a
        (EvIt.range2 hh ?e6 ?e7 (a := mFirst n) (b := mSize n) (by omega) (by omega) rfl rfl rfl) rfl rfl (fun _ => rfl) trivial ⟨?s1, rfl, rfl, rfl, trivial⟩ (fun _ _ _ q => q) (fun _ _ q => q) ?t ?d
      case e6 => walk_at "ev"
      case e7 => walk_at "evl"
      case s1 => simp
      case t =>
        intro X' U i u d s' xx ux hd _ a E'
        have hi : i < mSize n - mFirst n := by
          have := (List.getElem?_eq_some_iff.mp hd).1
          rwa [upTo_len] at this
        rw [upTo_get hi] at hd
        cases hd
        have hk : (mData n)[mFirst n + i]? = some ((mData n).getD (mFirst n + i) 0) := by
          rw [List.getD_eq_getElem?_getD, List.getElem?_eq_getElem (by omega)]; rfl
        have hle : mFirst n ≤ mFirst n + i := by omega
        have hlz : (mData n).length ≤ 1000000 := by omega
        have hc : (mData n).getD (mFirst n + i) 0 < 128 := by
          unfold mData
          rw [List.getD_eq_getElem?_getD, List.getElem?_map, List.getElem?_range (by omega)]
          simp only [Option.map_some, Option.getD_some]
          have : ∀ j, tbl.getD j 0 < 128 := by
            intro j
            by_cases hj : j < 8
            · have : ∀ j : Fin 8, tbl.getD j.val 0 < 128 := by decide
              exact this ⟨j, hj⟩
            · rw [List.getD_eq_getElem?_getD, List.getElem?_eq_none (by simp [tbl]; omega)]; decide
          exact this _
        have hx : (mData n).getD (mFirst n + i) 0 ^^^ (mSpoil n >>> (8 * (mFirst n + i - mFirst n)) &&& 255) < 256 := by
          refine Nat.xor_lt_two_pow (n := 8) (by omega) ?_
          exact Nat.lt_of_le_of_lt Nat.and_le_right (by decide)
        have hlen2 : ((mData n).take (mFirst n) ++ (List.range i).map fun i => (mData n).getD (mFirst n + i) 0 ^^^ (mSpoil n >>> (8 * i) &&& 255)).length + [(mData n).getD (mFirst n + i) 0 ^^^ (mSpoil n >>> (8 * (mFirst n + i - mFirst n)) &&& 255)].length ≤ 1000000 := by
          simp; omega
        walk_at "aug"
        refine x_nil ⟨(), trivial, Act.sub (by with_reducible assumption) ⟨?_, rfl, rfl, rfl, trivial⟩⟩
        rw [List.range_succ, List.map_append, ← List.append_assoc]
        have e : mFirst n + i - mFirst n = i := by omega
        simp only [e, List.map_cons, List.map_nil]
        rfl
      case d =>
        intro u s' _ a
        rw [upTo_len] at a
        refine x_ret (av := .tup [.str (S (mData n)), .str (S (mMeant n))]) a (Ev.tup ?e8 a.xin (by simp)) fun v s₂ a₂ i₂ => ?_
        case e8 => walk_at "evl"
        obtain ⟨k, i⟩ := a₂.leave (X := X) (fun b q => .inl q) i₂
        exact hQ v s₂ k i
end
section
open PySem PySem.W PyProof PyProof.Rows
def rev8 (c : Nat) : Nat := ((List.range 8).map fun k => (c >>> k &&& 1) <<< (7 - k)).sum
def pNum (t : List Nat) : Nat := t.foldl (fun n c => n * 256 + rev8 c) 0
def pStart (t : List Nat) : Nat := (pNum t <<< 32) ^^^ ((2 ^ 32 - 1) <<< (8 * t.length))
def pStep (n p : Nat) : Nat := if n >>> p &&& 1 != 0 then n ^^^ (4374732215 <<< (p - 32)) else n
def pIter (P : Nat) : Nat → Nat → Nat
  | 0, x => x
  | i + 1, x => pStep (pIter P i x) (P - i)
def rev32 (n : Nat) : Nat := ((List.range 32).map fun k => (n >>> k &&& 1) <<< (31 - k)).sum
def pCrc (t : List Nat) : Nat := rev32 (pIter (8 * t.length + 31) (8 * t.length) (pStart t)) ^^^ (2 ^ 32 - 1)
theorem and1_lt (n : Nat) : n &&& 1 < 2 ^ 1 := Nat.lt_of_le_of_lt Nat.and_le_right (by decide)
theorem rev8_lt (c : Nat) : rev8 c < 256 := by
  have h : ∀ k, k < 8 → c >>> k &&& 1 ≤ 1 := fun k _ => Nat.and_le_right
  have h' : ∀ k, k < 8 → (c >>> k &&& 1) <<< (7 - k) ≤ 1 <<< (7 - k) := fun k hk => by
    rw [Nat.shiftLeft_eq, Nat.shiftLeft_eq]; exact Nat.mul_le_mul_right _ (h k hk)
  have e : rev8 c = (c >>> 0 &&& 1) <<< 7 + ((c >>> 1 &&& 1) <<< 6 + ((c >>> 2 &&& 1) <<< 5 + ((c >>> 3 &&& 1) <<< 4 + ((c >>> 4 &&& 1) <<< 3 + ((c >>> 5 &&& 1) <<< 2 + ((c >>> 6 &&& 1) <<< 1 + ((c >>> 7 &&& 1) <<< 0 + 0))))))) := rfl
  rw [e]
  have := h' 0 (by decide); have := h' 1 (by decide); have := h' 2 (by decide); have := h' 3 (by decide)
  have := h' 4 (by decide); have := h' 5 (by decide); have := h' 6 (by decide); have := h' 7 (by decide)
  simp only [Nat.reduceSub, Nat.reduceShiftLeft] at *
  omega
theorem pNum_snoc (t : List Nat) (c : Nat) : pNum (t ++ [c]) = pNum t * 256 + rev8 c := by simp [pNum]
theorem pNum_take {t : List Nat} {i c : Nat} (h : t[i]? = some c) : pNum (t.take (i + 1)) = pNum (t.take i) * 256 + rev8 c := by
  rw [List.take_add_one, h]; exact pNum_snoc _ _
theorem pNum_lt (t : List Nat) : pNum t < 2 ^ (8 * t.length) := by
  have key : ∀ (n : Nat) (t : List Nat), t.length = n → pNum t < 2 ^ (8 * n) := by
    intro n
    induction n with
    | zero => intro t h; rw [List.length_eq_zero_iff.mp h]; decide
    | succ n ih =>
      intro t h
      obtain ⟨r, c, rfl⟩ : ∃ r c, t = r ++ [c] := ⟨t.dropLast, t.getLast (by intro z; rw [z] at h; simp at h), (List.dropLast_concat_getLast _).symm⟩
      have := ih r (by simpa using h)
      rw [pNum_snoc, show 8 * (n + 1) = 8 * n + 8 by omega, Nat.pow_add]
      have := rev8_lt c
      omega
  exact key _ t rfl
theorem crc_is {w : World} {A : Around} {X : Addr → Prop} {h : Heap} (g : Gl w h) (xi : XIn X h) (hh : A.handled = none) (hroom : A.depth + 1 < recursionLimit) (t : List Nat) (hl : t.length ≤ 1000) :
    CallIs w A X h (.ref 86) [.str (S t)] (.nat (pCrc t)) := by
  refine CallIs.fn (names := ["text"]) g xi rfl rfl (by omega) rfl (by decide) (fun vs hv => ?_) rfl rfl rfl rfl fun s s₁ Q E hs xs a hQ => ?_
  · match vs, hv with
    | [v], _ => rfl
  · walk_at "set"
    rename_i s a
    refine x_for (σ := Unit) (fun i _ => [("number", .nat (pNum (t.take i))), ("text", .str (S t))]) (fun _ _ => Res.emp) (fun _ _ => True) () a (EvIt.str (l := t) hh ?e1) rfl rfl (fun _ => rfl) trivial ⟨rfl, rfl, trivial⟩ (fun _ _ _ q => q) (fun _ _ q => q) ?t ?d
    case e1 => walk_at "ev"
    case t =>
      intro X' U i u d s' xx ux hd _ a E'
      obtain ⟨c, hc, rfl⟩ : ∃ c, t[i]? = some c ∧ d = .str (S [c]) := by
        rw [List.getElem?_map] at hd
        cases e : t[i]? with
        | none => rw [e] at hd; cases hd
        | some c => rw [e] at hd; exact ⟨c, rfl, (Option.some.inj hd).symm⟩
      refine' x_assign (av := .nat (pNum (t.take (i + 1)))) a (Ev.cast (Ev.binop (Ev.binop ?f1 ?f2 (o_mulN (.inr ?f3))) ?f4 o_addN) ?f5) rfl rfl rfl ?f6
      case f1 => walk_at "ev"
      case f2 => walk_at "ev"
      case f3 => decide
      case f4 =>
        refine Ev.callB (avs := [.lst (((List.range 8).map fun k => (c >>> k &&& 1) <<< (7 - k)).map AV.nat)]) ?g1 (EvL.cons ?g2 EvL.nil rfl) (CallIs.sumN hh) rfl rfl rfl
        case g1 => walk_at "ev"
        case g2 =>
          refine Ev.cast (Ev.comp (ts := ["k"]) (l := List.range 8) (f := AV.nat) (fun k => [("k", AV.nat k)]) (fun _ => true) (fun k => AV.nat ((c >>> k &&& 1) <<< (7 - k))) (by walk_at "ctx") (EvIt.cast (EvIt.range1 hh ?g3 ?g4 (n := 8) (by omega) rfl rfl) (upTo0 _)) (by simp) (fun _ => Binds.name rfl) (fun _ => rfl) (fun _ => rfl) rfl rfl rfl ?g5) ?g6
          case g3 => walk_at "ev"
          case g4 => walk_at "evl"
          case g6 => rw [filter_tt, List.map_map]; rfl
          case g5 =>
            intro C X' h' k hk cx
            refine ⟨EvIf.nil, fun _ => ?_⟩
            have hk' : k ≤ 7 := by have := List.mem_range.mp hk; omega
            have := and1_lt (c >>> k)
            walk_at "ev"
      case f5 => rw [pNum_take hc]; rfl
      case f6 => intro s a; exact x_nil ⟨(), trivial, a.sub ⟨rfl, rfl, trivial⟩⟩
    case d =>
      intro u s' _ a
      rw [List.length_map, List.take_length] at a
      have hp := pNum_lt t
      have h32 : 2 ^ 32 - 1 < 2 ^ 32 := by decide
      have hz : t.length ≤ 1000000 := by omega
      walk_at "set"
      rename_i s a
      change Act w _ _ _ _ (("number", .nat (pStart t)) :: _) _ _ at a
      refine x_for (σ := Unit) (fun i _ => [("number", .nat (pIter (8 * t.length + 31) i (pStart t)))]) (fun _ _ => Res.emp) (fun _ _ => True) () a (EvIt.range3 hh (a := 8 * t.length + 31) (b := 31) ?e2 (EvL.cons ?e3 (EvL.cons ?e4 (EvL.cons (Ev.neg (i := 1) ?e5) EvL.nil rfl) rfl) rfl) (by omega) (by omega) rfl rfl rfl) rfl rfl (fun _ => rfl) trivial ⟨rfl, trivial⟩ (fun _ _ _ q => q) (fun _ _ q => q) ?t2 ?d2
      case e2 => walk_at "ev"
      case e3 => walk_at "ev"
      case e4 => walk_at "ev"
      case e5 => exact Ev.int
      case t2 =>
        intro X' U i u d s' xx ux hd _ a E'
        have hi : i < 8 * t.length := by
          have := (List.getElem?_eq_some_iff.mp hd).1
          simp [downTo] at this
          omega
        have hd' : d = .nat (8 * t.length + 31 - i) := by
          unfold downTo at hd
          rw [List.getElem?_map, List.getElem?_range (by omega)] at hd
          exact (Option.some.inj hd).symm
        subst hd'
        have hq : 4374732215 < 2 ^ 33 := by decide
        refine' x_if a ?g1 ?g2 ?g3
        case g1 => walk_at "evt"
        case g2 =>
          intro ht s₂ a
          walk_at "aug"
          refine x_nil (x_nil ⟨(), trivial, Act.sub (by with_reducible assumption) ⟨?_, trivial⟩⟩)
          refine congrArg (fun n => some (AV.nat n)) ?_
          exact (if_pos ht).symm
        case g3 =>
          intro ht s₂ a
          refine x_nil (x_nil ⟨(), trivial, Act.sub (by with_reducible assumption) ⟨?_, trivial⟩⟩)
          refine congrArg (fun n => some (AV.nat n)) ?_
          exact (if_neg (by rw [ht]; exact Bool.false_ne_true)).symm
      case d2 =>
        intro u s' _ a
        rw [show (downTo (8 * t.length + 31) 31).length = 8 * t.length by simp [downTo]] at a
        refine' x_ret (av := .nat (pCrc t)) a (Ev.binop (Ev.callB (avs := [.lst (((List.range 32).map fun k => (pIter (8 * t.length + 31) (8 * t.length) (pStart t) >>> k &&& 1) <<< (31 - k)).map AV.nat)]) ?g1 (EvL.cons ?g2 EvL.nil rfl) (CallIs.sumN hh) rfl rfl rfl) ?g7 o_xorN) ?g8
        case g1 => walk_at "ev"
        case g2 =>
          refine Ev.cast (Ev.comp (ts := ["k"]) (l := List.range 32) (f := AV.nat) (fun k => [("k", AV.nat k)]) (fun _ => true) (fun k => AV.nat ((pIter (8 * t.length + 31) (8 * t.length) (pStart t) >>> k &&& 1) <<< (31 - k))) (by walk_at "ctx") (EvIt.cast (EvIt.range1 hh ?g3 ?g4 (n := 32) (by omega) rfl rfl) (upTo0 _)) (by simp) (fun _ => Binds.name rfl) (fun _ => rfl) (fun _ => rfl) rfl rfl rfl ?g5) ?g6
          case g3 => walk_at "ev"
          case g4 => walk_at "evl"
          case g6 => rw [filter_tt, List.map_map]; rfl
          case g5 =>
            intro C X' h' k hk cx
            refine ⟨EvIf.nil, fun _ => ?_⟩
            have hk' : k ≤ 31 := by have := List.mem_range.mp hk; omega
            have := and1_lt (pIter (8 * t.length + 31) (8 * t.length) (pStart t) >>> k)
            walk_at "ev"
        case g7 => walk_at "ev"
        case g8 =>
          intro v s₂ a₂ i₂
          obtain ⟨k, i⟩ := a₂.leave (X := X) (fun b q => .inl q) i₂
          exact hQ v s₂ k i
end
section
open PySem PySem.W PyProof PyProof.Rows
def wsL : List Nat := [32, 9, 13, 10]
structure CutS where
  words : List (List Nat × Nat)
  word : Option (List Nat)
  fin : List Nat
  held : Bool
def cutStep (st : CutS) (k c : Nat) : CutS :=
  if c == 92 && !st.held then { st with held := true }
  else match st.word with
    | some t => if !st.held && decide (c ∈ st.fin) then { words := st.words ++ [(t, k + 1)], word := none, fin := st.fin, held := false } else { st with word := some (t ++ [c]), held := false }
    | none => if st.held || !decide (c ∈ wsL) then (if c == 34 && !st.held then { st with word := some [], fin := [34], held := false } else { st with word := some [c], fin := wsL, held := false }) else { st with held := false }
def cutSt (t : List Nat) : Nat → CutS
  | 0 => ⟨[], none, [], false⟩
  | i + 1 => cutStep (cutSt t i) i (t.getD i 0)
def cutLen (st : CutS) : Nat := match st.word with | some t => t.length | none => 0
theorem cut_small (t : List Nat) : ∀ i, (cutSt t i).words.length ≤ i ∧ cutLen (cutSt t i) ≤ i
  | 0 => ⟨Nat.le_refl _, Nat.le_refl _⟩
  | i + 1 => by
    have ih := cut_small t i
    generalize hs : cutSt t i = st at ih
    show (cutStep (cutSt t i) i (t.getD i 0)).words.length ≤ _ ∧ cutLen (cutStep (cutSt t i) i (t.getD i 0)) ≤ _
    rw [hs]
    generalize t.getD i 0 = c
    obtain ⟨ws, wd, fn, hl⟩ := st
    have h1 : ws.length ≤ i := ih.1
    unfold cutStep
    split
    · exact ⟨Nat.le_succ_of_le ih.1, Nat.le_succ_of_le ih.2⟩
    · cases wd with
      | none =>
        dsimp only
        split
        · split
          · exact ⟨Nat.le_succ_of_le h1, Nat.zero_le _⟩
          · exact ⟨Nat.le_succ_of_le h1, Nat.succ_le_succ (Nat.zero_le _)⟩
        · exact ⟨Nat.le_succ_of_le h1, Nat.zero_le _⟩
      | some t =>
        have h2 : t.length ≤ i := ih.2
        dsimp only
        split
        · refine ⟨?_, Nat.zero_le _⟩
          show (ws ++ [(t, i + 1)]).length ≤ i + 1
          rw [List.length_append]
          exact Nat.succ_le_succ h1
        · refine ⟨Nat.le_succ_of_le h1, ?_⟩
          show (t ++ [c]).length ≤ i + 1
          rw [List.length_append]
          exact Nat.succ_le_succ h2
theorem S1_beq (c d : Nat) : (S [c] == S [d]) = (c == d) := by
  rw [S_beq, Bool.eq_iff_iff, beq_iff_eq, beq_iff_eq]
  simp
theorem cs_held {ws wd fn hld k c} (h : (c == 92 && !hld) = true) : cutStep ⟨ws, wd, fn, hld⟩ k c = ⟨ws, wd, fn, true⟩ := if_pos h
theorem cs_go {ws wd fn hld k c} (h : (c == 92 && !hld) = false) : cutStep ⟨ws, wd, fn, hld⟩ k c = match wd with
    | some t => if !hld && decide (c ∈ fn) then ⟨ws ++ [(t, k + 1)], none, fn, false⟩ else ⟨ws, some (t ++ [c]), fn, false⟩
    | none => if hld || !decide (c ∈ wsL) then (if c == 34 && !hld then ⟨ws, some [], [34], false⟩ else ⟨ws, some [c], wsL, false⟩) else ⟨ws, none, fn, false⟩ := by
  unfold cutStep
  rw [if_neg (by rw [h]; exact Bool.false_ne_true)]
  cases wd <;> rfl
theorem cs_end {ws t fn hld k c} (h : (c == 92 && !hld) = false) (h' : (!hld && decide (c ∈ fn)) = true) : cutStep ⟨ws, some t, fn, hld⟩ k c = ⟨ws ++ [(t, k + 1)], none, fn, false⟩ := (cs_go h).trans (if_pos h')
theorem cs_add {ws t fn hld k c} (h : (c == 92 && !hld) = false) (h' : (!hld && decide (c ∈ fn)) = false) : cutStep ⟨ws, some t, fn, hld⟩ k c = ⟨ws, some (t ++ [c]), fn, false⟩ := (cs_go h).trans (if_neg (by rw [h']; exact Bool.false_ne_true))
theorem cs_skip {ws fn hld k c} (h : (c == 92 && !hld) = false) (h' : (hld || !decide (c ∈ wsL)) = false) : cutStep ⟨ws, none, fn, hld⟩ k c = ⟨ws, none, fn, false⟩ := (cs_go h).trans (if_neg (by rw [h']; exact Bool.false_ne_true))
theorem cs_q {ws fn hld k c} (h : (c == 92 && !hld) = false) (h' : (hld || !decide (c ∈ wsL)) = true) (h'' : (c == 34 && !hld) = true) : cutStep ⟨ws, none, fn, hld⟩ k c = ⟨ws, some [], [34], false⟩ := (cs_go h).trans ((if_pos h').trans (if_pos h''))
theorem cs_w {ws fn hld k c} (h : (c == 92 && !hld) = false) (h' : (hld || !decide (c ∈ wsL)) = true) (h'' : (c == 34 && !hld) = false) : cutStep ⟨ws, none, fn, hld⟩ k c = ⟨ws, some [c], wsL, false⟩ := (cs_go h).trans ((if_pos h').trans (if_neg (by rw [h'']; exact Bool.false_ne_true)))
def wAV : Option (List Nat) → AV
  | none => .none
  | some t => .str (S t)
def pAV (p : List Nat × Nat) : AV := .tup [.str (S p.1), .nat p.2]
theorem cut_is {w : World} {A : Around} {X : Addr → Prop} {h : Heap} (g : Gl w h) (xi : XIn X h) (hh : A.handled = none) (hroom : A.depth + 1 < recursionLimit) (t : List Nat) (hl : t.length ≤ 1000) :
    CallIs w A X h (.ref 107) [.str (S t)] (.tup [.lst ((cutSt t t.length).words.map pAV), .str (S ((cutSt t t.length).word.getD []))]) := by
  refine CallIs.fn (names := ["piece"]) g xi rfl rfl (by omega) rfl (by decide) (fun vs hv => ?_) rfl rfl rfl rfl fun s s₁ Q E hs xs a hQ => ?_
  · match vs, hv with
    | [v], _ => rfl
  · refine x_newlist a rfl rfl fun D X' s' xx xd nx nw a => ?_
    walk_at "set"
    walk_at "set"
    walk_at "set"
    rename_i s a
    have hz : t.length ≤ 1000000 := by omega
    refine x_for (σ := Unit) (fun i _ => [("words", .raw (.ref D)), ("word", wAV (cutSt t i).word), ("end", .str (S (cutSt t i).fin)), ("held", .bool (cutSt t i).held), ("piece", .str (S t))]) (fun i _ => Res.list D ((cutSt t i).words.map pAV)) (fun _ _ => True) () a
      (EvIt.range1 hh ?e1 ?e2 (n := t.length) (by omega) rfl rfl) rfl rfl (fun _ => rfl) trivial ⟨rfl, rfl, rfl, rfl, rfl, trivial⟩ (fun _ _ _ q => .inl q) (fun _ _ q => q.1) ?t ?d
    case e1 => walk_at "ev"
    case e2 => walk_at "evl"
    case t =>
      intro X' U i u d s' xx ux hd _ a E'
      have hi : i < t.length := by
        have := (List.getElem?_eq_some_iff.mp hd).1
        simpa [upTo] using this
      have hd' : d = .nat i := by
        rw [upTo_get (by omega), Nat.zero_add] at hd
        exact (Option.some.inj hd).symm
      subst hd'
      have hU : ¬ U.fp D := fun q => ux D q (.inl rfl)
      have hk : t[i]? = some (t.getD i 0) := by rw [List.getD_eq_getElem?_getD, List.getElem?_eq_getElem hi]; rfl
      have hsm := cut_small t i
      have hnx : cutSt t (i + 1) = cutStep (cutSt t i) i (t.getD i 0) := rfl
      rw [hnx]
      generalize hst : cutSt t i = st at hsm a ⊢
      generalize hc : t.getD i 0 = c at hk ⊢
      obtain ⟨ws, wd, fn, hld⟩ := st
      simp only at a ⊢
      walk_at "set"
      refine' x_if (by with_reducible assumption) ?g1 ?g2 ?g3
      case g1 => walk_at "evt"
      case g2 =>
        intro ht s a
        rw [S1_beq, Bool.and_true] at ht
        walk_at "set"
        rw [cs_held ht]
        exact x_cont ⟨(), trivial, Act.sub (by with_reducible assumption) ⟨rfl, rfl, rfl, rfl, rfl, trivial⟩⟩
      case g3 =>
        intro ht s a
        rw [S1_beq, Bool.and_true] at ht
        refine x_nil ?_
        dsimp only
        have hlw : ws.length ≤ 1000000 := by have := hsm.1; simp only at this; omega
        cases wd with
        | some tw =>
          have hlt : tw.length + [c].length ≤ 1000000 := by have := hsm.2; simp only [cutLen] at this; simp; omega
          change Act w _ _ _ _ (_ :: _ :: _ :: ("word", .str (S tw)) :: _) _ _ at a
          refine' x_if (by with_reducible assumption) ?h1 ?h2 ?h3
          case h1 => walk_at "evt"
          case h2 =>
            intro ht2 s a
            rw [Bool.true_and, S_in, Bool.and_true] at ht2
            refine' x_append (d := pAV (tw, i + 1)) a rfl hU ?i1 (by simpa using hlw) rfl rfl rfl rfl rfl rfl rfl rfl ?i2
            case i1 =>
              refine' EvL.cons (Ev.tup ?j1 a.xin (by simp)) EvL.nil rfl
              case j1 => walk_at "evl"
            case i2 =>
              intro s a
              walk_at "set"
              refine x_nil ?_
              dsimp only
              walk_at "set"
              rename_i s a
              rw [cs_end ht ht2]
              rw [List.map_append]
              exact x_nil ⟨(), trivial, Act.sub a ⟨rfl, rfl, rfl, rfl, rfl, trivial⟩⟩
          case h3 =>
            intro ht2 s a
            rw [Bool.true_and, S_in, Bool.and_true] at ht2
            refine' x_if (by with_reducible assumption) ?k1 ?k2 ?k3
            case k1 => walk_at "evt"
            case k2 =>
              intro _ s a
              walk_at "aug"
              refine x_nil (x_nil ?_)
              dsimp only
              walk_at "set"
              rw [cs_add ht ht2]
              exact x_nil ⟨(), trivial, Act.sub (by with_reducible assumption) ⟨rfl, rfl, rfl, rfl, rfl, trivial⟩⟩
            case k3 => intro z; cases z
        | none =>
          change Act w _ _ _ _ (_ :: _ :: _ :: ("word", .none) :: _) _ _ at a
          refine' x_if (c := false) (by with_reducible assumption) ?h4 ?h5 ?h6
          case h4 => 
            refine' EvT.cast (EvT.and (a := false) (b := true) ?l1 (fun z => by cases z)) rfl
            case l1 => walk_at "evt"
          case h5 => intro z; cases z
          case h6 =>
            intro _ s a
            refine' x_if (by with_reducible assumption) ?m1 ?m2 ?m3
            case m1 => walk_at "evt"
            case m2 => intro z; cases z
            case m3 =>
              intro _ s a
              refine' x_if (by with_reducible assumption) ?n1 ?n2 ?n3
              case n1 => walk_at "evt"
              case n2 =>
                intro ht3 s a
                rw [S_in, Bool.or_false] at ht3
                cases hq : (c == 34 && !hld) with
                | true =>
                  refine' x_assign (av := .str (S [34])) a (Ev.ifexp (c := (c == 34 && !hld)) ?o1 ?o2 ?o3) rfl rfl rfl ?o4
                  case o1 => 
                    refine' EvT.cast ?o5 ?o6
                    case o5 => walk_at "evt"
                    case o6 => rw [S1_beq, Bool.and_true]
                  case o2 => intro _; walk_at "ev"
                  case o3 => rw [hq]; intro z; cases z
                  case o4 =>
                    intro s a
                    refine' x_assign (av := .str (S [])) a (Ev.ifexp (c := true) ?o7 ?o8 ?o9) rfl rfl rfl ?o10
                    case o7 => 
                      refine' EvT.cast ?o11 ?o12
                      case o11 => walk_at "evt"
                      case o12 => rw [S1_beq]; rfl
                    case o8 => intro _; walk_at "ev"
                    case o9 => intro z; cases z
                    case o10 =>
                      intro s a
                      refine x_nil (x_nil (x_nil ?_))
                      dsimp only
                      walk_at "set"
                      rw [cs_q ht ht3 hq]
                      exact x_nil ⟨(), trivial, Act.sub (by with_reducible assumption) ⟨rfl, rfl, rfl, rfl, rfl, trivial⟩⟩
                | false =>
                  refine' x_assign (av := .str (S wsL)) a (Ev.ifexp (c := (c == 34 && !hld)) ?p1 ?p2 ?p3) rfl rfl rfl ?p4
                  case p1 => 
                    refine' EvT.cast ?p5 ?p6
                    case p5 => walk_at "evt"
                    case p6 => rw [S1_beq, Bool.and_true]
                  case p2 => rw [hq]; intro z; cases z
                  case p3 => intro _; exact Ev.strS rfl
                  case p4 =>
                    intro s a
                    refine' x_assign (av := .str (S [c])) a (Ev.ifexp (c := false) ?p7 ?p8 ?p9) rfl rfl rfl ?p10
                    case p7 => 
                      refine' EvT.cast ?p11 ?p12
                      case p11 => walk_at "evt"
                      case p12 => rw [S_beq]; rfl
                    case p8 => intro z; cases z
                    case p9 => intro _; walk_at "ev"
                    case p10 =>
                      intro s a
                      refine x_nil (x_nil (x_nil ?_))
                      dsimp only
                      walk_at "set"
                      rw [cs_w ht ht3 hq]
                      exact x_nil ⟨(), trivial, Act.sub (by with_reducible assumption) ⟨rfl, rfl, rfl, rfl, rfl, trivial⟩⟩
              case n3 =>
                intro ht3 s a
                rw [S_in, Bool.or_false] at ht3
                refine x_nil (x_nil (x_nil ?_))
                dsimp only
                walk_at "set"
                rw [cs_skip ht ht3]
                exact x_nil ⟨(), trivial, Act.sub (by with_reducible assumption) ⟨rfl, rfl, rfl, rfl, rfl, trivial⟩⟩
    case d =>
      intro u s' _ a
      rw [show (upTo 0 t.length).length = t.length by simp [upTo]] at a
      obtain ⟨a, il⟩ := (a.wk (W' := (Res.list D ((cutSt t t.length).words.map pAV)).and Res.emp) (fun b q => q.elim id fun z => z.elim) (fun q => ⟨q, trivial⟩)).freeze (fun z => z) (fun z => z)
      have a := a.recast (x := "words") rfl il
      refine' x_ret (av := .tup [.lst ((cutSt t t.length).words.map pAV), .str (S ((cutSt t t.length).word.getD []))]) a (Ev.tup (EvL.cons ?q1 (EvL.cons ?q2 EvL.nil rfl) rfl) a.xin (by simp)) ?q3
      case q1 => walk_at "ev"
      case q2 =>
        cases hw : (cutSt t t.length).word with
        | none =>
          have a := a.sub (ρ' := [("word", AV.none)]) ⟨by rw [hw]; rfl, trivial⟩
          refine' Ev.ifexp (c := true) ?r1 ?r2 ?r3
          case r1 => walk_at "evt"
          case r2 => intro _; walk_at "ev"
          case r3 => intro z; cases z
        | some tw =>
          have a := a.sub (ρ' := [("word", AV.str (S tw))]) ⟨by rw [hw]; rfl, trivial⟩
          refine' Ev.ifexp (c := false) ?r4 ?r5 ?r6
          case r4 => walk_at "evt"
          case r5 => intro z; cases z
          case r6 => intro _; walk_at "ev"
      case q3 =>
        intro v s₂ a₂ i₂
        obtain ⟨k, i⟩ := a₂.leave (X := X) (fun b q => ⟨xx b (.inl q), fun z => nx (z ▸ .inl q)⟩) i₂
        exact hQ v s₂ k i
end
section

open PySem PySem.W PyProof PyProof.Rows
section
variable {w : World} {A : Around} {env : Env} {X : Addr → Prop} {h : Heap} {ρ : Rho}
theorem Ev.callG {x : Str} {px : Pos} {e : Expr} {es : List Expr} {p : Pos} {a : Addr} {o : Obj} {fd : FuncData} {avs : List AV} {r : AV} (g : Gl w h) (ho : (KK w).lookup a = some o) (hd : o.data = .func fd)
    (hk : env.scope.kind = .function) (hx : env.kindOf x = some .globalImplicit) (hg : env.globals = mainGlobals) (en : nsIn (KK w) mainGlobals x = some (some (.ref a))) (hdb : (x == ("__debug__" : Str)) = false)
    (y : EvL w A env X h p (e :: es) avs) (z : CallIs w A X h (.ref a) avs r)
    (hc : eval (.Call (.Name x px) (e :: es) [] p) env = (do callWith p (← eval (.Name x px) env) [] (backTo p (starEach (e :: es) env)) (backToKw p (keywordEach [] env))))
    (he : starEach (e :: es) env = (false, eval e env) :: starEach es env) : Ev w A env X h (.Call (.Name x px) (e :: es) [] p) r :=
  Ev.callF (Ev.glob g hk hx hg en hdb) (g.K a o ho) hd y z hc he
theorem n_cut (w : World) : nsIn (KK w) mainGlobals "_law_cut" = some (some (.ref 107)) := rfl
theorem n_crc (w : World) : nsIn (KK w) mainGlobals "_law_crc" = some (some (.ref 86)) := rfl
theorem n_gen (w : World) : nsIn (KK w) mainGlobals "_gen_crc" = some (some (.ref 76)) := rfl
theorem n_member (w : World) : nsIn (KK w) mainGlobals "_law_member" = some (some (.ref 81)) := rfl
theorem n_due (w : World) : nsIn (KK w) mainGlobals "_law_due" = some (some (.ref 112)) := rfl
theorem n_calls (w : World) : nsIn (KK w) mainGlobals "_law_calls" = some (some (.ref 100)) := rfl
theorem n_archive (w : World) : nsIn (KK w) mainGlobals "_law_archive" = some (some (.ref 93)) := rfl
end
end
section
open PySem PySem.W PyProof PyProof.Rows
theorem cut_stop (t : List Nat) : ∀ i, ∀ p ∈ (cutSt t i).words, p.2 ≤ i
  | 0 => fun p hp => by cases hp
  | i + 1 => fun p hp => by
    have ih := cut_stop t i
    change p ∈ (cutStep (cutSt t i) i (t.getD i 0)).words at hp
    generalize cutSt t i = st at ih hp
    generalize t.getD i 0 = c at hp
    obtain ⟨ws, wd, fn, hl⟩ := st
    have h1 : ∀ p ∈ ws, p.2 ≤ i + 1 := fun p hp => Nat.le_succ_of_le (ih p hp)
    cases hq : (c == 92 && !hl) with
    | true => rw [cs_held hq] at hp; exact h1 p hp
    | false =>
      rw [cs_go hq] at hp
      cases wd with
      | none =>
        dsimp only at hp
        split at hp
        · split at hp <;> exact h1 p hp
        · exact h1 p hp
      | some t =>
        dsimp only at hp
        split at hp
        · rcases List.mem_append.mp hp with hp | hp
          · exact h1 p hp
          · rw [List.mem_singleton.mp hp]; exact Nat.le_refl _
        · exact h1 p hp
def bad : List Nat := [66, 97, 100, 32, 67, 82, 67, 45, 51, 50, 32, 102, 111, 114, 32, 102, 105, 108, 101, 32]
def letters : List Nat := [97, 98, 99, 100, 101]
def lineAt (text : List Nat) (k : Nat) : Nat := 1 + ((text.take k).filter fun c => c == 10).length
structure DueS where
  due : List (Option (List Nat) × Nat)
  beg : Nat
  fin : Nat
def pieceWords (text : List Nat) (b e : Nat) : List (Option (List Nat) × Nat) := (cutSt ((text.drop b).take (e - b)) (e - b)).words.map fun p => (some p.1, b + p.2)
def dueStep (text : List Nat) (st : DueS) (k : Nat) (p : List Nat × List Nat) : DueS :=
  let e := st.fin + p.1.length
  if p.1 != p.2 then { due := st.due ++ pieceWords text st.beg e ++ [(none, e), (some (bad ++ [letters.getD k 0]), e), (some [letters.getD k 0], e)], beg := e, fin := e }
  else { st with fin := e }
def dText (ps : List (List Nat × List Nat)) : List Nat := (ps.map (·.1)).flatten
def dueSt (ps : List (List Nat × List Nat)) : Nat → DueS
  | 0 => ⟨[], 0, 0⟩
  | i + 1 => dueStep (dText ps) (dueSt ps i) i (ps.getD i ([], []))
def dueL (ps : List (List Nat × List Nat)) : List (Option (List Nat) × Nat) :=
  let st := dueSt ps ps.length
  let n := (dText ps).length
  st.due ++ pieceWords (dText ps) st.beg n ++ [(some ((cutSt ((dText ps).drop st.beg) (n - st.beg)).word.getD []), n), (some [], n), (some [], n)]
def dAV (text : List Nat) (p : Option (List Nat) × Nat) : AV := .tup [wAV p.1, .nat (lineAt text p.2), .nat p.2]
def pairAV (p : List Nat × List Nat) : AV := .tup [.str (S p.1), .str (S p.2)]
theorem fin_eq (ps : List (List Nat × List Nat)) : ∀ i, i ≤ ps.length → (dueSt ps i).fin = (dText (ps.take i)).length ∧ (dueSt ps i).beg ≤ (dueSt ps i).fin
  | 0, _ => ⟨rfl, Nat.le_refl _⟩
  | i + 1, h => by
    have ih := fin_eq ps i (by omega)
    have hk : ps[i]? = some (ps.getD i ([], [])) := by rw [List.getD_eq_getElem?_getD, List.getElem?_eq_getElem (by omega)]; rfl
    have e : (dText (ps.take (i + 1))).length = (dText (ps.take i)).length + (ps.getD i ([], [])).1.length := by
      rw [List.take_add_one, hk]
      simp [dText]
    show (dueStep _ (dueSt ps i) i _).fin = _ ∧ (dueStep _ (dueSt ps i) i _).beg ≤ (dueStep _ (dueSt ps i) i _).fin
    rw [e, ← ih.1]
    unfold dueStep
    dsimp only
    split
    · exact ⟨rfl, Nat.le_refl _⟩
    · exact ⟨rfl, Nat.le_trans ih.2 (Nat.le_add_right _ _)⟩
theorem fin_le (ps : List (List Nat × List Nat)) (i : Nat) (h : i ≤ ps.length) : (dText (ps.take i)).length ≤ (dText ps).length := by
  have : dText ps = dText (ps.take i) ++ dText (ps.drop i) := by
    unfold dText
    rw [← List.flatten_append, ← List.map_append, List.take_append_drop]
  rw [this, List.length_append]
  omega
theorem due_len (ps : List (List Nat × List Nat)) (hl : (dText ps).length ≤ 100) : ∀ i, i ≤ ps.length → (dueSt ps i).due.length ≤ 103 * i
  | 0, _ => Nat.le_refl _
  | i + 1, h => by
    have ih := due_len ps hl i (by omega)
    have hf := fin_eq ps (i + 1) h
    have hfl := fin_le ps (i + 1) h
    show (dueStep _ (dueSt ps i) i _).due.length ≤ _
    have hfe : (dueStep (dText ps) (dueSt ps i) i (ps.getD i ([], []))).fin = (dueSt ps i).fin + (ps.getD i ([], [])).1.length := by
      unfold dueStep; dsimp only; split <;> rfl
    have hf' : (dueSt ps i).fin + (ps.getD i ([], [])).1.length ≤ 100 := by
      rw [← hfe]
      have := hf.1
      change (dueStep (dText ps) (dueSt ps i) i (ps.getD i ([], []))).fin = _ at this
      omega
    unfold dueStep
    dsimp only
    split
    · have := (cut_small (((dText ps).drop (dueSt ps i).beg).take ((dueSt ps i).fin + (ps.getD i ([], [])).1.length - (dueSt ps i).beg)) ((dueSt ps i).fin + (ps.getD i ([], [])).1.length - (dueSt ps i).beg)).1
      simp only [List.length_append, pieceWords, List.length_map, List.length_cons, List.length_nil]
      omega
    · show (dueSt ps i).due.length ≤ _
      omega
theorem drop_take_len (t : List Nat) (b e : Nat) (h : b ≤ e) (h' : e ≤ t.length) : ((t.drop b).take (e - b)).length = e - b := by
  rw [List.length_take, List.length_drop]; omega
theorem due_is {w : World} {A : Around} {X : Addr → Prop} {h : Heap} (g : Gl w h) (xi : XIn X h) (hh : A.handled = none) (hroom : A.depth + 2 < recursionLimit) (ps : List (List Nat × List Nat)) (hps : ps.length ≤ 5) (hl : (dText ps).length ≤ 100) :
    CallIs w A X h (.ref 112) [.lst (ps.map pairAV)] (.lst ((dueL ps).map (dAV (dText ps)))) := by
  refine CallIs.fn (names := ["pairs"]) g xi rfl rfl (by omega) rfl (by decide) (fun vs hv => ?_) rfl rfl rfl rfl fun s s₁ Q E hs xs a hQ => ?_
  · match vs, hv with
    | [v], _ => rfl
  · have hlz : (dText ps).length ≤ 1000000 := by omega
    have hpl : (ps.map pairAV).length ≤ 1000000 := by rw [List.length_map]; omega
    refine' x_assign (av := .str (S (dText ps))) a (Ev.join (ls := ps.map Prod.fst) (EvL.cons ?a1 EvL.nil rfl) hlz rfl rfl) rfl rfl rfl ?a2
    case a1 =>
      refine' Ev.cast (Ev.comp (ts := ["meant", "data"]) (l := ps) (f := pairAV) (fun p => [("meant", AV.str (S p.2)), ("data", AV.str (S p.1))]) (fun _ => true) (fun p => AV.str (S p.1)) (by walk_at "ctx") (EvIt.lst hh ?b1) (by omega) (fun _ => Binds.pair hh rfl rfl) (fun _ => rfl) (fun _ => rfl) rfl rfl rfl ?b2) ?b3
      case b1 => walk_at "ev"
      case b3 => rw [filter_tt, List.map_map]; rfl
      case b2 =>
        intro C X' h' p hp cx
        refine ⟨EvIf.nil, fun _ => ?_⟩
        walk_at "ev"
    case a2 =>
    intro s a
    refine' x_assign (av := .lst ((List.range ((dText ps).length + 1)).map fun k => .nat (lineAt (dText ps) k))) a ?c1 rfl rfl rfl ?c2
    case c1 =>
      refine' Ev.cast (Ev.comp (ts := ["k"]) (l := List.range ((dText ps).length + 1)) (f := AV.nat) (fun k => [("k", AV.nat k)]) (fun _ => true) (fun k => .nat (lineAt (dText ps) k)) (by walk_at "ctx") (EvIt.cast (EvIt.range1 hh ?d1 ?d2 (n := (dText ps).length + 1) (by omega) rfl rfl) (upTo0 _)) (by simp; omega) (fun _ => Binds.name rfl) (fun _ => rfl) (fun _ => rfl) rfl rfl rfl ?d3) ?d4
      case d1 => walk_at "ev"
      case d2 => walk_at "evl"
      case d4 => rw [filter_tt]
      case d3 =>
        intro C X' h' k hk cx
        refine ⟨EvIf.nil, fun _ => ?_⟩
        have hk' : k ≤ (dText ps).length := by have := List.mem_range.mp hk; omega
        refine' Ev.cast (Ev.binop ?e1 (Ev.callB ?e2 (EvL.cons (Ev.comp (ts := ["sign"]) (l := (dText ps).take k) (f := fun c => .str (S [c])) (fun c => [("sign", AV.str (S [c]))]) (fun c => c == 10) (fun c => .str (S [c])) cx (EvIt.str hh (Ev.strTo ?e3 ?e4 hlz hk' (fun _ _ => rfl))) ?e5 (fun _ => Binds.name rfl) (fun _ => rfl) (fun _ => rfl) rfl rfl rfl ?e6) EvL.nil rfl) (CallIs.len_lst ?e7) rfl rfl rfl) o_addN) ?e8
        case e1 => walk_at "ev"
        case e2 => walk_at "ev"
        case e3 => walk_at "ev"
        case e4 => walk_at "ev"
        case e5 => rw [List.length_take]; omega
        case e6 =>
          intro C X' h' c hc cx
          refine ⟨EvIf.one (EvT.cast (b := (S [c] == S [10])) ?f1 (S1_beq c 10)), fun _ => ?_⟩
          case f1 => walk_at "evt"
          walk_at "ev"
        case e7 =>
          rw [List.length_map]
          have := List.length_filter_le (fun c => c == 10) ((dText ps).take k)
          rw [List.length_take] at this
          omega
        case e8 => rw [List.length_map]; rfl
    case c2 =>
    intro s a
    refine x_newlist a rfl rfl fun D X' s' xx xd nx nw a => ?_
    walk_at "set"
    walk_at "set"
    rename_i s a
    generalize hLN : ((List.range ((dText ps).length + 1)).map fun k => AV.nat (lineAt (dText ps) k)) = LN at a
    have hln : ∀ j, j ≤ (dText ps).length → LN[j]? = some (.nat (lineAt (dText ps) j)) := fun j hj => by
      rw [← hLN, List.getElem?_map, List.getElem?_range (by omega)]; rfl
    have hlnz : LN.length ≤ 1000000 := by rw [← hLN]; simp; omega
    have hdl := due_len ps hl
    refine x_for (σ := Unit) (fun i _ => [("due", .raw (.ref D)), ("begin", .nat (dueSt ps i).beg), ("end", .nat (dueSt ps i).fin), ("pairs", .lst (ps.map pairAV)), ("text", .str (S (dText ps))), ("lines", .lst LN)]) (fun i _ => Res.list D ((dueSt ps i).due.map (dAV (dText ps)))) (fun _ _ => True) () a
      (EvIt.range1 hh ?g1 ?g2 (n := ps.length) (by omega) rfl rfl) rfl rfl (fun _ => rfl) trivial ⟨rfl, rfl, rfl, rfl, rfl, rfl, trivial⟩ (fun _ _ _ q => .inl q) (fun _ _ q => q.1) ?t ?d
    case g1 => walk_at "ev"
    case g2 =>
      refine' EvL.cons (Ev.cast (Ev.callB ?h1 ?h2 (CallIs.len_lst ?h3) rfl rfl rfl) ?h4) EvL.nil rfl
      case h1 => walk_at "ev"
      case h2 => walk_at "evl"
      case h3 => exact hpl
      case h4 => rw [List.length_map]
    case t =>
      intro X' U i u d s' xx ux hd _ a E'
      have hi : i < ps.length := by
        have := (List.getElem?_eq_some_iff.mp hd).1
        simpa [upTo] using this
      have hd' : d = .nat i := by
        rw [upTo_get (by omega), Nat.zero_add] at hd
        exact (Option.some.inj hd).symm
      subst hd'
      have hU : ¬ U.fp D := fun q => ux D q (.inl rfl)
      have hfi := fin_eq ps (i + 1) hi
      have hfl := fin_le ps (i + 1) hi
      have hf0 := fin_eq ps i (Nat.le_of_lt hi)
      have hd0 := hdl i (Nat.le_of_lt hi)
      have hk : ps[i]? = some (ps.getD i ([], [])) := by rw [List.getD_eq_getElem?_getD, List.getElem?_eq_getElem hi]; rfl
      have hnx : dueSt ps (i + 1) = dueStep (dText ps) (dueSt ps i) i (ps.getD i ([], [])) := rfl
      rw [hnx] at hfi ⊢
      generalize dueSt ps i = st at a hfi hf0 hd0 ⊢
      generalize ps.getD i ([], []) = q at hk hfi ⊢
      obtain ⟨qa, qb⟩ := q
      have hkp : (ps.map pairAV)[i]? = some (.tup [.str (S qa), .str (S qb)]) := by rw [List.getElem?_map, hk]; rfl
      obtain ⟨du, b, e⟩ := st
      simp only at a hf0 hd0
      have hqe : e + qa.length ≤ (dText ps).length := by
        have h1 := hfi.1
        unfold dueStep at h1
        dsimp only at h1
        split at h1 <;> (simp only at h1; omega)
      have hqa : qa.length ≤ 1000000 := by omega
      refine' x_aug (o := .nat e) (av := .nat qa.length) a rfl ?i1 o_iaddN rfl rfl rfl ?i2
      case i1 =>
        refine' Ev.callB ?j1 ?j2 (CallIs.len_strS hqa) rfl rfl rfl
        case j1 => walk_at "ev"
        case j2 => walk_at "evl"
      case i2 =>
      intro s a
      refine' x_if a ?k1 ?k2 ?k3
      case k1 => walk_at "evt"
      case k3 =>
        intro ht s a
        rw [S_bne] at ht
        have es : dueStep (dText ps) ⟨du, b, e⟩ i (qa, qb) = ⟨du, b, e + qa.length⟩ := by
          unfold dueStep; dsimp only; rw [if_neg (by rw [ht]; exact Bool.false_ne_true)]
        rw [es]
        exact x_nil (x_nil ⟨(), trivial, a.sub ⟨rfl, rfl, rfl, rfl, rfl, rfl, trivial⟩⟩)
      case k2 =>
        intro ht s a
        rw [S_bne] at ht
        have es : dueStep (dText ps) ⟨du, b, e⟩ i (qa, qb) = ⟨du ++ pieceWords (dText ps) b (e + qa.length) ++ [(none, e + qa.length), (some (bad ++ [letters.getD i 0]), e + qa.length), (some [letters.getD i 0], e + qa.length)], e + qa.length, e + qa.length⟩ := by
          unfold dueStep; dsimp only; rw [if_pos ht]
        rw [es]
        have hbe : b ≤ e + qa.length := by omega
        have hpc := drop_take_len (dText ps) b (e + qa.length) hbe hqe
        have hcs := cut_stop (((dText ps).drop b).take (e + qa.length - b)) (e + qa.length - b)
        have hcl := (cut_small (((dText ps).drop b).take (e + qa.length - b)) (e + qa.length - b)).1
        refine' x_extend (es := (pieceWords (dText ps) b (e + qa.length)).map (dAV (dText ps))) a rfl hU ?l1 ?l2 rfl rfl rfl ?l3
        case l2 => simp only [List.length_map, pieceWords]; omega
        case l1 =>
          refine' Ev.cast (Ev.comp (ts := ["stop", "word"]) (l := (cutSt (((dText ps).drop b).take (e + qa.length - b)) (e + qa.length - b)).words) (f := pAV) (fun p => [("stop", AV.nat p.2), ("word", AV.str (S p.1))]) (fun _ => true) (fun p => dAV (dText ps) (some p.1, b + p.2)) (by walk_at "ctx")
            (EvIt.lst hh (Ev.tupItem (k := 0) (Ev.callG a.Gl rfl rfl rfl rfl rfl (n_cut w) rfl (EvL.cons (Ev.strMid (a := b) (b := e + qa.length) ?m1 ?m2 ?m3 hlz hbe hqe (fun _ _ => rfl)) EvL.nil rfl) (cut_is a.Gl a.xin (by exact hh) (by show A.depth + 1 + 1 < _; omega) _ (by rw [hpc]; omega)) rfl rfl) Ev.natl ?m5 (by simp) (fun _ _ => rfl))) (by omega) (fun _ => Binds.pair hh rfl rfl) (fun _ => rfl) (fun _ => rfl) rfl rfl rfl ?m6) ?m7
          case m1 => walk_at "ev"
          case m2 => walk_at "ev"
          case m3 => walk_at "ev"
          case m5 => rw [hpc]; rfl
          case m7 => rw [filter_tt, pieceWords, List.map_map]; rfl
          case m6 =>
            intro C X' h' p hp cx
            refine ⟨EvIf.nil, fun _ => ?_⟩
            have hle : b + p.2 ≤ (dText ps).length := by have := hcs p hp; omega
            have hj := hln _ hle
            refine' Ev.tup ?n1 cx.xin (by simp)
            case n1 => walk_at "evl"
        case l3 =>
        intro s a
        have hj := hln _ hqe
        have hil : letters[i]? = some (letters.getD i 0) := by
          rw [List.getD_eq_getElem?_getD, List.getElem?_eq_getElem (by simp [letters]; omega)]; rfl
        refine' x_extend (es := [(none, e + qa.length), (some (bad ++ [letters.getD i 0]), e + qa.length), (some [letters.getD i 0], e + qa.length)].map (dAV (dText ps))) a rfl hU ?o1 ?o2 rfl rfl rfl ?o3
        case o2 => simp only [List.length_append, List.length_map, pieceWords, List.length_cons, List.length_nil]; omega
        case o1 =>
          refine' Ev.cast (Ev.comp (ts := ["word"]) (l := [none, some (bad ++ [letters.getD i 0]), some [letters.getD i 0]]) (f := wAV) (fun p => [("word", wAV p)]) (fun _ => true) (fun p => dAV (dText ps) (p, e + qa.length)) (by walk_at "ctx")
            (EvIt.lst hh (Ev.lst (EvL.cons Ev.nonec (EvL.cons (Ev.binop (Ev.strS (l := bad) rfl) (Ev.strItem (l := letters) (Ev.strS rfl) ?p1 hil (by decide) (fun _ _ => rfl)) (o_addS' (by simp [bad]))) (EvL.cons (Ev.strItem (l := letters) (Ev.strS rfl) ?p2 hil (by decide) (fun _ _ => rfl)) EvL.nil rfl) rfl) rfl) a.xin (by simp))) (by simp) (fun _ => Binds.name rfl) (fun _ => rfl) (fun _ => rfl) rfl rfl rfl ?p3) ?p4
          case p1 => walk_at "ev"
          case p2 => walk_at "ev"
          case p4 => rfl
          case p3 =>
            intro C X' h' p hp cx
            refine ⟨EvIf.nil, fun _ => ?_⟩
            refine' Ev.tup ?p5 cx.xin (by simp)
            case p5 => walk_at "evl"
        case o3 =>
        intro s a
        walk_at "set"
        rename_i s a
        rw [List.map_append, List.map_append]
        exact x_nil (x_nil ⟨(), trivial, Act.sub a ⟨rfl, rfl, rfl, rfl, rfl, rfl, trivial⟩⟩)
    case d =>
      intro u s' _ a
      rw [show (upTo 0 ps.length).length = ps.length by simp [upTo]] at a
      have hfe := fin_eq ps ps.length (Nat.le_refl _)
      rw [List.take_length] at hfe
      have hd0 := hdl ps.length (Nat.le_refl _)
      have a := a.wk (W' := (Res.list D ((dueSt ps ps.length).due.map (dAV (dText ps)))).and Res.emp) (fun b q => q.elim id fun z => z.elim) (fun q => ⟨q, trivial⟩)
      have hdd : dueL ps = (dueSt ps ps.length).due ++ pieceWords (dText ps) (dueSt ps ps.length).beg (dText ps).length ++ [(some ((cutSt ((dText ps).drop (dueSt ps ps.length).beg) ((dText ps).length - (dueSt ps ps.length).beg)).word.getD []), (dText ps).length), (some [], (dText ps).length), (some [], (dText ps).length)] := rfl
      rw [hdd] at hQ
      generalize dueSt ps ps.length = st at a hfe hd0 hQ
      obtain ⟨du, b, e⟩ := st
      simp only at a hfe hd0 hQ
      obtain ⟨rfl, hbe⟩ := hfe
      have hpw : pieceWords (dText ps) b (dText ps).length = (cutSt ((dText ps).drop b) ((dText ps).length - b)).words.map fun p => (some p.1, b + p.2) := by
        unfold pieceWords
        rw [List.take_of_length_le (by rw [List.length_drop]; exact Nat.le_refl _)]
      have hpc : ((dText ps).drop b).length = (dText ps).length - b := List.length_drop
      have hcs := cut_stop ((dText ps).drop b) ((dText ps).length - b)
      have hcl := (cut_small ((dText ps).drop b) ((dText ps).length - b)).1
      refine' x_unpack (d := .lst ((cutSt ((dText ps).drop b) ((dText ps).length - b)).words.map pAV)) (d' := .str (S ((cutSt ((dText ps).drop b) ((dText ps).length - b)).word.getD []))) hh a (Ev.cast (Ev.callG a.Gl rfl rfl rfl rfl rfl (n_cut w) rfl (EvL.cons (Ev.strFrom (k := b) ?q1 ?q2 hlz hbe (fun _ _ => rfl)) EvL.nil rfl) (cut_is a.Gl a.xin (by exact hh) (by show A.depth + 1 + 1 < _; omega) _ (by rw [hpc]; omega)) rfl rfl) (by rw [hpc])) rfl rfl rfl rfl rfl ?q3
      case q1 => walk_at "ev"
      case q2 => walk_at "ev"
      case q3 =>
      intro s a
      generalize hcut : cutSt ((dText ps).drop b) ((dText ps).length - b) = cs at a hcs hcl hpw hQ
      refine' x_extend (es := (pieceWords (dText ps) b (dText ps).length).map (dAV (dText ps))) a rfl (fun z => z) ?r1 ?r2 rfl rfl rfl ?r3
      case r2 => rw [hpw]; simp only [List.length_map]; omega
      case r1 =>
        refine' Ev.cast (Ev.comp (ts := ["stop", "word"]) (l := cs.words) (f := pAV) (fun p => [("stop", AV.nat p.2), ("word", AV.str (S p.1))]) (fun _ => true) (fun p => dAV (dText ps) (some p.1, b + p.2)) (by walk_at "ctx") (EvIt.lst hh ?r4) (by omega) (fun _ => Binds.pair hh rfl rfl) (fun _ => rfl) (fun _ => rfl) rfl rfl rfl ?r5) ?r6
        case r4 => walk_at "ev"
        case r6 => rw [filter_tt, hpw, List.map_map]; rfl
        case r5 =>
          intro C X' h' p hp cx
          refine ⟨EvIf.nil, fun _ => ?_⟩
          have hle : b + p.2 ≤ (dText ps).length := by have := hcs p hp; omega
          have hj := hln _ hle
          refine' Ev.tup ?n1 cx.xin (by simp)
          case n1 => walk_at "evl"
      case r3 =>
      intro s a
      obtain ⟨a, il⟩ := a.freeze (fun z => z) (fun z => z)
      have a := a.recast (x := "due") rfl il
      have hj := hln _ (Nat.le_refl (dText ps).length)
      refine' x_ret (av := .lst ((du.map (dAV (dText ps)) ++ (pieceWords (dText ps) b (dText ps).length).map (dAV (dText ps))) ++ [(some (cs.word.getD []), (dText ps).length), (some [], (dText ps).length), (some [], (dText ps).length)].map (dAV (dText ps)))) a (Ev.addL ?t1 ?t2 a.xin ?t3) ?t4
      case t1 => walk_at "ev"
      case t2 =>
        refine' Ev.cast (Ev.comp (ts := ["word"]) (l := [some (cs.word.getD []), some [], some []]) (f := wAV) (fun p => [("word", wAV p)]) (fun _ => true) (fun p => dAV (dText ps) (p, (dText ps).length)) (by walk_at "ctx")
          (EvIt.lst hh (Ev.lst ?u1 a.xin (by simp))) (by simp) (fun _ => Binds.name rfl) (fun _ => rfl) (fun _ => rfl) rfl rfl rfl ?u3) rfl
        case u1 =>
          refine' EvL.cons ?v1 (EvL.cons ?v2 (EvL.cons ?v3 EvL.nil rfl) rfl) rfl
          case v1 => exact Ctx.ev (by walk_at "ctx") rfl rfl rfl rfl rfl rfl
          case v2 => walk_at "ev"
          case v3 => walk_at "ev"
        case u3 =>
          intro C X' h' p hp cx
          refine ⟨EvIf.nil, fun _ => ?_⟩
          refine' Ev.tup ?u5 cx.xin (by simp)
          case u5 => walk_at "evl"
      case t3 => rw [hpw]; simp only [List.length_append, List.length_map, List.length_cons, List.length_nil]; omega
      case t4 =>
        intro v s₂ a₂ i₂
        rw [← List.map_append, ← List.map_append] at i₂
        obtain ⟨k, i⟩ := a₂.leave (X := X) (fun b q => ⟨xx b (.inl q), fun z => nx (z ▸ .inl q)⟩) i₂
        exact hQ v s₂ k i
end
end
section

open PySem PySem.W PyProof PyProof.Rows
open Builtin Builtin.ObjectAttr
theorem lk_fn_getattr : typeLookup (.type "function") "__getattr__" = pure none := by rw [typeLookup_type, builtinLookup_eq_fast]; kernel_rfl
theorem lk_fn_read : typeLookup (.type "function") "read" = pure none := by rw [typeLookup_type, builtinLookup_eq_fast]; kernel_rfl
theorem slot_fn_ga : Slot "function" "__getattribute__" "object.__getattribute__" :=
  .of (owner := "object") (n := "__getattribute__") (by rw [typeLookup_type, builtinLookup_eq_fast]; kernel_rfl) (by decide +kernel) (by decide +kernel) (by decide +kernel)
    (by first | exact .inl (by decide +kernel) | exact .inr (by decide +kernel)) (by rw [isSubtype_type]; kernel_rfl)
theorem slot_fn_sa : Slot "function" "__setattr__" "object.__setattr__" :=
  .of (owner := "object") (n := "__setattr__") (by rw [typeLookup_type, builtinLookup_eq_fast]; kernel_rfl) (by decide +kernel) (by decide +kernel) (by decide +kernel)
    (by first | exact .inl (by decide +kernel) | exact .inr (by decide +kernel)) (by rw [isSubtype_type]; kernel_rfl)
theorem entry_ga : entryFor table "object.__getattribute__" = some Builtin.«object.__getattribute__» := entryFor_of_tree (by kernel_rfl)
theorem args_ga (a b : Value) : argsOk "object.__getattribute__" ⟨[a, b], []⟩ := by unfold argsOk; kernel_rfl
theorem args_sa (a b c : Value) : argsOk "object.__setattr__" ⟨[a, b, c], []⟩ := by unfold argsOk; kernel_rfl
section
variable {w : World} {A : Around} {E : Value → Shared → Prop} {s : Shared} {f : Addr} {o : Obj} {fd : FuncData}
theorem fn_load {dx : Addr} {mA : Str → Option Value} {v : Value} {Q : Value → Shared → Prop} (ho : s.heap.get? f = some o) (hc : o.cls = .type "function") (hd : o.data = .func fd) (hx : o.dict = some dx) (hn : s.heap.Ns dx mA) (hv : mA "read" = some v) (hh : handedOut v = pure v)
    (hQ : Q v { s with toks := s.toks + 1 }) : wpAny (model PR w) A (getAttr (.ref f) "read") Q E s := by
  obtain ⟨h, g, d, t, os⟩ := s
  have hT : ∀ t, Shared.TypeIs ⟨h, g, d, t, os⟩ (.ref f) "function" := fun t => ⟨o, ho, hc⟩
  unfold getAttr getAttrBy
  repeat (first | (with_reducible refine wpAny_loadPart_at ho ?_; rw [hc]) | (with_reducible refine wpAny_of_eq slot_fn_ga.lookup ?_) | wp_step)
  refine wpAny_of_eq (slot_fn_ga.bind _) ?_
  refine wpAny_call_entry slot_fn_ga (hT _) entry_ga ?_ (args_ga _ _)
  unfold Builtin.«object.__getattribute__»
  repeat (first | (with_reducible refine wpAny_loadPart_at ho ?_; rw [hc]) | (with_reducible refine wpAny_of_eq lk_fn_read ?_) | wp_step)
  rw [hd]
  unfold instanceDict
  repeat (first | (with_reducible refine wpAny_loadPart_at ho ?_; rw [hc, hx]) | (with_reducible refine wpAny_nsGet hn ?_; rw [hv]) | wp_step)
  refine ⟨v, rfl, ?_⟩
  dsimp only
  rw [hh]
  exact wpAny_pure hQ
theorem fn_method {dx : Addr} {mA : Str → Option Value} {v : Value} {pl : Sem Bool} {Q : Value × List Value → Shared → Prop} (ho : s.heap.get? f = some o) (hc : o.cls = .type "function") (hd : o.data = .func fd) (hx : o.dict = some dx) (hn : s.heap.Ns dx mA) (hv : mA "read" = some v) (hh : handedOut v = pure v)
    (hQ : Q (v, []) { s with toks := s.toks + 1 }) : wpAny (model PR w) A (getMethod (.ref f) "read" pl) Q E s := by
  have hT : s.TypeIs (.ref f) "function" := ⟨o, ho, hc⟩
  unfold getMethod
  refine wpAny_bind (wpAny_specialOf hT slot_fn_ga.lookup ?_)
  show wpAny _ A (if (Manifest.canonical "object.__getattribute__" != "object.__getattribute__") = true then _ else _) Q E s
  rw [PySem.F.canon_object_ga, if_neg Bool.false_ne_true]
  refine wpAny_bind (wpAny_specialOf hT lk_fn_getattr ?_)
  refine wpAny_bind (wpAny_specialOf hT lk_fn_read ?_)
  exact wpAny_bind (fn_load ho hc hd hx hn hv hh (wpAny_pure hQ))
theorem entry_sa : entryFor table "object.__setattr__" = some Builtin.«object.__setattr__» := entryFor_of_tree (by kernel_rfl)
theorem passes_sa : ∀ self : Value, refuseLoop self "__setattr__" [.type "function", .type "object"] = pure () := fun self => by kernel_rfl
theorem mro_fn : mroOf (.type "function") = pure [.type "function", .type "object"] := by kernel_rfl
theorem hasDict_fn : typeHasDict (.type "function") = true := by decide +kernel
theorem dictMade_fn (a d : Addr) : dictMade (.type "function") a d = pure (some d) := by
  unfold dictMade
  exact if_neg (by rw [show finalisedInACycleAlone "function" = false by decide +kernel]; exact Bool.false_ne_true)
theorem fn_store {v : Value} {Q : Unit → Shared → Prop} (ho : s.heap.get? f = some o) (hc : o.cls = .type "function") (hd : o.data = .func fd) (hx : o.dict = none)
    (hQ : ∀ h' tk, h'.get? f = some { o with dict := some s.heap.objs.size } → h'.Ns s.heap.objs.size (fun y => if y = "read" then some v else none) → (∀ b ob, b ≠ f → s.heap.get? b = some ob → h'.get? b = some ob) → Q () { s with heap := h', toks := tk }) :
    wpAny (model PR w) A (setAttr (.ref f) "read" v) Q E s := by
  obtain ⟨h, g, d, t, os⟩ := s
  have hT : ∀ t, Shared.TypeIs ⟨h, g, d, t, os⟩ (.ref f) "function" := fun t => ⟨o, ho, hc⟩
  have hpass := passes_sa (.ref f)
  unfold setAttr callSpecial? specialOf
  repeat (any_goals (first | assumption | (with_reducible refine wpAny_loadPart_at ho ?_; rw [hc]) | (with_reducible refine wpAny_of_eq slot_fn_sa.lookup ?_) | (with_reducible refine wpAny_of_eq (slot_fn_sa.bind _) ?_) | wp_step))
  refine codeAny_call_builtin slot_fn_sa.plain entry_sa (slot_fn_sa.check _ _ _ _ _ _ _ _ (hT _) (args_sa _ _ _) ?_)
  unfold Builtin.«object.__setattr__»
  repeat (first | rw [refuse_eq] | (rw [refuseLoop_ref, hpass]) | (with_reducible refine wpAny_loadPart_at ho ?_; rw [hc]) | (with_reducible refine wpAny_of_eq mro_fn ?_) | (with_reducible refine wpAny_of_eq lk_fn_read ?_) | wp_step)
  rw [hx, hd]
  dsimp only
  rw [if_neg (by rw [hasDict_fn]; decide)]
  have hxs : f ≠ h.objs.size := Nat.ne_of_lt (Heap.lt_size ho)
  have hx₁ : (h.push { cls := .type "dict", data := .dict #[] }).get? f = some o := Heap.get?_push_of_some _ ho
  refine wpAny_bind (wpAny_alloc' ?_)
  refine wpAny_bind (wpAny_update' hx₁ ?_)
  refine wpAny_of_eq (dictMade_fn _ _) ?_
  have hgd : ((h.push { cls := .type "dict", data := .dict #[] }).update f fun o => { cls := o.cls, dict := some h.objs.size, data := o.data, slots := o.slots }).get? h.objs.size = some { cls := .type "dict", data := .dict #[] } :=
    (Heap.get?_update_ne _ _ _ _ hxs.symm).trans (Heap.get?_push_at rfl rfl)
  have hnd : ((h.push { cls := .type "dict", data := .dict #[] }).update f fun o => { cls := o.cls, dict := some h.objs.size, data := o.data, slots := o.slots }).Ns h.objs.size (fun _ => none) :=
    ⟨_, #[], _, hgd, rfl, fun e he => absurd he (by simp), fun _ => rfl⟩
  show wpAny _ _ (storeInDict h.objs.size (.str "read" t) "read" v) _ _ _
  unfold storeInDict newKeyGuard
  refine wpAny_bind (wpAny_pure (wpAny_bind (wpAny_nsSet1 (Heap.Ns1.of_empty hnd) fun h' hn' hs => ?_)))
  obtain ⟨oD, esD, epD, hoD, hdD, hcD⟩ := hn'.count (Within.cons "read" v Within.nil)
  refine wpAny_bind (wpAny_lookBehind hoD (by rw [hdD]; exact pastItsLine_dict (Nat.le_trans hcD (by rw [List.length_cons, List.length_nil, sizeLine_eq]; omega))) ?_)
  wp_walk
  refine hQ h' _ ?_ hn'.ns fun b ob hb e => (hs.2 b (Nat.ne_of_lt (Heap.lt_size e))).trans ((Heap.get?_update_ne _ _ _ _ hb).trans (Heap.get?_push_of_some _ e))
  refine (hs.2 f hxs).trans (Heap.get?_update_self _ hx₁ ?_)
  have hfr := (Heap.get?_some_iff.mp ho).2
  obtain ⟨oc, od, odt, osl⟩ := o
  cases odt <;> first | rfl | exact hfr
end
end
section

open PySem PySem.W PyProof PyProof.Rows
theorem rev_lookup {β : Type} : ∀ {l : List (Str × β)}, (l.map (·.1)).Nodup → ∀ x, l.reverse.lookup x = l.lookup x
  | [], _, x => rfl
  | (a, b) :: l, h, x => by
    have h' := List.nodup_cons.mp h
    rw [List.reverse_cons, List.lookup_append, rev_lookup h'.2]
    by_cases q : x = a
    · subst q
      have : l.lookup x = none := by
        cases e : l.lookup x with
        | none => rfl
        | some v => exact absurd (List.mem_map.mpr ⟨(x, v), PySem.mem_of_lookup e, rfl⟩) h'.1
      rw [this]; simp [List.lookup_cons]
    · have q' : (x == a) = false := by simpa using q
      rw [List.lookup_cons, q', List.lookup_cons, q']
      cases l.lookup x <;> rfl
theorem zip_at : ∀ {names : List Str} {vs : List Value} {avs : List AV} {X : Addr → Prop} {h : Heap}, vs.length = names.length → avs.length = names.length → IsL X h vs avs → ∀ x av, (names.zip avs).lookup x = some av → ∃ v, (names.zip vs).lookup x = some v ∧ Is X h v av
  | [], _, _, _, _, _, _, _, x, av, e => by cases e
  | n :: ns, v :: vs, a :: avs, X, h, h1, h2, .cons i is, x, av, e => by
    rw [List.zip_cons_cons, List.lookup_cons] at e
    rw [List.zip_cons_cons, List.lookup_cons]
    cases q : x == n with
    | true => rw [q] at e; cases e; exact ⟨v, rfl, i⟩
    | false => rw [q] at e; exact zip_at (by simpa using h1) (by simpa using h2) is x av e
section
variable {w : World} {A : Around} {X Y : Addr → Prop} {W : Res} {s : Shared} {Q : Value → Shared → Prop} {E : Value → Shared → Prop}
/-- a def without cells of its own is entered -/
theorem enterC {f : Addr} {fo : Obj} {name q : Str} {params : Arguments} {body : List Stmt} {sc : Scope} {cl : List (Str × Addr)} {dV kV doc pm cd ct : Value} {an : Option Addr} {names : List Str} {avs : List AV} {vs : List Value} {ρc : Rho}
    (g : Gl w s.heap) (xi : XIn X s.heap) (ho : s.heap.get? f = some fo) (hd : fo.data = .func (fnX name q params body sc cl dV kV doc pm an cd ct)) (hcd : s.heap.CodeRec cd q) (hroom : A.depth < recursionLimit)
    (hlen : avs.length = names.length) (hnd : names.Nodup) (hbind : bindArgs (fnX name q params body sc cl dV kV doc pm an cd ct) ⟨vs, []⟩ = pure (names.zip vs))
    (hloc : (names.all fun y => sc.names.lookup y == some .local) = true) (hcell : (sc.names.all fun p => p.2 != .cell) = true) (hco : sc.isCoroutine = false) (hgen : sc.isGenerator = false) (hk : sc.kind = .function)
    (i : IsL X s.heap vs avs) (hY : ∀ b, Y b → X b ∧ ¬ GA b ∧ b < s.heap.objs.size) (hW : ∀ b, W.fp b → Y b) (hw : W.holds X s.heap)
    (hc : ∀ x av, ρc.lookup x = some av → sc.names.lookup x = some .free ∧ ∃ c v, cl.lookup x = some c ∧ s.heap.IsCell c (some v) ∧ ¬ X c ∧ Is X s.heap v av)
    (k : ∀ s₁, Act w Y (fun b => X b ∨ b = s.heap.objs.size) s (envX q sc s.heap.objs.size f cd cl) (names.zip avs ++ ρc) W s₁ →
      wpAny (model PR w) (A.deeper (envX q sc s.heap.objs.size f cd cl)) (execs body (envX q sc s.heap.objs.size f cd cl)) (fun fl s' => Q (match fl with | .ret v => v | _ => .none) s')
        (fun e s' => wpAny (model PR w) (A.deeper (envX q sc s.heap.objs.size f cd cl)) (leaving (envX q sc s.heap.objs.size f cd cl) e) (fun _ s'' => E e s'') (fun e' s'' => E e' s'') s') s₁) :
    codeAny (model PR w) A (.call (.ref f) ⟨vs, []⟩) (fun r s' => match r with | .ok (.ret v) => Q v s' | .ok _ => False | .error e => E e s') s := by
  obtain ⟨mg, mb, T⟩ := g.T
  have hcell' : ∀ x ∈ sc.names, x.2 ≠ .cell := fun x hx => by
    have := List.all_eq_true.mp hcell x hx
    simpa using this
  have hnocell : ∀ x, (envX q sc s.heap.objs.size f cd cl).kindOf x ≠ some .cell := fun x z => hcell' _ (PySem.mem_of_lookup z) rfl
  have hvl : vs.length = names.length := i.length.trans hlen
  have own_eq : ∀ b, Own (envX q sc s.heap.objs.size f cd cl) b → b = s.heap.objs.size := fun b hb => hb.elim id fun ⟨x, hx, _⟩ => absurd hx (hnocell x)
  have hnone : s.heap.get? s.heap.objs.size = none := by
    cases e : s.heap.get? s.heap.objs.size with
    | none => rfl
    | some o => exact absurd (Heap.lt_size e) (Nat.lt_irrefl _)
  refine codeAny_call_def (fd := fnX name q params body sc cl dV kV doc pm an cd ct) (body := body) hroom ho hd T.nolimit hcd rfl (.of_eq hbind) hcell' (fun x hx => ?_) (fun h₀ hn hk₀ => ?_) hco hgen hk
  · have hm : x.1 ∈ names := (List.of_mem_zip (a := x.1) (b := x.2) hx).1
    simpa using List.all_eq_true.mp hloc x.1 hm
  · have ps : Passes X s.heap (fun b => X b ∨ b = s.heap.objs.size) h₀ := fun b o nx e => ⟨fun z => z.elim nx fun z => (by rw [z, hnone] at e; cases e), hk₀ b o e⟩
    refine k _ ⟨⟨h₀, _, rfl⟩, fun b o _ e => hk₀ b o e, ⟨_, hn, fun x av hx e => ?_⟩, fun x c hx _ => absurd hx (hnocell x), fun x av hx e => ?_, fun b hb => ?_, fun x c hx _ => absurd hx (hnocell x), fun b hb => .inr (own_eq b hb),
      fun b hb => .inl (hY b hb).1, fun b hb => ?_, fun b hb => (hY b hb).2, g, fun b hb => ⟨.inl (hY b (hW b hb)).1, fun z => ?_, .inl (hW b hb)⟩, W.stable _ _ _ _ hw (fun b o _ e => hk₀ b o e) ps⟩
    · dsimp only
      rw [rev_lookup (by rw [List.map_fst_zip (by omega)]; exact hnd)]
      rw [List.lookup_append] at e
      cases e' : (names.zip avs).lookup x with
      | some av' =>
        rw [e'] at e
        cases e
        obtain ⟨v, h1, h2⟩ := zip_at hvl hlen i x _ e'
        exact ⟨v, h1, h2.pass ps⟩
      | none =>
        rw [e'] at e
        exfalso
        have h1 := (hc x av e).1
        have h2 : sc.names.lookup x = some .local := hx
        rw [h1] at h2; cases h2
    · rw [List.lookup_append] at e
      cases e' : (names.zip avs).lookup x with
      | some av' =>
        exfalso
        have hm : x ∈ names := (List.of_mem_zip (PySem.mem_of_lookup e')).1
        have := List.all_eq_true.mp hloc x hm
        have hx' : sc.names.lookup x = some .free := hx
        rw [hx'] at this
        exact absurd this (by decide)
      | none =>
        rw [e'] at e
        obtain ⟨_, c, v, hcl, ⟨oc, hoc, hod⟩, hcx, hi⟩ := hc x av e
        exact ⟨c, v, hcl, ⟨oc, hk₀ _ _ hoc, hod⟩, (ps c oc hcx hoc).1, hi.pass ps⟩
    · rw [own_eq b hb]; exact hnone
    · rcases hb with hb | hb
      · obtain ⟨o, e⟩ := xi b hb; exact ⟨o, hk₀ b o e⟩
      · obtain ⟨o, _, _, e, _⟩ := hn; exact ⟨o, hb ▸ e⟩
    · have := (hY b (hW b hb)).2.2
      rw [own_eq b z] at this
      exact Nat.lt_irrefl _ this
end
end
section

open PySem PySem.W PyProof PyProof.Rows
/-- a list whose items are stored into -/
def Res.st (D : Addr) (l : List AV) : Res := ⟨fun b => b = D, fun X h => ∃ vs : List Value, h.IsList D vs.toArray ∧ IsL X h vs l,
  fun _ _ _ _ ⟨vs, e, i⟩ k q => ⟨vs, e.at fun o e => k D o rfl e, i.pass q⟩⟩
section
variable {w : World} {A : Around} {env : Env} {X : Addr → Prop} {h : Heap} {ρ : Rho}
/-- an item of a list that stands in h -/
theorem Ev.rawItem {v i : Expr} {p : Pos} {D : Addr} {vs : List Value} {l : List AV} {k : Nat} {d : AV} (hl : h.IsList D vs.toArray) (il : IsL X h vs l) (x : Ev w A env X h v (.raw (.ref D))) (y : Ev w A env X h i (.nat k)) (hk : l[k]? = some d) (hz : l.length ≤ 1000000)
    (hs : ∀ o j, subscripted i false o j = operate [o, j] (getItem o j)) : Ev w A env X h (.Subscript v i p) d := ⟨fun s _ _ hh hQ => by
  with_reducible refine Subscript_ (x.run s _ _ hh fun v s₁ k₁ i₁ => y.run s₁ _ _ (hh.trans k₁.ext) fun u s₂ k₂ i₂ => ?_)
  obtain ⟨hl', hc⟩ := List.getElem?_eq_some_iff.mp hk
  cases i₁
  cases i₂
  have ex : Ext h s₂.heap := hh.trans (k₁.trans k₂).ext
  obtain ⟨u, hu, iu⟩ := il.get hk
  have hL : s₂.heap.IsList D vs.toArray := hl.at fun o e => ex _ o e
  with_reducible refine tail_any hL.typeIs slot_list_getitem.lookup ?_ (hs _ _)
  with_reducible refine wpAny_getItem_list hL (by omega) (by omega) (by simpa using hu) ?_
  exact hQ _ _ (k₁.trans k₂) (iu.ext ex)⟩
end
section
variable {w : World} {A : Around} {Y X : Addr → Prop} {s₀ : Shared} {env : Env} {ρ : Rho} {W : Res} {s : Shared} {Q : Flow → Shared → Prop} {E : Value → Shared → Prop}
theorem Act.setSt {D : Addr} {l l' : List AV} (a : Act w Y X s₀ env ρ ((Res.st D l).and W) s) (hW : ¬ W.fp D) {h' : Heap} {vs : List Value} {tk : Nat} (ho : h'.IsList D vs.toArray) (hi : IsL X s.heap vs l') (hs : Heap.SameBut D s.heap h') :
    Act w Y X s₀ env ρ ((Res.st D l').and W) { s with heap := h', toks := tk } := by
  have wD := a.wfx D (.inl rfl)
  have ps : Passes X s.heap X h' := fun b o nx e => ⟨nx, (hs.2 b fun z => nx (z ▸ wD.1)).trans e⟩
  refine a.move (fun b => b = D) (fun b o nb e => (hs.2 b nb).trans e) (fun b q => by rw [q]; exact wD.1) (fun b q => by rw [q]; exact wD.2.1) (fun b q => by rw [q]; exact wD.2.2) (fun _ q => q) (fun _ q => .inl q) (fun b q r => ?_) a.wfx ⟨⟨vs, ho, hi.pass ps⟩, ?_⟩
  · rcases r with r | r
    · exact absurd q r
    · obtain ⟨o, e, _⟩ := ho; exact ⟨o, r ▸ e⟩
  · exact W.stable _ _ _ _ a.wh.2 (fun b o f e => (hs.2 b fun z => hW (z ▸ f)).trans e) ps
theorem IsL.set {X : Addr → Prop} {h : Heap} {v : Value} {d : AV} (i : Is X h v d) : ∀ {vs : List Value} {ds : List AV} (k : Nat), IsL X h vs ds → IsL X h (vs.set k v) (ds.set k d)
  | _, _, _, .nil => .nil
  | _, _, 0, .cons _ r => .cons i r
  | _, _, k + 1, .cons a r => .cons a (IsL.set i k r)
/-- x[k] = e -/
theorem x_setItem {x : Str} {p p' p'' p3 : Pos} {kk : Nat} {e : Expr} {rest : List Stmt} {D : Addr} {l : List AV} {k : Nat} {d : AV} (a : Act w Y X s₀ env ρ ((Res.st D l).and W) s) (hn : ρ.lookup x = some (.raw (.ref D))) (hW : ¬ W.fp D) (he : Ev w A env X s.heap e d) (hk : k < l.length) (hz : l.length ≤ 1000000)
    (hf : env.scope.kind = .function) (hkn : Known env x = true) (hd : (x == ("__debug__" : Str)) = false) (hcd : (x == ("__classdict__" : Str)) = false)
    (hs : swapsWith e (some (.Subscript (.Name x p) (.Constant (.int (OfNat.ofNat k)) kk p') p'')) p3.line env = pure false)
    (kt : ∀ s', Act w Y X s₀ env ρ ((Res.st D (l.set k d)).and W) s' → wpAny (model PR w) A (execs rest env) Q E s') :
    wpAny (model PR w) A (execs (.Assign [.Subscript (.Name x p) (.Constant (.int (OfNat.ofNat k)) kk p') p''] e p3 :: rest) env) Q E s := by
  refine wpAny_execs_cons (wpAny_Assign_Subscript (he.run s _ _ (Ext.refl _) fun v s₁ k₁ i₁ => ((a.ev hn hf hkn hd hcd).up k₁.ext).run s₁ _ _ (Ext.refl _) fun u s₂ k₂ i₂ => (Ev.natl (w := w) (A := A) (env := env) (X := X) (h := s₂.heap) (n := k)).run s₂ _ _ (Ext.refl _) fun j s₃ k₃ i₃ => ?_) hs)
  cases i₂
  cases i₃
  have a₃ := a.kp (k₁.trans (k₂.trans k₃))
  obtain ⟨⟨vs, hl, il⟩, _⟩ := a₃.wh
  have hlen := il.length
  refine wpAny_setItem_list hl (show (0 : Int) ≤ (k : Int) by omega) (by show (k : Int) < 2 ^ 63; omega) (by show (k : Int) < _; rw [List.size_toArray, hlen]; omega) fun h' hl' hs' => ?_
  refine kt _ (a₃.setSt (vs := vs.set k v) (l' := l.set k d) (tk := s₃.toks) hW ?_ (IsL.set (i₁.ext (k₂.trans k₃).ext) k il) hs')
  have e : (vs.toArray.setIfInBounds ((OfNat.ofNat k : Int)).toNat v) = (vs.set k v).toArray := by
    rw [show ((OfNat.ofNat k : Int)).toNat = k from Int.toNat_natCast k]
    simp
  rw [← e]
  exact hl'
/-- x[k] += e -/
theorem x_augItem {x : Str} {p p' p'' p3 : Pos} {kk : Nat} {op : Operator} {e : Expr} {rest : List Stmt} {D : Addr} {l : List AV} {k : Nat} {o d r : AV} (a : Act w Y X s₀ env ρ ((Res.st D l).and W) s) (hn : ρ.lookup x = some (.raw (.ref D))) (hW : ¬ W.fp D) (he : Ev w A env X s.heap e d) (ho : l[k]? = some o) (hop : Op2 w A X (inplaceOp op) o d r) (hz : l.length ≤ 1000000)
    (hf : env.scope.kind = .function) (hkn : Known env x = true) (hd : (x == ("__debug__" : Str)) = false) (hcd : (x == ("__classdict__" : Str)) = false)
    (kt : ∀ s', Act w Y X s₀ env ρ ((Res.st D (l.set k r)).and W) s' → wpAny (model PR w) A (execs rest env) Q E s') :
    wpAny (model PR w) A (execs (.AugAssign (.Subscript (.Name x p) (.Constant (.int (OfNat.ofNat k)) kk p') p'') op e p3 :: rest) env) Q E s := by
  refine wpAny_execs_cons (wpAny_AugAssign_SubscriptAny ((a.ev hn hf hkn hd hcd).run s _ _ (Ext.refl _) fun u s₁ k₁ i₁ => (Ev.natl (w := w) (A := A) (env := env) (X := X) (h := s₁.heap) (n := k)).run s₁ _ _ (Ext.refl _) fun j s₂ k₂ i₂ => ?_) (fun _ _ _ => rfl))
  cases i₁
  cases i₂
  obtain ⟨hk, _⟩ := List.getElem?_eq_some_iff.mp ho
  have a₂ := a.kp (k₁.trans k₂)
  obtain ⟨⟨vs, hl, il⟩, _⟩ := a₂.wh
  have hlen := il.length
  obtain ⟨old, hold, iold⟩ := il.get ho
  refine wpAny_getItem_list hl (show (0 : Int) ≤ (k : Int) by omega) (by show (k : Int) < 2 ^ 63; omega) (x := old) (by show vs.toArray[((k : Nat) : Int).toNat]? = some old; simpa using hold) ?_
  refine (he.up (k₁.trans k₂).ext).run s₂ _ _ (Ext.refl _) fun v s₃ k₃ i₃ => hop.run s₃ old v _ _ (iold.ext k₃.ext) i₃ fun nv s₄ k₄ i₄ => ?_
  have a₄ := a₂.kp (k₃.trans k₄)
  have ex := (k₃.trans k₄).ext
  refine wpAny_setItem_list (hl.at fun o e => ex _ o e) (show (0 : Int) ≤ (k : Int) by omega) (by show (k : Int) < 2 ^ 63; omega) (by show (k : Int) < _; rw [List.size_toArray, hlen]; omega) fun h' hl' hs' => ?_
  refine kt _ (a₄.setSt (vs := vs.set k nv) (l' := l.set k r) (tk := s₄.toks) hW ?_ (IsL.set i₄ k (il.ext ex)) hs')
  have e : (vs.toArray.setIfInBounds ((OfNat.ofNat k : Int)).toNat nv) = (vs.set k nv).toArray := by
    rw [show ((OfNat.ofNat k : Int)).toNat = k from Int.toNat_natCast k]
    simp
  rw [← e]
  exact hl'
end
end
section

open PySem PySem.W PyProof PyProof.Rows
def frs (l : List Env) : List Addr := l.filterMap (·.frame)
/-- the frames of l stand in h -/
def FF (h : Heap) : List Env → Prop
  | [] => True
  | env :: r => env.scope.kind ≠ .module ∧ (∃ L o, env.frame = some L ∧ h.get? L = some o ∧ ∀ vs, o.data ≠ .fields vs) ∧ FF h r
theorem FF.to {h base : Heap} : ∀ {l : List Env}, FF h l → (∀ b ∈ frs l, base.get? b = none) → h.FunFrames base l
  | [], _, _ => trivial
  | env :: r, ⟨h1, ⟨L, o, h2, h3, h4⟩, h5⟩, hb => ⟨h1, ⟨L, o, h2, hb L (by simp [frs, h2]), h3, h4⟩, FF.to h5 fun b q => hb b (by
      simp only [frs, List.filterMap_cons, h2]; exact List.mem_cons_of_mem _ q)⟩
theorem FF.keep {h h' : Heap} : ∀ {l : List Env}, FF h l → (∀ b ∈ frs l, ∀ o, h.get? b = some o → (∀ vs, o.data ≠ .fields vs) → ∃ o', h'.get? b = some o' ∧ ∀ vs, o'.data ≠ .fields vs) → FF h' l
  | [], _, _ => trivial
  | env :: r, ⟨h1, ⟨L, o, h2, h3, h4⟩, h5⟩, k =>
    have ⟨o', e, d⟩ := k L (by simp [frs, h2]) o h3 h4
    ⟨h1, ⟨L, o', h2, e, d⟩, FF.keep h5 fun b q => k b (by simp only [frs, List.filterMap_cons, h2]; exact List.mem_cons_of_mem _ q)⟩
theorem FF.ext {h h' : Heap} {l : List Env} (x : FF h l) (e : Ext h h') : FF h' l := x.keep fun b _ o q d => ⟨o, e b o q, d⟩

/-- the heap behind a raise; B: what stays -/
structure Exc (V : Res) (X : Addr → Prop) (fs : List Addr) (msg : List Nat) (s : Shared) (t : Addr) (B : Heap) (s' : Shared) : Prop where
  same : ∃ h tk, s' = { s with heap := h, toks := tk }
  vh : V.holds X B
  arg : (∃ tk n, B.get? t = some (tupObj [.str (S msg) tk] n)) ∧ ¬ X t
  keep : ∀ b o, ¬ V.fp b → b ∉ fs → s.heap.get? b = some o → B.get? b = some o
  slots : ∀ b o, b ∈ fs → s.heap.get? b = some o → ∃ sl, s'.heap.get? b = some { o with slots := sl }
def Flown (V : Res) (X : Addr → Prop) (l : List Env) (msg : List Nat) (s s' : Shared) (ev : Value) : Prop :=
  ∃ e t B, ev = .ref e ∧ Exc V X (frs l) msg s t B s' ∧ Heap.FlyingW B l e (.ref 66) (.ref t) s'.heap
def Held (V : Res) (X : Addr → Prop) (l : List Env) (L : Addr) (msg : List Nat) (s s' : Shared) (ev : Value) : Prop :=
  ∃ e t B, ev = .ref e ∧ Exc V X (frs l) msg s t B s' ∧ Heap.HeldW B l e (.ref 66) (.ref t) L s'.heap
section
variable {V : Res} {X : Addr → Prop} {l : List Env} {msg : List Nat} {s s' : Shared} {t : Addr} {B : Heap}
theorem Exc.slot (x : Exc V X (frs l) msg s t B s') (hf : s'.heap.FunFrames B l) {h' : Heap} (u : s'.heap.UpToSlots h') : Exc V X (frs l) msg s t B { s' with heap := h' } := by
  refine ⟨?_, x.vh, x.arg, x.keep, fun b o hb e => ?_⟩
  · obtain ⟨h, tk, rfl⟩ := x.same; exact ⟨h', tk, rfl⟩
  · obtain ⟨sl, e'⟩ := x.slots b o hb e
    obtain ⟨_, o', ho', hd⟩ := hf.mem hb
    obtain ⟨sl', e''⟩ := u b _ e' (by rw [e'] at ho'; cases ho'; exact hd)
    exact ⟨sl', e''⟩
theorem Exc.cut {env : Env} {outer : List Env} {L : Addr} (x : Exc V X (frs (env :: outer)) msg s t B s') (hf : env.frame = some L) (hL : s.heap.get? L = none) : Exc V X (frs outer) msg s t B s' := by
  have hm : ∀ b, b ∈ frs (env :: outer) ↔ b = L ∨ b ∈ frs outer := fun b => by simp only [frs, List.filterMap_cons, hf]; exact List.mem_cons
  refine ⟨x.same, x.vh, x.arg, fun b o nv nf e => x.keep b o nv (fun q => ?_) e, fun b o hb e => x.slots b o ((hm b).mpr (.inr hb)) e⟩
  rcases (hm b).mp q with q | q
  · rw [q, hL] at e; cases e
  · exact nf q
end
section
variable {w : World} {A : Around} {V : Res} {X : Addr → Prop} {env : Env} {outer : List Env} {L : Addr} {msg : List Nat} {s s' : Shared} {ev : Value} {E : Value → Shared → Prop}
theorem Flown.note (x : Flown V X (env :: outer) msg s s' ev) (hfr : A.frames = some (env :: outer)) (hf : env.frame = some L) (k : ∀ s'', Held V X (env :: outer) L msg s s'' ev → E ev s'') : notedBy (model PR w) A env E ev s' := by
  obtain ⟨e, t, B, rfl, x, fl⟩ := x
  show wpAny _ A (noteFrame (.ref e) env) _ _ _
  exact wpAny_looks_onW hfr hf fl fun h' hh u => k _ ⟨e, t, B, rfl, x.slot fl.2.2.1 u, hh⟩
theorem Held.note (x : Held V X (env :: outer) L msg s s' ev) (hf : env.frame = some L) (k : ∀ s'', Held V X (env :: outer) L msg s s'' ev → E ev s'') : notedBy (model PR w) A env E ev s' := by
  obtain ⟨e, t, B, rfl, x, hh⟩ := x
  show wpAny _ A (noteFrame (.ref e) env) _ _ _
  exact wpAny_noteFrame_againW hf hh.2.2.2 (k _ ⟨e, t, B, rfl, x, hh⟩)
theorem Held.came (x : Held V X (env :: outer) L msg s s' ev) (hf : env.frame = some L) (k : ∀ s'', Held V X (env :: outer) L msg s s'' ev → E ev s'') : cameBackBy (model PR w) A env E ev s' := by
  obtain ⟨e, t, B, rfl, x, hh⟩ := x
  obtain ⟨hkb, hen, hl, oe, vs, T, oT, ts, he, hcls, hd, h1, hnT, hTe, hT, hdT, h3⟩ := id hh
  have hsz3 : 3 < ts.size := (Array.getElem?_eq_some_iff.mp h3).1
  have other : ∀ b, b ≠ T → (s'.heap.update T (Obj.mapFields (·.setIfInBounds 3 ((some L).elim Value.none fun f => rawInt f)))).get? b = s'.heap.get? b := fun b hb => Heap.get?_update_other _ _ (Ne.symm hb)
  have noRecord : ∀ b o, s'.heap.get? b = some o → (∀ vs, o.data ≠ .fields vs) → b ≠ T := fun b o hb hnf q => by
    rw [q, hT] at hb; injection hb with hb; subst hb; exact hnf ts hdT
  unfold cameBackBy
  refine wpAny_bind (wpAny_field he hd h1 ?_)
  rw [if_neg (show ¬ ((Value.ref T == Value.none) = true) from by simp)]
  rw [hf]
  have fin : ∀ Q : Unit → Shared → Prop, (∀ s'', Held V X (env :: outer) L msg s s'' (.ref e) → Q () s'') → wpAny (model PR w) A (setFlight (.ref e) (some L)) Q E s' := fun Q kk => by
    unfold setFlight
    refine wpAny_bind (wpAny_field he hd h1 ?_)
    rw [if_pos (show (Value.ref T != Value.none) = true from by simp)]
    refine wpAny_setField hT hdT hsz3 (kk _ ⟨e, t, B, rfl, x.slot hl (fun b o hb hnf => ⟨o.slots, (other b (noRecord b o hb hnf)).trans hb⟩),
      fun b o hbo => (other b fun q => by rw [q, hnT] at hbo; cases hbo).trans (hkb b o hbo), hen, hl.of_keeps fun b o hb hnf => ⟨o, (other b (noRecord b o hb hnf)).trans hb, rfl⟩, ?_⟩)
    exact ⟨oe, vs, T, _, _, (other e (Ne.symm hTe)).trans he, hcls, hd, h1, hnT, hTe, Heap.get?_update_self _ hT (Obj.isFreed_of_fields (Obj.data_mapFields hdT _)), Obj.data_mapFields hdT _, by simp [hsz3]⟩
  first
    | exact fin _ fun s'' q => k s'' q
    | exact wpAny_bind (wpAny_pure (fin _ fun s'' q => k s'' q))
theorem Held.leave (x : Held V X (env :: outer) L msg s s' ev) (hf : env.frame = some L) (hL : s.heap.get? L = none) {Q : Unit → Shared → Prop} (k : ∀ s'', Flown V X outer msg s s'' ev → Q () s'') : wpAny (model PR w) A (leaving env ev) Q E s' := by
  obtain ⟨e, t, B, rfl, x, hh⟩ := x
  unfold leaving
  refine wpAny_bind (wpAny_noteFrame_againW hf hh.2.2.2 ?_)
  refine wpAny_landsW hh fun h' hfl u => k _ ⟨e, t, B, rfl, (x.slot hh.2.2.1 u).cut hf hL, ?_⟩
  obtain ⟨k1, k2, ⟨_, _, k3⟩, k4⟩ := hfl
  exact ⟨k1, k2, k3, k4⟩
theorem Flown.leave (x : Flown V X (env :: outer) msg s s' ev) (hfr : A.frames = some (env :: outer)) (hf : env.frame = some L) (hL : s.heap.get? L = none) {Q : Unit → Shared → Prop} (k : ∀ s'', Flown V X outer msg s s'' ev → Q () s'') : wpAny (model PR w) A (leaving env ev) Q E s' := by
  obtain ⟨e, t, B, rfl, x, fl⟩ := x
  exact wpAny_leaves_onW hfr hf fl fun h' hfl u => k _ ⟨e, t, B, rfl, (x.slot fl.2.2.1 u).cut hf hL, hfl⟩
end
end
section

open PySem PySem.W PyProof PyProof.Rows
/-- what a call knows of the frames around it; V: what it may change -/
structure FrOk (A : Around) (outer : List Env) (V : Res) (X : Addr → Prop) (h : Heap) : Prop where
  fr : A.frames = some outer
  ff : FF h outer
  fx : ∀ b ∈ frs outer, X b
  nv : ∀ b ∈ frs outer, ¬ V.fp b
theorem frs_cons {env : Env} {outer : List Env} {L : Addr} (hf : env.frame = some L) (b : Addr) : b ∈ frs (env :: outer) ↔ b = L ∨ b ∈ frs outer := by
  simp only [frs, List.filterMap_cons, hf]; exact List.mem_cons
theorem FF.mem {h : Heap} : ∀ {l : List Env}, FF h l → ∀ b ∈ frs l, ∃ o, h.get? b = some o ∧ ∀ vs, o.data ≠ .fields vs
  | env :: r, ⟨_, ⟨L, o, h2, h3, h4⟩, h5⟩, b, hb => by
    rcases (frs_cons h2 b).mp hb with q | q
    · exact ⟨o, q ▸ h3, h4⟩
    · exact FF.mem h5 b q
section
variable {w : World} {A : Around} {V : Res} {Y X X₀ : Addr → Prop} {s₀ s : Shared} {env : Env} {outer : List Env} {ρ : Rho} {W : Res}
/-- the frames around, seen from within -/
theorem Act.frOk (a : Act w Y X s₀ env ρ W s) (f : FrOk A outer V X₀ s₀.heap) (hx : ∀ b, X₀ b → X b) (hy : ∀ b, Y b → V.fp b) (hf : env.frame = some env.locals) (hk : env.scope.kind ≠ .module) (hv : ¬ V.fp env.locals) :
    FrOk (A.deeper env) (env :: outer) V X s.heap := by
  refine ⟨?_, ⟨hk, ?_, f.ff.keep fun b hb o e d => ⟨o, a.keep b o (fun y => f.nv b hb (hy b y)) e, d⟩⟩, fun b hb => ?_, fun b hb => ?_⟩
  · show (A.frames).map (env :: ·) = _
    rw [f.fr]; rfl
  · obtain ⟨m, ⟨o, es, ep, e, hd, _⟩, _⟩ := a.loc
    exact ⟨_, o, hf, e, fun vs q => by rw [hd] at q; cases q⟩
  · rcases (frs_cons hf b).mp hb with q | q
    · rw [q]; exact a.own _ (.inl rfl)
    · exact hx b (f.fx b q)
  · rcases (frs_cons hf b).mp hb with q | q
    · rw [q]; exact hv
    · exact f.nv b q
/-- the first frame that a new exception leaves -/
theorem Flown.first {e : Addr} {h' : Heap} {mv : Value} {msg : List Nat} {E : Value → Shared → Prop} {Q : Unit → Shared → Prop} (a : Act w Y X s₀ env ρ W s) (f : FrOk A outer V X₀ s₀.heap) (hx : ∀ b, X₀ b → X b) (hy : ∀ b, Y b → V.fp b) (hf : env.frame = some env.locals) (hk : env.scope.kind ≠ .module) (hv : ¬ V.fp env.locals)
    (hvx : ∀ b, V.fp b → ∃ o, s.heap.get? b = some o) (hV : V.holds X s.heap) (im : Is X s.heap mv (.str (S msg))) (m : Heap.MadeExcOf s.heap h' e (.ref 66) [mv])
    (k : ∀ s'', Flown V X outer msg s₀ s'' (.ref e) → Q () s'') : wpAny (model PR w) (A.deeper env) (leaving env (.ref e)) Q E { s with heap := h' } := by
  have fo := a.frOk f hx hy hf hk hv
  obtain ⟨t, he, ht0, ht⟩ := m.there
  cases im
  rename_i tk
  have nof : ∀ b ∈ frs (env :: outer), b ≠ e ∧ b ≠ t := fun b hb => by
    obtain ⟨o, ho, _⟩ := fo.ff.mem b hb
    exact ⟨fun q => (by rw [q, m.new] at ho; cases ho), fun q => (by rw [q, ht0] at ho; cases ho)⟩
  have hff : FF h' (env :: outer) := fo.ff.ext m.keeps
  have inB : ∀ b o, h'.get? b = some o → b ≠ e → b ∉ frs (env :: outer) → (hideAll h' (e :: frs (env :: outer))).get? b = some o := fun b o q n1 n2 => hideAll_get _ q fun z => (List.mem_cons.mp z).elim n1 n2
  have hte : t ≠ e := fun q => by rw [q, he] at ht; cases ht
  refine wpAny_leaving_firstW (base := hideAll h' (e :: frs (env :: outer))) (a0 := .ref t) fo.fr (hff.to fun b hb => hideAll_none _ (.tail _ hb)) hf he (fun b o q => of_hideAll _ q) (hideAll_none _ (.head _)) rfl rfl rfl fun h'' lf => ?_
  obtain ⟨k1, ⟨_, _, k2⟩, k3, k4⟩ := lf
  refine k _ ⟨e, t, _, rfl, ⟨?_, ?_, ?_, ?_, ?_⟩, k1, hideAll_none _ (.head _), k2, k3⟩
  · obtain ⟨h, tk, rfl⟩ := a.same; exact ⟨h'', tk, rfl⟩
  · refine V.stable X X _ _ hV (fun b o fv q => inB b o (m.keeps b o q) (fun z => by rw [z, m.new] at q; cases q) fun z => fo.nv b z fv) fun b o nx q => ⟨nx, inB b o (m.keeps b o q) (fun z => (by rw [z, m.new] at q; cases q)) fun z => nx (fo.fx b z)⟩
  · exact ⟨⟨tk, 0, inB t _ ht hte fun z => (nof t z).2 rfl⟩, fun z => by obtain ⟨o, e⟩ := a.xin t z; rw [ht0] at e; cases e⟩
  · intro b o nv nf q
    have q' := a.keep b o (fun y => nv (hy b y)) q
    refine inB b o (m.keeps b o q') (fun z => by rw [z, m.new] at q'; cases q') fun z => ?_
    rcases (frs_cons hf b).mp z with z | z
    · rw [z, a.fresh _ (.inl rfl)] at q; cases q
    · exact nf z
  · intro b o hb q
    have q' := a.keep b o (fun y => f.nv b hb (hy b y)) q
    obtain ⟨o', ho', hd⟩ := f.ff.mem b hb
    rw [q] at ho'; cases ho'
    exact k4 b o (m.keeps b o q') hd
/-- a raise below, seen from the entry -/
theorem Flown.back {l : List Env} {msg : List Nat} {s' : Shared} {ev : Value} (a : Act w Y X s₀ env ρ W s) (hy : ∀ b, Y b → V.fp b) (hl : ∀ b ∈ frs l, ¬ V.fp b) (x : Flown V X l msg s s' ev) : Flown V X l msg s₀ s' ev := by
  obtain ⟨e, t, B, rfl, x, fl⟩ := x
  refine ⟨e, t, B, rfl, ⟨?_, x.vh, x.arg, fun b o nv nf q => x.keep b o nv nf (a.keep b o (fun y => nv (hy b y)) q), fun b o hb q => x.slots b o hb (a.keep b o (fun y => hl b hb (hy b y)) q)⟩, fl⟩
  obtain ⟨h, tk, hs⟩ := x.same
  obtain ⟨h₀, tk₀, rfl⟩ := a.same
  exact ⟨h, tk, hs⟩
/-- fewer addresses that may change -/
theorem Flown.less {l : List Env} {msg : List Nat} {s' : Shared} {ev : Value} (hx : ∀ b, X₀ b → X b) (x : Flown V X l msg s s' ev) : Flown V X₀ l msg s s' ev := by
  obtain ⟨e, t, B, rfl, x, fl⟩ := x
  exact ⟨e, t, B, rfl, ⟨x.same, V.stable X X₀ B B x.vh (fun _ _ _ q => q) fun b o nx q => ⟨fun z => nx (hx b z), q⟩, ⟨x.arg.1, fun z => x.arg.2 (hx t z)⟩, x.keep, x.slots⟩, fl⟩
end
end
section

open PySem PySem.W PyProof PyProof.Rows
theorem cls66 (w : World) : ∃ nm q bs hdct sn sub ab col dd k0 k1 k2 k3 k5, (KK w).lookup 66 = some (excClassObj nm q 66 65 bs [.type "Exception", .type "BaseException", .type "object"] hdct sn sub ab col dd k0 k1 k2 k3 k5 "Exception.__new__") := ⟨_, _, _, _, _, _, _, _, _, _, _, _, _, _, rfl⟩
theorem nsOk65 (w : World) : nsOkIn (KK w) 65 = true := by kernel_rfl
theorem nsOk51 (w : World) : nsOkIn (KK w) 51 = true := by kernel_rfl
theorem ns65_init (w : World) : nsIn (KK w) 65 "__init__" = some none := rfl
theorem n_bad (w : World) : nsIn (KK w) mainGlobals "BadZipFile" = some (some (.ref 66)) := rfl
theorem cls52 (w : World) : ∃ nm q bs sn sub ab col dd k0 k1 k2 k3 k5, (KK w).lookup 52 = some (excClassObj nm q 52 51 bs [.type "object"] true sn sub ab col dd k0 k1 k2 k3 k5 "object.__new__") := ⟨_, _, _, _, _, _, _, _, _, _, _, _, _, rfl⟩
section
variable {w : World} {A : Around} {Y X : Addr → Prop} {s₀ : Shared} {env : Env} {ρ : Rho} {W : Res} {s : Shared} {Q : Flow → Shared → Prop} {E : Value → Shared → Prop}
/-- raise BadZipFile(e) -/
theorem x_raise {np cpos pos : Pos} {e : Expr} {rest : List Stmt} {msg : List Nat} (hh : A.handled = none) (a : Act w Y X s₀ env ρ W s) (he : EvL w A env X s.heap cpos [e] [.str (S msg)]) (hf : env.scope.kind = .function) (hx : env.kindOf "BadZipFile" = some .globalImplicit) (hg : env.globals = mainGlobals)
    (hst : starEach [e] env = (false, eval e env) :: starEach [] env)
    (k : ∀ s₂ h' x mv, Act w Y X s₀ env ρ W s₂ → Is X s₂.heap mv (.str (S msg)) → Heap.MadeExcOf s₂.heap h' x (.ref 66) [mv] → E (.ref x) { s₂ with heap := h' }) :
    wpAny (model PR w) A (execs (.Raise (some (.Call (.Name "BadZipFile" np) [e] [] cpos)) none pos :: rest) env) Q E s := by
  obtain ⟨nm, q, bs, hdct, sn, sub, ab, col, dd, k0, k1, k2, k3, k5, hC⟩ := cls66 w
  refine wpAny_execs_cons ?_
  refine wpAny_Raise_call_subU (C := 66) (nm := nm) (q := q) (N := 65) (bs := bs) (bm := [.type "Exception", .type "BaseException", .type "object"]) (hdct := hdct) (sn := sn) (sub := sub) (ab := ab) (col := col) (dd := dd) (k0 := k0) (k1 := k1) (k2 := k2) (k3 := k3) (k5 := k5) (newId := "Exception.__new__")
    (bmB := [.type "Exception", .type "BaseException", .type "object"]) PySem.F.excBase_Exception rfl PySem.F.excBase_Exception (mN := s.heap.nsMap 65) rfl hh (by rw [hst]; rfl) (nsMap_none_of_in a.Gl.K (nsOk65 w) (ns65_init w)) ?_
  refine (Ev.glob (X := X) a.Gl hf hx hg (n_bad w) (by decide)).run s _ _ (Ext.refl _) fun v s₁ k₁ i₁ => ?_
  cases i₁
  refine ⟨rfl, ?_⟩
  have run := he.run s₁ (fun vs s₂ => vs.length ≤ sizeLine ∧ s₂.heap.get? 66 = some (excClassObj nm q 66 65 bs [.type "Exception", .type "BaseException", .type "object"] hdct sn sub ab col dd k0 k1 k2 k3 k5 "Exception.__new__") ∧ s₂.heap.Ns 65 (s.heap.nsMap 65) ∧ OwnTail s₂.heap [.type "Exception", .type "BaseException", .type "object"] [.type "Exception", .type "BaseException", .type "object"] ∧
      ∀ h' x, Heap.MadeExcOf s₂.heap h' x (.ref 66) vs → E (.ref x) { s₂ with heap := h' }) E k₁.ext fun vs s₂ k₂ i₂ => ?_
  · rw [hst] at run ⊢
    exact Calls.evalArgs_plain (wpAny_mono run (fun vs s₂ h₂ => ⟨rfl, h₂⟩) fun _ _ y => y)
  · obtain ⟨mv, rfl, im⟩ := i₂.one
    have a₂ := a.kp (k₁.trans k₂)
    refine ⟨by rw [sizeLine_eq]; simp, a₂.Gl.K _ _ hC, (Heap.Ns.of_isNs (isNs_of_in a.Gl.K (nsOk65 w))).keeps (k₁.trans k₂).ext, .base, fun h' x m => k s₂ h' x mv a₂ im m⟩
end
theorem Act.stItem {w : World} {A : Around} {Y X : Addr → Prop} {s₀ : Shared} {env : Env} {ρ : Rho} {W : Res} {s : Shared} {D : Addr} {l : List AV} {x : Str} {p p' : Pos} {i : Expr} {k : Nat} {d : AV} (a : Act w Y X s₀ env ρ ((Res.st D l).and W) s) (hn : ρ.lookup x = some (.raw (.ref D))) (y : Ev w A env X s.heap i (.nat k)) (hk : l[k]? = some d) (hz : l.length ≤ 1000000)
    (hf : env.scope.kind = .function) (hkn : Known env x = true) (hd : (x == ("__debug__" : Str)) = false) (hcd : (x == ("__classdict__" : Str)) = false) (hs : ∀ o j, subscripted i false o j = operate [o, j] (getItem o j)) : Ev w A env X s.heap (.Subscript (.Name x p) i p') d := by
  obtain ⟨⟨vs, hl, il⟩, _⟩ := a.wh
  exact Ev.rawItem hl il (a.ev hn hf hkn hd hcd) y hk hz hs
section
variable {w : World} {A : Around} {env : Env} {X : Addr → Prop} {h : Heap}
theorem tail_item {value slice : Expr} {o i : Value} {E : Value → Shared → Prop} {s : Shared} {Q : Value → Shared → Prop} {ops : List Value} (it : ItemOn (model PR w) A E o i Q s) (hs : subscripted slice false o i = operate ops (getItem o i)) : wpAny (model PR w) A (subscriptTail value slice o i) Q E s := by
  obtain ⟨T, id, hl, hT, hg⟩ := it
  exact tail_any hT hl hg hs
/-- a slice of a text that any expression hands out -/
theorem Ev.strMidT {v u u' : Expr} {p p' : Pos} {l : List Nat} {a b : Nat} (x : Ev w A env X h v (.str (S l))) (y : Ev w A env X h u (.nat a)) (z : Ev w A env X h u' (.nat b)) (hz : l.length ≤ 1000000) (hab : a ≤ b) (hb : b ≤ l.length) : Ev w A env X h (.Subscript v (.Slice (some u) (some u') none p) p') (.str (S ((l.drop a).take (b - a)))) := ⟨fun s _ _ hs hQ => by
  refine Subscript_ (x.run s _ _ hs fun o s₁ k₁ i₁ => wpAny_Slice (wpAny_evalPart_some (y.run s₁ _ _ (hs.trans k₁.ext) fun j s₂ k₂ i₂ => wpAny_evalPart_some (z.run s₂ _ _ (hs.trans (k₁.trans k₂).ext) fun j' s₃ k₃ i₃ => wpAny_evalPart_none ?_))))
  cases i₁; cases i₂; cases i₃
  refine tail_item (SBH.sliceItem_ss (P := fun h => Ext s₃.heap h) (fun h ob k => k.trans (Ext.push h ob)) (Ext.refl _) (fun h' t' tk ex => ?_) (by rw [S_len, sizeLine_eq]; omega)) rfl
  rw [S_slice hab hb]
  exact hQ _ _ (k₁.trans (k₂.trans (k₃.trans ⟨h', tk, rfl, ex⟩))) (.str _ _)⟩
end
end
section
open PySem PySem.W PyProof PyProof.Rows
local macro_rules | `(tactic| walk_at "ctx") => `(tactic| first
  | with_reducible assumption
  | exact Act.ctx (by with_reducible assumption))
local macro_rules | `(tactic| walk_at "side") => `(tactic| first
  | assumption
  | decide
  | omega)
local macro_rules | `(tactic| walk_at "ev") => `(tactic| first
  | with_reducible exact Ev.nonec
  | with_reducible exact Ev.boolc
  | exact Ev.strS (l := []) rfl
  | exact Ev.strS (l := [10]) rfl
  | exact Ev.strS (l := [34]) rfl
  | exact Ev.strS (l := [92]) rfl
  | exact Ev.strS (l := [32, 9, 13, 10]) rfl
  | with_reducible exact Ev.strc
  | with_reducible exact Ev.natl
  | exact Ev.natc
  | exact Ctx.ev (by walk_at "ctx") rfl rfl rfl rfl rfl rfl
  | exact Ev.range (Ctx.gl (by walk_at "ctx")) rfl rfl rfl rfl
  | exact Ev.len (Ctx.gl (by walk_at "ctx")) rfl rfl rfl rfl
  | exact Ev.ord (Ctx.gl (by walk_at "ctx")) rfl rfl rfl rfl
  | exact Ev.chr (Ctx.gl (by walk_at "ctx")) rfl rfl rfl rfl
  | exact Ev.sum (Ctx.gl (by walk_at "ctx")) rfl rfl rfl rfl
  | ((with_reducible refine' Ev.binop ?l ?r ?o); (case l => walk_at "ev"); (case r => walk_at "ev"); (case o => walk_at "op"))
  | (refine' Act.stItem (by with_reducible assumption) rfl ?i ?k ?z rfl rfl rfl rfl (fun _ _ => rfl); (case i => walk_at "ev"); (case k => rfl); (case z => first | decide | simp))
  | (refine' Ev.callB ?f ?l ?c rfl rfl rfl; (case f => walk_at "ev"); (case l => walk_at "evl"); (case c => walk_at "call"))
  | (refine' Ev.strItem ?v ?i ?k ?z (fun _ _ => rfl); (case v => walk_at "ev"); (case i => walk_at "ev"); (case k => walk_at "side"); (case z => walk_at "side"))
  | (refine' Ev.tupItem ?v ?i ?k ?z (fun _ _ => rfl); (case v => walk_at "ev"); (case i => walk_at "ev"); (case k => rfl); (case z => first | decide | simp))
  | (refine' Ev.lstItem ?v ?i ?k ?z (fun _ _ => rfl); (case v => walk_at "ev"); (case i => walk_at "ev"); (case k => assumption); (case z => walk_at "side"))
  | (refine' Ev.cmp ?l ?r ?o rfl; (case l => walk_at "ev"); (case r => walk_at "ev"); (case o => walk_at "op"))
  | (refine' Ev.ifexp ?t ?a ?b; (case t => walk_at "evt"); (case a => (intro _; walk_at "ev")); (case b => (intro _; walk_at "ev"))))
local macro_rules | `(tactic| walk_at "call") => `(tactic| first
  | exact CallIs.ord
  | exact CallIs.chr (by walk_at "side")
  | exact CallIs.len_strS (by walk_at "side")
  | exact CallIs.len_lst (by walk_at "side")
  | exact CallIs.sumN (by assumption))
local macro_rules | `(tactic| walk_at "evl") => `(tactic| first
  | with_reducible exact EvL.nil
  | (refine' EvL.cons ?x ?y rfl; (case x => walk_at "ev"); (case y => walk_at "evl")))
local macro_rules | `(tactic| walk_at "evt") => `(tactic| first
  | with_reducible exact EvT.and0
  | with_reducible exact EvT.or0
  | (refine' EvT.and ?x ?y; (case x => walk_at "evt"); (case y => (intro _; walk_at "evt")))
  | (refine' EvT.or ?x ?y; (case x => walk_at "evt"); (case y => (intro _; walk_at "evt")))
  | (refine' EvT.not ?x; (case x => walk_at "evt"))
  | (refine' EvT.cmp ?l ?r ?o rfl; (case l => walk_at "ev"); (case r => walk_at "ev"); (case o => walk_at "op"))
  | (refine' EvT.plain ?x ?t (fun _ => rfl); (case x => walk_at "ev"); (case t => walk_at "truth")))
local macro_rules | `(tactic| walk_at "truth") => `(tactic| first
  | with_reducible exact t_nat
  | with_reducible exact t_bool)
local macro_rules | `(tactic| walk_at "op") => `(tactic| first
  | with_reducible exact o_addN
  | with_reducible exact o_shrN
  | with_reducible exact o_xorN
  | with_reducible exact o_ixorN
  | with_reducible exact o_andN
  | with_reducible exact o_ishrN
  | with_reducible exact o_iaddN
  | with_reducible exact o_eqN
  | with_reducible exact o_ltN
  | with_reducible exact o_eqS
  | with_reducible exact o_neS
  | with_reducible exact o_inS
  | with_reducible exact o_notInS
  | with_reducible exact o_isNotNoneN
  | with_reducible exact o_isNotNoneS
  | with_reducible exact o_isNoneN
  | with_reducible exact o_isNoneS
  | ((with_reducible refine' o_subN ?s); (case s => walk_at "side"))
  | ((with_reducible refine' o_modN ?s); (case s => walk_at "side"))
  | ((with_reducible refine' o_divN ?s ?t); (case s => walk_at "side"); (case t => walk_at "side"))
  | ((with_reducible refine' o_powN ?s ?t); (case s => walk_at "side"); (case t => walk_at "side"))
  | ((with_reducible refine' o_mulN ?s); (case s => first | exact .inl (by walk_at "side") | exact .inr (by walk_at "side")))
  | ((with_reducible refine' o_shlN ?s ?t); (case s => assumption); (case t => walk_at "side"))
  | ((with_reducible refine' o_addS' ?s); (case s => walk_at "side"))
  | ((with_reducible refine' o_iaddS' ?s); (case s => walk_at "side")))
local macro_rules | `(tactic| walk_at "set") => `(tactic| (refine' x_assign (by with_reducible assumption) ?e rfl rfl rfl ?k; (case e => walk_at "ev"); intro s a))
local macro_rules | `(tactic| walk_at "aug") => `(tactic| (refine' x_aug (by with_reducible assumption) rfl ?e ?o rfl rfl rfl ?k; (case e => walk_at "ev"); (case o => walk_at "op"); intro s a))
section
open PySem PySem.W PyProof PyProof.Rows
inductive Evt where
  | ch (c : Nat)
  | bad (k : Nat)
def regOf (t : List Nat) : Nat := t.foldl (fun r c => genCrc (r ^^^ c)) (2 ^ 32 - 1)
def mOk (m : List Nat × Nat) : Bool := (regOf m.1 ^^^ (2 ^ 32 - 1)) == m.2
def mEvs (k : Nat) (m : List Nat × Nat) : List Evt := m.1.map .ch ++ (if mOk m then [] else [.bad k])
def evsFrom : Nat → List (List Nat × Nat) → List Evt
  | _, [] => []
  | k, m :: r => mEvs k m ++ evsFrom (k + 1) r
def cnt : List Evt → Nat
  | [] => 0
  | .ch _ :: r => cnt r + 1
  | .bad _ :: r => cnt r
/-- member i, j signs read, register r: the events to come -/
def At (ms : List (List Nat × Nat)) (es : List Evt) (i j r : Nat) : Prop :=
  (i = ms.length ∧ es = []) ∨ ∃ m, ms[i]? = some m ∧ j ≤ m.1.length ∧ r = regOf (m.1.take j) ∧ es = (m.1.drop j).map .ch ++ ((if mOk m then [] else [.bad i]) ++ evsFrom (i + 1) (ms.drop (i + 1)))
def mAV (m : List Nat × Nat) : AV := .tup [.str (S m.1), .nat m.2]
noncomputable def archBody (w : World) : List Stmt := match (KK w).lookup 93 with
  | some ⟨_, _, .func fd, _⟩ => (match fd.body with | .stmts b => b | _ => [])
  | _ => []
noncomputable def readFn (w : World) : Arguments × List Stmt × Scope := match archBody w with
  | _ :: .FunctionDef _ ps b _ _ _ sc _ _ _ :: _ => (ps, b, sc)
  | _ => (⟨[], [], none, [], [], none, []⟩, [], ⟨.function, [], false, false, []⟩)
/-- the archive: its state list st, its cells, its function fR; tot: all signs -/
structure ArA where
  st : Addr
  cM : Addr
  cS : Addr
  fR : Addr
/-- what stays of the archive -/
def Stat (w : World) (a : ArA) (ms : List (List Nat × Nat)) : Res where
  fp := fun _ => False
  holds := fun X h => (∃ fo name q doc pm cd ct cl, h.get? a.fR = some fo ∧ fo.data = .func (fnX name q (readFn w).1 (readFn w).2.1 (readFn w).2.2 cl .none .none doc pm none cd ct) ∧ fo.cls = .type "function" ∧ ¬ X a.fR ∧
      (∃ c oc vs t, cd = .ref c ∧ h.get? c = some oc ∧ ¬ X c ∧ oc.data = .fields vs ∧ vs[1]? = some (.str q t)) ∧ cl.lookup ("members" : Str) = some a.cM ∧ cl.lookup ("state" : Str) = some a.cS) ∧
    (∃ v, h.IsCell a.cM (some v) ∧ ¬ X a.cM ∧ Is X h v (.lst (ms.map mAV))) ∧ h.IsCell a.cS (some (.ref a.st)) ∧ ¬ X a.cS
  stable := by
    rintro X X' h h' ⟨⟨fo, name, q, doc, pm, cd, ct, cl, f1, f2, f3, f4, ⟨c, oc, vs, t, g1, g2, g3, g4, g5⟩, f6, f7⟩, ⟨v, ⟨oM, m1, m2⟩, m3, m4⟩, ⟨oS, s1, s2⟩, s3⟩ k p
    refine ⟨⟨fo, name, q, doc, pm, cd, ct, cl, (p _ _ f4 f1).2, f2, f3, (p _ _ f4 f1).1, ⟨c, oc, vs, t, g1, (p _ _ g3 g2).2, (p _ _ g3 g2).1, g4, g5⟩, f6, f7⟩, ⟨v, ⟨oM, (p _ _ m3 m1).2, m2⟩, (p _ _ m3 m1).1, m4.pass p⟩, ⟨oS, (p _ _ s3 s1).2, s2⟩, (p _ _ s3 s1).1⟩
def Arch (w : World) (a : ArA) (ms : List (List Nat × Nat)) (tot : Nat) (es : List Evt) : Res where
  fp := fun b => b = a.st
  holds := fun X h => cnt es ≤ tot ∧ (∃ i j r, At ms es i j r ∧ (Res.st a.st [.nat i, .nat j, .nat r, .nat (tot - cnt es)]).holds X h) ∧ (Stat w a ms).holds X h
  stable := by
    rintro X X' h h' ⟨hc, ⟨i, j, r, hat, hst⟩, hs⟩ k p
    exact ⟨hc, ⟨i, j, r, hat, (Res.st a.st _).stable X X' h h' hst k p⟩, (Stat w a ms).stable X X' h h' hs (fun _ _ z => z.elim) p⟩
/-- the state changed at most at Z -/
structure Did (Z : Addr → Prop) (s s' : Shared) : Prop where
  same : ∃ h tk, s' = { s with heap := h, toks := tk }
  keep : ∀ b o, ¬ Z b → s.heap.get? b = some o → s'.heap.get? b = some o
theorem Act.assoc {w : World} {Y X : Addr → Prop} {s₀ : Shared} {env : Env} {ρ : Rho} {V₁ V₂ V₃ : Res} {s : Shared} (a : Act w Y X s₀ env ρ ((V₁.and V₂).and V₃) s) : Act w Y X s₀ env ρ (V₁.and (V₂.and V₃)) s :=
  a.wk (fun _ q => q.elim (fun z => .inl (.inl z)) fun q => q.elim (fun z => .inl (.inr z)) .inr) (fun q => ⟨q.1.1, q.1.2, q.2⟩)
theorem Act.assoc' {w : World} {Y X : Addr → Prop} {s₀ : Shared} {env : Env} {ρ : Rho} {V₁ V₂ V₃ : Res} {s : Shared} (a : Act w Y X s₀ env ρ (V₁.and (V₂.and V₃)) s) : Act w Y X s₀ env ρ ((V₁.and V₂).and V₃) s :=
  a.wk (fun _ q => q.elim (fun q => q.elim .inl fun z => .inr (.inl z)) fun z => .inr (.inr z)) (fun q => ⟨⟨q.1, q.2.1⟩, q.2.2⟩)
theorem Act.did {w : World} {Y X : Addr → Prop} {s₀ : Shared} {env : Env} {ρ : Rho} {W : Res} {s : Shared} (a : Act w Y X s₀ env ρ W s) : Did Y s₀ s := ⟨a.same, a.keep⟩
theorem At.step {ms : List (List Nat × Nat)} {i : Nat} : At ms (evsFrom i (ms.drop i)) i 0 (2 ^ 32 - 1) ∨ ms.length < i := by
  by_cases h : i < ms.length
  · refine .inl (.inr ⟨ms[i], List.getElem?_eq_getElem h, Nat.zero_le _, rfl, ?_⟩)
    rw [List.drop_eq_getElem_cons h]
    show mEvs i ms[i] ++ _ = _
    unfold mEvs
    rw [List.drop_zero, List.append_assoc]
  · by_cases h' : i = ms.length
    · refine .inl (.inl ⟨h', ?_⟩)
      rw [h', List.drop_length]; rfl
    · exact .inr (by omega)
theorem x_ifT {w : World} {A : Around} {Y X : Addr → Prop} {s₀ : Shared} {env : Env} {ρ : Rho} {W : Res} {s : Shared} {Q : Flow → Shared → Prop} {E : Value → Shared → Prop} {t : Expr} {p : Pos} {b o rest : List Stmt} {c : Bool} {σ : Type} (P : σ → Prop) (ρ' : Rho) (W' : σ → Res) (a : Act w Y X s₀ env ρ W s) (ht : EvT w A env s.heap t c)
    (kt : c = true → ∀ s', Act w Y X s₀ env ρ W s' → wpAny (model PR w) A (execs b env) (fun f s₂ => match f with | .next => ∃ x, P x ∧ Act w Y X s₀ env ρ' (W' x) s₂ | f => Q f s₂) E s')
    (kf : c = false → ∀ s', Act w Y X s₀ env ρ W s' → wpAny (model PR w) A (execs o env) (fun f s₂ => match f with | .next => ∃ x, P x ∧ Act w Y X s₀ env ρ' (W' x) s₂ | f => Q f s₂) E s')
    (tail : ∀ x s₂, P x → Act w Y X s₀ env ρ' (W' x) s₂ → wpAny (model PR w) A (execs rest env) Q E s₂) : wpAny (model PR w) A (execs (.If t b o p :: rest) env) Q E s :=
  x_if a ht (fun e s' a' => wpAny_mono (kt e s' a') (fun f s₂ h => by cases f <;> first | exact (let ⟨x, p, q⟩ := h; tail x _ p q) | exact h) fun _ _ h => h)
    (fun e s' a' => wpAny_mono (kf e s' a') (fun f s₂ h => by cases f <;> first | exact (let ⟨x, p, q⟩ := h; tail x _ p q) | exact h) fun _ _ h => h)
theorem regOf_take {t : List Nat} {j c : Nat} (h : t[j]? = some c) : regOf (t.take (j + 1)) = genCrc (regOf (t.take j) ^^^ c) := by
  rw [List.take_add_one, h]; simp [regOf]
theorem read_call {w : World} {A : Around} {X : Addr → Prop} {a : ArA} {ms : List (List Nat × Nat)} {tot : Nat} {es : List Evt} {outer : List Env} {s : Shared} {v1 : Value} {Q : Value → Shared → Prop} {E : Value → Shared → Prop}
    (g : Gl w s.heap) (xi : XIn X s.heap) (hX : X a.st ∧ ¬ GA a.st ∧ a.st < s.heap.objs.size) (hh : A.handled = none) (hroom : A.depth + 2 < recursionLimit) (hms : ms.length ≤ 5) (hne : ∀ m ∈ ms, m.1 ≠ [] ∧ m.1.length ≤ 1000)
    (hA : (Arch w a ms tot es).holds X s.heap) (fo : FrOk A outer (Arch w a ms tot []) X s.heap) (iv : Is X s.heap v1 (.nat 1))
    (h0 : es = [] → ∀ v s', Did (fun b => b = a.st) s s' → (Arch w a ms tot []).holds X s'.heap → Is X s'.heap v (.str (S [])) → Q v s')
    (h1 : ∀ c r, es = .ch c :: r → ∀ v s', Did (fun b => b = a.st) s s' → (Arch w a ms tot r).holds X s'.heap → Is X s'.heap v (.str (S [c])) → Q v s')
    (h2 : ∀ k r, es = .bad k :: r → ∀ ev s', Flown (Arch w a ms tot r) X outer (bad ++ [letters.getD k 0]) s s' ev → E ev s') :
    wpAny (model PR w) A (call (.ref a.fR) [v1]) Q E s := by
  obtain ⟨hcnt, ⟨i, j, r, hat, hst⟩, hstat⟩ := hA
  obtain ⟨⟨fob, name, q, doc, pm, cd, ct, cl, f1, f2, f3, f4, ⟨c, oc, vs, t, g1, g2, g3, g4, g5⟩, f6, f7⟩, ⟨mv, mc, mx, mi⟩, scl, sx⟩ := id hstat
  rw [show readFn w = (_, _, _) from rfl] at f2
  dsimp only at f2
  have hn : i ≤ ms.length := by
    rcases hat with ⟨h, _⟩ | ⟨m, h, _⟩
    · omega
    · exact Nat.le_of_lt (List.getElem?_eq_some_iff.mp h).1
  refine wpAny_call (enterC (names := ["count"]) (avs := [.nat 1]) (Y := fun b => b = a.st) (W := (Res.st a.st [.nat i, .nat j, .nat r, .nat (tot - cnt es)]).and (Stat w a ms)) (ρc := [("members", .lst (ms.map mAV)), ("state", .raw (.ref a.st))]) g xi f1 f2 ⟨c, oc, vs, t, g1, g2, g4, g5⟩ (by omega) rfl (by decide) rfl rfl rfl rfl rfl rfl (.cons iv .nil)
    (fun b hb => hb ▸ hX) (fun b hb => hb.elim id fun z => z.elim) ⟨hst, hstat⟩ (fun x av e => ?hc) fun s₁ act => ?main)
  case hc =>
    rw [List.lookup_cons] at e
    split at e
    · rename_i z
      cases e
      rw [beq_iff_eq.mp z]
      exact ⟨rfl, a.cM, mv, f6, mc, mx, mi⟩
    · rw [List.lookup_cons] at e
      split at e
      · rename_i z
        cases e
        rw [beq_iff_eq.mp z]
        exact ⟨rfl, a.cS, _, f7, scl, sx, .raw _⟩
      · cases e
  case main =>
    change wpAny _ _ (execs (_ :: _) _) _ _ _
    have hmz : (ms.map mAV).length ≤ 1000000 := by simp; omega
    have hU : ¬ (Stat w a ms).fp a.st := fun z => z
    have hLst : ¬ (fun b => b = a.st) s.heap.objs.size := fun z => Nat.lt_irrefl _ (z ▸ hX.2.2)
    have hx1 : ∀ b, X b → (fun b => X b ∨ b = s.heap.objs.size) b := fun b z => .inl z
    refine' x_ifT (c := decide (i < ms.length) && (match ms[i]? with | some m => j == m.1.length | none => false))
      (fun x : Nat × Nat × Nat => At ms es x.1 x.2.1 x.2.2 ∧ ∀ m, ms[x.1]? = some m → x.2.1 < m.1.length) [("count", .nat 1), ("members", .lst (ms.map mAV)), ("state", .raw (.ref a.st))]
      (fun x => (Res.st a.st [.nat x.1, .nat x.2.1, .nat x.2.2, .nat (tot - cnt es)]).and (Stat w a ms)) act ?t1 ?kt ?kf ?tail
    case t1 =>
      rcases id hat with ⟨hi, he⟩ | ⟨m, hm, hj, hr, he⟩
      · refine' EvT.cast (EvT.and (a := decide (i < (ms.map mAV).length)) (b := true) ?l1 (fun z => by simp [hi] at z)) (by simp [hi])
        case l1 => walk_at "evt"
      · have hk : (ms.map mAV)[i]? = some (.tup [.str (S m.1), .nat m.2]) := by rw [List.getElem?_map, hm]; rfl
        have hmm := hne m (List.mem_of_getElem? hm)
        have hml : m.1.length ≤ 1000000 := by omega
        refine' EvT.cast (b := decide (i < (ms.map mAV).length) && (j == m.1.length && true)) ?l2 (by rw [hm, List.length_map, Bool.and_true])
        case l2 => walk_at "evt"
    case kf =>
      intro hc s₂ a₂
      refine x_nil ⟨(i, j, r), ⟨hat, fun m hm => ?_⟩, a₂⟩
      rcases id hat with ⟨hi, he⟩ | ⟨m', hm', hj, hr, he⟩
      · rw [hi, List.getElem?_eq_none (Nat.le_refl _)] at hm; cases hm
      · rw [hm'] at hm
        obtain rfl := Option.some.inj hm
        rw [hm', decide_eq_true (List.getElem?_eq_some_iff.mp hm').1, Bool.true_and] at hc
        have h5 : j ≠ m'.1.length := by simpa using hc
        show j < m'.1.length
        omega
    case kt =>
      intro hc s₂ a₂
      rcases id hat with ⟨hi, he⟩ | ⟨m, hm, hj, hr, he⟩
      · rw [hi] at hc; simp at hc
      · have hjl : j = m.1.length := by
          rw [hm, Bool.and_eq_true] at hc
          simpa using hc.2
        have hk : (ms.map mAV)[i]? = some (.tup [.str (S m.1), .nat m.2]) := by rw [List.getElem?_map, hm]; rfl
        have hil := (List.getElem?_eq_some_iff.mp hm).1
        have hgood : ((r ^^^ (2 ^ 32 - 1)) == m.2) = mOk m := by rw [hr, hjl, List.take_length]; rfl
        rw [hjl, List.drop_length, List.map_nil, List.nil_append] at he
        have hstp := (At.step (ms := ms) (i := i + 1)).resolve_right (by omega)
        walk_at "set"
        refine' x_augItem (k := 0) (by with_reducible assumption) rfl hU ?e1 rfl o_iaddN (by simp) rfl rfl rfl rfl ?k1
        case e1 => walk_at "ev"
        case k1 =>
        intro s₃ a₃
        refine' x_setItem (k := 1) a₃ rfl hU ?e2 (by simp) (by simp) rfl rfl rfl rfl rfl ?k2
        case e2 => walk_at "ev"
        case k2 =>
        intro s₄ a₄
        refine' x_setItem (k := 2) a₄ rfl hU ?e3 (by simp) (by simp) rfl rfl rfl rfl rfl ?k3
        case e3 => walk_at "ev"
        case k3 =>
        intro s₅ a₅
        refine' x_if (c := !mOk m) a₅ (EvT.cast ?e4 (congrArg (!·) hgood)) ?k4 ?k5
        case e4 => walk_at "evt"
        case k5 =>
          intro hb s₆ a₆
          have hok : mOk m = true := by simpa using hb
          rw [hok, if_pos rfl, List.nil_append] at he
          refine x_nil (x_nil ⟨(i + 1, 0, 2 ^ 32 - 1), ⟨he ▸ hstp, fun m' hm' => ?_⟩, a₆.sub ⟨rfl, rfl, rfl, trivial⟩⟩)
          exact List.length_pos_iff.mpr (hne m' (List.mem_of_getElem? hm')).1
        case k4 =>
          intro hb s₆ a₆
          have hok : mOk m = false := by simpa using hb
          rw [hok, if_neg (by decide)] at he
          have hil : letters[i + 1 - 1]? = some (letters.getD i 0) := by
            rw [List.getD_eq_getElem?_getD, show i + 1 - 1 = i by omega, List.getElem?_eq_getElem (by simp [letters]; omega)]; rfl
          have h1i : 1 ≤ i + 1 := by omega
          refine' x_raise (msg := bad ++ [letters.getD i 0]) hh a₆ (EvL.cons (Ev.binop (Ev.strS (l := bad) rfl) (Ev.strItem (l := letters) (Ev.strS rfl) ?e5 hil (by decide) (fun _ _ => rfl)) (o_addS' (by simp [bad]))) EvL.nil rfl) rfl rfl rfl rfl ?k6
          case e5 => walk_at "ev"
          case k6 =>
            intro s₇ h' x mv' a₇ im mx'
            refine Flown.first (V := Arch w a ms tot (evsFrom (i + 1) (ms.drop (i + 1)))) a₇ ⟨fo.fr, fo.ff, fo.fx, fo.nv⟩ hx1 (fun b z => z) rfl (by intro z; cases z) hLst (fun b z => a₇.xin b (a₇.yx b z)) ⟨?_, ⟨i + 1, 0, 2 ^ 32 - 1, hstp, ?_⟩, a₇.wh.2⟩ im mx' fun s'' fl => h2 i _ he _ _ (fl.less hx1)
            · rw [he] at hcnt; exact hcnt
            · have := a₇.wh.1
              rw [he] at this
              exact this
    case tail =>
      rintro ⟨i', j', r'⟩ s₂ ⟨hat', hj'⟩ a₂
      simp only at hat' hj' a₂
      have less : ∀ {V : Res} {h' : Heap}, V.holds (fun b => X b ∨ b = s.heap.objs.size) h' → V.holds X h' := fun {V} {h'} hv => V.stable _ _ h' h' hv (fun _ _ _ q => q) fun b o nx q => ⟨fun z => nx (.inl z), q⟩
      have lessI : ∀ {v : Value} {d : AV} {h' : Heap}, Is (fun b => X b ∨ b = s.heap.objs.size) h' v d → Is X h' v d := fun hv => hv.pass fun b o nx q => ⟨fun z => nx (.inl z), q⟩
      rcases hat' with ⟨hi, he⟩ | ⟨m, hm, hj, hr, he⟩
      · refine' x_if (c := true) a₂ (EvT.cast (b := i' == (ms.map mAV).length) ?e1 (by simp [hi])) ?k1 (fun z => by cases z)
        case e1 => walk_at "evt"
        case k1 =>
          intro _ s₃ a₃
          refine' x_ret (av := .str (S [])) a₃ ?e2 ?k2
          case e2 => walk_at "ev"
          case k2 =>
            intro v s₄ a₄ i₄
            refine h0 he v s₄ a₄.did ⟨Nat.zero_le _, ⟨i', j', r', .inl ⟨hi, rfl⟩, ?_⟩, less a₄.wh.2⟩ (lessI i₄)
            have := less a₄.wh.1
            rw [he] at this
            exact this
      · have hjm : j' < m.1.length := hj' m hm
        have hil := (List.getElem?_eq_some_iff.mp hm).1
        have hmm := hne m (List.mem_of_getElem? hm)
        have hk : (ms.map mAV)[i']? = some (.tup [.str (S m.1), .nat m.2]) := by rw [List.getElem?_map, hm]; rfl
        obtain ⟨c, hc⟩ : ∃ c, m.1[j']? = some c := ⟨_, List.getElem?_eq_getElem hjm⟩
        have hdc : m.1.drop j' = c :: m.1.drop (j' + 1) := by
          rw [List.drop_eq_getElem_cons hjm]
          rw [List.getElem?_eq_getElem hjm] at hc
          rw [Option.some.inj hc]
        have hes : es = .ch c :: ((m.1.drop (j' + 1)).map .ch ++ ((if mOk m then [] else [.bad i']) ++ evsFrom (i' + 1) (ms.drop (i' + 1)))) := by
          rw [he, hdc]; rfl
        have hmz1 : m.1.length ≤ 1000000 := by omega
        refine' x_if (c := false) a₂ (EvT.cast (b := i' == (ms.map mAV).length) ?e3 (by simp; omega)) (fun z => by cases z) ?k3
        case e3 => walk_at "evt"
        case k3 =>
        intro _ s₃ a₃
        refine x_nil ?_
        dsimp only
        refine' x_assign (av := .str (S [c])) a₃ (Ev.cast (Ev.strMidT (a := j') (b := j' + 1) (l := m.1) ?e4 ?e5 ?e6 hmz1 (by omega) (by omega)) ?e7) rfl rfl rfl ?k4
        case e4 => walk_at "ev"
        case e5 => walk_at "ev"
        case e6 => walk_at "ev"
        case e7 => rw [hdc, show j' + 1 - j' = 1 by omega]; rfl
        case k4 =>
        intro s₄ a₄
        refine x_for (σ := Unit) (fun _ _ => [("part", .str (S [c])), ("members", .lst (ms.map mAV)), ("state", .raw (.ref a.st))]) (fun k _ => (Res.st a.st [.nat i', .nat j', .nat (if k = 0 then r' else genCrc (r' ^^^ c)), .nat (tot - cnt es)]).and (Stat w a ms)) (fun _ _ => True) () a₄
          (EvIt.str (l := [c]) hh ?e8) rfl rfl (fun _ => rfl) trivial ⟨rfl, rfl, rfl, trivial⟩ (fun _ _ _ q => q) (fun _ _ q => q) ?t ?d
        case e8 => walk_at "ev"
        case t =>
          intro X' U k u d s' xx ux hd _ a₅ E'
          have hk0 : k = 0 := by
            have := (List.getElem?_eq_some_iff.mp hd).1
            simpa using this
          subst hk0
          have hd' : d = .str (S [c]) := by simpa using hd.symm
          subst hd'
          have hUs : ¬ ((Stat w a ms).and U).fp a.st := fun z => z.elim (fun z => z) fun z => ux _ z (.inl rfl)
          have a₆ := a₅.assoc
          refine' x_setItem (k := 2) (d := .nat (genCrc (r' ^^^ c))) a₆ rfl hUs (Ev.callG a₆.Gl rfl rfl rfl rfl rfl (n_gen w) rfl (EvL.cons (Ev.binop ?f1 ?f2 o_xorN) EvL.nil rfl) (gen_is a₆.Gl a₆.xin (by exact hh) (by show A.depth + 1 + 1 < _; omega) _) rfl rfl) (by simp) (by simp) rfl rfl rfl rfl rfl ?f3
          case f1 => walk_at "ev"
          case f2 => walk_at "ev"
          case f3 =>
            intro s₇ a₇
            exact x_nil ⟨(), trivial, (a₇.assoc').sub ⟨rfl, rfl, rfl, trivial⟩⟩
        case d =>
          intro u s₅ _ a₅
          have hcz : [c].length ≤ 1000000 := by simp
          refine' x_augItem (k := 1) (d := .nat 1) a₅ rfl hU ?g1 rfl o_iaddN (by simp) rfl rfl rfl rfl ?g2
          case g1 => walk_at "ev"
          case g2 =>
          intro s₆ a₆
          refine' x_augItem (k := 3) (d := .nat 1) a₆ rfl hU ?g3 rfl o_iaddN (by simp) rfl rfl rfl rfl ?g4
          case g3 => walk_at "ev"
          case g4 =>
          intro s₇ a₇
          refine' x_ret (av := .str (S [c])) a₇ ?g5 ?g6
          case g5 => walk_at "ev"
          case g6 =>
            intro v s₈ a₈ i₈
            rw [hes] at hcnt
            have hc1 : tot - cnt es + 1 = tot - cnt ((m.1.drop (j' + 1)).map .ch ++ ((if mOk m then [] else [.bad i']) ++ evsFrom (i' + 1) (ms.drop (i' + 1)))) := by
              rw [hes]; simp only [cnt] at hcnt ⊢; omega
            refine h1 c _ hes v s₈ a₈.did ⟨by simp only [cnt] at hcnt; omega, ⟨i', j' + 1, genCrc (r' ^^^ c), .inr ⟨m, hm, hjm, ?_, rfl⟩, ?_⟩, less a₈.wh.2⟩ (lessI i₈)
            · rw [regOf_take hc, ← hr]
            · rw [← hc1]
              exact less a₈.wh.1
end
section

open PySem PySem.W PyProof PyProof.Rows
/-- the lexer's addresses: the object, its dict, its pushback list, the stream function and that one's dict -/
structure LxA where
  x : Addr
  dx : Addr
  pb : Addr
  fS : Addr
  dS : Addr
def LexS (l : LxA) (fR : Addr) : Res where
  fp := fun _ => False
  holds := fun X h => (∃ o, h.get? l.x = some o ∧ o.cls = .ref 52 ∧ o.dict = some l.dx ∧ ∀ c, o.data ≠ .cls c) ∧ ¬ X l.x ∧ l.dx ≠ l.x ∧
    (∃ o fd md, h.get? l.fS = some o ∧ o.cls = .type "function" ∧ o.data = .func fd ∧ o.dict = some l.dS ∧ h.Ns l.dS md ∧ md "read" = some (.ref fR)) ∧ ¬ X l.fS ∧ ¬ X l.dS
  stable := by
    rintro X X' h h' ⟨⟨o, h1, h2⟩, nx, ne, ⟨o', fd, md, g1, g2, g3, g4, ⟨od, es, ep, n1, n2⟩, g6⟩, nf, nd⟩ k p
    exact ⟨⟨o, (p _ _ nx h1).2, h2⟩, (p _ _ nx h1).1, ne, ⟨o', fd, md, (p _ _ nf g1).2, g2, g3, g4, ⟨od, es, ep, (p _ _ nd n1).2, n2⟩, g6⟩, (p _ _ nf g1).1, (p _ _ nd n1).1⟩
def lexNames : List Str := ["lineno", "instream", "whitespace", "pushback"]
def LexN (l : LxA) (line : Nat) : Res where
  fp := fun b => b = l.dx
  holds := fun _ h => ∃ mA t u, h.Ns1 l.dx mA ∧ PySem.Within mA lexNames ∧ mA "lineno" = some (.int line t) ∧ mA "instream" = some (.ref l.fS) ∧ mA "whitespace" = some (.str (S [10, 9, 13, 32]) u) ∧ mA "pushback" = some (.ref l.pb)
  stable := fun _ _ _ _ ⟨mA, t, u, hn, r⟩ k _ => ⟨mA, t, u, hn.at fun o e => k _ o rfl e, r⟩
theorem ns51_ga (w : World) : nsIn (KK w) 51 "__getattribute__" = some none := rfl
theorem ns51_getattr (w : World) : nsIn (KK w) 51 "__getattr__" = some none := rfl
theorem ns51_sa (w : World) : nsIn (KK w) 51 "__setattr__" = some none := rfl
theorem ns51_line (w : World) : nsIn (KK w) 51 "lineno" = some none := rfl
theorem ns51_in (w : World) : nsIn (KK w) 51 "instream" = some none := rfl
theorem ns51_ws (w : World) : nsIn (KK w) 51 "whitespace" = some none := rfl
theorem ns51_pb (w : World) : nsIn (KK w) 51 "pushback" = some none := rfl
theorem ob_line : typeLookup (.type "object") "lineno" = pure none := by rw [typeLookup_type, builtinLookup_eq_fast]; kernel_rfl
theorem ob_in : typeLookup (.type "object") "instream" = pure none := by rw [typeLookup_type, builtinLookup_eq_fast]; kernel_rfl
theorem ob_ws : typeLookup (.type "object") "whitespace" = pure none := by rw [typeLookup_type, builtinLookup_eq_fast]; kernel_rfl
theorem ob_pb : typeLookup (.type "object") "pushback" = pure none := by rw [typeLookup_type, builtinLookup_eq_fast]; kernel_rfl
section
variable {w : World} {A : Around} {X : Addr → Prop} {s : Shared} {E : Value → Shared → Prop} {l : LxA} {fR : Addr}
theorem self_inst {mA : Str → Option Value} (hS : (LexS l fR).holds X s.heap) (hn : s.heap.Ns1 l.dx mA) : s.heap.Inst l.x 52 mA := by
  obtain ⟨⟨o, h1, h2, h3, h4⟩, _, ne, _⟩ := hS
  exact ⟨o, h1, h2, h4, .inr ⟨l.dx, h3, ne, hn⟩⟩
theorem self_get {mA : Str → Option Value} {name : Str} {v : Value} {ex : Bool} {Q : Value → Shared → Prop} (g : Gl w s.heap) (hS : (LexS l fR).holds X s.heap) (hn : s.heap.Ns1 l.dx mA) (hv : mA name = some v) (hh : handedOut v = pure v) (hns : nsIn (KK w) 51 name = some none) (hB : typeLookup (.type "object") name = pure none)
    (hQ : Q v { s with toks := s.toks + 1 }) : wpAny (model PR w) A (getAttr (.ref l.x) name ex) Q E s := by
  obtain ⟨nm, q, bs, sn, sub, ab, col, dd, k0, k1, k2, k3, k5, hC⟩ := cls52 w
  obtain ⟨h, g', d, t, os⟩ := s
  exact load_attr (g.K _ _ hC) (Heap.Ns.of_isNs (isNs_of_in g.K (nsOk51 w))) (nsMap_none_of_in g.K (nsOk51 w) (ns51_ga w)) (nsMap_none_of_in g.K (nsOk51 w) hns) hB (self_inst hS hn) hv hh hQ
/-- setting lineno -/
theorem self_line {line line' : Nat} {t : Tok} {Q : Unit → Shared → Prop} (g : Gl w s.heap) (hS : (LexS l fR).holds X s.heap) (hN : (LexN l line).holds X s.heap) (hx : l.x ≠ 52)
    (hQ : ∀ h' tk, (LexN l line').holds X h' → (∀ b o, b ≠ l.dx → s.heap.get? b = some o → h'.get? b = some o) → Q () { s with heap := h', toks := tk }) :
    wpAny (model PR w) A (setAttr (.ref l.x) "lineno" (.int line' t)) Q E s := by
  obtain ⟨nm, q, bs, sn, sub, ab, col, dd, k0, k1, k2, k3, k5, hC⟩ := cls52 w
  obtain ⟨h, g', d, tk, os⟩ := s
  obtain ⟨mA, t0, u, hn, hw, m1, m2, m3, m4⟩ := hN
  obtain ⟨⟨o, h1, h2, h3, h4⟩, _, ne, _⟩ := id hS
  refine store_attr PySem.F.store_object (g.K _ _ hC) (Heap.Ns.of_isNs (isNs_of_in g.K (nsOk51 w))) (nsMap_none_of_in g.K (nsOk51 w) (ns51_sa w)) (nsMap_none_of_in g.K (nsOk51 w) (ns51_line w)) ob_line hx (self_inst hS hn) (fun h' tk' I' hk hsame => ?_) hw (by rw [sizeLine_eq]; decide)
  obtain ⟨o₁, e₁, c₁, dt₁, sl₁, dk₁⟩ := hsame o h1
  have ho : o₁ = o := by
    have := dk₁ l.dx h3
    obtain ⟨oc, od, odt, osl⟩ := o
    obtain ⟨oc', od', odt', osl'⟩ := o₁
    simp only at c₁ dt₁ sl₁ this h3
    rw [c₁, dt₁, sl₁, this, h3]
  refine hQ h' tk' ?_ fun b ob hb e => ?_
  · obtain ⟨o', e', _, _, hd'⟩ := I'
    rw [e₁] at e'
    obtain rfl := Option.some.inj e'
    rw [ho] at hd'
    rcases hd' with ⟨hn0, _⟩ | ⟨d', hd', _, hns'⟩
    · rw [h3] at hn0; cases hn0
    · rw [h3] at hd'
      obtain rfl := Option.some.inj hd'
      refine ⟨_, t, u, hns', fun y hy => ?_, by simp, ?_, ?_, ?_⟩
      · by_cases q : y = "lineno"
        · rw [q]; exact .head _
        · exact hw y (by simpa [q] using hy)
      · rw [if_neg (by decide)]; exact m2
      · rw [if_neg (by decide)]; exact m3
      · rw [if_neg (by decide)]; exact m4
  · by_cases q : b = l.x
    · subst q
      rw [h1] at e
      obtain rfl := Option.some.inj e
      rw [e₁, ho]
    · exact hk b ob q (fun o₀ dx e₀ ed => by rw [h1] at e₀; obtain rfl := Option.some.inj e₀; rw [h3] at ed; obtain rfl := Option.some.inj ed; exact hb) e
end
section
variable {w : World} {A : Around} {env : Env} {X : Addr → Prop} {h : Heap} {l : LxA} {fR : Addr} {line : Nat}
theorem Ev.sLine {n : Str} {p p' : Pos} (g : Gl w h) (hS : (LexS l fR).holds X h) (hN : (LexN l line).holds X h) (x : Ev w A env X h (.Name n p) (.raw (.ref l.x))) : Ev w A env X h (.Attribute (.Name n p) "lineno" p') (.nat line) := ⟨fun s _ _ hs hQ => by
  refine Attribute_name (x.run s _ _ hs fun v s₁ k₁ i₁ => ?_)
  cases i₁
  have ex := hs.trans k₁.ext
  obtain ⟨mA, t0, u, hn, hw, m1, m2, m3, m4⟩ := (LexN l line).stable X X h s₁.heap hN (fun b o _ e => ex b o e) (.ext ex)
  exact self_get (g.ext ex) ((LexS l fR).stable X X h s₁.heap hS (fun b o _ e => ex b o e) (.ext ex)) hn m1 rfl (ns51_line w) ob_line (hQ _ _ (k₁.trans (Kp.tok _ _)) (.int _ _))⟩
theorem Ev.sIn {n : Str} {p p' : Pos} (g : Gl w h) (hS : (LexS l fR).holds X h) (hN : (LexN l line).holds X h) (x : Ev w A env X h (.Name n p) (.raw (.ref l.x))) : Ev w A env X h (.Attribute (.Name n p) "instream" p') (.raw (.ref l.fS)) := ⟨fun s _ _ hs hQ => by
  refine Attribute_name (x.run s _ _ hs fun v s₁ k₁ i₁ => ?_)
  cases i₁
  have ex := hs.trans k₁.ext
  obtain ⟨mA, t0, u, hn, hw, m1, m2, m3, m4⟩ := (LexN l line).stable X X h s₁.heap hN (fun b o _ e => ex b o e) (.ext ex)
  exact self_get (g.ext ex) ((LexS l fR).stable X X h s₁.heap hS (fun b o _ e => ex b o e) (.ext ex)) hn m2 rfl (ns51_in w) ob_in (hQ _ _ (k₁.trans (Kp.tok _ _)) (.raw _))⟩
theorem Ev.sWs {n : Str} {p p' : Pos} (g : Gl w h) (hS : (LexS l fR).holds X h) (hN : (LexN l line).holds X h) (x : Ev w A env X h (.Name n p) (.raw (.ref l.x))) : Ev w A env X h (.Attribute (.Name n p) "whitespace" p') (.str (S [10, 9, 13, 32])) := ⟨fun s _ _ hs hQ => by
  refine Attribute_name (x.run s _ _ hs fun v s₁ k₁ i₁ => ?_)
  cases i₁
  have ex := hs.trans k₁.ext
  obtain ⟨mA, t0, u, hn, hw, m1, m2, m3, m4⟩ := (LexN l line).stable X X h s₁.heap hN (fun b o _ e => ex b o e) (.ext ex)
  exact self_get (g.ext ex) ((LexS l fR).stable X X h s₁.heap hS (fun b o _ e => ex b o e) (.ext ex)) hn m3 rfl (ns51_ws w) ob_ws (hQ _ _ (k₁.trans (Kp.tok _ _)) (.str _ _))⟩
theorem Ev.sPb {n : Str} {p p' : Pos} (g : Gl w h) (hS : (LexS l fR).holds X h) (hN : (LexN l line).holds X h) (x : Ev w A env X h (.Name n p) (.raw (.ref l.x))) : Ev w A env X h (.Attribute (.Name n p) "pushback" p') (.raw (.ref l.pb)) := ⟨fun s _ _ hs hQ => by
  refine Attribute_name (x.run s _ _ hs fun v s₁ k₁ i₁ => ?_)
  cases i₁
  have ex := hs.trans k₁.ext
  obtain ⟨mA, t0, u, hn, hw, m1, m2, m3, m4⟩ := (LexN l line).stable X X h s₁.heap hN (fun b o _ e => ex b o e) (.ext ex)
  exact self_get (g.ext ex) ((LexS l fR).stable X X h s₁.heap hS (fun b o _ e => ex b o e) (.ext ex)) hn m4 rfl (ns51_pb w) ob_pb (hQ _ _ (k₁.trans (Kp.tok _ _)) (.raw _))⟩
end
end
section

open PySem PySem.W PyProof PyProof.Rows
section
variable {w : World} {A : Around} {Y X Z : Addr → Prop} {s₀ s s' : Shared} {env : Env} {ρ : Rho} {W W' V U : Res} {l : List Env} {msg : List Nat} {ev : Value}
/-- behind a call that changed Z -/
theorem Act.afterDid (a : Act w Y X s₀ env ρ W s) (d : Did Z s s') (hz : ∀ b, Z b → W.fp b) (hx : ∀ b, Z b → ∃ o, s'.heap.get? b = some o) (wf : ∀ b, W'.fp b → W.fp b) (wh : W'.holds X s'.heap) : Act w Y X s₀ env ρ W' s' := by
  obtain ⟨h, tk, hs⟩ := d.same
  have := a.move (X' := X) (W' := W') (h' := s'.heap) (tk := s'.toks) Z d.keep (fun b q => (a.wfx b (hz b q)).1) (fun b q => (a.wfx b (hz b q)).2.1) (fun b q => (a.wfx b (hz b q)).2.2) (fun _ q => q) (fun _ q => .inl q)
    (fun b q r => r.elim (fun n => absurd q n) (hx b)) (fun b q => a.wfx b (wf b q)) wh
  have e : s' = { s with heap := s'.heap, toks := s'.toks } := by rw [hs]
  rw [e]
  exact this
/-- what the callee left alone -/
theorem Did.frame (d : Did V.fp s s') (hU : U.holds X s.heap) (dis : ∀ b, U.fp b → ¬ V.fp b) (hvx : ∀ b, V.fp b → X b) : U.holds X s'.heap :=
  U.stable X X _ _ hU (fun b o f e => d.keep b o (dis b f) e) fun b o nx e => ⟨nx, d.keep b o (fun z => nx (hvx b z)) e⟩
theorem Flown.frame (x : Flown V X l msg s s' ev) (hU : U.holds X s.heap) (dis : ∀ b, U.fp b → ¬ V.fp b ∧ b ∉ frs l) (hvx : ∀ b, V.fp b → X b) (hfx : ∀ b ∈ frs l, X b) : Flown (V.and U) X l msg s s' ev := by
  obtain ⟨e, t, B, rfl, x, fl⟩ := x
  refine ⟨e, t, B, rfl, ⟨x.same, ⟨x.vh, ?_⟩, x.arg, fun b o nv nf q => x.keep b o (fun z => nv (.inl z)) nf q, x.slots⟩, fl⟩
  exact U.stable X X _ _ hU (fun b o f q => x.keep b o (dis b f).1 (dis b f).2 q) fun b o nx q => ⟨nx, x.keep b o (fun z => nx (hvx b z)) (fun z => nx (hfx b z)) q⟩
end
def chars : List Evt → List Nat
  | [] => []
  | .ch c :: r => c :: chars r
  | .bad _ :: r => chars r
theorem chars_len : ∀ es, (chars es).length = cnt es
  | [] => rfl
  | .ch c :: r => by simp [chars, cnt, chars_len r]
  | .bad _ :: r => by simp [chars, cnt, chars_len r]
/-- es is what is left of text -/
def Suf (text : List Nat) (es : List Evt) : Prop := cnt es ≤ text.length ∧ chars es = text.drop (text.length - cnt es)
theorem Suf.ch {text : List Nat} {c : Nat} {r : List Evt} (h : Suf text (.ch c :: r)) : Suf text r ∧ text[text.length - cnt (.ch c :: r)]? = some c := by
  obtain ⟨h1, h2⟩ := h
  simp only [cnt, chars] at h1 h2
  have h3 : text[text.length - (cnt r + 1)]? = some c := by
    have : (text.drop (text.length - (cnt r + 1)))[0]? = some c := by rw [← h2]; rfl
    rw [List.getElem?_drop] at this
    simpa using this
  refine ⟨⟨by omega, ?_⟩, h3⟩
  have h4 : chars r = (text.drop (text.length - (cnt r + 1))).drop 1 := by rw [← h2]; rfl
  rw [h4, List.drop_drop]
  congr 1
  omega
theorem Suf.bad {text : List Nat} {k : Nat} {r : List Evt} (h : Suf text (.bad k :: r)) : Suf text r := h
theorem lineAt_ch {text : List Nat} {c : Nat} {r : List Evt} (h : Suf text (.ch c :: r)) : lineAt text (text.length - cnt r) = lineAt text (text.length - cnt (.ch c :: r)) + (if c == 10 then 1 else 0) := by
  have h1 := h.1
  have h2 := h.ch.2
  simp only [cnt] at h1 h2 ⊢
  have e : text.length - cnt r = (text.length - (cnt r + 1)) + 1 := by omega
  rw [e]
  unfold lineAt
  rw [List.take_add_one, h2, List.filter_append]
  cases hc : c == 10 <;> simp [hc] <;> omega
/-- archive and lexer together -/
def Lx (w : World) (a : ArA) (l : LxA) (ms : List (List Nat × Nat)) (text : List Nat) (es : List Evt) : Res :=
  (Arch w a ms text.length es).and ((LexN l (lineAt text (text.length - cnt es))).and (LexS l a.fR))
end
section
open PySem PySem.W PyProof PyProof.Rows
theorem x_line {w : World} {A : Around} {Y X : Addr → Prop} {s₀ : Shared} {env : Env} {ρ : Rho} {V : Res} {s : Shared} {Q : Flow → Shared → Prop} {E : Value → Shared → Prop} {l : LxA} {fR : Addr} {line n : Nat} {p p' p'' : Pos} {e : Expr} {rest : List Stmt}
    (a : Act w Y X s₀ env ρ (V.and ((LexN l line).and (LexS l fR))) s) (hn : ρ.lookup ("self" : Str) = some (.raw (.ref l.x))) (hV : ¬ V.fp l.dx) (hx52 : l.x ≠ 52) (he : Ev w A env X s.heap e (.nat n)) (hf : env.scope.kind = .function) (hkn : Known env "self" = true)
    (k : ∀ s', Act w Y X s₀ env ρ (V.and ((LexN l (line + n)).and (LexS l fR))) s' → wpAny (model PR w) A (execs rest env) Q E s') :
    wpAny (model PR w) A (execs (.AugAssign (.Attribute (.Name "self" p) "lineno" p') .Add e p'' :: rest) env) Q E s := by
  refine wpAny_execs_cons (wpAny_AugAssign_AttributeAny ((a.ev hn hf hkn (by decide) (by decide)).run s _ _ (Ext.refl _) fun u s₁ k₁ i₁ => ?_))
  cases i₁
  have a₁ := a.kp k₁
  obtain ⟨_, hN, hS⟩ := a₁.wh
  obtain ⟨mA, t0, u, hns, hw, m1, m2, m3, m4⟩ := id hN
  refine self_get a₁.Gl hS hns m1 rfl (ns51_line w) ob_line ?_
  refine (he.up k₁.ext).run _ _ _ (Ext.refl _) fun v s₃ k₃ i₃ => (o_iaddN (w := w) (A := A) (X := X)).run s₃ (.int line t0) v _ _ (.int _ _) i₃ fun r s₄ k₄ i₄ => ?_
  cases i₄
  have a₄ := a₁.kp ((Kp.tok s₁ _).trans (k₃.trans k₄))
  obtain ⟨_, hN4, hS4⟩ := a₄.wh
  refine self_line a₄.Gl hS4 hN4 hx52 fun h' tk hN' hk' => ?_
  have wD := a₄.wfx l.dx (.inr (.inl rfl))
  have ps : Passes X s₄.heap X h' := fun b o nx q => ⟨nx, hk' b o (fun z => nx (z ▸ wD.1)) q⟩
  refine k _ (a₄.move (X' := X) (W' := V.and ((LexN l (line + n)).and (LexS l fR))) (h' := h') (tk := tk) (fun b => b = l.dx) hk' (fun b z => z ▸ wD.1) (fun b z => z ▸ wD.2.1) (fun b z => z ▸ wD.2.2) (fun _ q => q) (fun _ q => .inl q) (fun b q r => ?_) a₄.wfx ⟨?_, hN', ?_⟩)
  · rcases r with r | r
    · exact absurd q r
    · obtain ⟨_, _, _, ⟨o, _, _, e, _⟩, _⟩ := hN'; exact ⟨o, r ▸ e⟩
  · exact V.stable _ _ _ _ a₄.wh.1 (fun b o f q => hk' b o (fun z => hV (z ▸ f)) q) ps
  · exact (LexS l fR).stable _ _ _ _ hS4 (fun _ _ f => f.elim) ps
theorem rc_code {w : World} {A : Around} {X : Addr → Prop} {a : ArA} {l : LxA} {ms : List (List Nat × Nat)} {text : List Nat} {es : List Evt} {outer : List Env} {s : Shared} {Q : Value → Shared → Prop} {E : Value → Shared → Prop}
    (g : Gl w s.heap) (xi : XIn X s.heap) (hX : X a.st ∧ ¬ GA a.st ∧ a.st < s.heap.objs.size) (hD : X l.dx ∧ ¬ GA l.dx ∧ l.dx < s.heap.objs.size) (hds : l.dx ≠ a.st) (hx52 : l.x ≠ 52) (hh : A.handled = none) (hroom : A.depth + 3 < recursionLimit)
    (hms : ms.length ≤ 5) (hne : ∀ m ∈ ms, m.1 ≠ [] ∧ m.1.length ≤ 1000) (hsuf : Suf text es) (hL : (Lx w a l ms text es).holds X s.heap) (fo : FrOk A outer (Lx w a l ms text []) X s.heap)
    (h0 : es = [] → ∀ v s', Did (Lx w a l ms text []).fp s s' → (Lx w a l ms text []).holds X s'.heap → Is X s'.heap v (.str (S [])) → Q v s')
    (h1 : ∀ c r, es = .ch c :: r → ∀ v s', Did (Lx w a l ms text []).fp s s' → (Lx w a l ms text r).holds X s'.heap → Is X s'.heap v (.str (S [c])) → Q v s')
    (h2 : ∀ k r, es = .bad k :: r → ∀ ev s', Flown (Lx w a l ms text r) X outer (bad ++ [letters.getD k 0]) s s' ev → E ev s') :
    codeAny (model PR w) A (.call (.ref 35) ⟨[.ref l.x], []⟩) (fun r s' => match r with | .ok (.ret v) => Q v s' | .ok _ => False | .error e => E e s') s := by
  refine enterC (names := ["self"]) (avs := [.raw (.ref l.x)]) (Y := (Lx w a l ms text []).fp) (W := Lx w a l ms text es) (ρc := []) (fo := ⟨_, _, .func (fnX _ _ _ _ _ [] _ _ _ _ _ _ _), _⟩) g xi (g.K 35 _ rfl) rfl (codeRec_of g.K rfl) (by omega) rfl (by decide) rfl rfl rfl rfl rfl rfl (.cons (.raw _) .nil)
    (fun b hb => ?hY) (fun b hb => hb) hL (fun x av e => by cases e) fun s₁ act => ?main
  case hY =>
    rcases hb with hb | hb | hb
    · have hb : b = a.st := hb
      exact hb ▸ hX
    · have hb : b = l.dx := hb
      exact hb ▸ hD
    · exact hb.elim
  case main =>
    have hLs : ¬ (Lx w a l ms text []).fp s.heap.objs.size := by
      rintro (hb | hb | hb)
      · exact Nat.lt_irrefl _ ((show s.heap.objs.size = a.st from hb) ▸ hX.2.2)
      · exact Nat.lt_irrefl _ ((show s.heap.objs.size = l.dx from hb) ▸ hD.2.2)
      · exact hb
    have hx1 : ∀ b, X b → (fun b => X b ∨ b = s.heap.objs.size) b := fun b z => .inl z
    have less : ∀ {V : Res} {h' : Heap}, V.holds (fun b => X b ∨ b = s.heap.objs.size) h' → V.holds X h' := fun {V} {h'} hv => V.stable _ _ h' h' hv (fun _ _ _ q => q) fun b o nx q => ⟨fun z => nx (.inl z), q⟩
    have lessI : ∀ {v : Value} {d : AV} {h' : Heap}, Is (fun b => X b ∨ b = s.heap.objs.size) h' v d → Is X h' v d := fun hv => hv.pass fun b o nx q => ⟨fun z => nx (.inl z), q⟩
    have frA := act.frOk fo hx1 (fun b z => z) rfl (by intro z; cases z) hLs
    refine wpAny_execs_cons (wpAny_Assign_Name (MethodCall_ (pl := _) ((Ev.sIn act.Gl act.wh.2.2 act.wh.2.1 (act.ev rfl rfl rfl rfl rfl)).run s₁ _ _ (Ext.refl _) fun ov s₂ k₂ i₂ => ?_) rfl) rfl)
    cases i₂
    have a₂ := act.kp k₂
    obtain ⟨_, _, _, ⟨oS, fdS, md, e1, e2, e3, e4, e5, e6⟩, _, _⟩ := a₂.wh.2.2
    obtain ⟨_, _, ⟨⟨fob, name, q, doc, pm, cd, ct, cl, f1, f2, _⟩, _⟩⟩ := a₂.wh.1
    refine fn_method e1 e2 e3 e4 e5 e6 rfl ?_
    refine callWith_def (o := fob) f2 ((EvL.cons Ev.natl EvL.nil rfl : EvL w _ _ (fun b => X b ∨ b = s.heap.objs.size) s₂.heap _ _ [.nat 1]).run _ _ _ (Ext.refl _) fun vs s₄ k₄ i₄ => ⟨?_, ?_⟩) rfl
    · exact k₄.ext _ _ f1
    obtain ⟨v1, rfl, iv⟩ := i₄.one
    have a₄ := a₂.kp ((Kp.tok s₂ _).trans k₄)
    have fr4 : FrOk (A.deeper _) (_ :: outer) (Arch w a ms text.length []) _ s₄.heap := ⟨frA.fr, frA.ff.ext (k₂.trans ((Kp.tok s₂ _).trans k₄)).ext, frA.fx, fun b hb z => frA.nv b hb (.inl z)⟩
    have hdA : ∀ b, (LexN l (lineAt text (text.length - cnt es))).fp b ∨ (LexS l a.fR).fp b → ¬ (b = a.st) := fun b z q => z.elim (fun z => hds (z ▸ q)) fun z => z
    refine wpAny_mono (read_call (Q := fun v s₅ => ∃ t r, (Arch w a ms text.length r).holds (fun b => X b ∨ b = s.heap.objs.size) s₅.heap ∧ Did (fun b => b = a.st) s₄ s₅ ∧ Is (fun b => X b ∨ b = s.heap.objs.size) s₅.heap v (.str (S t)) ∧
        lineAt text (text.length - cnt r) = lineAt text (text.length - cnt es) + (if S t == S [10] then 1 else 0) ∧ ∀ v s', Did (Lx w a l ms text []).fp s s' → (Lx w a l ms text r).holds X s'.heap → Is X s'.heap v (.str (S t)) → Q v s')
      (a := a) (ms := ms) (tot := text.length) (es := es) a₄.Gl a₄.xin ⟨.inl hX.1, hX.2.1, ?_⟩ (by exact hh) (by show A.depth + 1 + 2 < _; omega) hms hne a₄.wh.1 fr4 iv ?c0 ?c1 ?c2) (fun v s₅ h => ?fin) (fun _ _ h => h)
    · obtain ⟨o, e⟩ := a₄.xin a.st (.inl hX.1)
      exact Heap.lt_size e
    case c2 =>
      intro k r he ev s₅ fl
      have hcr : cnt es = cnt r := by rw [he]; rfl
      have hU := a₄.wh.2
      rw [hcr] at hU
      have fl2 := fl.frame (U := (LexN l (lineAt text (text.length - cnt r))).and (LexS l a.fR)) hU (fun b z => ⟨fun q => z.elim (fun z => hds ((show b = l.dx from z) ▸ q)) fun z => z, fun q => frA.nv b q (.inr (z.elim .inl fun z => z.elim))⟩) (fun b z => .inl ((show b = a.st from z) ▸ hX.1)) fr4.fx
      have fl3 := Flown.back (V := Lx w a l ms text r) a₄ (fun b z => z) frA.nv fl2
      exact fl3.leave frA.fr rfl (act.fresh _ (.inl rfl)) fun s'' fl4 => h2 k r he _ _ (fl4.less hx1)
    case c0 =>
      intro he v s₅ did arch is
      exact ⟨[], [], arch, did, is, by rw [he]; rfl, h0 he⟩
    case c1 =>
      intro c r he v s₅ did arch is
      refine ⟨[c], r, arch, did, is, ?_, h1 c r he⟩
      rw [he] at hsuf ⊢
      rw [S1_beq]
      exact lineAt_ch hsuf
    case fin =>
      obtain ⟨t, r, arch, did, is, hline, hQ⟩ := h
      have a₅ := a₄.afterDid (W' := (Arch w a ms text.length r).and ((LexN l (lineAt text (text.length - cnt es))).and (LexS l a.fR))) did (fun b z => .inl z) (fun b z => ?ex) (fun b q => q) ⟨arch, Did.frame (V := Arch w a ms text.length r) did a₄.wh.2 (fun b z => hdA b z) (fun b z => .inl ((show b = a.st from z) ▸ hX.1))⟩
      case ex =>
        obtain ⟨_, ⟨_, _, _, _, ⟨_, ⟨o, e, _⟩, _⟩⟩, _⟩ := arch
        exact ⟨o, z ▸ e⟩
      refine x_store a₅ is rfl rfl fun s₆ a₆ => ?_
      dsimp only
      refine' x_ifT (σ := Unit) (fun _ => True) [("ch", .str (S t))] (fun _ => Lx w a l ms text r) a₆ (c := S t == S [10]) ?t1 ?kt ?kf ?tail
      case t1 => walk_at "evt"
      case kt =>
        intro hc s₇ a₇
        refine' x_line (n := 1) a₇ rfl (fun z => hds z) hx52 ?n1 rfl rfl ?n2
        case n1 => walk_at "ev"
        case n2 =>
          intro s₈ a₈
          rw [hc, if_pos rfl] at hline
          refine x_nil ⟨(), trivial, ?_⟩
          have := a₈.sub (ρ' := [("ch", .str (S t))]) ⟨rfl, trivial⟩
          rw [← hline] at this
          exact this
      case kf =>
        intro hc s₇ a₇
        rw [hc, if_neg (by decide), Nat.add_zero] at hline
        refine x_nil ⟨(), trivial, ?_⟩
        have := a₇.sub (ρ' := [("ch", .str (S t))]) ⟨rfl, trivial⟩
        rw [← hline] at this
        exact this
      case tail =>
        intro _ s₇ _ a₇
        refine' x_ret (av := .str (S t)) a₇ ?r1 ?r2
        case r1 => walk_at "ev"
        case r2 =>
          intro v s₈ a₈ i₈
          exact hQ v s₈ a₈.did (less a₈.wh) (lessI i₈)
end
section

open PySem PySem.W PyProof PyProof.Rows
open Builtin Builtin.ObjectAttr
theorem kb_dict (w : World) : hasDictIn (KK w) 52 = true := by kernel_rfl
theorem kb_rc (w : World) : findIn (KK w) (.ref 52) "_read_char" = some (some (.ref 35)) := by kernel_rfl
theorem kb_get (w : World) : specialIn (KK w) (.ref 35) "__get__" = some (some (.builtin "function.__get__")) := by kernel_rfl
theorem kb_takes (w : World) : takesIn (KK w) (.ref 35) = some false := by kernel_rfl
theorem kb_copied : copiedNames.contains ("_read_char" : Str) = false := by decide +kernel
theorem kb_ga (w : World) : findIn (KK w) (.ref 52) "__getattribute__" = some (some (.builtin "object.__getattribute__")) := by kernel_rfl
theorem kb_getattr (w : World) : findIn (KK w) (.ref 52) "__getattr__" = some none := by kernel_rfl
theorem kb_fn (w : World) : typeIn (KK w) (.ref 35) = some (.type "function") := by kernel_rfl
theorem kind_iter : builtinKind "iter" = none := by decide +kernel
theorem plain_iter : plainId "iter" = true := by decide +kernel
theorem entry_iter : entryFor table "iter" = some Builtin.«iter» := entryFor_of_tree (by kernel_rfl)
theorem args_iter (a b : Value) : argsOk "iter" ⟨[a, b], []⟩ := by unfold argsOk; kernel_rfl
theorem someArgs_iter (a b : Value) : someArgs "iter" 1 2 ⟨[a, b], []⟩ = pure [a, b] := rfl
theorem lk_method_call : typeLookup (.type "method") "__call__" = pure (some (.builtin "method.__call__")) := by rw [typeLookup_type, builtinLookup_eq_fast]; kernel_rfl
theorem lookIn_none {h : Heap} {d : Addr} {mA : Str → Option Value} {name : Str} (hn : h.Ns1 d mA) (hm : mA name = none) : ∃ od, h.get? d = some od ∧ lookIn name od = some none := by
  obtain ⟨o, es, ep, e1, e2, e3, _, e4⟩ := hn
  refine ⟨o, e1, ?_⟩
  unfold lookIn
  rw [e2]
  dsimp only
  have h1 := e4 name
  rw [hm] at h1
  unfold nsFind findBy at h1
  have h2 : es.toList.find? (·.key.isStr name) = none := by
    rw [Array.find?_toList]
    cases q : es.find? (·.key.isStr name) with
    | none => rfl
    | some e => rw [q] at h1; cases h1
  rw [h2]
  dsimp only
  rw [if_neg]
  intro z
  obtain ⟨e, he, hr⟩ := List.any_eq_true.mp z
  obtain ⟨n, t, hk⟩ := e3 e (Array.mem_toList_iff.mp he)
  rw [DictEntry.refKey, hk] at hr
  exact absurd hr (by simp)
section
variable {w : World} {A : Around} {X : Addr → Prop} {s : Shared} {E : Value → Shared → Prop} {l : LxA} {fR : Addr} {line : Nat}
theorem bm_get {ex : Bool} {Q : Value → Shared → Prop} (g : Gl w s.heap) (hS : (LexS l fR).holds X s.heap) (hN : (LexN l line).holds X s.heap)
    (hQ : Q (.ref s.heap.objs.size) { s with heap := s.heap.push (methodObj (.ref 35) (.ref l.x)), toks := s.toks + 1 }) : wpAny (model PR w) A (getAttr (.ref l.x) "_read_char" ex) Q E s := by
  obtain ⟨⟨o, h1, h2, h3, h4⟩, _, ne, _⟩ := hS
  obtain ⟨mA, t0, u, hns, hw, _⟩ := hN
  have hm : mA "_read_char" = none := by
    cases e : mA "_read_char" with
    | none => rfl
    | some v => exact absurd (hw "_read_char" (by rw [e]; intro z; cases z)) (by decide)
  obtain ⟨od, hod, hlk⟩ := lookIn_none hns hm
  have I : InstAt s.heap l.x o 52 (some od) := ⟨h1, h2, by
    unfold notCls
    cases hd : o.data <;> first | rfl | exact absurd hd (h4 _), by rw [h3]; exact hod⟩
  exact get_bind g.K I (kb_ga w) (findObj_fn (kb_dict w) (kb_rc w) (kb_get w) (kb_takes w) kb_copied hlk) (kb_getattr w) (wpAny_call (fn_get (s := { s with toks := s.toks + 1 }) g.K (kb_fn w) (handed_on rfl hQ)))
theorem it_call {b : Addr} {v : Value} {Q : Value → Shared → Prop} (hb : s.heap.get? b = some (methodObj (.ref 35) (.ref l.x)))
    (hQ : Q (.ref s.heap.objs.size) { s with heap := s.heap.push { cls := .type "callable_iterator", data := .fields #[.ref b, v, .bool false] } }) : wpAny (model PR w) A (call (.builtin "iter") [.ref b, v]) Q E s := by
  refine call_function_tree kind_iter plain_iter entry_iter (args_iter _ _) ?_
  unfold Builtin.«iter»
  obtain ⟨h, g', d, t, os⟩ := s
  have hT : Shared.TypeIs ⟨h, g', d, t, os⟩ (.ref b) "method" := ⟨_, hb, rfl⟩
  refine wpAny_bind (wpAny_of_eq (someArgs_iter _ _) ?_)
  dsimp only
  refine wpAny_bind (wpAny_specialOf hT lk_method_call ?_)
  rw [if_neg (by decide)]
  refine wpAny_bind (wpAny_rule ?_)
  unfold newFields
  refine wpAny_bind (wpAny_newObj_type (wpAny_pure ?_) (by size_fits))
  exact hQ
theorem call_borrowed {f : Value} {pos : List Value} {Q : Value → Shared → Prop}
    (hc : codeAny (model PR w) A (.call f ⟨pos, []⟩) (fun r s' => match r with | .ok (.ret v) => Q v s' | .ok _ => False | .error e => E e s') s) : wpAny (model PR w) A (callBorrowed f pos) Q E s := fun Γ p hΓ => by
  have := wpAny_runValue hc Γ p hΓ
  rw [Sem.wp_runValue] at this
  unfold callBorrowed
  rw [Sem.wp_call]
  refine Eq.mpr ?_ this
  congr 1
  funext r s'
  cases r with
  | error e => rfl
  | ok f => cases f <;> rfl
/-- the callable iterator -/
def itObj (b : Addr) (v : Value) : Obj := { cls := .type "callable_iterator", data := .fields #[.ref b, v, .bool false] }
def itEnd : Obj := { cls := .type "callable_iterator", data := .fields #[.none, .none, .bool true] }
theorem slot_it_next : Slot "callable_iterator" "__next__" "callable_iterator.__next__" :=
  .of (owner := "callable_iterator") (n := "__next__") (by rw [typeLookup_type, builtinLookup_eq_fast]; kernel_rfl) (by decide +kernel) (by decide +kernel) (by decide +kernel)
    (by first | exact .inl (by decide +kernel) | exact .inr (by decide +kernel)) (by rw [isSubtype_type]; kernel_rfl)
theorem entry_it_next : entryFor table "callable_iterator.__next__" = some Builtin.«callable_iterator.__next__» := entryFor_of_tree (by kernel_rfl)
theorem args_it_next (a : Value) : argsOk "callable_iterator.__next__" ⟨[a], []⟩ := by unfold argsOk; kernel_rfl
theorem it_next {F b : Addr} {sv : Value} {Q : Option Value → Shared → Prop} (hh : A.handled = none) (hF : s.heap.get? F = some (itObj b sv)) (hb : s.heap.get? b = some (methodObj (.ref 35) (.ref l.x))) (h35 : ∃ o fd, s.heap.get? 35 = some o ∧ o.data = .func fd)
    (hc : codeAny (model PR w) A.in1 (.call (.ref 35) ⟨[.ref l.x], []⟩) (fun r s' => match r with
      | .ok (.ret v) => s'.heap.get? F = some (itObj b sv) ∧ s'.heap.get? b = some (methodObj (.ref 35) (.ref l.x)) ∧ (∃ o fd, s'.heap.get? 35 = some o ∧ o.data = .func fd) ∧ ∃ eq, (∀ (Q : Bool → Shared → Prop) (E' : Value → Shared → Prop), Q eq s' → wpAny (model PR w) A.in1 (eqBool sv v) Q E' s') ∧ (eq = false → Q (some v) s') ∧
          (eq = true → ∀ h' tk, (∀ x o, x ≠ F → s'.heap.get? x = some o → h'.get? x = some o) → h'.get? F = some itEnd → Q none { s' with heap := h', toks := tk })
      | .ok _ => False
      | .error e => (∀ (Q : Bool → Shared → Prop) (E' : Value → Shared → Prop), Q false s' → wpAny (model PR w) A.in1 (isInstance e (.type "StopIteration")) Q E' s') ∧ (∀ (Q : Bool → Shared → Prop) (E' : Value → Shared → Prop), Q false s' → wpAny (model PR w) A (isInstance e (.type "StopIteration")) Q E' s') ∧ E e s') s) :
    wpAny (model PR w) A (pyNext (.ref F)) Q E s := by
  have hT : s.TypeIs (.ref F) "callable_iterator" := ⟨_, hF, rfl⟩
  obtain ⟨o35, fd35, e35, d35⟩ := h35
  unfold pyNext
  refine wpAny_bind (wpAny_attempt (wpAny_callSpecial?_slot (name := Str.ofString "__next__") hT slot_it_next (wpAny_call_entry slot_it_next hT entry_it_next ?_ (args_it_next _))))
  show wpAny _ _ (field (.ref F) 2 >>= _) _ _ s
  refine wpAny_bind (wpAny_field hF rfl (x := .bool false) rfl ?_)
  rw [if_neg (by decide)]
  dsimp only
  refine wpAny_bind (wpAny_field hF rfl (x := .ref b) rfl ?_)
  unfold callOutOfASlot borrowsExactly
  refine wpAny_bind (wpAny_attempt (wpAny_bind (wpAny_bind (wpAny_load hb ?_))))
  show wpAny _ _ (do
    let o ← load 35
    match o.data with
      | Data.func f => pure true
      | x => pure false) _ _ s
  refine wpAny_bind (wpAny_load e35 ?_)
  rw [d35]
  refine wpAny_pure ?_
  rw [if_pos rfl]
  refine call_borrowed (ks_codeAny_call_bound hb (codeAny_mono hc fun r s' hr => ?_))
  cases r with
  | error e =>
    obtain ⟨i1, i2, he⟩ := hr
    dsimp only
    refine wpAny_bind (i1 _ _ ?_)
    rw [if_pos (by decide)]
    refine wpAny_bind (wpAny_throw ?_)
    refine wpAny_bind (i2 _ _ ?_)
    rw [if_neg (by decide)]
    exact wpAny_throw he
  | ok fl =>
    cases fl with
    | ret v =>
      obtain ⟨hF', hb', ⟨o', fd', e', d'⟩, eq, heq, hq1, hq2⟩ := hr
      dsimp only
      refine wpAny_bind (wpAny_field hF' rfl (x := .bool false) rfl ?_)
      rw [if_neg (by decide)]
      refine wpAny_bind (wpAny_field hF' rfl (x := sv) rfl ?_)
      refine wpAny_bind (wpAny_holding (heq _ _ ?_))
      cases eq with
      | false =>
        rw [if_pos (by decide)]
        refine wpAny_pure ⟨v, rfl, ?_⟩
        exact wpAny_pure (hq1 rfl)
      | true =>
        rw [if_neg (by decide)]
        refine wpAny_bind (wpAny_rule (wpAny_bind ?_))
        show wpAny _ _ (field (.ref F) 0 >>= _) _ _ s'
        refine wpAny_bind (wpAny_field hF' rfl (x := .ref b) rfl ?_)
        unfold slotLetsGo borrowsExactly
        refine wpAny_bind (wpAny_bind (wpAny_bind (wpAny_load hb' ?_)))
        show wpAny _ _ (do
          let o ← load 35
          match o.data with
            | Data.func f => pure true
            | x => pure false) _ _ s'
        refine wpAny_bind (wpAny_load e' ?_)
        rw [d']
        refine wpAny_pure ?_
        rw [if_pos rfl]
        refine wpAny_pure ?_
        refine wpAny_bind (wpAny_setField hF' rfl (by simp) ?_)
        have hF1 := Heap.get?_update_self (Obj.mapFields (·.setIfInBounds 0 Value.none)) hF' rfl
        refine wpAny_bind (wpAny_setField hF1 rfl (by simp) ?_)
        have hF2 := Heap.get?_update_self (Obj.mapFields (·.setIfInBounds 1 Value.none)) hF1 rfl
        refine wpAny_setField hF2 rfl (by simp) ?_
        have hF3 := Heap.get?_update_self (Obj.mapFields (·.setIfInBounds 2 (Value.bool true))) hF2 rfl
        show wpAny _ _ (newExc (.type "StopIteration") [] >>= _) _ _ _
        refine wpAny_bind ?_
        simp only [newExc, newTuple]
        refine wpAny_bind (wpAny_newObj_type ?_ (by size_fits))
        refine wpAny_bind (m := firstArgMember _ _) (wpAny_of_eq (a := Value.none) (by first | rfl | (simp only [firstArgMember]; rfl)) ?_)
        refine wpAny_newObj_type ?_ (by size_fits)
        simp only [raiseNew]
        refine wpAny_bind (wpAny_handled ?_)
        rw [show A.in1.handled = none from hh]
        refine wpAny_bind (wpAny_pure (wpAny_throw ?_))
        refine wpAny_bind (wpAny_isInstance (T := "StopIteration") (b := true) ⟨_, Heap.get?_push_size _ rfl, rfl⟩ isSubtype_stop ?_)
        rw [if_pos rfl]
        refine wpAny_pure (hq2 rfl _ s'.toks (fun x o hx e => ?_) (Heap.get?_push_of_some _ (Heap.get?_push_of_some _ hF3)))
        refine Heap.get?_push_of_some _ (Heap.get?_push_of_some _ ?_)
        rw [Heap.get?_update_other _ _ (Ne.symm hx), Heap.get?_update_other _ _ (Ne.symm hx), Heap.get?_update_other _ _ (Ne.symm hx)]
        exact e
    | _ => exact hr.elim
theorem it_ended {F : Addr} {Q : Option Value → Shared → Prop} (hh : A.handled = none) (hF : s.heap.get? F = some itEnd) (hQ : ∀ h', Ext s.heap h' → Q none { s with heap := h' }) : wpAny (model PR w) A (pyNext (.ref F)) Q E s := by
  have hT : s.TypeIs (.ref F) "callable_iterator" := ⟨_, hF, rfl⟩
  unfold pyNext
  refine wpAny_bind (wpAny_attempt (wpAny_callSpecial?_slot (name := Str.ofString "__next__") hT slot_it_next (wpAny_call_entry slot_it_next hT entry_it_next ?_ (args_it_next _))))
  show wpAny _ _ (field (.ref F) 2 >>= _) _ _ s
  refine wpAny_bind (wpAny_field hF rfl (x := .bool true) rfl ?_)
  rw [if_pos (by decide)]
  refine wpAny_bind (wpAny_rule (wpAny_bind ?_))
  show wpAny _ _ (newExc (.type "StopIteration") [] >>= _) _ _ _
  refine wpAny_bind ?_
  simp only [newExc, newTuple]
  refine wpAny_bind (wpAny_newObj_type ?_ (by size_fits))
  refine wpAny_bind (m := firstArgMember _ _) (wpAny_of_eq (a := Value.none) (by first | rfl | (simp only [firstArgMember]; rfl)) ?_)
  refine wpAny_newObj_type ?_ (by size_fits)
  simp only [raiseNew]
  refine wpAny_bind (wpAny_handled ?_)
  rw [show A.in1.handled = none from hh]
  refine wpAny_bind (wpAny_pure (wpAny_throw ?_))
  refine wpAny_bind (wpAny_isInstance (T := "StopIteration") (b := true) ⟨_, Heap.get?_push_size _ rfl, rfl⟩ isSubtype_stop ?_)
  rw [if_pos rfl]
  exact wpAny_pure (hQ _ ((Ext.push _ _).trans (Ext.push _ _)))
end
end
section

open PySem PySem.W PyProof PyProof.Rows
open Builtin Builtin.ObjectAttr
theorem sub_bad_stop (w : World) : subIn (KK w) (.ref 66) (.type "StopIteration") = some false := by kernel_rfl
theorem ns51_tok (w : World) : nsIn (KK w) 51 "get_token" = some (some (.ref 42)) := by kernel_rfl
theorem ns51_rc (w : World) : nsIn (KK w) 51 "_read_char" = some (some (.ref 35)) := by kernel_rfl
theorem ns51_push (w : World) : nsIn (KK w) 51 "push_token" = some (some (.ref 49)) := by kernel_rfl
theorem ob_tok : typeLookup (.type "object") "get_token" = pure none := by rw [typeLookup_type, builtinLookup_eq_fast]; kernel_rfl
theorem ob_rc : typeLookup (.type "object") "_read_char" = pure none := by rw [typeLookup_type, builtinLookup_eq_fast]; kernel_rfl
theorem ob_push : typeLookup (.type "object") "push_token" = pure none := by rw [typeLookup_type, builtinLookup_eq_fast]; kernel_rfl
theorem slot_it_iter : Slot "callable_iterator" "__iter__" "callable_iterator.__iter__" :=
  .of (owner := "callable_iterator") (n := "__iter__") (by rw [typeLookup_type, builtinLookup_eq_fast]; kernel_rfl) (by decide +kernel) (by decide +kernel) (by decide +kernel)
    (by first | exact .inl (by decide +kernel) | exact .inr (by decide +kernel)) (by rw [isSubtype_type]; kernel_rfl)
theorem entry_it_iter : entryFor table "callable_iterator.__iter__" = some Builtin.«dict_keyiterator.__iter__» :=
  entryFor_alias (id' := "dict_keyiterator.__iter__") (by kernel_rfl) rfl (by decide +kernel) (by kernel_rfl)
theorem args_it_iter (a : Value) : argsOk "callable_iterator.__iter__" ⟨[a], []⟩ := by unfold argsOk; kernel_rfl
theorem ns_some_of {K : Frag} {h : Heap} {mN : Str → Option Value} {N : Addr} {x : Str} {v : Value} (X : K.In h) (G : h.Ns N mN) (e : nsIn K N x = some (some v)) : mN x = some v := by
  obtain ⟨o, es, ep, ho, hd, _, hf⟩ := G
  unfold nsIn at e
  split at e
  · rename_i c d es' n' sl q
    have := X _ _ q
    rw [ho] at this
    cases this
    cases hd
    split at e
    · rename_i en he
      rw [← hf]
      unfold nsFind findBy
      rw [← Array.find?_toList, he]
      simpa using e
    · split at e <;> cases e
  · cases e
section
variable {w : World} {A : Around} {X : Addr → Prop} {s : Shared} {E : Value → Shared → Prop} {l : LxA} {fR : Addr} {line : Nat}
theorem it_self {F : Addr} {o : Obj} {Q : Value → Shared → Prop} (ho : s.heap.get? F = some o) (hc : o.cls = .type "callable_iterator") (h : Q (.ref F) s) : wpAny (model PR w) A (pyIter (.ref F)) Q E s := by
  have hT : s.TypeIs (.ref F) "callable_iterator" := ⟨_, ho, hc⟩
  refine wpAny_pyIter_slot hT slot_it_iter (wpAny_call_entry slot_it_iter hT entry_it_iter ?_ (args_it_iter _))
  show wpAny _ _ (ret (.ref F)) _ _ s
  exact wpAny_pure ⟨_, rfl, "callable_iterator", _, hT, slot_it_next.lookup, h⟩
theorem lx_meth {name : Str} {f : Addr} {of : Obj} {pl : Sem Bool} {Q : Value × List Value → Shared → Prop} (g : Gl w s.heap) (hS : (LexS l fR).holds X s.heap) (hN : (LexN l line).holds X s.heap) (hns : nsIn (KK w) 51 name = some (some (.ref f))) (ho : (KK w).lookup f = some of) (hfc : of.cls = .type "function")
    (hB : typeLookup (.type "object") name = pure none) (hnm : name ∉ lexNames) (hq : Q (.ref f, [.ref l.x]) s) : wpAny (model PR w) A (getMethod (.ref l.x) name pl) Q E s := by
  obtain ⟨mA, t0, u, hn, hw, m1, m2, m3, m4⟩ := hN
  have hm : mA name = none := by
    cases e : mA name with
    | none => rfl
    | some v => exact absurd (hw name (by rw [e]; intro z; cases z)) hnm
  obtain ⟨nm, q, bs, sn, sub, ab, col, dd, k0, k1, k2, k3, k5, hC⟩ := cls52 w
  obtain ⟨h, g', d, t, os⟩ := s
  have N51 := Heap.Ns.of_isNs (isNs_of_in g.K (nsOk51 w))
  exact method_of (g.K _ _ hC) N51 (nsMap_none_of_in g.K (nsOk51 w) (ns51_ga w)) (nsMap_none_of_in g.K (nsOk51 w) (ns51_getattr w)) (ns_some_of g.K N51 hns) (g.K _ _ ho) hfc hB (self_inst hS hn) hm hq
/-- the text's top stands behind a raise -/
theorem Flown.gl {V : Res} {fs : List Env} {msg : List Nat} {s' : Shared} {ev : Value} (x : Flown V X fs msg s s' ev) (g : Gl w s.heap) (hv : ∀ b, V.fp b → ¬ GA b) (hf : ∀ b ∈ frs fs, ¬ GA b) : Gl w s'.heap ∧ ∃ e o, ev = .ref e ∧ s'.heap.get? e = some o ∧ o.cls = .ref 66 := by
  obtain ⟨e, t, B, rfl, x, fl⟩ := x
  obtain ⟨o, ho, hc⟩ := fl.there
  refine ⟨g.keep fun b o ga q => fl.1 _ _ (x.keep b o (fun z => hv b z ga) (fun z => hf b z ga) q), e, o, rfl, ho, hc⟩
theorem Flown.not_stop {V : Res} {fs : List Env} {msg : List Nat} {s' : Shared} {ev : Value} (x : Flown V X fs msg s s' ev) (g : Gl w s.heap) (hv : ∀ b, V.fp b → ¬ GA b) (hf : ∀ b ∈ frs fs, ¬ GA b) {A : Around} {Q : Bool → Shared → Prop} {E : Value → Shared → Prop} (h : Q false s') :
    wpAny (model PR w) A (isInstance ev (.type "StopIteration")) Q E s' := by
  obtain ⟨g', e, o, rfl, ho, hc⟩ := x.gl g hv hf
  simp only [isInstance, typeOf]
  refine wpAny_bind (wpAny_bind (wpAny_load ho (wpAny_pure ?_)))
  rw [hc]
  exact (looks_subIn g'.K (sub_bad_stop w)) _ _ _ _ (fun _ _ e => e) h
end
end
section

open PySem PySem.W PyProof PyProof.Rows
def Pb (l : LxA) (pb : List (List Nat)) : Res := Res.list l.pb (pb.map fun t => .str (S t))
/-- archive, lexer and what is pushed -/
def Lex (w : World) (a : ArA) (l : LxA) (ms : List (List Nat × Nat)) (text : List Nat) (es : List Evt) (pb : List (List Nat)) : Res := (Lx w a l ms text es).and (Pb l pb)
structure LexOk (w : World) (A : Around) (X₀ : Addr → Prop) (s₀ : Shared) (outer : List Env) (a : ArA) (l : LxA) (ms : List (List Nat × Nat)) (text : List Nat) : Prop where
  gl : Gl w s₀.heap
  xi : XIn X₀ s₀.heap
  hX : ∀ b, (Lex w a l ms text [] []).fp b → X₀ b ∧ ¬ GA b ∧ b < s₀.heap.objs.size
  d1 : l.dx ≠ a.st
  d2 : l.pb ≠ a.st
  d3 : l.pb ≠ l.dx
  x52 : l.x ≠ 52
  hh : A.handled = none
  hms : ms.length ≤ 5
  hne : ∀ m ∈ ms, m.1 ≠ [] ∧ m.1.length ≤ 1000
  fo : FrOk A outer (Lex w a l ms text [] []) X₀ s₀.heap
  fg : ∀ b ∈ frs outer, ¬ GA b
theorem Flown.wk {V V' : Res} {X : Addr → Prop} {fs : List Env} {msg : List Nat} {s s' : Shared} {ev : Value} (x : Flown V X fs msg s s' ev) (hf : ∀ b, V.fp b → V'.fp b ∨ s.heap.get? b = none) (hh : ∀ h, V.holds X h → V'.holds X h) : Flown V' X fs msg s s' ev := by
  obtain ⟨e, t, B, rfl, x, fl⟩ := x
  refine ⟨e, t, B, rfl, ⟨x.same, hh _ x.vh, x.arg, fun b o nv nf q => x.keep b o (fun z => ?_) nf q, x.slots⟩, fl⟩
  rcases hf b z with h | h
  · exact nv h
  · rw [h] at q; cases q
theorem KK_117 (w : World) : ((KK w).lookup 117).isSome = true := rfl
theorem Gl.size {w : World} {h : Heap} (g : Gl w h) : 117 < h.objs.size := by
  obtain ⟨o, e⟩ := Option.isSome_iff_exists.mp (KK_117 w)
  exact Heap.lt_size (g.K _ _ e)
section
variable {w : World} {A A2 : Around} {X₀ X : Addr → Prop} {s₀ s : Shared} {outer : List Env} {a : ArA} {l : LxA} {ms : List (List Nat × Nat)} {text : List Nat} {env : Env} {ρ : Rho} {U : Res} {es : List Evt}
/-- what get_token's activation knows -/
structure TokCtx (w : World) (A : Around) (X₀ X : Addr → Prop) (s₀ : Shared) (outer : List Env) (a : ArA) (l : LxA) (ms : List (List Nat × Nat)) (text : List Nat) (env : Env) (U : Res) : Prop where
  ok : LexOk w A X₀ s₀ outer a l ms text
  fr : env.frame = some env.locals
  fn : env.scope.kind = .function
  room : A.depth + 5 < recursionLimit
  xx : ∀ b, X₀ b → X b
  loc : s₀.heap.get? env.locals = none
  nga : ¬ GA env.locals
  du : ∀ b, U.fp b → b ≠ a.st ∧ b ≠ l.dx ∧ b ≠ env.locals ∧ (b = l.pb ∨ s₀.heap.get? b = none)
  ul : U.fp l.pb
  up : ∀ h, U.holds X h → (Pb l []).holds X h
theorem TokCtx.frOk (c : TokCtx w A X₀ X s₀ outer a l ms text env U) {W : Res} (ac : Act w (Lex w a l ms text [] []).fp X s₀ env ρ W s) : FrOk (A.deeper env) (env :: outer) (Lex w a l ms text [] []) X s.heap :=
  ac.frOk c.ok.fo c.xx (fun _ z => z) c.fr (by rw [c.fn]; intro z; cases z) fun z => by
    obtain ⟨o, e⟩ := c.ok.xi _ (c.ok.hX _ z).1
    rw [c.loc] at e; cases e
theorem TokCtx.ng (c : TokCtx w A X₀ X s₀ outer a l ms text env U) : ∀ b ∈ frs (env :: outer), ¬ GA b := fun b hb z => by
  rcases (frs_cons c.fr b).mp hb with q | q
  · exact c.nga (q ▸ z)
  · exact c.ok.fg b q z
theorem rc_act (c : TokCtx w A X₀ X s₀ outer a l ms text env U) (hsuf : Suf text es) (ac : Act w (Lex w a l ms text [] []).fp X s₀ env ρ ((Lx w a l ms text es).and U) s)
    (hfr : A2.frames = some (env :: outer)) (hh2 : A2.handled = none) (hroom : A2.depth + 3 < recursionLimit) {Q : Value → Shared → Prop} {E : Value → Shared → Prop}
    (h0 : es = [] → ∀ v s', Act w (Lex w a l ms text [] []).fp X s₀ env ρ ((Lx w a l ms text []).and U) s' → Is X s'.heap v (.str (S [])) → Q v s')
    (h1 : ∀ ch r, es = .ch ch :: r → ∀ v s', Act w (Lex w a l ms text [] []).fp X s₀ env ρ ((Lx w a l ms text r).and U) s' → Is X s'.heap v (.str (S [ch])) → Q v s')
    (h2 : ∀ k r, es = .bad k :: r → ∀ ev s', Flown (Lex w a l ms text r []) X (env :: outer) (bad ++ [letters.getD k 0]) s₀ s' ev → E ev s') :
    codeAny (model PR w) A2 (.call (.ref 35) ⟨[.ref l.x], []⟩) (fun r s' => match r with | .ok (.ret v) => Q v s' | .ok _ => False | .error e => E e s') s := by
  have fo := c.frOk ac
  have hlive : ∀ b, (Lex w a l ms text [] []).fp b → X b ∧ ¬ GA b ∧ b < s.heap.objs.size := fun b z => by
    obtain ⟨h1, h2, _⟩ := c.ok.hX b z
    obtain ⟨o, e⟩ := ac.xin b (c.xx b h1)
    exact ⟨c.xx b h1, h2, Heap.lt_size e⟩
  have dU : ∀ b, U.fp b → ¬ (Lx w a l ms text []).fp b := by
    rintro b z (q | q | q)
    · exact (c.du b z).1 q
    · exact (c.du b z).2.1 q
    · exact q
  have fpx : ∀ b, (Lx w a l ms text []).fp b → X b := fun b z => (hlive b (.inl z)).1
  have aft : ∀ r s', Did (Lx w a l ms text []).fp s s' → (Lx w a l ms text r).holds X s'.heap → Act w (Lex w a l ms text [] []).fp X s₀ env ρ ((Lx w a l ms text r).and U) s' := fun r s' did lx => by
    refine ac.afterDid (W' := (Lx w a l ms text r).and U) did (fun b z => .inl z) (fun b z => ?_) (fun b z => z) ⟨lx, Did.frame (V := Lx w a l ms text []) did ac.wh.2 dU fpx⟩
    rcases z with z | z | z
    · obtain ⟨⟨_, ⟨_, _, _, _, ⟨_, ⟨o, e, _⟩, _⟩⟩, _⟩, _⟩ := lx
      exact ⟨o, z ▸ e⟩
    · obtain ⟨_, ⟨_, _, _, ⟨o, _, _, e, _⟩, _⟩, _⟩ := lx
      exact ⟨o, z ▸ e⟩
    · exact z.elim
  refine rc_code (a := a) (l := l) (ms := ms) (text := text) (es := es) (outer := env :: outer) ac.Gl ac.xIn (hlive _ (.inl (.inl rfl))) (hlive _ (.inl (.inr (.inl rfl)))) c.ok.d1 c.ok.x52 hh2 hroom c.ok.hms c.ok.hne hsuf ac.wh.1
    ⟨hfr, fo.ff, fo.fx, fun b hb z => fo.nv b hb (.inl z)⟩ ?_ ?_ ?_
  · exact fun he v s' did lx is => h0 he v s' (aft [] s' did lx) is
  · exact fun ch r he v s' did lx is => h1 ch r he v s' (aft r s' did lx) is
  · intro k r he ev s' fl
    refine h2 k r he ev s' ?_
    have nfr : ∀ b, U.fp b → b ∉ frs (env :: outer) := fun b z q => by
      obtain ⟨_, _, h3, h4⟩ := c.du b z
      rcases (frs_cons c.fr b).mp q with q | q
      · exact h3 q
      · rcases h4 with h4 | h4
        · exact fo.nv b ((frs_cons c.fr b).mpr (.inr q)) (.inr h4)
        · obtain ⟨o, e, _⟩ := c.ok.fo.ff.mem b q
          rw [h4] at e; cases e
    have f1 := Flown.frame (U := U) fl ac.wh.2 (fun b z => ⟨dU b z, nfr b z⟩) fpx fo.fx
    have f2 := Flown.back (V := (Lx w a l ms text r).and U) ac (fun b z => z.elim .inl fun z => .inr ((show b = l.pb from z) ▸ c.ul)) (fun b q z => z.elim (fun z => fo.nv b q (.inl z)) fun z => nfr b z q) f1
    exact Flown.wk f2 (fun b z => z.elim (fun z => .inl (.inl z)) fun z => (c.du b z).2.2.2.elim (fun q => .inl (.inr q)) .inr) (fun h z => ⟨z.1, c.up h z.2⟩)
end
end
section

open PySem PySem.W PyProof PyProof.Rows
def It (l : LxA) (F b : Addr) (tk : Tok) : Res := ⟨fun x => x = F, fun X h => h.get? F = some (itObj b (.str (S []) tk)) ∧ h.get? b = some (methodObj (.ref 35) (.ref l.x)) ∧ ¬ X b,
  fun _ _ _ _ ⟨h1, h2, h3⟩ k p => ⟨k _ _ rfl h1, (p _ _ h3 h2).2, (p _ _ h3 h2).1⟩⟩
def ItE (F : Addr) : Res := ⟨fun x => x = F, fun _ h => h.get? F = some itEnd, fun _ _ _ _ h1 k _ => k _ _ rfl h1⟩
section
variable {w : World} {A : Around} {X₀ X : Addr → Prop} {s₀ s : Shared} {outer : List Env} {a : ArA} {l : LxA} {ms : List (List Nat × Nat)} {text : List Nat} {env : Env} {ρ : Rho} {U : Res} {es : List Evt} {F b : Addr} {tk : Tok}
theorem k35 (w : World) : ∃ o fd, (KK w).lookup 35 = some o ∧ o.data = .func fd := ⟨_, _, rfl, rfl⟩
theorem x_next {Q : Option Value → Shared → Prop} {E : Value → Shared → Prop} (c : TokCtx w A X₀ X s₀ outer a l ms text env ((It l F b tk).and (Pb l []))) (hsuf : Suf text es) (ac : Act w (Lex w a l ms text [] []).fp X s₀ env ρ ((Lx w a l ms text es).and ((It l F b tk).and (Pb l []))) s)
    (h0 : es = [] → ∀ s', Act w (Lex w a l ms text [] []).fp X s₀ env ρ ((Lx w a l ms text []).and ((ItE F).and (Pb l []))) s' → Q none s')
    (h1 : ∀ ch r, es = .ch ch :: r → ∀ v s', Act w (Lex w a l ms text [] []).fp X s₀ env ρ ((Lx w a l ms text r).and ((It l F b tk).and (Pb l []))) s' → Is X s'.heap v (.str (S [ch])) → Q (some v) s')
    (h2 : ∀ k r, es = .bad k :: r → ∀ ev s', Flown (Lex w a l ms text r []) X (env :: outer) (bad ++ [letters.getD k 0]) s₀ s' ev → E ev s') :
    wpAny (model PR w) (A.deeper env) (pyNext (.ref F)) Q E s := by
  obtain ⟨_, ⟨f1, f2, f3⟩, _⟩ := ac.wh
  obtain ⟨o35, fd35, e35, d35⟩ := k35 w
  have fo := c.frOk ac
  refine it_next (l := l) (by exact c.ok.hh) f1 f2 ⟨o35, fd35, ac.Gl.K _ _ e35, d35⟩ ?_
  refine codeAny_mono (rc_act (A2 := (A.deeper env).in1) (Q := fun v s' => (es = [] ∧ Act w (Lex w a l ms text [] []).fp X s₀ env ρ ((Lx w a l ms text []).and ((It l F b tk).and (Pb l []))) s' ∧ Is X s'.heap v (.str (S []))) ∨
      ∃ ch r, es = .ch ch :: r ∧ Act w (Lex w a l ms text [] []).fp X s₀ env ρ ((Lx w a l ms text r).and ((It l F b tk).and (Pb l []))) s' ∧ Is X s'.heap v (.str (S [ch])))
    (E := fun ev s' => ∃ k r, es = .bad k :: r ∧ Flown (Lex w a l ms text r []) X (env :: outer) (bad ++ [letters.getD k 0]) s₀ s' ev) c hsuf ac fo.fr c.ok.hh (by have := c.room; show A.depth + 1 + 3 < _; omega)
    (fun he v s' a i => .inl ⟨he, a, i⟩) (fun ch r he v s' a i => .inr ⟨ch, r, he, a, i⟩) (fun k r he ev s' fl => ⟨k, r, he, fl⟩)) fun r s' hr => ?_
  cases r with
  | error ev =>
    obtain ⟨k, r, he, fl⟩ := hr
    have hv : ∀ b, (Lex w a l ms text r []).fp b → ¬ GA b := fun b z => (c.ok.hX b z).2.1
    exact ⟨fun Q E' q => fl.not_stop c.ok.gl hv c.ng q, fun Q E' q => fl.not_stop c.ok.gl hv c.ng q, h2 k r he ev s' fl⟩
  | ok fl =>
    cases fl with
    | ret v =>
      rcases hr with ⟨he, a', i⟩ | ⟨ch, r, he, a', i⟩
      · obtain ⟨_, ⟨g1, g2, g3⟩, _⟩ := a'.wh
        cases i with | str _ t =>
        refine ⟨g1, g2, ⟨o35, fd35, a'.Gl.K _ _ e35, d35⟩, true, ⟨fun Q E' q => eqBool_str (by rw [show (S [] == S []) = true from by rw [S_beq]; rfl]; exact q), ⟨(fun z => by cases z), fun _ h' tk' hk hE => ?_⟩⟩⟩
        have wF := a'.wfx F (.inr (.inl rfl))
        have dF := c.du F (.inl rfl)
        have dP : l.pb ≠ F := fun q => by
          have h3 := c.ok.hX l.pb (.inr rfl)
          obtain ⟨o, e⟩ := a'.xin _ (c.xx _ h3.1)
          have := a'.wh.2.2
          obtain ⟨vs, n, e1, _⟩ := this
          rw [q, g1] at e1
          have e2 := congrArg Obj.cls (Option.some.inj e1)
          injection e2 with e3
          exact absurd e3 (by decide)
        have ps : Passes X s'.heap X h' := fun x o nx e => ⟨nx, hk x o (fun z => nx (z ▸ wF.1)) e⟩
        refine h0 he _ (a'.move (X' := X) (W' := (Lx w a l ms text []).and ((ItE F).and (Pb l []))) (h' := h') (tk := tk') (fun x => x = F) hk (fun x z => z ▸ wF.1) (fun x z => z ▸ wF.2.1) (fun x z => z ▸ wF.2.2) (fun _ z => z) (fun _ z => .inl z) (fun x q r => r.elim (fun n => absurd q n) fun z => ⟨_, z ▸ hE⟩)
          (fun x z => a'.wfx x z) ⟨?_, hE, ?_⟩)
        · refine (Lx w a l ms text []).stable _ _ _ _ a'.wh.1 (fun x o f e => hk x o (fun z => ?_) e) ps
          rw [z] at f
          rcases f with f | f | f
          · exact dF.1 f
          · exact dF.2.1 f
          · exact f
        · exact (Pb l []).stable _ _ _ _ a'.wh.2.2 (fun x o f e => hk x o (fun z => dP ((show x = l.pb from f) ▸ z)) e) ps
      · obtain ⟨_, ⟨g1, g2, g3⟩, _⟩ := a'.wh
        have i' := i
        cases i with | str _ t =>
        exact ⟨g1, g2, ⟨o35, fd35, a'.Gl.K _ _ e35, d35⟩, false, ⟨fun Q E' q => eqBool_str (by rw [show (S [] == S [ch]) = false from by rw [S_beq]; rfl]; exact q), ⟨fun _ => h1 ch r he _ s' a' i', fun z => by cases z⟩⟩⟩
    | _ => exact hr.elim
theorem x_ended {Q : Option Value → Shared → Prop} {E : Value → Shared → Prop} (hh : A.handled = none) {Y : Addr → Prop} {V : Res} (ac : Act w Y X s₀ env ρ (V.and ((ItE F).and U)) s)
    (h : ∀ s', Act w Y X s₀ env ρ (V.and ((ItE F).and U)) s' → Q none s') : wpAny (model PR w) A (pyNext (.ref F)) Q E s := by
  refine it_ended hh ac.wh.2.1 fun h' e => h _ ?_
  have := ac.kp (s' := { s with heap := h' }) (Kp.mk (t := s.toks) e)
  exact this
/-- self._read_char() -/
theorem x_read {Q : Value → Shared → Prop} {E : Value → Shared → Prop} {p p' p'' : Pos} {pl : Sem Bool} (c : TokCtx w A X₀ X s₀ outer a l ms text env U) (hsuf : Suf text es) (ac : Act w (Lex w a l ms text [] []).fp X s₀ env ρ ((Lx w a l ms text es).and U) s) (hn : ρ.lookup ("self" : Str) = some (.raw (.ref l.x))) (hkn : Known env "self" = true)
    (h0 : es = [] → ∀ v s', Act w (Lex w a l ms text [] []).fp X s₀ env ρ ((Lx w a l ms text []).and U) s' → Is X s'.heap v (.str (S [])) → Q v s')
    (h1 : ∀ ch r, es = .ch ch :: r → ∀ v s', Act w (Lex w a l ms text [] []).fp X s₀ env ρ ((Lx w a l ms text r).and U) s' → Is X s'.heap v (.str (S [ch])) → Q v s')
    (h2 : ∀ k r, es = .bad k :: r → ∀ ev s', Flown (Lex w a l ms text r []) X (env :: outer) (bad ++ [letters.getD k 0]) s₀ s' ev → E ev s')
    (he : eval (.Call (.Attribute (.Name "self" p) "_read_char" p') [] [] p'') env = (do
      let ov ← eval (.Name "self" p) env
      standAt p'.atName
      let (f, first) ← holding [ov] (getMethod ov "_read_char" pl)
      callWith p'' f first (backTo p'' (starEach [] env)) [])) :
    wpAny (model PR w) (A.deeper env) (eval (.Call (.Attribute (.Name "self" p) "_read_char" p') [] [] p'') env) Q E s := by
  obtain ⟨o35, fd35, e35, d35⟩ := k35 w
  refine MethodCall_ (pl := pl) ((ac.ev hn c.fn hkn (by decide) (by decide)).run s _ _ (Ext.refl _) fun ov s₂ k₂ i₂ => ?_) he
  cases i₂
  have a₂ := ac.kp k₂
  have fo := c.frOk a₂
  refine lx_meth a₂.Gl a₂.wh.1.2.2 a₂.wh.1.2.1 (ns51_rc w) e35 (by rw [show (KK w).lookup 35 = _ from rfl] at e35; cases e35; rfl) ob_rc (by decide) ?_
  refine callWith_meth0 d35 (a₂.Gl.K _ _ e35) (wpAny_call ?_)
  exact rc_act c hsuf a₂ fo.fr c.ok.hh (by have := c.room; show A.depth + 1 + 3 < _; omega) h0 h1 h2
end
end
section
open PySem PySem.W PyProof PyProof.Rows
inductive TokR where
  | word (t : List Nat) (r : List Evt)
  | err (k : Nat) (r : List Evt)
def wsT : List Nat := [10, 9, 13, 32]
/-- within a word; q: it is quoted -/
def tkIn (q : Bool) : List Nat → List Evt → TokR
  | acc, [] => .word acc []
  | _, .bad k :: r => .err k r
  | acc, .ch c :: r =>
    if (if q then c == 34 else decide (c ∈ wsT)) then .word acc r
    else if c == 92 then (match r with
      | [] => .word acc []
      | .bad k :: r' => .err k r'
      | .ch d :: r' => tkIn q (acc ++ [d]) r')
    else tkIn q (acc ++ [c]) r
def tkSkip : List Evt → TokR
  | [] => .word [] []
  | .bad k :: r => .err k r
  | .ch c :: r =>
    if decide (c ∈ wsT) then tkSkip r
    else if c == 34 then tkIn true [] r
    else if c == 92 then (match r with
      | [] => .word [] []
      | .bad k :: r' => .err k r'
      | .ch d :: r' => tkIn false [d] r')
    else tkIn false [c] r
theorem tkIn_ch (q : Bool) (acc : List Nat) (c : Nat) (r : List Evt) : tkIn q acc (.ch c :: r) = if (if q then c == 34 else decide (c ∈ wsT)) then .word acc r
    else if c == 92 then (match r with
      | [] => .word acc []
      | .bad k :: r' => .err k r'
      | .ch d :: r' => tkIn q (acc ++ [d]) r')
    else tkIn q (acc ++ [c]) r := by
  rcases r with _ | ⟨_ | _, r⟩ <;> simp only [tkIn]
theorem tkSkip_ch (c : Nat) (r : List Evt) : tkSkip (.ch c :: r) = if decide (c ∈ wsT) then tkSkip r
    else if c == 34 then tkIn true [] r
    else if c == 92 then (match r with
      | [] => .word [] []
      | .bad k :: r' => .err k r'
      | .ch d :: r' => tkIn false [d] r')
    else tkIn false [c] r := by
  rcases r with _ | ⟨_ | _, r⟩ <;> simp only [tkSkip]
theorem known_of {env : Env} {x : Str} (h : Bindable env x = true) : Known env x = true := by unfold Known; unfold Bindable at h; rw [h]; rfl
/-- the name bindings of get_token -/
structure TokEnv (env : Env) : Prop where
  ch : Bindable env "ch" = true
  tok : Bindable env "token" = true
  slf : Known env "self" = true
  fi : Bindable env "fiter" = true
def inBody (test : Expr) (p1 p2 p3 p4 p5 p6 p7 p8 p9 p10 p11 p12 p13 p14 p15 : Pos) : List Stmt :=
  [.If test [.Return (some (.Name "token" p1)) p2] [.If (.Compare (.Name "ch" p3) [.Eq] [.Constant (.str "\\") 0 p4] p5) [.Assign [.Name "ch" p6] (.Call (.Attribute (.Name "self" p7) "_read_char" p8) [] [] p9) p10] [] p11] p12,
    .AugAssign (.Name "token" p13) .Add (.Name "ch" p14) p15]
def tokRho (l : LxA) (F : Addr) (acc : List Nat) : Rho := [("token", .str (S acc)), ("fiter", .raw (.ref F)), ("self", .raw (.ref l.x))]
theorem in_loop {w : World} {A : Around} {X₀ X : Addr → Prop} {s₀ s : Shared} {outer : List Env} {a : ArA} {l : LxA} {ms : List (List Nat × Nat)} {text : List Nat} {env : Env} {es : List Evt} {F b : Addr} {tk : Tok}
    {Q : Flow → Shared → Prop} {E : Value → Shared → Prop} {test : Expr} {p1 p2 p3 p4 p5 p6 p7 p8 p9 p10 p11 p12 p13 p14 p15 q1 q2 q3 : Pos} {pl : Sem Bool} {rest : List Stmt} {q : Bool} {acc : List Nat} {R : TokR}
    (c : TokCtx w A X₀ X s₀ outer a l ms text env ((It l F b tk).and (Pb l []))) (te : TokEnv env) (hsuf : Suf text es) (hlen : acc.length + es.length ≤ 100000)
    (ac : Act w (Lex w a l ms text [] []).fp X s₀ env (tokRho l F acc) ((Lx w a l ms text es).and ((It l F b tk).and (Pb l []))) s) (hR : tkIn q acc es = R)
    (htst : ∀ acc' c' es' s', Act w (Lex w a l ms text [] []).fp X s₀ env (("ch", .str (S [c'])) :: tokRho l F acc') ((Lx w a l ms text es').and ((It l F b tk).and (Pb l []))) s' → EvT w (A.deeper env) env s'.heap test (if q then c' == 34 else decide (c' ∈ wsT)))
    (hret : ∀ t r v s', R = .word t r → Act w (Lex w a l ms text [] []).fp X s₀ env [] ((Lx w a l ms text r).and ((It l F b tk).and (Pb l []))) s' → Is X s'.heap v (.str (S t)) → Q (.ret v) s')
    (hnext : ∀ t s', R = .word t [] → Act w (Lex w a l ms text [] []).fp X s₀ env (tokRho l F t) ((Lx w a l ms text []).and ((ItE F).and (Pb l []))) s' → wpAny (model PR w) (A.deeper env) (execs rest env) Q E s')
    (herr : ∀ k r ev s', R = .err k r → Held (Lex w a l ms text r []) X (env :: outer) env.locals (bad ++ [letters.getD k 0]) s₀ s' ev → E ev s')
    (he : eval (.Call (.Attribute (.Name "self" p7) "_read_char" p8) [] [] p9) env = (do
      let ov ← eval (.Name "self" p7) env
      standAt p8.atName
      let (f, first) ← holding [ov] (getMethod ov "_read_char" pl)
      callWith p9 f first (backTo p9 (starEach [] env)) [])) :
    wpAny (model PR w) (A.deeper env) (execs (.For (.Name "ch" q1) (.Name "fiter" q2) (inBody test p1 p2 p3 p4 p5 p6 p7 p8 p9 p10 p11 p12 p13 p14 p15) [] q3 :: rest) env) Q E s := by
  have hfr := (c.frOk ac).fr
  refine wpAny_execs_cons (wpAny_For ((ac.ev (x := "fiter") rfl c.fn (known_of te.fi) (by decide) (by decide)).run s _ _ (Ext.refl _) fun v s₁ k₁ i₁ => ?_) (fun _ => rfl))
  cases i₁
  have a₁ := ac.kp k₁
  obtain ⟨f1, _⟩ := a₁.wh.2.1
  refine it_self f1 rfl ?_
  refine codeAny_forLoop_any (R := fun r s' => match r with
      | .ok f => (match f with | .next => wpAny (model PR w) (A.deeper env) (execs rest env) Q E s' | f => Q f s')
      | .error e => cameBackBy (model PR w) (A.deeper env) env E e s') (fun n s' => ∃ acc' es', n = es'.length ∧ Suf text es' ∧ acc'.length + es'.length ≤ 100000 ∧ tkIn q acc' es' = R ∧ Act w (Lex w a l ms text [] []).fp X s₀ env (tokRho l F acc') ((Lx w a l ms text es').and ((It l F b tk).and (Pb l []))) s') ?_ es.length ⟨acc, es, rfl, hsuf, hlen, hR, a₁⟩
  rintro n s' ⟨acc', es', rfl, suf', len', hR', a'⟩
  have err : ∀ k r ev s'', R = .err k r → Flown (Lex w a l ms text r []) X (env :: outer) (bad ++ [letters.getD k 0]) s₀ s'' ev → notedBy (model PR w) (A.deeper env) env (fun e s' => cameBackBy (model PR w) (A.deeper env) env E e s') ev s'' := fun k r ev s'' e fl =>
    fl.note hfr c.fr fun s3 hd => hd.came c.fr fun s4 hd => herr k r ev s4 e hd
  refine x_next c suf' a' ?_ ?_ ?_
  · intro e s'' a''
    subst e
    exact x_nil (hnext acc' s'' hR'.symm a'')
  · intro ch r e v s'' a'' iv
    subst e
    refine wpAny_pure ?_
    refine wpAny_assign_Name (x_store a'' iv c.fn te.ch fun s₂ a₂ => ?_)
    have sufr := suf'.ch.1
    simp only [List.length_cons] at len'
    have tail : ∀ t r' s₃, Suf text r' → r'.length ≤ r.length → t.length ≤ 1 → tkIn q (acc' ++ t) r' = R → Act w (Lex w a l ms text [] []).fp X s₀ env (("ch", .str (S t)) :: tokRho l F acc') ((Lx w a l ms text r').and ((It l F b tk).and (Pb l []))) s₃ →
        wpAny (model PR w) (A.deeper env) (execs [.AugAssign (.Name "token" p13) .Add (.Name "ch" p14) p15] env) (fun f s₃ => match f with
            | .next | .cont => ∃ m, m < r.length + 1 ∧ ∃ acc' es', m = es'.length ∧ Suf text es' ∧ acc'.length + es'.length ≤ 100000 ∧ tkIn q acc' es' = R ∧ Act w (Lex w a l ms text [] []).fp X s₀ env (tokRho l F acc') ((Lx w a l ms text es').and ((It l F b tk).and (Pb l []))) s₃
            | .brk => wpAny (model PR w) (A.deeper env) (execs rest env) Q E s₃
            | .ret v => Q (.ret v) s₃) (notedBy (model PR w) (A.deeper env) env (fun e s' => cameBackBy (model PR w) (A.deeper env) env E e s')) s₃ := by
      intro t r' s₃ suf₃ hl₃ ht hR₃ a₃
      refine x_aug (x := "token") (o := .str (S acc')) (av := .str (S t)) (r := .str (S (acc' ++ t))) a₃ rfl (a₃.ev rfl c.fn (known_of te.ch) (by decide) (by decide)) (o_iaddS' (by omega)) c.fn te.tok (by decide) fun s₄ a₄ => x_nil ?_
      exact ⟨r'.length, by omega, acc' ++ t, r', rfl, suf₃, by rw [List.length_append]; omega, hR₃, a₄.sub ⟨rfl, rfl, rfl, trivial⟩⟩
    refine x_if a₂ (htst acc' ch r s₂ a₂) (fun ht s₃ a₃ => ?_) (fun ht s₃ a₃ => ?_)
    · have hR₃ : R = .word acc' r := by
        rw [← hR', tkIn_ch, if_pos ht]
      refine x_ret (av := .str (S acc')) a₃ (a₃.ev rfl c.fn (known_of te.tok) (by decide) (by decide)) fun v s₄ a₄ i₄ => ?_
      exact hret acc' r v s₄ hR₃ (a₄.sub trivial) i₄
    · have ht' : ¬ (if q then ch == 34 else decide (ch ∈ wsT)) = true := by rw [ht]; decide
      rw [tkIn_ch, if_neg ht'] at hR'
      refine x_if (c := ch == 92) a₃ (EvT.cast (EvT.cmp (a₃.ev rfl c.fn (known_of te.ch) (by decide) (by decide)) (Ev.strS (l := [92]) rfl) o_eqS) (S1_beq ch 92)) (fun hb s₄ a₄ => ?_) (fun hb s₄ a₄ => ?_)
      · rw [if_pos hb] at hR'
        refine wpAny_execs_cons (wpAny_Assign_Name (x_read c sufr a₄ rfl te.slf ?_ ?_ ?_ he) rfl)
        · intro e v₅ s₅ a₅ i₅
          subst e
          refine x_store a₅ i₅ c.fn te.ch fun s₆ a₆ => x_nil (x_nil (tail [] [] s₆ sufr (Nat.le_refl _) (by simp) ?_ (a₆.sub ⟨rfl, rfl, rfl, rfl, trivial⟩)))
          rw [List.append_nil]
          exact hR'
        · intro d r' e v₅ s₅ a₅ i₅
          subst e
          exact x_store a₅ i₅ c.fn te.ch fun s₆ a₆ => x_nil (x_nil (tail [d] r' s₆ sufr.ch.1 (by simp) (by simp) hR' (a₆.sub ⟨rfl, rfl, rfl, rfl, trivial⟩)))
        · intro k r' e ev s₅ fl
          subst e
          exact err k r' ev s₅ hR'.symm fl
      · rw [if_neg (by rw [hb]; decide)] at hR'
        exact x_nil (x_nil (tail [ch] r s₄ sufr (Nat.le_refl _) (by simp) hR' a₄))
  · intro k r e ev s'' fl
    subst e
    exact err k r ev s'' hR'.symm fl
end
section

open PySem PySem.W PyProof PyProof.Rows
section
variable {w : World} {A : Around} {Y X : Addr → Prop} {s₀ : Shared} {env : Env} {ρ : Rho} {W : Res} {s s' : Shared} {Q : Flow → Shared → Prop} {E : Value → Shared → Prop}
theorem Act.old (a : Act w Y X s₀ env ρ W s) {D : Addr} (hD : s.heap.get? D = none) : ¬ X D ∧ s₀.heap.get? D = none := by
  have hXD : ¬ X D := fun q => by obtain ⟨o, e⟩ := a.xin D q; rw [hD] at e; cases e
  refine ⟨hXD, ?_⟩
  cases e : s₀.heap.get? D with
  | none => rfl
  | some o =>
    have : ¬ Y D := fun y => hXD (a.yx D y)
    rw [a.keep D o this e] at hD; cases hD
/-- a new resource at fresh addresses -/
theorem Act.newRes (a : Act w Y X s₀ env ρ W s) {V : Res} (k : Kp s s') (hV : ∀ b, V.fp b → s.heap.get? b = none ∧ ∃ o, s'.heap.get? b = some o) (hh : V.holds (fun b => X b ∨ V.fp b) s'.heap) : Act w Y (fun b => X b ∨ V.fp b) s₀ env ρ (V.and W) s' := by
  obtain ⟨h', tk, rfl, ex⟩ := k
  have ps : Passes X s.heap (fun b => X b ∨ V.fp b) h' := fun b o nx e => ⟨fun q => q.elim nx fun z => (by rw [(hV b z).1] at e; cases e), ex b o e⟩
  refine a.move (fun _ => False) (fun b o _ e => ex b o e) (fun _ q => q.elim) (fun _ q => q.elim) (fun _ q => q.elim) (fun _ q => .inl q) (fun b q => q.imp id fun z => (hV b z).1) (fun b q r => ?_) (fun b q => ?_) ⟨hh, W.stable _ _ _ _ a.wh (fun b o _ e => ex b o e) ps⟩
  · rcases q with q | q
    · exact r.elim (fun n => absurd q n) fun z => z.elim
    · exact (hV b q).2
  · rcases q with q | q
    · have := a.old (hV b q).1
      exact ⟨.inr q, fun z => this.1 (a.own _ z), .inr this.2⟩
    · have := a.wfx b q
      exact ⟨.inl this.1, this.2⟩
theorem Heap.size_none (h : Heap) : h.get? h.objs.size = none := by
  cases e : h.get? h.objs.size with
  | none => rfl
  | some o => exact absurd (Heap.lt_size e) (Nat.lt_irrefl _)
/-- fiter = iter(self._read_char, '') -/
theorem x_iter {l : LxA} {fR : Addr} {line : Nat} {V : Res} {p1 p2 p3 p4 p5 p6 p7 : Pos} {rest : List Stmt} (a : Act w Y X s₀ env ρ (V.and ((LexN l line).and (LexS l fR))) s) (hn : ρ.lookup ("self" : Str) = some (.raw (.ref l.x))) (hf : env.scope.kind = .function) (hb : Bindable env "fiter" = true) (hs : Known env "self" = true)
    (hi : env.kindOf "iter" = some .globalImplicit) (hg : env.globals = mainGlobals) (hbu : env.builtins = builtinsNs)
    (hc : eval (.Call (.Name "iter" p1) [.Attribute (.Name "self" p2) "_read_char" p3, .Constant (.str "") 0 p4] [] p5) env = (do callWith p5 (← eval (.Name "iter" p1) env) [] (backTo p5 (starEach [.Attribute (.Name "self" p2) "_read_char" p3, .Constant (.str "") 0 p4] env)) (backToKw p5 (keywordEach [] env))))
    (k : ∀ F b tk s', ¬ X F → s₀.heap.get? F = none → Act w Y (fun x => X x ∨ x = F) s₀ env (("fiter", .raw (.ref F)) :: ρ) ((It l F b tk).and (V.and ((LexN l line).and (LexS l fR)))) s' → wpAny (model PR w) A (execs rest env) Q E s') :
    wpAny (model PR w) A (execs (.Assign [.Name "fiter" p6] (.Call (.Name "iter" p1) [.Attribute (.Name "self" p2) "_read_char" p3, .Constant (.str "") 0 p4] [] p5) p7 :: rest) env) Q E s := by
  refine wpAny_execs_cons (wpAny_Assign_Name (Call_ ((Ev.iter (X := X) a.Gl hf hg hbu hi).run s _ _ (Ext.refl _) fun v s₁ k₁ i₁ => ?_) hc) rfl)
  cases i₁
  have a₁ := a.kp k₁
  refine callWith_builtin1 (args_cons (Attribute_name ((a₁.ev hn hf hs (by decide) (by decide)).run s₁ _ _ (Ext.refl _) fun v s₂ k₂ i₂ => ?_)) rfl) rfl rfl
  cases i₂
  have a₂ := a₁.kp k₂
  refine bm_get a₂.Gl a₂.wh.2.2 a₂.wh.2.1 ?_
  refine args_cons (PySem.Calls.Constant_str (args_nil ?_)) rfl
  have e1 := Ext.push s₂.heap (methodObj (.ref 35) (.ref l.x))
  have hb1 : (s₂.heap.push (methodObj (.ref 35) (.ref l.x))).get? s₂.heap.objs.size = some (methodObj (.ref 35) (.ref l.x)) := Heap.get?_push_size _ rfl
  refine it_call (l := l) (b := s₂.heap.objs.size) hb1 ?_
  have a₃ := a₂.kp (Kp.mk (s := s₂) (h := s₂.heap.push (methodObj (.ref 35) (.ref l.x))) (t := s₂.toks + 1 + 1) e1)
  have hbn : ¬ X s₂.heap.objs.size := (a₂.old (Heap.size_none _)).1
  have hne : s₂.heap.objs.size ≠ (s₂.heap.push (methodObj (.ref 35) (.ref l.x))).objs.size := Nat.ne_of_lt (Heap.lt_size hb1)
  have fin := a₃.newRes (V := It l (s₂.heap.push (methodObj (.ref 35) (.ref l.x))).objs.size s₂.heap.objs.size (s₂.toks + 1)) (Kp.mk (h := (s₂.heap.push (methodObj (.ref 35) (.ref l.x))).push (itObj s₂.heap.objs.size (.str (S []) (s₂.toks + 1)))) (t := s₂.toks + 1 + 1) (Ext.push _ _))
    (fun b z => by
      have z : b = (s₂.heap.push (methodObj (.ref 35) (.ref l.x))).objs.size := z
      rw [z]
      exact ⟨Heap.size_none _, _, Heap.get?_push_size _ rfl⟩)
    ⟨Heap.get?_push_size _ rfl, Ext.push _ _ _ _ hb1, fun z => z.elim hbn hne⟩
  have ho := a₃.old (Heap.size_none (s₂.heap.push (methodObj (.ref 35) (.ref l.x))))
  exact x_store fin (.raw _) hf hb fun s' a' => k _ _ _ s' ho.1 ho.2 a'
/-- a list's truth -/
theorem t_list {D : Addr} {vs : List Value} {n : Nat} {Q : Bool → Shared → Prop} (ho : s.heap.get? D = some (lstObj vs n)) (hz : vs.length ≤ 1000000) (h : ∀ s', Kp s s' → Q (!vs.isEmpty) s') : wpAny (model PR w) A (truthy (.ref D)) Q E s := by
  refine wpAny_truthy_list (items := vs.toArray) ⟨_, ho, rfl, n, rfl⟩ (by rw [List.size_toArray]; omega) ?_
  have := h _ (Kp.tok s (s.toks + 1 + 1))
  simpa using this
end
end
section
open PySem PySem.W PyProof PyProof.Rows
def stepTok (es : List Evt) : List (List Nat) → TokR × List (List Nat)
  | t :: pb => (.word t es, pb)
  | [] => (tkSkip es, [])
theorem Act.swap {w : World} {Y X : Addr → Prop} {s₀ : Shared} {env : Env} {ρ : Rho} {V₁ V₂ : Res} {s : Shared} (a : Act w Y X s₀ env ρ (V₁.and V₂) s) : Act w Y X s₀ env ρ (V₂.and V₁) s :=
  a.wk (fun _ q => q.elim .inr .inl) fun q => ⟨q.2, q.1⟩
theorem EvT.listTruth {w : World} {A : Around} {env : Env} {X : Addr → Prop} {h : Heap} {e : Expr} {D : Addr} {vs : List Value} {n : Nat} (x : Ev w A env X h e (.raw (.ref D))) (ho : h.get? D = some (lstObj vs n)) (hz : vs.length ≤ 1000000)
    (he : ∀ whole, isTrue e env whole = (do let v ← whole; standAt e.pos; holding [v] (truthy v)) := by intro _; rfl) : EvT w A env h e (!vs.isEmpty) := ⟨fun s _ _ hs hQ => by
  refine isTrue_plain (x.run s _ _ hs fun v s₁ k₁ i₁ => ?_) (he _)
  cases i₁
  exact t_list ((hs.trans k₁.ext) _ _ ho) hz fun s' k => hQ s' (k₁.trans k)⟩
theorem ga_none {w : World} {h : Heap} (g : Gl w h) {b : Addr} (hb : h.get? b = none) : ¬ GA b := fun z => by
  obtain ⟨o, e⟩ := g.live z
  rw [hb] at e; cases e
noncomputable def tokTail (w : World) : List Stmt := match (KK w).lookup 42 with
  | some ⟨_, _, .func fd, _⟩ => (match fd.body with | .stmts b => b.drop 3 | _ => [])
  | _ => []
/-- the part of the turn that reads a bare word -/
noncomputable def tokWord (w : World) : List Stmt := match tokTail w with
  | .For _ _ (_ :: .If _ _ (_ :: b) _ :: _) _ _ :: _ => b
  | _ => []
theorem tok_main {w : World} {A : Around} {X₀ X : Addr → Prop} {s₀ s : Shared} {outer : List Env} {a : ArA} {l : LxA} {ms : List (List Nat × Nat)} {text : List Nat} {env : Env} {es : List Evt} {F b : Addr} {tk : Tok} {Q : Flow → Shared → Prop} {E : Value → Shared → Prop}
    (c : TokCtx w A X₀ X s₀ outer a l ms text env ((It l F b tk).and (Pb l []))) (te : TokEnv env) (hsuf : Suf text es) (hlen : es.length ≤ 100000)
    (ac : Act w (Lex w a l ms text [] []).fp X s₀ env (tokRho l F []) ((Lx w a l ms text es).and ((It l F b tk).and (Pb l []))) s)
    (hret : ∀ t r v s' (U : Res), tkSkip es = .word t r → Act w (Lex w a l ms text [] []).fp X s₀ env [] ((Lx w a l ms text r).and (U.and (Pb l []))) s' → Is X s'.heap v (.str (S t)) → Q (.ret v) s')
    (herr : ∀ k r ev s', tkSkip es = .err k r → Held (Lex w a l ms text r []) X (env :: outer) env.locals (bad ++ [letters.getD k 0]) s₀ s' ev → E ev s') :
    wpAny (model PR w) (A.deeper env) (execs (tokTail w) env) Q E s := by
  rw [show tokTail w = _ :: _ :: [] from rfl]
  have hfr := (c.frOk ac).fr
  have done : ∀ t s', tkSkip es = .word t [] → Act w (Lex w a l ms text [] []).fp X s₀ env (tokRho l F t) ((Lx w a l ms text []).and ((ItE F).and (Pb l []))) s' → ∀ p p', wpAny (model PR w) (A.deeper env) (execs [.Return (some (.Name "token" p)) p'] env) Q E s' := fun t s' h a' p p' =>
    x_ret (av := .str (S t)) a' (a'.ev rfl c.fn (known_of te.tok) (by decide) (by decide)) fun v s₄ a₄ i₄ => hret t [] v s₄ (ItE F) h (a₄.sub trivial) i₄
  refine wpAny_execs_cons (wpAny_For ((ac.ev (x := "fiter") rfl c.fn (known_of te.fi) (by decide) (by decide)).run s _ _ (Ext.refl _) fun v s₁ k₁ i₁ => ?_) (fun _ => rfl))
  cases i₁
  have a₁ := ac.kp k₁
  obtain ⟨f1, _⟩ := a₁.wh.2.1
  refine it_self f1 rfl ?_
  refine codeAny_forLoop_any (fun n s' => (∃ es', n = es'.length + 1 ∧ Suf text es' ∧ es'.length ≤ 100000 ∧ tkSkip es' = tkSkip es ∧ Act w (Lex w a l ms text [] []).fp X s₀ env (tokRho l F []) ((Lx w a l ms text es').and ((It l F b tk).and (Pb l []))) s') ∨
    ∃ t, n = 0 ∧ tkSkip es = .word t [] ∧ Act w (Lex w a l ms text [] []).fp X s₀ env (tokRho l F t) ((Lx w a l ms text []).and ((ItE F).and (Pb l []))) s') ?_ (es.length + 1) (.inl ⟨es, rfl, hsuf, hlen, rfl, a₁⟩)
  rintro n s' (⟨es', rfl, suf', len', hR', a'⟩ | ⟨t, rfl, hR', a'⟩)
  case inr =>
    exact x_ended (by exact c.ok.hh) a' fun s'' a'' => x_nil (done t s'' hR' a'' _ _)
  case inl =>
    have err : ∀ k r ev s'', tkSkip es = .err k r → Flown (Lex w a l ms text r []) X (env :: outer) (bad ++ [letters.getD k 0]) s₀ s'' ev → notedBy (model PR w) (A.deeper env) env (fun e s' => cameBackBy (model PR w) (A.deeper env) env E e s') ev s'' := fun k r ev s'' e fl =>
      fl.note hfr c.fr fun s3 hd => hd.came c.fr fun s4 hd => herr k r ev s4 e hd
    have err2 : ∀ k r ev s'', tkSkip es = .err k r → Held (Lex w a l ms text r []) X (env :: outer) env.locals (bad ++ [letters.getD k 0]) s₀ s'' ev → notedBy (model PR w) (A.deeper env) env (fun e s' => cameBackBy (model PR w) (A.deeper env) env E e s') ev s'' := fun k r ev s'' e hd =>
      hd.note c.fr fun s3 hd => hd.came c.fr fun s4 hd => herr k r ev s4 e hd
    refine x_next c suf' a' ?_ ?_ ?_
    · intro e s'' a''
      subst e
      exact x_nil (done [] s'' hR'.symm a'' _ _)
    · intro ch r e v s'' a'' iv
      subst e
      refine wpAny_pure ?_
      refine wpAny_assign_Name (x_store a'' iv c.fn te.ch fun s₂ a₂ => ?_)
      have sufr := suf'.ch.1
      simp only [List.length_cons] at len'
      rw [tkSkip_ch] at hR'
      refine x_if a₂ (EvT.cmp (a₂.ev rfl c.fn (known_of te.ch) (by decide) (by decide)) (Ev.sWs a₂.Gl a₂.wh.1.2.2 a₂.wh.1.2.1 (a₂.ev rfl c.fn te.slf (by decide) (by decide))) o_inS) (fun ht s₃ a₃ => ?kt) (fun ht s₃ a₃ => ?kf)
      case kt =>
        rw [S_in] at ht
        rw [if_pos (show decide (ch ∈ wsT) = true from ht)] at hR'
        exact x_cont ⟨r.length + 1, by simp, .inl ⟨r, rfl, sufr, by omega, hR', a₃.sub ⟨rfl, rfl, rfl, trivial⟩⟩⟩
      case kf =>
        rw [S_in] at ht
        rw [if_neg (show ¬ decide (ch ∈ wsT) = true by rw [show decide (ch ∈ wsT) = false from ht]; decide)] at hR'
        refine x_nil ?_
        refine x_if (c := ch == 34) a₃ (EvT.cast (EvT.cmp (a₃.ev rfl c.fn (known_of te.ch) (by decide) (by decide)) (Ev.strS (l := [34]) rfl) o_eqS) (S1_beq ch 34)) (fun hb s₄ a₄ => ?kq) (fun hb s₄ a₄ => ?kb)
        case kq =>
          rw [if_pos hb] at hR'
          refine in_loop (q := true) (acc := []) (R := tkSkip es) (pl := _) c te sufr (by simp; omega) (a₄.sub ⟨rfl, rfl, rfl, trivial⟩) hR' (fun acc' c' es' s' a => ?_) (fun t r v s' h a i => ?_) (fun t s' h a => ?_) (fun k r ev s' h hd => ?_) rfl
          · refine EvT.cast (EvT.cmp (a.ev rfl c.fn (known_of te.ch) (by decide) (by decide)) (Ev.strS (l := [34]) rfl) o_eqS) (S1_beq c' 34)
          · exact hret t r v s' _ h a i
          · exact x_nil (x_nil ⟨0, by simp, .inr ⟨t, rfl, h, a⟩⟩)
          · exact err2 k r ev s' h hd
        case kb =>
          rw [if_neg (by rw [hb]; decide)] at hR'
          have tail : ∀ t r' s₅, Suf text r' → r'.length ≤ r.length → t.length ≤ 1 → tkIn false t r' = tkSkip es → Act w (Lex w a l ms text [] []).fp X s₀ env (("ch", .str (S t)) :: tokRho l F []) ((Lx w a l ms text r').and ((It l F b tk).and (Pb l []))) s₅ →
              wpAny (model PR w) (A.deeper env) (execs (tokWord w) env) (fun f s₃ => match f with
                | .next | .cont => ∃ m, m < (Evt.ch ch :: r).length + 1 ∧ ((∃ es', m = es'.length + 1 ∧ Suf text es' ∧ es'.length ≤ 100000 ∧ tkSkip es' = tkSkip es ∧ Act w (Lex w a l ms text [] []).fp X s₀ env (tokRho l F []) ((Lx w a l ms text es').and ((It l F b tk).and (Pb l []))) s₃) ∨
                    ∃ t, m = 0 ∧ tkSkip es = .word t [] ∧ Act w (Lex w a l ms text [] []).fp X s₀ env (tokRho l F t) ((Lx w a l ms text []).and ((ItE F).and (Pb l []))) s₃)
                | .brk => False
                | .ret v => Q (.ret v) s₃) (notedBy (model PR w) (A.deeper env) env (fun e s' => cameBackBy (model PR w) (A.deeper env) env E e s')) s₅ := by
            intro t r' s₅ suf₅ hl₅ ht₅ hR₅ a₅
            rw [show tokWord w = _ :: _ :: [] from rfl]
            refine x_aug (x := "token") (o := .str (S [])) (av := .str (S t)) (r := .str (S t)) a₅ rfl (a₅.ev rfl c.fn (known_of te.ch) (by decide) (by decide)) (o_iaddS' (x := []) (y := t) (by simp; omega)) c.fn te.tok (by decide) fun s₆ a₆ => ?_
            refine in_loop (q := false) (acc := t) (R := tkSkip es) (pl := _) c te suf₅ (by omega) (a₆.sub ⟨rfl, rfl, rfl, trivial⟩) hR₅ (fun acc' c' es' s' a => ?_) (fun t r v s' h a i => ?_) (fun t s' h a => ?_) (fun k r ev s' h hd => ?_) rfl
            · refine EvT.cast (EvT.cmp (a.ev rfl c.fn (known_of te.ch) (by decide) (by decide)) (Ev.sWs a.Gl a.wh.1.2.2 a.wh.1.2.1 (a.ev rfl c.fn te.slf (by decide) (by decide))) o_inS) (S_in c' [10, 9, 13, 32])
            · exact hret t r v s' _ h a i
            · exact x_nil ⟨0, by simp, .inr ⟨t, rfl, h, a⟩⟩
            · exact err2 k r ev s' h hd
          refine x_if (c := ch == 92) a₄ (EvT.cast (EvT.cmp (a₄.ev rfl c.fn (known_of te.ch) (by decide) (by decide)) (Ev.strS (l := [92]) rfl) o_eqS) (S1_beq ch 92)) (fun hc s₅ a₅ => ?_) (fun hc s₅ a₅ => ?_)
          · rw [if_pos hc] at hR'
            refine wpAny_execs_cons (wpAny_Assign_Name (x_read (pl := _) c sufr a₅ rfl te.slf ?_ ?_ ?_ rfl) rfl)
            · intro e v₆ s₆ a₆ i₆
              subst e
              refine x_store a₆ i₆ c.fn te.ch fun s₇ a₇ => x_nil ?_
              exact wpAny_mono (tail [] [] s₇ sufr (Nat.le_refl _) (by simp) hR' (a₇.sub ⟨rfl, rfl, rfl, rfl, trivial⟩)) (fun f s3 h => by
                cases f with
                | next => exact x_nil h
                | cont => exact h
                | brk => exact h.elim
                | ret v => exact h) fun _ _ h => h
            · intro d r' e v₆ s₆ a₆ i₆
              subst e
              refine x_store a₆ i₆ c.fn te.ch fun s₇ a₇ => x_nil ?_
              exact wpAny_mono (tail [d] r' s₇ sufr.ch.1 (by simp) (by simp) hR' (a₇.sub ⟨rfl, rfl, rfl, rfl, trivial⟩)) (fun f s3 h => by
                cases f with
                | next => exact x_nil h
                | cont => exact h
                | brk => exact h.elim
                | ret v => exact h) fun _ _ h => h
            · intro k r' e ev s₅ fl
              subst e
              exact err k r' ev s₅ hR'.symm fl
          · rw [if_neg (by rw [hc]; decide)] at hR'
            refine x_nil ?_
            exact wpAny_mono (tail [ch] r _ sufr (Nat.le_refl _) (by simp) hR' (a₅.sub ⟨rfl, rfl, rfl, rfl, trivial⟩)) (fun f s3 h => by
                cases f with
                | next => exact x_nil h
                | cont => exact h
                | brk => exact h.elim
                | ret v => exact h) fun _ _ h => h
    · intro k r e ev s'' fl
      subst e
      exact err k r ev s'' hR'.symm fl
theorem tok_code {w : World} {A : Around} {X₀ : Addr → Prop} {s : Shared} {outer : List Env} {a : ArA} {l : LxA} {ms : List (List Nat × Nat)} {text : List Nat} {es : List Evt} {pb : List (List Nat)} {Q : Value → Shared → Prop} {E : Value → Shared → Prop}
    (ok : LexOk w A X₀ s outer a l ms text) (room : A.depth + 5 < recursionLimit) (hsuf : Suf text es) (hel : es.length ≤ 100000) (hpl : pb.length ≤ 1000) (hL : (Lex w a l ms text es pb).holds X₀ s.heap)
    (hw : ∀ t r pb', stepTok es pb = (.word t r, pb') → ∀ v s', Did (Lex w a l ms text [] []).fp s s' → (Lex w a l ms text r pb').holds X₀ s'.heap → Is X₀ s'.heap v (.str (S t)) → Q v s')
    (he : ∀ k r pb', stepTok es pb = (.err k r, pb') → ∀ ev s', Flown (Lex w a l ms text r []) X₀ outer (bad ++ [letters.getD k 0]) s s' ev → E ev s') :
    codeAny (model PR w) A (.call (.ref 42) ⟨[.ref l.x], []⟩) (fun r s' => match r with | .ok (.ret v) => Q v s' | .ok _ => False | .error e => E e s') s := by
  refine enterC (names := ["self"]) (avs := [.raw (.ref l.x)]) (Y := (Lex w a l ms text [] []).fp) (W := Lex w a l ms text es pb) (ρc := []) (fo := ⟨_, _, .func (fnX _ _ _ _ _ [] _ _ _ _ _ _ _), _⟩) ok.gl ok.xi (ok.gl.K 42 _ rfl) rfl (codeRec_of ok.gl.K rfl) (by omega) rfl (by decide) rfl rfl rfl rfl rfl rfl (.cons (.raw _) .nil)
    ok.hX (fun b hb => hb) hL (fun x av e => by cases e) fun s₁ act => ?main
  have hnL := Heap.size_none s.heap
  have hx1 : ∀ b, X₀ b → (fun b => X₀ b ∨ b = s.heap.objs.size) b := fun b z => .inl z
  have less : ∀ {V : Res} {X' : Addr → Prop} {h' : Heap}, (∀ b, X₀ b → X' b) → V.holds X' h' → V.holds X₀ h' := fun {V} {X'} {h'} hx hv => V.stable _ _ h' h' hv (fun _ _ _ q => q) fun b o nx q => ⟨fun z => nx (hx b z), q⟩
  have lessI : ∀ {v : Value} {d : AV} {X' : Addr → Prop} {h' : Heap}, (∀ b, X₀ b → X' b) → Is X' h' v d → Is X₀ h' v d := fun hx hv => hv.pass fun b o nx q => ⟨fun z => nx (hx b z), q⟩
  have aN := act.wh.1.2.1
  have aS := act.wh.1.2.2
  obtain ⟨vs, n, ho, hi⟩ := id act.wh.2
  have hvl : vs.length = pb.length := by rw [hi.length, List.length_map]
  have hx52 := ok.x52
  refine x_if act (EvT.listTruth (Ev.sPb act.Gl aS aN (act.ev rfl rfl rfl rfl rfl)) ho (by omega)) (fun ht s₂ a₂ => ?kt) (fun ht s₂ a₂ => ?kf)
  case kt =>
    rcases pb with _ | ⟨t, pb⟩
    · have hv0 : vs = [] := List.length_eq_zero_iff.mp (by simpa using hvl)
      rw [hv0] at ht; cases ht
    refine wpAny_execs_cons (wpAny_Return_some (MethodCall_ (pl := _) ((Ev.sPb a₂.Gl a₂.wh.1.2.2 a₂.wh.1.2.1 (a₂.ev rfl rfl rfl rfl rfl)).run s₂ _ _ (Ext.refl _) fun v s₃ k₃ i₃ => ?_) rfl))
    cases i₃
    have a₃ := a₂.kp k₃
    obtain ⟨vs, n, ho, hi⟩ := id a₃.wh.2
    refine getMethod_list_of (items := vs.toArray) PySem.F.slot_list_pop PySem.F.type_list_pop ⟨_, ho, rfl, n, rfl⟩ ⟨_, ho, rfl⟩ (callWith_method1 ((EvL.cons Ev.natl EvL.nil rfl : EvL w _ _ X₀ s₃.heap _ _ [.nat 0]).run _ _ _ (Ext.refl _) fun us s₄ k₄ i₄ => ?_) rfl rfl)
    obtain ⟨u, rfl, iu⟩ := i₄.one
    cases iu
    have a₄ := a₃.kp k₄
    obtain ⟨vs, n, ho, hi⟩ := id a₄.wh.2
    cases hi with | cons i0 hr =>
    rename_i v0 vr
    refine call_meets PySem.F.slot_list_pop ⟨_, ho, rfl⟩ PySem.F.entry_list_pop (PySem.F.args_list_pop_2 _ _) (PySem.MeetsSeq.list_pop_at l.pb (v0 :: vr).toArray n 0 _ 0 v0 ?_ ?_ ?_ ?_) ⟨ho, ?_⟩
    · decide
    · rw [List.size_toArray]; exact seqIndex_nat (k := 0) (by simp)
    · rfl
    · rw [List.size_toArray, sizeLine_eq]
      have := hr.length
      rw [List.length_map] at this
      simp only [List.length_cons] at hpl ⊢
      omega
    have hu := Heap.get?_update_self (Obj.mapSeq fun xs => xs.eraseIdxIfInBounds 0) ho rfl
    have hdis : ¬ (Lx w a l ms text es).fp l.pb := by
      rintro (z | z | z)
      · exact ok.d2 z
      · exact ok.d3 z
      · exact z
    have a₅ := (a₄.swap).setList (D := l.pb) (l' := pb.map fun t => .str (S t)) (vs := vr) (n := _) (tk := s₄.toks) hdis (h' := s₄.heap.update l.pb (Obj.mapSeq fun xs => xs.eraseIdxIfInBounds 0)) (by rw [hu]; unfold lstObj Obj.mapSeq; simp; rfl) hr (Heap.SameBut.update ..)
    cases i0
    exact hw t es pb rfl _ _ a₅.did (less hx1 a₅.swap.wh) (.str _ _)
  case kf =>
    have hpb : pb = [] := by
      have : vs.isEmpty = true := by simpa using ht
      have : vs.length = 0 := by simpa using this
      exact List.length_eq_zero_iff.mp (by omega)
    subst hpb
    have hR : stepTok es [] = (tkSkip es, []) := rfl
    refine x_nil ?_
    refine' x_assign (x := "token") a₂ (Ev.strS (l := []) rfl) rfl rfl rfl ?k1
    case k1 =>
    intro s₃ a₃
    have a₃' : Act w (Lex w a l ms text [] []).fp (fun b => X₀ b ∨ b = s.heap.objs.size) s _ _ (((Arch w a ms text.length es).and (Pb l [])).and ((LexN l (lineAt text (text.length - cnt es))).and (LexS l a.fR))) s₃ :=
      a₃.wk (fun b z => z.elim (fun z => z.elim (fun z => .inl (.inl z)) .inr) fun z => .inl (.inr z)) fun z => ⟨⟨z.1.1, z.2⟩, z.1.2⟩
    refine x_iter a₃' rfl rfl rfl rfl rfl rfl rfl rfl fun F b tk s₄ hXF hF a₄ => ?_
    have ac : Act w (Lex w a l ms text [] []).fp (fun x => (X₀ x ∨ x = s.heap.objs.size) ∨ x = F) s _ (tokRho l F []) ((Lx w a l ms text es).and ((It l F b tk).and (Pb l []))) s₄ :=
      (a₄.wk (W' := (Lx w a l ms text es).and ((It l F b tk).and (Pb l []))) (fun x z => z.elim (fun z => z.elim (fun z => .inr (.inl (.inl z))) fun z => .inr (.inr z)) fun z => z.elim .inl fun z => .inr (.inl (.inr z))) fun z => ⟨⟨z.2.1.1, z.2.2⟩, z.1, z.2.1.2⟩).sub ⟨rfl, rfl, rfl, trivial⟩
    have hx2 : ∀ b, X₀ b → (fun x => (X₀ x ∨ x = s.heap.objs.size) ∨ x = F) b := fun b z => .inl (.inl z)
    have nF : ∀ b, (Lex w a l ms text [] []).fp b → b ≠ F := fun b z q => by
      obtain ⟨o, e⟩ := ok.xi b (ok.hX b z).1
      rw [q, hF] at e; cases e
    have key : ∀ {env' : Env} {ρ' : Rho} {W' : Res} {s' : Shared}, Act w (Lex w a l ms text [] []).fp (fun x => (X₀ x ∨ x = s.heap.objs.size) ∨ x = F) s env' ρ' W' s' → env'.locals = s.heap.objs.size → env'.frame = some env'.locals → env'.scope.kind = .function →
        TokCtx w A X₀ (fun x => (X₀ x ∨ x = s.heap.objs.size) ∨ x = F) s outer a l ms text env' ((It l F b tk).and (Pb l [])) := fun {env'} _ _ _ _ h1 h2 h3 =>
      { ok := ok, fr := h2, fn := h3, room := room, xx := hx2, loc := h1 ▸ hnL, nga := h1 ▸ ga_none ok.gl hnL, ul := .inr rfl, up := fun h z => z.2,
        du := fun x z => by
          rw [h1]
          rcases z with z | z
          · have z : x = F := z
            refine ⟨fun q => nF a.st (.inl (.inl rfl)) (q ▸ z), fun q => nF l.dx (.inl (.inr (.inl rfl))) (q ▸ z), fun q => ?_, .inr (z ▸ hF)⟩
            exact hXF (.inr (z ▸ q))
          · have z : x = l.pb := z
            refine ⟨fun q => ok.d2 (z ▸ q), fun q => ok.d3 (z ▸ q), fun q => ?_, .inl z⟩
            have h3 := (ok.hX l.pb (.inr rfl)).2.2
            have q : x = s.heap.objs.size := q
            rw [← z, q] at h3
            exact Nat.lt_irrefl _ h3 }
    have c := key ac rfl rfl rfl
    refine tok_main (X := fun x => (X₀ x ∨ x = s.heap.objs.size) ∨ x = F) c ⟨rfl, rfl, rfl, rfl⟩ hsuf hel ac (fun t r v s' U h a' i => ?_) (fun k r ev s' h hd => ?_)
    · exact hw t r [] (by rw [hR, h]) v s' a'.did (less hx2 (V := Lex w a l ms text r []) ⟨a'.wh.1, a'.wh.2.2⟩) (lessI hx2 i)
    · exact hd.leave c.fr c.loc fun s3 fl => he k r [] (by rw [hR, h]) _ _ (fl.less hx2)
end
section
open PySem PySem.W PyProof PyProof.Rows
theorem push_code {w : World} {A A0 : Around} {X₀ : Addr → Prop} {s : Shared} {outer : List Env} {a : ArA} {l : LxA} {ms : List (List Nat × Nat)} {text : List Nat} {es : List Evt} {pb : List (List Nat)} {t : List Nat} {v : Value} {Q : Value → Shared → Prop} {E : Value → Shared → Prop}
    (ok : LexOk w A0 X₀ s outer a l ms text) (room : A.depth + 5 < recursionLimit) (hpl : pb.length ≤ 1000) (hL : (Lex w a l ms text es pb).holds X₀ s.heap) (iv : Is X₀ s.heap v (.str (S t)))
    (hw : ∀ s', Did (Lex w a l ms text [] []).fp s s' → (Lex w a l ms text es (pb ++ [t])).holds X₀ s'.heap → Q .none s') :
    codeAny (model PR w) A (.call (.ref 49) ⟨[.ref l.x, v], []⟩) (fun r s' => match r with | .ok (.ret v) => Q v s' | .ok _ => False | .error e => E e s') s := by
  refine enterC (names := ["self", "token"]) (avs := [.raw (.ref l.x), .str (S t)]) (Y := (Lex w a l ms text [] []).fp) (W := Lex w a l ms text es pb) (ρc := []) (fo := ⟨_, _, .func (fnX _ _ _ _ _ [] _ _ _ _ _ _ _), _⟩) ok.gl ok.xi (ok.gl.K 49 _ rfl) rfl (codeRec_of ok.gl.K rfl) (by omega) rfl (by decide) rfl rfl rfl rfl rfl rfl (.cons (.raw _) (.cons iv .nil))
    ok.hX (fun b hb => hb) hL (fun x av e => by cases e) fun s₁ act => ?main
  have hx1 : ∀ b, X₀ b → (fun b => X₀ b ∨ b = s.heap.objs.size) b := fun b z => .inl z
  have less : ∀ {V : Res} {X' : Addr → Prop} {h' : Heap}, (∀ b, X₀ b → X' b) → V.holds X' h' → V.holds X₀ h' := fun {V} {X'} {h'} hx hv => V.stable _ _ h' h' hv (fun _ _ _ q => q) fun b o nx q => ⟨fun z => nx (hx b z), q⟩
  refine wpAny_execs_cons (wpAny_Expr (MethodCall_ (pl := _) ((Ev.sPb act.Gl act.wh.1.2.2 act.wh.1.2.1 (act.ev rfl rfl rfl rfl rfl)).run s₁ _ _ (Ext.refl _) fun v s₂ k₂ i₂ => ?_) rfl) rfl rfl)
  cases i₂
  have a₂ := act.kp k₂
  obtain ⟨vs, n, ho, hi⟩ := id a₂.wh.2
  refine PySem.Calls.getMethod_list_append ho rfl rfl (callWith_method1 ((EvL.cons (a₂.ev (x := "token") rfl rfl rfl rfl rfl) EvL.nil rfl : EvL w _ _ _ s₂.heap _ _ [.str (S t)]).run s₂ _ _ (Ext.refl _) fun us s₃ k₃ i₃ => ?_) rfl rfl)
  obtain ⟨u, rfl, iu⟩ := i₃.one
  have a₃ := a₂.kp k₃
  obtain ⟨vs, n, ho, hi⟩ := id a₃.wh.2
  have hdis : ¬ (Lx w a l ms text es).fp l.pb := by
    rintro (z | z | z)
    · exact ok.d2 z
    · exact ok.d3 z
    · exact z
  refine wpAny_list_append_plain (items := vs.toArray) (hsz := by rw [List.size_toArray, hi.length, sizeLine_eq, List.length_map]; omega) ⟨n, ho⟩ fun h' hl' hs' => ?_
  obtain ⟨n', hl'⟩ := hl'
  have a₄ := (a₃.swap).setList (D := l.pb) (l' := (pb ++ [t]).map fun t => .str (S t)) (vs := vs ++ [u]) (n := n') (tk := s₃.toks) hdis (by unfold lstObj; simpa using hl') (by rw [List.map_append]; exact IsL.append (.cons iu .nil) hi) hs'
  exact x_nil (hw _ a₄.did (less hx1 a₄.swap.wh))
end
section

open PySem PySem.W PyProof PyProof.Rows
/-- the table of code objects of a def -/
def Tab (P : Addr) (ps : Array Value) : Res := ⟨fun b => b = P, fun _ h => h.get? P = some (tabObj ps), fun _ _ _ _ e k _ => k _ _ rfl e⟩
section
variable {w : World} {A : Around} {X Y : Addr → Prop} {W : Res} {s : Shared} {Q : Value → Shared → Prop} {E : Value → Shared → Prop}
/-- a def of the top is entered -/
theorem enterG {f : Addr} {oc : Value} {od : Option Addr} {osl : Array (Option Value)} {name q : Str} {params : Arguments} {body : List Stmt} {sc : Scope} {dV kV doc pm cd ct : Value} {an : Option Addr} {names : List Str} {avs : List AV} {vs : List Value} (g : Gl w s.heap) (xi : XIn X s.heap)
    (ho : (KK w).lookup f = some ⟨oc, od, .func (fnOf name q params body sc dV kV doc pm an cd ct), osl⟩) (hcd : codeIn (KK w) cd q = true) (hroom : A.depth < recursionLimit)
    (hlen : avs.length = names.length) (hnd : names.Nodup) (hbind : bindArgs (fnOf name q params body sc dV kV doc pm an cd ct) ⟨vs, []⟩ = pure (names.zip vs))
    (hkd : (names.all fun y => sc.names.lookup y == some .local || sc.names.lookup y == some .cell) = true)
    (hco : sc.isCoroutine = false) (hgen : sc.isGenerator = false) (hk : sc.kind = .function)
    (i : IsL X s.heap vs avs) (hY : ∀ b, Y b → X b ∧ ¬ GA b ∧ b < s.heap.objs.size) (hW : ∀ b, W.fp b → Y b) (hw : W.holds X s.heap)
    (k : ∀ s₁, Act w Y (fun b => X b ∨ Own (fEnv sc s.heap.objs.size f q cd) b) s (fEnv sc s.heap.objs.size f q cd) (names.zip avs) W s₁ →
      wpAny (model PR w) (A.deeper (fEnv sc s.heap.objs.size f q cd)) (execs body (fEnv sc s.heap.objs.size f q cd)) (fun fl s' => Q (match fl with | .ret v => v | _ => .none) s')
        (fun e s' => wpAny (model PR w) (A.deeper (fEnv sc s.heap.objs.size f q cd)) (leaving (fEnv sc s.heap.objs.size f q cd) e) (fun _ s'' => E e s'') (fun e' s'' => E e' s'') s') s₁) :
    codeAny (model PR w) A (.call (.ref f) ⟨vs, []⟩) (fun r s' => match r with | .ok (.ret v) => Q v s' | .ok _ => False | .error e => E e s') s := by
  have xi' := xi
  obtain ⟨mg, mb, T⟩ := g.T
  have hvl : vs.length = names.length := i.length.trans hlen
  refine codeAny_call_cells (fd := fnOf name q params body sc dV kV doc pm an cd ct) (body := body) hroom (g.K _ _ ho) rfl T.nolimit (codeRec_of g.K hcd) rfl hbind rfl (fun x hx => ?_) (fun s₁ x => ?_) hco hgen hk
  · have hm : x.1 ∈ names := (List.of_mem_zip (a := x.1) (b := x.2) hx).1
    have := List.all_eq_true.mp hkd x.1 hm
    rcases Bool.or_eq_true_iff.mp this with p | p
    · exact .inl (by simpa using p)
    · have p' : sc.names.lookup x.1 = some .cell := by simpa using p
      exact .inr ⟨p', cellsFrom_some _ _ _ (.inl p')⟩
  · change InCallC s (fEnv sc s.heap.objs.size f q cd).locals (bindL (fEnv sc s.heap.objs.size f q cd).kindOf (names.zip vs) fun _ => none) (fEnv sc s.heap.objs.size f q cd).cells (bindC (fEnv sc s.heap.objs.size f q cd).kindOf (names.zip vs) fun _ => none) s₁ at x
    have own_ge : ∀ b, Own (fEnv sc s.heap.objs.size f q cd) b → s.heap.objs.size ≤ b := by
      rintro b (e | ⟨y, hy, hc⟩)
      · exact Nat.le_of_eq e.symm
      · exact Nat.le_of_lt (x.above y b (PySem.mem_of_lookup hc))
    have own_none : ∀ b, Own (fEnv sc s.heap.objs.size f q cd) b → s.heap.get? b = none := fun b hb => by
      cases e : s.heap.get? b with
      | none => rfl
      | some o => exact absurd (Heap.lt_size e) (Nat.not_lt.mpr (own_ge b hb))
    have ps : Passes X s.heap (fun b => X b ∨ Own (fEnv sc s.heap.objs.size f q cd) b) s₁.heap := fun b o nx e => ⟨fun z => z.elim nx fun z => (by rw [own_none b z] at e; cases e), x.toInCall.keep b o e⟩
    have zi : (names.zip vs).map (·.1) = (names.zip avs).map (·.1) := by rw [List.map_fst_zip (by omega), List.map_fst_zip (by omega)]
    have zd : ((names.zip avs).map (·.1)).Nodup := by rw [List.map_fst_zip (by omega)]; exact hnd
    have zv : IsL (fun b => X b ∨ Own (fEnv sc s.heap.objs.size f q cd) b) s₁.heap ((names.zip vs).map (·.2)) ((names.zip avs).map (·.2)) := by
      rw [List.map_snd_zip (by omega), List.map_snd_zip (by omega)]
      exact i.pass ps
    have act : Act w Y (fun b => X b ∨ Own (fEnv sc s.heap.objs.size f q cd) b) s (fEnv sc s.heap.objs.size f q cd) (names.zip avs) W s₁ := by
      refine { same := x.toInCall.same, keep := fun b o _ e => x.toInCall.keep b o e, loc := ⟨_, x.toInCall.ns, fun y av hy e => bindL_at zi zd zv y av hy e⟩, cel := ?_, fre := ?_, fresh := own_none, apart := ?_, own := fun b hb => .inr hb, yx := (fun b z => .inl (hY b z).1), xin := ?_, yga := (fun b z => (hY b z).2), gl := g, wfx := (fun b z => ⟨.inl (hY b (hW b z)).1, (fun q => absurd (hY b (hW b z)).2.2 (Nat.not_lt.mpr (own_ge b q))), .inl (hW b z)⟩), wh := W.stable _ _ _ _ hw (fun b o _ e => x.toInCall.keep b o e) ps }
      · intro y c hy hc
        refine ⟨_, x.cell y c hc, fun av e => ?_⟩
        exact bindC_at zi zd zv y av hy e
      · intro y av hy e
        exfalso
        have : y ∈ names := by
          have := PySem.mem_of_lookup e
          exact (List.of_mem_zip this).1
        have := List.all_eq_true.mp hkd y this
        have hy' : sc.names.lookup y = some .free := hy
        rw [hy'] at this
        exact absurd this (by decide)
      · intro y c hy hc
        refine ⟨Nat.ne_of_gt (x.above y c (PySem.mem_of_lookup hc)), fun z _ hz => name_of_addr x.apart (PySem.mem_of_lookup hz) (PySem.mem_of_lookup hc)⟩
      · rintro b (z | z | ⟨y, hy, hc⟩)
        · obtain ⟨o, e⟩ := xi' b z
          exact ⟨o, x.toInCall.keep b o e⟩
        · obtain ⟨o, _, _, e, _⟩ := x.toInCall.ns
          exact ⟨o, z ▸ e⟩
        · obtain ⟨o, e, _⟩ := x.cell y b hc
          exact ⟨o, e⟩
    exact k s₁ act
end
section
variable {w : World} {A : Around} {Y X : Addr → Prop} {s₀ : Shared} {env : Env} {ρ : Rho} {W : Res} {s : Shared} {Q : Flow → Shared → Prop} {E : Value → Shared → Prop}
theorem x_newlistE {x : Str} {p p' p'' : Pos} {es : List Expr} {avs : List AV} {rest : List Stmt} (a : Act w Y X s₀ env ρ W s) (hf : env.scope.kind = .function) (hb : Bindable env x = true) (he : EvL w A env X s.heap p' es avs) (hz : avs.length ≤ 1000)
    (hs : swapsWith (.List es p') (some (.Name x p)) p''.line env = pure false)
    (k : ∀ (D : Addr) (s' : Shared), ¬ X D → ¬ W.fp D → s₀.heap.get? D = none → Act w Y (fun b => X b ∨ b = D) s₀ env ((x, .raw (.ref D)) :: ρ) ((Res.list D avs).and W) s' → wpAny (model PR w) A (execs rest env) Q E s') :
    wpAny (model PR w) A (execs (.Assign [.Name x p] (.List es p') p'' :: rest) env) Q E s := by
  refine wpAny_execs_cons (wpAny_Assign_Name (List_ (he.run s _ _ (Ext.refl _) fun vs s₁ k₁ i₁ => ?_)) hs)
  have a₁ := a.kp k₁
  unfold newList
  refine wpAny_newObj_type ?_ (by show vs.toArray.size ≤ sizeLine; rw [List.size_toArray, i₁.length, sizeLine_eq]; omega)
  have hD := Heap.size_none s₁.heap
  have ho := a₁.old hD
  have a₂ := a₁.newList (l := avs) (vs := vs) (n := 0) (D := s₁.heap.objs.size) (h' := s₁.heap.push { cls := .type "list", data := .seq vs.toArray }) (tk := s₁.toks) hD (Heap.get?_push_size _ rfl) i₁ (Ext.push _ _)
  exact x_store a₂ (.raw _) hf hb fun s' a' => k _ s' ho.1 (fun q => ho.1 (a₁.wfx _ q).1) ho.2 a'
theorem builtinsAt {h : Heap} {mg : Str → Option Value} (g : Gl w h) (hm : h.Ns mainGlobals mg) : h.BuiltinsAt mg 88 := by
  obtain ⟨ob, e, c, d, p⟩ := g.M
  have hb : nsIn (KK w) mainGlobals "__builtins__" = some (some (.ref 4)) := by rfl
  exact ⟨4, ob, mg_of g.K hm hb, by decide, by decide, by decide, e, c, d, p⟩
theorem codeHd92 {h : Heap} (g : Gl w h) : CodeHd h 92 88 := ⟨_, _, _, _, _, _, _, _, _, g.K 92 _ rfl, rfl, rfl, rfl, rfl, rfl, rfl, rfl, rfl, by decide⟩
end
end
section

open PySem PySem.W PyProof PyProof.Rows
/-- a def's function object -/
def FnS (f : Addr) (name q : Str) (params : Arguments) (body : List Stmt) (sc : Scope) (cl : List (Str × Addr)) : Res where
  fp := fun _ => False
  holds := fun X h => ∃ fo doc pm cd ct, h.get? f = some fo ∧ fo.data = .func (fnX name q params body sc cl .none .none doc pm none cd ct) ∧ fo.cls = .type "function" ∧ ¬ X f ∧ ∃ c oc vs t, cd = .ref c ∧ h.get? c = some oc ∧ ¬ X c ∧ oc.data = .fields vs ∧ vs[1]? = some (.str q t)
  stable := by
    rintro X X' h h' ⟨fo, doc, pm, cd, ct, f1, f2, f3, f4, ⟨c, oc, vs, t, g1, g2, g3, g4, g5⟩⟩ k p
    exact ⟨fo, doc, pm, cd, ct, (p _ _ f4 f1).2, f2, f3, (p _ _ f4 f1).1, ⟨c, oc, vs, t, g1, (p _ _ g3 g2).2, (p _ _ g3 g2).1, g4, g5⟩⟩
/-- a lambda's function object, that is stored into -/
def FnM (f : Addr) : Res := ⟨fun b => b = f, fun _ h => ∃ fo fd, h.get? f = some fo ∧ fo.cls = .type "function" ∧ fo.data = .func fd ∧ fo.dict = none, fun _ _ _ _ ⟨fo, fd, e, r⟩ k _ => ⟨fo, fd, k _ _ rfl e, r⟩⟩
section
variable {w : World} {A : Around} {Y X : Addr → Prop} {s₀ : Shared} {env : Env} {ρ : Rho} {W : Res} {s : Shared} {Q : Flow → Shared → Prop} {E : Value → Shared → Prop}
theorem Act.addS (a : Act w Y X s₀ env ρ W s) {V : Res} (hf : ∀ b, ¬ V.fp b) (hh : V.holds X s.heap) : Act w Y X s₀ env ρ (V.and W) s :=
  { a with wfx := fun b q => q.elim (fun z => absurd z (hf b)) (a.wfx b), wh := ⟨hh, a.wh⟩ }
theorem Act.tab {ps ps' : Array Value} (a : Act w Y X s₀ env ρ ((Tab 88 ps).and W) s) (hW : ¬ W.fp 88) {h' : Heap} {tk : Nat} (hx : Heap.ExtBut 88 s.heap h') (hP : h'.get? 88 = some (tabObj ps')) : Act w Y X s₀ env ρ ((Tab 88 ps').and W) { s with heap := h', toks := tk } := by
  have wD := a.wfx 88 (.inl rfl)
  have ps : Passes X s.heap X h' := fun b o nx e => ⟨nx, hx b o (fun z => nx (z ▸ wD.1)) e⟩
  refine a.move (fun b => b = 88) (fun b o nb e => hx b o nb e) (fun b q => by rw [q]; exact wD.1) (fun b q => by rw [q]; exact wD.2.1) (fun b q => by rw [q]; exact wD.2.2) (fun _ q => q) (fun _ q => .inl q) (fun b q r => ?_) a.wfx ⟨hP, ?_⟩
  · rcases r with r | r
    · exact absurd q r
    · exact ⟨_, r ▸ hP⟩
  · exact W.stable _ _ _ _ a.wh.2 (fun b o f e => hx b o (fun z => hW (z ▸ f)) e) ps
theorem mainG {h : Heap} (g : Gl w h) : ∃ mg, h.Ns mainGlobals mg ∧ h.BuiltinsAt mg 88 := by
  obtain ⟨mg, mb, T⟩ := g.T
  exact ⟨mg, T.g, builtinsAt g T.g⟩
/-- def name(..) in a body -/
theorem x_def {ps : Array Value} {name : Str} {params : Arguments} {body : List Stmt} {scope : Scope} {pos : Pos} {rest : List Stmt} {q : Str} (a : Act w Y X s₀ env ρ ((Tab 88 ps).and W) s) (hW : ¬ W.fp 88) (hd0 : params.defaults = []) (hk0 : params.kw_defaults = []) (ha : annTrees params none env = [])
    (hq : qualnameIn env name name = q) (hcl : closOk scope env = true) (hg : env.globals = mainGlobals) (hcode : env.code = .ref 92) (ht : TriplesOk ps.toList) (hnf : codeAmong pos ps.toList = none) (hf : env.scope.kind = .function) (hb : Bindable env name = true)
    (k : ∀ f c' s', s₀.heap.get? f = none → Act w Y X s₀ env ((name, .raw (.ref f)) :: ρ) ((FnS f name q params body scope (closOf scope env)).and ((Tab 88 (ps ++ #[rawInt pos.line, rawInt pos.col, .ref c'])).and W)) s' → wpAny (model PR w) A (execs rest env) Q E s') :
    wpAny (model PR w) A (execs (.FunctionDef name params body [] none [] scope none name pos :: rest) env) Q E s := by
  refine wpAny_execs_cons (nestDef_K hd0 hk0 ha ?_)
  rw [hq]
  obtain ⟨mg, hgs, hbs⟩ := mainG a.Gl
  refine makeFunction_K (clos_eq hcl) hg hgs hcode (codeHd92 a.Gl) a.wh.1 ht hnf (by decide) hbs fun c' ctv doc h' tk hx hge hlt hrec hP => ?_
  obtain ⟨c₂, oc, vs, t, e2, hoc, hd, hv⟩ := hrec
  have a₁ := a.tab hW (tk := tk) hx hP
  have hfn := Heap.size_none h'
  have hold := a₁.old hfn
  have a₂ := a₁.kp (Kp.mk (s := { s with heap := h', toks := tk }) (h := h'.push (fnMade name q params body scope (closOf scope env) doc ((mg "__name__").getD .none) c' ctv)) (t := tk) (Ext.push _ _))
  have hcn : s.heap.get? c' = none := by
    cases e : s.heap.get? c' with
    | none => rfl
    | some o => exact absurd (Heap.lt_size e) (Nat.not_lt.mpr hge)
  cases e2
  have a₃ := a₂.addS (V := FnS h'.objs.size name q params body scope (closOf scope env)) (fun _ z => z) ⟨_, doc, _, _, ctv, Heap.get?_push_size _ rfl, rfl, rfl, hold.1, c', oc, vs, t, rfl, Heap.get?_push_of_some _ hoc, (a.old hcn).1, hd, hv⟩
  exact x_store a₃ (.raw _) hf hb fun s' a' => k _ c' s' hold.2 a'
/-- x = lambda: .. -/
theorem x_lambda {ps : Array Value} {x : Str} {params : Arguments} {body : Expr} {scope : Scope} {pos p p' : Pos} {rest : List Stmt} (a : Act w Y X s₀ env ρ ((Tab 88 ps).and W) s) (hW : ¬ W.fp 88) (hdef : defaultsOf params env = ([], []))
    (hcl : closOk scope env = true) (hg : env.globals = mainGlobals) (hcode : env.code = .ref 92) (ht : TriplesOk ps.toList) (hnf : codeAmong pos ps.toList = none) (hf : env.scope.kind = .function) (hb : Bindable env x = true)
    (hs : swapsWith (.Lambda params body scope pos) (some (.Name x p)) p'.line env = pure false)
    (k : ∀ f c' s', ¬ X f → s₀.heap.get? f = none → Act w Y (fun b => X b ∨ b = f) s₀ env ((x, .raw (.ref f)) :: ρ) ((FnM f).and ((Tab 88 (ps ++ #[rawInt pos.line, rawInt pos.col, .ref c'])).and W)) s' → wpAny (model PR w) A (execs rest env) Q E s') :
    wpAny (model PR w) A (execs (.Assign [.Name x p] (.Lambda params body scope pos) p' :: rest) env) Q E s := by
  refine wpAny_execs_cons (wpAny_Assign_Name (kla_eval hdef ?_) hs)
  obtain ⟨mg, hgs, hbs⟩ := mainG a.Gl
  refine kla_makeFunction (clos_eq hcl) hg hgs hcode (codeHd92 a.Gl) a.wh.1 ht hnf (by decide) hbs fun c' ctv h' tk hx hge hlt hrec hP => ?_
  have a₁ := a.tab hW (tk := tk) hx hP
  have hfn := Heap.size_none h'
  have hold := a₁.old hfn
  have a₂ := a₁.newRes (V := FnM h'.objs.size) (Kp.mk (s := { s with heap := h', toks := tk }) (h := h'.push (kla_obj "<lambda>" (env.qual ++ "<lambda>") params body scope (closOf scope env) ((mg "__name__").getD .none) c' ctv)) (t := tk) (Ext.push _ _))
    (fun b z => by
      have z : b = h'.objs.size := z
      rw [z]
      exact ⟨hfn, _, Heap.get?_push_size _ rfl⟩) ⟨_, _, Heap.get?_push_size _ rfl, rfl, rfl, rfl⟩
  exact x_store a₂ (.raw _) hf hb fun s' a' => k _ c' s' hold.1 hold.2 a'
end
end
section
open PySem PySem.W PyProof PyProof.Rows
/-- behind a store into the lambda -/
def FnD (f dS : Addr) (v : Value) : Res := ⟨fun b => b = f, fun X h => (∃ fo fd, h.get? f = some fo ∧ fo.cls = .type "function" ∧ fo.data = .func fd ∧ fo.dict = some dS) ∧ ¬ X dS ∧ ∃ m, h.Ns dS m ∧ m "read" = some v,
  fun _ _ _ _ ⟨⟨fo, fd, e, r⟩, nd, m, ⟨od, es, ep, n1, n2⟩, hm⟩ k p => ⟨⟨fo, fd, k _ _ rfl e, r⟩, (p _ _ nd n1).1, m, ⟨od, es, ep, (p _ _ nd n1).2, n2⟩, hm⟩⟩
noncomputable def archScope (w : World) : Scope := match (KK w).lookup 93 with
  | some ⟨_, _, .func fd, _⟩ => fd.scope
  | _ => ⟨.function, [], false, false, []⟩
def m32 : Nat := 2 ^ 32 - 1
theorem arch_code {w : World} {A : Around} {X : Addr → Prop} {s : Shared} {ms : List (List Nat × Nat)} {v : Value} {Q : Value → Shared → Prop} {E : Value → Shared → Prop}
    (g : Gl w s.heap) (xi : XIn X s.heap) (hX : X 88) (ht : s.heap.get? 88 = some (tabObj #[])) (room : A.depth < recursionLimit) (hms : ms.length ≤ 5) (iv : Is X s.heap v (.lst (ms.map mAV)))
    (hQ : ∀ r s' (a : ArA) fS dS, (∃ h tk, s' = { s with heap := h, toks := tk }) → (∀ b o, b ≠ 88 → s.heap.get? b = some o → s'.heap.get? b = some o) → (∃ ps, s'.heap.get? 88 = some (tabObj ps)) → s.heap.get? a.st = none →
      Is (fun b => X b ∨ b = a.st) s'.heap r (.tup [.raw (.ref fS), .raw (.ref a.st)]) → (Arch w a ms (cnt (evsFrom 0 ms)) (evsFrom 0 ms)).holds (fun b => X b ∨ b = a.st) s'.heap →
      (∃ o fd md, s'.heap.get? fS = some o ∧ o.cls = .type "function" ∧ o.data = .func fd ∧ o.dict = some dS ∧ s'.heap.Ns dS md ∧ md "read" = some (.ref a.fR)) → ¬ (X fS ∨ fS = a.st) → ¬ (X dS ∨ dS = a.st) → Q r s') :
    codeAny (model PR w) A (.call (.ref 93) ⟨[v], []⟩) (fun r s' => match r with | .ok (.ret v) => Q v s' | .ok _ => False | .error e => E e s') s := by
  refine enterG (names := ["members"]) (avs := [.lst (ms.map mAV)]) (vs := [v]) (Y := fun b => b = 88) (W := Tab 88 #[]) (f := 93) g xi rfl rfl room rfl (by decide) ?hb rfl rfl rfl rfl (.cons iv .nil)
    (fun b hb => ?hy) (fun b hb => hb) ht fun s₁ act => ?main
  case hb => rfl
  case hy =>
    have hb : b = 88 := hb
    rw [hb]
    exact ⟨hX, nga88, Heap.lt_size ht⟩
  case main =>
  with_reducible refine' x_newlistE (avs := [AV.nat 0, AV.nat 0, AV.nat m32, AV.nat 0]) act ?l2 ?l3 ?l1 ?l5 ?l4 ?k1
  case l2 => rfl
  case l3 => rfl
  case l4 => rfl
  case l1 => exact EvL.cons Ev.natl (EvL.cons Ev.natl (EvL.cons (Ev.cast (Ev.binop (Ev.binop Ev.natl Ev.natl (o_powN (by decide) (by decide))) Ev.natl (o_subN (by decide))) rfl) (EvL.cons Ev.natl EvL.nil rfl) rfl) rfl) rfl
  case l5 => simp
  case k1 =>
  intro D s₂ nD wD fD a₂
  have hD88 : (88 : Addr) ≠ D := fun z => wD z.symm
  with_reducible refine' x_def (q := "_law_archive.<locals>.read") (a₂.swap) ?h0 ?h1 ?h2 ?h3 ?h4 ?h5 ?h6 ?h7 ?h11 ?h8 ?h9 ?h10 ?k2
  case h0 => exact fun z => hD88 z
  case h1 => rfl
  case h2 => rfl
  case h3 => rfl
  case h4 => rfl
  case h5 => rfl
  case h6 => rfl
  case h7 => rfl
  case h8 => rfl
  case h9 => rfl
  case h10 => rfl
  case h11 => trivial
  case k2 =>
  intro fR c' s₃ hfR a₃
  have a₃' := a₃.wk (W' := (Tab 88 (#[] ++ #[rawInt 78, rawInt 4, .ref c'])).and ((FnS fR _ _ _ _ _ _).and (Res.list D [AV.nat 0, AV.nat 0, AV.nat m32, AV.nat 0]))) (fun x z => z.elim (fun z => .inr (.inl z)) fun z => z.elim (fun z => z.elim) fun z => .inr (.inr z)) (fun z => ⟨z.2.1, z.1, z.2.2⟩)
  with_reducible refine' x_lambda a₃' ?g0 ?g1 ?g2 ?g3 ?g4 ?g5 ?g6 ?g7 ?g8 ?g9 ?k3
  case g0 => exact fun z => z.elim (fun z => z) fun z => hD88 z
  case g1 => rfl
  case g2 => rfl
  case g3 => rfl
  case g4 => rfl
  case g5 => trivial
  case g6 => rfl
  case g7 => rfl
  case g8 => rfl
  case g9 => rfl
  case k3 =>
  intro fS c₂ s₄ nfS hfS a₄
  refine wpAny_execs_cons (plainObj_wpAny_Assign_Attribute ((a₄.ev (x := "read") rfl rfl rfl rfl rfl).run s₄ _ _ (Ext.refl _) fun v₅ s₅ k₅ i₅ => ((a₄.ev (x := "stream") rfl rfl rfl rfl rfl).up k₅.ext).run s₅ _ _ (Ext.refl _) fun v₆ s₆ k₆ i₆ => ?k4) rfl)
  case k4 =>
  cases i₅
  cases i₆
  have a₆ := a₄.kp (k₅.trans k₆)
  obtain ⟨⟨fo, fd, e1, e2, e3, e4⟩, _⟩ := id a₆.wh
  refine fn_store e1 e2 e3 e4 fun h' tk q1 q2 q3 => ?k5
  case k5 =>
  have wF := a₆.wfx fS (.inl rfl)
  have dn := a₆.old (Heap.size_none s₆.heap)
  have ps : ∀ {X' : Addr → Prop}, X' fS → Passes X' s₆.heap X' h' := fun {X'} hf x o nx e => ⟨nx, q3 x o (fun z => nx (z ▸ hf)) e⟩
  have nfD : ¬ (fS = D) := fun z => nfS (z ▸ .inr rfl)
  have nf88 : ¬ ((88 : Addr) = fS) := fun z => nfS (z ▸ .inl (.inl hX))
  have a₇ := a₆.move (W' := (FnD fS s₆.heap.objs.size (.ref fR)).and ((Tab 88 _).and ((FnS fR _ _ _ _ _ _).and (Res.list D [AV.nat 0, AV.nat 0, AV.nat m32, AV.nat 0])))) (h' := h') (tk := tk) (fun b => b = fS) (fun b o nb e => q3 b o nb e) (fun b z => z ▸ wF.1) (fun b z => z ▸ wF.2.1) (fun b z => z ▸ wF.2.2) (fun _ z => z) (fun _ z => .inl z)
    (fun b z r => r.elim (fun n => absurd z n) fun z => ⟨_, z ▸ q1⟩) (fun b z => a₆.wfx b z)
    ⟨⟨⟨_, fd, q1, e2, e3, rfl⟩, dn.1, _, q2, if_pos rfl⟩, Res.stable ((Tab 88 _).and ((FnS fR _ _ _ _ _ _).and (Res.list D [AV.nat 0, AV.nat 0, AV.nat m32, AV.nat 0]))) _ _ _ _ a₆.wh.2 (fun x o f e => q3 x o (fun z => by
      rcases f with f | f | f
      · exact nf88 ((show x = 88 from f) ▸ z)
      · exact f
      · exact nfD ((show x = D from f) ▸ z.symm)) e) (ps wF.1)⟩
  with_reducible refine' x_ret (av := .tup [.raw (.ref fS), .raw (.ref D)]) a₇ ?r1 ?r2
  case r1 => exact Ev.tup (EvL.cons (a₇.ev (x := "stream") rfl rfl rfl rfl rfl) (EvL.cons (a₇.ev (x := "state") rfl rfl rfl rfl rfl) EvL.nil rfl) rfl) a₇.xIn (by simp)
  case r2 =>
  intro v₈ s₈ a₈ i₈
  obtain ⟨⟨⟨fo', fd', d1, d2, d3, d4⟩, d5, md, d6, d7⟩, hT, ⟨fr, doc, pm, cd, ct, t1, t2, t3, t4, ⟨cc, oc, vs, tk8, u1, u2, u3, u4, u5⟩⟩, ⟨vl, nl, l1, l2⟩⟩ := id a₈.wh
  have okc : ∀ x : Str, (x = "members" ∨ x = "state") → ∃ c, (closOf (readFn w).2.2 (fEnv (archScope w) s.heap.objs.size 93 "_law_archive" (.ref 92))).lookup x = some c ∧ (fEnv (archScope w) s.heap.objs.size 93 "_law_archive" (.ref 92)).cells.lookup x = some c := by
    intro x hx
    have h1 : (readFn w).2.2.names.lookup x = some .free := by rcases hx with rfl | rfl <;> rfl
    obtain ⟨c, hc⟩ := Option.isSome_iff_exists.mp (closOf_some (scope := (readFn w).2.2) (env := fEnv (archScope w) s.heap.objs.size 93 "_law_archive" (.ref 92)) h1)
    exact ⟨c, hc, (closOf_lookup (by rfl) hc).1⟩
  obtain ⟨cM, hcM, hkM⟩ := okc "members" (.inl rfl)
  obtain ⟨cS, hcS, hkS⟩ := okc "state" (.inr rfl)
  obtain ⟨vM, gM, wM⟩ := a₈.cel "members" cM rfl hkM
  obtain ⟨vM', rfl, iM⟩ := wM _ rfl
  obtain ⟨vS, gS, wS⟩ := a₈.cel "state" cS rfl hkS
  obtain ⟨vS', rfl, iS⟩ := wS _ rfl
  cases iS
  have less : ∀ {V : Res} {X₁ X' : Addr → Prop} {h' : Heap}, (∀ b, X' b → X₁ b) → V.holds X₁ h' → V.holds X' h' := fun {V} {X₁} {X'} {h'} hx hv => V.stable _ _ h' h' hv (fun _ _ _ q => q) fun b o nx q => ⟨fun z => nx (hx b z), q⟩
  have lessI : ∀ {v : Value} {d : AV} {X₁ X' : Addr → Prop} {h' : Heap}, (∀ b, X' b → X₁ b) → Is X₁ h' v d → Is X' h' v d := fun hx hv => hv.pass fun b o nx q => ⟨fun z => nx (hx b z), q⟩
  have hx8 : ∀ b, (X b ∨ b = D) → (((X b ∨ Own (fEnv (archScope w) s.heap.objs.size 93 "_law_archive" (.ref 92)) b) ∨ b = D) ∨ b = fS) := fun b z => z.elim (fun z => .inl (.inl (.inl z))) fun z => .inl (.inr z)
  have ownX : ∀ x c, (fEnv (archScope w) s.heap.objs.size 93 "_law_archive" (.ref 92)).kindOf x = some .cell → (fEnv (archScope w) s.heap.objs.size 93 "_law_archive" (.ref 92)).cells.lookup x = some c → ¬ (X c ∨ c = D) := fun x c hk hc z => by
    have fr := a₈.fresh c (.inr ⟨x, hk, hc⟩)
    rcases z with z | z
    · obtain ⟨o, e⟩ := xi c z
      rw [fr] at e; cases e
    · exact nD (z ▸ .inr (.inr ⟨x, hk, hc⟩))
  refine hQ v₈ s₈ ⟨D, cM, cS, fR⟩ fS s₆.heap.objs.size a₈.same (fun b o nb e => a₈.keep b o nb e) ⟨_, hT⟩ fD (lessI hx8 i₈) ⟨Nat.le_refl _, ⟨0, 0, 2 ^ 32 - 1, (At.step (ms := ms) (i := 0)).resolve_right (by omega), ?_⟩, ?_⟩ ⟨_, fd', md, d1, d2, d3, d4, d6, d7⟩ (fun z => nfS (z.elim (fun z => .inl (.inl z)) .inr)) (fun z => d5 (hx8 _ z))
  · rw [Nat.sub_self]
    exact ⟨vl, ⟨_, l1, rfl, nl, rfl⟩, l2.pass fun b o nx q => ⟨fun z => nx (hx8 b z), q⟩⟩
  · refine ⟨⟨fr, "read", _, doc, pm, cd, ct, closOf (readFn w).2.2 (fEnv (archScope w) s.heap.objs.size 93 "_law_archive" (.ref 92)), t1, ?_, t3, fun z => t4 (hx8 _ z), ⟨cc, oc, vs, tk8, u1, u2, fun z => u3 (hx8 _ z), u4, u5⟩, hcM, hcS⟩, ⟨vM', gM, ownX _ _ rfl hkM, lessI hx8 iM⟩, gS, ownX _ _ rfl hkS⟩
    exact t2
end
section

open PySem PySem.W PyProof PyProof.Rows
open Builtin Builtin.ObjectAttr
/-- an object of the lexer's class that is being filled -/
def Ini (x dx : Addr) (m : Str → Option Value) : Res where
  fp := fun b => b = dx
  holds := fun X h => (∃ o, h.get? x = some o ∧ o.cls = .ref 52 ∧ o.dict = some dx ∧ ∀ c, o.data ≠ .cls c) ∧ ¬ X x ∧ dx ≠ x ∧ h.Ns1 dx m
  stable := by
    rintro X X' h h' ⟨⟨o, h1, h2⟩, nx, ne, hn⟩ k p
    exact ⟨⟨o, (p _ _ nx h1).2, h2⟩, (p _ _ nx h1).1, ne, hn.at fun o e => k _ o rfl e⟩
section
variable {w : World} {A : Around} {Y X : Addr → Prop} {s₀ : Shared} {env : Env} {ρ : Rho} {W : Res} {s : Shared} {E : Value → Shared → Prop} {x dx : Addr} {m : Str → Option Value}
theorem set_ini {name : Str} {v : Value} {ns : List Str} {Q : Unit → Shared → Prop} (a : Act w Y X s₀ env ρ ((Ini x dx m).and W) s) (hW : ¬ W.fp dx) (hx52 : x ≠ 52) (hw : PySem.Within m ns) (hl : ns.length ≤ 100) (hns : nsIn (KK w) 51 name = some none) (hB : typeLookup (.type "object") name = pure none)
    (k : ∀ s', Act w Y X s₀ env ρ ((Ini x dx (fun y => if y = name then some v else m y)).and W) s' → Q () s') : wpAny (model PR w) A (setAttr (.ref x) name v) Q E s := by
  obtain ⟨nm, q, bs, sn, sub, ab, col, dd, k0, k1, k2, k3, k5, hC⟩ := cls52 w
  have g := a.Gl
  obtain ⟨⟨⟨o, h1, h2, h3, h4⟩, nx, ne, hn⟩, _⟩ := id a.wh
  have wD := a.wfx dx (.inl rfl)
  obtain ⟨h, g', d, tk, os⟩ := s
  have I : h.Inst x 52 m := ⟨o, h1, h2, h4, .inr ⟨dx, h3, ne, hn⟩⟩
  refine store_attr PySem.F.store_object (g.K _ _ hC) (Heap.Ns.of_isNs (isNs_of_in g.K (nsOk51 w))) (nsMap_none_of_in g.K (nsOk51 w) (ns51_sa w)) (nsMap_none_of_in g.K (nsOk51 w) hns) hB hx52 I (fun h' tk' I' hk hsame => ?_) hw (by rw [sizeLine_eq]; omega)
  obtain ⟨o₁, e₁, c₁, dt₁, sl₁, dk₁⟩ := hsame o h1
  have ho : o₁ = o := by
    have := dk₁ dx h3
    obtain ⟨oc, od, odt, osl⟩ := o
    obtain ⟨oc', od', odt', osl'⟩ := o₁
    simp only at c₁ dt₁ sl₁ this h3
    rw [c₁, dt₁, sl₁, this, h3]
  have hns' : h'.Ns1 dx (fun y => if y = name then some v else m y) := by
    obtain ⟨o', e', _, _, hd'⟩ := I'
    rw [e₁] at e'
    obtain rfl := Option.some.inj e'
    rw [ho] at hd'
    rcases hd' with ⟨hn0, _⟩ | ⟨d', hd', _, hns'⟩
    · rw [h3] at hn0; cases hn0
    · rw [h3] at hd'
      obtain rfl := Option.some.inj hd'
      exact hns'
  have keep : ∀ b ob, b ≠ dx → h.get? b = some ob → h'.get? b = some ob := fun b ob hb e => by
    by_cases q : b = x
    · subst q
      rw [h1] at e
      obtain rfl := Option.some.inj e
      rw [e₁, ho]
    · exact hk b ob q (fun o₀ dx' e₀ ed => by rw [h1] at e₀; obtain rfl := Option.some.inj e₀; rw [h3] at ed; obtain rfl := Option.some.inj ed; exact hb) e
  have ps : Passes X h X h' := fun b o nx e => ⟨nx, keep b o (fun z => nx (z ▸ wD.1)) e⟩
  refine k _ (a.move (W' := (Ini x dx (fun y => if y = name then some v else m y)).and W) (h' := h') (tk := tk') (fun b => b = dx) keep (fun b z => z ▸ wD.1) (fun b z => z ▸ wD.2.1) (fun b z => z ▸ wD.2.2) (fun _ z => z) (fun _ z => .inl z)
    (fun b z r => r.elim (fun n => absurd z n) fun z => ?_) (fun b z => a.wfx b z) ⟨⟨⟨o, keep x o (Ne.symm ne) h1, h2, h3, h4⟩, nx, ne, hns'⟩, W.stable _ _ _ _ a.wh.2 (fun b o f e => keep b o (fun z => hW (z ▸ f)) e) ps⟩)
  obtain ⟨o', _, _, e', _⟩ := hns'
  exact ⟨o', z ▸ e'⟩
/-- self.name = e -/
theorem x_setA {name : Str} {ns : List Str} {p p' p'' : Pos} {e : Expr} {av : AV} {rest : List Stmt} {Q : Flow → Shared → Prop} (a : Act w Y X s₀ env ρ ((Ini x dx m).and W) s) (hn : ρ.lookup ("self" : Str) = some (.raw (.ref x))) (hf : env.scope.kind = .function) (hkn : Known env "self" = true) (he : Ev w A env X s.heap e av)
    (hW : ¬ W.fp dx) (hx52 : x ≠ 52) (hw : PySem.Within m ns) (hl : ns.length ≤ 100) (hns : nsIn (KK w) 51 name = some none) (hB : typeLookup (.type "object") name = pure none)
    (hs : swapsWith e (some (.Attribute (.Name "self" p) name p')) p''.line env = pure false)
    (k : ∀ v s', Is X s'.heap v av → Act w Y X s₀ env ρ ((Ini x dx (fun y => if y = name then some v else m y)).and W) s' → wpAny (model PR w) A (execs rest env) Q E s') :
    wpAny (model PR w) A (execs (.Assign [.Attribute (.Name "self" p) name p'] e p'' :: rest) env) Q E s := by
  refine wpAny_execs_cons (plainObj_wpAny_Assign_Attribute (he.run s _ _ (Ext.refl _) fun v s₁ k₁ i₁ => ((a.ev hn hf hkn (by decide) (by decide)).up k₁.ext).run s₁ _ _ (Ext.refl _) fun u s₂ k₂ i₂ => ?_) hs)
  cases i₂
  have a₂ := (a.kp (k₁.trans k₂)).know (i₁.ext k₂.ext)
  have a₃ : Act w Y X s₀ env ρ ((Ini x dx m).and ((Res.know v av).and W)) s₂ := a₂.wk (fun b z => z.elim (fun z => .inr (.inl z)) fun z => z.elim .inl fun z => .inr (.inr z)) fun z => ⟨z.2.1, z.1, z.2.2⟩
  refine set_ini a₃ (fun z => z.elim (fun z => z) hW) hx52 hw hl hns hB fun s' a' => k v s' a'.wh.2.1 (a'.wk (fun b z => z.elim .inl fun z => .inr (.inr z)) fun z => ⟨z.1, z.2.2⟩)
end
end
section
open PySem PySem.W PyProof PyProof.Rows
theorem within_upd {m : Str → Option Value} {ns : List Str} {name : Str} {v : Value} (h : PySem.Within m ns) (hn : name ∈ ns) : PySem.Within (fun y => if y = name then some v else m y) ns := fun y hy => by
  by_cases q : y = name
  · rw [q]; exact hn
  · exact h y (by simpa [q] using hy)
theorem ns51_init (w : World) : nsIn (KK w) 51 "__init__" = some (some (.ref 28)) := by kernel_rfl
theorem cls52n (w : World) : ∃ nm q bs sn sub col dd k0 k1 k2 k3 k5, (KK w).lookup 52 = some (excClassObj nm q 52 51 bs [.type "object"] true sn sub false col dd k0 k1 k2 k3 k5 "object.__new__") := ⟨_, _, _, _, _, _, _, _, _, _, _, _, rfl⟩
theorem lexer_new {w : World} {A : Around} {X : Addr → Prop} {s : Shared} {fS dS : Addr} {Q : Value → Shared → Prop} {E : Value → Shared → Prop} (g : Gl w s.heap) (xi : XIn X s.heap) (room : A.depth + 10 < recursionLimit)
    (hQ : ∀ (l : LxA) s', l.fS = fS → l.dS = dS → Kp s s' → s.heap.get? l.x = none → s.heap.get? l.dx = none → s.heap.get? l.pb = none → l.dx ≠ l.x → l.pb ≠ l.dx → l.pb ≠ l.x → (∃ o, s'.heap.get? l.x = some o ∧ o.cls = .ref 52 ∧ o.dict = some l.dx ∧ ∀ c, o.data ≠ .cls c) →
      (LexN l 1).holds X s'.heap → (∃ n, s'.heap.get? l.pb = some (lstObj [] n)) → Q (.ref l.x) s') :
    wpAny (model PR w) A (call (.ref 52) [.ref fS]) Q E s := by
  obtain ⟨nm, q, bs, sn, sub, col, dd, k0, k1, k2, k3, k5, hC⟩ := cls52n w
  obtain ⟨h, gg, d, t, os⟩ := s
  have N51 := Heap.Ns.of_isNs (isNs_of_in g.K (nsOk51 w))
  obtain ⟨o28, h28, c28⟩ : ∃ o, (KK w).lookup 28 = some o ∧ o.cls = .type "function" := ⟨_, rfl, rfl⟩
  refine wpAny_call_obj_init PySem.F.objNew (g.K _ _ hC) N51 (ns_some_of g.K N51 (ns51_init w)) (g.K _ _ h28) c28 fun h' x dx mo => ?_
  have g' : Gl w h' := g.ext mo.keeps
  obtain ⟨o, o1, o2, o3, o4⟩ := id mo.inst
  have hd := mo.dict o o1
  have xne : dx ≠ x ∧ h'.Ns1 dx (fun _ => none) := by
    rcases o4 with ⟨z, _⟩ | ⟨d', e1, e2, e3⟩
    · rw [hd] at z; cases z
    · rw [hd] at e1
      obtain rfl := Option.some.inj e1
      exact ⟨e2, e3⟩
  have hx52 : x ≠ 52 := fun z => by
    have := mo.newX
    rw [z, g.K _ _ hC] at this
    cases this
  have nX : ∀ b, h.get? b = none → ¬ X b := fun b hb z => by
    obtain ⟨o, e⟩ := xi b z
    have e : h.get? b = some o := e
    rw [hb] at e; cases e
  have xi' : XIn (fun b => X b ∨ b = dx) h' := fun b z => by
    rcases z with z | z
    · obtain ⟨o, e⟩ := xi b z
      exact ⟨o, mo.keeps b o e⟩
    · obtain ⟨o, _, _, e, _⟩ := xne.2
      exact ⟨o, z ▸ e⟩
  refine wpAny_call (enterC (s := ⟨h', gg, d, t, os⟩) (X := fun b => X b ∨ b = dx) (names := ["self", "fp"]) (avs := [.raw (.ref x), .raw (.ref fS)]) (Y := fun b => b = dx) (W := Ini x dx fun _ => none) (ρc := []) (fo := ⟨_, _, .func (fnX _ _ _ _ _ [] _ _ _ _ _ _ _), _⟩) g' xi' (g'.K 28 _ rfl) rfl (codeRec_of g'.K rfl) ?rm rfl (by decide) rfl rfl rfl rfl rfl rfl (.cons (.raw _) (.cons (.raw _) .nil))
    (fun b hb => ?hY) (fun b hb => hb) ⟨⟨o, o1, o2, hd, o3⟩, ?nx, xne.1, xne.2⟩ (fun x av e => by cases e) fun s₁ act => ?main)
  case rm =>
    have : (A.under (.builtin "type.__call__" ⟨[.ref 52, .ref fS], []⟩)).depth ≤ A.depth + 5 := by
      show A.depth + Code.weight _ ≤ _
      have : Code.weight (.builtin "type.__call__" ⟨[.ref 52, .ref fS], []⟩) ≤ 5 := Nat.le_of_ble_eq_true rfl
      omega
    omega
  case hY =>
    have hb : b = dx := hb
    rw [hb]
    refine ⟨.inr rfl, ga_none g mo.newD, ?_⟩
    obtain ⟨o, _, _, e, _⟩ := xne.2
    exact Heap.lt_size e
  case nx => exact fun z => z.elim (nX x mo.newX) fun z => xne.1 z.symm
  case main =>
    have hdx : ¬ (Res.emp).fp dx := fun z => z
    have w0 : PySem.Within (fun _ => none) lexNames := fun y hy => absurd rfl hy
    have a₀ := act.wk (W' := (Ini x dx fun _ => none).and Res.emp) (fun b z => z.elim id fun z => z.elim) fun z => ⟨z, trivial⟩
    with_reducible refine' x_setA (ns := lexNames) (av := .nat 1) a₀ ?a1 ?a2 ?a3 ?a4 hdx hx52 w0 ?a5 ?a6 ?a7 ?a8 ?a9
    case a1 => rfl
    case a2 => rfl
    case a3 => rfl
    case a4 => exact Ev.natl
    case a5 => decide
    case a6 => exact ns51_line w
    case a7 => exact ob_line
    case a8 => rfl
    case a9 =>
    intro v1 s₁ i1 a₁
    obtain ⟨t1, rfl⟩ : ∃ t, v1 = .int ((1 : Nat) : Int) t := by cases i1; exact ⟨_, rfl⟩
    have w1 := within_upd (v := .int ((1 : Nat) : Int) t1) w0 (name := "lineno") (by decide)
    with_reducible refine' x_setA (ns := lexNames) (av := .raw (.ref fS)) a₁ ?b1 ?b2 ?b3 ?b4 hdx hx52 w1 ?b5 ?b6 ?b7 ?b8 ?b9
    case b1 => rfl
    case b2 => rfl
    case b3 => rfl
    case b4 => exact a₁.ev rfl rfl rfl rfl rfl
    case b5 => decide
    case b6 => exact ns51_in w
    case b7 => exact ob_in
    case b8 => rfl
    case b9 =>
    intro v2 s₂ i2 a₂
    cases i2
    have w2 := within_upd (v := .ref fS) w1 (name := "instream") (by decide)
    with_reducible refine' x_setA (ns := lexNames) (av := .str (S [10, 9, 13, 32])) a₂ ?c1 ?c2 ?c3 ?c4 hdx hx52 w2 ?c5 ?c6 ?c7 ?c8 ?c9
    case c1 => rfl
    case c2 => rfl
    case c3 => rfl
    case c4 => exact Ev.strS rfl
    case c5 => decide
    case c6 => exact ns51_ws w
    case c7 => exact ob_ws
    case c8 => rfl
    case c9 =>
    intro v3 s₃ i3 a₃
    obtain ⟨t3, rfl⟩ : ∃ t, v3 = .str (S [10, 9, 13, 32]) t := by cases i3; exact ⟨_, rfl⟩
    have w3 := within_upd (v := .str (S [10, 9, 13, 32]) t3) w2 (name := "whitespace") (by decide)
    refine wpAny_execs_cons (plainObj_wpAny_Assign_Attribute (List_ (args_nil ?p1)) rfl)
    case p1 =>
    unfold newList
    refine wpAny_newObj_type ?p2 (show (0 : Nat) ≤ sizeLine from Nat.zero_le _)
    case p2 =>
    have hD := Heap.size_none s₃.heap
    have ho := a₃.old hD
    have a₄ := a₃.newList (l := []) (vs := []) (n := 0) (D := s₃.heap.objs.size) (h' := s₃.heap.push { cls := .type "list", data := .seq ([] : List Value).toArray }) (tk := s₃.toks) hD (Heap.get?_push_size _ rfl) .nil (Ext.push _ _)
    refine (a₄.ev (x := "self") rfl rfl rfl rfl rfl).run _ _ _ (Ext.refl _) fun u s₅ k₅ i₅ => ?p3
    case p3 =>
    cases i₅
    have a₅ := (a₄.kp k₅).wk (W' := (Ini x dx _).and (Res.list s₃.heap.objs.size [])) (fun b z => z.elim (fun z => .inr (.inl z)) .inl) fun z => ⟨z.2.1, z.1⟩
    have hne : dx ≠ s₃.heap.objs.size := fun z => ho.1 (z ▸ .inl (.inr rfl))
    refine set_ini (ns := lexNames) a₅ (fun z => hne z) hx52 w3 (by decide) (ns51_pb w) ob_pb fun s₆ a₆ => x_nil ?p4
    case p4 =>
    obtain ⟨⟨⟨oi, j1, j2, j3, j4⟩, _, j5, j6⟩, vsl, nl, j7, j8⟩ := id a₆.wh
    have w4 := within_upd (v := .ref s₃.heap.objs.size) w3 (name := "pushback") (by decide)
    have hDn : h.get? s₃.heap.objs.size = none := by
      cases e : h.get? s₃.heap.objs.size with
      | none => rfl
      | some o =>
        have e' := mo.keeps _ _ e
        have e'' : h'.get? s₃.heap.objs.size = none := ho.2
        rw [e''] at e'; cases e'
    have hDx : s₃.heap.objs.size ≠ x := fun z => by
      have e'' : h'.get? s₃.heap.objs.size = none := ho.2
      rw [z, o1] at e''; cases e''
    refine ⟨rfl, hQ ⟨x, dx, s₃.heap.objs.size, fS, dS⟩ s₆ rfl rfl ?kp mo.newX mo.newD hDn xne.1 (Ne.symm hne) hDx ⟨oi, j1, j2, j3, j4⟩ ⟨_, t1, t3, j6, w4, ?q1, ?q2, ?q3, ?q4⟩ ⟨nl, ?q5⟩⟩
    case kp =>
      obtain ⟨h6, t6, hs6⟩ := a₆.same
      refine ⟨h6, t6, hs6, fun b ob e => ?_⟩
      have := a₆.keep b ob (fun z => by
        have z : b = dx := z
        rw [z] at e
        have e : h.get? dx = some ob := e
        rw [mo.newD] at e; cases e) (mo.keeps b ob e)
      rw [hs6] at this
      exact this
    case q5 =>
      cases j8
      exact j7
    case q4 => exact if_pos rfl
    case q3 => rw [if_neg (by decide), if_pos rfl]
    case q2 => rw [if_neg (by decide), if_neg (by decide), if_pos rfl]
    case q1 => rw [if_neg (by decide), if_neg (by decide), if_neg (by decide), if_pos rfl]
end
section

open PySem PySem.W PyProof PyProof.Rows
open Builtin Builtin.Str Builtin.BaseException Builtin.Exceptions
theorem mro_Exc : mroOf (.type "Exception") = pure [.type "Exception", .type "BaseException", .type "object"] := by rw [mroOf_type]; kernel_rfl
theorem lk_Exc_str : typeLookup (.type "Exception") "__str__" = pure (some (.builtin "BaseException.__str__")) := by rw [typeLookup_type, builtinLookup_eq_fast]; kernel_rfl
theorem ns65_str (w : World) : nsIn (KK w) 65 "__str__" = some none := rfl
theorem slot_exc_str : Slot "Exception" "__str__" "BaseException.__str__" :=
  .of (owner := "BaseException") (n := "__str__") lk_Exc_str (by decide +kernel) (by decide +kernel) (by decide +kernel)
    (by first | exact .inl (by decide +kernel) | exact .inr (by decide +kernel)) (by rw [isSubtype_type]; kernel_rfl)
/-- an own exception with one text -/
def BadAt (h : Heap) (e t : Addr) (msg : List Nat) (tk : Tok) : Prop := (∃ oe vs, h.get? e = some oe ∧ oe.cls = .ref 66 ∧ oe.data = .fields vs ∧ vs[0]? = some (.ref t)) ∧ ∃ n, h.get? t = some (tupObj [.str (S msg) tk] n)
structure BadCls (h : Heap) : Prop where
  obj : ∃ nm q bs hdct sn sub ab col dd k0 k1 k2 k3 k5, h.get? 66 = some (excClassObj nm q 66 65 bs [.type "Exception", .type "BaseException", .type "object"] hdct sn sub ab col dd k0 k1 k2 k3 k5 "Exception.__new__")
  ns : ∃ mN, h.Ns 65 mN ∧ mN "__str__" = none
theorem BadCls.of {w : World} {h : Heap} (g : Gl w h) : BadCls h := by
  obtain ⟨nm, q, bs, hdct, sn, sub, ab, col, dd, k0, k1, k2, k3, k5, hC⟩ := cls66 w
  exact ⟨⟨nm, q, bs, hdct, sn, sub, ab, col, dd, k0, k1, k2, k3, k5, g.K _ _ hC⟩, _, Heap.Ns.of_isNs (isNs_of_in g.K (nsOk65 w)), nsMap_none_of_in g.K (nsOk65 w) (ns65_str w)⟩
section
variable {prog : Program} {w : World} {A : Around} {E : Value → Shared → Prop} {s : Shared} {e t : Addr} {msg : List Nat} {tk : Tok}
theorem str_entry {Q : Fin → Shared → Prop} (x : BadAt s.heap e t msg tk) (hq : Q (.done (.ret (.str (S msg) tk))) s) : wpAny (model prog w) A (Builtin.«BaseException.__str__» ⟨[.ref e], []⟩) Q E s := by
  obtain ⟨⟨oe, vs, h1, h2, h3, h4⟩, n, h5⟩ := x
  have hb : ∀ {Q : Value × List Value → Shared → Prop} {E : Value → Shared → Prop}, Q (.ref t, [.str (S msg) tk]) s → wpAny (model prog w) A (bexcArgs (.ref e)) Q E s := fun hq => by
    unfold bexcArgs
    refine wpAny_bind (wpAny_field h1 h3 h4 (wpAny_bind (wpAny_seqItems h5 rfl ?_)))
    exact wpAny_pure hq
  unfold Builtin.«BaseException.__str__»
  repeat (first | with_reducible refine hb ?_ | wp_step)
  exact hq
theorem str_check {M : Model} {Q : Unit → Shared → Prop} (c : BadCls s.heap) (x : BadAt s.heap e t msg tk) (hq : Q () s) : wpAny M A (checkBuiltinCall "BaseException.__str__" ⟨[.ref e], []⟩) Q E s := by
  obtain ⟨nm, q, bs, hdct, sn, sub, ab, col, dd, k0, k1, k2, k3, k5, hC⟩ := c.obj
  obtain ⟨⟨oe, vs, h1, h2, h3, h4⟩, n, h5⟩ := x
  have hk : builtinKind "BaseException.__str__" = some .slot := by decide +kernel
  have hsplit : splitId "BaseException.__str__" = some ("BaseException", "__str__") := by decide +kernel
  have hcB : (Value.ref 66 :: [Value.type "Exception", .type "BaseException", .type "object"]).contains (.type "BaseException") = true := by decide
  have ha := F.args_bexc_str (.ref e)
  obtain ⟨h, g, d, tk', os⟩ := s
  simp only [checkBuiltinCall, hk, hsplit]
  refine wpAny_bind ?_
  · unfold isInstance
    repeat (first | (with_reducible refine wpAny_loadPart_at h1 ?_; rw [h2]) | (with_reducible refine wpAny_isSubtype_exc hC ?_; rw [hcB]) | wp_step)
    exact hq
theorem str_of_bad {Q : Value → Shared → Prop} (hu : A.units < cLine) (c : BadCls s.heap) (x : BadAt s.heap e t msg tk) (hq : Q (.str (S msg) tk) s) : wpAny (model prog w) A (PySem.Builtin.Str.strOf (.ref e)) Q E s := by
  obtain ⟨nm, q, bs, hdct, sn, sub, ab, col, dd, k0, k1, k2, k3, k5, hC⟩ := c.obj
  obtain ⟨mN, hN, hNs⟩ := c.ns
  obtain ⟨⟨oe, vs, h1, h2, h3, h4⟩, n, h5⟩ := id x
  have f3 := slot_exc_str.bind (.ref e)
  obtain ⟨h, g, d, tk', os⟩ := s
  unfold PySem.Builtin.Str.strOf callSpecial? specialOf
  repeat (any_goals (first | assumption | (with_reducible refine wpAny_cRoomFor hu ?_) | (with_reducible refine wpAny_loadPart_at h1 ?_; rw [h2]) | (with_reducible refine wpAny_typeLookup_exc hC hN mro_Exc lk_Exc_str ?_; rw [hNs]) | wp_step))
  refine codeAny_call_builtin slot_exc_str.plain F.entry_bexc_str (str_check c x (str_entry x ?_))
  repeat (any_goals (first | assumption | wp_step))
theorem str_call {w : World} {Q : Value → Shared → Prop} (hu : A.units + 5 < cLine) (g : Gl w s.heap) (x : BadAt s.heap e t msg tk) (hq : Q (.str (S msg) tk) s) : wpAny (model PR w) A (call (.type "str") [.ref e]) Q E s :=
  callType_new F.called_str (by decide) (F.typeCall_str_1 _) (F.newCall_str_1 _) (fun obj => F.args_object_init_2 obj _) F.entry_str_new
    (meets_str_new (S := fun A R s => A.units + 1 < cLine ∧ BadCls s.heap ∧ BadAt s.heap e t msg tk ∧ R (.ok (.ret (.str (S msg) tk))) s) fun _ _ A _ _ ⟨h1, h2, h3, h4⟩ => str_of_bad (show A.units + 1 < cLine from h1) h2 h3 h4) ⟨by show A.units + 1 + 1 < cLine; omega, .of g, x, typeIs_str _ _ _, hq⟩
end
/-- the exception at hand -/
def ExcR (e t : Addr) (msg : List Nat) : Res where
  fp := fun _ => False
  holds := fun X h => (∃ tk, BadAt h e t msg tk) ∧ ¬ X e ∧ ¬ X t
  stable := by
    rintro X X' h h' ⟨⟨tk, ⟨oe, vs, h1, h2⟩, n, h3⟩, ne, nt⟩ k p
    exact ⟨⟨tk, ⟨oe, vs, (p _ _ ne h1).2, h2⟩, n, (p _ _ nt h3).2⟩, (p _ _ ne h1).1, (p _ _ nt h3).1⟩
section
variable {w : World} {A : Around} {env : Env} {X : Addr → Prop} {h : Heap} {e t : Addr} {msg : List Nat}
theorem CallIs.strE (hu : A.units + 5 < cLine) (g : Gl w h) (hE : (ExcR e t msg).holds X h) : CallIs w A X h (.type "str") [.raw (.ref e)] (.str (S msg)) := ⟨fun s vs Q E hs i hQ => by
  obtain ⟨v, rfl, j⟩ := i.one
  cases j
  obtain ⟨⟨tk, x⟩, _, _⟩ := (ExcR e t msg).stable X X h s.heap hE (fun b o _ q => hs b o q) (.ext hs)
  exact str_call hu (g.ext hs) x (hQ _ _ (Kp.refl s) (.str _ _))⟩
/-- a call of a built-in type -/
theorem Ev.callT {f a : Expr} {es : List Expr} {p : Pos} {id : String} {avs : List AV} {r : AV} (x : Ev w A env X h f (.raw (.type id))) (y : EvL w A env X h p (a :: es) avs) (z : CallIs w A X h (.type id) avs r)
    (hc : eval (.Call f (a :: es) [] p) env = (do callWith p (← eval f env) [] (backTo p (starEach (a :: es) env)) (backToKw p (keywordEach [] env))))
    (he : starEach (a :: es) env = (false, eval a env) :: starEach es env) (hp : (backTo p (starEach es env)).any (·.1) = false) : Ev w A env X h (.Call f (a :: es) [] p) r := ⟨fun s _ _ hs hQ => by
  refine Call_ (x.run s _ _ hs fun v s₁ k₁ i₁ => ?_) hc
  cases i₁
  exact PyProof.Rows.callWith_type1 (y.run s₁ _ _ (hs.trans k₁.ext) fun vs s₂ k₂ i₂ => z.run s₂ vs _ _ (hs.trans (k₁.trans k₂).ext) i₂ fun u s₃ k₃ i₃ => hQ u s₃ (k₁.trans (k₂.trans k₃)) i₃) he hp⟩
end
end
section

open PySem PySem.W PyProof PyProof.Rows
theorem S_last {l : List Nat} (h : 1 ≤ l.length) : Txt.slice (S l) (some (-1)) none = S (l.drop (l.length - 1)) := by
  have := beq_iff_eq.mp (slice_closes_from_neg (x := S l) (i := -1) (a := (l.length : Int) - 1) (b := (l.length : Int)) (by omega) (by rw [S_len]; omega) (by rw [S_len]; omega) (by rw [S_len]))
  rw [this]
  have e1 : ((l.length : Int) - 1).toNat = l.length - 1 := by omega
  simp only [S, e1]
  rw [List.take_of_length_le (by simp; omega)]
section
variable {w : World} {A : Around} {env : Env} {X : Addr → Prop} {h : Heap}
theorem Ev.strLastT {v u : Expr} {p p' : Pos} {l : List Nat} (x : Ev w A env X h v (.str (S l))) (y : Ev w A env X h u (.int (-1))) (hz : l.length ≤ 1000000) (hl : 1 ≤ l.length) : Ev w A env X h (.Subscript v (.Slice (some u) none none p) p') (.str (S (l.drop (l.length - 1)))) := ⟨fun s _ _ hs hQ => by
  refine Subscript_ (x.run s _ _ hs fun o s₁ k₁ i₁ => wpAny_Slice (wpAny_evalPart_some (y.run s₁ _ _ (hs.trans k₁.ext) fun j s₂ k₂ i₂ => wpAny_evalPart_none (wpAny_evalPart_none ?_))))
  cases i₁; cases i₂
  refine tail_item (SBH.sliceItem_sn (P := fun h => Ext s₂.heap h) (fun h ob k => k.trans (Ext.push h ob)) (Ext.refl _) (fun h' t' tk ex => ?_) (by rw [S_len, sizeLine_eq]; omega)) rfl
  rw [S_last hl]
  exact hQ _ _ (k₁.trans (k₂.trans ⟨h', tk, rfl, ex⟩)) (.str _ _)⟩
end
/-- the frames around, up to their slots -/
def FrR (outer : List Env) (h0 : Heap) : Res := ⟨fun b => b ∈ frs outer, fun _ h => ∀ b ∈ frs outer, ∀ o, h0.get? b = some o → ∃ sl, h.get? b = some { o with slots := sl },
  fun _ _ _ _ hh k _ b hb o e => let ⟨sl, e'⟩ := hh b hb o e; ⟨sl, k b _ hb e'⟩⟩
section
variable {w : World} {A : Around} {Y X : Addr → Prop} {s₀ s s' : Shared} {env : Env} {outer : List Env} {ρ : Rho} {V V0 U : Res} {msg : List Nat} {ev : Value}
theorem FF.frR (f : FF s₀.heap outer) (hr : (FrR outer s₀.heap).holds X s.heap) : FF s.heap outer := f.keep fun b hb o e d => let ⟨sl, e'⟩ := hr b hb o e; ⟨_, e', d⟩
/-- behind an except clause's start -/
theorem Act.caught (a : Act w Y X s₀ env ρ (V0.and (U.and (FrR outer s₀.heap))) s) (hyo : ∀ b ∈ frs outer, Y b) (hf : env.frame = some env.locals) (hnc : ∀ x, env.kindOf x ≠ some .cell) (hVf : ∀ b, V.fp b → V0.fp b) (hvB : ∀ h, V.holds X h → ∀ b, V.fp b → ∃ o, h.get? b = some o)
    (hU : ∀ b, U.fp b → ¬ V.fp b ∧ b ∉ frs (env :: outer)) (ff : FF s.heap (env :: outer)) (fl : Flown V X (env :: outer) msg s s' ev) : ∃ e t, ev = .ref e ∧ Act w Y X s₀ env ρ ((ExcR e t msg).and (V.and (U.and (FrR outer s₀.heap)))) s' := by
  obtain ⟨e, t, B, rfl, x, fl⟩ := fl
  refine ⟨e, t, rfl, ?_⟩
  have keepS : ∀ b o, ¬ V.fp b → b ∉ frs (env :: outer) → s.heap.get? b = some o → s'.heap.get? b = some o := fun b o nv nf q => fl.1 _ _ (x.keep b o nv nf q)
  have hfx : ∀ b ∈ frs (env :: outer), X b := fun b hb => by
    rcases (frs_cons hf b).mp hb with q | q
    · rw [q]; exact a.own _ (.inl rfl)
    · exact a.yx b (hyo b q)
  have hvx : ∀ b, V.fp b → X b := fun b z => (a.wfx b (.inl (hVf b z))).1
  have ps : Passes X s.heap X s'.heap := fun b o nx q => ⟨nx, keepS b o (fun z => nx (hvx b z)) (fun z => nx (hfx b z)) q⟩
  have hL : env.locals ∈ frs (env :: outer) := (frs_cons hf _).mpr (.inl rfl)
  obtain ⟨oe, ws, hoe, hoec, hoed, hoe0⟩ := fl.first
  have xin' : ∀ b, X b → ∃ o, s'.heap.get? b = some o := fun b hb => by
    by_cases hv : V.fp b
    · obtain ⟨o, q⟩ := hvB B x.vh b hv
      exact ⟨o, fl.1 _ _ q⟩
    · by_cases hfr : b ∈ frs (env :: outer)
      · obtain ⟨o, q, _⟩ := ff.mem b hfr
        obtain ⟨sl, q'⟩ := x.slots b o hfr q
        exact ⟨_, q'⟩
      · obtain ⟨o, q⟩ := a.xin b hb
        exact ⟨o, keepS b o hv hfr q⟩
  have ne : ¬ X e := fun hb => by
    have hB : B.get? e = none := fl.2.1
    by_cases hv : V.fp e
    · obtain ⟨o, q⟩ := hvB B x.vh e hv
      rw [hB] at q; cases q
    · by_cases hfr : e ∈ frs (env :: outer)
      · obtain ⟨o, q, hd⟩ := ff.mem e hfr
        obtain ⟨sl, q'⟩ := x.slots e o hfr q
        rw [hoe] at q'
        cases q'
        exact hd _ hoed
      · obtain ⟨o, q⟩ := a.xin e hb
        have := x.keep e o hv hfr q
        rw [hB] at this; cases this
  refine { same := ?_, keep := ?_, loc := ?_, cel := fun y c hy _ => absurd hy (hnc y), fre := ?_, fresh := a.fresh, apart := a.apart, own := a.own, yx := a.yx, xin := xin', yga := a.yga, gl := a.gl, wfx := ?_, wh := ?_ }
  · obtain ⟨h, tk, hs⟩ := x.same
    obtain ⟨h₀, tk₀, rfl⟩ := a.same
    exact ⟨h, tk, hs⟩
  · intro b o ny q
    have q' := a.keep b o ny q
    refine keepS b o (fun z => ?_) (fun z => ?_) q'
    · rcases (a.wfx b (.inl (hVf b z))).2.2 with h | h
      · exact ny h
      · rw [h] at q; cases q
    · rcases (frs_cons hf b).mp z with z | z
      · rw [z, a.fresh _ (.inl rfl)] at q; cases q
      · exact ny (hyo b z)
  · obtain ⟨m, ⟨o, es, ep, q1, q2⟩, h2⟩ := a.loc
    obtain ⟨sl, q'⟩ := x.slots _ _ hL q1
    exact ⟨m, ⟨_, es, ep, q', q2⟩, fun y av hy hz => let ⟨v, p, i⟩ := h2 y av hy hz; ⟨v, p, i.pass ps⟩⟩
  · intro y av hy hz
    obtain ⟨c, v, hc, ⟨o, ho, hd⟩, nx, hi⟩ := a.fre y av hy hz
    exact ⟨c, v, hc, ⟨o, (ps c o nx ho).2, hd⟩, nx, hi.pass ps⟩
  · rintro b (z | z | z)
    · exact z.elim
    · exact a.wfx b (.inl (hVf b z))
    · exact a.wfx b (.inr z)
  · refine ⟨?_, ?_, ?_, ?_⟩
    · obtain ⟨⟨tk, n, q⟩, nt⟩ := x.arg
      exact ⟨⟨tk, ⟨oe, ws, hoe, hoec, hoed, hoe0⟩, n, fl.1 _ _ q⟩, ne, nt⟩
    · exact V.stable _ _ _ _ x.vh (fun b o _ q => fl.1 _ _ q) fun b o nx q => ⟨nx, fl.1 _ _ q⟩
    · exact U.stable _ _ _ _ a.wh.2.1 (fun b o f q => keepS b o (hU b f).1 (hU b f).2 q) ps
    · intro b hb o q
      obtain ⟨sl, q'⟩ := a.wh.2.2 b hb o q
      obtain ⟨sl', q''⟩ := x.slots b _ ((frs_cons hf b).mpr (.inr hb)) q'
      exact ⟨sl', q''⟩
end
end
section

open PySem PySem.W PyProof PyProof.Rows
section
variable {w : World} {A : Around} {Y X : Addr → Prop} {s₀ : Shared} {env : Env} {ρ : Rho} {W : Res} {s : Shared}
/-- a local is forgotten -/
theorem Act.unname (a : Act w Y X s₀ env ρ W s) {n : Str} {v : Option Value} {m : Str → Option Value} {h' : Heap} {tk : Nat} (hm : ∀ y av, env.kindOf y = some .local → ρ.lookup y = some av → ∃ v, m y = some v ∧ Is X s.heap v av) (hρ : ρ.lookup n = none)
    (hn : h'.Ns env.locals (fun y => if y = n then v else m y)) (hs : Heap.SameBut env.locals s.heap h') : Act w Y X s₀ env ρ W { s with heap := h', toks := tk } := by
  have nb : ∀ b o, b ≠ env.locals → s.heap.get? b = some o → h'.get? b = some o := fun b o q e => (hs.2 b q).trans e
  have pass : Passes X s.heap X h' := fun b o nx e => ⟨nx, nb b o (fun q => nx (q ▸ a.own _ (.inl rfl))) e⟩
  refine { a with same := ?_, keep := ?_, loc := ?_, cel := ?_, fre := ?_, xin := ?_, wh := ?_ }
  · obtain ⟨h, t, rfl⟩ := a.same
    exact ⟨h', tk, rfl⟩
  · intro b o ny e
    refine nb b o (fun q => ?_) (a.keep b o ny e)
    rw [a.fresh b (.inl q)] at e; cases e
  · refine ⟨_, hn, fun y av' k q => ?_⟩
    obtain ⟨u, p, i⟩ := hm y av' k q
    refine ⟨u, ?_, i.pass pass⟩
    rw [if_neg (fun z => by rw [z, hρ] at q; cases q)]
    exact p
  · intro y c k q
    obtain ⟨v?, ⟨o, ho, hd⟩, h2⟩ := a.cel y c k q
    exact ⟨v?, ⟨o, nb _ o (a.apart y c k q).1 ho, hd⟩, fun av' p => let ⟨u, e', i⟩ := h2 av' p; ⟨u, e', i.pass pass⟩⟩
  · intro y av' k p
    obtain ⟨c, u, hc, ⟨o, ho, hd⟩, nx, i⟩ := a.fre y av' k p
    exact ⟨c, u, hc, ⟨o, (pass c o nx ho).2, hd⟩, nx, i.pass pass⟩
  · intro b hb
    by_cases q : b = env.locals
    · obtain ⟨o, _, _, e, _⟩ := hn
      exact ⟨o, q ▸ e⟩
    · obtain ⟨o, e⟩ := a.xin b hb
      exact ⟨o, nb b o q e⟩
  · exact W.stable _ _ _ _ a.wh (fun b o f e => nb b o (fun q => (a.wfx b f).2.1 (.inl q)) e) pass
end
theorem exm_bad (w : World) : exmOne (KK w) (.ref 66) (.ref 66) = some true := by kernel_rfl
section
variable {w : World} {A : Around} {V : Res} {X : Addr → Prop} {env : Env} {outer : List Env} {L : Addr} {msg : List Nat} {s s' : Shared} {ev : Value} {E : Value → Shared → Prop}
theorem Flown.note' (x : Flown V X (env :: outer) msg s s' ev) (hfr : A.frames = some (env :: outer)) (hf : env.frame = some L) {Q : Unit → Shared → Prop} (k : ∀ s'', Held V X (env :: outer) L msg s s'' ev → Q () s'') : wpAny (model PR w) A (noteFrame ev env) Q E s' := by
  obtain ⟨e, t, B, rfl, x, fl⟩ := x
  exact wpAny_looks_onW hfr hf fl fun h' hh u => k _ ⟨e, t, B, rfl, x.slot fl.2.2.1 u, hh⟩
theorem Held.land (x : Held V X (env :: outer) L msg s s' ev) {Q : Unit → Shared → Prop} (k : ∀ s'', Flown V X (env :: outer) msg s s'' ev → Q () s'') : wpAny (model PR w) A (setFlight ev none) Q E s' := by
  obtain ⟨e, t, B, rfl, x, hh⟩ := x
  exact wpAny_landsW hh fun h' hfl u => k _ ⟨e, t, B, rfl, x.slot hh.2.2.1 u, hfl⟩
theorem Flown.land (x : Flown V X (env :: outer) msg s s' ev) {Q : Unit → Shared → Prop} (k : ∀ s'', Flown V X (env :: outer) msg s s'' ev → Q () s'') : wpAny (model PR w) A (setFlight ev none) Q E s' := by
  obtain ⟨e, t, B, rfl, x, hh⟩ := x
  exact lands_againW hh fun h' hfl u => k _ ⟨e, t, B, rfl, x.slot hh.2.2.1 u, hfl⟩
theorem Flown.gl' (x : Flown V X (env :: outer) msg s s' ev) (g : Gl w s.heap) (hv : ∀ b, V.fp b → ¬ GA b) (hf : ∀ b ∈ frs (env :: outer), ¬ GA b) : Gl w s'.heap := (x.gl g hv hf).1
end
section
variable {w : World} {A : Around} {Y X : Addr → Prop} {s₀ s : Shared} {env : Env} {outer : List Env} {ρ : Rho} {V V0 U : Res} {msg : List Nat} {E : Value → Shared → Prop}
/-- except BadZipFile as error: a suite that does not raise -/
theorem x_except {Q : Flow → Shared → Prop} {np pos : Pos} {b₀ : Stmt} {suite : List Stmt} {s' : Shared} {ev : Value} {rest : List ExceptHandler}
    (a : Act w Y X s₀ env ρ (V0.and (U.and (FrR outer s₀.heap))) s) (hρ : ρ.lookup ("error" : Str) = none) (hsub : ∀ v, Sub ρ (("error", v) :: ρ)) (hyo : ∀ b ∈ frs outer, Y b) (hfr : A.frames = some (env :: outer)) (hf : env.frame = some env.locals) (hfn : env.scope.kind = .function) (hnc : ∀ x, env.kindOf x ≠ some .cell) (hVf : ∀ b, V.fp b → V0.fp b)
    (hvB : ∀ h, V.holds X h → ∀ b, V.fp b → ∃ o, h.get? b = some o) (hU : ∀ b, U.fp b → ¬ V.fp b ∧ b ∉ frs (env :: outer)) (ff : FF s.heap (env :: outer)) (hng : ∀ b ∈ frs (env :: outer), ¬ GA b)
    (hbx : env.kindOf "BadZipFile" = some .globalImplicit) (hg : env.globals = mainGlobals) (hel : env.kindOf "error" = some .local)
    (fl : Flown V X (env :: outer) msg s s' ev)
    (suit : ∀ e t s₁, Act w Y X s₀ env (("error", .raw (.ref e)) :: ρ) ((ExcR e t msg).and (V.and (U.and (FrR outer s₀.heap)))) s₁ →
      ∀ E', wpAny (model PR w) (A.mark (some (.ref e))) (execs (b₀ :: suite) env) (fun f s₂ => ∃ V' : Res, (∀ b, V'.fp b → V0.fp b) ∧ Act w Y X s₀ env (("error", .raw (.ref e)) :: ρ) (V'.and (U.and (FrR outer s₀.heap))) s₂ ∧
        ∀ s₃, Act w Y X s₀ env ρ (V'.and (U.and (FrR outer s₀.heap))) s₃ → Q f s₃) E' s₁) :
    wpAny (model PR w) A (noteFrame ev env) (fun _ s₂ => wpAny (model PR w) A (setFlight ev none) (fun _ s₃ => wpAny (model PR w) A (handleBy ev env (.ExceptHandler (some (.Name "BadZipFile" np)) (some "error") (b₀ :: suite) pos :: rest)) Q E s₃) E s₂) E s' := by
  have hvx : ∀ b, V.fp b → ¬ GA b := fun b z => by
    rcases (a.wfx b (.inl (hVf b z))).2.2 with h | h
    · exact (a.yga b h).1
    · exact ga_none a.gl h
  refine fl.note' hfr hf fun s₂ hd => hd.land fun s₃ fl₃ => ?_
  obtain ⟨g₃, e, oe, rfl, he, hec⟩ := fl₃.gl a.Gl hvx hng
  obtain ⟨mg, mb, T⟩ := g₃.T
  refine wpAny_handleBy_cons (codeAny_handlers_test (Calls.Name_function_global hfn hbx (Calls.loadGlobal_global (show s₃.heap.Ns env.globals mg from hg ▸ T.g) (mg_of g₃.K T.g (n_bad w)) ?_) (by decide))) (by intro q; cases q)
  have LT : Looks (model PR w) s₃.heap (typeOf (.ref e)) (.ref 66) := hec ▸ (Looks.ld (part := none) he).andThen .now
  refine (exm_one g₃.K LT (exm_bad w)) _ _ _ _ (fun b o q => q) ?_
  refine codeAny_handlers_suite_as (fl₃.land fun s₅ fl₅ => ?_)
  obtain ⟨e', t, he', ac⟩ := a.caught hyo hf hnc hVf hvB hU ff fl₅
  cases he'
  refine x_store ac (.raw _) hfn (by unfold Bindable; rw [hel]; rfl) fun s₆ a₆ => ?_
  refine wpAny_mono (suit e t s₆ a₆ (fun _ _ => False)) (fun f s₇ h => ?_) fun _ _ h => h.elim
  obtain ⟨V', hV', a₇, hQ⟩ := h
  have a₈ := a₇.sub (ρ' := ρ) (hsub _)
  obtain ⟨m, hn, hm⟩ := a₈.loc
  dsimp only
  refine wpAny_nameGoes_keeps hel hn (by rw [hfn]; rfl) fun h' v hn' hs' => hQ _ ?_
  exact a₈.unname hm hρ hn' hs'
end
end
section

open PySem PySem.W PyProof PyProof.Rows
/-- the table of code objects, grown -/
def TabG : Res := ⟨fun b => b = 88, fun _ h => ∃ ps, h.get? 88 = some (tabObj ps), fun _ _ _ _ ⟨ps, e⟩ k _ => ⟨ps, k _ _ rfl e⟩⟩
/-- what _law_calls knows throughout -/
structure CallsCtx (w : World) (A : Around) (s₀ : Shared) (outer : List Env) (env : Env) (a : ArA) (l : LxA) (ms : List (List Nat × Nat)) (text : List Nat) : Prop where
  gl : Gl w s₀.heap
  afr : A.frames = some outer
  ff : FF s₀.heap outer
  fg : ∀ b ∈ frs outer, ¬ GA b
  fr : env.frame = some env.locals
  fn : env.scope.kind = .function
  hh : A.handled = none
  hms : ms.length ≤ 5
  hne : ∀ m ∈ ms, m.1 ≠ [] ∧ m.1.length ≤ 1000
  n1 : s₀.heap.get? a.st = none
  n2 : s₀.heap.get? l.dx = none
  n3 : s₀.heap.get? l.pb = none
  d1 : l.dx ≠ a.st
  d2 : l.pb ≠ a.st
  d3 : l.pb ≠ l.dx
  x52 : l.x ≠ 52
section
variable {w : World} {A : Around} {X Y : Addr → Prop} {s₀ s : Shared} {outer : List Env} {env : Env} {a : ArA} {l : LxA} {ms : List (List Nat × Nat)} {text : List Nat} {ρ : Rho} {es : List Evt} {pb : List (List Nat)} {U : Res}
theorem CallsCtx.fresh (c : CallsCtx w A s₀ outer env a l ms text) : ∀ b, (Lex w a l ms text [] []).fp b → s₀.heap.get? b = none := by
  rintro b ((h | h | h) | h)
  · exact (show b = a.st from h) ▸ c.n1
  · exact (show b = l.dx from h) ▸ c.n2
  · exact h.elim
  · exact (show b = l.pb from h) ▸ c.n3
theorem CallsCtx.lexOk (c : CallsCtx w A s₀ outer env a l ms text) (hy : ∀ b ∈ frs outer, Y b) (ac : Act w Y X s₀ env ρ ((Lex w a l ms text es pb).and (U.and (FrR outer s₀.heap))) s) : LexOk w (A.deeper env) X s (env :: outer) a l ms text where
  gl := ac.Gl
  xi := ac.xIn
  hX := fun b z => by
    have h1 := ac.wfx b (.inl z)
    obtain ⟨o, e⟩ := ac.xin b h1.1
    exact ⟨h1.1, ga_none c.gl (c.fresh b z), Heap.lt_size e⟩
  d1 := c.d1
  d2 := c.d2
  d3 := c.d3
  x52 := c.x52
  hh := c.hh
  hms := c.hms
  hne := c.hne
  fo := by
    refine ⟨?_, ⟨(by rw [c.fn]; intro z; cases z), ?_, c.ff.frR ac.wh.2.2⟩, fun b hb => ?_, fun b hb z => ?_⟩
    · show (A.frames).map (env :: ·) = _
      rw [c.afr]; rfl
    · obtain ⟨m, ⟨o, es, ep, e, hd, _⟩, _⟩ := ac.loc
      exact ⟨_, o, c.fr, e, fun vs q => by rw [hd] at q; cases q⟩
    · rcases (frs_cons c.fr b).mp hb with q | q
      · rw [q]; exact ac.own _ (.inl rfl)
      · exact ac.yx b (hy b q)
    · rcases (frs_cons c.fr b).mp hb with q | q
      · exact (ac.wfx b (.inl z)).2.1 (.inl q)
      · obtain ⟨o, e, _⟩ := c.ff.mem b q
        rw [c.fresh b z] at e; cases e
  fg := fun b hb => by
    rcases (frs_cons c.fr b).mp hb with q | q
    · exact ga_none c.gl (q ▸ ac.fresh _ (.inl rfl))
    · exact c.fg b q
theorem lex_live {X : Addr → Prop} (h : Heap) (hL : (Lex w a l ms text es pb).holds X h) : ∀ b, (Lex w a l ms text es pb).fp b → ∃ o, h.get? b = some o := by
  obtain ⟨⟨⟨_, ⟨_, _, _, _, ⟨_, ⟨o, e, _⟩, _⟩⟩, _⟩, ⟨_, _, _, ⟨o', _, _, e', _⟩, _⟩, _⟩, vs, n, e'', _⟩ := hL
  rintro b ((z | z | z) | z)
  · exact ⟨o, z ▸ e⟩
  · exact ⟨o', z ▸ e'⟩
  · exact z.elim
  · exact ⟨_, z ▸ e''⟩
end
end
section
open PySem PySem.W PyProof PyProof.Rows
theorem n_lexer (w : World) : nsIn (KK w) mainGlobals "_netrclex" = some (some (.ref 52)) := rfl
theorem clsAt52 {w : World} {h : Heap} (g : Gl w h) : ClsAt h 52 51 (h.nsMap 51) := by
  obtain ⟨nm, q, bs, sn, sub, col, dd, k0, k1, k2, k3, k5, hC⟩ := cls52n w
  exact ⟨⟨nm, q, bs, sn, sub, col, dd, k0, k1, k2, k3, k5, g.K _ _ hC⟩, Heap.Ns.of_isNs (isNs_of_in g.K (nsOk51 w))⟩
/-- the stream's function object -/
def StF (fS dS fR : Addr) : Res where
  fp := fun _ => False
  holds := fun X h => (∃ o fd md, h.get? fS = some o ∧ o.cls = .type "function" ∧ o.data = .func fd ∧ o.dict = some dS ∧ h.Ns dS md ∧ md "read" = some (.ref fR)) ∧ ¬ X fS ∧ ¬ X dS
  stable := by
    rintro X X' h h' ⟨⟨o', fd, md, g1, g2, g3, g4, ⟨od, es, ep, n1, n2⟩, g6⟩, nf, nd⟩ k p
    exact ⟨⟨o', fd, md, (p _ _ nf g1).2, g2, g3, g4, ⟨od, es, ep, (p _ _ nd n1).2, n2⟩, g6⟩, (p _ _ nf g1).1, (p _ _ nd n1).1⟩
/-- a tuple target -/
theorem x_assignTup {w : World} {A : Around} {Y X : Addr → Prop} {s₀ : Shared} {env : Env} {ρ : Rho} {W : Res} {s : Shared} {Q : Unit → Shared → Prop} {E : Value → Shared → Prop} {x y : Str} {p p' p'' : Pos} {k : Nat} {v : Value} {d d' : AV} (hh : A.handled = none) (a : Act w Y X s₀ env ρ W s) (i : Is X s.heap v (.tup [d, d']))
    (hf : env.scope.kind = .function) (hb : Bindable env x = true) (hb' : Bindable env y = true) (kk : ∀ s', Act w Y X s₀ env ((y, d') :: (x, d) :: ρ) W s' → Q () s') : wpAny (model PR w) A (assign (.Tuple [.Name x p, .Name y p'] k p'') env v) Q E s := by
  cases i with | tup eo nx r =>
  rename_i t vs n
  obtain ⟨u, u', rfl, iu, iu'⟩ := r.two
  have hT : s.heap.IsTuple t #[u, u'] := ⟨_, eo, rfl, n, rfl⟩
  refine wpAny_assign_Tuple hh hT rfl rfl fun h₁ he₁ => ?_
  have ex : Ext s.heap h₁ := fun b o e => he₁ b o (Nat.ne_of_lt (Heap.lt_size e)) e
  have a₂ := a.kp (Kp.mk (s := s) (t := s.toks) ex)
  show wpAny _ _ (assignInOrder [assign (.Name x p) env, assign (.Name y p') env] [u, u']) _ _ _
  refine wpAny_assignInOrder_more (wpAny_assign_Name (x_store (a₂.know (iu'.ext ex)) (iu.ext ex) hf hb fun s₃ a₃ => ?_))
  exact wpAny_assignInOrder_more (wpAny_assign_Name (x_store a₃.unknow a₃.wh.1 hf hb' fun s' a' => wpAny_pure (kk s' a')))
/-- stream, state = _law_archive(members) -/
theorem x_archive {w : World} {A : Around} {Y X : Addr → Prop} {s₀ s : Shared} {env : Env} {ρ : Rho} {outer : List Env} {ms : List (List Nat × Nat)} {p1 p2 p3 p4 p5 p6 p7 : Pos} {k : Nat} {rest : List Stmt} {Q : Flow → Shared → Prop} {E : Value → Shared → Prop}
    (ac : Act w Y X s₀ env ρ ((Tab 88 #[]).and (FrR outer s₀.heap)) s) (h88 : ¬ (FrR outer s₀.heap).fp 88) (hn : ρ.lookup ("members" : Str) = some (.lst (ms.map mAV))) (hf : env.scope.kind = .function) (hk : Known env "members" = true) (hx : env.kindOf "_law_archive" = some .globalImplicit) (hg : env.globals = mainGlobals)
    (hb : Bindable env "stream" = true) (hb' : Bindable env "state" = true) (hh : A.handled = none) (room : A.depth < recursionLimit) (hms : ms.length ≤ 5)
    (hc : eval (.Call (.Name "_law_archive" p1) [.Name "members" p2] [] p3) env = (do callWith p3 (← eval (.Name "_law_archive" p1) env) [] (backTo p3 (starEach [.Name "members" p2] env)) (backToKw p3 (keywordEach [] env))))
    (hs : swapsWithSole [.Tuple [.Name "stream" p4, .Name "state" p5] k p6] (.Call (.Name "_law_archive" p1) [.Name "members" p2] [] p3) p7.line env = pure false) (hw : swappedStores [.Tuple [.Name "stream" p4, .Name "state" p5] k p6] (.Call (.Name "_law_archive" p1) [.Name "members" p2] [] p3) env = pure none)
    (kk : ∀ (a : ArA) fS dS s', s₀.heap.get? a.st = none → Act w Y (fun b => X b ∨ b = a.st) s₀ env (("state", .raw (.ref a.st)) :: ("stream", .raw (.ref fS)) :: ρ) ((Arch w a ms (cnt (evsFrom 0 ms)) (evsFrom 0 ms)).and ((StF fS dS a.fR).and (TabG.and (FrR outer s₀.heap)))) s' → wpAny (model PR w) A (execs rest env) Q E s') :
    wpAny (model PR w) A (execs (.Assign [.Tuple [.Name "stream" p4, .Name "state" p5] k p6] (.Call (.Name "_law_archive" p1) [.Name "members" p2] [] p3) p7 :: rest) env) Q E s := by
  obtain ⟨o93, fd93, e93, d93⟩ : ∃ o fd, (KK w).lookup 93 = some o ∧ o.data = .func fd := ⟨_, _, rfl, rfl⟩
  refine wpAny_execs_cons (Assign_Tuple (Call_ ((Ev.glob (X := X) ac.Gl hf hx hg (n_archive w) (by decide)).run s _ _ (Ext.refl _) fun v s₁ k₁ i₁ => ?_) hc) hs hw)
  cases i₁
  have a₁ := ac.kp k₁
  refine callWith_def (o := o93) d93 ((EvL.cons (a₁.ev hn hf hk (by decide) (by decide)) EvL.nil rfl : EvL w A env X s₁.heap p3 _ [.lst (ms.map mAV)]).run s₁ _ _ (Ext.refl _) fun vs s₂ k₂ i₂ => ⟨?_, ?_⟩) rfl
  · exact (a₁.kp k₂).Gl.K _ _ e93
  obtain ⟨v, rfl, iv⟩ := i₂.one
  have a₂ := a₁.kp k₂
  refine wpAny_call (arch_code a₂.Gl a₂.xIn (a₂.wfx 88 (.inl rfl)).1 a₂.wh.1 room hms iv fun r s₃ a fS dS same keep htab hst ir harch hfs nfS ndS => ?_)
  have w88 := a₂.wfx 88 (.inl rfl)
  have old := a₂.old hst
  obtain ⟨_, ⟨_, _, _, _, ⟨_, ⟨ost, est, _⟩, _⟩⟩, _⟩ := id harch
  have ps : Passes X s₂.heap (fun b => X b ∨ b = a.st) s₃.heap := fun b o nx e => ⟨fun z => z.elim nx fun z => (by rw [z, hst] at e; cases e), keep b o (fun z => nx (z ▸ w88.1)) e⟩
  obtain ⟨h₃, t₃, rfl⟩ := same
  have a₃ := a₂.move (X' := fun b => X b ∨ b = a.st) (W' := (Arch w a ms (cnt (evsFrom 0 ms)) (evsFrom 0 ms)).and ((StF fS dS a.fR).and (TabG.and (FrR outer s₀.heap)))) (h' := h₃) (tk := t₃) (fun b => b = 88) (fun b o nb e => keep b o nb e) (fun b z => z ▸ w88.1) (fun b z => z ▸ w88.2.1) (fun b z => z ▸ w88.2.2)
    (fun _ z => .inl z) (fun b z => z.imp id fun (q : b = a.st) => q ▸ hst) (fun b z r => by
      rcases z with z | z
      · rcases r with r | r
        · exact absurd z r
        · obtain ⟨ps, e⟩ := htab; exact ⟨_, r ▸ e⟩
      · exact ⟨_, z ▸ est⟩)
    (fun b z => by
      rcases z with z | z | z | z
      · have z : b = a.st := z
        exact ⟨.inr z, fun q => old.1 (a₂.own _ (z ▸ q)), .inr (z ▸ old.2)⟩
      · exact z.elim
      · have := a₂.wfx b (.inl z); exact ⟨.inl this.1, this.2⟩
      · have := a₂.wfx b (.inr z); exact ⟨.inl this.1, this.2⟩)
    ⟨harch, ⟨hfs, nfS, ndS⟩, htab, (FrR outer s₀.heap).stable _ _ _ _ a₂.wh.2 (fun b o f e => keep b o (fun z => h88 (z ▸ f)) e) ps⟩
  exact x_assignTup hh a₃ ir hf hb hb' fun s' a' => kk a fS dS s' old.2 a'
/-- lexer = _netrclex(stream) -/
theorem x_lexer {w : World} {A : Around} {Y X : Addr → Prop} {s₀ s : Shared} {env : Env} {ρ : Rho} {U : Res} {ms : List (List Nat × Nat)} {text : List Nat} {es : List Evt} {a : ArA} {fS dS : Addr} {p1 p2 p3 p4 p5 : Pos} {rest : List Stmt} {Q : Flow → Shared → Prop} {E : Value → Shared → Prop}
    (ac : Act w Y X s₀ env ρ ((Arch w a ms text.length es).and ((StF fS dS a.fR).and U)) s) (hl : lineAt text (text.length - cnt es) = 1) (hn : ρ.lookup ("stream" : Str) = some (.raw (.ref fS))) (hf : env.scope.kind = .function) (hk : Known env "stream" = true) (hx : env.kindOf "_netrclex" = some .globalImplicit) (hg : env.globals = mainGlobals)
    (hb : Bindable env "lexer" = true) (room : A.depth + 10 < recursionLimit)
    (hc : eval (.Call (.Name "_netrclex" p1) [.Name "stream" p2] [] p3) env = (do callWith p3 (← eval (.Name "_netrclex" p1) env) [] (backTo p3 (starEach [.Name "stream" p2] env)) (backToKw p3 (keywordEach [] env))))
    (kk : ∀ (l : LxA) (X' : Addr → Prop) s', (∀ b, X b → X' b) → s₀.heap.get? l.dx = none → s₀.heap.get? l.pb = none → l.dx ≠ a.st → l.pb ≠ a.st → l.pb ≠ l.dx → l.x ≠ 52 → Act w Y X' s₀ env (("lexer", .raw (.ref l.x)) :: ρ) ((Lex w a l ms text es []).and U) s' → wpAny (model PR w) A (execs rest env) Q E s') :
    wpAny (model PR w) A (execs (.Assign [.Name "lexer" p4] (.Call (.Name "_netrclex" p1) [.Name "stream" p2] [] p3) p5 :: rest) env) Q E s := by
  refine wpAny_execs_cons (wpAny_Assign_Name (Call_ ((Ev.glob (X := X) ac.Gl hf hx hg (n_lexer w) (by decide)).run s _ _ (Ext.refl _) fun v s₁ k₁ i₁ => ?_) hc) rfl)
  cases i₁
  have a₁ := ac.kp k₁
  refine callWith_cls (clsAt52 a₁.Gl) ((EvL.cons (a₁.ev hn hf hk (by decide) (by decide)) EvL.nil rfl : EvL w A env X s₁.heap p3 _ [.raw (.ref fS)]).run s₁ _ _ (Ext.refl _) fun vs s₂ k₂ i₂ => ⟨fun b o e => k₂.ext b o e, ?_⟩) rfl rfl
  obtain ⟨v, rfl, iv⟩ := i₂.one
  cases iv
  have a₂ := a₁.kp k₂
  refine lexer_new (dS := dS) a₂.Gl a₂.xIn room fun l s₃ e1 e2 k₃ n1 n2 n3 d1 d2 d3 hx' hN hpb => ?_
  have o1 := a₂.old n1
  have o2 := a₂.old n2
  have o3 := a₂.old n3
  have x52 : l.x ≠ 52 := fun z => by
    obtain ⟨nm, q, bs, sn, sub, col, dd, k0, k1, k2, k3, k5, hC⟩ := cls52n w
    rw [z, a₂.Gl.K _ _ hC] at n1; cases n1
  have hst := (a₂.wfx a.st (.inl rfl)).1
  have hp : ∀ b, ((LexN l 1).and (Pb l [])).fp b → s₂.heap.get? b = none ∧ ∃ o, s₃.heap.get? b = some o := by
    rintro b (z | z)
    · have z : b = l.dx := z
      obtain ⟨_, _, _, ⟨o, _, _, e, _⟩, _⟩ := hN
      exact ⟨z ▸ n2, o, z ▸ e⟩
    · have z : b = l.pb := z
      obtain ⟨n, e⟩ := hpb
      exact ⟨z ▸ n3, _, z ▸ e⟩
  have a₃ := a₂.newRes (V := (LexN l 1).and (Pb l [])) k₃ hp ⟨hN, let ⟨n, e⟩ := hpb; ⟨[], n, e, .nil⟩⟩
  · have nx3 : ∀ (b : Addr), ¬ X b → ¬ (b = l.dx ∨ b = l.pb) → ¬ (X b ∨ ((LexN l 1).and (Pb l [])).fp b) := fun b h1 h2 z => z.elim h1 h2
    have fS3 := a₃.wh.2.2.1
    subst e1
    subst e2
    have a₄ := a₃.addS (V := LexS l a.fR) (fun _ z => z) ⟨hx', nx3 _ o1.1 (fun z => z.elim (fun z => d1 z.symm) fun z => d3 z.symm), d1, fS3.1, fS3.2.1, fS3.2.2⟩
    have a₅ := a₄.wk (W' := (Lex w a l ms text es []).and U) (fun b z => by
      rcases z with ((z | z | z) | z) | z
      · exact .inr (.inr (.inl z))
      · exact .inr (.inl (.inl z))
      · exact .inl z
      · exact .inr (.inl (.inr z))
      · exact .inr (.inr (.inr (.inr z)))) fun z => ⟨⟨⟨z.2.2.1, by rw [hl]; exact z.2.1.1, z.1⟩, z.2.1.2⟩, z.2.2.2.2⟩
    exact x_store a₅ (.raw _) hf hb fun s' a' => kk l _ s' (fun b z => .inl z) o2.2 o3.2 (fun z => o2.1 (z ▸ hst)) (fun z => o3.1 (z ▸ hst)) d2 x52 a'
end
section

open PySem PySem.W PyProof PyProof.Rows
theorem k42 (w : World) : ∃ o fd, (KK w).lookup 42 = some o ∧ o.cls = .type "function" ∧ o.data = .func fd := ⟨_, _, rfl, rfl, rfl⟩
theorem k49 (w : World) : ∃ o fd, (KK w).lookup 49 = some o ∧ o.cls = .type "function" ∧ o.data = .func fd := ⟨_, _, rfl, rfl, rfl⟩
section
variable {w : World} {A A2 : Around} {X Y : Addr → Prop} {s₀ s : Shared} {outer : List Env} {env : Env} {a : ArA} {l : LxA} {ms : List (List Nat × Nat)} {text : List Nat} {ρ : Rho} {es : List Evt} {pb : List (List Nat)} {U : Res}
theorem lex_after {r : List Evt} {pb' : List (List Nat)} {s' : Shared} (c : CallsCtx w A s₀ outer env a l ms text) (ac : Act w Y X s₀ env ρ ((Lex w a l ms text es pb).and (U.and (FrR outer s₀.heap))) s) (hU : ∀ b, U.fp b → ¬ (Lex w a l ms text [] []).fp b)
    (d : Did (Lex w a l ms text [] []).fp s s') (hL : (Lex w a l ms text r pb').holds X s'.heap) : Act w Y X s₀ env ρ ((Lex w a l ms text r pb').and (U.and (FrR outer s₀.heap))) s' := by
  refine ac.afterDid d (fun b z => .inl z) (fun b z => lex_live (es := r) (pb := pb') _ hL b z) (fun b z => z) ⟨hL, Did.frame (V := Lex w a l ms text [] []) d ac.wh.2 (fun b z => ?_) fun b z => (ac.wfx b (.inl z)).1⟩
  rcases z with z | z
  · exact hU b z
  · intro q
    obtain ⟨o, e, _⟩ := c.ff.mem b z
    rw [c.fresh b q] at e; cases e
/-- lexer.get_token() -/
theorem x_tok {Q : Value → Shared → Prop} {E : Value → Shared → Prop} {p p' p'' : Pos} {pl : Sem Bool} (c : CallsCtx w A s₀ outer env a l ms text) (hy : ∀ b ∈ frs outer, Y b) (ac : Act w Y X s₀ env ρ ((Lex w a l ms text es pb).and (U.and (FrR outer s₀.heap))) s) (hU : ∀ b, U.fp b → ¬ (Lex w a l ms text [] []).fp b)
    (hn : ρ.lookup ("lexer" : Str) = some (.raw (.ref l.x))) (hkn : Known env "lexer" = true) (room : A.depth + 7 < recursionLimit) (hsuf : Suf text es) (hel : es.length ≤ 100000) (hpl : pb.length ≤ 1000)
    (h1 : ∀ t r pb', stepTok es pb = (.word t r, pb') → ∀ v s', Act w Y X s₀ env ρ ((Lex w a l ms text r pb').and (U.and (FrR outer s₀.heap))) s' → Is X s'.heap v (.str (S t)) → Q v s')
    (h2 : ∀ k r pb', stepTok es pb = (.err k r, pb') → ∀ s₂, Act w Y X s₀ env ρ ((Lex w a l ms text es pb).and (U.and (FrR outer s₀.heap))) s₂ → ∀ ev s', Flown (Lex w a l ms text r []) X (env :: outer) (bad ++ [letters.getD k 0]) s₂ s' ev → E ev s')
    (he : eval (.Call (.Attribute (.Name "lexer" p) "get_token" p') [] [] p'') env = (do
      let ov ← eval (.Name "lexer" p) env
      standAt p'.atName
      let (f, first) ← holding [ov] (getMethod ov "get_token" pl)
      callWith p'' f first (backTo p'' (starEach [] env)) [])) :
    wpAny (model PR w) (A.deeper env) (eval (.Call (.Attribute (.Name "lexer" p) "get_token" p') [] [] p'') env) Q E s := by
  obtain ⟨o, fd, e1, e2, e3⟩ := k42 w
  refine MethodCall_ (pl := pl) ((ac.ev hn c.fn hkn (by decide) (by decide)).run s _ _ (Ext.refl _) fun ov s₂ k₂ i₂ => ?_) he
  cases i₂
  have a₂ := ac.kp k₂
  refine lx_meth a₂.Gl a₂.wh.1.1.2.2 a₂.wh.1.1.2.1 (ns51_tok w) e1 e2 ob_tok (by decide) ?_
  refine callWith_meth0 e3 (a₂.Gl.K _ _ e1) (wpAny_call ?_)
  exact tok_code (c.lexOk hy a₂) (by show A.depth + 1 + 5 < _; omega) hsuf hel hpl a₂.wh.1 (fun t r pb' hs v s' d hL i => h1 t r pb' hs v s' (lex_after c a₂ hU d hL) i) fun k r pb' hs ev s' fl => h2 k r pb' hs s₂ a₂ ev s' fl
/-- lexer.push_token(e) -/
theorem x_push {Q : Flow → Shared → Prop} {E : Value → Shared → Prop} {p p' p'' p3 : Pos} {pl : Sem Bool} {e : Expr} {t : List Nat} {rest : List Stmt} (c : CallsCtx w A s₀ outer env a l ms text) (hy : ∀ b ∈ frs outer, Y b) (ac : Act w Y X s₀ env ρ ((Lex w a l ms text es pb).and (U.and (FrR outer s₀.heap))) s) (hU : ∀ b, U.fp b → ¬ (Lex w a l ms text [] []).fp b)
    (hn : ρ.lookup ("lexer" : Str) = some (.raw (.ref l.x))) (hkn : Known env "lexer" = true) (room : A2.depth + 7 < recursionLimit) (hpl : pb.length ≤ 1000) (hev : Ev w A2 env X s.heap e (.str (S t)))
    (he : eval (.Call (.Attribute (.Name "lexer" p) "push_token" p') [e] [] p'') env = (do
      let ov ← eval (.Name "lexer" p) env
      standAt p'.atName
      let (f, first) ← holding [ov] (getMethod ov "push_token" pl)
      callWith p'' f first (backTo p'' (starEach [e] env)) []))
    (hst : starEach [e] env = (false, eval e env) :: starEach [] env) (hi : interactive env = false) (hsw : swapsWith (.Call (.Attribute (.Name "lexer" p) "push_token" p') [e] [] p'') none p3.line env = pure false)
    (k : ∀ s', Act w Y X s₀ env ρ ((Lex w a l ms text es (pb ++ [t])).and (U.and (FrR outer s₀.heap))) s' → wpAny (model PR w) A2 (execs rest env) Q E s') :
    wpAny (model PR w) A2 (execs (.Expr (.Call (.Attribute (.Name "lexer" p) "push_token" p') [e] [] p'') p3 :: rest) env) Q E s := by
  obtain ⟨o, fd, e1, e2, e3⟩ := k49 w
  refine wpAny_execs_cons (wpAny_Expr (MethodCall_ (pl := pl) ((ac.ev hn c.fn hkn (by decide) (by decide)).run s _ _ (Ext.refl _) fun ov s₂ k₂ i₂ => ?_) he) hi hsw)
  cases i₂
  have a₂ := ac.kp k₂
  refine lx_meth a₂.Gl a₂.wh.1.1.2.2 a₂.wh.1.1.2.1 (ns51_push w) e1 e2 ob_push (by decide) ?_
  refine callWith_meth e3 (a₂.Gl.K _ _ e1) ((EvL.cons (hev.up k₂.ext) EvL.nil hst : EvL w A2 env X s₂.heap p'' [e] [.str (S t)]).run s₂ _ _ (Ext.refl _) fun vs s₃ k₃ i₃ => ⟨fun b o q => k₃.ext b o q, ?_⟩) hst
  obtain ⟨v, rfl, iv⟩ := i₃.one
  have a₃ := a₂.kp k₃
  refine wpAny_call (push_code (c.lexOk hy a₃) (by omega) hpl a₃.wh.1 iv fun s' d hL => ?_)
  exact k s' (lex_after c a₃ hU d hL)
end
end
section
open PySem PySem.W PyProof PyProof.Rows
def tokRest : TokR → List Evt
  | .word _ r => r
  | .err _ r => r
theorem tkIn_suf (q : Bool) : ∀ (n : Nat) (es : List Evt), es.length ≤ n → ∀ acc, tokRest (tkIn q acc es) <:+ es
  | _, [], _, acc => by simp only [tkIn, tokRest]; exact List.suffix_refl _
  | _, .bad k :: r, _, acc => by simp only [tkIn, tokRest]; exact List.suffix_cons _ _
  | n + 1, .ch c :: r, hn, acc => by
    have hn' : r.length ≤ n := by simpa using hn
    rw [tkIn_ch]
    generalize (if q then c == 34 else decide (c ∈ wsT)) = b
    cases b with
    | true => rw [if_pos rfl]; exact List.suffix_cons _ _
    | false =>
      rw [if_neg (by decide)]
      cases c == 92 with
      | true =>
        rw [if_pos rfl]
        rcases r with _ | ⟨d | k, r⟩
        · exact List.suffix_cons _ _
        · exact (tkIn_suf q n r (by simp at hn'; omega) _).trans ((List.suffix_cons _ _).trans (List.suffix_cons _ _))
        · exact (List.suffix_cons _ _).trans (List.suffix_cons _ _)
      | false =>
        rw [if_neg (by decide)]
        exact (tkIn_suf q n r hn' _).trans (List.suffix_cons _ _)
theorem tkSkip_suf : ∀ es : List Evt, tokRest (tkSkip es) <:+ es
  | [] => by simp only [tkSkip, tokRest]; exact List.suffix_refl _
  | .bad k :: r => by simp only [tkSkip, tokRest]; exact List.suffix_cons _ _
  | .ch c :: r => by
    rw [tkSkip_ch]
    split
    · exact (tkSkip_suf r).trans (List.suffix_cons _ _)
    · split
      · exact (tkIn_suf true _ r (Nat.le_refl _) _).trans (List.suffix_cons _ _)
      · split
        · rcases r with _ | ⟨_ | _, r⟩
          · exact List.suffix_cons _ _
          · exact (tkIn_suf false _ r (Nat.le_refl _) _).trans ((List.suffix_cons _ _).trans (List.suffix_cons _ _))
          · exact (List.suffix_cons _ _).trans (List.suffix_cons _ _)
        · exact (tkIn_suf false _ r (Nat.le_refl _) _).trans (List.suffix_cons _ _)
theorem stepTok_suf (es : List Evt) (pb : List (List Nat)) : tokRest (stepTok es pb).1 <:+ es ∧ (stepTok es pb).2.length ≤ pb.length := by
  rcases pb with _ | ⟨t, pb⟩
  · exact ⟨tkSkip_suf es, Nat.le_refl _⟩
  · exact ⟨List.suffix_refl _, Nat.le_succ _⟩
theorem stepTok_err {es : List Evt} {pb pb' : List (List Nat)} {k : Nat} {r : List Evt} (h : stepTok es pb = (.err k r, pb')) : pb = [] ∧ pb' = [] := by
  rcases pb with _ | ⟨t, pb⟩
  · exact ⟨rfl, (Prod.mk.inj h).2.symm⟩
  · cases (Prod.mk.inj h).1
theorem Suf.of_app {text : List Nat} : ∀ {pre r : List Evt}, Suf text (pre ++ r) → Suf text r
  | [], _, h => h
  | .ch _ :: _, _, h => Suf.of_app h.ch.1
  | .bad _ :: _, _, h => Suf.of_app h.bad
theorem Suf.suffix {text : List Nat} {es r : List Evt} (h : Suf text es) (hr : r <:+ es) : Suf text r := by
  obtain ⟨pre, rfl⟩ := hr
  exact h.of_app
def runC (tot : Nat) : Nat → List Evt → List (List Nat) → List (Option (List Nat) × Nat)
  | 0, _, _ => []
  | n + 1, es, pb => match stepTok es pb with
    | (.word t r, pb') => (some t, tot - cnt r) :: runC tot n r pb'
    | (.err k r, pb') => (none, tot - cnt r) :: runC tot n r (pb' ++ [bad ++ [letters.getD k 0], [letters.getD k 0]])
/-- the state between two turns -/
structure TurnS where
  acc : List (Option (List Nat) × Nat)
  es : List Evt
  pb : List (List Nat)
structure TurnP (text : List Nat) (n : Nat) (es0 : List Evt) (i : Nat) (c : TurnS) : Prop where
  run : c.acc ++ runC text.length (n - i) c.es c.pb = runC text.length n es0 []
  suf : Suf text c.es
  el : c.es.length ≤ 100000
  pl : c.pb.length ≤ 2
  al : c.acc.length = i
theorem TurnP.word {text : List Nat} {n : Nat} {es0 : List Evt} {i : Nat} {c : TurnS} (p : TurnP text n es0 i c) (hi : i < n) {t : List Nat} {r : List Evt} {pb' : List (List Nat)} (h : stepTok c.es c.pb = (.word t r, pb')) : TurnP text n es0 (i + 1) ⟨c.acc ++ [(some t, text.length - cnt r)], r, pb'⟩ := by
  have hs := stepTok_suf c.es c.pb
  rw [h] at hs
  refine ⟨?_, p.suf.suffix hs.1, Nat.le_trans hs.1.length_le p.el, Nat.le_trans hs.2 p.pl, by rw [List.length_append, p.al]; rfl⟩
  have := p.run
  rw [show n - i = n - (i + 1) + 1 by omega] at this
  simp only [runC, h] at this
  rw [List.append_assoc]
  exact this
theorem TurnP.err {text : List Nat} {n : Nat} {es0 : List Evt} {i : Nat} {c : TurnS} (p : TurnP text n es0 i c) (hi : i < n) {k : Nat} {r : List Evt} {pb' : List (List Nat)} (h : stepTok c.es c.pb = (.err k r, pb')) : TurnP text n es0 (i + 1) ⟨c.acc ++ [(none, text.length - cnt r)], r, [bad ++ [letters.getD k 0], [letters.getD k 0]]⟩ := by
  have hs := stepTok_suf c.es c.pb
  have hp := (stepTok_err h).2
  rw [h] at hs
  subst hp
  refine ⟨?_, p.suf.suffix hs.1, Nat.le_trans hs.1.length_le p.el, Nat.le_refl _, by rw [List.length_append, p.al]; rfl⟩
  have := p.run
  rw [show n - i = n - (i + 1) + 1 by omega] at this
  simp only [runC, h, List.nil_append] at this
  rw [List.append_assoc]
  exact this
end
section

theorem bit_toNat (n k : Nat) : (n >>> k &&& 1) = (n.testBit k).toNat := by
  rw [Nat.and_one_is_mod, Nat.shiftRight_eq_div_pow, Nat.toNat_testBit]
theorem bit_ne (n k : Nat) : (n >>> k &&& 1 != 0) = n.testBit k := by
  rw [bit_toNat]; cases n.testBit k <;> rfl
def revS (m j n : Nat) : Nat := ((List.range j).map fun k => (n >>> k &&& 1) <<< (m - 1 - k)).sum
theorem revS_bit (m n : Nat) : ∀ j, j ≤ m → ∀ i, (revS m j n).testBit i = (decide (i < m) && decide (m - j ≤ i) && n.testBit (m - 1 - i))
  | 0, _, i => by
    have : revS m 0 n = 0 := rfl
    rw [this, Nat.zero_testBit]
    by_cases h : i < m
    · rw [decide_eq_false (show ¬ (m - 0 ≤ i) by omega)]; simp
    · rw [decide_eq_false h]; rfl
  | j + 1, hj, i => by
    have ih := revS_bit m n j (by omega)
    have e : revS m (j + 1) n = revS m j n + (n >>> j &&& 1) <<< (m - 1 - j) := by
      unfold revS
      rw [List.range_succ, List.map_append, List.sum_append]; simp
    have hq : revS m j n = 2 ^ (m - j) * (revS m j n >>> (m - j)) := by
      refine Nat.eq_of_testBit_eq fun i => ?_
      rw [Nat.testBit_two_pow_mul, Nat.testBit_shiftRight]
      by_cases h : m - j ≤ i
      · rw [decide_eq_true h, Bool.true_and, show m - j + (i - (m - j)) = i by omega]
      · rw [decide_eq_false h, ih i, decide_eq_false h]; simp
    have hb : n >>> j &&& 1 ≤ 1 := Nat.and_le_right
    have hr : (n >>> j &&& 1) <<< (m - 1 - j) < 2 ^ (m - j) := by
      rw [Nat.shiftLeft_eq]
      have h1 : (n >>> j &&& 1) * 2 ^ (m - 1 - j) ≤ 1 * 2 ^ (m - 1 - j) := Nat.mul_le_mul_right _ hb
      have h2 : 2 ^ (m - 1 - j) < 2 ^ (m - j) := Nat.pow_lt_pow_right (by decide) (by omega)
      omega
    rw [e, hq, Nat.testBit_two_pow_mul_add _ hr]
    by_cases h : i < m - j
    · rw [if_pos h, bit_toNat, Nat.testBit_shiftLeft]
      by_cases h2 : i = m - 1 - j
      · subst h2
        rw [decide_eq_true (Nat.le_refl _), decide_eq_true (show m - 1 - j < m by omega), decide_eq_true (show m - (j + 1) ≤ m - 1 - j by omega), Nat.sub_self, show m - 1 - (m - 1 - j) = j by omega]
        cases n.testBit j <;> rfl
      · rw [decide_eq_false (show ¬ (m - 1 - j ≤ i) by omega), decide_eq_false (show ¬ (m - (j + 1) ≤ i) by omega)]
        simp
    · rw [if_neg h, Nat.testBit_shiftRight, show m - j + (i - (m - j)) = i by omega, ih i, decide_eq_true (show m - j ≤ i by omega), decide_eq_true (show m - (j + 1) ≤ i by omega)]
theorem rev8_bit (c i : Nat) : (rev8 c).testBit i = (decide (i < 8) && c.testBit (7 - i)) := by
  have := revS_bit 8 c 8 (Nat.le_refl _) i
  rw [show rev8 c = revS 8 8 c from rfl, this]
  simp
theorem rev32_bit (c i : Nat) : (rev32 c).testBit i = (decide (i < 32) && c.testBit (31 - i)) := by
  have := revS_bit 32 c 32 (Nat.le_refl _) i
  rw [show rev32 c = revS 32 32 c from rfl, this]
  simp
theorem bit_lt {x n i : Nat} (h : x < 2 ^ n) (hi : n ≤ i) : x.testBit i = false := Nat.testBit_lt_two_pow (Nat.lt_of_lt_of_le h (Nat.pow_le_pow_right (by decide) hi))
theorem rev32_rev32 {x : Nat} (h : x < 2 ^ 32) : rev32 (rev32 x) = x := by
  refine Nat.eq_of_testBit_eq fun i => ?_
  rw [rev32_bit, rev32_bit]
  by_cases hi : i < 32
  · rw [decide_eq_true hi, decide_eq_true (show 31 - i < 32 by omega), show 31 - (31 - i) = i by omega]; rfl
  · rw [decide_eq_false hi, bit_lt (i := i) h (by omega)]; rfl
theorem rev32_xor (x y : Nat) : rev32 (x ^^^ y) = rev32 x ^^^ rev32 y := by
  refine Nat.eq_of_testBit_eq fun i => ?_
  rw [Nat.testBit_xor, rev32_bit, rev32_bit, rev32_bit, Nat.testBit_xor]
  cases decide (i < 32) <;> simp
theorem gstep_lt {x : Nat} (h : x < 2 ^ 32) : gstep x < 2 ^ 32 := by
  have h1 : x >>> 1 < 2 ^ 32 := by rw [Nat.shiftRight_eq_div_pow]; omega
  unfold gstep
  split
  · exact Nat.xor_lt_two_pow h1 (by decide)
  · exact h1
theorem giter_lt : ∀ n {x : Nat}, x < 2 ^ 32 → giter n x < 2 ^ 32
  | 0, _, h => h
  | n + 1, _, h => gstep_lt (giter_lt n h)
theorem polys : ∀ j, j < 32 → (4374732215 : Nat).testBit j = (3988292384 : Nat).testBit (31 - j) := by decide
theorem step1 {x : Nat} (hx : x < 2 ^ 32) (i : Nat) : pStep (rev32 x <<< (i + 1)) (32 + i) = rev32 (gstep x) <<< i := by
  have hc : (rev32 x <<< (i + 1)).testBit (32 + i) = x.testBit 0 := by
    rw [Nat.testBit_shiftLeft, decide_eq_true (show i + 1 ≤ 32 + i by omega), show 32 + i - (i + 1) = 31 by omega, rev32_bit]; rfl
  have hx0 : (x &&& 1 != 0) = x.testBit 0 := by have := bit_ne x 0; rwa [Nat.shiftRight_zero] at this
  unfold pStep gstep
  rw [bit_ne, hc, hx0, show 32 + i - 32 = i by omega]
  cases h0 : x.testBit 0 with
  | false =>
    rw [if_neg (by decide), if_neg (by decide)]
    refine Nat.eq_of_testBit_eq fun k => ?_
    rw [Nat.testBit_shiftLeft, Nat.testBit_shiftLeft, rev32_bit, rev32_bit, Nat.testBit_shiftRight]
    by_cases h1 : i ≤ k
    · by_cases h2 : k = i
      · subst h2
        rw [decide_eq_false (show ¬ (k + 1 ≤ k) by omega), Nat.sub_self, bit_lt hx (show 32 ≤ 1 + (31 - 0) by omega)]; simp
      · by_cases h3 : k - i < 32
        · rw [decide_eq_true (show i + 1 ≤ k by omega), decide_eq_true h1, decide_eq_true (show k - (i + 1) < 32 by omega), decide_eq_true h3, show 31 - (k - (i + 1)) = 1 + (31 - (k - i)) by omega]
        · by_cases h4 : k - i = 32
          · rw [show 31 - (k - (i + 1)) = 0 by omega, h0, decide_eq_false h3]; simp
          · rw [decide_eq_false h3, decide_eq_false (show ¬ (k - (i + 1) < 32) by omega)]; simp
    · rw [decide_eq_false h1, decide_eq_false (show ¬ (i + 1 ≤ k) by omega)]; simp
  | true =>
    rw [if_pos rfl, if_pos rfl]
    refine Nat.eq_of_testBit_eq fun k => ?_
    rw [Nat.testBit_xor, Nat.testBit_shiftLeft, Nat.testBit_shiftLeft, Nat.testBit_shiftLeft, rev32_bit, rev32_bit, Nat.testBit_xor, Nat.testBit_shiftRight]
    by_cases h1 : i ≤ k
    · by_cases h2 : k = i
      · subst h2
        rw [decide_eq_false (show ¬ (k + 1 ≤ k) by omega), Nat.sub_self, bit_lt hx (show 32 ≤ 1 + (31 - 0) by omega)]; simp; decide
      · by_cases h3 : k - i < 32
        · rw [decide_eq_true (show i + 1 ≤ k by omega), decide_eq_true h1, decide_eq_true (show k - (i + 1) < 32 by omega), decide_eq_true h3, show 31 - (k - (i + 1)) = 1 + (31 - (k - i)) by omega, polys _ h3]; simp
        · by_cases h4 : k - i = 32
          · rw [show 31 - (k - (i + 1)) = 0 by omega, h0, decide_eq_false h3, h4, decide_eq_true h1, decide_eq_true (show i + 1 ≤ k by omega), decide_eq_true (show k - (i + 1) < 32 by omega), show Nat.testBit 4374732215 32 = true by decide]; simp
          · rw [decide_eq_false h3, decide_eq_false (show ¬ (k - (i + 1) < 32) by omega), bit_lt (x := 4374732215) (n := 33) (by decide) (by omega)]; simp
    · rw [decide_eq_false h1, decide_eq_false (show ¬ (i + 1 ≤ k) by omega)]; simp
theorem steps8 {x : Nat} (hx : x < 2 ^ 32) : ∀ i, i ≤ 8 → pIter 39 i (rev32 x <<< 8) = rev32 (giter i x) <<< (8 - i)
  | 0, _ => rfl
  | i + 1, h => by
    show pStep (pIter 39 i (rev32 x <<< 8)) (39 - i) = rev32 (gstep (giter i x)) <<< (8 - (i + 1))
    rw [steps8 hx i (by omega), show 8 - i = (7 - i) + 1 by omega, show 39 - i = 32 + (7 - i) by omega, step1 (giter_lt i hx), show 8 - (i + 1) = 7 - i by omega]
theorem high {H L s q : Nat} (hL : L < 2 ^ (s + 32)) (hq : 32 ≤ q) : pStep ((H <<< s) ^^^ L) (s + q) = (pStep H q <<< s) ^^^ L := by
  have hc : ((H <<< s) ^^^ L).testBit (s + q) = H.testBit q := by
    rw [Nat.testBit_xor, Nat.testBit_shiftLeft, decide_eq_true (show s ≤ s + q by omega), show s + q - s = q by omega, bit_lt hL (by omega)]; simp
  unfold pStep
  rw [bit_ne, bit_ne, hc]
  cases H.testBit q with
  | false => rw [if_neg (by decide), if_neg (by decide)]
  | true =>
    rw [if_pos rfl, if_pos rfl]
    refine Nat.eq_of_testBit_eq fun k => ?_
    simp only [Nat.testBit_xor, Nat.testBit_shiftLeft]
    by_cases h1 : s ≤ k
    · rw [decide_eq_true h1]
      have : (decide (s + q - 32 ≤ k) && Nat.testBit 4374732215 (k - (s + q - 32))) = (decide (q - 32 ≤ k - s) && Nat.testBit 4374732215 (k - s - (q - 32))) := by
        rw [show k - (s + q - 32) = k - s - (q - 32) by omega, show decide (s + q - 32 ≤ k) = decide (q - 32 ≤ k - s) by rw [decide_eq_decide]; omega]
      rw [this]
      generalize (decide (q - 32 ≤ k - s) && Nat.testBit 4374732215 (k - s - (q - 32))) = u
      cases u <;> cases L.testBit k <;> cases H.testBit (k - s) <;> rfl
    · rw [decide_eq_false h1, decide_eq_false (show ¬ (s + q - 32 ≤ k) by omega)]
      simp
theorem high8 {H L s : Nat} (hL : L < 2 ^ (s + 32)) : ∀ i, i ≤ 8 → pIter (s + 39) i ((H <<< s) ^^^ L) = (pIter 39 i H <<< s) ^^^ L
  | 0, _ => rfl
  | i + 1, h => by
    show pStep (pIter (s + 39) i ((H <<< s) ^^^ L)) (s + 39 - i) = (pStep (pIter 39 i H) (39 - i) <<< s) ^^^ L
    rw [high8 hL i (by omega), show s + 39 - i = s + (39 - i) by omega, high hL (by omega)]
theorem pIter_add (P a : Nat) : ∀ b x, pIter P (a + b) x = pIter (P - a) b (pIter P a x)
  | 0, x => rfl
  | b + 1, x => by
    show pStep (pIter P (a + b) x) (P - (a + b)) = pStep (pIter (P - a) b (pIter P a x)) (P - a - b)
    rw [pIter_add P a b x, show P - (a + b) = P - a - b by omega]
theorem foldl_num (t : List Nat) : ∀ a, t.foldl (fun n c => n * 256 + rev8 c) a = a * 2 ^ (8 * t.length) + pNum t := by
  induction t with
  | nil => intro a; simp [pNum]
  | cons c t ih =>
    intro a
    have h0 : pNum (c :: t) = rev8 c * 2 ^ (8 * t.length) + pNum t := by
      show t.foldl (fun n c => n * 256 + rev8 c) (0 * 256 + rev8 c) = _
      rw [ih]; simp
    rw [List.foldl_cons, ih, h0, List.length_cons, show 8 * (t.length + 1) = 8 + 8 * t.length by omega, Nat.pow_add, show (2 : Nat) ^ 8 = 256 by decide]
    rw [Nat.add_mul, Nat.mul_assoc, Nat.add_assoc]
theorem pNum_cons (c : Nat) (t : List Nat) : pNum (c :: t) = rev8 c * 2 ^ (8 * t.length) + pNum t := by
  show t.foldl (fun n c => n * 256 + rev8 c) (0 * 256 + rev8 c) = _
  rw [foldl_num]; simp
theorem rev8_lt' (c : Nat) : rev8 c < 2 ^ 8 := by
  refine Nat.lt_pow_two_of_testBit _ fun i hi => ?_
  rw [rev8_bit, decide_eq_false (by omega)]; rfl
theorem pNum_lt' : ∀ t : List Nat, pNum t < 2 ^ (8 * t.length)
  | [] => by decide
  | c :: t => by
    have := pNum_lt' t
    have h1 := rev8_lt' c
    rw [pNum_cons, List.length_cons, show 8 * (t.length + 1) = 8 + 8 * t.length by omega, Nat.pow_add]
    have : rev8 c * 2 ^ (8 * t.length) + 2 ^ (8 * t.length) ≤ 2 ^ 8 * 2 ^ (8 * t.length) := by
      rw [← Nat.succ_mul]; exact Nat.mul_le_mul_right _ h1
    omega
theorem pNum_xor (c : Nat) (t : List Nat) : pNum (c :: t) = (rev8 c <<< (8 * t.length)) ^^^ pNum t := by
  rw [pNum_cons]
  refine Nat.eq_of_testBit_eq fun i => ?_
  rw [Nat.mul_comm, Nat.testBit_two_pow_mul_add _ (pNum_lt' t), Nat.testBit_xor, Nat.testBit_shiftLeft]
  by_cases h : i < 8 * t.length
  · rw [if_pos h, decide_eq_false (by omega)]; simp
  · rw [if_neg h, decide_eq_true (by omega), bit_lt (pNum_lt' t) (by omega)]; simp
theorem rev32_small {c : Nat} (h : c < 256) : rev32 c <<< 8 = rev8 c <<< 32 := by
  refine Nat.eq_of_testBit_eq fun i => ?_
  rw [Nat.testBit_shiftLeft, Nat.testBit_shiftLeft, rev32_bit, rev8_bit]
  by_cases h1 : i < 8
  · rw [decide_eq_false (show ¬ (i ≥ 8) by omega), decide_eq_false (show ¬ (i ≥ 32) by omega)]; simp
  · by_cases h2 : i < 32
    · rw [decide_eq_false (show ¬ (i ≥ 32) by omega), bit_lt (x := c) (n := 8) h (by omega)]; simp
    · by_cases h3 : i < 40
      · rw [decide_eq_true (show i ≥ 8 by omega), decide_eq_true (show i ≥ 32 by omega), decide_eq_true (show i - 8 < 32 by omega), decide_eq_true (show i - 32 < 8 by omega), show 31 - (i - 8) = 7 - (i - 32) by omega]
      · rw [decide_eq_false (show ¬ (i - 8 < 32) by omega), decide_eq_false (show ¬ (i - 32 < 8) by omega)]; simp
def regF (r : Nat) (t : List Nat) : Nat := t.foldl (fun r c => genCrc (r ^^^ c)) r
theorem xor_lt32 {r c : Nat} (hr : r < 2 ^ 32) (hc : c < 256) : r ^^^ c < 2 ^ 32 := Nat.xor_lt_two_pow hr (Nat.lt_trans hc (by decide))
theorem regF_lt : ∀ {t : List Nat}, (∀ c ∈ t, c < 256) → ∀ {r}, r < 2 ^ 32 → regF r t < 2 ^ 32
  | [], _, _, h => h
  | c :: t, hc, r, h => regF_lt (t := t) (fun d hd => hc d (.tail _ hd)) (r := genCrc (r ^^^ c)) (giter_lt 8 (xor_lt32 h (hc c (.head _))))
theorem divides : ∀ (t : List Nat), (∀ c ∈ t, c < 256) → ∀ r, r < 2 ^ 32 → pIter (8 * t.length + 31) (8 * t.length) ((pNum t <<< 32) ^^^ (rev32 r <<< (8 * t.length))) = rev32 (regF r t)
  | [], _, r, _ => by
    show (0 <<< 32) ^^^ (rev32 r <<< 0) = rev32 r
    simp
  | c :: t, hc, r, hr => by
    have hc0 := hc c (.head _)
    have hx := xor_lt32 hr hc0
    have e1 : (pNum (c :: t) <<< 32) ^^^ (rev32 r <<< (8 * (c :: t).length)) = ((rev32 (r ^^^ c) <<< 8) <<< (8 * t.length)) ^^^ (pNum t <<< 32) := by
      rw [rev32_xor, pNum_xor, Nat.shiftLeft_xor_distrib, Nat.shiftLeft_xor_distrib, Nat.shiftLeft_xor_distrib, rev32_small hc0, ← Nat.shiftLeft_add, ← Nat.shiftLeft_add, ← Nat.shiftLeft_add, List.length_cons, show 8 + 8 * t.length = 8 * (t.length + 1) by omega, Nat.add_comm 32]
      rw [Nat.xor_comm, ← Nat.xor_assoc]
    have hL : pNum t <<< 32 < 2 ^ (8 * t.length + 32) := by
      rw [Nat.shiftLeft_eq, Nat.pow_add]
      exact Nat.mul_lt_mul_of_pos_right (pNum_lt' t) (by decide)
    rw [e1, List.length_cons, show 8 * (t.length + 1) + 31 = 8 * t.length + 39 by omega, show 8 * (t.length + 1) = 8 + 8 * t.length by omega, pIter_add, high8 hL 8 (Nat.le_refl _), steps8 hx 8 (Nat.le_refl _), Nat.sub_self, Nat.shiftLeft_zero, show 8 * t.length + 39 - 8 = 8 * t.length + 31 by omega, Nat.xor_comm]
    exact divides t (fun d hd => hc d (.tail _ hd)) _ (giter_lt 8 hx)
theorem crc_eq {t : List Nat} (hc : ∀ c ∈ t, c < 256) : pCrc t = regOf t ^^^ (2 ^ 32 - 1) := by
  have h := divides t hc (2 ^ 32 - 1) (by decide)
  have hm : rev32 (2 ^ 32 - 1) = 2 ^ 32 - 1 := by decide
  rw [hm] at h
  unfold pCrc pStart
  rw [h, rev32_rev32 (regF_lt hc (by decide))]
  rfl
theorem gstep_bit31 {x : Nat} (hx : x < 2 ^ 32) : (gstep x).testBit 31 = x.testBit 0 := by
  have hx0 : (x &&& 1 != 0) = x.testBit 0 := by have := bit_ne x 0; rwa [Nat.shiftRight_zero] at this
  unfold gstep
  rw [hx0]
  cases x.testBit 0 with
  | true => rw [if_pos rfl, Nat.testBit_xor, Nat.testBit_shiftRight, bit_lt (i := 1 + 31) hx (by omega)]; decide
  | false => rw [if_neg (by decide), Nat.testBit_shiftRight, bit_lt (i := 1 + 31) hx (by omega)]
theorem gstep_inj {x y : Nat} (hx : x < 2 ^ 32) (hy : y < 2 ^ 32) (h : gstep x = gstep y) : x = y := by
  have h0 : x.testBit 0 = y.testBit 0 := by rw [← gstep_bit31 hx, ← gstep_bit31 hy, h]
  have hx0 : (x &&& 1 != 0) = x.testBit 0 := by have := bit_ne x 0; rwa [Nat.shiftRight_zero] at this
  have hy0 : (y &&& 1 != 0) = y.testBit 0 := by have := bit_ne y 0; rwa [Nat.shiftRight_zero] at this
  have h1 : x >>> 1 = y >>> 1 := by
    unfold gstep at h
    rw [hx0, hy0, ← h0] at h
    cases hb : x.testBit 0 with
    | true =>
      rw [hb, if_pos rfl, if_pos rfl] at h
      have := congrArg (· ^^^ 3988292384) h
      simpa [Nat.xor_assoc] using this
    | false =>
      rw [hb, if_neg (by decide), if_neg (by decide)] at h
      exact h
  refine Nat.eq_of_testBit_eq fun i => ?_
  cases i with
  | zero => exact h0
  | succ i =>
    have := congrArg (fun n => n.testBit i) h1
    simp only [Nat.testBit_shiftRight] at this
    rwa [Nat.add_comm] at this
theorem giter_inj : ∀ n {x y : Nat}, x < 2 ^ 32 → y < 2 ^ 32 → giter n x = giter n y → x = y
  | 0, _, _, _, _, h => h
  | n + 1, _, _, hx, hy, h => giter_inj n hx hy (gstep_inj (giter_lt n hx) (giter_lt n hy) h)
theorem giter_add (a : Nat) : ∀ b x, giter (a + b) x = giter b (giter a x)
  | 0, _ => rfl
  | b + 1, x => congrArg gstep (giter_add a b x)
theorem gstep_shift (x y i : Nat) : gstep (x ^^^ (y <<< (i + 1))) = gstep x ^^^ (y <<< i) := by
  have hz0 : ∀ z : Nat, (z &&& 1 != 0) = z.testBit 0 := fun z => by have := bit_ne z 0; rwa [Nat.shiftRight_zero] at this
  have h0 : (x ^^^ (y <<< (i + 1))).testBit 0 = x.testBit 0 := by
    rw [Nat.testBit_xor, Nat.testBit_shiftLeft, decide_eq_false (show ¬ (0 ≥ i + 1) by omega)]; simp
  have h1 : (x ^^^ (y <<< (i + 1))) >>> 1 = (x >>> 1) ^^^ (y <<< i) := by
    refine Nat.eq_of_testBit_eq fun k => ?_
    simp only [Nat.testBit_shiftRight, Nat.testBit_xor, Nat.testBit_shiftLeft]
    rw [show decide (1 + k ≥ i + 1) = decide (k ≥ i) by rw [decide_eq_decide]; omega, show 1 + k - (i + 1) = k - i by omega]
  unfold gstep
  rw [hz0, hz0, h0, h1]
  cases x.testBit 0 with
  | true => rw [if_pos rfl, if_pos rfl, Nat.xor_assoc, Nat.xor_assoc, Nat.xor_comm (y <<< i)]
  | false => rw [if_neg (by decide), if_neg (by decide)]
theorem giter_shift (y : Nat) : ∀ n k x, giter n (x ^^^ (y <<< (n + k))) = giter n x ^^^ (y <<< k)
  | 0, k, x => by rw [Nat.zero_add]; rfl
  | n + 1, k, x => by
    show gstep (giter n _) = gstep (giter n x) ^^^ _
    rw [show n + 1 + k = n + (k + 1) by omega, giter_shift y n (k + 1) x, gstep_shift]
def wnum : List Nat → Nat
  | [] => 0
  | c :: t => c ^^^ (wnum t <<< 8)
theorem regF_wnum : ∀ (t : List Nat) (r : Nat), regF r t = giter (8 * t.length) (r ^^^ wnum t)
  | [], r => by show r = r ^^^ 0; simp
  | c :: t, r => by
    show regF (genCrc (r ^^^ c)) t = _
    have h := giter_shift (wnum t) 8 0 (r ^^^ c)
    rw [Nat.shiftLeft_zero] at h
    rw [regF_wnum t, List.length_cons, show 8 * (t.length + 1) = 8 + 8 * t.length by omega, giter_add]
    show giter _ (giter 8 (r ^^^ c) ^^^ wnum t) = giter _ (giter 8 (r ^^^ (c ^^^ (wnum t <<< 8))))
    rw [← h, Nat.xor_assoc]
theorem wnum_lt : ∀ {t : List Nat}, (∀ c ∈ t, c < 256) → wnum t < 2 ^ (8 * t.length)
  | [], _ => by decide
  | c :: t, h => by
    have h1 := wnum_lt (t := t) fun d hd => h d (.tail _ hd)
    have h2 := h c (.head _)
    rw [List.length_cons, show 8 * (t.length + 1) = 8 * t.length + 8 by omega]
    refine Nat.xor_lt_two_pow (Nat.lt_of_lt_of_le h2 ?_) ?_
    · exact Nat.pow_le_pow_right (n := 2) (by decide) (show 8 ≤ 8 * t.length + 8 by omega)
    · rw [Nat.shiftLeft_eq, Nat.pow_add]; exact Nat.mul_lt_mul_of_pos_right h1 (by decide)
theorem wnum_inj : ∀ {a b : List Nat}, a.length = b.length → (∀ c ∈ a, c < 256) → (∀ c ∈ b, c < 256) → wnum a = wnum b → a = b
  | [], [], _, _, _, _ => rfl
  | c :: a, d :: b, hl, ha, hb, h => by
    have hc := ha c (.head _)
    have hd := hb d (.head _)
    have low : ∀ (c : Nat) (t : List Nat), c < 256 → (wnum (c :: t)) % 2 ^ 8 = c := fun c t hc => by
      refine Nat.eq_of_testBit_eq fun i => ?_
      rw [Nat.testBit_mod_two_pow]
      show (decide (i < 8) && (c ^^^ (wnum t <<< 8)).testBit i) = _
      rw [Nat.testBit_xor, Nat.testBit_shiftLeft]
      by_cases h : i < 8
      · rw [decide_eq_true h, decide_eq_false (show ¬ (i ≥ 8) by omega)]; simp
      · rw [decide_eq_false h, bit_lt (x := c) (n := 8) hc (by omega)]; rfl
    have hi : ∀ (c : Nat) (t : List Nat), c < 256 → (wnum (c :: t)) >>> 8 = wnum t := fun c t hc => by
      refine Nat.eq_of_testBit_eq fun i => ?_
      rw [Nat.testBit_shiftRight]
      show (c ^^^ (wnum t <<< 8)).testBit (8 + i) = _
      rw [Nat.testBit_xor, Nat.testBit_shiftLeft, bit_lt (x := c) (n := 8) hc (by omega), decide_eq_true (show 8 + i ≥ 8 by omega), show 8 + i - 8 = i by omega]; simp
    have e1 : c = d := by rw [← low c a hc, ← low d b hd, h]
    have e2 : wnum a = wnum b := by rw [← hi c a hc, ← hi d b hd, h]
    rw [e1, wnum_inj (by simpa using hl) (fun x hx => ha x (.tail _ hx)) (fun x hx => hb x (.tail _ hx)) e2]
  | [], _ :: _, hl, _, _, _ => by simp at hl
  | _ :: _, [], hl, _, _, _ => by simp at hl
theorem regF_inj {r r' : Nat} (hr : r < 2 ^ 32) (hr' : r' < 2 ^ 32) : ∀ {t : List Nat}, (∀ c ∈ t, c < 256) → regF r t = regF r' t → r = r' := fun {t} => by
  induction t generalizing r r' with
  | nil => exact fun _ h => h
  | cons c t ih =>
    intro hc h
    have hc0 := hc c (.head _)
    have := ih (giter_lt 8 (xor_lt32 hr hc0)) (giter_lt 8 (xor_lt32 hr' hc0)) (fun d hd => hc d (.tail _ hd)) h
    have := giter_inj 8 (xor_lt32 hr hc0) (xor_lt32 hr' hc0) this
    have := congrArg (· ^^^ c) this
    simpa [Nat.xor_assoc] using this
theorem burst {r : Nat} (hr : r < 2 ^ 32) {a b : List Nat} (hl : a.length = b.length) (h4 : a.length ≤ 4) (ha : ∀ c ∈ a, c < 256) (hb : ∀ c ∈ b, c < 256) (h : regF r a = regF r b) : a = b := by
  rw [regF_wnum, regF_wnum, ← hl] at h
  have w1 : wnum a < 2 ^ 32 := Nat.lt_of_lt_of_le (wnum_lt ha) (Nat.pow_le_pow_right (by decide) (by omega))
  have w2 : wnum b < 2 ^ 32 := Nat.lt_of_lt_of_le (wnum_lt hb) (Nat.pow_le_pow_right (by decide) (by omega))
  have := giter_inj _ (Nat.xor_lt_two_pow hr w1) (Nat.xor_lt_two_pow hr w2) h
  have := congrArg (r ^^^ ·) this
  exact wnum_inj hl ha hb (by simpa [← Nat.xor_assoc] using this)
theorem regF_app (r : Nat) (a b : List Nat) : regF r (a ++ b) = regF (regF r a) b := List.foldl_append ..
end
section

theorem tbl_lt (i : Nat) : tbl.getD i 0 < 256 := by
  by_cases h : i < 8
  · have : ∀ i, i < 8 → tbl.getD i 0 < 256 := by decide
    exact this i h
  · rw [List.getD_eq_getElem?_getD, List.getElem?_eq_none (by simp [tbl]; omega)]; decide
theorem mData_lt (n : Nat) : ∀ c ∈ mData n, c < 256 := fun c hc => by
  obtain ⟨k, _, rfl⟩ := List.mem_map.mp hc
  exact tbl_lt _
theorem mSpoil_lt (n : Nat) : mSpoil n < 2 ^ 32 := by
  unfold mSpoil
  split
  · exact Nat.mod_lt _ (by decide)
  · decide
def mTail (n : Nat) : List Nat := (List.range (mSize n - mFirst n)).map fun i => (mData n).getD (mFirst n + i) 0 ^^^ (mSpoil n >>> (8 * i) &&& 255)
theorem and255_lt (y : Nat) : y &&& 255 < 2 ^ 8 := Nat.lt_of_le_of_lt Nat.and_le_right (by decide)
theorem getD_lt (n i : Nat) : (mData n).getD i 0 < 256 := by
  rw [List.getD_eq_getElem?_getD]
  cases h : (mData n)[i]? with
  | none => decide
  | some c => exact mData_lt n c (List.mem_of_getElem? h)
theorem mTail_lt (n : Nat) : ∀ c ∈ mTail n, c < 256 := fun c hc => by
  obtain ⟨k, _, rfl⟩ := List.mem_map.mp hc
  exact Nat.xor_lt_two_pow (n := 8) (getD_lt n _) (and255_lt _)
theorem mMeant_eq (n : Nat) : mMeant n = (mData n).take (mFirst n) ++ mTail n := rfl
theorem mMeant_lt (n : Nat) : ∀ c ∈ mMeant n, c < 256 := fun c hc => by
  rw [mMeant_eq] at hc
  rcases List.mem_append.mp hc with h | h
  · exact mData_lt n c (List.mem_of_mem_take h)
  · exact mTail_lt n c h
theorem mSize_le (n : Nat) : mSize n ≤ 5 := by unfold mSize; omega
theorem mTail_len (n : Nat) : (mTail n).length = ((mData n).drop (mFirst n)).length := by
  rw [List.length_drop, mData_len]; simp [mTail]
theorem tail_far (n : Nat) : (mTail n).drop 4 = ((mData n).drop (mFirst n)).drop 4 := by
  refine List.ext_getElem? fun i => ?_
  rw [List.getElem?_drop, List.getElem?_drop, List.getElem?_drop]
  have hz : mSpoil n >>> (8 * (4 + i)) = 0 := by
    rw [Nat.shiftRight_eq_div_pow]
    exact Nat.div_eq_of_lt (Nat.lt_of_lt_of_le (mSpoil_lt n) (Nat.pow_le_pow_right (by decide) (by omega)))
  by_cases h : 4 + i < mSize n - mFirst n
  · have h2 : mFirst n + (4 + i) < (mData n).length := by rw [mData_len]; omega
    unfold mTail
    rw [List.getElem?_map, List.getElem?_range h]
    show some ((mData n).getD (mFirst n + (4 + i)) 0 ^^^ (mSpoil n >>> (8 * (4 + i)) &&& 255)) = _
    rw [hz, Nat.zero_and, Nat.xor_zero, List.getD_eq_getElem?_getD, List.getElem?_eq_getElem h2]; rfl
  · rw [List.getElem?_eq_none (by simp [mTail]; omega), List.getElem?_eq_none (by rw [mData_len]; omega)]
theorem member_ok (n : Nat) : mOk (mData n, pCrc (mMeant n)) = (mData n == mMeant n) := by
  have e1 : mOk (mData n, pCrc (mMeant n)) = (regOf (mData n) == regOf (mMeant n)) := by
    unfold mOk
    show ((regOf (mData n) ^^^ (2 ^ 32 - 1)) == pCrc (mMeant n)) = _
    rw [crc_eq (mMeant_lt n), Bool.eq_iff_iff, beq_iff_eq, beq_iff_eq]
    refine ⟨fun h => ?_, fun h => by rw [h]⟩
    have := congrArg (· ^^^ (2 ^ 32 - 1)) h
    simpa only [Nat.xor_assoc, Nat.xor_self, Nat.xor_zero] using this
  rw [e1, Bool.eq_iff_iff, beq_iff_eq, beq_iff_eq]
  refine ⟨fun h => ?_, fun h => congrArg regOf h⟩
  have hM : (2 ^ 32 - 1 : Nat) < 2 ^ 32 := by decide
  have hd : mData n = (mData n).take (mFirst n) ++ (((mData n).drop (mFirst n)).take 4 ++ ((mData n).drop (mFirst n)).drop 4) := by rw [List.take_append_drop, List.take_append_drop]
  have hm : mMeant n = (mData n).take (mFirst n) ++ ((mTail n).take 4 ++ ((mData n).drop (mFirst n)).drop 4) := by rw [← tail_far, List.take_append_drop, ← mMeant_eq]
  have hlt : ∀ c ∈ (mData n).take (mFirst n), c < 256 := fun c hc => mData_lt n c (List.mem_of_mem_take hc)
  have hlt1 : ∀ c ∈ ((mData n).drop (mFirst n)).take 4, c < 256 := fun c hc => mData_lt n c (List.mem_of_mem_drop (List.mem_of_mem_take hc))
  have hlt2 : ∀ c ∈ (mTail n).take 4, c < 256 := fun c hc => mTail_lt n c (List.mem_of_mem_take hc)
  have hlt3 : ∀ c ∈ ((mData n).drop (mFirst n)).drop 4, c < 256 := fun c hc => mData_lt n c (List.mem_of_mem_drop (List.mem_of_mem_drop hc))
  have h' : regF (2 ^ 32 - 1) (mData n) = regF (2 ^ 32 - 1) (mMeant n) := h
  rw [hd, hm, regF_app, regF_app, regF_app, regF_app] at h'
  have r0 := regF_lt hlt hM
  have h2 := regF_inj (regF_lt hlt1 r0) (regF_lt hlt2 r0) hlt3 h'
  have h3 := burst r0 (by rw [List.length_take, List.length_take, mTail_len]) (by rw [List.length_take]; omega) hlt1 hlt2 h2
  rw [hm, ← h3, ← hd]
end
section

def cutRun (st : CutS) : Nat → List Nat → CutS
  | _, [] => st
  | k, c :: r => cutRun (cutStep st k c) (k + 1) r
theorem cutRun_app (b : List Nat) : ∀ (a : List Nat) (st : CutS) (k : Nat), cutRun st k (a ++ b) = cutRun (cutRun st k a) (k + a.length) b
  | [], _, _ => rfl
  | c :: a, st, k => by
    show cutRun (cutStep st k c) (k + 1) (a ++ b) = _
    rw [cutRun_app b a, List.length_cons, show k + 1 + a.length = k + (a.length + 1) by omega]; rfl
theorem cutSt_run (t : List Nat) : ∀ i, i ≤ t.length → cutSt t i = cutRun ⟨[], none, [], false⟩ 0 (t.take i)
  | 0, _ => by rw [List.take_zero]; rfl
  | i + 1, h => by
    have hk : t[i]? = some (t.getD i 0) := by rw [List.getD_eq_getElem?_getD, List.getElem?_eq_getElem (by omega)]; rfl
    rw [List.take_add_one, hk, Option.toList_some, cutRun_app, ← cutSt_run t i (by omega), Nat.zero_add, List.length_take, Nat.min_eq_left (by omega)]
    rfl
theorem wsL_T (c : Nat) : decide (c ∈ wsT) = decide (c ∈ wsL) := by
  rw [decide_eq_decide]; simp [wsT, wsL]; omega
def finQ (q : Bool) : List Nat := if q then [34] else wsL
theorem inFin (q : Bool) (c : Nat) : (if q then c == 34 else decide (c ∈ wsT)) = decide (c ∈ finQ q) := by
  cases q with
  | true => rw [Bool.eq_iff_iff]; simp only [finQ, if_true, beq_iff_eq, decide_eq_true_eq, List.mem_singleton]
  | false => simp only [Bool.false_eq_true, if_false]; rw [wsL_T]; rfl
/-- what comes behind the signs -/
def Tl (tail : List Evt) : Prop := tail = [] ∨ ∃ k r, tail = .bad k :: r
theorem c92_fin (q : Bool) : (92 : Nat) ∉ finQ q := by cases q <;> decide
/-- within a word -/
theorem in_cut {tail : List Evt} (hT : Tl tail) (q : Bool) (ws : List (List Nat × Nat)) : ∀ (n : Nat) (t : List Nat), t.length ≤ n → ∀ (acc : List Nat) (k : Nat),
    (∃ w t₁ t₂, t = t₁ ++ t₂ ∧ t₁ ≠ [] ∧ tkIn q acc (t.map .ch ++ tail) = .word w (t₂.map .ch ++ tail) ∧ cutRun ⟨ws, some acc, finQ q, false⟩ k t = cutRun ⟨ws ++ [(w, k + t₁.length)], none, finQ q, false⟩ (k + t₁.length) t₂) ∨
    (∃ w hl, cutRun ⟨ws, some acc, finQ q, false⟩ k t = ⟨ws, some w, finQ q, hl⟩ ∧ (tail = [] → tkIn q acc (t.map .ch ++ tail) = .word w []) ∧ ∀ kk r, tail = .bad kk :: r → tkIn q acc (t.map .ch ++ tail) = .err kk r)
  | n, [], _, acc, k => by
    refine .inr ⟨acc, false, rfl, ?_, ?_⟩
    · rintro rfl; simp [tkIn]
    · rintro kk r rfl; simp [tkIn]
  | n + 1, c :: t, hn, acc, k => by
    have hn' : t.length ≤ n := by simpa using hn
    have e : tkIn q acc ((c :: t).map .ch ++ tail) = tkIn q acc (.ch c :: (t.map .ch ++ tail)) := rfl
    rw [e, tkIn_ch, inFin]
    by_cases hf : c ∈ finQ q
    · have h92 : c ≠ 92 := fun z => c92_fin q (z ▸ hf)
      refine .inl ⟨acc, [c], t, rfl, by simp, if_pos (decide_eq_true hf), ?_⟩
      show cutRun (cutStep ⟨ws, some acc, finQ q, false⟩ k c) (k + 1) t = _
      unfold cutStep
      rw [if_neg (by simpa using h92)]
      dsimp only
      rw [decide_eq_true hf, if_pos (show (!false && true) = true from rfl)]; rfl
    · rw [if_neg (by simpa using hf)]
      by_cases h92 : c = 92
      · subst h92
        rw [if_pos (by decide)]
        have e1 : cutStep ⟨ws, some acc, finQ q, false⟩ k 92 = ⟨ws, some acc, finQ q, true⟩ := rfl
        cases t with
        | nil =>
          refine .inr ⟨acc, true, e1, ?_, ?_⟩
          · rintro rfl; rfl
          · rintro kk r rfl; rfl
        | cons d t =>
          have e2 : cutStep ⟨ws, some acc, finQ q, true⟩ (k + 1) d = ⟨ws, some (acc ++ [d]), finQ q, false⟩ := by
            unfold cutStep; rw [if_neg (by simp)]; dsimp only; rw [if_neg (by simp)]
          have e3 : cutRun ⟨ws, some acc, finQ q, false⟩ k (92 :: d :: t) = cutRun ⟨ws, some (acc ++ [d]), finQ q, false⟩ (k + 2) t := by
            show cutRun (cutStep (cutStep _ k 92) (k + 1) d) (k + 1 + 1) t = _
            rw [e1, e2]
          rw [e3]
          rcases in_cut hT q ws n t (by simp at hn'; omega) (acc ++ [d]) (k + 2) with ⟨w, t₁, t₂, h1, h2, h3, h4⟩ | ⟨w, hl, h1, h2, h3⟩
          · refine .inl ⟨w, 92 :: d :: t₁, t₂, by rw [h1]; rfl, by simp, h3, ?_⟩
            rw [h4, List.length_cons, List.length_cons, show k + 2 + t₁.length = k + (t₁.length + 1 + 1) by omega]
          · exact .inr ⟨w, hl, h1, h2, h3⟩
      · rw [if_neg (by simpa using h92)]
        have e1 : cutStep ⟨ws, some acc, finQ q, false⟩ k c = ⟨ws, some (acc ++ [c]), finQ q, false⟩ := by
          unfold cutStep; rw [if_neg (by simpa using h92)]; dsimp only; rw [if_neg (by simpa using hf)]
        have e3 : cutRun ⟨ws, some acc, finQ q, false⟩ k (c :: t) = cutRun ⟨ws, some (acc ++ [c]), finQ q, false⟩ (k + 1) t := by
          show cutRun (cutStep _ k c) (k + 1) t = _
          rw [e1]
        rw [e3]
        rcases in_cut hT q ws n t hn' (acc ++ [c]) (k + 1) with ⟨w, t₁, t₂, h1, h2, h3, h4⟩ | ⟨w, hl, h1, h2, h3⟩
        · refine .inl ⟨w, c :: t₁, t₂, by rw [h1]; rfl, by simp, h3, ?_⟩
          rw [h4, List.length_cons, show k + 1 + t₁.length = k + (t₁.length + 1) by omega]
        · exact .inr ⟨w, hl, h1, h2, h3⟩
/-- ahead of a word -/
theorem skip_cut {tail : List Evt} (hT : Tl tail) (ws : List (List Nat × Nat)) (fin : List Nat) : ∀ (t : List Nat) (k : Nat),
    (∃ w t₁ t₂ f, t = t₁ ++ t₂ ∧ t₁ ≠ [] ∧ tkSkip (t.map .ch ++ tail) = .word w (t₂.map .ch ++ tail) ∧ cutRun ⟨ws, none, fin, false⟩ k t = cutRun ⟨ws ++ [(w, k + t₁.length)], none, f, false⟩ (k + t₁.length) t₂) ∨
    (∃ wd f hl, cutRun ⟨ws, none, fin, false⟩ k t = ⟨ws, wd, f, hl⟩ ∧ (tail = [] → tkSkip (t.map .ch ++ tail) = .word (wd.getD []) []) ∧ ∀ kk r, tail = .bad kk :: r → tkSkip (t.map .ch ++ tail) = .err kk r)
  | [], k => by
    refine .inr ⟨none, fin, false, rfl, ?_, ?_⟩
    · rintro rfl; rfl
    · rintro kk r rfl; rfl
  | c :: t, k => by
    have e : tkSkip ((c :: t).map .ch ++ tail) = tkSkip (.ch c :: (t.map .ch ++ tail)) := rfl
    rw [e, tkSkip_ch, wsL_T]
    have fromIn : ∀ (q : Bool) (acc pre t' : List Nat) (T : TokR), c :: t = pre ++ t' → pre ≠ [] → cutRun ⟨ws, none, fin, false⟩ k (c :: t) = cutRun ⟨ws, some acc, finQ q, false⟩ (k + pre.length) t' → T = tkIn q acc (t'.map .ch ++ tail) →
        (∃ w t₁ t₂ f, c :: t = t₁ ++ t₂ ∧ t₁ ≠ [] ∧ T = .word w (t₂.map .ch ++ tail) ∧ cutRun ⟨ws, none, fin, false⟩ k (c :: t) = cutRun ⟨ws ++ [(w, k + t₁.length)], none, f, false⟩ (k + t₁.length) t₂) ∨
        (∃ wd f hl, cutRun ⟨ws, none, fin, false⟩ k (c :: t) = ⟨ws, wd, f, hl⟩ ∧ (tail = [] → T = .word (wd.getD []) []) ∧ ∀ kk r, tail = .bad kk :: r → T = .err kk r) := by
      intro q acc pre t' T hp hne hc hTT
      rcases in_cut hT q ws t'.length t' (Nat.le_refl _) acc (k + pre.length) with ⟨w, t₁, t₂, h1, h2, h3, h4⟩ | ⟨w, hl, h1, h2, h3⟩
      · refine .inl ⟨w, pre ++ t₁, t₂, finQ q, by rw [hp, h1, List.append_assoc], by simp [hne], hTT.trans h3, ?_⟩
        rw [hc, h4, List.length_append, Nat.add_assoc]
      · exact .inr ⟨some w, finQ q, hl, hc.trans h1, fun z => hTT.trans (h2 z), fun kk r z => hTT.trans (h3 kk r z)⟩
    by_cases hf : c ∈ wsL
    · have h92 : c ≠ 92 := fun z => absurd hf (by rw [z]; decide)
      rw [if_pos (decide_eq_true hf)]
      have e3 : cutRun ⟨ws, none, fin, false⟩ k (c :: t) = cutRun ⟨ws, none, fin, false⟩ (k + 1) t := by
        show cutRun (cutStep _ k c) (k + 1) t = _
        unfold cutStep
        rw [if_neg (by simpa using h92)]; dsimp only; rw [if_neg (by simpa using hf)]
      rw [e3]
      rcases skip_cut hT ws fin t (k + 1) with ⟨w, t₁, t₂, f, h1, h2, h3, h4⟩ | ⟨w, f, hl, h1, h2, h3⟩
      · refine .inl ⟨w, c :: t₁, t₂, f, by rw [h1]; rfl, by simp, h3, ?_⟩
        rw [h4, List.length_cons, show k + 1 + t₁.length = k + (t₁.length + 1) by omega]
      · exact .inr ⟨w, f, hl, h1, h2, h3⟩
    · rw [if_neg (by simpa using hf)]
      by_cases h34 : c = 34
      · subst h34
        rw [if_pos (by decide)]
        refine fromIn true [] [34] t _ rfl (by simp) ?_ rfl
        show cutRun (cutStep _ k 34) (k + 1) t = _
        rfl
      · rw [if_neg (by simpa using h34)]
        by_cases h92 : c = 92
        · subst h92
          rw [if_pos (by decide)]
          cases t with
          | nil =>
            refine .inr ⟨none, fin, true, rfl, ?_, ?_⟩
            · rintro rfl; rfl
            · rintro kk r rfl; rfl
          | cons d t =>
            refine fromIn false [d] [92, d] t _ rfl (by simp) ?_ rfl
            show cutRun (cutStep (cutStep _ k 92) (k + 1) d) (k + 1 + 1) t = _
            have e1 : cutStep ⟨ws, none, fin, false⟩ k 92 = ⟨ws, none, fin, true⟩ := rfl
            have e2 : cutStep ⟨ws, none, fin, true⟩ (k + 1) d = ⟨ws, some [d], wsL, false⟩ := by
              unfold cutStep; rw [if_neg (by simp)]; dsimp only; rw [if_pos (by simp), if_neg (by simp)]
            rw [e1, e2]; rfl
        · rw [if_neg (by simpa using h92)]
          refine fromIn false [c] [c] t _ rfl (by simp) ?_ rfl
          show cutRun (cutStep _ k c) (k + 1) t = _
          have e1 : cutStep ⟨ws, none, fin, false⟩ k c = ⟨ws, some [c], wsL, false⟩ := by
            unfold cutStep; rw [if_neg (by simpa using h92)]; dsimp only; rw [if_pos (by simpa using hf), if_neg (by simpa using h34)]
          rw [e1]; rfl
theorem runC_word {tot n : Nat} {es : List Evt} {pb pb' : List (List Nat)} {t : List Nat} {r : List Evt} (h : stepTok es pb = (.word t r, pb')) : runC tot (n + 1) es pb = (some t, tot - cnt r) :: runC tot n r pb' := by
  simp only [runC, h]
theorem cnt_app (a b : List Evt) : cnt (a ++ b) = cnt a + cnt b := by
  induction a with
  | nil => simp [cnt]
  | cons e a ih => cases e <;> simp [cnt, ih]; omega
theorem cnt_map (t : List Nat) : cnt (t.map .ch) = t.length := by
  induction t with
  | nil => rfl
  | cons c t ih => simp [cnt, ih]
theorem cut_mono (ws : List (List Nat × Nat)) : ∀ (t : List Nat) (st : CutS) (k : Nat) (wd f hl), st = ⟨ws, wd, f, hl⟩ → ∃ W wd' f' hl', cutRun st k t = ⟨ws ++ W, wd', f', hl'⟩
  | [], st, k, wd, f, hl, e => ⟨[], wd, f, hl, by rw [e, List.append_nil]; rfl⟩
  | c :: t, st, k, wd, f, hl, e => by
    show ∃ W wd' f' hl', cutRun (cutStep st k c) (k + 1) t = _
    have key : ∃ W₁ wd₁ f₁ hl₁, cutStep st k c = ⟨ws ++ W₁, wd₁, f₁, hl₁⟩ := by
      rw [e]
      unfold cutStep
      split
      · exact ⟨[], wd, f, true, by rw [List.append_nil]⟩
      · cases wd with
        | none => dsimp only; split <;> (try split) <;> exact ⟨[], _, _, _, by rw [List.append_nil]⟩
        | some t =>
          dsimp only
          split
          · exact ⟨[(t, k + 1)], _, _, _, rfl⟩
          · exact ⟨[], _, _, _, by rw [List.append_nil]⟩
    obtain ⟨W₁, wd₁, f₁, hl₁, h1⟩ := key
    obtain ⟨W, wd', f', hl', h2⟩ := cut_mono (ws ++ W₁) t (cutStep st k c) (k + 1) wd₁ f₁ hl₁ h1
    exact ⟨W₁ ++ W, wd', f', hl', by rw [h2, List.append_assoc]⟩
/-- a piece that ends with a spoilt member -/
theorem piece_bad {tot b0 kk : Nat} {rest : List Evt} : ∀ (n : Nat) (t : List Nat), t.length ≤ n → ∀ (ws : List (List Nat × Nat)) (fin : List Nat) (k m : Nat), tot = b0 + k + t.length + cnt rest → ∃ W wd f hl, cutRun ⟨ws, none, fin, false⟩ k t = ⟨ws ++ W, wd, f, hl⟩ ∧
    runC tot (W.length + 3 + m) (t.map .ch ++ .bad kk :: rest) [] = W.map (fun p => (some p.1, b0 + p.2)) ++ ((none, b0 + k + t.length) :: (some (bad ++ [letters.getD kk 0]), b0 + k + t.length) :: (some [letters.getD kk 0], b0 + k + t.length) :: runC tot m rest []) := by
  intro n
  induction n with
  | zero => 
    intro t ht ws fin k m htot
    obtain rfl := List.length_eq_zero_iff.mp (Nat.le_zero.mp ht)
    refine ⟨[], none, fin, false, by rw [List.append_nil]; rfl, ?_⟩
    have hc : tot - cnt rest = b0 + k := by simp at htot; omega
    show runC tot (0 + 3 + m) (.bad kk :: rest) [] = _
    rw [show 0 + 3 + m = m + 1 + 1 + 1 by omega]
    simp only [runC, stepTok, tkSkip, List.nil_append, hc]
    simp
  | succ n ih =>
    intro t ht ws fin k m htot
    rcases skip_cut (tail := .bad kk :: rest) (.inr ⟨kk, rest, rfl⟩) ws fin t k with ⟨w, t₁, t₂, f, h1, h2, h3, h4⟩ | ⟨wd, f, hl, h1, h2, h3⟩
    · have hl1 : t.length = t₁.length + t₂.length := by rw [h1, List.length_append]
      have hp : 0 < t₁.length := List.length_pos_iff.mpr h2
      obtain ⟨W, wd, f', hl, g1, g2⟩ := ih t₂ (by omega) (ws ++ [(w, k + t₁.length)]) f (k + t₁.length) m (by omega)
      refine ⟨(w, k + t₁.length) :: W, wd, f', hl, by rw [h4, g1, List.append_assoc]; rfl, ?_⟩
      have hc : tot - cnt (t₂.map .ch ++ .bad kk :: rest) = b0 + (k + t₁.length) := by
        rw [cnt_app, cnt_map]; simp only [cnt]; omega
      rw [List.length_cons, show W.length + 1 + 3 + m = W.length + 3 + m + 1 by omega]
      simp only [runC, stepTok, h3, hc, g2, List.map_cons, List.cons_append]
      rw [show b0 + (k + t₁.length) + t₂.length = b0 + k + t.length by omega]
    · refine ⟨[], wd, f, hl, by rw [h1, List.append_nil], ?_⟩
      have hc : tot - cnt rest = b0 + k + t.length := by omega
      rw [show ([] : List (List Nat × Nat)).length + 3 + m = m + 1 + 1 + 1 by simp; omega]
      simp only [runC, stepTok, h3 kk rest rfl, hc, List.nil_append, List.map_nil]
/-- the last piece -/
theorem piece_last {tot b0 : Nat} : ∀ (n : Nat) (t : List Nat), t.length ≤ n → ∀ (ws : List (List Nat × Nat)) (fin : List Nat) (k : Nat), tot = b0 + k + t.length → ∃ W wd f hl, cutRun ⟨ws, none, fin, false⟩ k t = ⟨ws ++ W, wd, f, hl⟩ ∧
    runC tot (W.length + 3) (t.map .ch) [] = W.map (fun p => (some p.1, b0 + p.2)) ++ [(some (wd.getD []), tot), (some [], tot), (some [], tot)] := by
  intro n
  induction n with
  | zero =>
    intro t ht ws fin k htot
    obtain rfl := List.length_eq_zero_iff.mp (Nat.le_zero.mp ht)
    refine ⟨[], none, fin, false, by rw [List.append_nil]; rfl, ?_⟩
    simp [runC, stepTok, tkSkip, cnt]
  | succ n ih =>
    intro t ht ws fin k htot
    rcases skip_cut (tail := []) (.inl rfl) ws fin t k with ⟨w, t₁, t₂, f, h1, h2, h3, h4⟩ | ⟨wd, f, hl, h1, h2, h3⟩
    · have hl1 : t.length = t₁.length + t₂.length := by rw [h1, List.length_append]
      have hp : 0 < t₁.length := List.length_pos_iff.mpr h2
      obtain ⟨W, wd, f', hl, g1, g2⟩ := ih t₂ (by omega) (ws ++ [(w, k + t₁.length)]) f (k + t₁.length) (by omega)
      refine ⟨(w, k + t₁.length) :: W, wd, f', hl, by rw [h4, g1, List.append_assoc]; rfl, ?_⟩
      rw [List.append_nil, List.append_nil] at h3
      have hc : tot - cnt (t₂.map .ch) = b0 + (k + t₁.length) := by
        rw [cnt_map]; omega
      rw [List.length_cons, show W.length + 1 + 3 = W.length + 3 + 1 by omega]
      rw [runC_word (t := w) (r := t₂.map .ch) (pb' := []) (by rw [stepTok, h3]), hc, g2]; rfl
    · refine ⟨[], wd, f, hl, by rw [h1, List.append_nil], ?_⟩
      have h5 := h2 rfl
      rw [List.append_nil] at h5
      simp [runC, stepTok, h5, tkSkip, cnt]
end
section

def three (kk e : Nat) : List (Option (List Nat) × Nat) := [(none, e), (some (bad ++ [letters.getD kk 0]), e), (some [letters.getD kk 0], e)]
def dueRec (text : List Nat) : Nat → Nat → Nat → List (List Nat × List Nat) → List (Option (List Nat) × Nat)
  | beg, _, _, [] => pieceWords text beg text.length ++ [(some ((cutSt (text.drop beg) (text.length - beg)).word.getD []), text.length), (some [], text.length), (some [], text.length)]
  | beg, fin, k, p :: r => if p.1 != p.2 then pieceWords text beg (fin + p.1.length) ++ three k (fin + p.1.length) ++ dueRec text (fin + p.1.length) (fin + p.1.length) (k + 1) r
    else dueRec text beg (fin + p.1.length) (k + 1) r
theorem dueL_rec (ps : List (List Nat × List Nat)) : ∀ i, i ≤ ps.length → dueL ps = (dueSt ps i).due ++ dueRec (dText ps) (dueSt ps i).beg (dueSt ps i).fin i (ps.drop i) := by
  intro i hi
  have key : ∀ j, j ≤ ps.length → dueL ps = (dueSt ps (ps.length - j)).due ++ dueRec (dText ps) (dueSt ps (ps.length - j)).beg (dueSt ps (ps.length - j)).fin (ps.length - j) (ps.drop (ps.length - j)) := by
    intro j
    induction j with
    | zero =>
      intro _
      rw [Nat.sub_zero, List.drop_length]
      unfold dueL dueRec
      dsimp only
      rw [List.append_assoc]
    | succ j ih =>
      intro hj
      have h1 := ih (by omega)
      rw [h1]
      obtain ⟨i, hi⟩ : ∃ i, i = ps.length - (j + 1) := ⟨_, rfl⟩
      rw [show ps.length - j = i + 1 by omega, show ps.length - (j + 1) = i by omega]
      have hlt : i < ps.length := by omega
      have hd : ps.drop i = ps.getD i ([], []) :: ps.drop (i + 1) := by
        rw [List.drop_eq_getElem_cons hlt, List.getD_eq_getElem?_getD, List.getElem?_eq_getElem hlt]; rfl
      rw [hd]
      show (dueStep (dText ps) (dueSt ps i) i (ps.getD i ([], []))).due ++ dueRec _ (dueStep (dText ps) (dueSt ps i) i (ps.getD i ([], []))).beg (dueStep (dText ps) (dueSt ps i) i (ps.getD i ([], []))).fin _ _ = _
      generalize ps.getD i ([], []) = p
      generalize dueSt ps i = st
      unfold dueStep
      rw [show dueRec (dText ps) st.beg st.fin i (p :: ps.drop (i + 1)) = if p.1 != p.2 then pieceWords (dText ps) st.beg (st.fin + p.1.length) ++ three i (st.fin + p.1.length) ++ dueRec (dText ps) (st.fin + p.1.length) (st.fin + p.1.length) (i + 1) (ps.drop (i + 1))
        else dueRec (dText ps) st.beg (st.fin + p.1.length) (i + 1) (ps.drop (i + 1)) from rfl]
      dsimp only
      split
      · simp only [three, List.append_assoc]
      · rfl
  have := key (ps.length - i) (by omega)
  rwa [show ps.length - (ps.length - i) = i by omega] at this
def msOf (ps : List (List Nat × List Nat)) : List (List Nat × Nat) := ps.map fun p => (p.1, pCrc p.2)
theorem piece_words {text : List Nat} {b e : Nat} (hbe : b ≤ e) (he : e ≤ text.length) {W : List (List Nat × Nat)} {wd f hl} (h : cutRun ⟨[], none, [], false⟩ 0 ((text.drop b).take (e - b)) = ⟨[] ++ W, wd, f, hl⟩) : pieceWords text b e = W.map (fun p => (some p.1, b + p.2)) := by
  have hlen : ((text.drop b).take (e - b)).length = e - b := by rw [List.length_take, List.length_drop]; omega
  unfold pieceWords
  rw [cutSt_run _ _ (Nat.le_of_eq hlen.symm), List.take_of_length_le (Nat.le_of_eq hlen), h]; rfl
theorem run_due (text : List Nat) : ∀ (r : List (List Nat × List Nat)) (k beg fin : Nat) (pre : List Nat), (∀ p ∈ r, mOk (p.1, pCrc p.2) = (p.1 == p.2)) → text = pre ++ dText r → fin = pre.length → beg ≤ fin →
    runC text.length (dueRec text beg fin k r).length (((text.drop beg).take (fin - beg)).map .ch ++ evsFrom k (msOf r)) [] = dueRec text beg fin k r
  | [], k, beg, fin, pre, _, ht, hf, hb => by
    have hfl : fin = text.length := by rw [ht]; simp [dText, hf]
    subst hfl
    have hlen : ((text.drop beg).take (text.length - beg)).length = text.length - beg := by rw [List.length_take, List.length_drop]; omega
    obtain ⟨W, wd, f, hl, h1, h2⟩ := piece_last (tot := text.length) (b0 := beg) _ ((text.drop beg).take (text.length - beg)) (Nat.le_refl _) [] [] 0 (by rw [hlen]; omega)
    have hw := piece_words hb (Nat.le_refl _) h1
    have hwd : (cutSt (text.drop beg) (text.length - beg)).word = wd := by
      rw [cutSt_run _ _ (by rw [List.length_drop]; omega), h1]
    show runC _ _ ((((text.drop beg).take (text.length - beg)).map .ch) ++ []) [] = _
    rw [List.append_nil, dueRec, hw, hwd, List.length_append, List.length_map]
    exact h2
  | p :: r, k, beg, fin, pre, hok, ht, hf, hb => by
    have hd : dText (p :: r) = p.1 ++ dText r := rfl
    have ht' : text = (pre ++ p.1) ++ dText r := by rw [ht, hd, List.append_assoc]
    have hl' : fin + p.1.length = (pre ++ p.1).length := by rw [List.length_append, hf]
    have he : fin + p.1.length ≤ text.length := by rw [hl', ht']; simp only [List.length_append]; omega
    have cat : (text.drop beg).take (fin - beg) ++ p.1 = (text.drop beg).take (fin + p.1.length - beg) := by
      rw [show fin + p.1.length - beg = (fin - beg) + p.1.length by omega, List.take_add]
      congr 1
      rw [List.drop_drop, show beg + (fin - beg) = fin by omega, ht, hf, List.drop_left, hd, List.take_left]
    have ev : evsFrom k (msOf (p :: r)) = p.1.map .ch ++ ((if p.1 == p.2 then [] else [.bad k]) ++ evsFrom (k + 1) (msOf r)) := by
      show mEvs k (p.1, pCrc p.2) ++ evsFrom (k + 1) (msOf r) = _
      unfold mEvs
      rw [hok p (.head _), List.append_assoc]
    have hok' : ∀ p ∈ r, mOk (p.1, pCrc p.2) = (p.1 == p.2) := fun q hq => hok q (.tail _ hq)
    rw [ev, ← List.append_assoc, ← List.map_append, cat]
    cases hc : p.1 == p.2 with
    | true =>
      have hn : (p.1 != p.2) = false := by rw [bne, hc]; rfl
      rw [dueRec, if_neg (by rw [hn]; decide), if_pos rfl, List.nil_append]
      exact run_due text r (k + 1) beg (fin + p.1.length) (pre ++ p.1) hok' ht' hl' (by omega)
    | false =>
      have hn : (p.1 != p.2) = true := by rw [bne, hc]; rfl
      rw [dueRec, if_pos hn, if_neg (by decide)]
      have ih := run_due text r (k + 1) (fin + p.1.length) (fin + p.1.length) (pre ++ p.1) hok' ht' hl' (Nat.le_refl _)
      rw [Nat.sub_self, List.take_zero] at ih
      have hlen : ((text.drop beg).take (fin + p.1.length - beg)).length = fin + p.1.length - beg := by rw [List.length_take, List.length_drop]; omega
      have hcnt : text.length = beg + 0 + ((text.drop beg).take (fin + p.1.length - beg)).length + cnt (evsFrom (k + 1) (msOf r)) := by
        have h9 : text.length = fin + p.1.length + (dText r).length := by rw [hl']; conv => lhs; rw [ht', List.length_append]
        rw [hlen, evs_cnt]; omega
      obtain ⟨W, wd, f, hl, h1, h2⟩ := piece_bad (kk := k) _ ((text.drop beg).take (fin + p.1.length - beg)) (Nat.le_refl _) [] [] 0 (dueRec text (fin + p.1.length) (fin + p.1.length) (k + 1) r).length hcnt
      have hw := piece_words (by omega) he h1
      rw [hw]
      rw [hlen, show beg + 0 + (fin + p.1.length - beg) = fin + p.1.length by omega] at h2
      rw [List.length_append, List.length_append, List.length_map, show (three k (fin + p.1.length)).length = 3 from rfl]
      show runC _ _ (_ ++ (Evt.bad k :: evsFrom (k + 1) (msOf r))) [] = _
      rw [h2, ← List.nil_append (evsFrom (k + 1) (msOf r))]
      have ih' : runC text.length (dueRec text (fin + p.1.length) (fin + p.1.length) (k + 1) r).length ([] ++ evsFrom (k + 1) (msOf r)) [] = _ := ih
      rw [ih']
      simp [three]
where
  evs_cnt {k : Nat} {r : List (List Nat × List Nat)} : cnt (evsFrom k (msOf r)) = (dText r).length := by
    induction r generalizing k with
    | nil => rfl
    | cons p r ih =>
      show cnt (mEvs k (p.1, pCrc p.2) ++ evsFrom (k + 1) (msOf r)) = (p.1 ++ dText r).length
      rw [cnt_app, ih, List.length_append]
      unfold mEvs
      rw [cnt_app, cnt_map]
      split <;> simp [cnt]
theorem run_eq (ps : List (List Nat × List Nat)) (hok : ∀ p ∈ ps, mOk (p.1, pCrc p.2) = (p.1 == p.2)) : runC (dText ps).length (dueL ps).length (evsFrom 0 (msOf ps)) [] = dueL ps := by
  have h := dueL_rec ps 0 (Nat.zero_le _)
  rw [show (dueSt ps 0).due = [] from rfl, List.nil_append, List.drop_zero, show (dueSt ps 0).beg = 0 from rfl, show (dueSt ps 0).fin = 0 from rfl] at h
  have := run_due (dText ps) ps 0 0 0 [] hok rfl rfl (Nat.le_refl _)
  rw [h]
  exact this
theorem evs_chars (ps : List (List Nat × List Nat)) : ∀ k, chars (evsFrom k (msOf ps)) = dText ps := by
  have app : ∀ a b : List Evt, chars (a ++ b) = chars a ++ chars b := by
    intro a b
    induction a with
    | nil => rfl
    | cons e a ih => cases e <;> simp [chars, ih]
  have mp : ∀ t : List Nat, chars (t.map .ch) = t := by
    intro t
    induction t with
    | nil => rfl
    | cons c t ih => simp [chars, ih]
  induction ps with
  | nil => intro k; rfl
  | cons p r ih =>
    intro k
    show chars (mEvs k (p.1, pCrc p.2) ++ evsFrom (k + 1) (msOf r)) = p.1 ++ dText r
    rw [app, ih]
    unfold mEvs
    rw [app, mp]
    split <;> simp [chars]
theorem evs_len (ps : List (List Nat × List Nat)) : ∀ k, (evsFrom k (msOf ps)).length ≤ (dText ps).length + ps.length := by
  induction ps with
  | nil => intro k; exact Nat.zero_le _
  | cons p r ih =>
    intro k
    show (mEvs k (p.1, pCrc p.2) ++ evsFrom (k + 1) (msOf r)).length ≤ (p.1 ++ dText r).length + (r.length + 1)
    have := ih (k + 1)
    unfold mEvs
    rw [List.length_append, List.length_append, List.length_append, List.length_map]
    have h1 : (if mOk (p.1, pCrc p.2) = true then ([] : List Evt) else [.bad k]).length ≤ 1 := by split <;> simp
    dsimp only
    omega
theorem dueL_len (ps : List (List Nat × List Nat)) (hps : ps.length ≤ 5) (hl : (dText ps).length ≤ 100) : (dueL ps).length ≤ 1000 := by
  have h1 := due_len ps hl ps.length (Nat.le_refl _)
  have h2 : (pieceWords (dText ps) (dueSt ps ps.length).beg (dText ps).length).length ≤ 100 := by
    unfold pieceWords
    rw [List.length_map]
    exact Nat.le_trans (cut_small _ _).1 (by omega)
  unfold dueL
  dsimp only
  rw [List.length_append, List.length_append]
  simp only [List.length_cons, List.length_nil]
  omega
theorem dText_le (l : List Nat) : (dText (l.map fun n => (mData n, mMeant n))).length ≤ 5 * l.length := by
  induction l with
  | nil => exact Nat.le_refl _
  | cons n l ih =>
    show (mData n ++ dText (l.map fun n => (mData n, mMeant n))).length ≤ _
    have := mSize_le n
    rw [List.length_append, mData_len, List.length_cons]
    omega
end
section
open PySem PySem.W PyProof PyProof.Rows
noncomputable def callsTail (w : World) : List Stmt := match (KK w).lookup 100 with
  | some ⟨_, _, .func fd, _⟩ => (match fd.body with | .stmts b => b.drop 3 | _ => [])
  | _ => []
noncomputable def turnBody (w : World) : List Stmt := match callsTail w with
  | .For _ _ b _ _ :: _ => b
  | _ => []
structure CallEnv (env : Env) : Prop where
  word : Bindable env "word" = true
  err : env.kindOf "error" = some .local
  calls : Known env "calls" = true
  lexer : Known env "lexer" = true
  state : Known env "state" = true
  bz : env.kindOf "BadZipFile" = some .globalImplicit
  str : env.kindOf "str" = some .globalImplicit
  glob : env.globals = mainGlobals
  built : env.builtins = builtinsNs
  nocell : ∀ x, env.kindOf x ≠ some .cell
  inter : interactive env = false
def turnRho (a : ArA) (l : LxA) (D : Addr) : Rho := [("calls", .raw (.ref D)), ("lexer", .raw (.ref l.x)), ("state", .raw (.ref a.st))]
def turnV (w : World) (a : ArA) (l : LxA) (ms : List (List Nat × Nat)) (text : List Nat) (D : Addr) (F : Res) (c : TurnS) : Res := (Lex w a l ms text c.es c.pb).and ((Res.list D (c.acc.map (dAV text))).and (TabG.and F))
noncomputable def turnTail (w : World) : List Stmt := (turnBody w).drop 2
theorem x_tail {w : World} {A A2 : Around} {X Y : Addr → Prop} {s₀ s : Shared} {outer : List Env} {env : Env} {a : ArA} {l : LxA} {ms : List (List Nat × Nat)} {text : List Nat} {U : Res} {D : Addr} {r : List Evt} {pb : List (List Nat)} {acc : List (Option (List Nat) × Nat)} {wd : Option (List Nat)} {d : AV} {Q : Flow → Shared → Prop} {E : Value → Shared → Prop}
    (cc : CallsCtx w A s₀ outer env a l ms text) (ce : CallEnv env) (hacc : acc.length ≤ 1000)
    (ac : Act w Y X s₀ env (("word", wAV wd) :: ("turn", d) :: turnRho a l D) ((Lex w a l ms text r pb).and (((Res.list D (acc.map (dAV text))).and (TabG.and U)).and (FrR outer s₀.heap))) s)
    (dD : ¬ (Lex w a l ms text [] []).fp D) (uD : ∀ b, U.fp b → b ≠ D) (hD88 : D ≠ 88) (hDf : D ∉ frs outer)
    (k : ∀ s', Act w Y X s₀ env (("word", wAV wd) :: ("turn", d) :: turnRho a l D) ((Lex w a l ms text r pb).and (((Res.list D ((acc ++ [(wd, text.length - cnt r)]).map (dAV text))).and (TabG.and U)).and (FrR outer s₀.heap))) s' → Q .next s') :
    wpAny (model PR w) A2 (execs (turnTail w) env) Q E s := by
  rw [show turnTail w = _ :: [] from rfl]
  have a₁ : Act w Y X s₀ env (("word", wAV wd) :: ("turn", d) :: turnRho a l D) ((Res.list D (acc.map (dAV text))).and ((Lex w a l ms text r pb).and ((TabG.and U).and (FrR outer s₀.heap)))) s :=
    ac.wk (fun b z => by
      rcases z with z | z | (z | z) | z
      · exact .inr (.inl (.inl z))
      · exact .inl z
      · exact .inr (.inl (.inr (.inl z)))
      · exact .inr (.inl (.inr (.inr z)))
      · exact .inr (.inr z)) fun z => ⟨z.2.1.1, z.1, z.2.1.2, z.2.2⟩
  obtain ⟨⟨⟨_, ⟨_, _, _, _, vst, hl, il⟩, _⟩, hN, hS⟩, _⟩ := ac.wh.1
  with_reducible refine' x_append (pl := _) (d := dAV text (wd, text.length - cnt r)) a₁ ?n1 ?n2 ?n3 ?n4 ?n5 ?n6 ?n7 ?n8 ?n9 ?n10 ?n11 ?n12 ?n13
  case n1 => rfl
  case n2 =>
    rintro (z | (z | z) | z)
    · exact dD z
    · exact hD88 z
    · exact uD D z rfl
    · exact hDf z
  case n3 =>
    refine EvL.cons (Ev.tup (EvL.cons (a₁.ev (x := "word") rfl cc.fn (known_of ce.word) (by decide) (by decide)) (EvL.cons (Ev.sLine ac.Gl hS hN (a₁.ev rfl cc.fn ce.lexer (by decide) (by decide))) (EvL.cons (Ev.rawItem (k := 3) hl il (a₁.ev rfl cc.fn ce.state (by decide) (by decide)) Ev.natl rfl (by simp) (fun _ _ => rfl)) EvL.nil rfl) rfl) rfl) ac.xIn (by simp)) EvL.nil rfl
  case n4 => rw [List.length_map]; omega
  case n5 => exact cc.fn
  case n6 => exact ce.calls
  case n7 => decide
  case n8 => decide
  case n9 => rfl
  case n10 => rfl
  case n11 => exact ce.inter
  case n12 => rfl
  case n13 =>
  intro s' a'
  refine x_nil (k s' ?_)
  have : acc.map (dAV text) ++ [dAV text (wd, text.length - cnt r)] = (acc ++ [(wd, text.length - cnt r)]).map (dAV text) := by rw [List.map_append]; rfl
  rw [← this]
  exact a'.wk (fun b z => by
      rcases z with z | (z | z | z) | z
      · exact .inr (.inl z)
      · exact .inl z
      · exact .inr (.inr (.inl (.inl z)))
      · exact .inr (.inr (.inl (.inr z)))
      · exact .inr (.inr (.inr z))) fun z => ⟨z.2.1, ⟨z.1, z.2.2.1⟩, z.2.2.2⟩
theorem x_turn {w : World} {A : Around} {X Y : Addr → Prop} {s₀ s : Shared} {outer : List Env} {env : Env} {a : ArA} {l : LxA} {ms : List (List Nat × Nat)} {text : List Nat} {U : Res} {D : Addr} {n i : Nat} {es0 : List Evt} {c : TurnS} {d : AV} {Q : Flow → Shared → Prop} {E : Value → Shared → Prop}
    (cc : CallsCtx w A s₀ outer env a l ms text) (ce : CallEnv env) (hy : ∀ b ∈ frs outer, Y b) (room : A.depth + 8 < recursionLimit) (hu : A.units + 20 < cLine)
    (ac : Act w Y X s₀ env (("turn", d) :: turnRho a l D) ((turnV w a l ms text D (FrR outer s₀.heap) c).and U) s) (hp : TurnP text n es0 i c) (hi : i < n) (hn : n ≤ 1000)
    (hD : s₀.heap.get? D = none) (dD : ¬ (Lex w a l ms text [] []).fp D) (hU : ∀ b, U.fp b → ¬ (turnV w a l ms text D (FrR outer s₀.heap) c).fp b) (hD88 : D ≠ 88) (h88 : ¬ (Lex w a l ms text [] []).fp 88) (hf88 : (88 : Addr) ∉ frs outer) (hUL : ∀ b, U.fp b → b ≠ env.locals)
    (hQ : ∀ c' s', TurnP text n es0 (i + 1) c' → Act w Y X s₀ env (turnRho a l D) ((turnV w a l ms text D (FrR outer s₀.heap) c').and U) s' → Q .next s') :
    wpAny (model PR w) (A.deeper env) (execs (turnBody w) env) Q E s := by
  rw [show turnBody w = _ :: _ :: _ :: [] from rfl]
  have uD : ∀ b, U.fp b → b ≠ D := fun b z q => hU b z (.inr (.inl q))
  have u88 : ∀ b, U.fp b → b ≠ 88 := fun b z q => hU b z (.inr (.inr (.inl q)))
  have uL : ∀ b, U.fp b → ¬ (Lex w a l ms text [] []).fp b := fun b z q => hU b z (.inl q)
  have uF : ∀ b, U.fp b → b ∉ frs outer := fun b z q => hU b z (.inr (.inr (.inr q)))
  have hU' : ∀ acc b, ((Res.list D acc).and (TabG.and U)).fp b → ¬ (Lex w a l ms text [] []).fp b := by
    rintro acc b (z | z | z) q
    · exact dD ((show b = D from z) ▸ q)
    · exact h88 ((show b = 88 from z) ▸ q)
    · exact uL b z q
  have a₀ : Act w Y X s₀ env (("turn", d) :: turnRho a l D) ((Lex w a l ms text c.es c.pb).and (((Res.list D (c.acc.map (dAV text))).and (TabG.and U)).and (FrR outer s₀.heap))) s :=
    ac.wk (fun b z => by
      rcases z with z | ((z | z | z) | z)
      · exact .inl (.inl z)
      · exact .inl (.inr (.inl z))
      · exact .inl (.inr (.inr (.inl z)))
      · exact .inr z
      · exact .inl (.inr (.inr (.inr z)))) fun z => ⟨z.1.1, ⟨z.1.2.1, z.1.2.2.1, z.2⟩, z.1.2.2.2⟩
  have hacc : c.acc.length ≤ 1000 := by have := hp.al; omega
  have hDf : D ∉ frs outer := fun z => by
    obtain ⟨o, e, _⟩ := cc.ff.mem D z
    rw [hD] at e; cases e
  have fin : ∀ c' s', TurnP text n es0 (i + 1) c' → Act w Y X s₀ env (turnRho a l D) ((Lex w a l ms text c'.es c'.pb).and (((Res.list D (c'.acc.map (dAV text))).and (TabG.and U)).and (FrR outer s₀.heap))) s' → Q .next s' := fun c' s' h a' =>
    hQ c' s' h (a'.wk (fun b z => by
      rcases z with (z | z | z | z) | z
      · exact .inl z
      · exact .inr (.inl (.inl z))
      · exact .inr (.inl (.inr (.inl z)))
      · exact .inr (.inr z)
      · exact .inr (.inl (.inr (.inr z)))) fun z => ⟨⟨z.1, z.2.1.1, z.2.1.2.1, z.2.2⟩, z.2.1.2.2⟩)
  with_reducible refine' x_assign a₀ ?e1 ?f1 ?f2 ?f3 ?k1
  case e1 => exact Ev.nonec
  case f1 => exact cc.fn
  case f2 => exact ce.word
  case f3 => rfl
  case k1 =>
  intro s₁ a₁
  refine wpAny_execs_cons ?_
  rw [arm_exec_Try]
  refine wpAny_bind (wpAny_standAt (wpAny_tryStmt_except ?_))
  refine wpAny_execs_cons (wpAny_Assign_Name (x_tok (pl := _) cc hy a₁ (hU' _) rfl ce.lexer (by omega) hp.suf hp.el (by have := hp.pl; omega) ?h1 ?h2 rfl) rfl)
  case h1 =>
    intro t r pb' hs v s₂ a₂ iv
    refine x_store a₂ iv cc.fn ce.word fun s₃ a₃ => x_nil (x_nil ?_)
    exact x_tail (wd := some t) cc ce hacc (a₃.sub ⟨rfl, rfl, rfl, rfl, rfl, trivial⟩) dD uD hD88 hDf fun s' a' => fin ⟨c.acc ++ [(some t, text.length - cnt r)], r, pb'⟩ s' (hp.word hi hs) (a'.sub ⟨rfl, rfl, rfl, trivial⟩)
  case h2 =>
    intro k r pb' hs s₂ a₂ ev s₃ fl
    have ok := cc.lexOk hy a₂
    refine x_except (V := Lex w a l ms text r []) a₂ rfl (fun v => ⟨rfl, rfl, rfl, rfl, rfl, trivial⟩) hy ok.fo.fr cc.fr cc.fn ce.nocell (fun b z => z) (fun h hL => lex_live h hL) (fun b z => ⟨hU' _ b z, fun q => ?hfr⟩) ok.fo.ff ok.fg ce.bz ce.glob ce.err fl fun e t s₄ a₄ E' => ?suit
    case hfr =>
      rcases (frs_cons cc.fr b).mp q with q | q
      · exact (a₂.wfx b (.inr (.inl z))).2.1 (.inl q)
      · rcases z with z | z | z
        · exact hDf ((show b = D from z) ▸ q)
        · exact hf88 ((show b = 88 from z) ▸ q)
        · exact uF b z q
    case suit =>
      have hub : A.units + 3 + 5 < cLine := by omega
      have a₅ := a₄.wk (W' := (Lex w a l ms text r []).and (((ExcR e t (bad ++ [letters.getD k 0])).and ((Res.list D (c.acc.map (dAV text))).and (TabG.and U))).and (FrR outer s₀.heap))) (fun b z => by
        rcases z with z | (z | z) | z
        · exact .inr (.inl z)
        · exact z.elim
        · exact .inr (.inr (.inl z))
        · exact .inr (.inr (.inr z))) fun z => ⟨z.2.1, ⟨z.1, z.2.2.1⟩, z.2.2.2⟩
      have hUE : ∀ b, ((ExcR e t (bad ++ [letters.getD k 0])).and ((Res.list D (c.acc.map (dAV text))).and (TabG.and U))).fp b → ¬ (Lex w a l ms text [] []).fp b := fun b z => z.elim (fun z => z.elim) fun z => hU' _ b z
      have hbl : (bad ++ [letters.getD k 0]).length ≤ 1000000 := by simp [bad]
      refine x_push (pl := _) (t := bad ++ [letters.getD k 0]) cc hy a₅ hUE rfl ce.lexer (by show A.depth + 1 + 7 < _; omega) (by simp) (Ev.callT (Ev.tstr a₅.Gl cc.fn ce.glob ce.built ce.str) (EvL.cons (a₅.ev (x := "error") rfl cc.fn ?kn (by decide) (by decide)) EvL.nil rfl) (CallIs.strE hub a₅.Gl a₅.wh.2.1.1) rfl rfl rfl) rfl rfl ce.inter rfl fun s₅ a₆ => ?k2
      case kn => unfold Known; rw [ce.err]; rfl
      case k2 =>
      refine x_push (pl := _) (t := [letters.getD k 0]) cc hy a₆ hUE rfl ce.lexer (by show A.depth + 1 + 7 < _; omega) (by simp) (Ev.cast (Ev.strLastT (l := bad ++ [letters.getD k 0]) (Ev.callT (Ev.tstr a₆.Gl cc.fn ce.glob ce.built ce.str) (EvL.cons (a₆.ev (x := "error") rfl cc.fn ?kn2 (by decide) (by decide)) EvL.nil rfl) (CallIs.strE hub a₆.Gl a₆.wh.2.1.1) rfl rfl rfl) (Ev.neg Ev.int) hbl (by simp [bad])) rfl) rfl rfl ce.inter rfl fun s₆ a₇ => x_nil ?k3
      case kn2 => unfold Known; rw [ce.err]; rfl
      case k3 =>
      refine ⟨Lex w a l ms text r [bad ++ [letters.getD k 0], [letters.getD k 0]], fun b z => z, a₇.wk (fun b z => ?w1) (fun z => ⟨z.1, z.2.1.2, z.2.2⟩), fun s₇ a₈ => ?k4⟩
      case w1 =>
        rcases z with z | z | z
        · exact .inl z
        · exact .inr (.inl (.inr z))
        · exact .inr (.inr z)
      case k4 =>
      exact x_tail (wd := none) cc ce hacc (a₈.sub ⟨rfl, rfl, rfl, rfl, rfl, trivial⟩) dD uD hD88 hDf fun s' a' => fin ⟨c.acc ++ [(none, text.length - cnt r)], r, [bad ++ [letters.getD k 0], [letters.getD k 0]]⟩ s' (hp.err hi hs) (a'.sub ⟨rfl, rfl, rfl, trivial⟩)
end
section
open PySem PySem.W PyProof PyProof.Rows
theorem lineAt0 (text : List Nat) : lineAt text 0 = 1 := rfl
theorem nocell_of {env : Env} (h : (env.scope.names.all fun p => p.2 != .cell) = true) : ∀ x, env.kindOf x ≠ some .cell := fun x z => by
  have := List.all_eq_true.mp h (x, .cell) (PySem.mem_of_lookup z)
  exact Bool.false_ne_true this
theorem calls_code {w : World} {A : Around} {X : Addr → Prop} {s : Shared} {outer : List Env} {ms : List (List Nat × Nat)} {text : List Nat} {v u : Value} {n : Nat} {Q : Value → Shared → Prop} {E : Value → Shared → Prop}
    (g : Gl w s.heap) (xi : XIn X s.heap) (hX : X 88) (ht : s.heap.get? 88 = some (tabObj #[])) (hh : A.handled = none) (hafr : A.frames = some outer) (ff : FF s.heap outer) (fx : ∀ b ∈ frs outer, X b) (fg : ∀ b ∈ frs outer, ¬ GA b) (f88 : (88 : Addr) ∉ frs outer)
    (room : A.depth + 12 < recursionLimit) (hu : A.units + 20 < cLine) (hms : ms.length ≤ 5) (hne : ∀ m ∈ ms, m.1 ≠ [] ∧ m.1.length ≤ 1000) (htx : text = chars (evsFrom 0 ms)) (hel : (evsFrom 0 ms).length ≤ 100000) (hn : n ≤ 1000)
    (iv : Is X s.heap v (.lst (ms.map mAV))) (iu : Is X s.heap u (.nat n))
    (hQ : ∀ r s', (∃ h tk, s' = { s with heap := h, toks := tk }) → (∀ b o, b ≠ 88 → b ∉ frs outer → s.heap.get? b = some o → s'.heap.get? b = some o) → (∃ ps, s'.heap.get? 88 = some (tabObj ps)) → (∀ b ∈ frs outer, ∀ o, s.heap.get? b = some o → ∃ sl, s'.heap.get? b = some { o with slots := sl }) →
      Is X s'.heap r (.lst ((runC text.length n (evsFrom 0 ms) []).map (dAV text))) → Q r s') :
    codeAny (model PR w) A (.call (.ref 100) ⟨[v, u], []⟩) (fun r s' => match r with | .ok (.ret v) => Q v s' | .ok _ => False | .error e => E e s') s := by
  have hlt : ∀ b, (b = 88 ∨ b ∈ frs outer) → X b ∧ ¬ GA b ∧ b < s.heap.objs.size := by
    rintro b (z | z)
    · rw [z]; exact ⟨hX, nga88, Heap.lt_size ht⟩
    · obtain ⟨o, e, _⟩ := ff.mem b z
      exact ⟨fx b z, fg b z, Heap.lt_size e⟩
  refine enterG (names := ["members", "most"]) (avs := [.lst (ms.map mAV), .nat n]) (vs := [v, u]) (Y := fun b => b = 88 ∨ b ∈ frs outer) (W := (Tab 88 #[]).and (FrR outer s.heap)) (f := 100) g xi rfl rfl (by omega) rfl (by decide) ?hb rfl rfl rfl rfl (.cons iv (.cons iu .nil))
    hlt (fun b z => z) ⟨ht, fun b _ o e => ⟨o.slots, e⟩⟩ fun s₁ act => ?main
  case hb => rfl
  case main =>
  have hy : ∀ b ∈ frs outer, (fun b => b = 88 ∨ b ∈ frs outer) b := fun b z => .inr z
  have htl : text.length = cnt (evsFrom 0 ms) := by rw [htx, chars_len]
  with_reducible refine' x_archive (outer := outer) (ms := ms) act ?a0 ?a1 ?a2 ?a3 ?a4 ?a5 ?a6 ?a7 ?ah ?a8 hms ?a9 ?a10 ?a11 ?a12
  case a0 => exact f88
  case a1 => rfl
  case a2 => rfl
  case a3 => rfl
  case a4 => rfl
  case a5 => rfl
  case a6 => rfl
  case a7 => rfl
  case ah => exact hh
  case a8 => show A.depth + 1 < _; omega
  case a9 => rfl
  case a10 => rfl
  case a11 => rfl
  case a12 =>
  intro a fS dS s₂ hst a₂
  rw [← htl] at a₂
  with_reducible refine' x_lexer (text := text) a₂ ?b1 ?b2 ?b3 ?b4 ?b5 ?b6 ?b7 ?b8 ?b9 ?b10
  case b1 => rw [htl, Nat.sub_self]; rfl
  case b2 => rfl
  case b3 => rfl
  case b4 => rfl
  case b5 => rfl
  case b6 => rfl
  case b7 => rfl
  case b8 => show A.depth + 1 + 10 < _; omega
  case b9 => rfl
  case b10 =>
  intro l X₃ s₃ xx₃ n2 n3 d1 d2 d3 x52 a₃
  with_reducible refine' x_newlist a₃ ?c1 ?c2 ?c3
  case c1 => rfl
  case c2 => rfl
  case c3 =>
  intro D X₄ s₄ xx₄ xd₄ nX nW a₄
  have hD : s.heap.get? D = none := by
    rcases (a₄.wfx D (.inl rfl)).2.2 with h | h
    · exact absurd (a₃.yx D h) nX
    · exact h
  have mk : ∀ {env' : Env} {Y' X' : Addr → Prop} {ρ' : Rho} {W' : Res} {s' : Shared}, Act w Y' X' s env' ρ' W' s' → env'.frame = some env'.locals → env'.scope.kind = .function → CallsCtx w A s outer env' a l ms text := fun _ h1 h2 =>
    { gl := g, afr := hafr, ff := ff, fg := fg, fr := h1, fn := h2, hh := hh, hms := hms, hne := hne, n1 := hst, n2 := n2, n3 := n3, d1 := d1, d2 := d2, d3 := d3, x52 := x52 }
  have mkE : ∀ {env' : Env} {Y' X' : Addr → Prop} {ρ' : Rho} {W' : Res} {s' : Shared}, Act w Y' X' s env' ρ' W' s' → CallEnv env' → CallEnv env' := fun _ h => h
  have cc := mk a₄ rfl rfl
  have ce := mkE a₄ ⟨rfl, rfl, rfl, rfl, rfl, rfl, rfl, rfl, rfl, nocell_of rfl, rfl⟩
  have hY3 : ∀ b, (Lex w a l ms text [] []).fp b → s.heap.get? b = none := cc.fresh
  have dD : ¬ (Lex w a l ms text [] []).fp D := fun z => nW (.inl z)
  have D88 : D ≠ 88 := fun z => nX (a₃.yx D (.inl z))
  have h88 : ¬ (Lex w a l ms text [] []).fp 88 := fun z => by
    have := hY3 88 z
    rw [ht] at this; cases this
  have a₅ := a₄.wk (W' := turnV w a l ms text D (FrR outer s.heap) ⟨[], evsFrom 0 ms, []⟩) (fun b z => by
    rcases z with z | z | z
    · exact .inr (.inl z)
    · exact .inl z
    · exact .inr (.inr z)) fun z => ⟨z.2.1, z.1, z.2.2⟩
  have p0 : TurnP text n (evsFrom 0 ms) 0 ⟨[], evsFrom 0 ms, []⟩ := ⟨rfl, ⟨Nat.le_of_eq htl.symm, by rw [htl, Nat.sub_self, htx]; rfl⟩, hel, Nat.zero_le _, rfl⟩
  refine x_for (σ := TurnS) (fun _ _ => turnRho a l D) (fun _ c => turnV w a l ms text D (FrR outer s.heap) c) (fun i c => TurnP text n (evsFrom 0 ms) i c) ⟨[], evsFrom 0 ms, []⟩ a₅ (EvIt.range1 hh ?r ?l (n := n) (by omega) rfl rfl) rfl rfl (fun _ => rfl) p0 ⟨rfl, rfl, rfl, trivial⟩ (fun _ _ _ z => z) (fun _ _ z => z) ?t ?d
  case r => walk_at "ev"
  case l => walk_at "evl"
  case t =>
    intro X' U i c d s' xx ux hd hp a' E'
    have hi : i < n := by
      have := (List.getElem?_eq_some_iff.mp hd).1
      rwa [upTo_len] at this
    have tl : wpAny (model PR w) _ (execs (turnBody w) _) (fun f s₂ => f = .next ∧ ∃ c', TurnP text n (evsFrom 0 ms) (i + 1) c' ∧ Act w _ X' s _ (turnRho a l D) ((turnV w a l ms text D (FrR outer s.heap) c').and U) s₂) E' s' :=
      x_turn (mk a' rfl rfl) (mkE a' ce) hy (by omega) hu a' hp hi hn hD dD (fun b z q => ux b z q) D88 h88 f88 (fun b z q => ?ul) fun c' s' hp' a'' => ⟨rfl, c', hp', a''⟩
    refine wpAny_mono tl (fun f s₂ h => ?fin) fun _ _ h => h
    case fin =>
      obtain ⟨rfl, h⟩ := h
      exact h
    case ul => exact (a'.wfx b (.inr z)).2.1 (.inl q)
  case d =>
    intro c s' hp a'
    have hr := hp.run
    rw [upTo_len, Nat.sub_zero, Nat.sub_self] at hr
    simp only [runC, List.append_nil] at hr
    have a₆ : Act w _ X₄ s _ (turnRho a l D) ((Res.list D (c.acc.map (dAV text))).and ((Lex w a l ms text c.es c.pb).and (TabG.and (FrR outer s.heap)))) s' :=
      a'.wk (fun b z => by
        rcases z with z | z | z
        · exact .inr (.inl z)
        · exact .inl z
        · exact .inr (.inr z)) fun z => ⟨z.2.1, z.1, z.2.2⟩
    obtain ⟨a₇, i₇⟩ := a₆.freeze (fun z => nX (a₃.yx D z)) (fun z => by
      rcases z with z | z | z
      · exact dD z
      · exact D88 z
      · obtain ⟨o, e, _⟩ := ff.mem D z
        rw [hD] at e; cases e)
    have a₈ := a₇.recast (x := "calls") rfl i₇
    refine x_ret (av := .lst (c.acc.map (dAV text))) a₈ ?ev fun v₉ s₉ a₉ i₉ => ?fin
    case ev => exact a₈.ev rfl rfl rfl rfl rfl
    case fin =>
    have hx9 : ∀ b, X b → (fun b => X₄ b ∧ b ≠ D) b := fun b z => ⟨xx₄ _ (xx₃ _ (.inl (.inl z))), fun q => by
      obtain ⟨o, e⟩ := xi b z
      rw [q, hD] at e; cases e⟩
    rw [hr] at i₉
    exact hQ v₉ s₉ a₉.same (fun b o n1 n2 e => a₉.keep b o (fun z => z.elim n1 n2) e) a₉.wh.2.1 a₉.wh.2.2 (i₉.pass fun b o nx q => ⟨fun z => nx (hx9 b z), q⟩)
end
section

open PySem PySem.W PyProof PyProof.Rows
theorem ints_isL {X : Addr → Prop} {h : Heap} : ∀ {vs : List Value} {ns : List Int}, IntsAre vs ns → IsL X h vs (ns.map AV.int)
  | _, _, .nil => .nil
  | _, _, .cons n t r => .cons (.int n t) (ints_isL r)
section
variable {w : World} {A : Around} {env : Env} {X : Addr → Prop} {h : Heap}
/-- xs[:k] of a list that stands -/
theorem Ev.rawTake {v u : Expr} {p p' : Pos} {L : Addr} {vs : List Value} {l : List AV} {k : Nat} (hL : h.IsList L vs.toArray) (il : IsL X h vs l) (x : Ev w A env X h v (.raw (.ref L))) (y : Ev w A env X h u (.nat k)) (xi : XIn X h) (hz : l.length ≤ 1000000)
    (ht : ∀ o r, letTemporaryGo v o r = pure ()) : Ev w A env X h (.Subscript v (.Slice none (some u) none p) p') (.lst (l.take k)) := ⟨fun s _ _ hs hQ => by
  refine wpAny_Subscript_list_slice (x.run s _ _ hs fun o s₁ k₁ i₁ => wpAny_evalPart_none (wpAny_evalPart_some (y.run s₁ _ _ (hs.trans k₁.ext) fun j s₂ k₂ i₂ => ?_))) ht
  cases i₁
  cases i₂
  have ex : Ext h s₂.heap := hs.trans (k₁.trans k₂).ext
  have r := il.ext ex
  refine ⟨L, vs.toArray, none, some (k : Int), rfl, hL.at fun o e => ex _ o e, (by rw [List.size_toArray, il.length, sizeLine_eq]; omega), .none, .int _ _, ?_⟩
  rw [slicePick_upto' _ k]
  refine hQ _ _ (k₁.trans (k₂.trans (Kp.mk ((Ext.push _ _).trans (Ext.push _ _))))) (slice_done (l := l) (vs := vs) (a := L) (n := 0) (xi.ext ex) (by simpa using r.take k))⟩
end
section
variable {w : World} {A : Around} {env : Env} {X : Addr → Prop} {h : Heap}
/-- [..][k:] of any base -/
theorem Ev.lstFromT {v u : Expr} {p p' : Pos} {l : List AV} {k : Nat} (x : Ev w A env X h v (.lst l)) (y : Ev w A env X h u (.nat k)) (xi : XIn X h) (hz : l.length ≤ 1000000) (hk : k ≤ l.length) : Ev w A env X h (.Subscript v (.Slice (some u) none none p) p') (.lst (l.drop k)) := ⟨fun s _ _ hs hQ => by
  refine Subscript_ (x.run s _ _ hs fun o s₁ k₁ i₁ => wpAny_Slice (wpAny_evalPart_some (y.run s₁ _ _ (hs.trans k₁.ext) fun j s₂ k₂ i₂ => wpAny_evalPart_none (wpAny_evalPart_none ?_))))
  replace i₁ := i₁.ext k₂.ext
  cases i₁ with | lst e nx r =>
  rename_i a vs n
  cases i₂
  have hL : s₂.heap.IsList a vs.toArray := ⟨_, e, rfl, n, rfl⟩
  refine tail_any (hL.push _).typeIs slot_list_getitem.lookup (wpAny_getItem_list_slice (hL.push _) (Heap.IsSliceOf.new ..) (.int (k : Int) _) .none .none (by simp) ?_ (by rw [List.size_toArray, r.length, sizeLine_eq]; omega)) rfl
  rw [slicePick_from _ k (by rw [List.size_toArray, r.length]; omega), Heap.size_push]
  exact hQ _ _ (k₁.trans (k₂.trans (Kp.mk ((Ext.push _ _).trans (Ext.push _ _))))) (slice_done (l := l) (vs := vs) (a := a) (n := n) (xi.ext (hs.trans (k₁.trans k₂).ext)) (by simpa using r.drop k))⟩
end
theorem IsL.three {X : Addr → Prop} {h : Heap} {vs : List Value} {a b c : AV} (i : IsL X h vs [a, b, c]) : ∃ v u t, vs = [v, u, t] ∧ Is X h v a ∧ Is X h u b ∧ Is X h t c := by
  cases i with
  | cons x r => obtain ⟨u, t, rfl, y, z⟩ := r.two; exact ⟨_, u, t, rfl, x, y, z⟩
section
variable {w : World} {A : Around} {env : Env} {X : Addr → Prop} {h : Heap}
theorem Binds.triple {scope : Scope} {x y z : Str} {p p' p'' p3 : Pos} {k : Nat} {d e f : AV} (hh : A.handled = none) (hx : scope.names.lookup x = some .local) (hy : scope.names.lookup y = some .local) (hz : scope.names.lookup z = some .local) (nxy : (x == y) = false) (nxz : (x == z) = false) (nyz : (y == z) = false) :
    Binds w A scope (.Tuple [.Name x p, .Name y p', .Name z p3] k p'') (.tup [d, e, f]) [(z, f), (y, e), (x, d)] := ⟨fun X s env I v m Q E hf hl xi hX hn hi ho hQ => by
  cases hi with | tup he nx r =>
  rename_i a vs n
  obtain ⟨u, u', u'', rfl, iu, iu', iu''⟩ := r.three
  refine goQuiet ho ?_
  have hT : s.heap.IsTuple a #[u, u', u''] := ⟨_, he, rfl, n, rfl⟩
  refine wpAny_assign_Tuple hh hT rfl rfl fun h₁ he₁ => ?_
  have ex : ∀ b o, s.heap.get? b = some o → h₁.get? b = some o := fun b o e => he₁ b o (Nat.ne_of_lt (Heap.lt_size e)) e
  show wpAny _ _ (assignInOrder [assign (.Name x p) env, assign (.Name y p') env, assign (.Name z p3) env] [u, u', u'']) _ _ _
  refine wpAny_assignInOrder_more (wpAny_assign_Name (wpAny_storeName_local (hl x hx) (hn.at' fun o e => ex _ o e) (fun h₂ hn₂ hs₂ => ?_) (by rw [hf]; rfl)))
  refine wpAny_assignInOrder_more (wpAny_assign_Name (wpAny_storeName_local (hl y hy) hn₂ (fun h₃ hn₃ hs₃ => ?_) (by rw [hf]; rfl)))
  refine wpAny_assignInOrder_more (wpAny_assign_Name (wpAny_storeName_local (hl z hz) hn₃ (fun h₄ hn₄ hs₄ => wpAny_pure ?_) (by rw [hf]; rfl)))
  have up : ∀ b o, b ≠ env.locals → s.heap.get? b = some o → h₄.get? b = some o := fun b o hb e => (hs₄.2 b hb).trans ((hs₃.2 b hb).trans ((hs₂.2 b hb).trans (ex b o e)))
  refine hQ h₄ _ _ hn₄ (fun q av e => ?_) up
  have ps : Passes X s.heap X h₄ := fun b o nx e => ⟨nx, up b o (fun z => nx (z ▸ hX)) e⟩
  rw [List.lookup_cons] at e
  by_cases q1 : q = z
  · subst q1
    simp only [beq_self_eq_true, Option.some.injEq] at e
    subst e
    exact ⟨u'', by simp, iu''.pass ps⟩
  · rw [show (q == z) = false by simpa using q1, List.lookup_cons] at e
    by_cases q2 : q = y
    · subst q2
      simp only [beq_self_eq_true, Option.some.injEq] at e
      subst e
      exact ⟨u', by simp [q1], iu'.pass ps⟩
    · rw [show (q == y) = false by simpa using q2, List.lookup_cons] at e
      by_cases q3 : q = x
      · subst q3
        simp only [beq_self_eq_true, Option.some.injEq] at e
        subst e
        exact ⟨u, by simp [q1, q2], iu.pass ps⟩
      · rw [show (q == x) = false by simpa using q3] at e; cases e⟩
end
section
variable {w : World} {A : Around} {Y X : Addr → Prop} {s₀ s : Shared} {env : Env} {ρ : Rho} {W : Res}
/-- behind a call that changed the table and the slots of this frame -/
theorem Act.afterCalls (a : Act w Y X s₀ env ρ ((Tab 88 #[]).and W) s) (hnc : ∀ x, env.kindOf x ≠ some .cell) (hW : ∀ b, W.fp b → b ≠ 88 ∧ b ≠ env.locals) {h' : Heap} {tk : Nat} (hk : ∀ b o, b ≠ 88 → b ≠ env.locals → s.heap.get? b = some o → h'.get? b = some o) (hT : ∃ ps, h'.get? 88 = some (tabObj ps))
    (hL : ∀ o, s.heap.get? env.locals = some o → ∃ sl, h'.get? env.locals = some { o with slots := sl }) : Act w Y X s₀ env ρ (TabG.and W) { s with heap := h', toks := tk } := by
  have w88 := a.wfx 88 (.inl rfl)
  have own := a.own _ (.inl rfl)
  have ps : Passes X s.heap X h' := fun b o nx e => ⟨nx, hk b o (fun z => nx (z ▸ w88.1)) (fun z => nx (z ▸ own)) e⟩
  refine { same := ?_, keep := ?_, loc := ?_, cel := fun y c hy _ => absurd hy (hnc y), fre := ?_, fresh := a.fresh, apart := a.apart, own := a.own, yx := a.yx, xin := ?_, yga := a.yga, gl := a.gl, wfx := a.wfx, wh := ?_ }
  · obtain ⟨h, t, rfl⟩ := a.same
    exact ⟨h', tk, rfl⟩
  · intro b o ny e
    refine hk b o (fun z => ?_) (fun z => ?_) (a.keep b o ny e)
    · rcases w88.2.2 with q | q
      · exact ny (z ▸ q)
      · rw [z, q] at e; cases e
    · rw [z, a.fresh _ (.inl rfl)] at e; cases e
  · obtain ⟨m, ⟨o, es, ep, q1, q2⟩, h2⟩ := a.loc
    obtain ⟨sl, q'⟩ := hL o q1
    exact ⟨m, ⟨_, es, ep, q', q2⟩, fun y av hy hz => let ⟨v, p, i⟩ := h2 y av hy hz; ⟨v, p, i.pass ps⟩⟩
  · intro y av hy hz
    obtain ⟨c, v, hc, ⟨o, ho, hd⟩, nx, hi⟩ := a.fre y av hy hz
    exact ⟨c, v, hc, ⟨o, (ps c o nx ho).2, hd⟩, nx, hi.pass ps⟩
  · intro b hb
    by_cases q : b = 88
    · obtain ⟨p, e⟩ := hT; exact ⟨_, q ▸ e⟩
    · by_cases q2 : b = env.locals
      · obtain ⟨o, e⟩ := a.xin b hb
        obtain ⟨sl, e'⟩ := hL o (q2 ▸ e)
        exact ⟨_, q2 ▸ e'⟩
      · obtain ⟨o, e⟩ := a.xin b hb
        exact ⟨o, hk b o q q2 e⟩
  · exact ⟨hT, W.stable _ _ _ _ a.wh.2 (fun b o f e => hk b o (hW b f).1 (hW b f).2 e) ps⟩
end
end
section
open PySem PySem.W PyProof PyProof.Rows
def fixed : List Nat := [1202, 696, 16106128201, 756, 56428]
def drawn0 (ns : List Int) : List Nat := (ns.take 5).map fun (a : Int) => (a % ((10 ^ 16 : Nat) : Int)).toNat
def drawnL (ns : List Int) : List Nat := drawn0 ns ++ fixed.drop (drawn0 ns).length
def pairsL (ns : List Int) : List (List Nat × List Nat) := (drawnL ns).map fun n => (mData n, mMeant n)
theorem drawn0_len (ns : List Int) : (drawn0 ns).length ≤ 5 := by simp [drawn0]; omega
theorem drawnL_len (ns : List Int) : (drawnL ns).length = 5 := by
  have := drawn0_len ns
  unfold drawnL
  rw [List.length_append, List.length_drop, show fixed.length = 5 from rfl]; omega
/-- calls = _law_calls(.., ..) -/
theorem x_calls {w : World} {A : Around} {Y X : Addr → Prop} {s₀ s : Shared} {env : Env} {ρ : Rho} {W : Res} {ms : List (List Nat × Nat)} {text : List Nat} {n : Nat} {p1 p3 p4 p5 : Pos} {e1 e2 : Expr} {rest : List Stmt} {Q : Flow → Shared → Prop} {E : Value → Shared → Prop}
    (a : Act w Y X s₀ env ρ ((Tab 88 #[]).and W) s) (hnc : ∀ x, env.kindOf x ≠ some .cell) (hW : ∀ b, W.fp b → b ≠ 88 ∧ b ≠ env.locals) (hh : A.handled = none) (hafr : A.frames = some []) (room : A.depth + 20 < recursionLimit) (hu : A.units + 40 < cLine) (hfr : env.frame = some env.locals) (hf : env.scope.kind = .function) (hx : env.kindOf "_law_calls" = some .globalImplicit) (hg : env.globals = mainGlobals) (hb : Bindable env "calls" = true)
    (he : EvL w (A.deeper env) env X s.heap p3 [e1, e2] [.lst (ms.map mAV), .nat n]) (hms : ms.length ≤ 5) (hne : ∀ m ∈ ms, m.1 ≠ [] ∧ m.1.length ≤ 1000) (htx : text = chars (evsFrom 0 ms)) (hel : (evsFrom 0 ms).length ≤ 100000) (hn : n ≤ 1000)
    (hc : eval (.Call (.Name "_law_calls" p1) [e1, e2] [] p3) env = (do callWith p3 (← eval (.Name "_law_calls" p1) env) [] (backTo p3 (starEach [e1, e2] env)) (backToKw p3 (keywordEach [] env))))
    (hst : starEach [e1, e2] env = (false, eval e1 env) :: starEach [e2] env)
    (hs : swapsWith (.Call (.Name "_law_calls" p1) [e1, e2] [] p3) (some (.Name "calls" p4)) p5.line env = pure false)
    (k : ∀ s', Act w Y X s₀ env (("calls", .lst ((runC text.length n (evsFrom 0 ms) []).map (dAV text))) :: ρ) (TabG.and W) s' → wpAny (model PR w) (A.deeper env) (execs rest env) Q E s') :
    wpAny (model PR w) (A.deeper env) (execs (.Assign [.Name "calls" p4] (.Call (.Name "_law_calls" p1) [e1, e2] [] p3) p5 :: rest) env) Q E s := by
  obtain ⟨o100, fd100, e100, d100⟩ : ∃ o fd, (KK w).lookup 100 = some o ∧ o.data = .func fd := ⟨_, _, rfl, rfl⟩
  refine wpAny_execs_cons (wpAny_Assign_Name (Call_ ((Ev.glob (X := X) a.Gl hf hx hg (n_calls w) (by decide)).run s _ _ (Ext.refl _) fun v s₁ k₁ i₁ => ?_) hc) hs)
  cases i₁
  have a₁ := a.kp k₁
  refine callWith_def (o := o100) d100 (he.run s₁ _ _ k₁.ext fun vs s₂ k₂ i₂ => ⟨(a₁.kp k₂).Gl.K _ _ e100, ?_⟩) hst
  obtain ⟨v, u, rfl, iv, iu⟩ := i₂.two
  have a₂ := a₁.kp k₂
  have own := a₂.own _ (.inl rfl)
  have hfrs : ∀ b, b ∈ frs [env] → b = env.locals := fun b hb => by
    rcases (frs_cons hfr b).mp hb with z | z
    · exact z
    · cases z
  have hL0 : s₀.heap.get? env.locals = none := a₂.fresh _ (.inl rfl)
  have h88 : (88 : Addr) ≠ env.locals := fun z => (a₂.wfx 88 (.inl rfl)).2.1 (.inl z)
  refine wpAny_call (calls_code (outer := [env]) (text := text) a₂.Gl a₂.xIn (a₂.wfx 88 (.inl rfl)).1 a₂.wh.1 hh ?_ ⟨(by rw [hf]; intro z; cases z), ?_, trivial⟩ (fun b hb => (hfrs b hb) ▸ own) (fun b hb => (hfrs b hb) ▸ ga_none a₂.gl hL0) (fun z => h88 (hfrs _ z)) (by show A.depth + 1 + 12 < _; omega) (by show A.units + 3 + 20 < _; omega) hms hne htx hel hn iv iu fun r s₃ same keep htab slots ir => ?_)
  · show (A.frames).map (env :: ·) = _
    rw [hafr]; rfl
  · obtain ⟨m, ⟨o, es, ep, e, hd, _⟩, _⟩ := a₂.loc
    exact ⟨_, o, hfr, e, fun vs q => by rw [hd] at q; cases q⟩
  · obtain ⟨h₃, t₃, rfl⟩ := same
    have a₃ := a₂.afterCalls hnc hW (tk := t₃) (fun b o n1 n2 e => keep b o n1 (fun z => n2 (hfrs b z)) e) htab (fun o e => slots _ ((frs_cons hfr _).mpr (.inl rfl)) o e)
    exact x_store a₃ ir hf hb fun s' a' => k s' a'
theorem law_code {w : World} {A : Around} {s : Shared} {L : Addr} {vs : List Value} {ns : List Int} {Q : Value → Shared → Prop} {E : Value → Shared → Prop} (g : Gl w s.heap) (hl : s.heap.IsList L vs.toArray) (hi : IntsAre vs ns) (hn : ns.length ≤ 63) (ht : s.heap.get? 88 = some (tabObj #[]))
    (hh : A.handled = none) (hafr : A.frames = some []) (room : A.depth + 20 < recursionLimit) (hu : A.units + 40 < cLine)
    (hQ : ∀ s', (∃ h tk, s' = { s with heap := h, toks := tk }) → (∀ b o, b ≠ 88 → s.heap.get? b = some o → s'.heap.get? b = some o) → (∃ ps, s'.heap.get? 88 = some (tabObj ps)) → Q (.bool true) s') :
    codeAny (model PR w) A (.call (.ref 117) ⟨[.ref L], []⟩) (fun r s' => match r with | .ok (.ret v) => Q v s' | .ok _ => False | .error e => E e s') s := by
  refine enterG (names := ["script"]) (avs := [.raw (.ref L)]) (vs := [.ref L]) (X := fun b => b = 88) (Y := fun b => b = 88) (W := (Tab 88 #[]).and Res.emp) (f := 117) g (fun b hb => ?xi) rfl rfl (by omega) rfl (by decide) ?hb rfl rfl rfl rfl (.cons (.raw _) .nil)
    (fun b hb => ?hy) (fun b hb => hb.elim id fun z => z.elim) ⟨ht, trivial⟩ fun s₁ act => ?main
  case xi =>
    have hb : b = 88 := hb
    exact ⟨_, hb ▸ ht⟩
  case hb => rfl
  case hy =>
    have hb : b = 88 := hb
    rw [hb]
    exact ⟨rfl, nga88, Heap.lt_size ht⟩
  case main =>
  have hl₁ : s₁.heap.IsList L vs.toArray := hl.at fun o e => by
    by_cases q : L = 88
    · obtain ⟨o', e', hc, _⟩ := hl
      rw [q, ht] at e'
      cases e'
      cases hc
    · exact act.keep L o q e
  with_reducible refine' x_assignComp (l := ns.take 5) (f := AV.int) (ts := ["x"]) (fun a => [("x", AV.int a)]) (fun _ => true) (fun (a : Int) => AV.nat ((a % ((10 ^ 16 : Nat) : Int)).toNat)) act ?i1 ?z1 ?b1 ?g1 ?f1 ?k1 ?lo1 ?c1 ?t1 ?ff1 ?bx1 ?sw1 ?n1
  case i1 => exact EvIt.cast (EvIt.lst hh (Ev.rawTake (k := 5) hl₁ (ints_isL hi) (act.ev rfl rfl rfl rfl rfl) Ev.natl act.xIn (by rw [List.length_map]; omega) (fun _ _ => rfl))) (by rw [List.map_take])
  case z1 => simp; omega
  case b1 => exact fun _ => Binds.name rfl
  case g1 => exact fun _ => rfl
  case f1 => exact fun _ => rfl
  case k1 => rfl
  case lo1 => rfl
  case c1 => rfl
  case ff1 => rfl
  case bx1 => rfl
  case sw1 => rfl
  case t1 =>
    intro C X' h' a ha c
    refine ⟨EvIf.nil, fun _ => ?_⟩
    have e : ((a % ((10 ^ 16 : Nat) : Int)).toNat : Int) = a % ((10 ^ 16 : Nat) : Int) := Int.toNat_of_nonneg (Int.emod_nonneg _ (by decide))
    refine Ev.cast (Ev.binop (c.ev rfl rfl rfl rfl rfl rfl) (Ev.binop Ev.natl Ev.natl (o_powN (by decide) (by decide))) (o_modI (by decide))) ?_
    exact congrArg AV.int e.symm
  case n1 =>
  intro s₂ a₂
  rw [filter_tt] at a₂
  have e2 : (ns.take 5).map (fun (a : Int) => AV.nat ((a % ((10 ^ 16 : Nat) : Int)).toNat)) = (drawn0 ns).map AV.nat := by unfold drawn0; rw [List.map_map]; rfl
  rw [e2] at a₂
  have hd5 := drawn0_len ns
  with_reducible refine' x_assign (av := .lst ((drawnL ns).map AV.nat)) a₂ ?e3 ?f3 ?b3 ?s3 ?n3
  case f3 => rfl
  case b3 => rfl
  case s3 => rfl
  case e3 =>
    refine Ev.cast (Ev.addL (a₂.ev rfl rfl rfl rfl rfl) (Ev.lstFromT (l := fixed.map AV.nat) (k := (drawn0 ns).length) ?hfix ?e4 a₂.xIn (by simp [fixed]) (by simpa [fixed] using hd5)) a₂.xIn (by simp [fixed]; omega)) ?e5
    case hfix => exact Ev.lst (EvL.cons Ev.natl (EvL.cons Ev.natl (EvL.cons Ev.natl (EvL.cons Ev.natl (EvL.cons Ev.natl EvL.nil rfl) rfl) rfl) rfl) rfl) a₂.xIn (by simp [fixed])
    case e4 => exact Ev.cast (Ev.callB (Ev.len a₂.Gl rfl rfl rfl rfl) (EvL.cons (a₂.ev (x := "drawn") rfl rfl rfl rfl rfl) EvL.nil rfl) (CallIs.len_lst (by simp; omega)) rfl rfl rfl) (by rw [List.length_map])
    case e5 => unfold drawnL; rw [List.map_append, List.map_drop]
  case n3 =>
  intro s₃ a₃
  have hdl := drawnL_len ns
  with_reducible refine' x_assignComp (l := drawnL ns) (f := AV.nat) (ts := ["number"]) (fun a => [("number", AV.nat a)]) (fun _ => true) (fun a => pairAV (mData a, mMeant a)) a₃ ?i4 ?z4 ?b4 ?g4 ?f4 ?k4 ?lo4 ?c4 ?t4 ?ff4 ?bx4 ?sw4 ?n4
  case i4 => exact EvIt.lst hh (a₃.ev rfl rfl rfl rfl rfl)
  case z4 => omega
  case b4 => exact fun _ => Binds.name rfl
  case g4 => exact fun _ => rfl
  case f4 => exact fun _ => rfl
  case k4 => rfl
  case lo4 => rfl
  case c4 => rfl
  case ff4 => rfl
  case bx4 => rfl
  case sw4 => rfl
  case t4 =>
    intro C X' h' a ha c
    refine ⟨EvIf.nil, fun _ => ?_⟩
    exact Ev.callG c.gl rfl rfl rfl rfl rfl (n_member w) rfl (EvL.cons (c.ev rfl rfl rfl rfl rfl rfl) EvL.nil rfl) (member_is c.gl c.xin (by exact hh) (by show A.depth + 1 + 1 < _; omega) a) rfl rfl
  case n4 =>
  intro s₄ a₄
  rw [filter_tt, show (drawnL ns).map (fun a => pairAV (mData a, mMeant a)) = (pairsL ns).map pairAV from by unfold pairsL; rw [List.map_map]; rfl] at a₄
  have hpl : (pairsL ns).length = 5 := by unfold pairsL; rw [List.length_map]; exact hdl
  have hdt : (dText (pairsL ns)).length ≤ 25 := by have := dText_le (drawnL ns); rw [hdl] at this; exact this
  with_reducible refine' x_assign (av := .lst ((dueL (pairsL ns)).map (dAV (dText (pairsL ns))))) a₄ ?e6 ?f6 ?b6 ?s6 ?n6
  case f6 => rfl
  case b6 => rfl
  case s6 => rfl
  case e6 => exact Ev.callG a₄.Gl rfl rfl rfl rfl rfl (n_due w) rfl (EvL.cons (a₄.ev rfl rfl rfl rfl rfl) EvL.nil rfl) (due_is a₄.Gl a₄.xIn (by exact hh) (by show A.depth + 1 + 2 < _; omega) _ (by omega) (by omega)) rfl rfl
  case n6 =>
  intro s₅ a₅
  have hmo : ∀ p ∈ pairsL ns, mOk (p.1, pCrc p.2) = (p.1 == p.2) := fun p hp => by
    obtain ⟨n, _, rfl⟩ := List.mem_map.mp hp
    exact member_ok n
  with_reducible refine' x_calls (ms := msOf (pairsL ns)) (text := dText (pairsL ns)) (n := (dueL (pairsL ns)).length) a₅ ?d1 ?d2 hh hafr room hu ?d3 ?d4 ?d5 ?d6 ?d7 ?d8 ?d9 ?d10 ?d11 ?d12 ?d13 ?d14 ?d15 ?d16 ?n7
  case d1 => exact nocell_of rfl
  case d2 => exact fun b z => z.elim
  case d3 => rfl
  case d4 => rfl
  case d5 => rfl
  case d6 => rfl
  case d7 => rfl
  case d8 =>
    refine EvL.cons ?h1 (EvL.cons ?h2 EvL.nil rfl) rfl
    case h2 => exact Ev.cast (Ev.callB (Ev.len a₅.Gl rfl rfl rfl rfl) (EvL.cons (a₅.ev (x := "due") rfl rfl rfl rfl rfl) EvL.nil rfl) (CallIs.len_lst (by rw [List.length_map]; have := dueL_len (pairsL ns) (by omega) (by omega); omega)) rfl rfl rfl) (by rw [List.length_map])
    case h1 =>
      refine Ev.cast (Ev.comp (ts := ["meant", "data"]) (l := pairsL ns) (f := pairAV) (fun p => [("meant", AV.str (S p.2)), ("data", AV.str (S p.1))]) (fun _ => true) (fun p => mAV (p.1, pCrc p.2)) a₅.ctx (EvIt.lst hh (a₅.ev rfl rfl rfl rfl rfl)) (by omega) (fun _ => Binds.pair hh rfl rfl) (fun _ => rfl) (fun _ => rfl) rfl rfl rfl ?h3) ?h4
      case h4 => rw [filter_tt]; unfold msOf; rw [List.map_map]; rfl
      case h3 =>
        intro C X' h' p hp c
        refine ⟨EvIf.nil, fun _ => ?_⟩
        obtain ⟨q, _, rfl⟩ := List.mem_map.mp hp
        have hml : (mMeant q).length ≤ 1000 := by
          have h1 := mSize_le q
          rw [mMeant_eq, List.length_append, mTail_len, List.length_take, List.length_drop, mData_len]; omega
        exact Ev.tup (EvL.cons (c.ev rfl rfl rfl rfl rfl rfl) (EvL.cons (Ev.callG c.gl rfl rfl rfl rfl rfl (n_crc w) rfl (EvL.cons (c.ev rfl rfl rfl rfl rfl rfl) EvL.nil rfl) (crc_is c.gl c.xin (by exact hh) (by show A.depth + 1 + 1 < _; omega) _ hml) rfl rfl) EvL.nil rfl) rfl) c.xin (by simp)
  case d9 => unfold msOf; rw [List.length_map]; omega
  case d10 =>
    intro m hm
    unfold msOf pairsL at hm
    rw [List.map_map] at hm
    obtain ⟨q, _, rfl⟩ := List.mem_map.mp hm
    have h1 := mSize_le q
    have h2 := mData_len q
    have h3 : 1 ≤ mSize q := by unfold mSize; omega
    show mData q ≠ [] ∧ (mData q).length ≤ 1000
    exact ⟨fun z => by rw [z] at h2; simp at h2; omega, by omega⟩
  case d11 => exact (evs_chars _ 0).symm
  case d12 => exact Nat.le_trans (evs_len _ 0) (by omega)
  case d13 => exact dueL_len _ (by omega) (by omega)
  case d14 => rfl
  case d15 => rfl
  case d16 => rfl
  case n7 =>
  intro s₆ a₆
  rw [run_eq _ hmo] at a₆
  have hdl2 := dueL_len (pairsL ns) (by omega) (by omega)
  with_reducible refine' x_assignComp (l := dueL (pairsL ns)) (f := dAV (dText (pairsL ns))) (ts := ["place", "line", "word"]) (fun p => [("place", AV.nat p.2), ("line", AV.nat (lineAt (dText (pairsL ns)) p.2)), ("word", wAV p.1)]) (fun _ => false) (fun p => AV.nat (lineAt (dText (pairsL ns)) p.2)) a₆ ?i5 ?z5 ?b5 ?g5 ?f5 ?k5 ?lo5 ?c5 ?t5 ?ff5 ?bx5 ?sw5 ?n8
  case i5 => exact EvIt.lst hh (a₆.ev rfl rfl rfl rfl rfl)
  case z5 => omega
  case b5 => exact fun _ => Binds.triple hh rfl rfl rfl rfl rfl rfl
  case g5 => exact fun _ => rfl
  case f5 => exact fun _ => rfl
  case k5 => rfl
  case lo5 => rfl
  case c5 => rfl
  case ff5 => rfl
  case bx5 => rfl
  case sw5 => rfl
  case t5 =>
    intro C X' h' p hp c
    refine ⟨EvIf.one (EvT.cast (EvT.or (a := !true) (EvT.not (EvT.plain (Ev.callB (Ev.isinstance c.gl rfl rfl rfl rfl) (EvL.cons (c.ev rfl rfl rfl rfl rfl rfl) (EvL.cons (Ev.tint c.gl rfl rfl rfl rfl) EvL.nil rfl) rfl) CallIs.int_int rfl rfl rfl) t_bool (fun _ => rfl))) (fun _ => EvT.or (a := false) (EvT.plain (Ev.callB (Ev.isinstance c.gl rfl rfl rfl rfl) (EvL.cons (c.ev rfl rfl rfl rfl rfl rfl) (EvL.cons (Ev.tbool c.gl rfl rfl rfl rfl) EvL.nil rfl) rfl) CallIs.int_bool rfl rfl rfl) t_bool (fun _ => rfl)) (fun _ => EvT.or0))) rfl), fun z => by cases z⟩
  case n8 =>
  intro s₇ a₇
  have hfalse : ((dueL (pairsL ns)).filter (fun _ => false)).map (fun p => AV.nat (lineAt (dText (pairsL ns)) p.2)) = [] := by rw [List.filter_eq_nil_iff.mpr (by simp)]; rfl
  rw [hfalse] at a₇
  with_reducible refine' x_ret (av := .bool true) a₇ ?e9 ?n9
  case e9 =>
    refine Ev.cast (Ev.and2b (a := true) (b := true) (Ev.cmp (a₇.ev (x := "calls") rfl rfl rfl rfl rfl) (a₇.ev (x := "due") rfl rfl rfl rfl rfl) (Op2.eqL ?fl ?un) rfl) (fun _ => Ev.cmp (a₇.ev (x := "odd") rfl rfl rfl rfl rfl) (Ev.lst EvL.nil a₇.xIn (by simp)) (Op2.eqL (fun d hd => by cases hd) ?un2) rfl)) rfl
    case un => show A.units + 3 + 1 < _; omega
    case un2 => show A.units + 3 + 1 < _; omega
    case fl =>
      intro d hd
      obtain ⟨p, _, rfl⟩ := List.mem_map.mp hd
      refine ⟨_, rfl, fun e he => ?_⟩
      simp only [List.mem_cons, List.not_mem_nil, or_false] at he
      rcases he with rfl | rfl | rfl
      · cases p.1 <;> exact trivial
      · exact trivial
      · exact trivial
  case n9 =>
  intro v s₈ a₈ i₈
  cases i₈
  exact hQ s₈ a₈.same (fun b o nb e => a₈.keep b o nb e) a₈.wh.1
end
end
section

open PySem PySem.W PyProof PyProof.Rows
theorem p1 : WShape.has [] (.bool true) .bool = true := by decide +kernel
theorem p2 (args ds : List WData) : WTm.holds [] (WTm.res.eq (WTm.lit (WData.bool true))) { args := args, res := some (WData.bool true), after := ds } = true := by
  have h : WTm.value [] (WTm.res.eq (WTm.lit (WData.bool true))) { args := args, res := some (WData.bool true), after := ds } = some (.bool true) := by
    simp only [WTm.value]
    first | rfl | decide +kernel | (simp; done) | trace_state
  unfold WTm.holds
  rw [h]
theorem post_true (args ds : List WData) : PySem.Challenge.rw_pk0028_01.row.claim.post args (.bool true) ds = true := by
  show (WShape.has [] (.bool true) .bool && WTm.holds [] (WTm.res.eq (WTm.lit (WData.bool true))) { args := args, res := some (WData.bool true), after := ds }) = true
  rw [p1, p2]; rfl
theorem loose_nil : looseW Mine.hd.view_39 [] = [] := by kernel_rfl
theorem top_of {mean : ExcName → Option Value} {mg mb : Str → Option Value} {h : Heap} (T : Top Mine.hd.view_39 (looseW Mine.hd.view_39 []) mean mg mb h) : TopRead Mine.hd.view_39 [] mg mb h := by
  have := topRead_of T
  rw [loose_nil] at this
  exact this
theorem gl_of {w : World} {mean : ExcName → Option Value} {mg mb : Str → Option Value} {h : Heap} (X : (Mine.hd.heap_39 w.params).In h) (T : Top Mine.hd.view_39 (looseW Mine.hd.view_39 []) mean mg mb h) : Gl w h := by
  refine ⟨X, ⟨mg, mb, top_of T⟩, ?_⟩
  obtain ⟨bm, ob, h1, h2, h3, h4, h5, h6⟩ := T.bmain
  have hb : nsIn (KK w) mainGlobals "__builtins__" = some (some (.ref 4)) := by rfl
  have := mg_of X T.g hb
  rw [this] at h1
  cases h1
  exact ⟨ob, h3, h4, h5, h6⟩
theorem ends {w : World} {mean : ExcName → Option Value} {mg mb : Str → Option Value} {cw : ClaimW} {cl : Str → Option Addr} {args : List WData} {s : Shared} {fa L : Addr} {vs : List Value} {ns : List Int}
    (X : (Mine.hd.heap_39 w.params).In s.heap) (T : Top Mine.hd.view_39 (looseW Mine.hd.view_39 []) mean mg mb s.heap) (hmg : mg "law" = some (.ref fa)) (hT : TabsAt [(92, 88)] s.heap) (hg : s.gens = #[]) (hl : s.heap.IsList L vs.toArray) (hi : IntsAre vs ns) (hn : ¬ (63 : Int) < ns.length)
    (hr : ∀ a x, cw.raises a x = false) (hp : cw.post args (.bool true) args = true) :
    codeAny (model PR w) callerA (.call (.ref fa) ⟨[.ref L], []⟩) (fun r s' => GoodW cw cl mean args { s with heap := ghostOf s.heap [(92, 88)] } r s' ∧ GrownAll [(92, 88)] s'.heap) s := by
  have hlaw : nsIn (KK w) mainGlobals "law" = some (some (.ref 117)) := by rfl
  have h117 := mg_of X T.g hlaw
  rw [h117] at hmg
  cases hmg
  have h88 : s.heap.get? 88 = some (tabObj #[]) := (hT (92, 88) (.head _)).2
  have g := gl_of X T
  refine codeAny_mono (law_code (Q := fun v s' => v = .bool true ∧ (∃ h tk, s' = { s with heap := h, toks := tk }) ∧ (∀ b o, b ≠ 88 → s.heap.get? b = some o → s'.heap.get? b = some o) ∧ ∃ ps, s'.heap.get? 88 = some (tabObj ps)) (E := fun _ _ => False) g hl hi (by omega) h88 rfl rfl (by decide +kernel) (by decide +kernel) fun s' h1 h2 h3 => ⟨rfl, h1, h2, h3⟩) fun r s' hr' => ?_
  cases r with
  | error e => exact hr'.elim
  | ok f =>
    cases f with
    | ret v =>
      obtain ⟨rfl, ⟨h, tk, rfl⟩, hk, hps⟩ := hr'
      refine ⟨⟨.inl ⟨_, _, [], rfl, fun c => hr _ c, .bool true, hp, fun _ => ⟨List.nodup_nil, fun a ha => absurd ha List.not_mem_nil⟩⟩, fun b o e => ?_, rfl, hg⟩, ⟨hps, trivial⟩⟩
      have e' : s.heap.get? b = some o := of_hideAll _ e
      refine hk b o (fun z => ?_) e'
      have : (ghostOf s.heap [(92, 88)]).get? 88 = none := hideAll_none _ (.head _)
      rw [z, this] at e; cases e
    | _ => exact hr'.elim
end
end Mine
open PySem PySem.W PyProof PyProof.Rows
set_option maxHeartbeats 8000000 in
theorem PySem.Challenge.cw_pk0028_01_holds : PySem.Challenge.rw_pk0028_01.Holds := by
  refine Mine.hd ?_
  k_fill
  intro w s₀ s₁ mg mb G Y fa o pm cd doc dV kV ho hd hcd hD hmg hg args vals as hpre hlay hrd hwl hlo
  have KX := km_in_of Y
  km_tabs Y
  have X := (Ground.X G).1
  have V := (Ground.X G).2
  refine Ground.open G ?_
  intro T B D TE TW
  try (refine guard_noD D (by decide +kernel) ?_; clear D)
  km_lay T hmg ho hd cd
  wrow_args hpre hlay hrd hwl hlo
  all_goals (first | refine callC_kw (enter_call ?_) | refine enter_call ?_)
  all_goals w_top on
  all_goals kn_posts
  exact Mine.ends KX T hmg hT9 hg (by assumption) (by assumption) (by assumption) (fun _ _ => rfl) (Mine.post_true _ _)

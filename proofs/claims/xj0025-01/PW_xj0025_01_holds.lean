import PyProof.Rows.All
import Wide.All
import OpenK.AllK
import Wide.FinOn
import PySem.Challenge.RW_xj0025_01
set_option maxRecDepth 100000
set_option maxHeartbeats 8000000
set_option Elab.async false
set_option linter.unusedVariables false
namespace Mine
open PySem PySem.W PySem.Calls PyProof.Rows
section
local macro_rules | `(tactic| o_head $H) => `(tactic| assumption)
theorem hd (h : PySem.Challenge.rw_xj0025_01.row.Holds) : PySem.Challenge.rw_xj0025_01.row.Holds := by k_head
end
set_option maxHeartbeats 1000000
-- MA1
section
/-- data, as they are read -/
inductive D where
  | int (i : Int)
  | bool (b : Bool)
  | str (x : Str)
  | tup (ds : List D)
  | lst (ds : List D)

noncomputable def SeqO (o : Obj) : Prop := ∃ vs n, o.data = .seq vs n

noncomputable abbrev tupO (vs : List Value) (n : Nat) : Obj := { cls := .type "tuple", data := .seq vs.toArray n }
noncomputable abbrev listO (vs : List Value) (n : Nat) : Obj := { cls := .type "list", data := .seq vs.toArray n }
mutual
inductive IsD (X : Addr → Prop) (h : Heap) : Value → D → Prop
  | int (i : Int) (t : Tok) : IsD X h (.int i t) (.int i)
  | bool (b : Bool) : IsD X h (.bool b) (.bool b)
  | str (x : Str) (t : Tok) : IsD X h (.str x t) (.str x)
  | tup {a : Addr} {vs : List Value} {n : Nat} {ds : List D} : ¬ X a → h.get? a = some (tupO vs n) → AllD X h vs ds → IsD X h (.ref a) (.tup ds)
  | lst {a : Addr} {vs : List Value} {n : Nat} {ds : List D} : ¬ X a → h.get? a = some (listO vs n) → AllD X h vs ds → IsD X h (.ref a) (.lst ds)
inductive AllD (X : Addr → Prop) (h : Heap) : List Value → List D → Prop
  | nil : AllD X h [] []
  | cons {v : Value} {vs : List Value} {d : D} {ds : List D} : IsD X h v d → AllD X h vs ds → AllD X h (v :: vs) (d :: ds)
end

noncomputable def SKeep (X : Addr → Prop) (h h' : Heap) : Prop := ∀ a o, ¬ X a → h.get? a = some o → SeqO o → h'.get? a = some o
noncomputable def Grow (h h' : Heap) : Prop := ∀ a o, h.get? a = some o → h'.get? a = some o
noncomputable def Live (X : Addr → Prop) (h : Heap) : Prop := ∀ a, X a → ∃ o, h.get? a = some o

theorem Grow.refl (h : Heap) : Grow h h := fun _ _ e => e
theorem Grow.trans {h₁ h₂ h₃ : Heap} (x : Grow h₁ h₂) (y : Grow h₂ h₃) : Grow h₁ h₃ := fun a o e => y a o (x a o e)
theorem Grow.skeep {X : Addr → Prop} {h h' : Heap} (x : Grow h h') : SKeep X h h' := fun a o _ e _ => x a o e
theorem Grow.push (h : Heap) (o : Obj) : Grow h (h.push o) := fun _ _ e => Heap.get?_push_of_some _ e
theorem Live.grow {X : Addr → Prop} {h h' : Heap} (x : Live X h) (g : Grow h h') : Live X h' := fun a ha => let ⟨o, e⟩ := x a ha; ⟨o, g a o e⟩
theorem Live.not_of_none {X : Addr → Prop} {h : Heap} (x : Live X h) {a : Addr} (e : h.get? a = none) : ¬ X a := fun ha => by
  obtain ⟨o, e'⟩ := x a ha; rw [e] at e'; cases e'
theorem get_size_none (h : Heap) {a : Addr} (ha : h.objs.size ≤ a) : h.get? a = none := by
  cases e : h.get? a with
  | none => rfl
  | some o => exact absurd (Heap.lt_size e) (Nat.not_lt.mpr ha)
theorem Live.fresh {X : Addr → Prop} {h : Heap} (x : Live X h) : ¬ X h.objs.size := x.not_of_none (get_size_none h (Nat.le_refl _))

mutual
theorem IsD.keep {X X' : Addr → Prop} {h h' : Heap} (hx : ∀ a o, h.get? a = some o → X' a → X a) (k : SKeep X h h') : ∀ {v : Value} {d : D}, IsD X h v d → IsD X' h' v d
  | _, _, .int i t => .int i t
  | _, _, .bool b => .bool b
  | _, _, .str x t => .str x t
  | _, _, .tup n e r => .tup (fun z => n (hx _ _ e z)) (k _ _ n e ⟨_, _, rfl⟩) (AllD.keep hx k r)
  | _, _, .lst n e r => .lst (fun z => n (hx _ _ e z)) (k _ _ n e ⟨_, _, rfl⟩) (AllD.keep hx k r)
theorem AllD.keep {X X' : Addr → Prop} {h h' : Heap} (hx : ∀ a o, h.get? a = some o → X' a → X a) (k : SKeep X h h') : ∀ {vs : List Value} {ds : List D}, AllD X h vs ds → AllD X' h' vs ds
  | _, _, .nil => .nil
  | _, _, .cons q r => .cons (IsD.keep hx k q) (AllD.keep hx k r)
end
section
variable {X X' : Addr → Prop} {h h' : Heap} {v : Value} {d : D} {vs ws : List Value} {ds es : List D}
theorem IsD.skeep (x : IsD X h v d) (k : SKeep X h h') : IsD X h' v d := x.keep (fun _ _ _ q => q) k
theorem AllD.skeep (x : AllD X h vs ds) (k : SKeep X h h') : AllD X h' vs ds := x.keep (fun _ _ _ q => q) k
theorem IsD.grow (x : IsD X h v d) (k : Grow h h') : IsD X h' v d := x.skeep k.skeep
theorem AllD.grow (x : AllD X h vs ds) (k : Grow h h') : AllD X h' vs ds := x.skeep k.skeep
theorem IsD.less (x : IsD X h v d) (hx : ∀ a, X' a → X a) : IsD X' h v d := x.keep (fun a _ _ q => hx a q) fun _ _ _ e _ => e
theorem AllD.less (x : AllD X h vs ds) (hx : ∀ a, X' a → X a) : AllD X' h vs ds := x.keep (fun a _ _ q => hx a q) fun _ _ _ e _ => e
theorem AllD.length (x : AllD X h vs ds) : vs.length = ds.length := by
  induction vs generalizing ds with
  | nil => cases x; rfl
  | cons v vs ih => cases x with | cons _ r => rw [List.length_cons, List.length_cons, ih r]
theorem AllD.append (x : AllD X h vs ds) (y : AllD X h ws es) : AllD X h (vs ++ ws) (ds ++ es) := by
  induction vs generalizing ds with
  | nil => cases x; exact y
  | cons v vs ih => cases x with | cons q r => exact .cons q (ih r)
theorem AllD.get (x : AllD X h vs ds) {k : Nat} (hk : ds[k]? = some d) : ∃ v, vs[k]? = some v ∧ IsD X h v d := by
  induction vs generalizing ds k with
  | nil => cases x; simp at hk
  | cons v vs ih =>
    cases x with
    | cons q r =>
      cases k with
      | zero => simp at hk; subst hk; exact ⟨v, rfl, q⟩
      | succ k => exact ih r (by simpa using hk)
theorem AllD.get' (x : AllD X h vs ds) {k : Nat} (hk : vs[k]? = some v) : ∃ d, ds[k]? = some d ∧ IsD X h v d := by
  induction vs generalizing ds k with
  | nil => simp at hk
  | cons u vs ih =>
    cases x with
    | cons q r =>
      cases k with
      | zero => simp at hk; subst hk; exact ⟨_, rfl, q⟩
      | succ k => exact ih r (by simpa using hk)
theorem AllD.take (x : AllD X h vs ds) (k : Nat) : AllD X h (vs.take k) (ds.take k) := by
  induction vs generalizing ds k with
  | nil => cases x; simp; exact .nil
  | cons v vs ih =>
    cases x with
    | cons q r => cases k with
      | zero => exact .nil
      | succ k => exact .cons q (ih r k)
theorem AllD.drop (x : AllD X h vs ds) (k : Nat) : AllD X h (vs.drop k) (ds.drop k) := by
  induction vs generalizing ds k with
  | nil => cases x; simp; exact .nil
  | cons v vs ih =>
    cases x with
    | cons q r => cases k with
      | zero => exact .cons q r
      | succ k => exact ih r k
theorem AllD.reverse (x : AllD X h vs ds) : AllD X h vs.reverse ds.reverse := by
  induction vs generalizing ds with
  | nil => cases x; exact .nil
  | cons v vs ih =>
    cases x with
    | cons q r => rw [List.reverse_cons, List.reverse_cons]; exact (ih r).append (.cons q .nil)
end

inductive Slot where
  | d (d : D)
  | v (v : Value)
  | m (a : Addr) (ds : List D)
noncomputable def IsS (X : Addr → Prop) (h : Heap) (v : Value) : Slot → Prop
  | .d d => IsD X h v d
  | .v u => v = u
  | .m a ds => v = .ref a ∧ X a ∧ ∃ vs k, h.get? a = some (listO vs k) ∧ AllD X h vs ds
noncomputable def VarIs (h : Heap) (env : Env) (x : Str) (v : Value) : Prop :=
  (env.kindOf x = some .local ∧ ∃ m, h.Ns env.locals m ∧ m x = some v) ∨
  ((env.kindOf x = some .cell ∨ env.kindOf x = some .free) ∧ ∃ c, env.cells.lookup x = some c ∧ h.IsCell c (some v))
noncomputable abbrev Ctxt := List (Str × Slot)

structure Has (B : Heap) (X : Addr → Prop) (h : Heap) (env : Env) (G : Ctxt) : Prop where
  keep : Grow B h
  fn : env.scope.kind = .function
  gl : env.globals = mainGlobals
  bi : env.builtins = builtinsNs
  var : ∀ p ∈ G, ∃ v, IsS X h v p.2 ∧ VarIs h env p.1 v

noncomputable def Room (n : Nat) (A : Around) : Prop := A.handled = none ∧ A.depth + n ≤ 900 ∧ A.units + 100 * n ≤ 9000

theorem VarIs.grow {h h' : Heap} {env : Env} {x : Str} {v : Value} (q : VarIs h env x v) (g : Grow h h') : VarIs h' env x v := by
  rcases q with ⟨a, m, hn, hm⟩ | ⟨a, c, hc, hv⟩
  · exact .inl ⟨a, m, hn.keeps g, hm⟩
  · exact .inr ⟨a, c, hc, hv.keeps g⟩
theorem IsS.grow {X : Addr → Prop} {h h' : Heap} {v : Value} {t : Slot} (q : IsS X h v t) (g : Grow h h') : IsS X h' v t := by
  cases t with
  | d d => exact IsD.grow q g
  | v u => exact q
  | m a ds => obtain ⟨e, hx, vs, k, ho, r⟩ := q; exact ⟨e, hx, vs, k, g _ _ ho, r.grow g⟩
theorem Has.grow {B : Heap} {X : Addr → Prop} {h h' : Heap} {env : Env} {G : Ctxt} (q : Has B X h env G) (g : Grow h h') : Has B X h' env G :=
  ⟨q.keep.trans g, q.fn, q.gl, q.bi, fun p hp => let ⟨v, a, b⟩ := q.var p hp; ⟨v, a.grow g, b.grow g⟩⟩

section
variable (prog : Program) (w : World) (B : Heap)

noncomputable def Ev (n : Nat) (env : Env) (G : Ctxt) (e : Expr) (d : D) : Prop :=
  ∀ (A : Around) (X : Addr → Prop) (Q : Value → Shared → Prop) (E : Value → Shared → Prop) (s : Shared), Room n A → Live X s.heap → Has B X s.heap env G →
    (∀ v h' tk, Grow s.heap h' → IsD X h' v d → Q v { s with heap := h', toks := tk }) → wpAny (model prog w) A (eval e env) Q E s

noncomputable def EvT (n : Nat) (env : Env) (G : Ctxt) (e : Expr) (b : Bool) : Prop :=
  ∀ (A : Around) (X : Addr → Prop) (Q : Bool → Shared → Prop) (E : Value → Shared → Prop) (s : Shared), Room n A → Live X s.heap → Has B X s.heap env G →
    (∀ h' tk, Grow s.heap h' → Q b { s with heap := h', toks := tk }) → wpAny (model prog w) A (isTrue e env (eval e env)) Q E s

noncomputable def EvL (n : Nat) (env : Env) (G : Ctxt) (es : List Expr) (ds : List D) : Prop :=
  ∀ (A : Around) (X : Addr → Prop) (Q : List Value → Shared → Prop) (E : Value → Shared → Prop) (s : Shared), Room n A → Live X s.heap → Has B X s.heap env G →
    (∀ vs h' tk, Grow s.heap h' → AllD X h' vs ds → Q vs { s with heap := h', toks := tk }) → wpAny (model prog w) A (spliced (es.map fun e => (false, eval e env))) Q E s

/-- a tree on two data, which only makes new things -/
noncomputable def Op2 (n : Nat) (t : Value → Value → Sem Value) (a b d : D) : Prop :=
  ∀ (A : Around) (X : Addr → Prop) (Q : Value → Shared → Prop) (E : Value → Shared → Prop) (s : Shared) (u v : Value), Room n A → Live X s.heap → Grow B s.heap → IsD X s.heap u a → IsD X s.heap v b →
    (∀ r h' tk, Grow s.heap h' → IsD X h' r d → Q r { s with heap := h', toks := tk }) → wpAny (model prog w) A (t u v) Q E s
noncomputable def Op1 (n : Nat) (t : Value → Sem Value) (a d : D) : Prop :=
  ∀ (A : Around) (X : Addr → Prop) (Q : Value → Shared → Prop) (E : Value → Shared → Prop) (s : Shared) (u : Value), Room n A → Live X s.heap → Grow B s.heap → IsD X s.heap u a →
    (∀ r h' tk, Grow s.heap h' → IsD X h' r d → Q r { s with heap := h', toks := tk }) → wpAny (model prog w) A (t u) Q E s
/-- the truth of a datum -/
noncomputable def Tru (n : Nat) (a : D) (b : Bool) : Prop :=
  ∀ (A : Around) (X : Addr → Prop) (Q : Bool → Shared → Prop) (E : Value → Shared → Prop) (s : Shared) (u : Value), Room n A → Live X s.heap → Grow B s.heap → IsD X s.heap u a →
    (∀ h' tk, Grow s.heap h' → Q b { s with heap := h', toks := tk }) → wpAny (model prog w) A (truthy u) Q E s
/-- a call upon data -/
noncomputable def CallD (n : Nat) (f : Value) (as : List D) (d : D) : Prop :=
  ∀ (A : Around) (X : Addr → Prop) (Q : Value → Shared → Prop) (E : Value → Shared → Prop) (s : Shared) (vs : List Value), Room n A → Live X s.heap → Grow B s.heap → AllD X s.heap vs as →
    (∀ r h' tk, Grow s.heap h' → IsD X h' r d → Q r { s with heap := h', toks := tk }) → wpAny (model prog w) A (call f vs []) Q E s
end

section
variable {prog : Program} {w : World} {B : Heap} {n : Nat} {env : Env} {G : Ctxt}

theorem Ev.int {i : Int} {k : Nat} {pos : Pos} : Ev prog w B n env G (.Constant (.int i) k pos) (.int i) := fun _ _ _ _ s _ _ _ h =>
  wpAny_Constant_int (h _ _ _ (Grow.refl _) (.int i _))
theorem Ev.str {x : Str} {k : Nat} {pos : Pos} : Ev prog w B n env G (.Constant (.str x) k pos) (.str x) := fun _ _ _ _ s _ _ _ h =>
  wpAny_Constant_str (h _ _ _ (Grow.refl _) (.str x _))
theorem Ev.bool {b : Bool} {k : Nat} {pos : Pos} : Ev prog w B n env G (.Constant (.bool b) k pos) (.bool b) := fun _ _ _ _ s _ _ _ h =>
  wpAny_Constant_bool (h _ s.heap s.toks (Grow.refl _) (.bool b))
theorem Ev.name {x : Str} {pos : Pos} {d : D} (hm : (x, Slot.d d) ∈ G) (hd : (x == ("__debug__" : Str)) = false := by decide) (hc : (x == ("__classdict__" : Str)) = false := by decide) : Ev prog w B n env G (.Name x pos) d := by
  intro A X Q E s _ _ H h
  obtain ⟨v, hv, hx⟩ := H.var _ hm
  have fin : Q v s := h v s.heap s.toks (Grow.refl _) hv
  rcases hx with ⟨a, m, hn, hm⟩ | ⟨a | a, c, hcl, hcv⟩
  · exact wpAny_Name (wpAny_loadName_local H.fn a hn hm fin) hd
  · exact wpAny_Name (wpAny_loadName_cell H.fn a hcl hcv fin) hd
  · exact wpAny_Name (wpAny_loadName_free H.fn a hcl hcv fin hc) hd
theorem Ev.bin {l r : Expr} {op : Operator} {pos : Pos} {a b d : D} (hl : Ev prog w B n env G l a) (hr : Ev prog w B n env G r b) (ho : Op2 prog w B n (binaryOp op) a b d) : Ev prog w B n env G (.BinOp l op r pos) d := by
  intro A X Q E s R L H h
  refine wpAny_BinOp (hl A X _ E s R L H fun u h₁ t₁ g₁ q₁ => hr A X _ E _ R (L.grow g₁) (H.grow g₁) fun v h₂ t₂ g₂ q₂ => ?_)
  exact ho A X _ E _ u v R (L.grow (g₁.trans g₂)) (H.keep.trans (g₁.trans g₂)) (q₁.grow g₂) q₂ fun r h₃ t₃ g₃ q₃ => h r h₃ t₃ (g₁.trans (g₂.trans g₃)) q₃
theorem Ev.una {e : Expr} {op : UnaryOp} {pos : Pos} {a d : D} (he : Ev prog w B n env G e a) (ho : Op1 prog w B n (unaryOp op) a d) : Ev prog w B n env G (.UnaryOp op e pos) d := by
  intro A X Q E s R L H h
  refine wpAny_UnaryOp (he A X _ E s R L H fun u h₁ t₁ g₁ q₁ => ?_)
  exact ho A X _ E _ u R (L.grow g₁) (H.keep.trans g₁) q₁ fun r h₃ t₃ g₃ q₃ => h r h₃ t₃ (g₁.trans g₃) q₃
theorem Ev.cmp {l r : Expr} {op : CmpOp} {pos : Pos} {a b d : D} (hl : Ev prog w B n env G l a) (hr : Ev prog w B n env G r b) (ho : Op2 prog w B n (compareOp op) a b d)
    (hm : behindInMarks op r = false := by with_unfolding_all rfl) : Ev prog w B n env G (.Compare l [op] [r] pos) d := by
  intro A X Q E s R L H h
  refine wpAny_Compare1 (hl A X _ E s R L H fun u h₁ t₁ g₁ q₁ => hr A X _ E _ R (L.grow g₁) (H.grow g₁) fun v h₂ t₂ g₂ q₂ => ?_) hm
  exact ho A X _ E _ u v R (L.grow (g₁.trans g₂)) (H.keep.trans (g₁.trans g₂)) (q₁.grow g₂) q₂ fun r h₃ t₃ g₃ q₃ => h r h₃ t₃ (g₁.trans (g₂.trans g₃)) q₃
theorem EvT.cmp {l r : Expr} {op : CmpOp} {pos : Pos} {a b : D} {c : Bool} (hl : Ev prog w B n env G l a) (hr : Ev prog w B n env G r b) (ho : Op2 prog w B n (compareOp op) a b (.bool c))
    (hm : behindInMarks op r = false := by with_unfolding_all rfl) : EvT prog w B n env G (.Compare l [op] [r] pos) c := by
  intro A X Q E s R L H h
  refine wpAny_isTrue_Compare1 (hl A X _ E s R L H fun u h₁ t₁ g₁ q₁ => hr A X _ E _ R (L.grow g₁) (H.grow g₁) fun v h₂ t₂ g₂ q₂ => ?_) hm
  exact ho A X _ E _ u v R (L.grow (g₁.trans g₂)) (H.keep.trans (g₁.trans g₂)) (q₁.grow g₂) q₂ fun r h₃ t₃ g₃ q₃ => by
    cases q₃; exact wpAny_truthy_bool (h h₃ t₃ (g₁.trans (g₂.trans g₃)))
theorem Tru.bool {b : Bool} : Tru prog w B n (.bool b) b := fun _ _ _ _ s _ _ _ _ q h => by
  cases q; exact wpAny_truthy_bool (h s.heap s.toks (Grow.refl _))
theorem EvT.plain {e : Expr} {a : D} {c : Bool} (he : Ev prog w B n env G e a) (ht : Tru prog w B n a c) (hp : ∀ whole, isTrue e env whole = (do let v ← whole; standAt e.pos; holding [v] (truthy v)) := by intro _; rfl) : EvT prog w B n env G e c := by
  intro A X Q E s R L H h
  refine isTrue_plain (he A X _ E s R L H fun u h₁ t₁ g₁ q₁ => ?_) (hp _)
  exact ht A X _ E _ u R (L.grow g₁) (H.keep.trans g₁) q₁ fun h₃ t₃ g₃ => h h₃ t₃ (g₁.trans g₃)
theorem EvT.and2 {e f : Expr} {pos : Pos} {b c : Bool} (he : EvT prog w B n env G e b) (hf : b = true → EvT prog w B n env G f c) (hb : b = false → c = false) : EvT prog w B n env G (.BoolOp .And [e, f] pos) c := by
  intro A X Q E s R L H h
  refine isTrue_and (he A X _ E s R L H fun h₁ t₁ g₁ => ?_)
  cases b with
  | false => rw [if_neg (by decide)]; rw [hb rfl] at h; exact h h₁ t₁ g₁
  | true =>
    rw [if_pos rfl]
    refine isTrue_and (hf rfl A X _ E _ R (L.grow g₁) (H.grow g₁) fun h₂ t₂ g₂ => ?_)
    cases c with
    | false => rw [if_neg (by decide)]; exact h h₂ t₂ (g₁.trans g₂)
    | true => rw [if_pos rfl]; exact isTrue_and_nil (h h₂ t₂ (g₁.trans g₂))
theorem EvT.or2 {e f : Expr} {pos : Pos} {b c : Bool} (he : EvT prog w B n env G e b) (hf : b = false → EvT prog w B n env G f c) (hb : b = true → c = true) : EvT prog w B n env G (.BoolOp .Or [e, f] pos) c := by
  intro A X Q E s R L H h
  refine isTrue_or (he A X _ E s R L H fun h₁ t₁ g₁ => ?_)
  cases b with
  | true => rw [if_pos rfl]; rw [hb rfl] at h; exact h h₁ t₁ g₁
  | false =>
    rw [if_neg (by decide)]
    refine isTrue_or (hf rfl A X _ E _ R (L.grow g₁) (H.grow g₁) fun h₂ t₂ g₂ => ?_)
    cases c with
    | true => rw [if_pos rfl]; exact h h₂ t₂ (g₁.trans g₂)
    | false => rw [if_neg (by decide)]; exact isTrue_or_nil (h h₂ t₂ (g₁.trans g₂))
/-- a or b as a value, both truth values -/
theorem Ev.or2 {e f : Expr} {pos : Pos} {b c : Bool} (he : Ev prog w B n env G e (.bool b)) (hf : Ev prog w B n env G f (.bool c)) : Ev prog w B n env G (.BoolOp .Or [e, f] pos) (.bool (b || c)) := by
  intro A X Q E s R L H h
  refine BoolOp_or (he A X _ E s R L H fun u h₁ t₁ g₁ q₁ => ?_)
  cases q₁
  refine wpAny_truthy_bool ?_
  cases b with
  | true => rw [if_pos rfl]; exact h _ h₁ t₁ g₁ (.bool true)
  | false =>
    rw [if_neg (by decide)]
    exact BoolOp_one (hf A X _ E _ R (L.grow g₁) (H.grow g₁) fun v h₂ t₂ g₂ q₂ => h v h₂ t₂ (g₁.trans g₂) q₂)
theorem Ev.ite {t e f : Expr} {pos : Pos} {b : Bool} {d : D} (ht : EvT prog w B n env G t b) (he : b = true → Ev prog w B n env G e d) (hf : b = false → Ev prog w B n env G f d) : Ev prog w B n env G (.IfExp t e f pos) d := by
  intro A X Q E s R L H h
  refine IfExp_ (ht A X _ E s R L H fun h₁ t₁ g₁ => ?_)
  cases b with
  | true => rw [if_pos rfl]; exact he rfl A X _ E _ R (L.grow g₁) (H.grow g₁) fun v h₂ t₂ g₂ q₂ => h v h₂ t₂ (g₁.trans g₂) q₂
  | false => rw [if_neg (by decide)]; exact hf rfl A X _ E _ R (L.grow g₁) (H.grow g₁) fun v h₂ t₂ g₂ q₂ => h v h₂ t₂ (g₁.trans g₂) q₂
theorem Ev.sub {e f : Expr} {pos : Pos} {a b d : D} (he : Ev prog w B n env G e a) (hf : Ev prog w B n env G f b) (ho : Op2 prog w B n (subscriptTail e f) a b d) : Ev prog w B n env G (.Subscript e f pos) d := by
  intro A X Q E s R L H h
  refine Subscript_ (he A X _ E s R L H fun u h₁ t₁ g₁ q₁ => hf A X _ E _ R (L.grow g₁) (H.grow g₁) fun v h₂ t₂ g₂ q₂ => ?_)
  exact ho A X _ E _ u v R (L.grow (g₁.trans g₂)) (H.keep.trans (g₁.trans g₂)) (q₁.grow g₂) q₂ fun r h₃ t₃ g₃ q₃ => h r h₃ t₃ (g₁.trans (g₂.trans g₃)) q₃
theorem EvL.nil : EvL prog w B n env G [] [] := fun _ _ _ _ s _ _ _ h => spliced_nil (h [] s.heap s.toks (Grow.refl _) .nil)
theorem EvL.cons {e : Expr} {es : List Expr} {d : D} {ds : List D} (he : Ev prog w B n env G e d) (hs : EvL prog w B n env G es ds) : EvL prog w B n env G (e :: es) (d :: ds) := by
  intro A X Q E s R L H h
  rw [List.map_cons]
  refine spliced_cons (he A X _ E s R L H fun u h₁ t₁ g₁ q₁ => hs A X _ E _ R (L.grow g₁) (H.grow g₁) fun vs h₂ t₂ g₂ q₂ => ?_)
  exact h _ h₂ t₂ (g₁.trans g₂) (.cons (q₁.grow g₂) q₂)
theorem backTo_plain (pos : Pos) (es : List Expr) : backTo pos (es.map fun e => (false, eval e env)) = es.map fun e => (false, eval e env) := by
  simp [backTo]
theorem Ev.tup {es : List Expr} {k : Nat} {pos : Pos} {ds : List D} (hs : EvL prog w B n env G es ds) (hz : ds.length ≤ sizeLine) (hst : starEach es env = es.map fun e => (false, eval e env) := by rfl) : Ev prog w B n env G (.Tuple es k pos) (.tup ds) := by
  intro A X Q E s R L H h
  refine Tuple_ ?_
  rw [hst, backTo_plain]
  refine hs A X _ E s R L H fun vs h₁ t₁ g₁ q₁ => ?_
  refine wpAny_newObj_type (h _ _ _ (g₁.trans (Grow.push _ _)) (.tup (L.grow g₁).fresh (Heap.get?_push_size _ rfl) (q₁.grow (Grow.push _ _)))) ?_
  show vs.toArray.size ≤ sizeLine
  rw [List.size_toArray, q₁.length]; exact hz
theorem Ev.list {es : List Expr} {pos : Pos} {ds : List D} (hs : EvL prog w B n env G es ds) (hz : ds.length ≤ sizeLine) (hst : starEach es env = es.map fun e => (false, eval e env) := by rfl) : Ev prog w B n env G (.List es pos) (.lst ds) := by
  intro A X Q E s R L H h
  refine List_ ?_
  rw [hst, backTo_plain]
  refine hs A X _ E s R L H fun vs h₁ t₁ g₁ q₁ => ?_
  refine wpAny_newObj_type (h _ _ _ (g₁.trans (Grow.push _ _)) (.lst (L.grow g₁).fresh (Heap.get?_push_size _ rfl) (q₁.grow (Grow.push _ _)))) ?_
  show vs.toArray.size ≤ sizeLine
  rw [List.size_toArray, q₁.length]; exact hz
end
end
-- MA2
section
section
variable {prog : Program} {w : World} {B : Heap} {n : Nat} {env : Env} {G : Ctxt}

theorem Op2.add_int {a b : Int} : Op2 prog w B n (binaryOp .Add) (.int a) (.int b) (.int (a + b)) := fun A X Q E s u v R L g p q h => by
  cases p; cases q; exact PyProof.Rows.add_int (h _ s.heap _ (Grow.refl _) (.int _ _))
theorem Op2.sub_int {a b : Int} : Op2 prog w B n (binaryOp .Sub) (.int a) (.int b) (.int (a - b)) := fun A X Q E s u v R L g p q h => by
  cases p; cases q; exact PyProof.Rows.sub_int (h _ s.heap _ (Grow.refl _) (.int _ _))
theorem Op2.sub_bool {a b : Bool} : Op2 prog w B n (binaryOp .Sub) (.bool a) (.bool b) (.int (b2i a - b2i b)) := fun A X Q E s u v R L g p q h => by
  cases p; cases q; exact PyProof.Rows.sub_bool (h _ s.heap _ (Grow.refl _) (.int _ _))
theorem Op2.mul_int {a b : Int} (hm : IntMulOk a b) : Op2 prog w B n (binaryOp .Mult) (.int a) (.int b) (.int (a * b)) := fun A X Q E s u v R L g p q h => by
  cases p; cases q; exact PyProof.Rows.mul_int (h _ s.heap _ (Grow.refl _) (.int _ _)) hm
theorem Op2.fdiv_int {a b : Int} (hb : b ≠ 0) (hs : b.natAbs < 1073741824) : Op2 prog w B n (binaryOp .FloorDiv) (.int a) (.int b) (.int (a.fdiv b)) := fun A X Q E s u v R L g p q h => by
  cases p; cases q; exact PyProof.Rows.floordiv_int hb (h _ s.heap _ (Grow.refl _) (.int _ _)) (.inl (PyProof.noPylong_small hs))
theorem Op2.mod_int {a b : Int} (hb : b ≠ 0) : Op2 prog w B n (binaryOp .Mod) (.int a) (.int b) (.int (a.fmod b)) := fun A X Q E s u v R L g p q h => by
  cases p; cases q; exact PyProof.Rows.mod_int hb (h _ s.heap _ (Grow.refl _) (.int _ _))
theorem Op2.pow_int {a b : Int} (hn : 0 ≤ b) (hn2 : b ≤ 1000000) (ha : a.natAbs < 2 ^ 64) : Op2 prog w B n (binaryOp .Pow) (.int a) (.int b) (.int (a ^ b.toNat)) := fun A X Q E s u v R L g p q h => by
  cases p; cases q; exact PyProof.Rows.pow_int_small hn hn2 ha (h _ s.heap _ (Grow.refl _) (.int _ _))
theorem Op2.add_str {a b : Str} (hz : a.length + b.length ≤ sizeLine) : Op2 prog w B n (binaryOp .Add) (.str a) (.str b) (.str (a ++ b)) := fun A X Q E s u v R L g p q h => by
  cases p; cases q
  refine P.add_str ?_
  split
  · rename_i e
    have e' : a ++ b = b := by
      have : a.cps = #[] := by simpa [Str.length] using e
      cases a; cases b; simp only at this; subst this; show Str.mk _ = _; simp
    rw [e'] at h
    exact h _ s.heap _ (Grow.refl _) (.str _ _)
  · split
    · rename_i e
      have e' : a ++ b = a := by
        have : b.cps = #[] := by simpa [Str.length] using e
        cases a; cases b; simp only at this; subst this; show Str.mk _ = _; simp
      rw [e'] at h
      exact h _ s.heap _ (Grow.refl _) (.str _ _)
    · refine ⟨?_, h _ s.heap _ (Grow.refl _) (.str _ _)⟩
      rw [Str.length_append]; exact hz
theorem Op1.neg_int {a : Int} : Op1 prog w B n (unaryOp .USub) (.int a) (.int (-a)) := fun A X Q E s u R L g p h => by
  cases p; exact P.neg_int (h _ s.heap _ (Grow.refl _) (.int _ _))
theorem Op2.eq_int {a b : Int} : Op2 prog w B n (compareOp .Eq) (.int a) (.int b) (.bool (a == b)) := fun A X Q E s u v R L g p q h => by
  cases p; cases q; exact PyProof.Rows.eq_int (h _ s.heap s.toks (Grow.refl _) (.bool _))
theorem Op2.ne_int {a b : Int} : Op2 prog w B n (compareOp .NotEq) (.int a) (.int b) (.bool (a != b)) := fun A X Q E s u v R L g p q h => by
  cases p; cases q; exact PyProof.Rows.ne_int (h _ s.heap s.toks (Grow.refl _) (.bool _))
theorem Op2.lt_int {a b : Int} : Op2 prog w B n (compareOp .Lt) (.int a) (.int b) (.bool (decide (a < b))) := fun A X Q E s u v R L g p q h => by
  cases p; cases q; exact PyProof.Rows.lt_int (h _ s.heap s.toks (Grow.refl _) (.bool _))
theorem Op2.gt_int {a b : Int} : Op2 prog w B n (compareOp .Gt) (.int a) (.int b) (.bool (decide (b < a))) := fun A X Q E s u v R L g p q h => by
  cases p; cases q; exact PyProof.Rows.gt_int (h _ s.heap s.toks (Grow.refl _) (.bool _))
theorem Op2.eq_str {a b : Str} : Op2 prog w B n (compareOp .Eq) (.str a) (.str b) (.bool (a.cps.toList == b.cps.toList)) := fun A X Q E s u v R L g p q h => by
  cases p; cases q; exact P.eq_str (h _ s.heap s.toks (Grow.refl _) (.bool _))
theorem Op2.ne_str {a b : Str} : Op2 prog w B n (compareOp .NotEq) (.str a) (.str b) (.bool (a.cps.toList != b.cps.toList)) := fun A X Q E s u v R L g p q h => by
  cases p; cases q; exact P.ne_str (h _ s.heap s.toks (Grow.refl _) (.bool _))
theorem Op2.lt_str {a b : Str} : Op2 prog w B n (compareOp .Lt) (.str a) (.str b) (.bool (decide (a.cps.toList < b.cps.toList))) := fun A X Q E s u v R L g p q h => by
  cases p; cases q; exact P.lt_str (h _ s.heap s.toks (Grow.refl _) (.bool _))
theorem Op2.gt_str {a b : Str} : Op2 prog w B n (compareOp .Gt) (.str a) (.str b) (.bool (decide (b.cps.toList < a.cps.toList))) := fun A X Q E s u v R L g p q h => by
  cases p; cases q; exact P.gt_str (h _ s.heap s.toks (Grow.refl _) (.bool _))

theorem Op2.add_lst {as bs : List D} (hz : as.length + bs.length ≤ sizeLine) : Op2 prog w B n (binaryOp .Add) (.lst as) (.lst bs) (.lst (as ++ bs)) := fun A X Q E s u v R L g p q h => by
  cases p with
  | @lst l vs k _ nx ho ra =>
  have ⟨o, ho, hc, hd, hdn0⟩ : ∃ o, _ = some o ∧ o.cls = .type "list" ∧ o.data = .seq vs.toArray k ∧ o.dict = none := ⟨_, ho, rfl, rfl, rfl⟩
  cases q with
  | @lst b ws k2 _ nx2 ho2 rb =>
  have ⟨o2, ho2, hc2, hd2, hdn0⟩ : ∃ o, _ = some o ∧ o.cls = .type "list" ∧ o.data = .seq ws.toArray k2 ∧ o.dict = none := ⟨_, ho2, rfl, rfl, rfl⟩
  obtain ⟨cls, dd, data, sl⟩ := o
  obtain ⟨cls2, dd2, data2, sl2⟩ := o2
  simp only at hc hd hc2 hd2
  subst hc hd hc2 hd2
  have e : vs.toArray ++ ws.toArray = (vs ++ ws).toArray := by simp
  refine concat_meets ⟨_, ho, rfl⟩ ⟨_, ho2, rfl⟩ noFill_list_add seq_list_add PySem.F.slot_list_add PySem.F.entry_list_add (PySem.F.args_list_add_2 _ _)
    (list_addW l b vs.toArray ws.toArray k k2 dd dd2 sl sl2 (by simp only [List.size_toArray]; rw [ra.length, rb.length]; exact hz)) ⟨ho, ho2, ?_⟩
  rw [e]
  exact h _ _ s.toks (Grow.push _ _) (.lst L.fresh (Heap.get?_push_size _ rfl) ((ra.append rb).grow (Grow.push _ _)))

/-- a list's item at a place that may be counted from behind -/
theorem Op2.item_lst {e f : Expr} {ds : List D} {k : Int} {d : D} {j : Nat} (hj : seqIndex? k ds.length = some j) (hd : ds[j]? = some d) (hlo : -(2 ^ 63) ≤ k) (hhi : k < 2 ^ 63)
    (hs : ∀ o i, subscripted f false o i = operate [o, i] (getItem o i) := by intro _ _; rfl) : Op2 prog w B n (subscriptTail e f) (.lst ds) (.int k) d := fun A X Q E s u v R L g p q h => by
  cases q with
  | int _ t =>
  cases p with
  | @lst l vs m _ nx ho r =>
  have ⟨o, ho, hc, hdd, hdn0⟩ : ∃ o, _ = some o ∧ o.cls = .type "list" ∧ o.data = .seq vs.toArray m ∧ o.dict = none := ⟨_, ho, rfl, rfl, rfl⟩
  obtain ⟨x, hx, hxd⟩ := r.get hd
  have hl : s.heap.IsList l vs.toArray := ⟨o, ho, hc, m, hdd⟩
  have hlen := r.length
  refine tail_any (ops := [.ref l, .int k t]) hl.typeIs slot_list_getitem.lookup ?_ (hs _ _)
  unfold seqIndex? at hj
  by_cases hk : k < 0
  · simp only [hk, if_true] at hj
    split at hj
    · rename_i hc
      simp only [Bool.and_eq_true, decide_eq_true_eq] at hc
      cases hj
      refine wpAny_getItem_list_neg hl hk (by simp only [List.size_toArray]; omega) hlo (x := x) ?_ (h _ s.heap s.toks (Grow.refl _) hxd)
      simp only [List.size_toArray, hlen]
      simpa using hx
    · cases hj
  · simp only [hk, if_false] at hj
    split at hj
    · cases hj
      exact wpAny_getItem_list hl (by omega) hhi (x := x) (by simpa using hx) (h _ s.heap s.toks (Grow.refl _) hxd)
    · cases hj
theorem Op2.item_tup {e f : Expr} {ds : List D} {k : Int} {d : D} {j : Nat} (hj : seqIndex? k ds.length = some j) (hd : ds[j]? = some d) (hlo : -(2 ^ 63) ≤ k) (hhi : k < 2 ^ 63)
    (hs : ∀ o i, subscripted f false o i = operate [o, i] (getItem o i) := by intro _ _; rfl) : Op2 prog w B n (subscriptTail e f) (.tup ds) (.int k) d := fun A X Q E s u v R L g p q h => by
  cases q with
  | int _ t =>
  cases p with
  | @tup l vs m _ nx ho r =>
  have ⟨o, ho, hc, hdd, hdn0⟩ : ∃ o, _ = some o ∧ o.cls = .type "tuple" ∧ o.data = .seq vs.toArray m ∧ o.dict = none := ⟨_, ho, rfl, rfl, rfl⟩
  obtain ⟨x, hx, hxd⟩ := r.get hd
  have hl : IsTup s.heap l vs.toArray := ⟨o, ho, hc, m, hdd⟩
  have hlen := r.length
  exact tail_any (ops := [.ref l, .int k t]) hl.typeIs slot_tuple_getitem.lookup (getItem_tuple hl hlo hhi (j := j) (by simpa [hlen] using hj) (x := x) (by simpa using hx) (h _ s.heap s.toks (Grow.refl _) hxd)) (hs _ _)
theorem Op2.item_str {e f : Expr} {x : Str} {k : Int} {c : Nat} (hr : (decide (k < -(2 ^ 63 : Int)) || decide (k ≥ 2 ^ 63)) = false) (hc : (seqIndex? k x.length).bind (x.cps[·]?) = some c)
    (hs : ∀ o i, subscripted f false o i = operate [o, i] (getItem o i) := by intro _ _; rfl) : Op2 prog w B n (subscriptTail e f) (.str x) (.int k) (.str ⟨#[c]⟩) := fun A X Q E s u v R L g p q h => by
  cases q with
  | int _ t =>
  cases p with
  | str _ t' =>
  exact tail_any (ops := [.str x t', .int k t]) (typeIs_str s x t') PySem.F.slot_str_getitem.lookup (P.getItem_str hr hc (h _ s.heap _ (Grow.refl _) (.str _ _))) (hs _ _)

/-- an optional part of a slice -/
noncomputable def EvO (prog : Program) (w : World) (B : Heap) (n : Nat) (env : Env) (G : Ctxt) (e : Option Expr) (k : Option Int) : Prop := match e, k with
  | none, none => True
  | some e, some i => Ev prog w B n env G e (.int i)
  | _, _ => False
theorem EvO.run {e : Option Expr} {k : Option Int} (he : EvO prog w B n env G e k) {A : Around} {X : Addr → Prop} {Q : Value → Shared → Prop} {E : Value → Shared → Prop} {s : Shared} (R : Room n A) (L : Live X s.heap) (H : Has B X s.heap env G)
    (h : ∀ v h' tk, Grow s.heap h' → IsPart v k → (∃ p, v = partValue p ∧ p.map (·.1) = k) → Q v { s with heap := h', toks := tk }) : wpAny (model prog w) A (evalPart e env) Q E s := by
  cases e with
  | none => cases k with
    | none => rw [evalPart_none]; exact wpAny_pure (h _ s.heap s.toks (Grow.refl _) .none ⟨none, rfl, rfl⟩)
    | some i => exact he.elim
  | some e => cases k with
    | none => exact he.elim
    | some i => exact he A X _ E s R L H fun v h' t g q => by cases q; exact h _ h' t g (.int i _) ⟨some (i, _), rfl, rfl⟩

noncomputable def pickD {α : Type} (ds : List α) (lo hi st : Option Int) : List α :=
  (sliceRange (sliceBounds lo hi st ds.length).1 (sliceBounds lo hi st ds.length).2.1 (sliceBounds lo hi st ds.length).2.2).filterMap (ds[·]?)
theorem AllD.picks {X : Addr → Prop} {h : Heap} {vs : List Value} {ds : List D} (r : AllD X h vs ds) : ∀ ks : List Nat, AllD X h (ks.filterMap (vs[·]?)) (ks.filterMap (ds[·]?))
  | [] => .nil
  | k :: ks => by
    simp only [List.filterMap_cons]
    cases hv : vs[k]? with
    | none =>
      have : ds[k]? = none := by
        rw [List.getElem?_eq_none_iff] at hv ⊢
        rw [← r.length]; exact hv
      rw [this]
      exact AllD.picks r ks
    | some v =>
      obtain ⟨d, hd, q⟩ := r.get' hv
      rw [hd]
      exact .cons q (AllD.picks r ks)
theorem slicePick_toList (vs : List Value) (lo hi st : Option Int) : slicePick vs.toArray lo hi st = (pickD vs lo hi st).toArray := by
  unfold slicePick pickD
  simp
theorem AllD.pick {X : Addr → Prop} {h : Heap} {vs : List Value} {ds : List D} (r : AllD X h vs ds) (lo hi st : Option Int) : AllD X h (pickD vs lo hi st) (pickD ds lo hi st) := by
  unfold pickD
  rw [r.length]
  exact r.picks _

theorem Ev.slice_lst {e : Expr} {lower upper step : Option Expr} {p pos : Pos} {ds : List D} {lo hi st : Option Int} (he : Ev prog w B n env G e (.lst ds)) (hl : EvO prog w B n env G lower lo) (hu : EvO prog w B n env G upper hi)
    (ht : EvO prog w B n env G step st) (h0 : st ≠ some 0) (hz : ds.length ≤ sizeLine) (ops : Value → Value → List Value)
    (hs : ∀ o i, subscripted (.Slice lower upper step p) false o i = operate (ops o i) (getItem o i)) : Ev prog w B n env G (.Subscript e (.Slice lower upper step p) pos) (.lst (pickD ds lo hi st)) := by
  intro A X Q E s R L H h
  refine Subscript_ (he A X _ E s R L H fun u h₁ t₁ g₁ q₁ => wpAny_Slice ?_)
  refine hl.run R (L.grow g₁) (H.grow g₁) fun v₂ h₂ t₂ g₂ p₂ _ => ?_
  refine hu.run R (L.grow (g₁.trans g₂)) (H.grow (g₁.trans g₂)) fun v₃ h₃ t₃ g₃ p₃ _ => ?_
  refine ht.run R (L.grow (g₁.trans (g₂.trans g₃))) (H.grow (g₁.trans (g₂.trans g₃))) fun v₄ h₄ t₄ g₄ p₄ _ => ?_
  have gg : Grow h₁ (h₄.push { cls := .type "slice", data := .fields #[v₂, v₃, v₄] }) := g₂.trans (g₃.trans (g₄.trans (Grow.push _ _)))
  have q₄ := q₁.grow gg
  cases q₁ with
  | @lst l vs m _ nx ho r =>
  have ⟨o, ho, hc, hdd, hdn0⟩ : ∃ o, _ = some o ∧ o.cls = .type "list" ∧ o.data = .seq vs.toArray m ∧ o.dict = none := ⟨_, ho, rfl, rfl, rfl⟩
  have hli : (h₄.push { cls := .type "slice", data := .fields #[v₂, v₃, v₄] }).IsList l vs.toArray := ⟨o, gg _ _ ho, hc, m, hdd⟩
  refine tail_any hli.typeIs slot_list_getitem.lookup (wpAny_getItem_list_slice hli (Heap.IsSliceOf.new ..) p₂ p₃ p₄ h0 ?_ (by simp only [List.size_toArray]; rw [r.length]; exact hz)) (hs _ _)
  refine h _ _ t₄ (g₁.trans (gg.trans (Grow.push _ _))) ?_
  rw [slicePick_toList]
  exact .lst (L.grow (g₁.trans gg)).fresh (Heap.get?_push_size _ rfl) ((r.pick lo hi st).grow (gg.trans (Grow.push _ _)))

noncomputable def pickS (x : Str) (lo hi : Option Int) : Str := ⟨((Builtin.Str.strSliceIndices lo hi 1 x.length).filterMap (x.cps[·]?)).toArray⟩
theorem Ev.slice_str {e : Expr} {lower upper : Option Expr} {p pos : Pos} {x y : Str} {lo hi : Option Int} (he : Ev prog w B n env G e (.str x)) (hl : EvO prog w B n env G lower lo) (hu : EvO prog w B n env G upper hi)
    (hy : pickS x lo hi = y) (hw : (Builtin.Str.strSliceIndices lo hi 1 x.length).length = x.length → y = x) (hz : y.length ≤ sizeLine) : Ev prog w B n env G (.Subscript e (.Slice lower upper none p) pos) (.str y) := by
  intro A X Q E s R L H h
  refine Subscript_ (he A X _ E s R L H fun u h₁ t₁ g₁ q₁ => wpAny_Slice ?_)
  refine hl.run R (L.grow g₁) (H.grow g₁) fun v₂ h₂ t₂ g₂ _ p₂ => ?_
  refine hu.run R (L.grow (g₁.trans g₂)) (H.grow (g₁.trans g₂)) fun v₃ h₃ t₃ g₃ _ p₃ => ?_
  rw [evalPart_none]
  refine wpAny_pure ?_
  obtain ⟨p₂, rfl, e₂⟩ := p₂
  obtain ⟨p₃, rfl, e₃⟩ := p₃
  cases q₁ with
  | str _ t =>
  refine tail_any (ops := [.ref _, .str x t]) (typeIs_str _ x t) PySem.F.slot_str_getitem.lookup (wpAny_getItem_str_slice (l := p₂) (u := p₃) (st := none) ⟨_, Heap.get?_push_size _ rfl, rfl, rfl⟩ rfl ?_) rfl
  unfold sliceMade slicePicked
  rw [e₂, e₃]
  have gg := g₁.trans (g₂.trans (g₃.trans (Grow.push h₃ { cls := .type "slice", data := .fields #[partValue p₂, partValue p₃, .none] })))
  subst hy
  simp only [Option.map_none, Option.getD_none]
  split
  · rename_i hlen
    have e : pickS x lo hi = x := hw (by simpa using hlen)
    rw [e] at h
    exact h _ _ _ gg (IsD.str x t)
  · exact ⟨hz, h _ _ _ gg (IsD.str (pickS x lo hi) t₃)⟩
end
end
-- MA3
section
section
variable (prog : Program) (w : World) (B : Heap)
noncomputable def ownedNames : List String := ["enumerate", "zip", "dict_itemiterator", "dict_reverseitemiterator", "odict_iterator", "itertools.zip_longest", "itertools.pairwise"]
/-- a walk through data -/
structure WalkD (A : Around) (X : Addr → Prop) (H h : Heap) (I : Addr) (fp wr : List Addr) (N : Nat) (P : Nat → Value → Prop) (St : Nat → Heap → Prop) (ds : List D) : Prop where
  W : Walks prog w A I fp wr N P St
  len : ds.length = N
  st : St 0 h
  grow : Grow H h
  live : ∀ b ∈ fp, ∃ o, h.get? b = some o
  new : ∀ b ∈ wr, H.get? b = none
  off : ∀ b ∈ fp, ¬ X b
  noseq : ∀ i k, St i k → ∀ b ∈ wr, ∃ o, k.get? b = some o ∧ ¬ SeqO o
  item : ∀ i v, P i v → ∃ d, ds[i]? = some d ∧ IsD X h v d
  it : ∀ i k, St i k → ∃ o t vs, k.get? I = some o ∧ o.cls = .type t ∧ o.data = .fields vs ∧ ownedNames.contains t = false
noncomputable def Src (n : Nat) (env : Env) (G : Ctxt) (e : Expr) (ds : List D) : Prop :=
  ∀ (A : Around) (X : Addr → Prop) (Q : Value → Shared → Prop) (E : Value → Shared → Prop) (s : Shared), Room n A → Live X s.heap → Has B X s.heap env G →
    (∀ I fp wr N P St h' tk, WalkD prog w A X s.heap h' I fp wr N P St ds → Q (.ref I) { s with heap := h', toks := tk }) →
    wpAny (model prog w) A (eval e env) (fun x s₁ => wpAny (model prog w) A (pyIter x) Q E s₁) E s
end

section
variable {prog : Program} {w : World} {B : Heap} {n : Nat} {env : Env} {G : Ctxt}

theorem letOwned {M : Model} {A : Around} {E : Value → Shared → Prop} {s : Shared} {target : Expr} {I : Addr} {v : Value} {Q : Unit → Shared → Prop} {o : Obj} {t : String} {vs : Array Value} (ho : s.heap.get? I = some o) (hc : o.cls = .type t)
    (hd : o.data = .fields vs) (hn : ownedNames.contains t = false) (h : Q () s) : wpAny M A (letOwnedTupleGo target (.ref I) v) Q E s := by
  have key : wpAny M A (do
      let o ← load I
      match v with
      | .ref a => (match o.cls, o.data with
        | .type n, .fields vs => if ownedNames.contains n && vs[0]? == some (rawInt a) then (do rule "for.unpacks-the-owned-tuple"; updateField I 0 .none : Sem Unit) else pure ()
        | _, _ => pure ())
      | _ => pure () : Sem Unit) Q E s := by
    refine wpAny_bind (wpAny_load ho ?_)
    cases v with
    | ref a =>
      simp only [hc, hd]
      rw [hn, Bool.false_and, if_neg (by decide)]
      exact wpAny_pure h
    | _ => exact wpAny_pure h
  have ref_case : ∀ a, wpAny M A (do
      let o ← load I
      match o.cls, o.data with
        | .type n, .fields vs => if ownedNames.contains n && vs[0]? == some (rawInt a) then (do rule "for.unpacks-the-owned-tuple"; updateField I 0 .none : Sem Unit) else pure ()
        | _, _ => pure () : Sem Unit) Q E s := fun a => by
    refine wpAny_bind (wpAny_load ho ?_)
    simp only [hc, hd]
    rw [hn, Bool.false_and, if_neg (by decide)]
    exact wpAny_pure h
  cases target with
  | Tuple es k p => cases v with
    | ref a => exact ref_case a
    | _ => exact wpAny_pure h
  | List es p => cases v with
    | ref a => exact ref_case a
    | _ => exact wpAny_pure h
  | _ => exact wpAny_pure h

theorem Src.list {e : Expr} {ds : List D} (he : Ev prog w B n env G e (.lst ds)) : Src prog w B n env G e ds := by
  intro A X Q E s R L H h
  refine he A X _ E s R L H fun u h₁ t₁ g₁ q₁ => ?_
  cases q₁ with
  | @lst l vs m _ nx ho r =>
  have ⟨o, ho, hc, hdd, hdn0⟩ : ∃ o, _ = some o ∧ o.cls = .type "list" ∧ o.data = .seq vs.toArray m ∧ o.dict = none := ⟨_, ho, rfl, rfl, rfl⟩
  have hl : h₁.IsList l vs.toArray := ⟨o, ho, hc, m, hdd⟩
  refine wpAny_pyIter_list hl ?_
  have hne : l ≠ h₁.objs.size := Nat.ne_of_lt (Heap.lt_size ho)
  refine h h₁.objs.size [h₁.objs.size, l] [h₁.objs.size] vs.toArray.size _ _ _ t₁ ⟨Walks.list R.1 h₁.objs.size l hne vs.toArray, ?_, ?_, ?_, ?_, ?_, ?_, ?_, ?_, ?_⟩
  · rw [List.size_toArray, r.length]
  · exact ⟨⟨_, Heap.get?_push_size _ rfl, rfl, rfl⟩, hl.push _⟩
  · exact g₁.trans (Grow.push _ _)
  · intro b hb
    rcases List.mem_cons.mp hb with rfl | hb
    · exact ⟨_, Heap.get?_push_size _ rfl⟩
    · rw [List.mem_singleton.mp hb]; exact ⟨o, Heap.get?_push_of_some _ ho⟩
  · intro b hb
    rw [List.mem_singleton.mp hb]
    cases e : s.heap.get? h₁.objs.size with
    | none => rfl
    | some o' => have := g₁ _ _ e; rw [get_size_none h₁ (Nat.le_refl _)] at this; cases this
  · intro b hb
    rcases List.mem_cons.mp hb with rfl | hb
    · exact (L.grow g₁).fresh
    · rw [List.mem_singleton.mp hb]; exact nx
  · rintro i k ⟨⟨o', ho', hc', hd'⟩, _⟩ b hb
    rw [List.mem_singleton.mp hb]
    exact ⟨o', ho', fun ⟨vs', m', e⟩ => by rw [hd'] at e; cases e⟩
  · intro i v hv
    have hv' : vs[i]? = some v := by simpa using hv
    obtain ⟨d, hd, q⟩ := r.get' hv'
    exact ⟨d, hd, q.grow (Grow.push _ _)⟩
  · rintro i k ⟨⟨o', ho', hc', hd'⟩, _⟩
    exact ⟨o', _, _, ho', hc', hd', by decide⟩

/-- the comprehension's turn, with the owned tuple let go -/
theorem compLoop_own {A : Around} {R : Result → Shared → Prop} {s : Shared} {elt target iter : Expr} {ifs : List Expr} {scope : Scope} {pos : Pos} {it acc : Value} {env : Env} (I : Nat → Shared → Prop)
    (turn : ∀ n s, I n s → wpAny (model prog w) A (pyNext it) (fun r s₁ => match r with
      | none => R (.ok .next) s₁
      | some v => wpAny (model prog w) A (letOwnedTupleGo target it v) (fun _ s₁' => wpAny (model prog w) A (assign target env v) (fun _ s₂ =>
          wpAny (model prog w) A (forIn ifs true fun c r => if r = true then do let ok ← isTrue c env (eval c env); pure (ForInStep.yield ok) else pure (ForInStep.yield r)) (fun ok s₃ =>
            if ok = true then wpAny (model prog w) A (eval elt env) (fun x s₄ =>
              wpAny (model prog w) A (call (.builtin "list.append") [acc, x]) (fun _ s₅ => ∃ m, m < n ∧ I m s₅) (notedBy (model prog w) A env fun e s' => R (.error e) s') s₄) (notedBy (model prog w) A env fun e s' => R (.error e) s') s₃
            else ∃ m, m < n ∧ I m s₃) (notedBy (model prog w) A env fun e s' => R (.error e) s') s₂) (notedBy (model prog w) A env fun e s' => R (.error e) s') s₁') (notedBy (model prog w) A env fun e s' => R (.error e) s') s₁) (notedBy (model prog w) A env fun e s' => R (.error e) s') s)
    (n : Nat) (h : I n s) :
    codeAny (model prog w) A (.compLoop (.ListComp elt [⟨target, iter, ifs, 0⟩] scope pos) 0 it acc env) R s := by
  refine codeAny_loop rfl I (fun n s hI => ?_) n h
  show wpAny _ A ((compTurn (.ListComp elt [⟨target, iter, ifs, 0⟩] scope pos) 0 it acc env).onRaise (fun x => do noteFrame x env; theTreesLotGoes x)) _ _ s
  refine wpAny_noted ?_
  rw [compTurn_list]
  refine wpAny_bind (wpAny_standAt (wpAny_bind (wpAny_mono (turn n s hI) (fun r s₁ h₁ => ?_) fun _ _ h' => h')))
  cases r with
  | none => exact wpAny_pure h₁
  | some v =>
    refine wpAny_bind (wpAny_mono h₁ (fun _ s₁' h₁' => ?_) fun _ _ h' => h')
    refine wpAny_bind (wpAny_mono h₁' (fun _ s₂ h₂ => wpAny_bind (wpAny_mono h₂ (fun ok s₃ h₃ => ?_) fun _ _ h' => h')) fun _ _ h' => h')
    cases ok with
    | false => exact wpAny_pure ⟨rfl, h₃⟩
    | true =>
      exact wpAny_bind (wpAny_bind (wpAny_mono h₃ (fun x s₄ h₄ => wpAny_bind (wpAny_mono h₄ (fun _ s₅ h₅ => wpAny_pure (wpAny_pure ⟨rfl, h₅⟩)) fun _ _ h' => h')) fun _ _ h' => h'))

/-- a target takes a datum: what it binds in the frame -/
noncomputable def Tgt (prog : Program) (w : World) (n : Nat) (env : Env) (target : Expr) (d : D) (bs : List (Str × D)) : Prop :=
  ∀ (A : Around) (X : Addr → Prop) (Q : Unit → Shared → Prop) (E : Value → Shared → Prop) (s : Shared) (v : Value) (m : Str → Option Value), Room n A → Live X s.heap → X env.locals → s.heap.Ns env.locals m → IsD X s.heap v d →
    (∀ h' tk m', h'.Ns env.locals m' → (∀ p ∈ bs, ∃ u, IsD X h' u p.2 ∧ m' p.1 = some u) → (∀ y, (∀ p ∈ bs, y ≠ p.1) → m' y = m y) → (∀ b o, b ≠ env.locals → s.heap.get? b = some o → h'.get? b = some o) → Q () { s with heap := h', toks := tk }) →
    wpAny (model prog w) A (assign target env v) Q E s

theorem skeep_but {X : Addr → Prop} {h h' : Heap} {L : Addr} (hx : X L) (k : ∀ b o, b ≠ L → h.get? b = some o → h'.get? b = some o) : SKeep X h h' := fun a o hn e _ => k a o (fun q => hn (q ▸ hx)) e

theorem Tgt.name {x : Str} {pos : Pos} {d : D} (hx : env.kindOf x = some .local) (hp : (env.scope.kind == .class || (env.scope.kind == .module && env.locals != env.globals)) = false) : Tgt prog w n env (.Name x pos) d [(x, d)] := by
  intro A X Q E s v m R L hX hn q h
  refine wpAny_assign_Name (wpAny_storeName_local hx hn (fun h₂ hn₂ hs₂ => ?_) hp)
  refine h h₂ _ _ hn₂ ?_ ?_ ?_
  · intro p hp
    rw [List.mem_singleton.mp hp]
    exact ⟨v, q.skeep (skeep_but hX fun b o hb e => hs₂.extBut b o hb e), by simp⟩
  · intro y hy
    have := hy (x, d) (.head _)
    simp [this]
  · exact fun b o hb e => hs₂.extBut b o hb e

theorem Tgt.pair {x y : Str} {k : Nat} {pos px py : Pos} {a b : D} (hx : env.kindOf x = some .local) (hy : env.kindOf y = some .local) (hxy : x ≠ y)
    (hp : (env.scope.kind == .class || (env.scope.kind == .module && env.locals != env.globals)) = false) : Tgt prog w n env (.Tuple [.Name x px, .Name y py] k pos) (.tup [a, b]) [(x, a), (y, b)] := by
  intro A X Q E s v m R L hX hn q h
  cases q with
  | @tup t vs j _ nx ho r =>
  cases r with
  | cons qa r =>
  cases r with
  | cons qb r =>
  cases r
  rename_i va vb
  have hLn : env.locals < s.heap.objs.size := hn.lt
  refine wpAny_assign_Tuple R.1 ⟨_, ho, rfl, j, rfl⟩ rfl rfl fun h₁ he₁ => ?_
  have hn₁ := hn.extBut he₁ (Nat.ne_of_lt hLn)
  show wpAny _ A (do holding [vb] (assign (.Name x px) env va); assignInOrder [assign (.Name y py) env] [vb]) _ _ _
  refine wpAny_bind (wpAny_holding (wpAny_assign_Name (wpAny_storeName_local hx hn₁ (fun h₂ hn₂ hs₂ => ?_) hp)))
  show wpAny _ A (do holding [] (assign (.Name y py) env vb); assignInOrder [] []) _ _ _
  refine wpAny_bind (wpAny_holding (wpAny_assign_Name (wpAny_storeName_local hy hn₂ (fun h₃ hn₃ hs₃ => ?_) hp)))
  refine wpAny_pure ?_
  have kk : ∀ c oc, c ≠ env.locals → s.heap.get? c = some oc → h₃.get? c = some oc := fun c oc hcb e =>
    hs₃.extBut c oc hcb (hs₂.extBut c oc hcb (he₁ c oc (Nat.ne_of_lt (Heap.lt_size e)) e))
  refine h h₃ _ _ hn₃ ?_ ?_ kk
  · intro p hp
    rcases List.mem_cons.mp hp with rfl | hp
    · exact ⟨va, qa.skeep (skeep_but hX kk), by simp [hxy]⟩
    · rw [List.mem_singleton.mp hp]
      exact ⟨vb, qb.skeep (skeep_but hX kk), by simp⟩
  · intro z hz
    have h1 := hz (x, a) (.head _)
    have h2 := hz (y, b) (.tail _ (.head _))
    simp only at h1 h2
    simp [h1, h2]

/-- the tests of a comprehension -/
noncomputable def EvIfs (prog : Program) (w : World) (B : Heap) (n : Nat) (env : Env) (G : Ctxt) : List Expr → Bool → Prop
  | [], b => b = true
  | [c], b => EvT prog w B n env G c b
  | _, _ => False

/-- what a block may name of the block around it -/
noncomputable def Caught (env cenv : Env) (bs : List Str) (G Gc : Ctxt) : Prop :=
  ∀ p ∈ Gc, p ∈ G ∧ p.1 ∉ bs ∧ (env.kindOf p.1 = some .cell ∨ env.kindOf p.1 = some .free) ∧ (cenv.kindOf p.1 = some .cell ∨ cenv.kindOf p.1 = some .free) ∧ cenv.cells.lookup p.1 = env.cells.lookup p.1

theorem comp_core {elt target iter : Expr} {ifs : List Expr} {scope : Scope} {pos : Pos} {cl : List (Str × Addr)} {ds : List D} {p : D → Bool} {f : D → D} {bs : D → List (Str × D)} {Gc : Ctxt}
    (hsrc : Src prog w B n env G iter ds) (hz : ds.length ≤ sizeLine)
    (hcell : ∀ y ∈ scope.names, y.2 ≠ .cell) (hkind : scope.kind = .function)
    (hcaught : ∀ C d, d ∈ ds → Caught env (compEnvC scope cl C env) ((bs d).map (·.1)) G Gc)
    (htgt : ∀ C d, d ∈ ds → Tgt prog w n (compEnvC scope cl C env) target d (bs d)) (hloc : ∀ C d, d ∈ ds → ∀ q ∈ bs d, (compEnvC scope cl C env).kindOf q.1 = some .local)
    (hifs : ∀ C d, d ∈ ds → EvIfs prog w B n (compEnvC scope cl C env) ((bs d).map (fun q => (q.1, Slot.d q.2)) ++ Gc) ifs (p d))
    (helt : ∀ C d, d ∈ ds → p d = true → Ev prog w B n (compEnvC scope cl C env) ((bs d).map (fun q => (q.1, Slot.d q.2)) ++ Gc) elt (f d))
    {A : Around} {X : Addr → Prop} {E : Value → Shared → Prop} {s : Shared} {RR : Value → Addr → Result → Shared → Prop} (R : Room n A) (L : Live X s.heap) (H : Has B X s.heap env G)
    (hRR : ∀ D C h₄ tk₄ m, s.heap.get? D = none → s.heap.get? C = none → D ≠ C → h₄.Ns C m → Grow s.heap h₄ → IsD X h₄ (.ref D) (.lst ((ds.filter p).map f)) → RR (.ref D) C (.ok .next) { s with heap := h₄, toks := tk₄ }) :
    wpAny (model prog w) A (eval iter env) (fun x s₁ => wpAny (model prog w) A (pyIter x) (fun it s₂ => wpAny (model prog w) A (newList []) (fun acc s₃ =>
      wpAny (model prog w) A (newFunctionEnv scope env.globals cl [] env.qual none .none (some env)) (fun cenv s₄ =>
        codeAny (model prog w) A (.compStart (.ListComp elt [⟨target, iter, ifs, 0⟩] scope pos) 0 it acc { cenv with scope := relabel scope env }) (RR acc cenv.locals) s₄) E s₃) E s₂) E s₁) E s := by
  refine hsrc A X _ E s R L H fun I fp wr N P St h₁ t₁ WD => ?_
  obtain ⟨W, hlen, hst, hg, hlive, hnew, hoff, hnoseq, hitem, hitr⟩ := WD
  -- the list and the frame
  refine wpAny_newObj_type (wpAny_newFunctionEnv hcell (by intro y hy; simp at hy) (fun h₃ hns₃ hsb₃ => ?_) hkind)
  dsimp only at hns₃ hsb₃ ⊢
  generalize hH2 : h₁.push { cls := .type "list", dict := none, data := .seq ([] : List Value).toArray } = H2 at hns₃ hsb₃ ⊢
  have hC : H2.objs.size = h₁.objs.size + 1 := by rw [← hH2, Heap.size_push]
  generalize hDe : h₁.objs.size = D at hC ⊢
  generalize hCe : H2.objs.size = C at hns₃ hsb₃ hC ⊢
  have hDC : D ≠ C := by omega
  have fresh₁ : ∀ a : Nat, D ≤ a → h₁.get? a = none := fun a ha => get_size_none h₁ (by rw [hDe]; exact ha)
  have below : ∀ (b : Nat) o, h₁.get? b = some o → b < D := fun b o e => hDe ▸ Heap.lt_size e
  have old : Grow h₁ h₃ := fun b o e => hsb₃.extBut b o (fun hbc => by have hb := below b o e; rw [hbc] at hb; omega) (Heap.get?_push_of_some _ (hH2 ▸ Heap.get?_push_of_some _ e))
  have hacc : h₃.PlainList D #[] := ⟨_, hsb₃.extBut _ _ hDC (Heap.get?_push_of_some _ (hH2 ▸ hDe ▸ Heap.get?_push_size _ rfl))⟩
  have hDfp : D ∉ fp := fun hm => by obtain ⟨o, e⟩ := hlive _ hm; have := below _ _ e; exact absurd this (by omega)
  have hCfp : C ∉ fp := fun hm => by obtain ⟨o, e⟩ := hlive _ hm; have := below _ _ e; exact absurd this (by omega)
  have hDwr : D ∉ wr := fun hm => hDfp (W.sub _ hm)
  have hCwr : C ∉ wr := fun hm => hCfp (W.sub _ hm)
  have hHD : s.heap.get? D = none := by
    cases e : s.heap.get? D with
    | none => rfl
    | some o => have := hg _ _ e; rw [fresh₁ D (Nat.le_refl _)] at this; cases this
  have hHC : s.heap.get? C = none := by
    cases e : s.heap.get? C with
    | none => rfl
    | some o => have := hg _ _ e; rw [fresh₁ C (by omega)] at this; cases this
  let X' : Addr → Prop := fun a => X a ∨ a = D ∨ a = C
  have hst₃ : St 0 h₃ := W.frame _ _ _ hst fun b _ o e => old b o e
  -- the loop
  have loop : ∀ s₃ : Shared, (∃ tk, s₃ = { s with heap := h₃, toks := tk }) →
      codeAny (model prog w) A (.compLoop (.ListComp elt [⟨target, iter, ifs, 0⟩] scope pos) 0 (.ref I) (.ref D) (compEnvC scope cl C env))
        (RR (.ref D) C) s₃ := by
    rintro s₃ ⟨tk₃, rfl⟩
    refine compLoop_own (fun k s' => ∃ h' tk m ys i, s' = { s with heap := h', toks := tk } ∧ St i h' ∧ i ≤ N ∧ k = N + 1 - i ∧ h'.PlainList D ys ∧ h'.Ns C m ∧
      AllD X' h' ys.toList (((ds.take i).filter p).map f) ∧ Grow s.heap h' ∧ SKeep (fun a => a = D ∨ a = C) h₁ h') ?_ (N + 1)
      ⟨h₃, tk₃, _, #[], 0, rfl, hst₃, Nat.zero_le _, rfl, hacc, hns₃, .nil, hg.trans old, fun a o _ e _ => old a o e⟩
    rintro k s' ⟨h', tk, m, ys, i, rfl, hsti, hi, rfl, hacc', hn', hys, hgr, hsk⟩
    have LX : ∀ {hh : Heap}, Grow s.heap hh → (∃ o, hh.get? D = some o) → (∃ o, hh.get? C = some o) → Live X' hh := fun hg' hD hC' a ha => by
      rcases ha with ha | rfl | rfl
      · obtain ⟨o, e⟩ := L a ha; exact ⟨o, hg' _ _ e⟩
      · exact hD
      · exact hC'
    by_cases hlt : i < N
    · refine W.item i _ _ _ hlt hsti fun v h₄ tk₄ hv hst₄ hk₄ => ?_
      obtain ⟨d, hd, qd⟩ := hitem i v hv
      have hdm : d ∈ ds := List.mem_of_getElem? hd
      -- pyNext changed wr alone
      have gr₄ : Grow s.heap h₄ := fun b o e => hk₄ b o (fun hb => by rw [hnew b hb] at e; cases e) (hgr b o e)
      have sk₄ : SKeep (fun _ => False) h' h₄ := fun b o _ e hso => hk₄ b o (fun hb => by obtain ⟨o', e', hn⟩ := hnoseq i h' hsti b hb; rw [e] at e'; cases e'; exact hn hso) e
      have acc₄ : h₄.PlainList D ys := hacc'.at fun o e => hk₄ _ o hDwr e
      have ns₄ : h₄.Ns C m := hn'.at' fun o e => hk₄ _ o hCwr e
      obtain ⟨oI, tI, vI, hI1, hI2, hI3, hI4⟩ := hitr _ _ hst₄
      refine letOwned hI1 hI2 hI3 hI4 ?_
      have qd₄ : IsD X' h₄ v d := by
        refine qd.keep (X' := X') (fun a o e hx => ?_) (fun a o hn e hso => ?_)
        · rcases hx with hx | hx | hx
          · exact hx
          · rw [hx, fresh₁ D (Nat.le_refl _)] at e; cases e
          · rw [hx, fresh₁ C (by omega)] at e; cases e
        · refine sk₄ a o (fun q => q) (hsk a o (fun q => ?_) e hso) hso
          have hb := below a o e
          rcases q with q | q <;> (rw [q] at hb; omega)
      have liveC : ∀ {hh : Heap} {mm : Str → Option Value}, hh.Ns C mm → ∃ o, hh.get? C = some o := fun hn => let ⟨o, _, _, e, _⟩ := hn; ⟨o, e⟩
      have liveD : ∀ {hh : Heap} {yy : Array Value}, hh.PlainList D yy → ∃ o, hh.get? D = some o := fun ⟨_, e⟩ => ⟨_, e⟩
      refine htgt C d hdm A X' _ _ _ v m R (LX gr₄ (liveD acc₄) (liveC ns₄)) (.inr (.inr rfl)) ns₄ qd₄ fun h₅ tk₅ m₅ ns₅ hb₅ ho₅ hk₅ => ?_
      have hk₅ : ∀ b o, b ≠ C → h₄.get? b = some o → h₅.get? b = some o := hk₅
      have ns₅ : h₅.Ns C m₅ := ns₅
      have gr₅ : Grow s.heap h₅ := fun b o e => hk₅ b o (fun q => by rw [q, hHC] at e; cases e) (gr₄ b o e)
      have acc₅ : h₅.PlainList D ys := acc₄.at fun o e => hk₅ _ o hDC e
      have hys₅ : AllD X' h₅ ys.toList (((ds.take i).filter p).map f) := (hys.skeep fun a o hn e hso => sk₄ a o (fun q => q) e hso).skeep fun a o hn e hso => hk₅ a o (fun q => hn (.inr (.inr q))) e
      have sk₅ : SKeep (fun a => a = D ∨ a = C) h₁ h₅ := fun a o hn e hso => hk₅ a o (fun q => hn (.inr q)) (sk₄ a o (fun q => q) (hsk a o hn e hso) hso)
      have hst₅ : St (i + 1) h₅ := W.frame _ _ _ hst₄ fun b hb o e => hk₅ b o (fun q => hCfp (q ▸ hb)) e
      have L₅ : Live X' h₅ := LX gr₅ (liveD acc₅) (liveC ns₅)
      have HX : Has B X' h₅ (compEnvC scope cl C env) ((bs d).map (fun q => (q.1, Slot.d q.2)) ++ Gc) := by
        refine ⟨H.keep.trans gr₅, hkind, H.gl, H.bi, fun q hq => ?_⟩
        rcases List.mem_append.mp hq with hq | hq
        · obtain ⟨b, hb, rfl⟩ := List.mem_map.mp hq
          obtain ⟨u, qu, eu⟩ := hb₅ b hb
          exact ⟨u, qu, .inl ⟨hloc C d hdm b hb, m₅, ns₅, eu⟩⟩
        · obtain ⟨c1, c2, c3, c4, c5⟩ := hcaught C d hdm q hq
          obtain ⟨u, qu, vu⟩ := H.var q c1
          refine ⟨u, ?_, .inr ⟨c4, ?_⟩⟩
          · obtain ⟨qn, qs⟩ := q
            cases qs with
            | v z => exact qu
            | m z zs =>
              obtain ⟨e, hx, vs, k, ho, r⟩ := qu
              refine ⟨e, .inl hx, vs, k, gr₅ _ _ ho, r.keep (fun a o e hx => ?_) (fun a o hn e hso => gr₅ a o e)⟩
              rcases hx with hx | hx | hx
              · exact hx
              · rw [hx, hHD] at e; cases e
              · rw [hx, hHC] at e; cases e
            | d z =>
              refine IsD.keep (X := X) (X' := X') (fun a o e hx => ?_) (fun a o hn e hso => gr₅ a o e) qu
              rcases hx with hx | hx | hx
              · exact hx
              · rw [hx, hHD] at e; cases e
              · rw [hx, hHC] at e; cases e
          · rcases vu with ⟨k1, _⟩ | ⟨_, c, hc, hcv⟩
            · rcases c3 with c3 | c3 <;> rw [k1] at c3 <;> cases c3
            · exact ⟨c, c5.trans hc, hcv.keeps gr₅⟩
      have dtake : ds.take (i + 1) = ds.take i ++ [d] := by
        rw [List.take_add_one, hd]; rfl
      -- the tests
      have afterTests : ∀ {h₆ : Heap} {tk₆ : Nat}, Grow h₅ h₆ → (fun ok s₃ =>
            if ok = true then wpAny (model prog w) A (eval elt (compEnvC scope cl C env)) (fun x s₄ =>
              wpAny (model prog w) A (call (.builtin "list.append") [.ref D, x]) (fun _ s₅ => ∃ m, m < N + 1 - i ∧ ∃ h' tk mm ys i, s₅ = { s with heap := h', toks := tk } ∧ St i h' ∧ i ≤ N ∧ m = N + 1 - i ∧ h'.PlainList D ys ∧ h'.Ns C mm ∧
      AllD X' h' ys.toList (((ds.take i).filter p).map f) ∧ Grow s.heap h' ∧ SKeep (fun a => a = D ∨ a = C) h₁ h') (notedBy (model prog w) A (compEnvC scope cl C env) fun e s' => RR (.ref D) C (.error e) s') s₄) (notedBy (model prog w) A (compEnvC scope cl C env) fun e s' => RR (.ref D) C (.error e) s') s₃
            else ∃ m, m < N + 1 - i ∧ ∃ h' tk mm ys i, s₃ = { s with heap := h', toks := tk } ∧ St i h' ∧ i ≤ N ∧ m = N + 1 - i ∧ h'.PlainList D ys ∧ h'.Ns C mm ∧
      AllD X' h' ys.toList (((ds.take i).filter p).map f) ∧ Grow s.heap h' ∧ SKeep (fun a => a = D ∨ a = C) h₁ h') (p d) ({ s with heap := h₆, toks := tk₆ } : Shared) := by
        intro h₆ tk₆ g₆
        try dsimp only
        have st₆ : St (i + 1) h₆ := W.frame _ _ _ hst₅ fun b _ o e => g₆ b o e
        have acc₆ : h₆.PlainList D ys := acc₅.at fun o e => g₆ _ o e
        have ns₆ := ns₅.keeps g₆
        cases hpd : p d with
        | false =>
          rw [if_neg (by decide)]
          refine ⟨N + 1 - (i + 1), by omega, h₆, tk₆, m₅, ys, i + 1, rfl, st₆, hlt, rfl, acc₆, ns₆, ?_, gr₅.trans g₆, fun a o hn e hso => g₆ a o (sk₅ a o hn e hso)⟩
          rw [dtake, List.filter_append, List.filter_cons_of_neg (by simp [hpd]), List.filter_nil, List.append_nil]
          exact hys₅.grow g₆
        | true =>
          rw [if_pos rfl]
          refine helt C d hdm hpd A X' _ _ _ R (L₅.grow g₆) (HX.grow g₆) fun y h₇ tk₇ g₇ q₇ => ?_
          have acc₇ : h₇.PlainList D ys := acc₆.at fun o e => g₇ _ o e
          have ysz : ys.size ≤ sizeLine := by
            have e1 := hys.length
            have e2 : ((ds.take i).filter p).length ≤ (ds.take i).length := List.length_filter_le _ _
            have e3 : (ds.take i).length ≤ ds.length := by rw [List.length_take]; exact Nat.min_le_right _ _
            simp only [List.length_map, Array.length_toList] at e1
            omega
          refine wpAny_list_append_plain (hsz := ysz) acc₇ fun h₈ acc₈ sb₈ => ?_
          refine ⟨N + 1 - (i + 1), by omega, h₈, tk₇, m₅, ys.push y, i + 1, rfl, ?_, hlt, rfl, acc₈, (ns₆.keeps g₇).sameBut sb₈ (Ne.symm hDC), ?_, ?_, ?_⟩
          · exact W.frame _ _ _ st₆ fun b hb o e => sb₈.extBut b o (fun q => hDfp (q ▸ hb)) (g₇ b o e)
          · rw [dtake, List.filter_append, List.filter_cons_of_pos (by simp [hpd]), List.filter_nil, List.map_append, Array.toList_push]
            have sk₈ : SKeep X' h₇ h₈ := fun a o hn e _ => sb₈.extBut a o (fun q => hn (.inr (.inl q))) e
            exact ((hys₅.grow (g₆.trans g₇)).skeep sk₈).append (.cons (q₇.skeep sk₈) .nil)
          · exact fun b o e => sb₈.extBut b o (fun q => by rw [q, hHD] at e; cases e) (g₇ b o (g₆ b o (gr₅ b o e)))
          · exact fun a o hn e hso => sb₈.extBut a o (fun q => hn (.inl q)) (g₇ a o (g₆ a o (sk₅ a o hn e hso)))
      have hi' := hifs C d hdm
      match ifs, hi' with
      | [], e =>
        refine wpAny_tests_nil ?_
        have e : p d = true := e
        have := @afterTests h₅ tk₅ (Grow.refl _)
        rw [e] at this
        exact this
      | [c], e =>
        refine wpAny_tests_one ?_
        exact e A X' _ _ _ R L₅ HX fun h₆ tk₆ g₆ => afterTests g₆
      | _ :: _ :: _, e => exact e.elim
    · have hiN : i = N := by omega
      subst hiN
      refine W.done _ _ _ hsti fun h₄ tk₄ hk₄ => ?_
      have gr₄ : Grow s.heap h₄ := fun b o e => hk₄ b o (fun hb => by rw [hnew b hb] at e; cases e) (hgr b o e)
      have sk₄ : SKeep (fun _ => False) h' h₄ := fun b o _ e hso => hk₄ b o (fun hb => by obtain ⟨o', e', hn⟩ := hnoseq _ h' hsti b hb; rw [e] at e'; cases e'; exact hn hso) e
      have acc₄ : h₄.PlainList D ys := hacc'.at fun o e => hk₄ _ o hDwr e
      have ns₄ : h₄.Ns C m := hn'.at' fun o e => hk₄ _ o hCwr e
      obtain ⟨nn, eacc⟩ := acc₄
      refine hRR D C h₄ tk₄ m hHD hHC hDC ns₄ gr₄ ?_
      have htake : ds.take i = ds := List.take_of_length_le (by omega)
      rw [htake] at hys
      refine .lst (vs := ys.toList) (n := nn) (L.not_of_none hHD) (by simpa using eacc) ?_
      have := hys.skeep (h' := h₄) fun a o hn e hso => sk₄ a o (fun q => q) e hso
      exact this.less fun a ha => .inl ha
  have e0 : (newEnv scope C env.globals cl env.qual none Value.none (some env) env.builtins).locals = C := rfl
  exact codeAny_compStart_list (loop _ ⟨_, rfl⟩) (W.self 0 _ _ _ hst₃ (loop _ ⟨_, rfl⟩))

theorem IsD.off_ns {X : Addr → Prop} {h h' : Heap} {C : Addr} {m : Str → Option Value} {v : Value} {d : D} (q : IsD X h v d) (hn : h.Ns C m) (hs : Heap.SameBut C h h') : IsD X h' v d :=
  q.skeep fun a o _ e ⟨vs, k, hd⟩ => hs.extBut a o (fun z => by
    obtain ⟨o', es, ep, e', hd', _⟩ := hn
    rw [z, e'] at e
    cases e
    rw [hd'] at hd
    cases hd) e

theorem Ev.comp {elt target iter : Expr} {ifs : List Expr} {scope : Scope} {pos : Pos} {cl : List (Str × Addr)} {ds : List D} {p : D → Bool} {f : D → D} {bs : D → List (Str × D)} {Gc : Ctxt}
    (hsrc : Src prog w B n env G iter ds) (hz : ds.length ≤ sizeLine)
    (hclos : closureFor scope env = pure cl) (hcell : ∀ y ∈ scope.names, y.2 ≠ .cell) (hkind : scope.kind = .function)
    (hnames : ∀ y ∈ scope.names, y.2 = .local → scope.names.lookup y.1 = some .local)
    (hcaught : ∀ C d, d ∈ ds → Caught env (compEnvC scope cl C env) ((bs d).map (·.1)) G Gc)
    (htgt : ∀ C d, d ∈ ds → Tgt prog w n (compEnvC scope cl C env) target d (bs d)) (hloc : ∀ C d, d ∈ ds → ∀ q ∈ bs d, (compEnvC scope cl C env).kindOf q.1 = some .local)
    (hifs : ∀ C d, d ∈ ds → EvIfs prog w B n (compEnvC scope cl C env) ((bs d).map (fun q => (q.1, Slot.d q.2)) ++ Gc) ifs (p d))
    (helt : ∀ C d, d ∈ ds → p d = true → Ev prog w B n (compEnvC scope cl C env) ((bs d).map (fun q => (q.1, Slot.d q.2)) ++ Gc) elt (f d))
    (hs : ∀ x, foldedSetIterable iter env x = pure x := by intro _; rfl) :
    Ev prog w B n env G (.ListComp elt [⟨target, iter, ifs, 0⟩] scope pos) (.lst ((ds.filter p).map f)) := by
  intro A X Q E s R L H h
  rw [eval_ListComp]
  refine wpAny_comprehension_free (use := none) rfl hs hclos hkind hnames (comp_core (RR := fun acc C => compPost (model prog w) A E none Q acc C) hsrc hz hcell hkind hcaught htgt hloc hifs helt R L H ?_)
  intro D C h₄ tk₄ m hHD hHC hDC ns₄ gr₄ q₄
  refine ⟨m, ns₄, fun h₅ sb₅ => h _ h₅ tk₄ (fun b o e => sb₅.extBut b o (fun q => by rw [q, hHC] at e; cases e) (gr₄ b o e)) (q₄.off_ns ns₄ sb₅)⟩
end
end
-- MA4
section
mutual
noncomputable def toPy : D → PyData
  | .int i => .int i
  | .bool b => .bool b
  | .str x => .str x
  | .tup ds => .tuple (toPys ds)
  | .lst ds => .list (toPys ds)
noncomputable def toPys : List D → List PyData
  | [] => []
  | d :: ds => toPy d :: toPys ds
end
theorem toPys_map : ∀ ds : List D, toPys ds = ds.map toPy
  | [] => rfl
  | d :: ds => by rw [toPys, toPys_map ds]; rfl
mutual
theorem IsD.reads {X : Addr → Prop} {h : Heap} : ∀ {v : Value} {d : D}, IsD X h v d → ∃ as, Reads h v (toPy d) as
  | _, _, .int i t => ⟨_, Reads.int i t⟩
  | _, _, .bool b => ⟨_, Reads.bool b⟩
  | _, _, .str x t => ⟨_, Reads.str x t⟩
  | _, _, .tup n e r => let ⟨as, p⟩ := AllD.reads r; ⟨_, Reads.tuple e rfl rfl (by simpa using p)⟩
  | _, _, .lst n e r => let ⟨as, p⟩ := AllD.reads r; ⟨_, Reads.list e rfl rfl (by simpa using p)⟩
theorem AllD.reads {X : Addr → Prop} {h : Heap} : ∀ {vs : List Value} {ds : List D}, AllD X h vs ds → ∃ as, ReadsAll h vs (toPys ds) as
  | _, _, .nil => ⟨_, ReadsAll.nil⟩
  | _, _, .cons q r => let ⟨as, p⟩ := IsD.reads q; let ⟨bs, p'⟩ := AllD.reads r; ⟨_, ReadsAll.cons p p'⟩
end

theorem Room.units {n : Nat} {A : Around} (R : Room n A) : A.units + 64 < cLine := by
  have := R.2.2
  show _ < 9900
  omega

section
variable {prog : Program} {w : World} {B : Heap} {n : Nat} {env : Env} {G : Ctxt}

theorem Op2.eq_any {a b : D} (ha : SeqAt.shaped (toPy a) = true) (hb : SeqAt.shaped (toPy b) = true) : Op2 prog w B n (compareOp .Eq) a b (.bool (PyData.eqv (toPy a) (toPy b))) := fun A X Q E s u v R L g p q h => by
  obtain ⟨as, ra⟩ := p.reads
  obtain ⟨bs, rb⟩ := q.reads
  exact eq_dataH ra rb ha hb R.units (h _ s.heap s.toks (Grow.refl _) (.bool _))
theorem Op2.ne_any {a b : D} (ha : SeqAt.shaped (toPy a) = true) (hb : SeqAt.shaped (toPy b) = true) : Op2 prog w B n (compareOp .NotEq) a b (.bool (!PyData.eqv (toPy a) (toPy b))) := fun A X Q E s u v R L g p q h => by
  obtain ⟨as, ra⟩ := p.reads
  obtain ⟨bs, rb⟩ := q.reads
  exact ne_dataH ra rb ha hb R.units (h _ s.heap s.toks (Grow.refl _) (.bool _))
theorem Op2.in_tup {a : D} {bs : List D} (hb : PyData.canLayAll0 (toPys bs) = true) (ha : (toPy a).canLay0 = true) (hu : (toPy a).depth ≤ 60) : Op2 prog w B n (compareOp .In) a (.tup bs) (.bool ((toPys bs).any fun y => PyData.eqv y (toPy a))) := fun A X Q E s u v R L g p q h => by
  obtain ⟨as, ra⟩ := p.reads
  obtain ⟨bs', rb⟩ := q.reads
  refine SeqAt.in_tuple_reads rb ra hb ha ?_ (h _ s.heap s.toks (Grow.refl _) (.bool _))
  have := R.units
  have := Nat.min_le_right (PyData.depthAll (toPys bs)) (toPy a).depth
  omega
theorem Op2.notIn_lst {a : D} {bs : List D} (hb : PyData.canLayAll0 (toPys bs) = true) (ha : (toPy a).canLay0 = true) (hu : (toPy a).depth ≤ 60) : Op2 prog w B n (compareOp .NotIn) a (.lst bs) (.bool (!(toPys bs).any fun y => PyData.eqv y (toPy a))) := fun A X Q E s u v R L g p q h => by
  obtain ⟨as, ra⟩ := p.reads
  obtain ⟨bs', rb⟩ := q.reads
  refine SeqAt.notIn_list_reads rb ra hb ha ?_ (h _ s.heap s.toks (Grow.refl _) (.bool _))
  have := R.units
  have := Nat.min_le_right (PyData.depthAll (toPys bs)) (toPy a).depth
  omega

/-- a name of the top, or a built-in's -/
noncomputable def GlobAt (B : Heap) (x : Str) (v : Value) : Prop := ∃ mg, B.Ns mainGlobals mg ∧ (mg x = some v ∨ (mg x = none ∧ ∃ mb, B.Ns builtinsNs mb ∧ mb x = some v))
theorem globName {A : Around} {X : Addr → Prop} {Q : Value → Shared → Prop} {E : Value → Shared → Prop} {s : Shared} {x : Str} {pos : Pos} {v : Value} (g : GlobAt B x v) (H : Has B X s.heap env G) (hk : env.kindOf x = some .globalImplicit)
    (hd : (x == ("__debug__" : Str)) = false) (h : Q v s) : wpAny (model prog w) A (eval (.Name x pos) env) Q E s := by
  obtain ⟨mg, hn, e⟩ := g
  refine Name_function_global H.fn hk ?_ hd
  rcases e with e | ⟨e, mb, hb, e2⟩
  · exact loadGlobal_global (by rw [H.gl]; exact hn.keeps H.keep) e h
  · exact loadGlobal_builtin (by rw [H.gl]; exact hn.keeps H.keep) e (by rw [H.bi]; exact hb.keeps H.keep) e2 h

noncomputable def Callable (prog : Program) (w : World) (B : Heap) (f : Value) : Prop := ∀ h, Grow B h → ∃ k, (k = Keeper.frame ∨ k = Keeper.machine ∨ k = Keeper.boundFrame) ∧ Looks (model prog w) h (keeperOf f) k
theorem Callable.builtin {id : String} : Callable prog w B (.builtin id) := fun h _ => ⟨.machine, .inr (.inl rfl), Looks.of_pure rfl⟩
theorem Callable.type {id : String} : Callable prog w B (.type id) := fun h _ => ⟨.machine, .inr (.inl rfl), Looks.of_pure rfl⟩
theorem Callable.fn {a : Addr} {o : Obj} {fd : FuncData} (ho : B.get? a = some o) (hd : o.data = .func fd) : Callable prog w B (.ref a) := fun h g => ⟨.frame, .inl rfl, fun A Q E s k q => by
  refine wpAny_bind (wpAny_load (k _ _ (g _ _ ho)) ?_)
  rw [hd]
  exact wpAny_pure q⟩

theorem evalArgs_list {M : Model} {A : Around} {E : Value → Shared → Prop} {s : Shared} {f : Value} {es : List Expr} {Q : Args → Shared → Prop}
    (h : wpAny M A (spliced (es.map fun e => (false, eval e env))) (fun vs s' => Q ⟨vs, []⟩ s') E s) : wpAny M A (evalArgs f true (es.map fun e => (false, eval e env)) []) Q E s := by
  cases es with
  | nil =>
    unfold evalArgs
    show wpAny M A (spliced [] >>= _) Q E s
    exact wpAny_bind (wpAny_mono h (fun vs s' h' => wpAny_bind (wpAny_pure (wpAny_holding (wpAny_bind (wpAny_pure (wpAny_bind (wpAny_pure (wpAny_pure h')))))))) fun _ _ x => x)
  | cons e es => exact evalArgs_plain h

theorem callWith_data {A : Around} {X : Addr → Prop} {Q : Value → Shared → Prop} {E : Value → Shared → Prop} {s : Shared} {pos : Pos} {f : Value} {first : List Value} {es : List Expr} {ds : List D} (hf : Callable prog w B f) (he : EvL prog w B n env G es ds)
    (hst : starEach es env = es.map fun e => (false, eval e env)) (R : Room n A) (L : Live X s.heap) (H : Has B X s.heap env G)
    (h : ∀ vs h' tk, Grow s.heap h' → AllD X h' vs ds → wpAny (model prog w) A (call f (first ++ vs) []) Q E { s with heap := h', toks := tk }) :
    wpAny (model prog w) A (callWith pos f first (backTo pos (starEach es env)) []) Q E s := by
  rw [hst, backTo_plain]
  refine callWith_of (P := fun h => Grow B h) (by simp) hf (evalArgs_list (he A X _ E s R L H fun vs h' tk g q => ?_))
  exact ⟨H.keep.trans g, h vs h' tk g q⟩

theorem Ev.call {f : Str} {fv : Value} {p pos : Pos} {es : List Expr} {ds : List D} {d : D} (hg : GlobAt B f fv) (hf : Callable prog w B fv) (he : EvL prog w B n env G es ds) (hc : CallD prog w B n fv ds d)
    (hk : env.kindOf f = some .globalImplicit := by rfl) (hst : starEach es env = es.map (fun e => (false, eval e env)) := by rfl) (hd : (f == ("__debug__" : Str)) = false := by decide) : Ev prog w B n env G (.Call (.Name f p) es [] pos) d := by
  intro A X Q E s R L H h
  refine wpAny_Call_Name_kw (globName hg H hk hd ?_)
  refine callWith_data hf he hst R L H fun vs h' tk g q => ?_
  exact hc A X _ E _ vs R (L.grow g) (H.keep.trans g) q fun r h₂ t₂ g₂ q₂ => h r h₂ t₂ (g.trans g₂) q₂

theorem sizeLine_lt : sizeLine < 2 ^ 62 := by decide
theorem CallD.len_lst {ds : List D} (hz : ds.length ≤ sizeLine) : CallD prog w B n (.builtin "len") [.lst ds] (.int ds.length) := fun A X Q E s vs R L g q h => by
  cases q with
  | cons q r =>
  cases r
  cases q with
  | @lst l ws m _ nx ho r =>
  have ⟨o, ho, hc, hd, hdn⟩ : ∃ o, _ = some o ∧ o.cls = .type "list" ∧ o.data = .seq ws.toArray m ∧ o.dict = none := ⟨_, ho, rfl, rfl, rfl⟩
  have hl : s.heap.IsList l ws.toArray := ⟨o, ho, hc, m, hd⟩
  have e : ws.toArray.size = ds.length := by rw [List.size_toArray, r.length]
  refine call_len_list hl ?_ ?_
  · rw [e]; have := sizeLine_lt; omega
  · rw [e]; exact h _ s.heap _ (Grow.refl _) (.int _ _)
theorem CallD.len_str {x : Str} (hz : x.length ≤ sizeLine) : CallD prog w B n (.builtin "len") [.str x] (.int x.length) := fun A X Q E s vs R L g q h => by
  cases q with
  | cons q r =>
  cases r
  cases q
  exact P.len_str (by have := sizeLine_lt; omega) (h _ s.heap _ (Grow.refl _) (.int _ _))
theorem CallD.int_str {x : Str} {k : Int} (hn : PySem.intText? x = some k) (hl : x.length ≤ 640) : CallD prog w B n (.type "int") [.str x] (.int k) := fun A X Q E s vs R L g q h => by
  cases q with
  | cons q r =>
  cases r
  cases q
  exact KIN.call_text hn hl (h _ s.heap _ (Grow.refl _) (.int _ _))
theorem CallD.sum_ints {ks : List Int} : CallD prog w B n (.builtin "sum") [.lst (ks.map .int)] (.int ks.sum) := fun A X Q E s vs R L g q h => by
  cases q with
  | cons q r =>
  cases r
  cases q with
  | @lst l ws m _ nx ho r =>
  have ⟨o, ho, hc, hd, hdn⟩ : ∃ o, _ = some o ∧ o.cls = .type "list" ∧ o.data = .seq ws.toArray m ∧ o.dict = none := ⟨_, ho, rfl, rfl, rfl⟩
  have hl : s.heap.IsList l ws.toArray := ⟨o, ho, hc, m, hd⟩
  have hall : AllInts ws.toArray := fun v hv => by
    obtain ⟨i, hi⟩ := List.getElem?_of_mem (show v ∈ ws by simpa using hv)
    obtain ⟨d, hd, qd⟩ := r.get' hi
    rw [List.getElem?_map] at hd
    cases hk : ks[i]? with
    | none => rw [hk] at hd; cases hd
    | some k => rw [hk] at hd; cases hd; cases qd with | int _ t => exact ⟨k, t, rfl⟩
  have hnums : ∀ (ws : List Value) (ks : List Int), AllD X s.heap ws (ks.map .int) → numsOf ws = ks := by
    intro ws
    induction ws with
    | nil => intro ks h; cases ks with | nil => rfl | cons k ks => cases h
    | cons w ws ih =>
      intro ks h
      cases ks with
      | nil => cases h
      | cons k ks => cases h with | cons q r => cases q with | int _ t => rw [numsOf, ih ks r]
  have hn := hnums ws ks r
  obtain ⟨xs, hxs⟩ := hall.items
  rw [hxs] at hl
  refine sum_intListG R.1 hl fun h' tk t' hk => ?_
  have e1 : numsOf (intItems xs).toList = ks := by rw [← hxs]; exact hn
  rw [preSum_eq, List.take_of_length_le (by simp)]
  rw [nums_intItems] at e1
  rw [e1]
  exact h _ h' tk hk (.int _ _)

theorem Ev.isinst_int {f b : Str} {p pb pos : Pos} {e : Expr} {k : Int} (hg : GlobAt B f (.builtin "isinstance")) (hb : GlobAt B b (.type "bool")) (he : Ev prog w B n env G e (.int k))
    (hk : env.kindOf f = some .globalImplicit := by rfl) (hkb : env.kindOf b = some .globalImplicit := by rfl) (hst : starEach [e, .Name b pb] env = [e, .Name b pb].map (fun e => (false, eval e env)) := by rfl) (hd : (f == ("__debug__" : Str)) = false := by decide) (hdb : (b == ("__debug__" : Str)) = false := by decide) :
    Ev prog w B n env G (.Call (.Name f p) [e, .Name b pb] [] pos) (.bool false) := by
  intro A X Q E s R L H h
  refine wpAny_Call_Name_kw (globName hg H hk hd ?_)
  rw [hst, backTo_plain]
  refine callWith_of (P := fun h => Grow B h) rfl Callable.builtin (evalArgs_list ?_)
  refine spliced_cons (he A X _ E s R L H fun u h₁ t₁ g₁ q₁ => spliced_cons (globName hb (H.grow g₁) hkb hdb (spliced_nil ?_)))
  cases q₁ with
  | int _ t =>
  exact ⟨H.keep.trans g₁, IsiPair.int_bool (h _ h₁ _ g₁ (.bool false))⟩

/-- methods of the built-in kinds -/
theorem Ev.meth0 {o : Expr} {name : Str} {apos pos : Pos} {a d : D} (ho : Ev prog w B n env G o a)
    (hm : ∀ (A : Around) (X : Addr → Prop) (Q : Value → Shared → Prop) (E : Value → Shared → Prop) (s : Shared) (u : Value), Room n A → Live X s.heap → IsD X s.heap u a → (∀ r h' tk, Grow s.heap h' → IsD X h' r d → Q r { s with heap := h', toks := tk }) → MethodOnS prog w A E name u pos [] Q s)
    (hbase : attributeBase o name env (eval o env) = eval o env) (hline : (apos.endLine == pos.line) = true) : Ev prog w B n env G (.Call (.Attribute o name apos) [] [] pos) d := by
  intro A X Q E s R L H h
  refine Call_method0 hbase hline (ho A X _ E s R L H fun u h₁ t₁ g₁ q₁ => ?_)
  exact hm A X Q E _ u R (L.grow g₁) q₁ fun r h' tk g q => h r h' tk (g₁.trans g) q
theorem Ev.meth1 {o e : Expr} {name : Str} {apos pos : Pos} {a b d : D} (ho : Ev prog w B n env G o a) (he : Ev prog w B n env G e b)
    (hm : ∀ (A : Around) (X : Addr → Prop) (Q : Value → Shared → Prop) (E : Value → Shared → Prop) (s : Shared) (u : Value) (t : Sem Value), Room n A → Live X s.heap → IsD X s.heap u a →
      (∀ (Q' : Value → Shared → Prop) (E' : Value → Shared → Prop), (∀ v h' tk, Grow s.heap h' → IsD X h' v b → Q' v { s with heap := h', toks := tk }) → wpAny (model prog w) A t Q' E' s) →
      (∀ r h' tk, Grow s.heap h' → IsD X h' r d → Q r { s with heap := h', toks := tk }) → MethodOnS prog w A E name u pos [(false, t)] Q s)
    (hbase : attributeBase o name env (eval o env) = eval o env) (hs : starEach [e] env = [(false, eval e env)]) (hline : (apos.endLine == pos.line) = true) : Ev prog w B n env G (.Call (.Attribute o name apos) [e] [] pos) d := by
  intro A X Q E s R L H h
  refine Call_method1 hbase hs hline (ho A X _ E s R L H fun u h₁ t₁ g₁ q₁ => ?_)
  exact hm A X Q E _ u _ R (L.grow g₁) q₁ (fun Q' E' hq => he A X Q' E' _ R (L.grow g₁) (H.grow g₁) hq) fun r h' tk g q => h r h' tk (g₁.trans g) q

theorem Ev.upper {o : Expr} {apos pos : Pos} {x : Str} (ho : Ev prog w B n env G o (.str x)) (hfit : Builtin.Str.tooLong (Txt.upper x).length = false)
    (hbase : attributeBase o (Str.ofString "upper") env (eval o env) = eval o env := by rfl) (hline : (apos.endLine == pos.line) = true := by rfl) : Ev prog w B n env G (.Call (.Attribute o (Str.ofString "upper") apos) [] [] pos) (.str (Txt.upper x)) :=
  Ev.meth0 ho (fun A X Q E s u R L q h => by cases q; exact SB.upper hfit (h _ s.heap _ (Grow.refl _) (.str _ _))) hbase hline
theorem Ev.lower {o : Expr} {apos pos : Pos} {x : Str} (ho : Ev prog w B n env G o (.str x)) (hfit : Builtin.Str.tooLong (Txt.lower x).length = false)
    (hbase : attributeBase o (Str.ofString "lower") env (eval o env) = eval o env := by rfl) (hline : (apos.endLine == pos.line) = true := by rfl) : Ev prog w B n env G (.Call (.Attribute o (Str.ofString "lower") apos) [] [] pos) (.str (Txt.lower x)) :=
  Ev.meth0 ho (fun A X Q E s u R L q h => by cases q; exact SB.lower hfit (h _ s.heap _ (Grow.refl _) (.str _ _))) hbase hline

theorem strs_of {X : Addr → Prop} {h : Heap} : ∀ {vs : List Value} {xs : List Str}, AllD X h vs (xs.map .str) → ∃ l : List (Str × Tok), vs = strValues l ∧ l.map (·.1) = xs
  | [], [], _ => ⟨[], rfl, rfl⟩
  | [], _ :: _, h => nomatch h
  | _ :: _, [], h => nomatch h
  | v :: vs, x :: xs, .cons q r => by
    obtain ⟨l, e1, e2⟩ := strs_of r
    cases q with
    | str _ t => exact ⟨(x, t) :: l, by rw [e1]; rfl, by rw [← e2]; rfl⟩
theorem joinOk_of {sep : Str} {xs : List Str} (h : (xs.map (·.length)).sum + xs.length * sep.length ≤ sizeLine) : JoinOk sep xs = true := by
  unfold JoinOk Builtin.Str.tooLong
  rw [StrLaws.joinTotal]
  simpa using h
theorem Ev.join {o e : Expr} {apos pos : Pos} {sep : Str} {xs : List Str} (ho : Ev prog w B n env G o (.str sep)) (he : Ev prog w B n env G e (.lst (xs.map .str))) (hfit : (xs.map (·.length)).sum + xs.length * sep.length ≤ sizeLine)
    (hbase : attributeBase o (Str.ofString "join") env (eval o env) = eval o env := by rfl) (hs : starEach [e] env = [(false, eval e env)] := by rfl) (hline : (apos.endLine == pos.line) = true := by rfl) :
    Ev prog w B n env G (.Call (.Attribute o (Str.ofString "join") apos) [e] [] pos) (.str (Str.join sep xs)) := by
  refine Ev.meth1 ho he (fun A X Q E s u t R L q ht h => ?_) hbase hs hline
  cases q with
  | str _ tt =>
  refine SB.join (ht _ _ fun v h' tk g q => ?_)
  cases q with
  | @lst l ws m _ nx ho r =>
  have ⟨o, ho, hc, hd, hdn⟩ : ∃ o, _ = some o ∧ o.cls = .type "list" ∧ o.data = .seq ws.toArray m ∧ o.dict = none := ⟨_, ho, rfl, rfl, rfl⟩
  obtain ⟨l', rfl, e2⟩ := strs_of r
  refine ⟨l, l', rfl, ⟨_, ho, rfl, m, rfl⟩, xs, e2, joinOk_of hfit, fun t' k => ?_⟩
  have : Txt.join sep xs = Str.join sep xs := StrLaws.glued_eq_join sep xs
  rw [this]
  exact h _ h' k g (.str _ _)

theorem Ev.count {o e : Expr} {apos pos : Pos} {ds : List D} {d : D} (ho : Ev prog w B n env G o (.lst ds)) (he : Ev prog w B n env G e d) (hb : PyData.canLayAll0 (toPys ds) = true) (ha : (toPy d).canLay0 = true) (hu : (toPy d).depth ≤ 60)
    (hbase : attributeBase o (Str.ofString "count") env (eval o env) = eval o env := by rfl) (hs : starEach [e] env = [(false, eval e env)] := by rfl) (hline : (apos.endLine == pos.line) = true := by rfl) :
    Ev prog w B n env G (.Call (.Attribute o (Str.ofString "count") apos) [e] [] pos) (.int ((ds.countP fun y => PyData.eqv (toPy y) (toPy d) : Nat) : Int)) := by
  refine Ev.meth1 ho he (fun A X Q E s u t R L q ht h => ?_) hbase hs hline
  cases q with
  | @lst l ws m _ nx ho r =>
  refine ⟨"list", _, PySem.F.plainAttrs_list, PySem.F.slot_list_count, PySem.F.type_list_count, ⟨_, ho, rfl⟩, fun a e => (by cases e; exact ⟨_, ho, rfl⟩), ?_⟩
  refine method1_meets PySem.F.slot_list_count PySem.F.entry_list_count (ht _ _ fun v h' tk g q => ?_)
  obtain ⟨bs, rd⟩ := q.reads
  have ho' := g _ _ ho
  have r' := r.grow g
  refine ⟨⟨_, ho', rfl⟩, PySem.F.args_list_count_2 _ _, _, SeqAt.list_countAt l ws.toArray m none #[] v (fun y => PyData.eqv (SeqAt.readOf h' y) (toPy d)), ho', ?_, ?_⟩
  · intro y hy
    obtain ⟨i, hi⟩ := List.getElem?_of_mem (show y ∈ ws by simpa using hy)
    obtain ⟨dy, hdy, qy⟩ := r'.get' hi
    obtain ⟨as, ry⟩ := qy.reads
    have hcl : (toPy dy).canLay0 = true := by
      have : ∀ (xs : List D), PyData.canLayAll0 (toPys xs) = true → dy ∈ xs → (toPy dy).canLay0 = true := by
        intro xs
        induction xs with
        | nil => intro _ h; cases h
        | cons x xs ih =>
          intro h hm
          simp only [toPys, PyData.canLayAll0, Bool.and_eq_true] at h
          rcases List.mem_cons.mp hm with rfl | hm
          · exact h.1
          · exact ih h.2 hm
      exact this ds hb (List.mem_of_getElem? hdy)
    rw [SeqAt.readOf_eq hcl ry]
    refine SeqAt.eqAt_reads (toPy dy) (toPy d) _ ({ s with heap := h', toks := tk } : Shared) _ _ as bs ry rd hcl ha ?_
    have h1 := R.2.2
    have h2 := Nat.min_le_right (toPy dy).depth (toPy d).depth
    show A.units + 1 + _ < 9900
    omega
  · have e : ws.toArray.toList.countP (fun y => PyData.eqv (SeqAt.readOf h' y) (toPy d)) = ds.countP fun y => PyData.eqv (toPy y) (toPy d) := by
      have : ∀ (ws : List Value) (xs : List D), AllD X h' ws xs → PyData.canLayAll0 (toPys xs) = true → ws.countP (fun y => PyData.eqv (SeqAt.readOf h' y) (toPy d)) = xs.countP fun y => PyData.eqv (toPy y) (toPy d) := by
        intro ws
        induction ws with
        | nil => intro xs h _; cases h; rfl
        | cons w ws ih =>
          intro xs h hl
          cases h with
          | cons q r =>
            simp only [toPys, PyData.canLayAll0, Bool.and_eq_true] at hl
            obtain ⟨as, rq⟩ := q.reads
            rw [List.countP_cons, List.countP_cons, ih _ r hl.2, SeqAt.readOf_eq hl.1 rq]
      exact this ws ds r' hb
    rw [e]
    exact h _ h' _ g (.int _ _)

theorem walks_bd {A : Around} {I : Addr} {fp wr : List Addr} {N : Nat} {P : Nat → Value → Prop} {St : Nat → Heap → Prop} (W : Walks prog w A I fp wr N P St) : Walks prog w A I fp wr N (fun i v => i < N ∧ P i v) St where
  sub := W.sub
  frame := W.frame
  item := fun i s Q E hi st hQ => W.item i s Q E hi st fun v h' tk hP => hQ v h' tk ⟨hi, hP⟩
  done := W.done
  self := W.self
/-- ranges -/
noncomputable def rangeL (a c : Int) (N : Nat) : List Int := (List.range N).map fun i => a + (i : Nat) * c
theorem Src.of_range {e : Expr} {a b c : Int} {N : Nat}
    (he : ∀ (A : Around) (X : Addr → Prop) (Q : Value → Shared → Prop) (E : Value → Shared → Prop) (s : Shared), Room n A → Live X s.heap → Has B X s.heap env G →
      (∀ r t u v h' tk, IsRange h' r a b c t u v → Grow s.heap h' → Q (.ref r) { s with heap := h', toks := tk }) → wpAny (model prog w) A (eval e env) Q E s)
    (hsmall : Builtin.Range.small a b c = true) (hN : Builtin.Range.rangeSize a b c = (N : Int)) : Src prog w B n env G e ((rangeL a c N).map .int) := by
  intro A X Q E s R L H h
  refine he A X _ E s R L H fun r t u v h₁ t₁ hr g₁ => ?_
  refine wpAny_pyIter_range hr hsmall ?_
  refine h h₁.objs.size [h₁.objs.size] [h₁.objs.size] N _ _ _ t₁ ⟨walks_bd (Walks.range R.1 h₁.objs.size a c N), ?_, ?_, ?_, ?_, ?_, ?_, ?_, ?_, ?_⟩
  · simp [rangeL]
  · show IsRangeIter _ _ _ _ _
    rw [hN]
    simpa using Heap.get?_push_size _ rfl
  · exact g₁.trans (Grow.push _ _)
  · intro b hb
    rw [List.mem_singleton.mp hb]
    exact ⟨_, Heap.get?_push_size _ rfl⟩
  · intro b hb
    rw [List.mem_singleton.mp hb]
    cases e : s.heap.get? h₁.objs.size with
    | none => rfl
    | some o' => have := g₁ _ _ e; rw [get_size_none h₁ (Nat.le_refl _)] at this; cases this
  · intro b hb
    rw [List.mem_singleton.mp hb]
    exact (L.grow g₁).fresh
  · intro i k hk b hb
    rw [List.mem_singleton.mp hb]
    exact ⟨_, hk, fun ⟨vs', m', e⟩ => by cases e⟩
  · rintro i v ⟨hi, t, rfl⟩
    exact ⟨.int (a + i * c), by simp [rangeL, hi], .int _ _⟩
  · intro i k hk
    exact ⟨_, _, _, hk, rfl, rfl, by decide⟩

theorem rangeSize_pos {k : Int} (h : 0 ≤ k) : Builtin.Range.rangeSize 0 k 1 = (k.toNat : Int) := by
  unfold Builtin.Range.rangeSize
  rw [if_pos (by decide)]
  split
  · rw [Int.ediv_one]; omega
  · omega
theorem small_of {a b c : Int} (h1 : Builtin.Range.rangeFitsLong a = true) (h2 : Builtin.Range.rangeFitsLong b = true) (h3 : 0 < c) (h5 : c < 2 ^ 20) (h4 : 0 ≤ a) (h6 : b < 2 ^ 60) : Builtin.Range.small a b c = true := by
  have hs : 0 ≤ Builtin.Range.rangeSize a b c ∧ Builtin.Range.rangeSize a b c < 2 ^ 61 := by
    unfold Builtin.Range.rangeSize
    rw [if_pos h3]
    split
    · have h8 : 0 ≤ (b - a - 1) / c := Int.ediv_nonneg (by omega) (by omega)
      have h9 : (b - a - 1) / c ≤ b - a - 1 := Int.ediv_le_self _ (by omega)
      omega
    · omega
  unfold Builtin.Range.small
  unfold Builtin.Range.rangeFitsLong at *
  simp only [Bool.and_eq_true, decide_eq_true_eq, Bool.or_eq_true] at *
  rw [if_pos h3]
  refine ⟨⟨⟨⟨h1, h2⟩, by omega⟩, by omega⟩, .inr ?_⟩
  simp only [Bool.and_eq_true, decide_eq_true_eq]
  omega
theorem Src.range1 {f : Str} {p pos : Pos} {e : Expr} {k : Int} (hg : GlobAt B f (.type "range")) (he : Ev prog w B n env G e (.int k)) (h0 : 0 ≤ k) (h1 : k < 2 ^ 60)
    (hk : env.kindOf f = some .globalImplicit := by rfl) (hst : starEach [e] env = [e].map (fun e => (false, eval e env)) := by rfl) (hd : (f == ("__debug__" : Str)) = false := by decide) :
    Src prog w B n env G (.Call (.Name f p) [e] [] pos) ((rangeL 0 1 k.toNat).map .int) := by
  refine Src.of_range (c := 1) (fun A X Q E s R L H h => ?_) (small_of (by decide) ?_ (by decide) (by decide) (by decide) h1) (rangeSize_pos h0)
  · refine wpAny_Call_Name_kw (globName hg H hk hd ?_)
    refine callWith_data (ds := [.int k]) Callable.type (EvL.cons he EvL.nil) hst R L H fun vs h' tk g q => ?_
    cases q with
    | cons q r =>
    cases r
    cases q with
    | int _ t =>
    exact call_range_1 (h _ _ _ _ _ _ (IsRange.new ..) (g.trans (Grow.push _ _)))
  · unfold Builtin.Range.rangeFitsLong; simp only [Bool.and_eq_true, decide_eq_true_eq]; omega
theorem Src.range3 {f : Str} {p pos : Pos} {e₁ e₂ e₃ : Expr} {a b c : Int} {N : Nat} (hg : GlobAt B f (.type "range")) (he₁ : Ev prog w B n env G e₁ (.int a)) (he₂ : Ev prog w B n env G e₂ (.int b)) (he₃ : Ev prog w B n env G e₃ (.int c))
    (hsmall : Builtin.Range.small a b c = true) (hN : Builtin.Range.rangeSize a b c = (N : Int)) (hc : c ≠ 0) (hcs : c.natAbs < 1073741824)
    (hk : env.kindOf f = some .globalImplicit := by rfl) (hst : starEach [e₁, e₂, e₃] env = [e₁, e₂, e₃].map (fun e => (false, eval e env)) := by rfl) (hd : (f == ("__debug__" : Str)) = false := by decide) :
    Src prog w B n env G (.Call (.Name f p) [e₁, e₂, e₃] [] pos) ((rangeL a c N).map .int) := by
  refine Src.of_range (fun A X Q E s R L H h => ?_) hsmall hN
  refine wpAny_Call_Name_kw (globName hg H hk hd ?_)
  refine callWith_data (ds := [.int a, .int b, .int c]) Callable.type (EvL.cons he₁ (EvL.cons he₂ (EvL.cons he₃ EvL.nil))) hst R L H fun vs h' tk g q => ?_
  cases q with
  | cons q r =>
  cases q with
  | int _ t =>
  cases r with
  | cons q r =>
  cases q with
  | int _ u =>
  cases r with
  | cons q r =>
  cases r
  cases q with
  | int _ v =>
  exact call_range_3 hc (h _ _ _ _ _ _ (IsRange.new ..) (g.trans (Grow.push _ _))) (.inl (PyProof.noPylong_small hcs))
end
end
-- MA5
section
/-- snapshots of the heap: what stands in them outside of a set still stands -/
noncomputable abbrev Snaps := List ((Addr → Prop) × Heap)
noncomputable def Olds (Hs : Snaps) (h : Heap) : Prop := ∀ q ∈ Hs, ∀ b o, ¬ q.1 b → q.2.get? b = some o → h.get? b = some o
noncomputable def Own (Hs : Snaps) (a : Addr) : Prop := ∀ q ∈ Hs, q.1 a ∨ q.2.get? a = none

structure Fm (B : Heap) (Hs : Snaps) (X : Addr → Prop) (h : Heap) (env : Env) (G : Ctxt) : Prop where
  has : Has B X h env G
  live : Live X h
  locX : X env.locals
  ns : ∃ m, h.Ns env.locals m
  olds : Olds Hs h
  ownL : Own Hs env.locals
  newL : B.get? env.locals = none
  cells : ∀ x c, env.cells.lookup x = some c → (∃ v, h.IsCell c v) ∧ ((X c ∧ Own Hs c ∧ B.get? c = none) ∨ (∃ o, B.get? c = some o))
  apart : ∀ x y c, env.cells.lookup x = some c → env.cells.lookup y = some c → x = y

theorem ns_unique {h : Heap} {a : Addr} {m m' : Str → Option Value} (x : h.Ns a m) (y : h.Ns a m') : m = m' := by
  obtain ⟨o, es, ep, ho, hd, _, hf⟩ := x
  obtain ⟨o', es', ep', ho', hd', _, hf'⟩ := y
  rw [ho] at ho'
  cases ho'
  rw [hd] at hd'
  cases hd'
  funext n
  rw [← hf, ← hf']
theorem ns_not_cell {h : Heap} {a : Addr} {m : Str → Option Value} {v : Option Value} (x : h.Ns a m) (y : h.IsCell a v) : False := by
  obtain ⟨o, es, ep, ho, hd, _⟩ := x
  obtain ⟨o', ho', hd'⟩ := y
  rw [ho] at ho'
  cases ho'
  rw [hd] at hd'
  cases hd'
theorem ns_not_seq {h : Heap} {a : Addr} {o : Obj} {m : Str → Option Value} (x : h.Ns a m) (ho : h.get? a = some o) : ¬ SeqO o := by
  obtain ⟨o', es, ep, ho', hd, _⟩ := x
  rintro ⟨vs, k, hd'⟩
  rw [ho] at ho'
  cases ho'
  rw [hd] at hd'
  cases hd'
theorem cell_not_seq {h : Heap} {a : Addr} {o : Obj} {v : Option Value} (x : h.IsCell a v) (ho : h.get? a = some o) : ¬ SeqO o := by
  obtain ⟨o', ho', hd⟩ := x
  rintro ⟨vs, k, hd'⟩
  rw [ho] at ho'
  cases ho'
  rw [hd] at hd'
  cases hd'

theorem IsS.skeep {X : Addr → Prop} {h h' : Heap} {v : Value} {t : Slot} (q : IsS X h v t) (k : ∀ a o, h.get? a = some o → SeqO o → h'.get? a = some o) : IsS X h' v t := by
  cases t with
  | d d => exact IsD.skeep q fun a o _ e hs => k a o e hs
  | v u => exact q
  | m a ds => obtain ⟨e, hx, vs, n, ho, r⟩ := q; exact ⟨e, hx, vs, n, k _ _ ho ⟨_, _, rfl⟩, r.skeep fun a o _ e hs => k a o e hs⟩

section
variable {B : Heap} {Hs : Snaps} {X : Addr → Prop} {h h' : Heap} {env : Env} {G : Ctxt}

/-- a change of things that the frame does not know of -/
theorem Fm.move (F : Fm B Hs X h env G) (W : Addr → Prop) (k : ∀ b o, ¬ W b → h.get? b = some o → h'.get? b = some o)
    (hX : ∀ b, W b → ¬ X b) (hS : ∀ b o, W b → h.get? b = some o → ¬ SeqO o) (hB : ∀ b, W b → B.get? b = none) (hO : ∀ b, W b → Own Hs b) : Fm B Hs X h' env G := by
  have sk : ∀ a o, h.get? a = some o → SeqO o → h'.get? a = some o := fun a o e hs => k a o (fun w => hS a o w e hs) e
  have cellKeep : ∀ x c v, env.cells.lookup x = some c → h.IsCell c v → h'.IsCell c v := fun x c v hc ⟨o, ho, hd⟩ => by
    refine ⟨o, k c o (fun w => ?_) ho, hd⟩
    rcases (F.cells x c hc).2 with ⟨a, _⟩ | ⟨o', e⟩
    · exact hX c w a
    · rw [hB c w] at e; cases e
  have nsKeep : ∀ {m}, h.Ns env.locals m → h'.Ns env.locals m := fun ⟨o, es, ep, ho, r⟩ => ⟨o, es, ep, k _ _ (fun w => hX _ w F.locX) ho, r⟩
  refine ⟨⟨fun a o e => k a o (fun w => by rw [hB a w] at e; cases e) (F.has.keep a o e), F.has.fn, F.has.gl, F.has.bi, fun p hp => ?_⟩, fun a ha => ?_, F.locX, let ⟨m, hn⟩ := F.ns; ⟨m, nsKeep hn⟩, ?_, F.ownL, F.newL, fun x c hc => ?_, F.apart⟩
  · obtain ⟨v, hv, hx⟩ := F.has.var p hp
    refine ⟨v, hv.skeep sk, ?_⟩
    rcases hx with ⟨a, m, hn, e⟩ | ⟨a, c, hc, e⟩
    · exact .inl ⟨a, m, nsKeep hn, e⟩
    · exact .inr ⟨a, c, hc, cellKeep _ _ _ hc e⟩
  · obtain ⟨o, e⟩ := F.live a ha
    exact ⟨o, k a o (fun w => hX a w ha) e⟩
  · intro q hq b o hb e
    refine k b o (fun w => ?_) (F.olds q hq b o hb e)
    rcases hO b w q hq with y | y
    · exact hb y
    · rw [y] at e; cases e
  · obtain ⟨⟨v, hv⟩, r⟩ := F.cells x c hc
    exact ⟨⟨v, cellKeep x c v hc hv⟩, r⟩
theorem Fm.grow (F : Fm B Hs X h env G) (g : Grow h h') : Fm B Hs X h' env G :=
  F.move (fun _ => False) (fun b o _ e => g b o e) (fun _ w => w.elim) (fun _ _ w => w.elim) (fun _ w => w.elim) fun _ w => w.elim
theorem Fm.sub {G' : Ctxt} (F : Fm B Hs X h env G) (hs : ∀ p ∈ G', p ∈ G) : Fm B Hs X h env G' :=
  { F with has := ⟨F.has.keep, F.has.fn, F.has.gl, F.has.bi, fun p hp => F.has.var p (hs p hp)⟩ }
theorem Fm.snap (F : Fm B Hs X h env G) : Fm B ((X, h) :: Hs) X h env G :=
  { F with
    olds := fun q hq b o hb e => by
      rcases List.mem_cons.mp hq with rfl | hq
      · exact e
      · exact F.olds q hq b o hb e
    ownL := fun q hq => by
      rcases List.mem_cons.mp hq with rfl | hq
      · exact .inl F.locX
      · exact F.ownL q hq
    cells := fun x c hc => by
      obtain ⟨a, b | b⟩ := F.cells x c hc
      · refine ⟨a, .inl ⟨b.1, fun q hq => ?_, b.2.2⟩⟩
        rcases List.mem_cons.mp hq with rfl | hq
        · exact .inl b.1
        · exact b.2.1 q hq
      · exact ⟨a, .inr b⟩ }
theorem Fm.unsnap {q : (Addr → Prop) × Heap} (F : Fm B (q :: Hs) X h env G) : Fm B Hs X h env G :=
  { F with
    olds := fun q hq => F.olds q (.tail _ hq)
    ownL := fun q hq => F.ownL q (.tail _ hq)
    cells := fun x c hc => by
      obtain ⟨a, b | b⟩ := F.cells x c hc
      · exact ⟨a, .inl ⟨b.1, fun q hq => b.2.1 q (.tail _ hq), b.2.2⟩⟩
      · exact ⟨a, .inr b⟩ }
/-- a thing newly made is the frame's own to change -/
theorem Fm.addX {a : Addr} (F : Fm B Hs X h env G) (g : Grow h h') (ha : h.get? a = none) (hl : ∃ o, h'.get? a = some o) : Fm B Hs (fun b => X b ∨ b = a) h' env G := by
  have F' := F.grow g
  have key : ∀ {v d}, IsD X h v d → IsD (fun b => X b ∨ b = a) h' v d := fun q => q.keep (fun b o e hx => by
    rcases hx with hx | hx
    · exact hx
    · rw [hx, ha] at e; cases e) g.skeep
  have keyA : ∀ {v d}, AllD X h v d → AllD (fun b => X b ∨ b = a) h' v d := fun q => q.keep (fun b o e hx => by
    rcases hx with hx | hx
    · exact hx
    · rw [hx, ha] at e; cases e) g.skeep
  refine ⟨⟨F'.has.keep, F'.has.fn, F'.has.gl, F'.has.bi, fun p hp => ?_⟩, ?_, .inl F.locX, F'.ns, F'.olds, F'.ownL, F'.newL, fun x c hc => ?_, F'.apart⟩
  · obtain ⟨v, hv, hx⟩ := F.has.var p hp
    refine ⟨v, ?_, hx.grow g⟩
    obtain ⟨n, t⟩ := p
    cases t with
    | d d => exact key hv
    | v u => exact hv
    | m b ds => obtain ⟨e, hx, vs, k, ho, r⟩ := hv; exact ⟨e, .inl hx, vs, k, g _ _ ho, keyA r⟩
  · intro b hb
    rcases hb with hb | rfl
    · exact F'.live b hb
    · exact hl
  · obtain ⟨e, b | b⟩ := F'.cells x c hc
    · exact ⟨e, .inl ⟨.inl b.1, b.2.1, b.2.2⟩⟩
    · exact ⟨e, .inr b⟩
theorem Fm.own_new {a : Addr} (F : Fm B Hs X h env G) (ha : h.get? a = none) : Own Hs a := fun q hq => by
  by_cases hy : q.1 a
  · exact .inl hy
  · cases e : q.2.get? a with
    | none => exact .inr rfl
    | some o => rw [F.olds q hq a o hy e] at ha; cases ha
end

section
variable {prog : Program} {w : World} {B : Heap} {n : Nat} {env : Env} {G : Ctxt} {Hs : Snaps} {A : Around} {X : Addr → Prop} {E : Value → Shared → Prop} {s : Shared}

noncomputable def names (G : Ctxt) : List Str := G.map (·.1)
theorem not_names {G : Ctxt} {x : Str} (h : (names G).contains x = false) : ∀ p ∈ G, p.1 ≠ x := fun p hp e => by
  have : (names G).contains x = true := by
    rw [List.contains_iff_mem]
    exact List.mem_map.mpr ⟨p, hp, e⟩
  rw [h] at this
  cases this

theorem env_plain {env : Env} (h : env.scope.kind = .function) : (env.scope.kind == .class || (env.scope.kind == .module && env.locals != env.globals)) = false := by rw [h]; rfl

theorem Fm.storeL {x : Str} {v : Value} {t : Slot} {Q : Unit → Shared → Prop} (F : Fm B Hs X s.heap env G) (hk : env.kindOf x = some .local) (hx : (names G).contains x = false) (q : IsS X s.heap v t)
    (h : ∀ h' tk, Fm B Hs X h' env ((x, t) :: G) → Heap.SameBut env.locals s.heap h' → Q () { s with heap := h', toks := tk }) : wpAny (model prog w) A (storeName env x v) Q E s := by
  obtain ⟨m, hn⟩ := F.ns
  refine wpAny_storeName_local hk hn (fun h' hn' hs => h h' _ ?_ hs) (env_plain F.has.fn)
  have sk : ∀ a o, s.heap.get? a = some o → SeqO o → h'.get? a = some o := fun a o e hso => hs.extBut a o (fun z => ns_not_seq hn (z ▸ e) hso) e
  have cellKeep : ∀ {c u}, s.heap.IsCell c u → h'.IsCell c u := fun {c u} hc => hc.sameBut hs fun z => ns_not_cell hn (z ▸ hc)
  refine ⟨⟨fun a o e => hs.extBut a o (fun z => by rw [z, F.newL] at e; cases e) (F.has.keep a o e), F.has.fn, F.has.gl, F.has.bi, fun p hp => ?_⟩, ?_, F.locX, ⟨_, hn'⟩, ?_, F.ownL, F.newL, ?_, F.apart⟩
  · rcases List.mem_cons.mp hp with rfl | hp
    · exact ⟨v, q.skeep sk, .inl ⟨hk, _, hn', by simp⟩⟩
    · obtain ⟨u, hu, hv⟩ := F.has.var p hp
      refine ⟨u, hu.skeep sk, ?_⟩
      rcases hv with ⟨a, m', hm', e⟩ | ⟨a, c, hc, e⟩
      · have := ns_unique hm' hn
        subst this
        exact .inl ⟨a, _, hn', by simp [not_names hx p hp, e]⟩
      · exact .inr ⟨a, c, hc, cellKeep e⟩
  · intro a ha
    by_cases hz : a = env.locals
    · obtain ⟨o, _, _, e, _⟩ := hn'; exact ⟨o, hz ▸ e⟩
    · obtain ⟨o, e⟩ := F.live a ha; exact ⟨o, hs.extBut a o hz e⟩
  · intro p hp b o hb e
    refine hs.extBut b o (fun z => ?_) (F.olds p hp b o hb e)
    rcases F.ownL p hp with y | y
    · exact hb (z ▸ y)
    · rw [z, y] at e; cases e
  · intro y c hc
    obtain ⟨⟨u, hu⟩, r⟩ := F.cells y c hc
    exact ⟨⟨u, cellKeep hu⟩, r⟩

theorem Fm.storeC {x : Str} {v : Value} {t : Slot} {Q : Unit → Shared → Prop} {c : Addr} (F : Fm B Hs X s.heap env G) (hk : env.kindOf x = some .cell) (hc : env.cells.lookup x = some c) (hXc : B.get? c = none) (hx : (names G).contains x = false) (q : IsS X s.heap v t)
    (h : ∀ h' tk, Fm B Hs X h' env ((x, t) :: G) → Heap.SameBut c s.heap h' → Q () { s with heap := h', toks := tk }) : wpAny (model prog w) A (storeName env x v) Q E s := by
  obtain ⟨m, hn⟩ := F.ns
  obtain ⟨⟨v₀, hv₀⟩, hcx⟩ := F.cells x c hc
  obtain ⟨hcX, hcO, _⟩ : X c ∧ Own Hs c ∧ B.get? c = none := hcx.resolve_right fun ⟨o, e⟩ => by rw [hXc] at e; cases e
  refine wpAny_storeName_cell F.has.fn hk hc hv₀ (fun h' hc' hs => h h' s.toks ?_ hs)
  have hLc : env.locals ≠ c := fun z => ns_not_cell hn (z ▸ hv₀)
  have sk : ∀ a o, s.heap.get? a = some o → SeqO o → h'.get? a = some o := fun a o e hso => hs.extBut a o (fun z => cell_not_seq hv₀ (z ▸ e) hso) e
  have hn' := hn.sameBut hs hLc
  refine ⟨⟨fun a o e => hs.extBut a o (fun z => by rw [z, hXc] at e; cases e) (F.has.keep a o e), F.has.fn, F.has.gl, F.has.bi, fun p hp => ?_⟩, ?_, F.locX, ⟨_, hn'⟩, ?_, F.ownL, F.newL, ?_, F.apart⟩
  · rcases List.mem_cons.mp hp with rfl | hp
    · exact ⟨v, q.skeep sk, .inr ⟨.inl hk, c, hc, hc'⟩⟩
    · obtain ⟨u, hu, hv⟩ := F.has.var p hp
      refine ⟨u, hu.skeep sk, ?_⟩
      rcases hv with ⟨a, m', hm', e⟩ | ⟨a, c₂, hc₂, e⟩
      · exact .inl ⟨a, m', hm'.sameBut hs hLc, e⟩
      · exact .inr ⟨a, c₂, hc₂, e.sameBut hs fun z => not_names hx p hp (F.apart _ _ _ hc₂ (z ▸ hc))⟩
  · intro a ha
    by_cases hz : a = c
    · obtain ⟨o, e, _⟩ := hc'; exact ⟨o, hz ▸ e⟩
    · obtain ⟨o, e⟩ := F.live a ha; exact ⟨o, hs.extBut a o hz e⟩
  · intro p hp b o hb e
    refine hs.extBut b o (fun z => ?_) (F.olds p hp b o hb e)
    rcases hcO p hp with y | y
    · exact hb (z ▸ y)
    · rw [z, y] at e; cases e
  · intro y c₂ hc₂
    obtain ⟨⟨u, hu⟩, r⟩ := F.cells y c₂ hc₂
    refine ⟨?_, r⟩
    by_cases hz : c₂ = c
    · exact ⟨_, hz ▸ hc'⟩
    · exact ⟨u, hu.sameBut hs hz⟩

/-- statements -/
theorem St.assignL {x : Str} {px pos : Pos} {e : Expr} {d : D} {Q : Flow → Shared → Prop} (he : Ev prog w B n env G e d) (R : Room n A) (F : Fm B Hs X s.heap env G) (hk : env.kindOf x = some .local) (hx : (names G).contains x = false)
    (hsw : swapsWith e (some (.Name x px)) pos.line env = pure false)
    (h : ∀ h' tk, Fm B Hs X h' env ((x, .d d) :: G) → Q .next { s with heap := h', toks := tk }) : wpAny (model prog w) A (exec (.Assign [.Name x px] e pos) env) Q E s := by
  refine wpAny_Assign_Name (he A X _ E s R F.live F.has fun v h₁ t₁ g₁ q₁ => ?_) hsw
  exact (F.grow g₁).storeL (s := { s with heap := h₁, toks := t₁ }) (t := .d d) hk hx q₁ fun h₂ t₂ F₂ _ => h h₂ t₂ F₂
theorem St.assignC {x : Str} {px pos : Pos} {e : Expr} {d : D} {c : Addr} {Q : Flow → Shared → Prop} (he : Ev prog w B n env G e d) (R : Room n A) (F : Fm B Hs X s.heap env G) (hk : env.kindOf x = some .cell) (hc : env.cells.lookup x = some c) (hXc : B.get? c = none) (hx : (names G).contains x = false)
    (hsw : swapsWith e (some (.Name x px)) pos.line env = pure false)
    (h : ∀ h' tk, Fm B Hs X h' env ((x, .d d) :: G) → Q .next { s with heap := h', toks := tk }) : wpAny (model prog w) A (exec (.Assign [.Name x px] e pos) env) Q E s := by
  refine wpAny_Assign_Name (he A X _ E s R F.live F.has fun v h₁ t₁ g₁ q₁ => ?_) hsw
  exact (F.grow g₁).storeC (s := { s with heap := h₁, toks := t₁ }) (t := .d d) hk hc hXc hx q₁ fun h₂ t₂ F₂ _ => h h₂ t₂ F₂
/-- an empty list that is to grow -/
theorem St.assignNil {x : Str} {px pos lp : Pos} {Q : Flow → Shared → Prop} (F : Fm B Hs X s.heap env G) (hk : env.kindOf x = some .local) (hx : (names G).contains x = false)
    (hsw : swapsWith (.List [] lp) (some (.Name x px)) pos.line env = pure false)
    (h : ∀ a h' tk, Own Hs a → B.get? a = none → Fm B Hs (fun b => X b ∨ b = a) h' env ((x, .m a []) :: G) → Q .next { s with heap := h', toks := tk }) : wpAny (model prog w) A (exec (.Assign [.Name x px] (.List [] lp) pos) env) Q E s := by
  refine wpAny_Assign_Name (List_ (spliced_nil ?_)) hsw
  refine wpAny_newObj_type ?_ (by show ([] : List Value).toArray.size ≤ sizeLine; exact Nat.zero_le _)
  have ha := get_size_none s.heap (Nat.le_refl _)
  have e : (s.heap.push (listO [] 0)).get? s.heap.objs.size = some (listO [] 0) := Heap.get?_push_size _ rfl
  have F₁ := F.addX (Grow.push s.heap (listO [] 0)) ha ⟨_, e⟩
  refine F₁.storeL (s := { s with heap := s.heap.push (listO [] 0) }) (t := .m s.heap.objs.size []) hk hx ⟨rfl, .inr rfl, [], 0, e, .nil⟩ fun h₂ t₂ F₂ _ => h _ h₂ t₂ (F.own_new ha) (by
    cases e : B.get? s.heap.objs.size with
    | none => rfl
    | some o => have := F.has.keep _ _ e; rw [ha] at this; cases this) F₂

theorem St.ret {e : Expr} {pos : Pos} {d : D} {Q : Flow → Shared → Prop} (he : Ev prog w B n env G e d) (R : Room n A) (F : Fm B Hs X s.heap env G)
    (h : ∀ v h' tk, Fm B Hs X h' env G → IsD X h' v d → Q (.ret v) { s with heap := h', toks := tk }) : wpAny (model prog w) A (exec (.Return (some e) pos) env) Q E s :=
  wpAny_Return_some (he A X _ E s R F.live F.has fun v h₁ t₁ g₁ q₁ => h v h₁ t₁ (F.grow g₁) q₁)
theorem St.if_ {e : Expr} {pos : Pos} {bd el : List Stmt} {b : Bool} {Q : Flow → Shared → Prop} (he : EvT prog w B n env G e b) (R : Room n A) (F : Fm B Hs X s.heap env G)
    (ht : b = true → ∀ h' tk, Fm B Hs X h' env G → wpAny (model prog w) A (execs bd env) Q E { s with heap := h', toks := tk })
    (hf : b = false → ∀ h' tk, Fm B Hs X h' env G → wpAny (model prog w) A (execs el env) Q E { s with heap := h', toks := tk }) : wpAny (model prog w) A (exec (.If e bd el pos) env) Q E s := by
  refine wpAny_If (he A X _ E s R F.live F.has fun h₁ t₁ g₁ => ?_)
  cases b with
  | true => rw [if_pos rfl]; exact ht rfl h₁ t₁ (F.grow g₁)
  | false => rw [if_neg (by decide)]; exact hf rfl h₁ t₁ (F.grow g₁)
theorem St.cons {st : Stmt} {rest : List Stmt} {Q : Flow → Shared → Prop} (h : wpAny (model prog w) A (exec st env) (fun f s' => match f with | .next => wpAny (model prog w) A (execs rest env) Q E s' | f => Q f s') E s) :
    wpAny (model prog w) A (execs (st :: rest) env) Q E s := wpAny_execs_cons h

/-- appending to a list that grows -/
theorem Fm.append {x : Str} {a : Addr} {ds : List D} {u : Value} {d : D} {Q : Value → Shared → Prop} (F : Fm B Hs X s.heap env ((x, .m a ds) :: G)) (ho : Own Hs a) (hB : B.get? a = none) (hone : ∀ p ∈ G, ∀ b es, p.2 ≠ .m b es) (q : IsD X s.heap u d) (hz : ds.length ≤ sizeLine)
    (h : ∀ h' tk, Fm B Hs X h' env ((x, .m a (ds ++ [d])) :: G) → Q .none { s with heap := h', toks := tk }) : wpAny (model prog w) A (call (.builtin "list.append") [.ref a, u]) Q E s := by
  obtain ⟨v, ⟨rfl, hXa, vs, k, hoa, r⟩, hv⟩ := F.has.var _ (.head _)
  have hpl : s.heap.PlainList a vs.toArray := ⟨k, hoa⟩
  have hlen := r.length
  refine wpAny_list_append_plain (hsz := by simp only [List.size_toArray]; omega) hpl fun h' ⟨k', hoa'⟩ hs => h h' s.toks ?_
  have hXk : SKeep X s.heap h' := fun b o hn e _ => hs.extBut b o (fun z => hn (z ▸ hXa)) e
  have hL : env.locals ≠ a := fun z => by
    obtain ⟨m, hn⟩ := F.ns
    exact ns_not_seq hn (z ▸ hoa) ⟨_, _, rfl⟩
  have hC : ∀ {c u}, s.heap.IsCell c u → c ≠ a := fun hc z => cell_not_seq hc (z ▸ hoa) ⟨_, _, rfl⟩
  have vk : ∀ {y u}, VarIs s.heap env y u → VarIs h' env y u := fun hy => by
    rcases hy with ⟨p, m, hn, e⟩ | ⟨p, c, hc, e⟩
    · exact .inl ⟨p, m, hn.sameBut hs hL, e⟩
    · exact .inr ⟨p, c, hc, e.sameBut hs (hC e)⟩
  refine ⟨⟨fun b o e => hs.extBut b o (fun z => by rw [z, hB] at e; cases e) (F.has.keep b o e), F.has.fn, F.has.gl, F.has.bi, fun p hp => ?_⟩, ?_, F.locX, let ⟨m, hn⟩ := F.ns; ⟨m, hn.sameBut hs hL⟩, ?_, F.ownL, F.newL, ?_, F.apart⟩
  · rcases List.mem_cons.mp hp with rfl | hp
    · refine ⟨_, ⟨rfl, hXa, vs ++ [u], k', by simpa using hoa', (r.skeep hXk).append (.cons (q.skeep hXk) .nil)⟩, vk hv⟩
    · obtain ⟨z, hz, hzv⟩ := F.has.var p (.tail _ hp)
      refine ⟨z, ?_, vk hzv⟩
      have := hone p hp
      obtain ⟨pn, pt⟩ := p
      cases pt with
      | d d => exact IsD.skeep hz hXk
      | v u => exact hz
      | m b es => exact absurd rfl (this b es)
  · intro b hb
    by_cases hz : b = a
    · exact ⟨_, hz ▸ hoa'⟩
    · obtain ⟨o, e⟩ := F.live b hb; exact ⟨o, hs.extBut b o hz e⟩
  · intro p hp b o hb e
    refine hs.extBut b o (fun z => ?_) (F.olds p hp b o hb e)
    rcases ho p hp with y | y
    · exact hb (z ▸ y)
    · rw [z, y] at e; cases e
  · intro y c hc
    obtain ⟨⟨u, hu⟩, r⟩ := F.cells y c hc
    exact ⟨⟨u, hu.sameBut hs (hC hu)⟩, r⟩

/-- the loop's turn, with the owned tuple let go -/
theorem forLoop_own {R : Result → Shared → Prop} {target : Expr} {it : Value} {body orelse : List Stmt} {env : Env} (I : Nat → Shared → Prop)
    (turn : ∀ n s, I n s → wpAny (model prog w) A (pyNext it) (fun r s₁ => match r with
      | none => wpAny (model prog w) A (execs orelse env) (fun f s₃ => R (.ok f) s₃) (notedBy (model prog w) A env fun e s' => R (.error e) s') s₁
      | some v => wpAny (model prog w) A (letOwnedTupleGo target it v) (fun _ s₁' => wpAny (model prog w) A (assign target env v) (fun _ s₂ => wpAny (model prog w) A (execs body env) (fun f s₃ => match f with
          | .next | .cont => ∃ m, m < n ∧ I m s₃
          | .brk => R (.ok .next) s₃
          | .ret v => R (.ok (.ret v)) s₃) (notedBy (model prog w) A env fun e s' => R (.error e) s') s₂) (notedBy (model prog w) A env fun e s' => R (.error e) s') s₁') (notedBy (model prog w) A env fun e s' => R (.error e) s') s₁) (notedBy (model prog w) A env fun e s' => R (.error e) s') s)
    (n : Nat) (h : I n s) : codeAny (model prog w) A (.forLoop target it body orelse env) R s := by
  refine codeAny_loop' rfl I (fun n s hI => ?_) n h
  show wpAny _ _ ((forTurn target it body orelse env).onRaise (fun x => do noteFrame x env; theTreesLotGoes x)) _ _ s
  refine wpAny_noted ?_
  simp only [forTurn]
  refine wpAny_bind (wpAny_standAt (wpAny_bind (wpAny_onRaise (wpAny_mono (turn n s hI) (fun r s₁ h₁ => ?_) fun _ _ h' => wpAny_standAt h'))))
  cases r with
  | none => exact wpAny_pure (.inr ⟨rfl, codeAny_block h₁⟩)
  | some v =>
    refine wpAny_bind (wpAny_mono h₁ (fun _ s₁' h₁' => ?_) fun _ _ h' => h')
    refine wpAny_bind (wpAny_mono h₁' (fun _ s₂ h₂ => wpAny_bind (wpAny_mono h₂ (fun f s₃ h₃ => ?_) fun _ _ h' => h')) fun _ _ h' => h')
    cases f with
    | next => exact wpAny_pure (.inl ⟨rfl, h₃⟩)
    | cont => exact wpAny_pure (.inl ⟨rfl, h₃⟩)
    | brk => exact wpAny_pure h₃
    | ret v => exact wpAny_pure h₃

/-- how the target of a for is bound: in the frame or in a cell -/
noncomputable def Bind1 (B : Heap) (env : Env) (x : Str) : Prop := env.kindOf x = some .local ∨ (env.kindOf x = some .cell ∧ ∃ c, env.cells.lookup x = some c ∧ B.get? c = none)
theorem Fm.store {x : Str} {v : Value} {t : Slot} {Q : Unit → Shared → Prop} (F : Fm B Hs X s.heap env G) (hk : Bind1 B env x) (hx : (names G).contains x = false) (q : IsS X s.heap v t)
    (h : ∀ h' tk, Fm B Hs X h' env ((x, t) :: G) → Olds [(X, s.heap)] h' → Q () { s with heap := h', toks := tk }) : wpAny (model prog w) A (storeName env x v) Q E s := by
  rcases hk with hk | ⟨hk, c, hc, hB⟩
  · refine F.storeL hk hx q fun h' tk F' hs => h h' tk F' fun p hp b o hb e => ?_
    rw [List.mem_singleton.mp hp] at hb e
    exact hs.extBut b o (fun z => hb (z ▸ F.locX)) e
  · refine F.storeC hk hc hB hx q fun h' tk F' hs => h h' tk F' fun p hp b o hb e => ?_
    rw [List.mem_singleton.mp hp] at hb e
    rcases (F.cells x c hc).2 with ⟨a, _⟩ | ⟨o', e'⟩
    · exact hs.extBut b o (fun z => hb (z ▸ a)) e
    · rw [hB] at e'; cases e'

theorem St.for_ {x : Str} {px pos : Pos} {iter : Expr} {body : List Stmt} {ds : List D} {Q : Flow → Shared → Prop} (hsrc : Src prog w B n env G iter ds) (R : Room n A) (F : Fm B Hs X s.heap env G) (hk : Bind1 B env x) (Gi : Nat → Ctxt) (h0 : Gi 0 = G)
    (hx : ∀ i, (names (Gi i)).contains x = false)
    (turn : ∀ i d h₁ tk₁, ds[i]? = some d → Fm B ((X, h₁) :: Hs) X h₁ env ((x, .d d) :: Gi i) →
      wpAny (model prog w) A (execs body env) (fun f s' => (f = .next ∨ f = .cont) ∧ ∃ h' tk', s' = { s with heap := h', toks := tk' } ∧ Fm B ((X, h₁) :: Hs) X h' env (Gi (i + 1))) (fun _ _ => False) { s with heap := h₁, toks := tk₁ })
    (done : ∀ h' tk, Fm B Hs X h' env (Gi ds.length) → Q .next { s with heap := h', toks := tk })
    (hs : ∀ x, foldedSetIterable iter env x = pure x := by intro _; rfl) :
    wpAny (model prog w) A (exec (.For (.Name x px) iter body [] pos) env) Q E s := by
  refine wpAny_For (hsrc A X _ E s R F.live F.has fun I fp wr N P Sti h₁ t₁ WD => ?_) hs
  obtain ⟨W, hlen, hst, hg, hlive, hnew, hoff, hnoseq, hitem, hitr⟩ := WD
  have F₁ := F.grow hg
  have wrB : ∀ b ∈ wr, B.get? b = none := fun b hb => by
    cases e : B.get? b with
    | none => rfl
    | some o => have := F.has.keep b o e; rw [hnew b hb] at this; cases this
  refine forLoop_own (fun k s' => ∃ h' tk i, s' = { s with heap := h', toks := tk } ∧ Sti i h' ∧ i ≤ N ∧ k = N + 1 - i ∧ Fm B Hs X h' env (Gi i) ∧ (∀ b o, ¬ X b → b ∉ wr → h₁.get? b = some o → h'.get? b = some o)) ?_ (N + 1)
    ⟨h₁, t₁, 0, rfl, hst, Nat.zero_le _, rfl, h0 ▸ F₁, fun _ _ _ _ e => e⟩
  rintro k s' ⟨h', tk, i, rfl, hsti, hi, rfl, F', hk'⟩
  have moveNext : ∀ {h₂ : Heap}, (∀ b o, b ∉ wr → h'.get? b = some o → h₂.get? b = some o) → Fm B Hs X h₂ env (Gi i) := fun k₂ => F'.move (fun b => b ∈ wr) k₂ (fun b hb => hoff b (W.sub b hb))
    (fun b o hb e hso => by obtain ⟨o', e', hn⟩ := hnoseq i h' hsti b hb; rw [e] at e'; cases e'; exact hn hso) wrB (fun b hb => F.own_new (hnew b hb))
  by_cases hlt : i < N
  · refine W.item i _ _ _ hlt hsti fun v h₂ tk₂ hv hst₂ hk₂ => ?_
    obtain ⟨d, hd, qd⟩ := hitem i v hv
    have F₂ := moveNext hk₂
    obtain ⟨oI, tI, vI, hI1, hI2, hI3, hI4⟩ := hitr _ _ hst₂
    refine letOwned hI1 hI2 hI3 hI4 ?_
    have qd₂ : IsD X h₂ v d := qd.skeep fun a o hn e hso => by
      have hw : a ∉ wr := fun hb => by obtain ⟨o', e', hn'⟩ := hnoseq 0 h₁ hst a hb; rw [e] at e'; cases e'; exact hn' hso
      exact hk₂ a o hw (hk' a o hn hw e)
    refine wpAny_assign_Name (F₂.store (s := { s with heap := h₂, toks := tk₂ }) (t := .d d) hk (hx i) qd₂ fun h₃ tk₃ F₃ ho₃ => ?_)
    have k₃ : ∀ b o, ¬ X b → h₂.get? b = some o → h₃.get? b = some o := fun b o hb e => ho₃ _ (.head _) b o hb e
    refine wpAny_mono (turn i d h₃ tk₃ hd F₃.snap) (fun f s₄ hf => ?_) fun _ _ e => e.elim
    obtain ⟨hf, h₄, tk₄, rfl, F₄⟩ := hf
    have k₄ : ∀ b o, ¬ X b → h₃.get? b = some o → h₄.get? b = some o := fun b o hb e => F₄.olds _ (.head _) b o hb e
    have fin : ∃ m, m < N + 1 - i ∧ ∃ h' tk i, ({ s with heap := h₄, toks := tk₄ } : Shared) = { s with heap := h', toks := tk } ∧ Sti i h' ∧ i ≤ N ∧ m = N + 1 - i ∧ Fm B Hs X h' env (Gi i) ∧ (∀ b o, ¬ X b → b ∉ wr → h₁.get? b = some o → h'.get? b = some o) :=
      ⟨N + 1 - (i + 1), by omega, h₄, tk₄, i + 1, rfl, W.frame _ _ _ hst₂ (fun b hb o e => k₄ b o (hoff b hb) (k₃ b o (hoff b hb) e)), hlt, rfl, F₄.unsnap, fun b o hb hw e => k₄ b o hb (k₃ b o hb (hk₂ b o hw (hk' b o hb hw e)))⟩
    rcases hf with rfl | rfl <;> exact fin
  · have hiN : i = N := by omega
    subst hiN
    refine W.done _ _ _ hsti fun h₂ tk₂ hk₂ => ?_
    refine wpAny_execs_nil ?_
    have := done h₂ tk₂ (by rw [hlen]; exact moveNext hk₂)
    exact this

end
end
-- MA6
section
section
variable {prog : Program} {w : World} {B : Heap} {n : Nat} {env : Env} {G : Ctxt} {Hs : Snaps} {A : Around} {X : Addr → Prop} {E : Value → Shared → Prop} {s : Shared}

/-- += on a list -/
theorem noFillI_list : fillsInplaceSlot (.type "list") "add" (Operator.Add == .Add) = pure false := by
  unfold fillsInplaceSlot
  show (typeLookup (.type "list") (dunderI "add") >>= fun fi => pure (fi.isSome && !isSeqSlot fi)) = pure false
  rw [PySem.F.slot_list_iadd.lookup]; rfl
theorem seqI_list : seqSlot? (.type "list") (dunderI "add") = pure (some (.builtin "list.__iadd__")) := PySem.seqSlot_of PySem.F.slot_list_iadd.lookup (by decide +kernel)
theorem iadd_list {a b : Value} {Q : Value → Shared → Prop} (ha : s.TypeIs a "list") (hb : s.TypeIs b "list")
    (hc : wpAny (model prog w) A (call (.builtin "list.__iadd__") [a, b]) Q E s) : wpAny (model prog w) A (inplaceOp .Add a b) Q E s := by
  unfold inplaceOp
  refine wpAny_holding ?_
  refine wpAny_bind (wpAny_typeOf ha (wpAny_bind (wpAny_of_eq noFillI_list ?_)))
  show wpAny _ A (if false = true then _ else _) Q E s
  rw [if_neg Bool.false_ne_true]
  refine wpAny_bind (wpAny_binaryOp1_none (nm := "add") ha hb noFill_list_add ?_)
  refine wpAny_bind (wpAny_of_eq seqI_list ?_)
  exact wpAny_bind (wpAny_rule hc)

theorem Fm.changeM {x : Str} {a : Addr} {ds ds' : List D} {h h' : Heap} {vs' : List Value} {k' : Nat} (F : Fm B Hs X h env ((x, .m a ds) :: G)) (ho : Own Hs a) (hB : B.get? a = none) (hone : ∀ p ∈ G, ∀ b es, p.2 ≠ .m b es)
    (hs : Heap.SameBut a h h') (hoa' : h'.get? a = some (listO vs' k')) (r' : AllD X h' vs' ds') : Fm B Hs X h' env ((x, .m a ds') :: G) := by
  obtain ⟨v, ⟨rfl, hXa, vs, k, hoa, r⟩, hv⟩ := F.has.var _ (.head _)
  have hXk : SKeep X h h' := fun b o hn e _ => hs.extBut b o (fun z => hn (z ▸ hXa)) e
  have hL : env.locals ≠ a := fun z => by
    obtain ⟨m, hn⟩ := F.ns
    exact ns_not_seq hn (z ▸ hoa) ⟨_, _, rfl⟩
  have hC : ∀ {c u}, h.IsCell c u → c ≠ a := fun hc z => cell_not_seq hc (z ▸ hoa) ⟨_, _, rfl⟩
  have vk : ∀ {y u}, VarIs h env y u → VarIs h' env y u := fun hy => by
    rcases hy with ⟨p, m, hn, e⟩ | ⟨p, c, hc, e⟩
    · exact .inl ⟨p, m, hn.sameBut hs hL, e⟩
    · exact .inr ⟨p, c, hc, e.sameBut hs (hC e)⟩
  refine ⟨⟨fun b o e => hs.extBut b o (fun z => by rw [z, hB] at e; cases e) (F.has.keep b o e), F.has.fn, F.has.gl, F.has.bi, fun p hp => ?_⟩, ?_, F.locX, let ⟨m, hn⟩ := F.ns; ⟨m, hn.sameBut hs hL⟩, ?_, F.ownL, F.newL, ?_, F.apart⟩
  · rcases List.mem_cons.mp hp with rfl | hp
    · exact ⟨_, ⟨rfl, hXa, vs', k', hoa', r'⟩, vk hv⟩
    · obtain ⟨z, hz, hzv⟩ := F.has.var p (.tail _ hp)
      refine ⟨z, ?_, vk hzv⟩
      have := hone p hp
      obtain ⟨pn, pt⟩ := p
      cases pt with
      | d d => exact IsD.skeep hz hXk
      | v u => exact hz
      | m b es => exact absurd rfl (this b es)
  · intro b hb
    by_cases hz : b = a
    · exact ⟨_, hz ▸ hoa'⟩
    · obtain ⟨o, e⟩ := F.live b hb; exact ⟨o, hs.extBut b o hz e⟩
  · intro p hp b o hb e
    refine hs.extBut b o (fun z => ?_) (F.olds p hp b o hb e)
    rcases ho p hp with y | y
    · exact hb (z ▸ y)
    · rw [z, y] at e; cases e
  · intro y c hc
    obtain ⟨⟨u, hu⟩, r⟩ := F.cells y c hc
    exact ⟨⟨u, hu.sameBut hs (hC hu)⟩, r⟩

noncomputable def noM (G : Ctxt) : Bool := G.all fun p => match p.2 with | .m _ _ => false | _ => true
theorem noM_spec {G : Ctxt} (h : noM G = true) : ∀ p ∈ G, ∀ b es, p.2 ≠ .m b es := fun p hp b es e => by
  have := List.all_eq_true.mp h p hp
  rw [e] at this
  cases this
/-- what a statement leaves to say -/
noncomputable def Leaves (B : Heap) (Hs : Snaps) (X : Addr → Prop) (s : Shared) (env : Env) (G : Ctxt) (Q : Shared → Prop) : Prop := ∀ h' tk, Fm B Hs X h' env G → Q { s with heap := h', toks := tk }

theorem St.appendM {x m : Str} {px apos pos spos : Pos} {e : Expr} {a : Addr} {ds : List D} {d : D} {Q : Flow → Shared → Prop} (he : Ev prog w B n env ((x, .m a ds) :: G) e d) (R : Room n A) (F : Fm B Hs X s.heap env ((x, .m a ds) :: G)) (ho : Own Hs a) (hB : B.get? a = none)
    (hm : m = Str.ofString "append") (hone : noM G = true) (hz : ds.length ≤ sizeLine)
    (h : ∀ h' tk, Fm B Hs X h' env ((x, .m a (ds ++ [d])) :: G) → Q .next { s with heap := h', toks := tk })
    (hbase : attributeBase (.Name x px) m env (eval (.Name x px) env) = eval (.Name x px) env := by rfl) (hst : starEach [e] env = [(false, eval e env)] := by rfl) (hline : (apos.endLine == pos.line) = true := by rfl)
    (hd : (x == ("__debug__" : Str)) = false := by decide) (hc : (x == ("__classdict__" : Str)) = false := by decide)
    (hi : interactive env = false := by rfl) (hs : swapsWith (.Call (.Attribute (.Name x px) m apos) [e] [] pos) none spos.line env = pure false := by rfl) :
    wpAny (model prog w) A (exec (.Expr (.Call (.Attribute (.Name x px) m apos) [e] [] pos) spos) env) Q E s := by
  subst hm
  refine wpAny_Expr (Call_method1 hbase hst hline ?_) hi hs
  obtain ⟨v, hv, hx⟩ := F.has.var _ (.head _)
  have fin : MethodOnS prog w A E (Str.ofString "append") v pos [(false, eval e env)] (fun v s' => match v with | .ref _ => False | _ => Q .next s') s := by
    obtain ⟨rfl, hXa, vs, k, hoa, r⟩ := hv
    refine ⟨"list", "list.append", PySem.F.plainAttrs_list, PySem.F.slot_list_append, PySem.F.type_list_append, ⟨_, hoa, rfl⟩, fun a' e' => (by cases e'; exact ⟨_, hoa, rfl⟩), ?_⟩
    refine Calls.callWith_builtin (by rfl) ?_
    refine evalArgs_list (es := [e]) (spliced_cons (he A X _ E s R F.live F.has fun u h₁ t₁ g₁ q₁ => spliced_nil ?_))
    have F₁ := F.grow g₁
    have hoa₁ := g₁ _ _ hoa
    have hpl : h₁.PlainList a vs.toArray := ⟨k, hoa₁⟩
    have hlen := r.length
    refine wpAny_list_append_plain (hsz := by simp only [List.size_toArray]; omega) hpl fun h' ⟨k', hoa'⟩ hs => ?_
    have hXk : SKeep X h₁ h' := fun b o hn e _ => hs.extBut b o (fun z => hn (z ▸ hXa)) e
    exact h h' t₁ (F₁.changeM ho hB (noM_spec hone) hs (vs' := vs ++ [u]) (k' := k') (by simpa using hoa') (((r.grow g₁).skeep hXk).append (.cons (q₁.skeep hXk) .nil)))
  rcases hx with ⟨a, m, hn, hm⟩ | ⟨a | a, c, hcl, hcv⟩
  · exact wpAny_Name (wpAny_loadName_local F.has.fn a hn hm fin) hd
  · exact wpAny_Name (wpAny_loadName_cell F.has.fn a hcl hcv fin) hd
  · exact wpAny_Name (wpAny_loadName_free F.has.fn a hcl hcv fin hc) hd

theorem St.extendM {x : Str} {px pos : Pos} {e : Expr} {a : Addr} {ds es : List D} {Q : Flow → Shared → Prop} (he : Ev prog w B n env ((x, .m a ds) :: G) e (.lst es)) (R : Room n A) (F : Fm B Hs X s.heap env ((x, .m a ds) :: G)) (ho : Own Hs a) (hB : B.get? a = none)
    (hk : env.kindOf x = some .local) (hone : noM G = true) (hx : (names G).contains x = false) (hz : ds.length + es.length ≤ sizeLine)
    (h : ∀ h' tk, Fm B Hs X h' env ((x, .m a (ds ++ es)) :: G) → Q .next { s with heap := h', toks := tk }) :
    wpAny (model prog w) A (exec (.AugAssign (.Name x px) .Add e pos) env) Q E s := by
  refine wpAny_AugAssign_Name ?_
  obtain ⟨v, hv, hvx⟩ := F.has.var _ (.head _)
  rcases hvx with ⟨_, m, hn, hm⟩ | ⟨q | q, _⟩
  · refine wpAny_loadName_local F.has.fn hk hn hm ?_
    obtain ⟨rfl, hXa, vs, k, hoa, r⟩ := hv
    refine he A X _ E s R F.live F.has fun u h₁ t₁ g₁ q₁ => ?_
    cases q₁ with
    | @lst b ws k2 _ nx2 ho2 rb =>
    have F₁ := F.grow g₁
    have hoa₁ := g₁ _ _ hoa
    have hlen := r.length
    have hlen2 := rb.length
    refine iadd_list ⟨_, hoa₁, rfl⟩ ⟨_, ho2, rfl⟩ ?_
    have hsz : vs.toArray.size + ws.toArray.size ≤ sizeLine := by simp only [List.size_toArray]; omega
    refine call_meets PySem.F.slot_list_iadd ⟨_, hoa₁, rfl⟩ PySem.F.entry_list_iadd (PySem.F.args_list_iadd_2 _ _)
      (PySem.AutoSeq1.list___iadd___list_list_0 a vs.toArray k b ws.toArray k2 ?_ (by omega) (by omega)) ⟨hoa₁, ho2, ?_⟩
    · have : Builtin.List.listTooLong (vs.toArray.size + ws.toArray.size) = false := by
        unfold Builtin.List.listTooLong
        have := sizeLine_lt
        simp only [decide_eq_false_iff_not]
        omega
      rw [this, Bool.and_false]; decide
    have hs := Heap.SameBut.update h₁ a (Obj.mapSeq fun x => x ++ ws.toArray)
    have hXk : SKeep X h₁ (h₁.update a (Obj.mapSeq fun x => x ++ ws.toArray)) := fun b o hn e _ => hs.extBut b o (fun z => hn (z ▸ hXa)) e
    have hoa' : ∃ k', (h₁.update a (Obj.mapSeq fun x => x ++ ws.toArray)).get? a = some (listO (vs ++ ws) k') := by
      refine ⟨if (vs.toArray ++ ws.toArray).size == vs.toArray.size then k else k + 1, (Heap.get?_update_self _ hoa₁ (by rfl)).trans ?_⟩
      simp only [Obj.mapSeq, List.append_toArray]
    obtain ⟨k', hoa'⟩ := hoa'
    have F₂ := F₁.changeM ho hB (noM_spec hone) hs hoa' (((r.grow g₁).skeep hXk).append (rb.skeep hXk))
    have F₃ := F₂.sub (G' := G) fun p hp => .tail _ hp
    exact F₃.storeL (s := { s with heap := h₁.update a (Obj.mapSeq fun x => x ++ ws.toArray), toks := t₁ }) (t := .m a (ds ++ es)) hk hx ⟨rfl, hXa, _, _, hoa', ((r.grow g₁).skeep hXk).append (rb.skeep hXk)⟩ fun h₂ t₂ F₄ _ => h h₂ t₂ F₄
  · rw [hk] at q; cases q
  · rw [hk] at q; cases q

theorem St.iaddInt {x : Str} {px pos : Pos} {e : Expr} {a b : Int} {Q : Flow → Shared → Prop} (he : Ev prog w B n env ((x, .d (.int a)) :: G) e (.int b)) (R : Room n A) (F : Fm B Hs X s.heap env ((x, .d (.int a)) :: G))
    (hk : env.kindOf x = some .local) (hx : (names G).contains x = false)
    (h : ∀ h' tk, Fm B Hs X h' env ((x, .d (.int (a + b))) :: G) → Q .next { s with heap := h', toks := tk }) :
    wpAny (model prog w) A (exec (.AugAssign (.Name x px) .Add e pos) env) Q E s := by
  refine wpAny_AugAssign_Name ?_
  obtain ⟨v, hv, hvx⟩ := F.has.var _ (.head _)
  rcases hvx with ⟨_, m, hn, hm⟩ | ⟨q | q, _⟩
  · refine wpAny_loadName_local F.has.fn hk hn hm ?_
    refine he A X _ E s R F.live F.has fun u h₁ t₁ g₁ q₁ => ?_
    cases hv
    cases q₁
    refine wpAny_iadd_int ?_
    have F₃ := (F.grow g₁).sub (G' := G) fun p hp => .tail _ hp
    exact F₃.storeL (s := { s with heap := h₁, toks := t₁ + 1 }) (t := .d (.int (a + b))) hk hx (.int _ _) fun h₂ t₂ F₄ _ => h h₂ t₂ F₄
  · rw [hk] at q; cases q
  · rw [hk] at q; cases q
end
end
-- MA7
section
section
variable {prog : Program} {w : World} {B : Heap} {n : Nat} {env : Env} {G : Ctxt} {Hs : Snaps} {A : Around} {X : Addr → Prop} {E : Value → Shared → Prop} {s : Shared}

theorem St.assignComp {elt target iter : Expr} {ifs : List Expr} {scope : Scope} {pos spos py : Pos} {y : Str} {cl : List (Str × Addr)} {ds : List D} {p : D → Bool} {f : D → D} {bs : D → List (Str × D)} {Gc : Ctxt} {Q : Flow → Shared → Prop}
    (hsrc : Src prog w B n env G iter ds) (hz : ds.length ≤ sizeLine)
    (hclos : closureFor scope env = pure cl) (hcell : ∀ y ∈ scope.names, y.2 ≠ .cell) (hkind : scope.kind = .function)
    (hnames : ∀ y ∈ scope.names, y.2 = .local → scope.names.lookup y.1 = some .local)
    (hcaught : ∀ C d, d ∈ ds → Caught env (compEnvC scope cl C env) ((bs d).map (·.1)) G Gc)
    (htgt : ∀ C d, d ∈ ds → Tgt prog w n (compEnvC scope cl C env) target d (bs d)) (hloc : ∀ C d, d ∈ ds → ∀ q ∈ bs d, (compEnvC scope cl C env).kindOf q.1 = some .local)
    (hifs : ∀ C d, d ∈ ds → EvIfs prog w B n (compEnvC scope cl C env) ((bs d).map (fun q => (q.1, Slot.d q.2)) ++ Gc) ifs (p d))
    (helt : ∀ C d, d ∈ ds → p d = true → Ev prog w B n (compEnvC scope cl C env) ((bs d).map (fun q => (q.1, Slot.d q.2)) ++ Gc) elt (f d))
    (R : Room n A) (F : Fm B Hs X s.heap env G) (hk : env.kindOf y = some .local) (hx : (names G).contains y = false)
    (hsw : swapsWith (.ListComp elt [⟨target, iter, ifs, 0⟩] scope pos) (some (.Name y py)) spos.line env = pure true)
    (h : ∀ h' tk, Fm B Hs X h' env ((y, .d (.lst ((ds.filter p).map f))) :: G) → Q .next { s with heap := h', toks := tk })
    (hs : ∀ x, foldedSetIterable iter env x = pure x := by intro _; rfl) :
    wpAny (model prog w) A (exec (.Assign [.Name y py] (.ListComp elt [⟨target, iter, ifs, 0⟩] scope pos) spos) env) Q E s := by
  rw [exec_Assign_Name_used _ _ _ _ hsw]
  refine wpAny_bind (wpAny_standAt (wpAny_bind ?_))
  show wpAny _ A (do let _ ← comprehension (.ListComp elt [⟨target, iter, ifs, 0⟩] scope pos) scope env _ (newList []) false (eval iter env) (some (assign (.Name y py) env))) _ _ s
  refine wpAny_bind (wpAny_mono (wpAny_comprehension_free (Q := fun _ s' => Q .next s') (use := some (assign (.Name y py) env)) rfl hs hclos hkind hnames
    (comp_core (RR := fun acc C => compPost (model prog w) A E (some (assign (.Name y py) env)) (fun _ s' => Q .next s') acc C) hsrc hz hcell hkind hcaught htgt hloc hifs helt R F.live F.has ?_))
    (fun _ s' hq => wpAny_pure (wpAny_pure hq)) fun _ _ e => e)
  intro D C h₄ tk₄ m hHD hHC hDC ns₄ gr₄ q₄
  show wpAny _ A (assign (.Name y py) env (.ref D)) _ _ _
  refine wpAny_assign_Name ((F.grow gr₄).storeL (s := { s with heap := h₄, toks := tk₄ }) (t := .d (.lst ((ds.filter p).map f))) hk hx q₄ fun h₅ tk₅ F₅ hs₅ => ?_)
  have hCL : C ≠ env.locals := fun z => by
    obtain ⟨m', o, _, _, e, _⟩ := F.ns
    rw [← z, hHC] at e; cases e
  have ns₅ := ns₄.sameBut hs₅ hCL
  refine ⟨m, ns₅, fun h₆ hs₆ => h h₆ tk₅ ?_⟩
  refine F₅.move (fun b => b = C) (fun b o hb e => hs₆.extBut b o hb e) (fun b hb hXb => ?_) (fun b o hb e => ?_) (fun b hb => ?_) (fun b hb => ?_)
  · obtain ⟨o, e⟩ := F.live b hXb
    rw [hb, hHC] at e; cases e
  · exact ns_not_seq ns₅ (hb ▸ e)
  · cases e : B.get? b with
    | none => rfl
    | some o => have := F.has.keep b o e; rw [hb, hHC] at this; cases this
  · exact hb ▸ F.own_new hHC

/-- a tuple's items bound to names -/
noncomputable def bound : List (Str × Pos) → List D → Ctxt → Ctxt
  | (x, _) :: ts, d :: ds, G => bound ts ds ((x, .d d) :: G)
  | _, _, G => G
theorem assignNames : ∀ (ts : List (Str × Pos)) (vs : List Value) (ds : List D) (G : Ctxt) (s : Shared) (Q : Unit → Shared → Prop), AllD X s.heap vs ds → ts.length = ds.length → (∀ t ∈ ts, Bind1 B env t.1) → (∀ t ∈ ts, (names G).contains t.1 = false) →
    (ts.map (·.1)).Nodup → Fm B Hs X s.heap env G → (∀ h' tk, Fm B Hs X h' env (bound ts ds G) → Q () { s with heap := h', toks := tk }) →
    wpAny (model prog w) A (assignInOrder (ts.map fun t => assign (.Name t.1 t.2) env) vs) Q E s
  | [], _, ds, G, s, Q, _, hl, _, _, _, F, h => by
    cases ds with
    | nil => exact wpAny_pure (h s.heap s.toks F)
    | cons _ _ => cases hl
  | (x, px) :: ts, vs, ds, G, s, Q, hv, hl, hb, hn, hd, F, h => by
    cases ds with
    | nil => cases hl
    | cons d ds =>
    cases hv with
    | cons q r =>
    rename_i v vs
    show wpAny _ A (do holding vs (assign (.Name x px) env v); assignInOrder (ts.map fun t => assign (.Name t.1 t.2) env) vs) Q E s
    refine wpAny_bind (wpAny_holding (wpAny_assign_Name (F.store (t := .d d) (hb _ (.head _)) (hn _ (.head _)) q fun h' tk F' ho => ?_)))
    have hk : SKeep X s.heap h' := fun b o hb e _ => ho _ (.head _) b o hb e
    rw [List.map_cons, List.nodup_cons] at hd
    refine assignNames ts vs ds _ _ Q (r.skeep hk) (by simpa using hl) (fun t ht => hb t (.tail _ ht)) (fun t ht => ?_) hd.2 F' h
    have h1 := hn t (.tail _ ht)
    simp only [names, List.map_cons, List.contains_cons, Bool.or_eq_false_iff]
    refine ⟨?_, h1⟩
    have : t.1 ≠ x := fun e => hd.1 (List.mem_map.mpr ⟨t, ht, e⟩)
    simpa using this
theorem St.assignTup {es : List Expr} {ts : List (Str × Pos)} {k : Nat} {tpos pos : Pos} {e : Expr} {ds : List D} {Q : Flow → Shared → Prop} (he : Ev prog w B n env G e (.tup ds)) (R : Room n A) (F : Fm B Hs X s.heap env G)
    (hts : assignEach es env = ts.map fun t => (false, assign (.Name t.1 t.2) env)) (hl : ts.length = ds.length) (hb : ∀ t ∈ ts, Bind1 B env t.1) (hn : ∀ t ∈ ts, (names G).contains t.1 = false) (hd : (ts.map (·.1)).Nodup)
    (hs : swapsWithSole [.Tuple es k tpos] e pos.line env = pure false) (hw : swappedStores [.Tuple es k tpos] e env = pure none)
    (h : ∀ h' tk, Fm B Hs X h' env (bound ts ds G) → Q .next { s with heap := h', toks := tk }) : wpAny (model prog w) A (exec (.Assign [.Tuple es k tpos] e pos) env) Q E s := by
  refine Assign_Tuple (he A X _ E s R F.live F.has fun u h₁ t₁ g₁ q₁ => ?_) hs hw
  cases q₁ with
  | @tup t vs j _ nx ho r =>
  refine wpAny_assign_Tuple R.1 ⟨_, ho, rfl, j, rfl⟩ ?_ ?_ fun h₂ he₂ => ?_
  · rw [hts, List.length_map, hl]; simp [r.length]
  · rw [hts]; simp [List.findIdx?_map]
  · have g₂ : Grow h₁ h₂ := fun c oc e => he₂ c oc (Nat.ne_of_lt (Heap.lt_size e)) e
    have e2 : (assignEach es env).map (·.2) = ts.map fun t => assign (.Name t.1 t.2) env := by rw [hts]; simp
    rw [e2]
    exact assignNames ts vs ds G _ _ (r.grow g₂) hl hb hn hd (F.grow (g₁.trans g₂)) h

/-- a function of the top -/
structure FnIs (B : Heap) (f : Addr) (fd : FuncData) (body : List Stmt) : Prop where
  ex : ∃ o, B.get? f = some o ∧ o.data = .func fd
  code : B.CodeRec fd.code fd.qualname
  body_ : fd.body = .stmts body
  gl : fd.globals = mainGlobals
  bi : fd.builtins = builtinsNs
  kind : fd.scope.kind = .function
  co : fd.scope.isCoroutine = false
  gen : fd.scope.isGenerator = false
  nocell : ∀ x ∈ fd.scope.names, x.2 ≠ .cell
  clos : ∀ x c, fd.closure.lookup x = some c → ∃ v, B.IsCell c v
  apart : ∀ x y c, fd.closure.lookup x = some c → fd.closure.lookup y = some c → x = y

theorem callEnv_eq (fd : FuncData) (L a : Addr) : callEnv fd L a = { scope := fd.scope, locals := L, globals := fd.globals, cells := fd.closure, qual := fd.qualname ++ ".<locals>.", func := some a, code := fd.code, frame := some L, builtins := fd.builtins } := rfl

theorem lookup_binds : ∀ (xs : List Str) (vs : List Value), xs.Nodup → xs.length = vs.length → ∀ x v, (x, v) ∈ xs.zip vs → (xs.zip vs).reverse.lookup x = some v := by
  intro xs vs hd hl x v hm
  have key : ∀ (l : List (Str × Value)), (l.map (·.1)).Nodup → (x, v) ∈ l → l.lookup x = some v := by
    intro l
    induction l with
    | nil => intro _ h; cases h
    | cons p l ih =>
      intro hnd hm
      rw [List.map_cons, List.nodup_cons] at hnd
      obtain ⟨y, u⟩ := p
      rcases List.mem_cons.mp hm with e | hm
      · cases e; simp
      · have : x ≠ y := fun e => hnd.1 (List.mem_map.mpr ⟨_, hm, e⟩)
        rw [List.lookup_cons]
        have : (x == y) = false := by simpa using this
        rw [this]
        exact ih hnd.2 hm
  refine key _ ?_ (List.mem_reverse.mpr hm)
  rw [List.map_reverse]
  refine (List.reverse_perm _).nodup_iff.mpr ?_
  rw [List.map_fst_zip (by omega)]
  exact hd

/-- the frame of a call: it starts with the call's data -/
theorem Fm.start {f : Addr} {fd : FuncData} {body : List Stmt} {h₀ : Heap} {xs : List Str} {vs : List Value} {G₀ : Ctxt} (hf : FnIs B f fd body) (gB : Grow B s.heap) (L : Live X s.heap) (hnd : xs.Nodup) (hlen : xs.length = vs.length)
    (hloc : ∀ x ∈ xs, fd.scope.names.lookup x = some .local)
    (hns : h₀.Ns s.heap.objs.size (fun x => (xs.zip vs).reverse.lookup x)) (hk : Grow s.heap h₀) (hG : ∀ p ∈ G₀, ∃ v, (p.1, v) ∈ xs.zip vs ∧ IsS X s.heap v p.2) :
    Fm B [(fun _ => False, s.heap)] (fun b => X b ∨ b = s.heap.objs.size) h₀ (callEnv fd s.heap.objs.size f) G₀ := by
  have hfresh := get_size_none s.heap (Nat.le_refl _)
  have hBn : B.get? s.heap.objs.size = none := by
    cases e : B.get? s.heap.objs.size with
    | none => rfl
    | some o => have := gB _ _ e; rw [hfresh] at this; cases this
  have hXk : ∀ {v d}, IsD X s.heap v d → IsD (fun b => X b ∨ b = s.heap.objs.size) h₀ v d := fun q => q.keep (fun b o e hx => by
    rcases hx with hx | hx
    · exact hx
    · rw [hx, hfresh] at e; cases e) hk.skeep
  have hXk' : ∀ {v d}, AllD X s.heap v d → AllD (fun b => X b ∨ b = s.heap.objs.size) h₀ v d := fun q => q.keep (fun b o e hx => by
    rcases hx with hx | hx
    · exact hx
    · rw [hx, hfresh] at e; cases e) hk.skeep
  refine ⟨⟨gB.trans hk, hf.kind, hf.gl, hf.bi, fun p hp => ?_⟩, fun a ha => ?_, .inr rfl, ⟨_, hns⟩, fun q hq b o hb e => ?_, fun q hq => ?_, hBn, fun x c hc => ?_, hf.apart⟩
  · obtain ⟨v, hv, hs⟩ := hG p hp
    have hxm : p.1 ∈ xs := (List.of_mem_zip hv).1
    refine ⟨v, ?_, .inl ⟨?_, _, hns, lookup_binds xs vs hnd hlen _ _ hv⟩⟩
    · obtain ⟨pn, pt⟩ := p
      cases pt with
      | d d => exact hXk hs
      | v u => exact hs
      | m a ds => obtain ⟨e, hx, ws, k, ho, r⟩ := hs; exact ⟨e, .inl hx, ws, k, hk _ _ ho, hXk' r⟩
    · exact hloc _ hxm
  · rcases ha with ha | rfl
    · obtain ⟨o, e⟩ := L a ha; exact ⟨o, hk _ _ e⟩
    · obtain ⟨o, _, _, e, _⟩ := hns; exact ⟨o, e⟩
  · rw [List.mem_singleton.mp hq] at e
    exact hk _ _ e
  · rw [List.mem_singleton.mp hq]
    exact .inr hfresh
  · obtain ⟨v, hv⟩ := hf.clos x c hc
    have hv' := hv.keeps (gB.trans hk)
    refine ⟨⟨v, hv'⟩, .inr ?_⟩
    obtain ⟨o, e, _⟩ := hv
    exact ⟨o, e⟩

noncomputable def BodyD (prog : Program) (w : World) (B : Heap) (n : Nat) (f : Addr) (fd : FuncData) (body : List Stmt) (xs : List Str) (as : List D) (d : D) : Prop :=
  ∀ (A : Around) (X : Addr → Prop) (H₀ : Heap) (L' : Addr) (s : Shared), Room n A → Live X H₀ → Fm B [(fun _ => False, H₀)] (fun b => X b ∨ b = L') s.heap (callEnv fd L' f) (xs.zip (as.map .d)) →
    wpAny (model prog w) A (execs body (callEnv fd L' f)) (fun fl s' => ∃ v h' tk, fl = .ret v ∧ s' = { s with heap := h', toks := tk } ∧ Olds [(fun _ => False, H₀)] h' ∧ IsD X h' v d) (fun _ _ => False) s

theorem AllD.zip_mem {h : Heap} : ∀ {xs : List Str} {vs : List Value} {as : List D}, AllD X h vs as → xs.length = vs.length → ∀ p ∈ xs.zip (as.map Slot.d), ∃ v, (p.1, v) ∈ xs.zip vs ∧ IsS X h v p.2
  | [], _, _, _, _, p, hp => by simp at hp
  | x :: xs, [], _, _, hl, _, _ => by cases hl
  | x :: xs, v :: vs, _, .cons q r, hl, p, hp => by
    rcases List.mem_cons.mp hp with rfl | hp
    · exact ⟨v, .head _, q⟩
    · obtain ⟨u, hu, hs⟩ := AllD.zip_mem (xs := xs) r (by simpa using hl) p hp
      exact ⟨u, .tail _ hu, hs⟩

theorem CallD.fn {f : Addr} {fd : FuncData} {body : List Stmt} {xs : List Str} {as : List D} {d : D} (hlim : B.NoLimit) (hf : FnIs B f fd body) (hnd : xs.Nodup) (hl : xs.length = as.length) (hloc : ∀ x ∈ xs, fd.scope.names.lookup x = some .local)
    (hbind : ∀ vs : List Value, vs.length = xs.length → bindArgs fd ⟨vs, []⟩ = pure (xs.zip vs)) (hb : BodyD prog w B n f fd body xs as d) : CallD prog w B (n + 1) (.ref f) as d := by
  intro A X Q E s vs R L g q h
  obtain ⟨o, ho, hd⟩ := hf.ex
  have hlv : xs.length = vs.length := by rw [hl, q.length]
  have hdep : A.depth < recursionLimit := by
    have := R.2.1
    show _ < 1000
    omega
  refine wpAny_call (codeAny_call_def (binds := xs.zip vs) (body := body) hdep (g _ _ ho) hd (hlim.keeps g) (hf.code.keeps g) hf.body_ (.of_eq (hbind vs hlv.symm)) hf.nocell (fun x hx => hloc x.1 (List.of_mem_zip hx).1) (fun h₀ hns hk => ?_) hf.co hf.gen hf.kind)
  have F := Fm.start (X := X) (G₀ := xs.zip (as.map .d)) hf g L hnd hlv hloc hns hk (AllD.zip_mem q hlv)
  refine wpAny_mono (hb (A.deeper (callEnv fd s.heap.objs.size f)) X s.heap _ _ ?_ L F) (fun fl s' hq => ?_) fun _ _ e => e.elim
  · exact ⟨R.1, by have := R.2.1; show A.depth + 1 + n ≤ _; omega, by have := R.2.2; show A.units + 3 + _ ≤ _; omega⟩
  · obtain ⟨v, h', tk, rfl, rfl, ho', hq⟩ := hq
    exact h v h' tk (fun b o e => ho' _ (.head _) b o (fun z => z) e) hq

theorem Ev.room {m : Nat} {e : Expr} {d : D} (hm : m ≤ n) (h : Ev prog w B m env G e d) : Ev prog w B n env G e d := fun A X Q E s R L H hq => h A X Q E s ⟨R.1, by have := R.2.1; omega, by have := R.2.2; omega⟩ L H hq
theorem CallD.room {m : Nat} {f : Value} {as : List D} {d : D} (hm : m ≤ n) (h : CallD prog w B m f as d) : CallD prog w B n f as d := fun A X Q E s vs R L H q hq => h A X Q E s vs ⟨R.1, by have := R.2.1; omega, by have := R.2.2; omega⟩ L H q hq

/-- the body's end: what is given back -/
theorem St.retD {X₀ : Addr → Prop} {H₀ : Heap} {e : Expr} {pos : Pos} {d : D} {rest : List Stmt} {Q : Flow → Shared → Prop} (he : Ev prog w B n env G e d) (R : Room n A) (F : Fm B Hs X s.heap env G) (hX : ∀ b, X₀ b → X b) (hH : (fun _ => False, H₀) ∈ Hs)
    (h : ∀ v h' tk, Olds [(fun _ => False, H₀)] h' → IsD X₀ h' v d → Q (.ret v) { s with heap := h', toks := tk }) :
    wpAny (model prog w) A (execs (.Return (some e) pos :: rest) env) Q E s := by
  refine St.cons (St.ret he R F fun v h' tk F' q => h v h' tk (fun p hp => ?_) (q.less hX))
  rw [List.mem_singleton.mp hp]
  exact F'.olds _ hH
/-- a list that grew, under its name -/
theorem Ev.nameM {x : Str} {px : Pos} {a : Addr} {ds : List D} {Q : Value → Shared → Prop} (H : Has B X s.heap env G) (hm : (x, Slot.m a ds) ∈ G)
    (h : ∀ vs k, X a → s.heap.get? a = some (listO vs k) → AllD X s.heap vs ds → Q (.ref a) s) (hd : (x == ("__debug__" : Str)) = false := by decide) (hc : (x == ("__classdict__" : Str)) = false := by decide) :
    wpAny (model prog w) A (eval (.Name x px) env) Q E s := by
  obtain ⟨v, hv, hx⟩ := H.var _ hm
  obtain ⟨rfl, hXa, vs, k, hoa, r⟩ := hv
  have fin := h vs k hXa hoa r
  rcases hx with ⟨a, m, hn, hm⟩ | ⟨a | a, c, hcl, hcv⟩
  · exact wpAny_Name (wpAny_loadName_local H.fn a hn hm fin) hd
  · exact wpAny_Name (wpAny_loadName_cell H.fn a hcl hcv fin) hd
  · exact wpAny_Name (wpAny_loadName_free H.fn a hcl hcv fin hc) hd
theorem St.retM {X₀ : Addr → Prop} {H₀ : Heap} {x : Str} {px pos : Pos} {a : Addr} {ds : List D} {rest : List Stmt} {Q : Flow → Shared → Prop} (F : Fm B Hs X s.heap env G) (hm : (x, Slot.m a ds) ∈ G) (ho : Own Hs a) (L : Live X₀ H₀) (hX : ∀ b, X₀ b → X b) (hH : (fun _ => False, H₀) ∈ Hs)
    (h : ∀ v h' tk, Olds [(fun _ => False, H₀)] h' → IsD X₀ h' v (.lst ds) → Q (.ret v) { s with heap := h', toks := tk })
    (hd : (x == ("__debug__" : Str)) = false := by decide) (hc : (x == ("__classdict__" : Str)) = false := by decide) :
    wpAny (model prog w) A (execs (.Return (some (.Name x px)) pos :: rest) env) Q E s := by
  refine St.cons (wpAny_Return_some (Ev.nameM F.has hm (fun vs k hXa hoa r => ?_) hd hc))
  refine h _ s.heap s.toks (fun p hp => ?_) (.lst (fun z => ?_) hoa (r.less hX))
  · rw [List.mem_singleton.mp hp]; exact F.olds _ hH
  · rcases ho _ hH with y | y
    · exact y
    · obtain ⟨o, e⟩ := L a z; rw [y] at e; cases e
/-- an item of a list that grows -/
theorem Ev.item_m {x : Str} {px pos : Pos} {f : Expr} {a : Addr} {ds : List D} {k : Int} {d : D} {j : Nat} (hm : (x, Slot.m a ds) ∈ G) (hf : Ev prog w B n env G f (.int k)) (hj : seqIndex? k ds.length = some j) (hd : ds[j]? = some d) (hlo : -(2 ^ 63) ≤ k) (hhi : k < 2 ^ 63)
    (hs : ∀ o i, subscripted f false o i = operate [o, i] (getItem o i) := by intro _ _; rfl) (hdb : (x == ("__debug__" : Str)) = false := by decide) (hc : (x == ("__classdict__" : Str)) = false := by decide) : Ev prog w B n env G (.Subscript (.Name x px) f pos) d := by
  intro A X Q E s R L H h
  refine Subscript_ (Ev.nameM H hm (fun vs m hXa ho r => ?_) hdb hc)
  refine hf A X _ E s R L H fun v h₁ t₁ g₁ q₁ => ?_
  cases q₁ with
  | int _ t =>
  obtain ⟨u, hu, q⟩ := (r.grow g₁).get hd
  have ho₁ := g₁ _ _ ho
  have hl : h₁.IsList a vs.toArray := ⟨_, ho₁, rfl, m, rfl⟩
  have hlen := r.length
  refine tail_any (ops := [.ref a, .int k t]) hl.typeIs slot_list_getitem.lookup ?_ (hs _ _)
  unfold seqIndex? at hj
  by_cases hk : k < 0
  · simp only [hk, if_true] at hj
    split at hj
    · rename_i hc
      simp only [Bool.and_eq_true, decide_eq_true_eq] at hc
      cases hj
      refine wpAny_getItem_list_neg hl hk (by simp only [List.size_toArray]; omega) hlo (x := u) ?_ (h _ h₁ t₁ g₁ q)
      simp only [List.size_toArray, hlen]
      simpa using hu
    · cases hj
  · simp only [hk, if_false] at hj
    split at hj
    · cases hj
      exact wpAny_getItem_list hl (by omega) hhi (x := u) (by simpa using hu) (h _ h₁ t₁ g₁ q)
    · cases hj
/-- a name of the top that stands for a datum -/
theorem Ev.glob {x : Str} {pos : Pos} {v : Value} {d : D} (g : GlobAt B x v) (hv : ∀ X h, IsD X h v d) (hk : env.kindOf x = some .globalImplicit) (hd : (x == ("__debug__" : Str)) = false := by decide) : Ev prog w B n env G (.Name x pos) d := fun A X Q E s R L H h =>
  globName g H hk hd (h v s.heap s.toks (Grow.refl _) (hv _ _))
end
theorem memH {α : Type} {a : α} {l : List α} : a ∈ a :: l := .head _
theorem memT {α : Type} {a b : α} {l : List α} (h : a ∈ l) : a ∈ b :: l := .tail _ h
theorem eqv_int (a b : Int) : PyData.eqv (.int a) (.int b) = (a == b) := by
  simp [PyData.eqv]
theorem Op2.in_ints2 {prog : Program} {w : World} {B : Heap} {n : Nat} {k p q : Int} : Op2 prog w B n (compareOp .In) (.int k) (.tup [.int p, .int q]) (.bool (p == k || q == k)) := by
  have h := Op2.in_tup (prog := prog) (w := w) (B := B) (n := n) (a := .int k) (bs := [.int p, .int q]) (by rfl) (by rfl) (Nat.le_of_ble_eq_true (by rfl))
  have e : ((toPys [.int p, .int q]).any fun y => PyData.eqv y (toPy (.int k))) = (p == k || q == k) := by
    show (PyData.eqv (.int p) (.int k) || (PyData.eqv (.int q) (.int k) || false)) = _
    rw [eqv_int, eqv_int, Bool.or_false]
  rw [e] at h
  exact h
theorem Src.is {prog : Program} {w : World} {B : Heap} {n : Nat} {env : Env} {G : Ctxt} {e : Expr} {d d' : List D} (h : Src prog w B n env G e d) (hd : d = d') : Src prog w B n env G e d' := hd ▸ h
theorem EvT.is {prog : Program} {w : World} {B : Heap} {n : Nat} {env : Env} {G : Ctxt} {e : Expr} {d d' : Bool} (h : EvT prog w B n env G e d) (hd : d = d') : EvT prog w B n env G e d' := hd ▸ h
theorem subNil {α : Type} {G : List α} : ∀ p ∈ ([] : List α), p ∈ G := fun p hp => by cases hp
theorem subCons {α : Type} {a : α} {l G : List α} (h : a ∈ G) (hl : ∀ p ∈ l, p ∈ G) : ∀ p ∈ a :: l, p ∈ G := fun p hp => by
  rcases List.mem_cons.mp hp with rfl | hp
  · exact h
  · exact hl p hp
theorem Ev.is {prog : Program} {w : World} {B : Heap} {n : Nat} {env : Env} {G : Ctxt} {e : Expr} {d d' : D} (h : Ev prog w B n env G e d) (hd : d = d') : Ev prog w B n env G e d' := hd ▸ h
end
local macro_rules | `(tactic| walk_at "mem") => `(tactic| (with_reducible repeat' (first | exact memH | apply memT)))
local macro_rules | `(tactic| walk_at "op") => `(tactic| first | (with_reducible (first | exact Op2.add_int | exact Op2.sub_int | exact Op2.sub_bool | exact Op2.eq_int | exact Op2.ne_int | exact Op2.lt_int | exact Op2.gt_int | exact Op2.eq_str | exact Op2.ne_str | exact Op2.lt_str | exact Op2.gt_str | exact Op1.neg_int | exact Op2.in_ints2)) | ((with_reducible apply Op2.mod_int); omega) | ((with_reducible apply Op2.fdiv_int); omega; omega) | ((with_reducible apply Op2.mul_int); apply IntMulOk.of_left; apply intBits_le_64; omega; omega) | ((with_reducible apply Op2.mul_int); apply IntMulOk.of_right; apply intBits_le_64; omega; omega))
local macro_rules | `(tactic| walk_at "evl") => `(tactic| first | with_reducible exact EvL.nil | ((with_reducible apply EvL.cons); walk_at "ev"; walk_at "evl"))
local macro_rules | `(tactic| walk_at "ev") => `(tactic| first | with_reducible assumption | with_reducible exact Ev.int | with_reducible exact Ev.str | with_reducible exact Ev.bool | ((with_reducible apply Ev.name); walk_at "mem"; decide; decide) | ((with_reducible apply Ev.bin); walk_at "ev"; walk_at "ev"; walk_at "op") | ((with_reducible apply Ev.cmp); walk_at "ev"; walk_at "ev"; walk_at "op"; with_unfolding_all rfl) | ((with_reducible apply Ev.una); walk_at "ev"; walk_at "op") | ((with_reducible apply Ev.or2); walk_at "ev"; walk_at "ev") | ((with_reducible apply Ev.tup); walk_at "evl"; exact Nat.le_of_ble_eq_true rfl; rfl) | ((with_reducible apply Ev.list); walk_at "evl"; exact Nat.le_of_ble_eq_true rfl; rfl))
local macro_rules | `(tactic| walk_at "evt") => `(tactic| first | ((with_reducible apply EvT.cmp); walk_at "ev"; walk_at "ev"; walk_at "op"; with_unfolding_all rfl))
local macro_rules | `(tactic| walk_at "sub") => `(tactic| first | with_reducible exact subNil | ((with_reducible apply subCons); walk_at "mem"; walk_at "sub"))
-- MB1
section
structure Bs (P : Params) (B : Heap) : Prop where
  K : (hd.heap_1 P).In B
  ng : ∃ mg, B.Ns mainGlobals mg
  nb : ∃ mb, B.Ns builtinsNs mb ∧ ∀ x : Str, x ≠ "__name__" → mb x = bootBuiltins x
  nolimit : B.NoLimit
  bmod : ∃ mg bm ob, BMod B mainGlobals mg bm ob

section
variable {prog : Program} {w : World} {B : Heap} {n : Nat} {P : Params}
theorem Bs.own (b : Bs P B) {x : Str} {v : Value} (e : nsIn (hd.heap_1 P) mainGlobals x = some (some v)) : GlobAt B x v := by
  obtain ⟨mg, hg⟩ := b.ng
  exact ⟨mg, hg, .inl (mg_of b.K hg e)⟩
theorem Bs.bui (b : Bs P B) {x : Str} {v : Value} (e : nsIn (hd.heap_1 P) mainGlobals x = some none) (hv : bootBuiltins x = some v) (hn : x ≠ "__name__") : GlobAt B x v := by
  obtain ⟨mg, hg⟩ := b.ng
  obtain ⟨mb, hb, h⟩ := b.nb
  exact ⟨mg, hg, .inr ⟨mg_none_of b.K hg e, mb, hb, (h x hn).trans hv⟩⟩
theorem Bs.fn (b : Bs P B) {a : Addr} {c : Value} {d : Option Addr} {sl : Array (Option Value)} {fd : FuncData} {body : List Stmt} (e : (hd.heap_1 P).lookup a = some ⟨c, d, .func fd, sl⟩) (hc : codeIn (hd.heap_1 P) fd.code fd.qualname = true)
    (hb : fd.body = .stmts body) (gl : fd.globals = mainGlobals) (bi : fd.builtins = builtinsNs) (kind : fd.scope.kind = .function) (co : fd.scope.isCoroutine = false) (gen : fd.scope.isGenerator = false)
    (nocell : (fd.scope.names.all fun x => x.2 != .cell) = true) (clos : fd.closure = []) : FnIs B a fd body :=
  ⟨⟨_, b.K _ _ e, rfl⟩, codeRec_of b.K hc, hb, gl, bi, kind, co, gen, fun x hx => by simpa using List.all_eq_true.mp nocell x hx, fun x c h => by rw [clos] at h; simp at h, fun x y c h => by rw [clos] at h; simp at h⟩

noncomputable def strcoll (x y : Str) : Int := b2i (decide (y.cps.toList < x.cps.toList)) - b2i (decide (x.cps.toList < y.cps.toList))
theorem strcoll_call (b : Bs P B) (x y : Str) : CallD prog w B (n + 1) (.ref 189) [.str x, .str y] (.int (strcoll x y)) := by
  refine CallD.fn (xs := ["a", "b"]) b.nolimit (b.fn (a := 189) rfl rfl rfl rfl rfl rfl rfl rfl rfl rfl) (by decide) rfl (by decide) (fun vs hv => ?_) ?_
  · match vs, hv with
    | [u, v], _ => rfl
  · intro A X H₀ L' s R L F
    have F : Fm B _ _ _ _ [("a", .d (.str x)), ("b", .d (.str y))] := F
    refine St.retD (d := .int (strcoll x y)) ?_ R F (fun _ => .inl) (.head _) fun v h' tk o q => ⟨v, h', tk, rfl, rfl, o, q⟩
    (with_reducible apply Ev.is); walk_at "ev"; rfl
end
end
-- MB2
section
section
variable {prog : Program} {w : World} {B : Heap} {n : Nat} {P : Params}

noncomputable def subcost (x y : Str) : Int := if x.cps.toList == y.cps.toList then 0 else if (Txt.lower x).cps.toList == (Txt.lower y).cps.toList then 1 else 2
theorem subcost_call (b : Bs P B) (x y : Str) (hx : Builtin.Str.tooLong (Txt.lower x).length = false) (hy : Builtin.Str.tooLong (Txt.lower y).length = false) : CallD prog w B (n + 1) (.ref 196) [.str x, .str y] (.int (subcost x y)) := by
  refine CallD.fn (xs := ["ch_a", "ch_b"]) b.nolimit (b.fn (a := 196) rfl rfl rfl rfl rfl rfl rfl rfl rfl rfl) (by decide) rfl (by decide) (fun vs hv => ?_) ?_
  · match vs, hv with
    | [u, v], _ => rfl
  · intro A X H₀ L' s R L F
    have F : Fm B _ _ _ _ [("ch_a", .d (.str x)), ("ch_b", .d (.str y))] := F
    refine St.cons (St.if_ (b := x.cps.toList == y.cps.toList) (EvT.cmp (Ev.name memH) (Ev.name (memT memH)) Op2.eq_str) R F (fun e h₁ t₁ F₁ => ?_) (fun e h₁ t₁ F₁ => wpAny_execs_nil ?_))
    · refine St.retD (d := .int (subcost x y)) ?_ R F₁ (fun _ => .inl) (.head _) fun v h' tk o q => ⟨v, h', tk, rfl, rfl, o, q⟩
      (with_reducible apply Ev.is); walk_at "ev"; (unfold subcost; rw [if_pos e])
    · refine St.cons (St.if_ (b := (Txt.lower x).cps.toList == (Txt.lower y).cps.toList) (EvT.cmp (Ev.lower (Ev.name memH) hx) (Ev.lower (Ev.name (memT memH)) hy) Op2.eq_str) R F₁ (fun e₂ h₂ t₂ F₂ => ?_) (fun e₂ h₂ t₂ F₂ => wpAny_execs_nil ?_))
      · refine St.retD (d := .int (subcost x y)) (Ev.is (Ev.glob (b.own (by rfl)) (fun _ _ => .int _ _) (by rfl)) ?_) R F₂ (fun _ => .inl) (.head _) fun v h' tk o q => ⟨v, h', tk, rfl, rfl, o, q⟩
        unfold subcost; rw [if_neg (by rw [e]; decide), if_pos e₂]
      · refine St.retD (d := .int (subcost x y)) (Ev.is (Ev.glob (b.own (by rfl)) (fun _ _ => .int _ _) (by rfl)) ?_) R F₂ (fun _ => .inl) (.head _) fun v h' tk o q => ⟨v, h', tk, rfl, rfl, o, q⟩
        unfold subcost; rw [if_neg (by rw [e]; decide), if_neg (by rw [e₂]; decide)]
end
end
-- MB3
section
section
variable {prog : Program} {w : World} {B : Heap} {n : Nat} {P : Params}

noncomputable def rimP (high wide place : Nat) : Bool := (place / wide == 0 || place / wide == high - 1) || (place % wide == 0 || place % wide == wide - 1)
noncomputable def digits : Str := Str.ofString "0112031200201321023011231"
noncomputable def digitAt (place : Nat) : Int := (PySem.intText? ⟨#[(digits.cps[place]?).getD 48]⟩).getD 0
noncomputable def codeAt (script : List Int) (high wide : Nat) (cs : List Int) (place : Nat) : Int :=
  if rimP high wide place && decide (high * wide - 1 - place < place) then (cs[high * wide - 1 - place]?.getD 0 + 2).fmod 4
  else if 2 + place < script.length then (script[2 + place]?.getD 0).fmod 4
  else digitAt place
noncomputable def lawCodes (script : List Int) (high wide : Nat) : Nat → List Int
  | 0 => []
  | k + 1 => lawCodes script high wide k ++ [codeAt script high wide (lawCodes script high wide k) k]
theorem lawCodes_length (script : List Int) (high wide : Nat) : ∀ k, (lawCodes script high wide k).length = k
  | 0 => rfl
  | k + 1 => by rw [lawCodes, List.length_append, lawCodes_length script high wide k]; rfl

theorem ints_get {ks : List Int} {i : Nat} {d : D} (h : (ks.map D.int)[i]? = some d) : ∃ k, ks[i]? = some k ∧ d = .int k := by
  rw [List.getElem?_map] at h
  cases e : ks[i]? with
  | none => rw [e] at h; cases h
  | some k => rw [e] at h; cases h; exact ⟨k, rfl, rfl⟩
theorem range_get {k : Nat} {i : Nat} {d : D} (h : ((rangeL 0 1 k).map D.int)[i]? = some d) : i < k ∧ d = .int i := by
  obtain ⟨j, hj, rfl⟩ := ints_get h
  unfold rangeL at hj
  rw [List.getElem?_map] at hj
  by_cases hi : i < k
  · rw [List.getElem?_range hi] at hj
    simp at hj
    exact ⟨hi, by rw [← hj]⟩
  · rw [List.getElem?_eq_none (by simpa using hi)] at hj
    cases hj
theorem range_len (k : Nat) : ((rangeL 0 1 k).map D.int).length = k := by simp [rangeL]

theorem rimP_int {high wide i : Nat} (hh : 0 < high) (hw : 0 < wide) : (((0 : Int) == (i : Int).fdiv wide || (high : Int) - 1 == (i : Int).fdiv wide) || ((0 : Int) == (i : Int).fmod wide || (wide : Int) - 1 == (i : Int).fmod wide)) = rimP high wide i := by
  have e1 : (i : Int).fdiv wide = ((i / wide : Nat) : Int) := by
    rw [Int.fdiv_eq_ediv_of_nonneg _ (by omega)]; rfl
  have e2 : (i : Int).fmod wide = ((i % wide : Nat) : Int) := by
    rw [Int.fmod_eq_emod_of_nonneg _ (by omega)]; rfl
  rw [e1, e2]
  unfold rimP
  generalize i / wide = p
  generalize i % wide = q
  rw [Bool.eq_iff_iff]
  simp only [Bool.or_eq_true, beq_iff_eq]
  omega
theorem seqIndex_nat {k n : Nat} (h : k < n) : seqIndex? (k : Int) n = some k := by
  have h0 : ¬ ((k : Int) < 0) := by omega
  simp [seqIndex?, h0, h]
theorem map_getD {cs : List Int} {j : Nat} (h : j < cs.length) : (cs.map D.int)[j]? = some (.int (cs[j]?.getD 0)) := by
  rw [List.getElem?_map, List.getElem?_eq_getElem h]; rfl
noncomputable def digitC (place : Nat) : Nat := (digits.cps[place]?).getD 48
theorem digit_at : ∀ i, i < 25 → digits.cps[i]? = some (digitC i) := by decide +kernel
theorem digit_int : ∀ i, i < 25 → PySem.intText? ⟨#[digitC i]⟩ = some (digitAt i) := by decide +kernel
theorem digits_len : digits.length = 25 := by decide +kernel
theorem codes_call (b : Bs P B) (script : List Int) (high wide : Nat) (hs : script.length ≤ 63) (hh : 3 ≤ high) (hh5 : high ≤ 5) (hw : 3 ≤ wide) (hw5 : wide ≤ 5) :
    CallD prog w B (n + 1) (.ref 203) [.lst (script.map .int), .int high, .int wide] (.lst ((lawCodes script high wide (high * wide)).map .int)) := by
  have hN : high * wide ≤ 25 := by
    have : high * wide ≤ 5 * 5 := Nat.mul_le_mul hh5 hw5
    omega
  refine CallD.fn (xs := ["script", "high", "wide"]) b.nolimit (b.fn (a := 203) rfl rfl rfl rfl rfl rfl rfl rfl rfl rfl) (by decide) rfl (by decide) (fun vs hv => ?_) ?_
  · match vs, hv with
    | [u, v, x], _ => rfl
  · intro A X H₀ L' s R L F
    have F : Fm B _ _ _ _ [("script", .d (.lst (script.map .int))), ("high", .d (.int high)), ("wide", .d (.int wide))] := F
    refine St.cons (St.assignNil F rfl rfl rfl fun a h₁ t₁ ho hBa F₁ => ?_)
    refine St.cons (St.for_ (x := "place") (ds := (rangeL 0 1 (high * wide)).map .int) ?_ R F₁ (.inl rfl) (fun i => [("codes", .m a ((lawCodes script high wide i).map .int)), ("script", .d (.lst (script.map .int))), ("high", .d (.int high)), ("wide", .d (.int wide))]) rfl (fun i => rfl) ?_ ?_)
    · apply Src.is
      · apply Src.range1
        · exact b.bui (by rfl) (by rfl) (by decide)
        · walk_at "ev"
        · omega
        · have : (high : Int) * wide ≤ 25 := by exact_mod_cast hN
          omega
        · rfl
        · rfl
        · decide
      · rw [show ((high : Int) * wide).toNat = high * wide by rw [← Int.natCast_mul]; rfl]
    · intro i d h₂ t₂ hd F₂
      obtain ⟨hi, rfl⟩ := range_get hd
      refine St.cons (St.assignL (d := .int ((high : Int) * wide - 1 - i)) (by walk_at "ev") R F₂ rfl rfl rfl fun h₃ t₃ F₃ => ?_)
      refine St.cons (St.assignL (d := .bool (rimP high wide i)) ?_ R F₃ rfl rfl rfl fun h₄ t₄ F₄ => ?_)
      · (with_reducible apply Ev.is)
        · walk_at "ev"
        · exact congrArg D.bool (rimP_int (by omega) (by omega))
      have hcl := lawCodes_length script high wide i
      have hopp : (high : Int) * wide - 1 - i = ((high * wide - 1 - i : Nat) : Int) := by
        have : ((high * wide : Nat) : Int) = (high : Int) * wide := by push_cast; rfl
        omega
      have fin : ∀ {env : Env} (c : Int) {h' : Heap} {tk : Nat}, c = codeAt script high wide (lawCodes script high wide i) i →
          Fm B ((fun b => (X b ∨ b = L') ∨ b = a, h₂) :: [(fun _ => False, H₀)]) (fun b => (X b ∨ b = L') ∨ b = a) h' env [("codes", .m a ((lawCodes script high wide i).map .int ++ [.int c])), ("opposite", .d (.int ((high : Int) * wide - 1 - i))), ("place", .d (.int i)), ("script", .d (.lst (script.map .int))), ("high", .d (.int high)), ("wide", .d (.int wide)), ("rim", .d (.bool (rimP high wide i)))] →
          (Flow.next = .next ∨ Flow.next = .cont) ∧ ∃ h'' tk', ({ s with heap := h', toks := tk } : Shared) = { s with heap := h'', toks := tk' } ∧ Fm B ((fun b => (X b ∨ b = L') ∨ b = a, h₂) :: [(fun _ => False, H₀)]) (fun b => (X b ∨ b = L') ∨ b = a) h'' env [("codes", .m a ((lawCodes script high wide (i + 1)).map .int)), ("script", .d (.lst (script.map .int))), ("high", .d (.int high)), ("wide", .d (.int wide))] := by
        intro env c h' tk hc F'
        refine ⟨.inl rfl, h', tk, rfl, ?_⟩
        rw [lawCodes, List.map_append, List.map_cons, List.map_nil, ← hc]
        exact F'.sub (by walk_at "sub")
      have F₅ := F₄.sub (G' := [("codes", .m a ((lawCodes script high wide i).map .int)), ("opposite", .d (.int ((high : Int) * wide - 1 - i))), ("place", .d (.int i)), ("script", .d (.lst (script.map .int))), ("high", .d (.int high)), ("wide", .d (.int wide)), ("rim", .d (.bool (rimP high wide i)))]) (by walk_at "sub")
      have ho' : Own ((fun b => (X b ∨ b = L') ∨ b = a, h₂) :: [(fun _ => False, H₀)]) a := fun q hq => by
        rcases List.mem_cons.mp hq with rfl | hq
        · exact .inl (.inr rfl)
        · exact ho q hq
      have hdig : i < 25 := by omega
      refine St.cons (St.if_ (b := rimP high wide i && decide (high * wide - 1 - i < i)) ?_ R F₅ (fun e h₆ t₆ F₆ => ?_) (fun e h₆ t₆ F₆ => ?_))
      · refine EvT.and2 (b := rimP high wide i) (EvT.plain (Ev.name (by walk_at "mem")) Tru.bool) (fun hb => ?_) (fun hb => by rw [hb, Bool.false_and])
        (with_reducible apply EvT.is)
        · walk_at "evt"
        · rw [hb, Bool.true_and]
          exact decide_eq_decide.mpr (by omega)
      · rw [Bool.and_eq_true, decide_eq_true_eq] at e
        refine St.cons (St.appendM (d := .int (((lawCodes script high wide i)[high * wide - 1 - i]?.getD 0 + 2).fmod 4)) ?_ R F₆ ho' hBa rfl rfl ?_ fun h₇ t₇ F₇ => wpAny_execs_nil (wpAny_execs_nil (fin _ ?_ F₇)))
        · refine Ev.bin (Ev.bin (Ev.item_m (j := high * wide - 1 - i) memH (k := (high : Int) * wide - 1 - i) (Ev.name (by walk_at "mem")) ?_ (map_getD (by omega)) (by omega) (by omega)) Ev.int Op2.add_int) Ev.int (Op2.mod_int (by decide))
          rw [hopp, List.length_map, hcl]
          exact seqIndex_nat e.2
        · rw [List.length_map, hcl]; exact Nat.le_trans (Nat.le_of_lt hdig) (Nat.le_of_ble_eq_true rfl)
        · unfold codeAt; rw [if_pos (by rw [e.1, Bool.true_and]; exact decide_eq_true e.2)]
      · have e : ¬ ((rimP high wide i && decide (high * wide - 1 - i < i)) = true) := by rw [e]; decide
        refine St.cons (St.if_ (b := decide (2 + i < script.length)) ?_ R F₆ (fun e₂ h₇ t₇ F₇ => ?_) (fun e₂ h₇ t₇ F₇ => ?_))
        · (with_reducible apply EvT.is)
          · (with_reducible apply EvT.cmp)
            · walk_at "ev"
            · refine Ev.call (ds := [.lst (script.map .int)]) (b.bui (by rfl) (by rfl) (by decide)) Callable.builtin (by walk_at "evl") (CallD.len_lst ?_)
              rw [List.length_map]; exact Nat.le_trans hs (Nat.le_of_ble_eq_true rfl)
            · walk_at "op"
            · with_unfolding_all rfl
          · rw [List.length_map]
            exact decide_eq_decide.mpr (by omega)
        · rw [decide_eq_true_eq] at e₂
          refine St.cons (St.appendM (d := .int ((script[2 + i]?.getD 0).fmod 4)) ?_ R F₇ ho' hBa rfl rfl ?_ fun h₇ t₇ F₇ => wpAny_execs_nil (wpAny_execs_nil (wpAny_execs_nil (fin _ ?_ F₇))))
          · refine Ev.bin (Ev.sub (Ev.name (by walk_at "mem")) (Ev.bin Ev.int (Ev.name (by walk_at "mem")) Op2.add_int) (Op2.item_lst (k := 2 + i) (j := 2 + i) ?_ (map_getD e₂) (by omega) (by omega))) Ev.int (Op2.mod_int (by decide))
            rw [List.length_map]
            exact seqIndex_nat e₂
          · rw [List.length_map, hcl]; exact Nat.le_trans (Nat.le_of_lt hdig) (Nat.le_of_ble_eq_true rfl)
          · unfold codeAt; rw [if_neg e, if_pos e₂]
        · have e₂ : ¬ (2 + i < script.length) := of_decide_eq_false e₂
          refine St.cons (St.appendM (d := .int (digitAt i)) ?_ R F₇ ho' hBa rfl rfl ?_ fun h₇ t₇ F₇ => wpAny_execs_nil (wpAny_execs_nil (wpAny_execs_nil (fin _ ?_ F₇))))
          · refine Ev.call (fv := .type "int") (ds := [.str ⟨#[digitC i]⟩]) (b.bui (by rfl) (by rfl) (by decide)) Callable.type (EvL.cons (Ev.sub (a := .str digits) (b := .int i) Ev.str (Ev.name (by walk_at "mem")) (Op2.item_str (c := digitC i) ?_ ?_)) EvL.nil) (CallD.int_str (digit_int i hdig) (Nat.le_of_ble_eq_true rfl))
            · rw [Bool.or_eq_false_iff]; exact ⟨decide_eq_false (by omega), decide_eq_false (by omega)⟩
            · rw [digits_len, seqIndex_nat hdig]; exact digit_at i hdig
          · rw [List.length_map, hcl]; exact Nat.le_trans (Nat.le_of_lt hdig) (Nat.le_of_ble_eq_true rfl)
          · unfold codeAt; rw [if_neg e, if_neg e₂]
    · intro h₂ t₂ F₂
      rw [range_len] at F₂
      exact St.retM F₂ memH ho L (fun _ => fun q => .inl (.inl q)) (.head _) fun v h' tk o q => ⟨v, h', tk, rfl, rfl, o, q⟩
end
end
-- MB4
section
section
variable {prog : Program} {w : World} {B : Heap} {n : Nat} {P : Params} {env : Env} {G : Ctxt} {Hs : Snaps} {A : Around} {X : Addr → Prop} {E : Value → Shared → Prop} {s : Shared}

noncomputable def tsOf : List Expr → List (Str × Pos)
  | .Name x p :: es => (x, p) :: tsOf es
  | _ => []
theorem St.assignTupL {es : List Expr} {k : Nat} {tpos pos : Pos} {e : Expr} {ds : List D} {Q : Flow → Shared → Prop} (he : Ev prog w B n env G e (.tup ds)) (R : Room n A) (F : Fm B Hs X s.heap env G)
    (hts : assignEach es env = (tsOf es).map fun t => (false, assign (.Name t.1 t.2) env)) (hl : (tsOf es).length = ds.length) (hb : ((tsOf es).all fun t => env.kindOf t.1 == some .local) = true) (hn : ((tsOf es).all fun t => !(names G).contains t.1) = true) (hd : ((tsOf es).map (·.1)).Nodup)
    (hs : swapsWithSole [.Tuple es k tpos] e pos.line env = pure false) (hw : swappedStores [.Tuple es k tpos] e env = pure none)
    (h : ∀ h' tk, Fm B Hs X h' env (bound (tsOf es) ds G) → Q .next { s with heap := h', toks := tk }) : wpAny (model prog w) A (exec (.Assign [.Tuple es k tpos] e pos) env) Q E s :=
  St.assignTup he R F hts hl (fun t ht => .inl (by simpa using List.all_eq_true.mp hb t ht)) (fun t ht => by simpa using List.all_eq_true.mp hn t ht) hd hs hw h

noncomputable abbrev rowsD (rows : List (List Int)) : D := .lst (rows.map fun r => .lst (r.map .int))
noncomputable def at2 (rows : List (List Int)) (k m : Nat) : Int := ((rows[k]?.getD [])[m]?).getD 0
theorem Ev.at2 {e ek em : Expr} {p p' : Pos} {rows : List (List Int)} {k m : Nat} (he : Ev prog w B n env G e (rowsD rows)) (hk : Ev prog w B n env G ek (.int (k : Nat))) (hm : Ev prog w B n env G em (.int (m : Nat))) (hkl : k < rows.length) (hml : m < (rows[k]?.getD []).length) (hk60 : k < 2 ^ 60) (hm60 : m < 2 ^ 60)
    (hs : ∀ o i, subscripted ek false o i = operate [o, i] (getItem o i) := by intro _ _; rfl) (hs' : ∀ o i, subscripted em false o i = operate [o, i] (getItem o i) := by intro _ _; rfl) : Ev prog w B n env G (.Subscript (.Subscript e ek p) em p') (.int (Mine.at2 rows k m)) := by
  refine Ev.sub (a := .lst ((rows[k]?.getD []).map .int)) (Ev.sub he hk (Op2.item_lst (j := k) ?_ ?_ (by omega) (by omega) hs)) hm (Op2.item_lst (j := m) ?_ ?_ (by omega) (by omega) hs')
  · rw [List.length_map]; exact seqIndex_nat hkl
  · rw [List.getElem?_map, List.getElem?_eq_getElem hkl]; rfl
  · rw [List.length_map]; exact seqIndex_nat hml
  · exact map_getD hml

theorem Ev.succ {e : Expr} {p pos : Pos} {j k : Nat} (h : Ev prog w B n env G e (.int (k : Nat))) : Ev prog w B n env G (.BinOp e .Add (.Constant (.int 1) j p) pos) (.int ((k + 1 : Nat) : Int)) := Ev.bin h Ev.int Op2.add_int
noncomputable def tri3 (a b c : Int) : D := .tup [.int a, .int b, .int c]
noncomputable def triAt (rows : List (List Int)) (figures : Int) (k m : Nat) : List (Int × Int × Int) :=
  if (figures.fdiv (2 ^ (4 * k + m))).fmod 2 == 0 then [(at2 rows k m, at2 rows k (m + 1), at2 rows (k + 1) (m + 1)), (at2 rows k m, at2 rows (k + 1) (m + 1), at2 rows (k + 1) m)]
  else [(at2 rows k m, at2 rows k (m + 1), at2 rows (k + 1) m), (at2 rows k (m + 1), at2 rows (k + 1) (m + 1), at2 rows (k + 1) m)]
noncomputable def triRow (rows : List (List Int)) (figures : Int) (k : Nat) : Nat → List (Int × Int × Int)
  | 0 => []
  | m + 1 => triRow rows figures k m ++ triAt rows figures k m
noncomputable def tris (rows : List (List Int)) (figures : Int) (wide : Nat) : Nat → List (Int × Int × Int)
  | 0 => []
  | k + 1 => tris rows figures wide k ++ triRow rows figures k (wide - 1)
noncomputable def triD (t : Int × Int × Int) : D := tri3 t.1 t.2.1 t.2.2
theorem triAt_length (rows : List (List Int)) (figures : Int) (k m : Nat) : (triAt rows figures k m).length = 2 := by
  unfold triAt; split <;> rfl
theorem triRow_length (rows : List (List Int)) (figures : Int) (k : Nat) : ∀ m, (triRow rows figures k m).length = 2 * m
  | 0 => rfl
  | m + 1 => by rw [triRow, List.length_append, triRow_length rows figures k m, triAt_length]; omega
theorem tris_length (rows : List (List Int)) (figures : Int) (wide : Nat) : ∀ k, (tris rows figures wide k).length = 2 * (wide - 1) * k
  | 0 => rfl
  | k + 1 => by rw [tris, List.length_append, tris_length rows figures wide k, triRow_length, Nat.mul_add, Nat.mul_one]

theorem tris_call (b : Bs P B) (rows : List (List Int)) (figures : Int) (high wide : Nat) (hr : rows.length = high) (hrw : ∀ k, k < high → (rows[k]?.getD []).length = wide) (hh : 3 ≤ high) (hh5 : high ≤ 5) (hw : 3 ≤ wide) (hw5 : wide ≤ 5) :
    CallD prog w B (n + 1) (.ref 210) [rowsD rows, .int figures] (.lst ((tris rows figures wide (high - 1)).map triD)) := by
  refine CallD.fn (xs := ["rows", "figures"]) b.nolimit (b.fn (a := 210) rfl rfl rfl rfl rfl rfl rfl rfl rfl rfl) (by decide) rfl (by decide) (fun vs hv => ?_) ?_
  · match vs, hv with
    | [u, v], _ => rfl
  · intro A X H₀ L' s R L F
    have F : Fm B _ _ _ _ [("rows", .d (rowsD rows)), ("figures", .d (.int figures))] := F
    have szl : ∀ {m : Nat}, m ≤ 100 → m ≤ sizeLine := fun h => Nat.le_trans h (Nat.le_of_ble_eq_true rfl)
    refine St.cons (St.assignNil F rfl rfl rfl fun a h₁ t₁ ho hBa F₁ => ?_)
    refine St.cons (St.for_ (x := "k") (ds := (rangeL 0 1 (high - 1)).map .int) ?_ R F₁ (.inl rfl) (fun i => [("threes", .m a ((tris rows figures wide i).map triD)), ("rows", .d (rowsD rows)), ("figures", .d (.int figures))]) rfl (fun i => rfl) ?_ ?_)
    · apply Src.is
      · apply Src.range1
        · exact b.bui (by rfl) (by rfl) (by decide)
        · refine Ev.bin (Ev.call (fv := .builtin "len") (ds := [rowsD rows]) (b.bui (by rfl) (by rfl) (by decide)) Callable.builtin (by walk_at "evl") (CallD.len_lst (szl (by rw [List.length_map]; omega)))) Ev.int Op2.sub_int
        · rw [List.length_map]; omega
        · rw [List.length_map]; omega
        · rfl
        · rfl
        · decide
      · rw [List.length_map, hr, show ((high : Int) - 1).toNat = high - 1 by omega]
    · intro k d h₂ t₂ hd F₂
      obtain ⟨hk, rfl⟩ := range_get hd
      have F₂ := F₂.sub (G' := [("threes", .m a ((tris rows figures wide k).map triD)), ("k", .d (.int k)), ("rows", .d (rowsD rows)), ("figures", .d (.int figures))]) (by walk_at "sub")
      have hrk := hrw k (by omega)
      have hrk1 := hrw (k + 1) (by omega)
      have hr0 := hrw 0 (by omega)
      refine St.cons (St.for_ (x := "m") (ds := (rangeL 0 1 (wide - 1)).map .int) ?_ R F₂ (.inl rfl) (fun i => [("threes", .m a ((tris rows figures wide k ++ triRow rows figures k i).map triD)), ("k", .d (.int k)), ("rows", .d (rowsD rows)), ("figures", .d (.int figures))]) ?_ (fun i => rfl) ?_ ?_)
      · apply Src.is
        · apply Src.range1
          · exact b.bui (by rfl) (by rfl) (by decide)
          · refine Ev.bin (Ev.call (fv := .builtin "len") (ds := [.lst ((rows[0]?.getD []).map .int)]) (b.bui (by rfl) (by rfl) (by decide)) Callable.builtin (EvL.cons (Ev.sub (b := .int 0) (Ev.name (by walk_at "mem")) Ev.int (Op2.item_lst (j := 0) ?_ ?_ (by decide) (by decide))) EvL.nil) (CallD.len_lst (szl (by rw [List.length_map]; omega)))) Ev.int Op2.sub_int
            · rw [List.length_map]; exact seqIndex_nat (k := 0) (by omega)
            · rw [List.getElem?_map, List.getElem?_eq_getElem (by omega)]; rfl
          · rw [List.length_map]; omega
          · rw [List.length_map]; omega
          · rfl
          · rfl
          · decide
        · rw [List.length_map, hr0, show ((wide : Int) - 1).toNat = wide - 1 by omega]
      · rw [triRow, List.append_nil]
      · intro m d h₃ t₃ hd F₃
        obtain ⟨hm, rfl⟩ := range_get hd
        have l0 : ∀ {k' : Nat}, k' < high → k' < rows.length := fun h => by omega
        have l1 : ∀ {k' m' : Nat}, k' < high → m' < wide → m' < (rows[k']?.getD []).length := fun h h' => by rw [hrw _ h]; exact h'
        have hpe : (4 * (k : Int) + m).toNat = 4 * k + m := by omega
        refine St.cons (St.assignTupL (ds := [.int (at2 rows k m), .int (at2 rows k (m + 1)), .int (at2 rows (k + 1) (m + 1)), .int (at2 rows (k + 1) m)]) ?_ R F₃ rfl rfl rfl rfl (by decide) rfl rfl fun h₄ t₄ F₄ => ?_)
        · refine Ev.tup (EvL.cons (Ev.at2 (k := k) (m := m) (Ev.name ?_) (Ev.name ?_) (Ev.name ?_) (l0 ?_) (l1 ?_ ?_) ?_ ?_) (EvL.cons (Ev.at2 (k := k) (m := m + 1) (Ev.name ?_) (Ev.name ?_) (Ev.succ (Ev.name ?_)) (l0 ?_) (l1 ?_ ?_) ?_ ?_) (EvL.cons (Ev.at2 (k := k + 1) (m := m + 1) (Ev.name ?_) (Ev.succ (Ev.name ?_)) (Ev.succ (Ev.name ?_)) (l0 ?_) (l1 ?_ ?_) ?_ ?_) (EvL.cons (Ev.at2 (k := k + 1) (m := m) (Ev.name ?_) (Ev.succ (Ev.name ?_)) (Ev.name ?_) (l0 ?_) (l1 ?_ ?_) ?_ ?_) EvL.nil)))) (Nat.le_of_ble_eq_true rfl) <;> first | omega | walk_at "mem"
        have F₄ : Fm B _ _ _ _ [("four", .d (.int (at2 rows (k + 1) m))), ("three", .d (.int (at2 rows (k + 1) (m + 1)))), ("two", .d (.int (at2 rows k (m + 1)))), ("one", .d (.int (at2 rows k m))), ("m", .d (.int m)), ("threes", .m a ((tris rows figures wide k ++ triRow rows figures k m).map triD)), ("k", .d (.int k)), ("rows", .d (rowsD rows)), ("figures", .d (.int figures))] := F₄
        have F₅ := F₄.sub (G' := [("threes", .m a ((tris rows figures wide k ++ triRow rows figures k m).map triD)), ("four", .d (.int (at2 rows (k + 1) m))), ("three", .d (.int (at2 rows (k + 1) (m + 1)))), ("two", .d (.int (at2 rows k (m + 1)))), ("one", .d (.int (at2 rows k m))), ("m", .d (.int m)), ("k", .d (.int k)), ("rows", .d (rowsD rows)), ("figures", .d (.int figures))]) (by walk_at "sub")
        have hlen : ((tris rows figures wide k ++ triRow rows figures k m).map triD).length + 2 ≤ sizeLine := by
          rw [List.length_map, List.length_append, tris_length, triRow_length]
          have h1 : 2 * (wide - 1) * k ≤ 2 * (wide - 1) * 4 := Nat.mul_le_mul_left _ (by omega)
          exact szl (by omega)
        have ho' : Own ((fun b => (X b ∨ b = L') ∨ b = a, h₃) :: (fun b => (X b ∨ b = L') ∨ b = a, h₂) :: [(fun _ => False, H₀)]) a := fun q hq => by
          rcases List.mem_cons.mp hq with rfl | hq
          · exact .inl (.inr rfl)
          · rcases List.mem_cons.mp hq with rfl | hq
            · exact .inl (.inr rfl)
            · exact ho q hq
        refine St.cons (St.if_ (b := (figures.fdiv (2 ^ (4 * k + m))).fmod 2 == 0) ?_ R F₅ (fun e h₆ t₆ F₆ => ?_) (fun e h₆ t₆ F₆ => ?_))
        · have hb2 : (2 : Int) ^ (4 * k + m) = ((2 ^ (4 * k + m) : Nat) : Int) := by push_cast; rfl
          have hb3 : 2 ^ (4 * k + m) ≤ 2 ^ 20 := Nat.pow_le_pow_right (by decide) (by omega)
          have hb4 : 0 < 2 ^ (4 * k + m) := Nat.pow_pos (by decide)
          refine EvT.is (EvT.cmp (Ev.bin (Ev.bin (Ev.name (d := .int figures) ?_) (Ev.bin (a := .int 2) (b := .int (4 * (k : Int) + m)) Ev.int ?_ (Op2.pow_int ?_ ?_ ?_)) (Op2.fdiv_int ?_ ?_)) Ev.int (Op2.mod_int ?_)) Ev.int Op2.eq_int) ?_
          · walk_at "mem"
          · walk_at "ev"
          · omega
          · omega
          · decide
          · rw [hpe, hb2]; omega
          · rw [hpe, hb2]; omega
          · decide
          · rw [hpe]
        · refine St.cons (St.extendM (es := (triAt rows figures k m).map triD) ?_ R F₆ ho' hBa rfl rfl rfl ?_ fun h₇ t₇ F₇ => wpAny_execs_nil (wpAny_execs_nil ⟨.inl rfl, h₇, t₇, rfl, ?_⟩))
          · (with_reducible apply Ev.is)
            · walk_at "ev"
            · unfold triAt; rw [if_pos e]; rfl
          · rw [List.length_map (as := triAt rows figures k m), triAt_length]; exact hlen
          · rw [triRow, ← List.append_assoc, List.map_append]
            exact F₇.sub (by walk_at "sub")
        · refine St.cons (St.extendM (es := (triAt rows figures k m).map triD) ?_ R F₆ ho' hBa rfl rfl rfl ?_ fun h₇ t₇ F₇ => wpAny_execs_nil (wpAny_execs_nil ⟨.inl rfl, h₇, t₇, rfl, ?_⟩))
          · (with_reducible apply Ev.is)
            · walk_at "ev"
            · unfold triAt; rw [if_neg (by rw [e]; decide)]; rfl
          · rw [List.length_map (as := triAt rows figures k m), triAt_length]; exact hlen
          · rw [triRow, ← List.append_assoc, List.map_append]
            exact F₇.sub (by walk_at "sub")
      · intro h₃ t₃ F₃
        rw [range_len] at F₃
        refine wpAny_execs_nil ⟨.inl rfl, h₃, t₃, rfl, ?_⟩
        rw [tris]
        exact F₃.sub (by walk_at "sub")
    · intro h₂ t₂ F₂
      rw [range_len] at F₂
      exact St.retM F₂ memH ho L (fun _ => fun q => .inl (.inl q)) (.head _) fun v h' tk o q => ⟨v, h', tk, rfl, rfl, o, q⟩
end
end
-- MC1
section
section
variable {prog : Program} {w : World} {M : Model} {A : Around} {E : Value → Shared → Prop} {s : Shared} {K : Frag} {x C : Addr} {ox : Obj} {od : Option Obj}

theorem check_sub {i owner n : String} {self : Value} {rest : List Value} {kw : List (Str × Value)} {Q : Unit → Shared → Prop}
    (hk : builtinKind i = some .slot ∨ builtinKind i = some .method) (hs : splitId i = some (owner, n)) (hi : Looks M s.heap (isInstance self (.type owner)) true) (ha : argsOk i ⟨self :: rest, kw⟩) (q : Q () s) :
    wpAny M A (checkBuiltinCall i ⟨self :: rest, kw⟩) Q E s := by
  rcases hk with hk | hk
  · exact check_slot hk hs hi ha q
  · simp only [checkBuiltinCall, hk, hs]
    refine wpAny_bind (hi.here ?_)
    simp only [Bool.not_true, Bool.false_eq_true, if_false]
    cases hsig : Manifest.signature? i with
    | none => exact wpAny_pure q
    | some sig =>
      simp only [argsOk, hsig] at ha
      have h2 : Bind.checkArgs i sig ⟨self :: rest, kw⟩ = pure () := ha
      show wpAny M A (Bind.checkArgs i sig ⟨self :: rest, kw⟩) Q E s
      rw [h2]; exact wpAny_pure q

/-- a built-in's method, called upon an object of a class below its own -/
theorem call_sub {id owner n : String} {b : Builtin} {self : Value} {rest : List Value} {Q : Value → Shared → Prop} (plain : plainId id = true) (hk : builtinKind id = some .slot ∨ builtinKind id = some .method) (hs : splitId id = some (owner, n))
    (hi : Looks (model prog w) s.heap (isInstance self (.type owner)) true) (hb : entryFor table id = some b) (ha : argsOk id ⟨self :: rest, []⟩)
    (hc : wpAny (model prog w) A.in1 (b ⟨self :: rest, []⟩) (fun fin s' => ∃ v, fin = .done (.ret v) ∧ Q v s') E s) : wpAny (model prog w) A (call (.builtin id) (self :: rest)) Q E s := by
  refine wpAny_call (codeAny_call_builtin plain hb (check_sub hk hs hi ha (wpAny_mono hc (fun fin s' h' => ?_) fun _ _ h' => h')))
  obtain ⟨v, rfl, hv⟩ := h'
  exact hv
theorem special_bi {name : Str} {id : String} {args : List Value} {Q : Option Value → Shared → Prop} (X : K.In s.heap) (I : InstAt s.heap x ox C od) (hs : findIn K (.ref C) name = some (some (.builtin id)))
    (hb : ∀ self, bindSpecial (.builtin id) self = pure (.builtin id, [self])) (h : wpAny M A (call (.builtin id) (.ref x :: args)) (fun v => Q (some v)) E s) : wpAny M A (callSpecial? (.ref x) name args) Q E s := by
  refine wpAny_bind (wpAny_bind (I.type.here ((looks_findIn X hs).here (wpAny_holding (wpAny_bind ?_)))))
  rw [hb]
  exact wpAny_pure (wpAny_bind (wpAny_mono h (fun _ _ z => wpAny_pure z) fun _ _ z => z))
theorem inst_sub {T : String} (X : K.In s.heap) (I : InstAt s.heap x ox C od) (h : subIn K (.ref C) (.type T) = some true) : Looks M s.heap (isInstance (.ref x) (.type T)) true := I.type.andThen (looks_subIn X h)

theorem split_lgi : splitId "list.__getitem__" = some ("list", "__getitem__") := by decide +kernel
theorem kind_lgi : builtinKind "list.__getitem__" = some .slot ∨ builtinKind "list.__getitem__" = some .method := by decide +kernel
theorem split_lsi : splitId "list.__setitem__" = some ("list", "__setitem__") := by decide +kernel
theorem kind_lsi : builtinKind "list.__setitem__" = some .slot ∨ builtinKind "list.__setitem__" = some .method := by decide +kernel
theorem split_lap : splitId "list.append" = some ("list", "append") := by decide +kernel
theorem kind_lap : builtinKind "list.append" = some .slot ∨ builtinKind "list.append" = some .method := by decide +kernel
theorem split_lpop : splitId "list.pop" = some ("list", "pop") := by decide +kernel
theorem kind_lpop : builtinKind "list.pop" = some .slot ∨ builtinKind "list.pop" = some .method := by decide +kernel
theorem split_llen : splitId "list.__len__" = some ("list", "__len__") := by decide +kernel
theorem kind_llen : builtinKind "list.__len__" = some .slot ∨ builtinKind "list.__len__" = some .method := by decide +kernel
theorem split_lin : splitId "list.__init__" = some ("list", "__init__") := by decide +kernel
theorem kind_lin : builtinKind "list.__init__" = some .slot ∨ builtinKind "list.__init__" = some .method := by decide +kernel
theorem split_lit : splitId "list.__iter__" = some ("list", "__iter__") := by decide +kernel
theorem kind_lit : builtinKind "list.__iter__" = some .slot ∨ builtinKind "list.__iter__" = some .method := by decide +kernel
end
end
-- MC2
section
open PySem.Builtin PySem.Builtin.ObjectAttr
noncomputable def lookE (name : Str) (es : List DictEntry) : Option Value := (es.find? (·.key.isStr name)).map (·.val)
/-- an object's own dict, as a map of names -/
noncomputable def DictIs (h : Heap) (d : Addr) (c : Nat) (m : Str → Option Value) : Prop := ∃ es n, h.get? d = some (dictOf es n) ∧ es.length ≤ c ∧ es.any (·.refKey) = false ∧ ∀ name, lookE name es = m name

theorem isStr_iff {k : Value} {name : Str} : k.isStr name = true ↔ ∃ t, k = .str name t := by
  cases k <;> simp [Value.isStr]
theorem getL_of {es : List DictEntry} {name : Str} (h : es.any (·.refKey) = false) : getL name es = some (lookE name es) := by
  unfold getL lookE
  cases es.find? (·.key.isStr name) with
  | some e => rfl
  | none => simp [h]
theorem put_ref {nm : Str} {hsh : Int} {tk : Tok} {v : Value} : ∀ {es : List DictEntry}, es.any (·.refKey) = false → (putL nm hsh (.str nm tk) v es).any (·.refKey) = false
  | [], _ => rfl
  | e :: r, h => by
    rw [List.any_cons, Bool.or_eq_false_iff] at h
    unfold putL
    split
    · rename_i hk
      obtain ⟨t, ht⟩ := isStr_iff.mp hk
      rw [List.any_cons, Bool.or_eq_false_iff]
      exact ⟨h.1, h.2⟩
    · rw [List.any_cons, Bool.or_eq_false_iff]
      exact ⟨h.1, put_ref h.2⟩
theorem put_len {nm : Str} {hsh : Int} {key v : Value} : ∀ {es : List DictEntry}, (putL nm hsh key v es).length ≤ es.length + 1
  | [] => Nat.le_refl _
  | e :: r => by
    unfold putL
    split
    · simp
    · have := put_len (nm := nm) (hsh := hsh) (key := key) (v := v) (es := r); simp; omega
theorem put_len2 {nm : Str} {hsh : Int} {key v : Value} : ∀ {es : List DictEntry}, (lookE nm es).isSome = true → (putL nm hsh key v es).length = es.length
  | [], h => by cases h
  | e :: r, h => by
    unfold putL
    split
    · simp
    · rename_i hk
      have : lookE nm (e :: r) = lookE nm r := by unfold lookE; rw [List.find?_cons_of_neg (by simpa using hk)]
      rw [this] at h
      simp [put_len2 h]
theorem put_look {nm : Str} {hsh : Int} {tk : Tok} {v : Value} {name : Str} : ∀ {es : List DictEntry}, lookE name (putL nm hsh (.str nm tk) v es) = if name = nm then some v else lookE name es
  | [] => by
    unfold putL lookE
    by_cases h : name = nm
    · subst h; simp [Value.isStr]
    · have h2 : Value.isStr (.str nm tk) name = false := by
        rw [Bool.eq_false_iff]; intro e; obtain ⟨t, e⟩ := isStr_iff.mp e; cases e; exact h rfl
      simp [h, h2]
  | e :: r => by
    have ih := put_look (nm := nm) (hsh := hsh) (tk := tk) (v := v) (name := name) (es := r)
    unfold putL
    split
    · rename_i hk
      by_cases h : name = nm
      · subst h
        unfold lookE
        rw [List.find?_cons_of_pos (by exact hk), if_pos rfl]; rfl
      · have h2 : e.key.isStr name = false := by
          rw [Bool.eq_false_iff]; intro e'
          obtain ⟨t, e1⟩ := isStr_iff.mp e'; obtain ⟨t', e2⟩ := isStr_iff.mp hk
          rw [e1] at e2; cases e2; exact h rfl
        unfold lookE
        rw [List.find?_cons_of_neg (by simpa using h2), List.find?_cons_of_neg (by simpa using h2), if_neg h]
    · rename_i hk
      by_cases h2 : e.key.isStr name = true
      · have h : name ≠ nm := fun e => hk (e ▸ h2)
        rw [if_neg h]
        unfold lookE
        rw [List.find?_cons_of_pos (by exact h2), List.find?_cons_of_pos (by exact h2)]
      · have e1 : lookE name (e :: putL nm hsh (.str nm tk) v r) = lookE name (putL nm hsh (.str nm tk) v r) := by
          unfold lookE; rw [List.find?_cons_of_neg (by simpa using h2)]
        have e2 : lookE name (e :: r) = lookE name r := by
          unfold lookE; rw [List.find?_cons_of_neg (by simpa using h2)]
        rw [e1, e2, ih]
theorem DictIs.grow {h h' : Heap} {d : Addr} {c : Nat} {m : Str → Option Value} (D : DictIs h d c m) (g : ∀ o, h.get? d = some o → h'.get? d = some o) : DictIs h' d c m :=
  let ⟨es, n, a, b, c, e⟩ := D; ⟨es, n, g _ a, b, c, e⟩

section
variable {prog : Program} {w : World} {A : Around} {E : Value → Shared → Prop} {s : Shared} {K : Frag} {x C dx : Addr} {ox : Obj} {c : Nat} {m : Str → Option Value} {name : Str} {v : Value}

/-- an object with its dict -/
structure In (h : Heap) (x dx C : Addr) (ox : Obj) (c : Nat) (m : Str → Option Value) : Prop where
  at_ : h.get? x = some ox
  cls : ox.cls = .ref C
  no : notCls ox = true
  dict : ox.dict = some dx
  ns : DictIs h dx c m
theorem In.inst {h : Heap} (I : In h x dx C ox c m) : ∃ es n, InstAt h x ox C (some (dictOf es n)) ∧ es.any (·.refKey) = false ∧ ∀ name, lookE name es = m name := by
  obtain ⟨es, n, a, b, c', e⟩ := I.ns
  exact ⟨es, n, ⟨I.at_, I.cls, I.no, by rw [I.dict]; exact a⟩, c', e⟩

theorem get_attr {expr : Bool} {Q : Value → Shared → Prop} {attr : Option Value} (X : K.In s.heap) (I : In s.heap x dx C ox c m) (hg : plainGet K C name = true) (hh : hasDictIn K C = true)
    (ha : findIn K (.ref C) name = some attr) (hn : noGet K attr = true) (hl : m name = some v) (hv : handedIn v = true) (h : Q v { s with toks := s.toks + 1 }) :
    wpAny (model prog w) A (getAttr (.ref x) name expr) Q E s := by
  obtain ⟨es, n, J, c, e⟩ := I.inst
  exact get_value X J (plainGet_of hg).1 (findObj_own hh ha hn (by rw [lookIn_dict, getL_of c, e, hl])) hv h
theorem get_meth {pl : Sem Bool} {Q : Value × List Value → Shared → Prop} {f : Addr} (X : K.In s.heap) (I : In s.heap x dx C ox c m) (hg : plainGet K C name = true)
    (hf : findIn K (.ref C) name = some (some (.ref f))) (ht : isFn K (.ref f) = true) (hl : m name = none) (h : Q (.ref f, [.ref x]) s) : wpAny (model prog w) A (getMethod (.ref x) name pl) Q E s := by
  obtain ⟨es, n, J, c, e⟩ := I.inst
  exact method_fn X J (plainGet_of hg).1 (plainGet_of hg).2 hf (beq_iff_eq.mp ht) (by show (lookIn name (dictOf es n)).map _ = _; rw [lookIn_dict, getL_of c, e, hl]; rfl) h

theorem set_attr {Q : Unit → Shared → Prop} {cd : ClassData} (X : K.In s.heap) (I : In s.heap x dx C ox c m) (hc : clsIn K C = some cd) (hrl : refuseLoop (.ref x) "__setattr__" cd.mro = pure ()) (hobj : mroIn K C (.type "object") = some true)
    (ht : takerIn K C name = some none) (hd' : cd.hasDict = true) (hs : findIn K (.ref C) "__setattr__" = some (some (.builtin "object.__setattr__")))
    (h : ∀ h' tk, (∀ b o, b ≠ dx → s.heap.get? b = some o → h'.get? b = some o) → DictIs h' dx (if (m name).isSome then c else c + 1) (fun y => if y = name then some v else m y) → Q () { s with heap := h', toks := tk })
    (hlen : c ≤ 500) :
    wpAny (model prog w) A (setAttr (.ref x) name v) Q E s := by
  obtain ⟨hp, gg, dd, tk, os⟩ := s
  dsimp only at X I h hlen
  obtain ⟨es, n, hdx, hl, hr, hm⟩ := I.ns
  have J : InstAt hp x ox C (some (dictOf es n)) := ⟨I.at_, I.cls, I.no, by rw [I.dict]; exact hdx⟩
  refine set_plain X J hs ?_
  have SF := PySem.F.store_object
  have sub : Looks (model prog w) hp (isInstance (.ref x) (.type "object")) true := J.type.andThen (looks_mroIn X hobj)
  refine codeAny_call_builtin SF.slot.plain SF.entry (@check_slot (model prog w) _ _ ⟨hp, gg, dd, tk + 1, os⟩ "object.__setattr__" "object" "__setattr__" (.ref x) [.str name tk, v] [] _ SF.kind SF.split sub (SF.args (.ref x) (.str name tk) v) ?_)
  obtain ⟨attr, ha, hr'⟩ := Option.bind_eq_some_iff.mp ht
  have hmro : Looks (model prog w) hp (mroOf (.ref C)) cd.mro := (looks_clsIn X hc).andThen .now
  have L3 : Looks (model prog w) hp (storeTaker? attr) none := by
    cases attr with
    | none => exact .now
    | some a =>
      obtain ⟨b, hb, hbb⟩ := Option.map_eq_some_iff.mp hr'
      refine (looks_takesIn X hb).andThen ?_
      cases b with
      | true => cases hbb
      | false => exact .now
  rw [osa_eq, refuse_eq]
  refine wpAny_bind (wpAny_bind (J.type.at (wpAny_bind (hmro.at ?_))))
  rw [hrl]
  refine wpAny_pure (wpAny_bind (J.type.at (wpAny_bind ((looks_findIn X ha).at (wpAny_bind (L3.at ?_))))))
  obtain ⟨hx, hcl, hn, -⟩ := J
  have hdict := I.dict
  obtain ⟨oc, odi, oda, osl⟩ := ox
  dsimp only at hcl hdict
  subst hcl hdict
  refine wpAny_bind (wpAny_pure (wpAny_bind (wpAny_bind (wpAny_loadPart hx (wpAny_bind ((looks_clsIn X hc).at ?_))))))
  rw [hd']
  refine wpAny_pure (a := some dx) (wpAny_bind (wpAny_pure (wpAny_bind ?_)))
  unfold nsSet
  refine wpAny_bind (wpAny_bind (wpAny_askSetting (wpAny_pure (wpAny_bind (wpAny_mkText (wpAny_bind (wpAny_loadPart hdx ?_)))))))
  dsimp only
  have c' : (!es.toArray.any (·.key.isStr name) && es.toArray.any (·.refKey)) = false := by
    rw [← Array.any_toList, ← Array.any_toList]
    show (!es.any _ && es.any _) = false
    rw [hr, Bool.and_false]
  rw [aRefKeyMayBeTheName_at, c']
  have hpl := put_len (nm := name) (hsh := PyData.keyHash w.params name) (key := .str name (tk + 1)) (v := v) (es := es)
  have D' : (hp.update dx (Obj.putName name (PyData.keyHash w.params name) (.str name (tk + 1)) v)).get? dx = some (dictOf (putL name (PyData.keyHash w.params name) (.str name (tk + 1)) v es) (putN name es n)) := by
    rw [Heap.get?_update_self _ hdx (by rw [putName_dict]; rfl), putName_dict]
  refine wpAny_updatePart hdx ?_
  refine wpAny_bind (wpAny_lookBehind D' (pastItsLine_dict (by rw [List.size_toArray, sizeLine_eq]; omega)) ?_)
  refine wpAny_pure (h _ _ (fun b o hb e => Heap.get?_update_of_ne _ (Ne.symm hb) e) ⟨_, _, D', ?_, put_ref hr, fun nm' => ?_⟩)
  · split
    · rename_i h1; rw [put_len2 (by rw [hm]; exact h1)]; exact hl
    · omega
  · rw [put_look, hm]
end
end
-- MC3
section
open PySem.Builtin PySem.Builtin.ObjectAttr
noncomputable def accO (d : Addr) (vs : List Value) (k : Nat) : Obj := { cls := .ref 178, dict := some d, data := .seq vs.toArray k }
section
variable {P : Params}
theorem f_getitem : findIn (hd.heap_1 P) (.ref 178) "__getitem__" = some (some (.builtin "list.__getitem__")) := rfl
theorem f_setitem : findIn (hd.heap_1 P) (.ref 178) "__setitem__" = some (some (.builtin "list.__setitem__")) := rfl
theorem f_iter : findIn (hd.heap_1 P) (.ref 178) "__iter__" = some (some (.builtin "list.__iter__")) := rfl
theorem f_append : findIn (hd.heap_1 P) (.ref 178) "append" = some (some (.builtin "list.append")) := rfl
theorem f_sub : subIn (hd.heap_1 P) (.ref 178) (.type "list") = some true := rfl
theorem f_noseq : noSeq (hd.heap_1 P) 178 = true := rfl
end
section
variable {prog : Program} {w : World} {A : Around} {E : Value → Shared → Prop} {s : Shared} {P : Params} {ac d c k : Nat} {vs : List Value} {m : Str → Option Value} {v : Value}

theorem key_acc {M : Model} {key : Value} {name : Str} {Q : Value → Shared → Prop} (X : (hd.heap_1 P).In s.heap) (I : In s.heap ac d 178 (accO d vs k) c m) (h : Q key s) : wpAny M A (sequenceKey (.ref ac) key name) Q E s := by
  obtain ⟨es, n, J, _, _⟩ := I.inst
  unfold sequenceKey
  refine wpAny_bind (J.type.here ?_)
  refine wpAny_bind ((anyM_none X f_noseq).here ?_)
  rw [if_pos (show (!false) = true from rfl)]
  exact wpAny_pure h

theorem acc_itemZ {kk : Int} {t : Tok} {Q : Value → Shared → Prop} (X : (hd.heap_1 P).In s.heap) (I : In s.heap ac d 178 (accO d vs k) c m) (h0 : 0 ≤ kk) (hfit : kk < 2 ^ 63) (hj : vs.toArray[kk.toNat]? = some v) (h : Q v s) : wpAny (model prog w) A (getItem (.ref ac) (.int kk t)) Q E s := by
  obtain ⟨es, n, J, _, _⟩ := I.inst
  have ho := I.at_
  unfold getItem
  try with_reducible refine wpAny_holding ?_
  refine wpAny_bind (key_acc X I ?_)
  refine wpAny_bind (special_bi X J f_getitem slot_list_getitem.bind (call_sub slot_list_getitem.plain kind_lgi split_lgi (inst_sub X J f_sub) entry_list_getitem (args_list_getitem _ _) ?_))
  show wpAny _ _ (Builtin.List.listSubscript? (.int kk t) >>= _) _ _ s
  refine wpAny_bind (wpAny_listSubscript_int (fitsIndex_of h0 hfit) ?_)
  clear hfit
  obtain ⟨j, rfl⟩ := Int.eq_ofNat_of_zero_le h0
  have hx' : vs.toArray[j]? = some v := hj
  show wpAny _ _ ((seqItemAt ac j >>= fun r => pure (r.map (j, ·))) >>= _) _ _ s
  refine wpAny_bind (wpAny_bind (wpAny_seqItemAt ho rfl (wpAny_pure ?_)))
  rw [hx']
  first
    | exact wpAny_bind (wpAny_pure (wpAny_pure ⟨v, rfl, wpAny_pure h⟩))
    | exact wpAny_pure ⟨v, rfl, wpAny_pure h⟩
theorem acc_item {j : Nat} {t : Tok} {Q : Value → Shared → Prop} (X : (hd.heap_1 P).In s.heap) (I : In s.heap ac d 178 (accO d vs k) c m) (hj : vs[j]? = some v) (hz : j < 2 ^ 60) (h : Q v s) : wpAny (model prog w) A (getItem (.ref ac) (.int j t)) Q E s :=
  acc_itemZ X I (by omega) (by omega) (by simpa using hj) h

theorem acc_slice {sl : Addr} {vl vu vt : Value} {lo hi st : Option Int} {Q : Value → Shared → Prop} (X : (hd.heap_1 P).In s.heap) (I : In s.heap ac d 178 (accO d vs k) c m) (hs : s.heap.IsSliceOf sl vl vu vt) (pl : IsPart vl lo) (pu : IsPart vu hi) (ps : IsPart vt st) (h0 : st ≠ some 0)
    (h : Q (.ref s.heap.objs.size) { s with heap := s.heap.push (listO (pickD vs lo hi st) 0) }) (hz : vs.length ≤ sizeLine) : wpAny (model prog w) A (getItem (.ref ac) (.ref sl)) Q E s := by
  obtain ⟨es, n, J, _, _⟩ := I.inst
  have ho := I.at_
  obtain ⟨os, hos, hcs, hds⟩ := id hs
  have hTs : s.TypeIs (.ref sl) "slice" := ⟨os, hos, hcs⟩
  have hsz : vs.toArray.size ≤ sizeLine := by simpa using hz
  unfold getItem
  try with_reducible refine wpAny_holding ?_
  refine wpAny_bind (key_acc X I ?_)
  refine wpAny_bind (special_bi X J f_getitem slot_list_getitem.bind (call_sub slot_list_getitem.plain kind_lgi split_lgi (inst_sub X J f_sub) entry_list_getitem (args_list_getitem _ _) ?_))
  show wpAny _ _ (Builtin.List.listSubscript? (.ref sl) >>= _) _ _ s
  refine wpAny_bind ?_
  unfold Builtin.List.listSubscript?
  refine wpAny_bind (wpAny_specialOf hTs slice_no_index ?_)
  simp only [Option.isNone_none, if_true]
  refine wpAny_pure ?_
  show wpAny _ _ (typeOf (.ref sl) >>= _) _ _ s
  refine wpAny_bind (wpAny_typeOf hTs ?_)
  rw [if_neg (by decide)]
  rw [listSliceParts_eq]
  have hstep : ¬ ((rawPart st == rawInt 0) = true) := by
    cases st with
    | none => exact Bool.false_ne_true
    | some c =>
      intro hh
      have : c = 0 := by simpa [rawPart, rawInt] using hh
      exact h0 (by rw [this])
  refine wpAny_bind (wpAny_bind (wpAny_field hos hds (x := vt) rfl (wpAny_bind (wpAny_listPart ps ?_))))
  rw [if_neg hstep]
  refine wpAny_bind (wpAny_field hos hds (x := vl) rfl (wpAny_bind (wpAny_listPart pl ?_)))
  refine wpAny_bind (wpAny_field hos hds (x := vu) rfl (wpAny_bind (wpAny_listPart pu (wpAny_pure ?_))))
  refine wpAny_bind (m := Builtin.List.listItems (.ref ac)) ?_
  unfold Builtin.List.listItems
  refine wpAny_bind (wpAny_seqItems ho rfl (wpAny_pure ?_))
  refine wpAny_bind (wpAny_of_eq (sliceIndices_raw lo hi st vs.toArray.size h0) ?_)
  have h : Q (.ref s.heap.objs.size) { s with heap := s.heap.push { cls := .type "list", data := .seq (slicePick vs.toArray lo hi st) } } := by rw [slicePick_toList]; exact h
  exact wpAny_bind (wpAny_newObj_type (wpAny_pure ⟨_, rfl, wpAny_pure h⟩) (Nat.le_trans (slicePick_size_le vs.toArray lo hi st) hsz))

theorem acc_upd {f : Array Value → Array Value} {ws : List Value} (hf : f vs.toArray = ws.toArray) {h : Heap} (ho : h.get? ac = some (accO d vs k)) : ∃ k', (h.update ac (Obj.mapSeq f)).get? ac = some (accO d ws k') := by
  refine ⟨if (f vs.toArray).size == vs.toArray.size then k else k + 1, (Heap.get?_update_self _ ho (by rfl)).trans ?_⟩
  unfold accO Obj.mapSeq
  simp only [hf]

theorem acc_append {u : Value} {Q : Value → Shared → Prop} (X : (hd.heap_1 P).In s.heap) (I : In s.heap ac d 178 (accO d vs k) c m) (hz : vs.length ≤ sizeLine)
    (h : ∀ h' k', Heap.SameBut ac s.heap h' → h'.get? ac = some (accO d (vs ++ [u]) k') → Q .none { s with heap := h' }) : wpAny (model prog w) A (call (.builtin "list.append") [.ref ac, u]) Q E s := by
  obtain ⟨es, n, J, _, _⟩ := I.inst
  refine call_sub PySem.F.slot_list_append.plain kind_lap split_lap (inst_sub X J f_sub) PySem.F.entry_list_append (args_list_append _ _) ?_
  show wpAny _ _ (updateSeq ac (·.push u) >>= fun _ => ret .none) _ _ s
  refine wpAny_bind ?_
  obtain ⟨k', e⟩ := acc_upd (f := (·.push u)) (ws := vs ++ [u]) (by simp) I.at_
  exact wpAny_updateSeq I.at_ rfl (wpAny_pure ⟨.none, rfl, h _ k' (Heap.SameBut.update ..) e⟩) (by simpa using hz) (by simp; omega)

theorem acc_len {Q : Value → Shared → Prop} (X : (hd.heap_1 P).In s.heap) (I : In s.heap ac d 178 (accO d vs k) c m) (h : Q (.int vs.length s.toks) { s with toks := s.toks + 1 }) : wpAny (model prog w) A (call (.builtin "list.__len__") [.ref ac]) Q E s := by
  obtain ⟨es, n, J, _, _⟩ := I.inst
  refine call_sub PySem.F.slot_list_len.plain kind_llen split_llen (inst_sub X J f_sub) PySem.F.entry_list_len (PySem.F.args_list_len_1 _) ?_
  have ho := I.at_
  obtain ⟨hp, g, dd, tk, os⟩ := s
  dsimp only at ho h
  unfold Builtin.«list.__len__»
  wp_walk
  exact ⟨_, rfl, by simpa [accO] using h⟩

theorem acc_init_b {Q : Value → Shared → Prop} (I : In s.heap ac d 178 (accO d [] k) c m) (h : ∀ h' k', Heap.SameBut ac s.heap h' → h'.get? ac = some (accO d [] k') → Q .none { s with heap := h' }) : wpAny (model prog w) A (Builtin.«list.__init__» ⟨[.ref ac], []⟩) (fun fin s' => ∃ v, fin = .done (.ret v) ∧ Q v s') E s := by
  have ho := I.at_
  obtain ⟨k', e⟩ := acc_upd (f := fun _ => #[]) (ws := []) (by simp) ho
  obtain ⟨hp, g, dd, tk, os⟩ := s
  dsimp only at ho h e
  unfold Builtin.«list.__init__»
  wp_walk using (wpAny_updateSeq ho rfl), wpAny_loadPart' ho
  exact ⟨_, rfl, h _ _ (Heap.SameBut.update ..) e⟩

theorem acc_pop_b {u : Value} {Q : Value → Shared → Prop} (I : In s.heap ac d 178 (accO d (vs ++ [u]) k) c m) (hz : vs.length ≤ 1000)
    (h : ∀ h' k', Heap.SameBut ac s.heap h' → h'.get? ac = some (accO d vs k') → Q u { s with heap := h' }) : wpAny (model prog w) A (Builtin.«list.pop» ⟨[.ref ac], []⟩) (fun fin s' => ∃ v, fin = .done (.ret v) ∧ Q v s') E s := by
  have ho := I.at_
  obtain ⟨hp, g, dd, tk, os⟩ := s
  dsimp only at ho h
  unfold Builtin.«list.pop»
  wp_walk using (wpAny_updateSeq ho rfl), wpAny_loadPart' ho
  have e1 : ((seqIndex? (-1) (vs ++ [u]).toArray.size).bind fun k => (vs ++ [u]).toArray[k]?.map (k, ·)) = some (vs.length, u) := by
    have : seqIndex? (-1) (vs ++ [u]).toArray.size = some vs.length := by
      simp [seqIndex?]; omega
    rw [this]; simp
  obtain ⟨k', e⟩ := acc_upd (f := fun xs => xs.eraseIdxIfInBounds vs.length) (ws := vs) (by
    have := kl_erase vs [] u
    simpa using this) ho
  show wpAny _ _ (match ((seqIndex? (-1) (vs ++ [u]).toArray.size).bind fun k => (vs ++ [u]).toArray[k]?.map (k, ·)) with | some (k, x) => _ | none => _) _ _ _
  rw [e1]
  refine wpAny_bind (wpAny_updateSeq ho rfl (wpAny_pure ⟨u, rfl, h _ k' (Heap.SameBut.update ..) e⟩) (by simp; rw [sizeLine_eq]; omega) (by rw [kl_erase vs [] u]; simp; rw [sizeLine_eq]; omega))
end
end
-- MC4
section
open PySem.Builtin PySem.Builtin.ObjectAttr PySem.Builtin.Getset_descriptor
section
variable {prog : Program} {w : World} {M : Model} {A : Around} {E : Value → Shared → Prop} {P : Params} {R : Result → Shared → Prop} {h : Heap} {g : Array GenState} {d : Drawn} {t : Nat} {os : OsState}

theorem lk_made (X : (hd.heap_1 P).In h) : Looks M h (Bind.madeBy (.ref 178)) (some "list.__new__") := Looks.of_peek X (by with_unfolding_all rfl)
theorem lk_base (X : (hd.heap_1 P).In h) : Looks M h (Bind.staticBase (.ref 178)) (.ref 178) := Looks.of_peek X (by with_unfolding_all rfl)
theorem lk_call (X : (hd.heap_1 P).In h) : Looks M h (specialOf (.ref 178) "__call__") (some (.builtin "type.__call__")) := Looks.of_peek X (by with_unfolding_all rfl)
theorem lk_typ (X : (hd.heap_1 P).In h) : Looks M h (isInstance (.ref 178) (.type "type")) true := Looks.of_peek X (by with_unfolding_all rfl)
theorem lk_isType (X : (hd.heap_1 P).In h) : Looks M h (isType (.ref 178)) true := Looks.of_peek X (by with_unfolding_all rfl)
theorem lk_sub (X : (hd.heap_1 P).In h) : Looks M h (isSubtype (.ref 178) (.type "list")) true := Looks.of_peek X (by with_unfolding_all rfl)
theorem lk_self (X : (hd.heap_1 P).In h) : Looks M h (isSubtype (.ref 178) (.ref 178)) true := Looks.of_peek X (by with_unfolding_all rfl)
theorem lk_init (X : (hd.heap_1 P).In h) : Looks M h (typeLookup (.ref 178) "__init__") (some (.ref 115)) := Looks.of_peek X (by with_unfolding_all rfl)
theorem lk_new (X : (hd.heap_1 P).In h) : Looks M h (typeLookup (.ref 178) "__new__") (some (.builtin "list.__new__")) := Looks.of_peek X (by with_unfolding_all rfl)
theorem kind_new : builtinKind "list.__new__" = some .builtinFn := by decide +kernel
theorem split_new : splitId "list.__new__" = some ("list", "__new__") := by decide +kernel
theorem new_acc {v : Value} (X : (hd.heap_1 P).In h) (hq : R (.ok (.ret (.ref (h.objs.size + 1)))) ⟨(h.push emptyDict).push (accO h.objs.size [] 0), g, d, t, os⟩) :
    codeAny (model prog w) A (.call (.builtin "list.__new__") ⟨[.ref 178, v], []⟩) R ⟨h, g, d, t, os⟩ := by
  have made := lk_made (M := model prog w) X
  have base := lk_base (M := model prog w) X
  have isT := lk_isType (M := model prog w) X
  have sub := lk_sub (M := model prog w) X
  have hown := owner_list_new
  have hC : ∃ oc, h.get? 178 = some oc ∧ ∃ cd, oc.data = .cls cd ∧ cd.hasDel = false := ⟨_, X 178 _ rfl, _, rfl, rfl⟩
  obtain ⟨oc, hC, cd, hcd, hdel⟩ := hC
  refine codeAny_of_tree ?_
  show wpAny _ A.in1 (do checkBuiltinCall "list.__new__" ⟨[.ref 178, v], []⟩; again (.builtin "list.__new__" ⟨[.ref 178, v], []⟩)) _ _ _
  refine wpAny_bind ?_
  have chk : ∀ {Q : Unit → Shared → Prop} {E : Value → Shared → Prop}, Q () ⟨h, g, d, t, os⟩ → wpAny (model prog w) A.in1 (checkBuiltinCall "list.__new__" ⟨[.ref 178, v], []⟩) Q E ⟨h, g, d, t, os⟩ := by
    intro Q E hQ
    simp only [checkBuiltinCall, kind_new, split_new]
    repeat lk
    exact hQ
  refine chk (wpAny_pure ⟨plainId_quiet F.plain_list_new _, codeAny_builtin_stack F.entry_list_new rfl fun p st => ?_⟩)
  rw [Around.under_plainId F.plain_list_new _]
  simp only [hown]
  repeat lk
  refine nd_load (Heap.get?_push_of_some _ (Heap.get?_push_of_some _ hC)) (nd_pure ?_)
  rw [hcd]
  try dsimp only
  rw [hdel]
  repeat lk
  rw [Heap.size_push]
  exact hq

theorem make_acc {v : Value} (X : (hd.heap_1 P).In h)
    (hq : codeAny (model prog w) (A.under (.builtin "type.__call__" ⟨[.ref 178, v], []⟩)) (.call (.ref 115) ⟨[.ref (h.objs.size + 1), v], []⟩) (InitBack (h.objs.size + 1) R) ⟨(h.push emptyDict).push (accO h.objs.size [] 0), g, d, t, os⟩) :
    codeAny (model prog w) A (.call (.ref 178) ⟨[v], []⟩) R ⟨h, g, d, t, os⟩ := by
  have hC : ∃ oc, h.get? 178 = some oc ∧ ∃ cd, oc.data = .cls cd ∧ cd.mro.isEmpty = false := ⟨_, X 178 _ rfl, _, rfl, rfl⟩
  obtain ⟨oc, hC, cd, hcd, e4⟩ := hC
  have call := lk_call (M := model prog w) X
  have typ := lk_typ (M := model prog w) X
  have made := lk_made (M := model prog w) X
  refine codeAny_of_tree ?_
  show wpAny _ _ (callAny (.ref 178) _) _ _ _
  refine nd_load hC ?_
  obtain ⟨occ, ocd, ocdt, ocs⟩ := oc
  dsimp only at hcd
  subst hcd
  show wpAny _ _ (callAny.viaDunder (.ref 178) _) _ _ _
  unfold callAny.viaDunder
  refine wpAny_bind (call.at ?_)
  dsimp only
  rw [tc_bind]
  refine wpAny_bind (wpAny_pure (wpAny_bind (wpAny_pure ?_)))
  refine wpAny_pure (a := Fin.again (.call (.builtin "type.__call__") ⟨.ref 178 :: [v], []⟩)) (And.intro rfl ?_)
  refine codeAny_call_builtin_at (Code.quiet_builtin _ (by decide +kernel)) entry_typeCall (check_slot tc_kind tc_split typ (tc_args _ _ _) ?_)
  unfold Builtin.«type.__call__»
  have hm : Looks (model prog w) h (mroOf (.ref 178)) cd.mro := ((Looks.ld (part := none) hC).andThen .now).andThen .now
  repeat (first | simp only [e4, Bool.false_eq_true, if_false] | with_reducible refine wpAny_call ?_ | lk)
  refine new_acc X ?_
  have k : ∀ b o, h.get? b = some o → ((h.push emptyDict).push (accO h.objs.size [] 0)).get? b = some o := fun b o e => Heap.get?_push_of_some _ (Heap.get?_push_of_some _ e)
  have hx : ((h.push emptyDict).push (accO h.objs.size [] 0)).get? (h.objs.size + 1) = some (accO h.objs.size [] 0) := by
    have := Heap.get?_push_size (h.push emptyDict) (o := accO h.objs.size [] 0) rfl
    rwa [Heap.size_push] at this
  have X' : (hd.heap_1 P).In ((h.push emptyDict).push (accO h.objs.size [] 0)) := X.keeps k
  have t1 : Looks (model prog w) ((h.push emptyDict).push (accO h.objs.size [] 0)) (typeOf (.ref (h.objs.size + 1))) (.ref 178) := (Looks.ld hx).andThen .now
  have s1 := lk_self (M := model prog w) X'
  have i1 := lk_init (M := model prog w) X'
  have b1 : Looks (model prog w) ((h.push emptyDict).push (accO h.objs.size [] 0)) (bindSpecial (.ref 115) (.ref (h.objs.size + 1))) (.ref 115, [.ref (h.objs.size + 1)]) := bind_fn X' _ rfl
  unfold isInstance callSpecial? specialOf
  repeat (first | with_reducible refine wpAny_call ?_ | lk)
  refine codeAny_mono hq fun r s' z => ?_
  rcases r with e | (v | _ | _ | _) <;> first | exact z | exact z.elim | skip
  obtain ⟨rfl, z⟩ := z
  exact wpAny_pure (wpAny_pure z)
end
end
-- MC5
section
open PySem.Builtin PySem.Builtin.ObjectAttr
section
variable {prog : Program} {w : World} {A : Around} {E : Value → Shared → Prop} {s : Shared} {P : Params} {ac d c k : Nat} {vs ws : List Value} {m : Str → Option Value} {v : Value}

theorem letGo_pts {M : Model} {Q : Unit → Shared → Prop} : ∀ {l keep : List Value}, Q () s → wpAny M A (letGo l keep) Q E s
  | [], _, h => wpAny_pure h
  | _ :: r, keep, h => by
    unfold letGo
    exact wpAny_bind (wpAny_holding (wpAny_point (letGo_pts (l := r) h)))

theorem acc_setSlice {sl l j : Nat} {vl : Value} {lo : Option Int} {start : Nat} {Q : Unit → Shared → Prop} (X : (hd.heap_1 P).In s.heap) (I : In s.heap ac d 178 (accO d vs k) c m) (hs : s.heap.IsSliceOf sl vl .none .none) (pl : IsPart vl lo)
    (hl : s.heap.get? l = some (listO ws j)) (hne : ac ≠ l) (hb : sliceBounds lo none none vs.length = ((start : Int), (vs.length : Int), 1)) (hst : start ≤ vs.length) (hz : vs.length ≤ 1000) (hz2 : ws.length ≤ 1000)
    (h : ∀ h' k', Heap.SameBut ac s.heap h' → h'.get? ac = some (accO d (vs.take start ++ ws) k') → Q () { s with heap := h' }) : wpAny (model prog w) A (setItem (.ref ac) (.ref sl) (.ref l)) Q E s := by
  obtain ⟨es, n, J, _, _⟩ := I.inst
  have ho := I.at_
  obtain ⟨os, hos, hcs, hds⟩ := id hs
  have hTs : s.TypeIs (.ref sl) "slice" := ⟨os, hos, hcs⟩
  have hTl : s.TypeIs (.ref l) "list" := ⟨_, hl, rfl⟩
  unfold setItem
  try with_reducible refine wpAny_holding ?_
  refine wpAny_bind (key_acc X I ?_)
  refine wpAny_bind (special_bi X J f_setitem PySem.F.slot_list_setitem.bind (call_sub PySem.F.slot_list_setitem.plain kind_lsi split_lsi (inst_sub X J f_sub) PySem.F.entry_list_setitem (PySem.F.args_list_setitem_3 _ _ _) ?_))
  show wpAny _ _ (Builtin.List.listSubscript? (.ref sl) >>= _) _ _ s
  refine wpAny_bind ?_
  unfold Builtin.List.listSubscript?
  refine wpAny_bind (wpAny_specialOf hTs slice_no_index ?_)
  simp only [Option.isNone_none, if_true]
  refine wpAny_pure ?_
  show wpAny _ _ (typeOf (.ref sl) >>= _) _ _ s
  refine wpAny_bind (wpAny_typeOf hTs ?_)
  rw [if_neg (by decide)]
  rw [listSliceParts_eq]
  refine wpAny_bind (wpAny_bind (wpAny_field hos hds (x := .none) rfl (wpAny_bind (wpAny_listPart .none ?_))))
  rw [if_neg (show ¬ ((rawPart none == rawInt 0) = true) from Bool.false_ne_true)]
  refine wpAny_bind (wpAny_field hos hds (x := vl) rfl (wpAny_bind (wpAny_listPart pl ?_)))
  refine wpAny_bind (wpAny_field hos hds (x := .none) rfl (wpAny_bind (wpAny_listPart .none (wpAny_pure ?_))))
  obtain ⟨hp, g, dd, tk, oos⟩ := s
  dsimp only at ho h hl
  have hsame : Builtin.List.listSameRef (.ref ac) (.ref l) = false := by
    simp [Builtin.List.listSameRef, hne]
  rw [hsame]
  unfold Builtin.List.listAllItems Builtin.List.listItems
  have e1 := sliceIndices_raw lo none none vs.length (by simp)
  rw [hb] at e1
  have hcat : (vs.toArray.extract 0 start ++ ws.toArray) ++ vs.toArray.extract (max (start : Int) (vs.length : Int)).toNat vs.toArray.size = (vs.take start ++ ws).toArray := by
    have h1 : (max (start : Int) (vs.length : Int)).toNat = vs.length := by omega
    rw [h1]
    apply Array.ext'
    simp
  obtain ⟨k', e⟩ := acc_upd (f := fun xs => xs.extract 0 start ++ ws.toArray ++ xs.extract (max (start : Int) (vs.length : Int)).toNat xs.size) (ws := vs.take start ++ ws) hcat ho
  rw [if_neg (by decide)]
  refine wpAny_bind (m := (do let t ← typeOf (.ref l); _)) ?_
  refine wpAny_bind (wpAny_typeOf hTl ?_)
  rw [if_pos (by rfl)]
  refine wpAny_bind (wpAny_seqItems hl rfl (wpAny_pure ?_))
  refine wpAny_bind (wpAny_bind (wpAny_seqItems ho rfl (wpAny_pure ?_)))
  refine wpAny_bind (wpAny_of_eq (a := ((start : Int), (vs.length : Int), (1 : Int))) (by exact e1) ?_)
  dsimp only
  rw [if_pos (by rfl)]
  have hfits : Builtin.List.listTooLong (vs.toArray.size + ws.toArray.size) = false := by
    unfold Builtin.List.listTooLong
    simp only [List.size_toArray, sizeLine_eq, decide_eq_false_iff_not]
    omega
  refine wpAny_bind (wpAny_rule ?_)
  rw [hfits, if_neg (by decide)]
  refine wpAny_bind (wpAny_updateSeq ho rfl ?_ (by simp [sizeLine_eq]; omega) (Nat.le_trans (Nat.le_of_eq (congrArg Array.size hcat)) (by simp [sizeLine_eq]; omega)))
  refine wpAny_bind (letGo_pts ?_)
  exact wpAny_pure ⟨.none, rfl, wpAny_pure (h _ k' (Heap.SameBut.update ..) e)⟩

theorem acc_iter {Q : Value → Shared → Prop} (X : (hd.heap_1 P).In s.heap) (I : In s.heap ac d 178 (accO d vs k) c m)
    (h : Q (.ref s.heap.objs.size) { s with heap := s.heap.push { cls := .type "list_iterator", data := .fields #[.ref ac, .int 0 0] } }) : wpAny (model prog w) A (pyIter (.ref ac)) Q E s := by
  obtain ⟨es, n, J, _, _⟩ := I.inst
  have one : ∀ {Q' : Value → Shared → Prop}, Q' (.ref s.heap.objs.size) { s with heap := s.heap.push { cls := .type "list_iterator", data := .fields #[.ref ac, .int 0 0] } } → wpAny (model prog w) A (call (.builtin "list.__iter__") [.ref ac]) Q' E s := fun hq => by
    refine call_sub PySem.F.slot_list_iter.plain kind_lit split_lit (inst_sub X J f_sub) PySem.F.entry_list_iter (PySem.F.args_list_iter_1 _) ?_
    show wpAny _ _ (do ret (← newFields "list_iterator" [.ref ac, rawInt 0])) _ _ s
    exact wpAny_bind (wpAny_newObj_type (wpAny_pure ⟨_, rfl, hq⟩))
  unfold pyIter
  refine wpAny_bind (wpAny_bind (J.type.here ((looks_findIn X f_iter).here ?_)))
  dsimp only
  have hit : ∀ s' : Shared, s' = { s with heap := s.heap.push { cls := .type "list_iterator", data := .fields #[.ref ac, .int 0 0] } } → s'.TypeIs (.ref s.heap.objs.size) "list_iterator" := by
    rintro _ rfl; exact ⟨_, Heap.get?_push_size _ rfl, rfl⟩
  have bnd : ∀ refuse : Sem Value, wpAny (model prog w) A (callSpecialIfBoundUnlessNone? (.ref ac) "__iter__" refuse) (fun r s' => ∃ v, r = some v ∧ v = .ref s.heap.objs.size ∧ s' = { s with heap := s.heap.push { cls := .type "list_iterator", data := .fields #[.ref ac, .int 0 0] } }) E s := by
    intro refuse
    simp only [callSpecialIfBoundUnlessNone?, bindSpecialIfBound?]
    refine wpAny_holding (wpAny_bind (wpAny_bind (wpAny_bind (J.type.here ((looks_findIn X f_iter).here ?_)))))
    refine wpAny_bind (wpAny_askSetting (wpAny_ite ?_))
    have fin : wpAny (model prog w) A (call (.builtin "list.__iter__") [.ref ac] >>= fun v => pure (some v)) (fun r s' => ∃ v, r = some v ∧ v = .ref s.heap.objs.size ∧ s' = { s with heap := s.heap.push { cls := .type "list_iterator", data := .fields #[.ref ac, .int 0 0] } }) E s :=
      wpAny_bind (one (wpAny_pure ⟨_, rfl, rfl, rfl⟩))
    have fin2 : wpAny (model prog w) A (if (Value.builtin "list.__iter__" == Value.none) = true then (refuse >>= fun v => pure (some v)) else (call (.builtin "list.__iter__") [.ref ac] >>= fun v => pure (some v))) (fun r s' => ∃ v, r = some v ∧ v = .ref s.heap.objs.size ∧ s' = { s with heap := s.heap.push { cls := .type "list_iterator", data := .fields #[.ref ac, .int 0 0] } }) E s := by
      rw [if_neg (show ¬ ((Value.builtin "list.__iter__" == Value.none) = true) from by decide)]
      exact fin
    split
    · exact wpAny_bind (wpAny_of_eq (PySem.F.slot_list_iter.bind _) (wpAny_pure (by exact fin2)))
    · exact wpAny_tryCatch (wpAny_bind (wpAny_of_eq (PySem.F.slot_list_iter.bind _) (wpAny_pure (by exact fin2))))
  refine wpAny_bind (wpAny_mono (bnd _) (fun r s' hr => ?_) fun _ _ e => e)
  obtain ⟨v, rfl, rfl, hs'⟩ := hr
  refine wpAny_bind (wpAny_specialOf (hit s' hs') slot_listiter_next.lookup (wpAny_pure ?_))
  rw [hs']; exact h
end
end
-- MC6
section
open PySem.Builtin PySem.Builtin.ObjectAttr
section
variable {prog : Program} {w : World} {A : Around} {E : Value → Shared → Prop} {s : Shared} {P : Params} {ac d k : Nat} {vs : List Value}

/-- the next of a list_iterator over the accumulator's own items -/
theorem accNext_item {it i : Nat} {x : Value} {Q : Option Value → Shared → Prop} (hit : s.heap.IsListIter it ac i) (ho : s.heap.get? ac = some (accO d vs k)) (hx : vs[i]? = some x)
    (hQ : ∀ h', h'.IsListIter it ac (i + 1) → Heap.SameBut it s.heap h' → Q (some x) { s with heap := h' }) : wpAny (model prog w) A (pyNext (.ref it)) Q E s := by
  obtain ⟨o, hio, hic, hid⟩ := id hit
  have hx' : vs.toArray[i]? = some x := by simpa using hx
  have fin : Q (some x) { s with heap := s.heap.update it (Obj.mapFields fun xs => xs.setIfInBounds 1 (rawInt ((i : Int) + 1))) } :=
    hQ _ ⟨_, Heap.get?_update_self _ hio (Obj.isFreed_of_fields (Obj.data_mapFields hid _)), (Obj.cls_mapFields ..).trans hic, by rw [Obj.data_mapFields hid]; simp [rawInt]⟩ (Heap.SameBut.update ..)
  unfold pyNext
  refine wpAny_bind (wpAny_attempt (wpAny_callSpecial?_slot (name := Str.ofString "__next__") hit.typeIs slot_listiter_next (wpAny_call_entry slot_listiter_next hit.typeIs entry_listiter_next ?_ (args_listiter_next _))))
  show wpAny _ _ (field (.ref it) 0 >>= _) _ _ s
  refine wpAny_bind (wpAny_field hio hid (x := .ref ac) rfl ?_)
  show wpAny _ _ (if (Value.ref ac == Value.none) = true then _ else _) _ _ s
  rw [if_neg (by simp)]
  show wpAny _ _ (field (.ref it) 1 >>= _) _ _ s
  refine wpAny_bind (wpAny_field hio hid (x := .int i 0) rfl ?_)
  show wpAny _ _ (seqItems? (.ref ac) >>= _) _ _ s
  refine wpAny_bind (wpAny_seqItems ho rfl ?_)
  simp only [Int.toNat_natCast, hx']
  exact wpAny_bind (wpAny_setField hio hid (by simp) (wpAny_pure ⟨x, rfl, wpAny_pure fin⟩))

theorem accNext_end {it i : Nat} {Q : Option Value → Shared → Prop} (hh : A.handled = none) (hit : s.heap.IsListIter it ac i) (ho : s.heap.get? ac = some (accO d vs k)) (hx : vs[i]? = none)
    (hQ : ∀ h', Heap.ExtBut it s.heap h' → Q none { s with heap := h' }) : wpAny (model prog w) A (pyNext (.ref it)) Q E s := by
  obtain ⟨o, hio, hic, hid⟩ := id hit
  have hx' : vs.toArray[i]? = none := by simpa using hx
  unfold pyNext
  refine wpAny_bind (wpAny_attempt (wpAny_callSpecial?_slot (name := Str.ofString "__next__") hit.typeIs slot_listiter_next (wpAny_call_entry slot_listiter_next hit.typeIs entry_listiter_next ?_ (args_listiter_next _))))
  show wpAny _ _ (field (.ref it) 0 >>= _) _ _ s
  refine wpAny_bind (wpAny_field hio hid (x := .ref ac) rfl ?_)
  show wpAny _ _ (if (Value.ref ac == Value.none) = true then _ else _) _ _ s
  rw [if_neg (by simp)]
  show wpAny _ _ (field (.ref it) 1 >>= _) _ _ s
  refine wpAny_bind (wpAny_field hio hid (x := .int i 0) rfl ?_)
  show wpAny _ _ (seqItems? (.ref ac) >>= _) _ _ s
  refine wpAny_bind (wpAny_seqItems ho rfl ?_)
  simp only [Int.toNat_natCast, hx']
  refine wpAny_bind (wpAny_rule (wpAny_bind (wpAny_setField hio hid (by simp) ?_)))
  show wpAny _ _ (newExc (.type "StopIteration") [] >>= _) _ _ _
  refine wpAny_bind ?_
  simp only [newExc, newTuple]
  refine wpAny_bind (wpAny_newObj_type ?_ (by size_fits))
  refine wpAny_bind (m := firstArgMember _ _) (wpAny_of_eq (a := Value.none) (by first | rfl | (simp only [firstArgMember]; rfl)) ?_)
  refine wpAny_newObj_type ?_ (by size_fits)
  simp only [raiseNew]
  refine wpAny_bind (wpAny_handled ?_)
  rw [show A.in1.handled = none from hh]
  refine wpAny_bind (wpAny_pure (wpAny_throw ?_))
  refine wpAny_bind (wpAny_isInstance (T := "StopIteration") (b := true) ⟨_, Heap.get?_push_size _ rfl, rfl⟩ isSubtype_stop ?_)
  exact wpAny_pure (hQ _ (((Heap.SameBut.update ..).extBut.push _).push _))

/-- the accumulator walked through, part by part -/
theorem WalksU.acc (hh : A.handled = none) (I : Addr) (hne : ac ≠ I) (Ts : Nat → Addr) (vals : Nat → Array Value) (hit : ∀ j, j < vs.length → vs[j]? = some (.ref (Ts j))) (hTI : ∀ j, j < vs.length → Ts j ≠ I) :
    WalksU prog w A I (I :: ac :: (List.range vs.length).map Ts) [I] vs.length (fun j v => v = vals j)
      (fun j h => h.IsListIter I ac j ∧ h.get? ac = some (accO d vs k) ∧ ∀ k, k < vs.length → h.IsTuple (Ts k) (vals k))
      (fun j T h => (j < vs.length ∧ T = Ts j) ∧ h.IsListIter I ac (j + 1) ∧ h.get? ac = some (accO d vs k) ∧ ∀ k, k < vs.length → h.IsTuple (Ts k) (vals k)) where
  sub := fun b hb => by simp at hb; simp [hb]
  frame := fun _ _ _ st hk => ⟨st.1.at fun o e => hk I (by simp) o e, hk ac (by simp) _ st.2.1,
    fun k hk' => (st.2.2 k hk').at fun o e => hk (Ts k) (List.mem_cons_of_mem _ (List.mem_cons_of_mem _ (List.mem_map.mpr ⟨k, List.mem_range.mpr hk', rfl⟩))) o e⟩
  item := fun i s Q E hi st hQ => by
    refine accNext_item st.1 st.2.1 (x := .ref (Ts i)) (hit i hi) fun h' hit' hs' => ?_
    have tup : ∀ k, k < vs.length → h'.IsTuple (Ts k) (vals k) := fun k hk' => (st.2.2 k hk').extBut hs'.extBut (hTI k hk')
    exact hQ (Ts i) (vals i) h' s.toks rfl (tup i hi) ⟨⟨hi, rfl⟩, hit', hs'.extBut _ _ hne st.2.1, tup⟩ fun b o hb e => hs'.extBut b o (fun h => hb (by simp [h])) e
  go := fun _ _ _ _ _ s Q _ hm hQ => wpAny_letOwnedTupleGo_listiter hm.2.1 (hQ s.heap hm.2 fun _ _ _ e => e)
  apart := fun j T _ hm hmem => by
    rcases List.mem_cons.mp hmem with e | e
    · exact hTI j hm.1.1 (hm.1.2 ▸ e)
    · cases e
  done := fun s Q E st hQ => accNext_end hh st.1 st.2.1 (by simp) fun h' he' => hQ h' s.toks fun b o hb e => he' b o (fun h => hb (by simp [h])) e
  self := fun _ _ _ _ st hQ => wpAny_pyIter_listiter st.1 hQ

/-- sum of a walk, from 0 -/
theorem call_sum2 {x : Value} {t : Tok} {Q : Value → Shared → Prop}
    (h : wpAny (model prog w) A.in1 (pyIter x) (fun it s₂ => ∃ I fp wr G n P St val, it = .ref I ∧ WalksS prog w A.in1 I fp wr G n P St ∧ St 0 s₂ ∧ (∀ b ∈ fp, b < s₂.heap.objs.size) ∧
      (∀ i v, P i v → ∃ t, v = .int (val i) t) ∧
      ∀ s' t', Moved wr G s₂ s' → Q (.int (preSum val n) t') s') E s) :
    wpAny (model prog w) A (call (.builtin "sum") [x, .int 0 t]) Q E s := by
  refine call_function_tree F.kind_sum F.plain_sum F.entry_sum (by unfold argsOk; kernel_rfl) ?_
  unfold Builtin.«sum»
  simp only [List.length_cons, List.length_nil]
  rw [if_neg (by decide)]
  refine wpAny_bind (wpAny_of_eq (show Builtin.Builtins.bindParams "sum" ["start"] 0 { pos := [.int 0 t] } = pure [some (.int 0 t)] from rfl) ?_)
  refine wpAny_bind (wpAny_mono h (fun it s₂ h₂ => ?_) fun _ _ e => e)
  obtain ⟨I, fp, wr, G, n, P, St, val, rfl, W, hst, hfp, hval, hQ⟩ := h₂
  dsimp only
  split
  rotate_left
  · rename_i hn; exact absurd (by rfl) hn
  refine wpAny_bind (wpAny_rule (wpAny_bind (wpAny_mkInt (wpAny_bind (wpAny_pure ?_)))))
  simp only [List.forIn_cons, List.forIn_nil]
  refine wpAny_bind (wpAny_bind (wpAny_bind (wpAny_isInstance (T := "int") (b := false) (typeIs_int _ _ _) PySem.sub_int_str ?_)))
  simp only [Bool.false_eq_true, if_false]
  refine wpAny_pure (wpAny_bind (wpAny_bind (wpAny_isInstance (T := "int") (b := false) (typeIs_int _ _ _) PySem.sub_int_bytes ?_)))
  simp only [Bool.false_eq_true, if_false]
  refine wpAny_pure (wpAny_bind (wpAny_bind (wpAny_isInstance (T := "int") (b := false) (typeIs_int _ _ _) PySem.sub_int_bytearray ?_)))
  simp only [Bool.false_eq_true, if_false]
  refine wpAny_pure (wpAny_pure ?_)
  refine wpAny_bind (wpAny_newObj_type ?_)
  have hSf : s₂.heap.objs.size ∉ fp := fun hm => Nat.lt_irrefl _ (hfp _ hm)
  refine wpAny_pure ⟨plainId_quiet F.plain_sum_loop _, codeAny_sum_loopAnyS W val hval s₂.heap.objs.size hSf n 0 _ _ 0 0 (.inl rfl) rfl (Nat.zero_le _)
    (W.frame 0 s₂ _ _ hst (by first | exact Nat.le_refl _ | exact Nat.le_succ _ | omega) fun b _ o e => Heap.get?_push_of_some _ e) (Heap.get?_push_size _ rfl) fun s' t' hm => ?_⟩
  exact hQ s' t' (hm.drop_new (by first | exact Nat.le_refl _ | exact Nat.le_succ _ | omega))
end
end
-- MC7
section
open PySem.Builtin PySem.Builtin.ObjectAttr
noncomputable abbrev partD (p : Str × Str) : D := .tup [.str p.1, .str p.2]
/-- the parts of a line, as they lie -/
noncomputable def PartsAt (X : Addr → Prop) (h : Heap) (vs : List Value) (ps : List (Str × Str)) : Prop := AllD X h vs (ps.map partD)
theorem PartsAt.at {X : Addr → Prop} {h : Heap} {vs : List Value} {ps : List (Str × Str)} (r : PartsAt X h vs ps) {j : Nat} (hj : j < ps.length) :
    ∃ t f g tf tg n, vs[j]? = some (.ref t) ∧ ps[j]? = some (f, g) ∧ ¬ X t ∧ h.get? t = some (tupO [.str f tf, .str g tg] n) := by
  have e : (ps.map partD)[j]? = some (partD ps[j]) := by simp [hj]
  obtain ⟨v, hv, q⟩ := AllD.get r e
  generalize hp : ps[j] = p at q
  obtain ⟨f, g⟩ := p
  cases q with
  | @tup t ws n _ nx ho r =>
  cases r with
  | cons q1 r =>
  cases r with
  | cons q2 r =>
  cases r
  cases q1 with
  | str _ tf =>
  cases q2 with
  | str _ tg =>
  exact ⟨t, f, g, tf, tg, n, hv, by rw [List.getElem?_eq_getElem hj, hp], nx, ho⟩
theorem passing_all (n : Nat) : passing (fun _ => true) n 0 = List.range n := by
  unfold passing
  rw [List.drop_zero, List.filter_eq_self.mpr (fun _ _ => rfl)]

/-- a generator as it was made -/
noncomputable def GenX (prog : Program) (w : World) (A : Around) (a : Addr) (H : Heap) (n : Nat) (F : Nat → Value → Prop) (s : Shared) : Prop :=
  ∃ fp wr g St, WalksS prog w A.in4 a fp wr (GenOnlyQ g) n F St ∧ St 0 s ∧ (∀ i s', St i s' → s'.TypeIs (.ref a) "generator") ∧ a ∈ fp ∧ (∀ b ∈ fp, b < s.heap.objs.size) ∧ ∀ b ∈ wr, H.get? b = none

/-- a code and its table -/
noncomputable def CodeT (h : Heap) (c T : Addr) (tab : Array Value) : Prop := h.IsCode c T tab ∧ h.TableAt c T tab
theorem code_keep {h h' : Heap} {c T : Addr} {tab : Array Value} (x : CodeT h c T tab) (k₁ : ∀ o, h.get? c = some o → h'.get? c = some o) (k₂ : ∀ o, h.get? T = some o → h'.get? T = some o) : CodeT h' c T tab := ⟨x.1.at2 k₁ k₂, x.2.at2 k₁ k₂⟩
theorem genexprCodeT {M : Model} {A : Around} {E : Value → Shared → Prop} {s : Shared} {env : Env} {c T : Addr} {ps : Array Value} {pos : Pos} {qualname : Str} {scope : Scope} {Q : Value → Shared → Prop} (hc : env.code = .ref c) (hok : CodeT s.heap c T ps)
    (hQ : ∀ code h' tk ps', Heap.ExtBut T s.heap h' → CodeT h' c T ps' → Q code { s with heap := h', toks := tk }) : wpAny M A (genexprCode env pos qualname scope) Q E s := by
  cases hf : codeAmong pos ps.toList with
  | none => exact wpAny_genexprCodeX hc hok.1 hok.2 hf fun c' h' tk hx _ _ h1 _ h2 _ => hQ _ h' tk _ hx ⟨h1, h2⟩
  | some c' => exact wpAny_genexprCode_hit hc hok.1 hf (hQ c' s.heap s.toks ps (fun b o _ e => e) hok)

section
variable {prog : Program} {w : World} {A : Around} {E : Value → Shared → Prop} {s : Shared} {P : Params} {B : Heap} {n ac d k c : Nat} {vs : List Value} {ps : List (Str × Str)} {m : Str → Option Value} {X : Addr → Prop}

theorem genexp_acc {env : Env} {elt : Expr} {xa xb y : Str} {pa pb pt py pos : Pos} {kt : Nat} {scope : Scope} {cd T : Addr} {tab : Array Value} {F : Str → Str → D} {mL : Str → Option Value} {Q : Value → Shared → Prop} (b : Bs P B) (gB : Grow B s.heap) (hT : B.get? T = none) (R : Room (n + 1) A)
    (hkf : env.scope.kind = .function) (hgl : env.globals = mainGlobals) (hbi : env.builtins = builtinsNs) (hcode : env.code = .ref cd) (hok : CodeT s.heap cd T tab) (hTX : X T) (hTac : T ≠ ac)
    (hky : env.kindOf y = some .local) (hns : s.heap.Ns env.locals mL) (hmy : mL y = some (.ref ac)) (KX : (hd.heap_1 P).In s.heap) (I : In s.heap ac d 178 (accO d vs k) c m) (hp : PartsAt X s.heap vs ps)
    (hco : scope.isCoroutine = false) (hclos : closureFor scope env = pure []) (hcell : ∀ z ∈ scope.names, z.2 ≠ .cell) (h0 : scope.names.lookup (".0" : Str) = some NameKind.local)
    (hxa : scope.names.lookup xa = some .local) (hxb : scope.names.lookup xb = some .local) (hab : xa ≠ xb) (hkind : scope.kind = .function)
    (helt : ∀ f g C code, (f, g) ∈ ps → Ev prog w B n (genEnv scope [] C code builtinsNs env) [(xa, .d (.str f)), (xb, .d (.str g))] elt (F f g))
    (hQ : ∀ a s' tab', (∀ b o, b ≠ T → s.heap.get? b = some o → s'.heap.get? b = some o) → CodeT s'.heap cd T tab' → (AllBare s.gens → AllBare s'.gens) → s'.drawn = s.drawn → s'.os = s.os →
      GenX prog w A a s.heap ps.length (fun j v => ∃ f g X' h', ps[j]? = some (f, g) ∧ IsD X' h' v (F f g)) s' → Q (.ref a) s')
    (hs : ∀ x, genFold (.Name y py) env x = pure x := by intro _; rfl) (hd : (y == ("__debug__" : Str)) = false := by decide) :
    wpAny (model prog w) A (eval (.GeneratorExp elt [⟨.Tuple [.Name xa pa, .Name xb pb] kt pt, .Name y py, [], 0⟩] scope pos) env) Q E s := by
  have hlen : vs.length = ps.length := by have := AllD.length hp; simpa using this
  refine wpAny_GeneratorExp_walksQTD R.1 hco hclos hcell h0 hxa hxb hab hkind (by have := R.2.1; show _ < 1000; omega) ?_ hs
  refine wpAny_Name (wpAny_loadName_local hkf hky hns hmy ?_) hd
  refine acc_iter KX I ⟨(b.nolimit.keeps gB).push _, ?_⟩
  have hTlt : T < s.heap.objs.size := by obtain ⟨o, vs', file, tf, flags, tg, inF, text, tt, op, ho, hd', h11, h2, h7, h9, h10, hop, _⟩ := hok.1; exact Heap.lt_size hop
  have hne : T ≠ s.heap.objs.size := Nat.ne_of_lt hTlt
  refine genexprCodeT hcode (code_keep hok (fun o e => Heap.get?_push_of_some _ e) fun o e => Heap.get?_push_of_some _ e) fun code h₃ tk₃ tab' hx₃ hok₃ => ?_
  have g₃ : ∀ b o, b ≠ T → s.heap.get? b = some o → h₃.get? b = some o := fun b o hb e => hx₃ b o hb (Heap.get?_push_of_some _ e)
  have gB₃ : Grow B h₃ := fun b o e => g₃ b o (fun z => by rw [z, hT] at e; cases e) (gB b o e)
  obtain ⟨mg, bm, ob, M⟩ := b.bmod
  refine wpAny_builtinsFor (m := mg) (bm := bm) (o := ob) (by rw [hgl]; exact M.ns.keeps gB₃) M.name M.ne (gB₃ _ _ M.obj) M.cls M.dict M.data ?_
  -- the walk
  let Ts : Nat → Addr := fun j => match vs[j]? with | some (.ref t) => t | _ => 0
  let vals : Nat → Array Value := fun j => match s.heap.get? (Ts j) with | some ⟨_, _, .seq xs _, _⟩ => xs | _ => #[]
  have at' : ∀ j, j < ps.length → ∃ f g tf tg n, vs[j]? = some (.ref (Ts j)) ∧ ps[j]? = some (f, g) ∧ ¬ X (Ts j) ∧ s.heap.get? (Ts j) = some (tupO [.str f tf, .str g tg] n) ∧ vals j = #[.str f tf, .str g tg] := fun j hj => by
    obtain ⟨t, f, g, tf, tg, n, e1, e2, e3, e4⟩ := hp.at hj
    have eT : Ts j = t := by simp only [Ts, e1]
    refine ⟨f, g, tf, tg, n, by rw [eT]; exact e1, e2, by rw [eT]; exact e3, by rw [eT]; exact e4, ?_⟩
    simp only [vals, eT, e4]
  have hI : ac ≠ s.heap.objs.size := Nat.ne_of_lt (Heap.lt_size I.at_)
  have hI₃ : h₃.get? s.heap.objs.size = some { cls := .type "list_iterator", data := .fields #[.ref ac, .int 0 0] } := hx₃ _ _ (Ne.symm hne) (Heap.get?_push_size _ rfl)
  have hTs : ∀ j, j < vs.length → Ts j ≠ T ∧ Ts j < s.heap.objs.size ∧ h₃.IsTuple (Ts j) (vals j) := fun j hj => by
    obtain ⟨f, g, tf, tg, n, e1, e2, e3, e4, e5⟩ := at' j (hlen ▸ hj)
    have e6 : Ts j ≠ T := fun z => e3 (z ▸ hTX)
    exact ⟨e6, Heap.lt_size e4, _, g₃ _ _ e6 e4, rfl, n, by rw [e5]⟩
  refine ⟨s.heap.objs.size, _, [s.heap.objs.size], vs.length, _, _, _, fun _ => true, fun i y => ∃ f g X' h', ps[i]? = some (f, g) ∧ IsD X' h' y (F f g), rfl,
    fun A' hA => (WalksU.acc (d := d) (k := k) (vs := vs) hA s.heap.objs.size hI Ts vals (fun j hj => by obtain ⟨f, g, tf, tg, n, e1, _⟩ := at' j (hlen ▸ hj); exact e1) fun j hj => Nat.ne_of_lt (hTs j hj).2.1).bound,
    fun i v hv => by obtain ⟨hi, rfl⟩ := hv; obtain ⟨f, g, tf, tg, n, e1, e2, e3, e4, e5⟩ := at' i (hlen ▸ hi); exact ⟨_, _, e5⟩,
    ⟨⟨_, hI₃, rfl, rfl⟩, g₃ _ _ (Ne.symm hTac) I.at_, fun j hj => (hTs j hj).2.2⟩, ?_, ?_, ?_, ?_, ?_⟩
  · intro z hz
    show z < h₃.objs.size
    rcases List.mem_cons.mp hz with rfl | hz
    · exact Heap.lt_size hI₃
    · rcases List.mem_cons.mp hz with rfl | hz
      · exact Heap.lt_size (g₃ _ _ (Ne.symm hTac) I.at_)
      · obtain ⟨j, hj, rfl⟩ := List.mem_map.mp hz
        obtain ⟨_, e, _⟩ := (hTs j (List.mem_range.mp hj)).2.2
        exact Heap.lt_size e
  · exact b.nolimit.keeps gB₃
  · intro hm
    obtain ⟨mc, ⟨o, es, ep, e, _⟩, _⟩ := b.nolimit
    have := gB _ _ e
    rw [List.mem_singleton.mp hm, get_size_none s.heap (Nat.le_refl _)] at this
    cases this
  · intro href hhref
    refine ⟨fun A' E' i va vb s₂ m₂ _ _ _ _ _ _ _ _ => wpAny_pure ⟨rfl, s₂.heap, s₂.toks, rfl, fun _ _ e => e⟩, ?_⟩
    intro A' E' i va vb s₂ m₂ hA hD hU hP _ hn₂ hma hmb hk₂
    obtain ⟨hi, hv⟩ := hP
    obtain ⟨f, g, tf, tg, nn, e1, e2, e3, e4, e5⟩ := at' i (hlen ▸ hi)
    rw [e5] at hv
    obtain ⟨rfl, rfl⟩ : va = .str f tf ∧ vb = .str g tg := by simpa using congrArg Array.toList hv
    have kk : ∀ z o, z ≠ s.heap.objs.size → h₃.get? z = some o → s₂.heap.get? z = some o := fun z o hz e => hk₂ z (List.mem_range.mpr (Heap.lt_size e)) (by simpa using hz) o (hhref z o e)
    have gB₂ : Grow B s₂.heap := fun z o e => kk z o (fun zz => by have := gB z o e; rw [zz, get_size_none s.heap (Nat.le_refl _)] at this; cases this) (gB₃ z o e)
    refine helt f g h₃.objs.size code (List.mem_of_getElem? e2) A' (fun _ => False) _ E' s₂ ⟨hA, by have := R.2.1; omega, by have := R.2.2; omega⟩ (fun _ hf => hf.elim) ⟨gB₂, hkind, hgl, rfl, fun p hp => ?_⟩ fun v h' tk gg q => ⟨⟨f, g, _, _, e2, q⟩, h', tk, rfl, gg⟩
    rcases List.mem_cons.mp hp with rfl | hp
    · exact ⟨_, .str f tf, .inl ⟨hxa, m₂, hn₂, hma⟩⟩
    · rw [List.mem_singleton.mp hp]
      exact ⟨_, .str g tg, .inl ⟨hxb, m₂, hn₂, hmb⟩⟩
  · intro a h₅ tk gs hgs ha hsz hk W hG
    rw [passing_all] at W
    rw [List.length_range] at W
    rw [hlen] at W hG
    have hk5 : ∀ z o, z ≠ T → s.heap.get? z = some o → h₅.get? z = some o := fun z o hz e => hk z o (g₃ z o hz e)
    refine hQ a { s with gens := s.gens.push gs, toks := tk, heap := h₅ } tab' hk5 (code_keep hok₃ (fun o e => hk _ o e) fun o e => hk _ o e) (fun G => G.push hgs) rfl rfl ?_
    refine ⟨_, _, _, _, W.imp ?_, hG, fun i s' hst => hst.1.typeIs, .head _, ?_, ?_⟩
    · rintro j y ⟨i, hi, f, g, X', h', e1, q⟩
      obtain ⟨hj, rfl⟩ := List.getElem?_eq_some_iff.mp hi
      rw [List.getElem_range] at e1
      exact ⟨f, g, X', h', e1, q⟩
    · intro z hz
      show z < h₅.objs.size
      rw [hsz]
      have ha' : h₃.objs.size < a := ha
      rcases List.mem_cons.mp hz with rfl | hz
      · exact Nat.lt_succ_self _
      · rcases List.mem_cons.mp hz with rfl | hz
        · exact Nat.lt_succ_of_lt ha'
        · have := List.mem_range.mp hz
          exact Nat.lt_succ_of_lt (Nat.lt_trans this ha')
    · intro z hz
      have h34 : s.heap.objs.size < h₃.objs.size := Heap.lt_size hI₃
      refine get_size_none s.heap ?_
      rcases List.mem_cons.mp hz with rfl | hz
      · exact Nat.le_of_lt h34
      · rw [List.mem_singleton.mp hz]; exact Nat.le_refl _
end
end
-- MC8
section
open PySem.Builtin PySem.Builtin.ObjectAttr
section
variable {prog : Program} {w : World} {B : Heap} {n : Nat} {env : Env} {G : Ctxt} {Hs : Snaps} {A : Around} {X : Addr → Prop} {E : Value → Shared → Prop} {s : Shared} {h h' : Heap}

/-- a change of the frame's own things -/
theorem Fm.moveX (F : Fm B Hs X h env G) (W : Addr → Prop) (k : ∀ b o, ¬ W b → h.get? b = some o → h'.get? b = some o) (hW : ∀ b, W b → X b) (hl : ∀ b, W b → ∃ o, h'.get? b = some o)
    (hB : ∀ b, W b → B.get? b = none) (hO : ∀ b, W b → Own Hs b) (hL : ¬ W env.locals) (hC : ∀ x c, env.cells.lookup x = some c → ¬ W c) (hM : noM G = true) : Fm B Hs X h' env G := by
  have sk : SKeep X h h' := fun a o hn e _ => k a o (fun w => hn (hW a w)) e
  have cellKeep : ∀ x c v, env.cells.lookup x = some c → h.IsCell c v → h'.IsCell c v := fun x c v hc ⟨o, ho, hd⟩ => ⟨o, k c o (hC x c hc) ho, hd⟩
  have nsKeep : ∀ {m}, h.Ns env.locals m → h'.Ns env.locals m := fun ⟨o, es, ep, ho, r⟩ => ⟨o, es, ep, k _ _ hL ho, r⟩
  refine ⟨⟨fun a o e => k a o (fun w => by rw [hB a w] at e; cases e) (F.has.keep a o e), F.has.fn, F.has.gl, F.has.bi, fun p hp => ?_⟩, fun a ha => ?_, F.locX, let ⟨m, hn⟩ := F.ns; ⟨m, nsKeep hn⟩, ?_, F.ownL, F.newL, fun x c hc => ?_, F.apart⟩
  · obtain ⟨v, hv, hx⟩ := F.has.var p hp
    refine ⟨v, ?_, ?_⟩
    · have hm := noM_spec hM p hp
      obtain ⟨pn, pt⟩ := p
      cases pt with
      | d d => exact IsD.skeep hv sk
      | v u => exact hv
      | m a ds => exact absurd rfl (hm a ds)
    · rcases hx with ⟨a, m, hn, e⟩ | ⟨a, c, hc, e⟩
      · exact .inl ⟨a, m, nsKeep hn, e⟩
      · exact .inr ⟨a, c, hc, cellKeep _ _ _ hc e⟩
  · by_cases hw : W a
    · exact hl a hw
    · obtain ⟨o, e⟩ := F.live a ha
      exact ⟨o, k a o hw e⟩
  · intro q hq b o hb e
    refine k b o (fun w => ?_) (F.olds q hq b o hb e)
    rcases hO b w q hq with y | y
    · exact hb y
    · rw [y] at e; cases e
  · obtain ⟨⟨v, hv⟩, r⟩ := F.cells x c hc
    exact ⟨⟨v, cellKeep x c v hc hv⟩, r⟩

/-- the frame of a call that may change what lies in W -/
theorem Fm.startW {f : Addr} {fd : FuncData} {body : List Stmt} {h₀ : Heap} {xs : List Str} {vs : List Value} {G₀ : Ctxt} (W : Addr → Prop) (hf : FnIs B f fd body) (gB : Grow B s.heap) (L : Live X s.heap) (hnd : xs.Nodup) (hlen : xs.length = vs.length)
    (hloc : ∀ x ∈ xs, fd.scope.names.lookup x = some .local)
    (hns : h₀.Ns s.heap.objs.size (fun x => (xs.zip vs).reverse.lookup x)) (hk : Grow s.heap h₀) (hG : ∀ p ∈ G₀, ∃ v, (p.1, v) ∈ xs.zip vs ∧ IsS X s.heap v p.2) :
    Fm B [(W, s.heap)] (fun b => X b ∨ b = s.heap.objs.size) h₀ (callEnv fd s.heap.objs.size f) G₀ := by
  have F := Fm.start (X := X) hf gB L hnd hlen hloc hns hk hG
  exact { F with
    olds := fun q hq b o hb e => by
      rw [List.mem_singleton.mp hq] at hb e
      exact hk b o e
    ownL := fun q hq => by
      rw [List.mem_singleton.mp hq]
      exact .inr (get_size_none s.heap (Nat.le_refl _))
    cells := fun x c hc => by
      obtain ⟨a, b | b⟩ := F.cells x c hc
      · obtain ⟨v, hv⟩ := hf.clos x c hc
        obtain ⟨o, e, _⟩ := hv
        exact ⟨a, .inr ⟨o, e⟩⟩
      · exact ⟨a, .inr b⟩ }

theorem call_fn {f : Addr} {fd : FuncData} {body : List Stmt} {xs : List Str} {vs us : List Value} {G₀ : Ctxt} {Q : Value → Shared → Prop} (W : Addr → Prop) (hlim : B.NoLimit) (hf : FnIs B f fd body) (gB : Grow B s.heap) (L : Live X s.heap) (R : Room (n + 1) A) (hnd : xs.Nodup) (hlen : xs.length = us.length)
    (hloc : ∀ x ∈ xs, fd.scope.names.lookup x = some .local) (hbind : BindsTo s fd ⟨vs, []⟩ (xs.zip us)) (hG : ∀ p ∈ G₀, ∃ v, (p.1, v) ∈ xs.zip us ∧ IsS X s.heap v p.2)
    (hb : ∀ (A' : Around) (h₀ : Heap) (tk : Nat), Room n A' → Grow s.heap h₀ → Fm B [(W, s.heap)] (fun b => X b ∨ b = s.heap.objs.size) h₀ (callEnv fd s.heap.objs.size f) G₀ →
      wpAny (model prog w) A' (execs body (callEnv fd s.heap.objs.size f)) (fun fl s' => Q (match fl with | .ret v => v | _ => .none) s') (fun _ _ => False) { s with heap := h₀, toks := tk }) :
    wpAny (model prog w) A (call (.ref f) vs []) Q E s := by
  obtain ⟨o, ho, hd⟩ := hf.ex
  have hdep : A.depth < recursionLimit := by
    have := R.2.1
    show _ < 1000
    omega
  refine wpAny_call (codeAny_call_def (binds := xs.zip us) (body := body) hdep (gB _ _ ho) hd (hlim.keeps gB) (hf.code.keeps gB) hf.body_ hbind hf.nocell (fun x hx => hloc x.1 (List.of_mem_zip hx).1) (fun h₀ hns hk => ?_) hf.co hf.gen hf.kind)
  have F := Fm.startW (X := X) (G₀ := G₀) W hf gB L hnd hlen hloc hns hk hG
  exact wpAny_mono (hb (A.deeper (callEnv fd s.heap.objs.size f)) h₀ _ ⟨R.1, by have := R.2.1; show A.depth + 1 + n ≤ _; omega, by have := R.2.2; show A.units + 3 + _ ≤ _; omega⟩ hk F) (fun _ _ hq => hq) fun _ _ e => e.elim

theorem Call_meth {o : Expr} {name : Str} {apos pos : Pos} {args : List Expr} {pl : Sem Bool} {Q : Value → Shared → Prop} (hbase : attributeBase o name env (eval o env) = eval o env)
    (h : wpAny (model prog w) A (eval o env) (fun ov s₁ => wpAny (model prog w) A (getMethod ov name pl) (fun fx s₂ => wpAny (model prog w) A (callWith pos fx.1 fx.2 (backTo pos (starEach args env)) []) Q E s₂) E s₁) E s)
    (he : eval (.Call (.Attribute o name apos) args [] pos) env = (do
      let ov ← attributeBase o name env (eval o env)
      standAt apos.atName
      let (f, first) ← holding [ov] (getMethod ov name pl)
      callWith pos f first (backTo pos (starEach args env)) [])) : wpAny (model prog w) A (eval (.Call (.Attribute o name apos) args [] pos) env) Q E s := by
  rw [he, hbase]
  exact wpAny_bind (wpAny_mono h (fun ov s₁ h₁ => wpAny_bind (wpAny_standAt (wpAny_bind (wpAny_holding h₁)))) fun _ _ x => x)

/-- an expression that gives a very value -/
noncomputable def EvV (prog : Program) (w : World) (B : Heap) (n : Nat) (env : Env) (G : Ctxt) (e : Expr) (v : Value) : Prop :=
  ∀ (A : Around) (X : Addr → Prop) (Q : Value → Shared → Prop) (E : Value → Shared → Prop) (s : Shared), Room n A → Live X s.heap → Has B X s.heap env G →
    (∀ h' tk, Grow s.heap h' → Q v { s with heap := h', toks := tk }) → wpAny (model prog w) A (eval e env) Q E s
theorem EvV.name {x : Str} {pos : Pos} {v : Value} (hm : (x, Slot.v v) ∈ G) (hd : (x == ("__debug__" : Str)) = false := by decide) (hc : (x == ("__classdict__" : Str)) = false := by decide) : EvV prog w B n env G (.Name x pos) v := by
  intro A X Q E s _ _ H h
  obtain ⟨u, hv, hx⟩ := H.var _ hm
  cases hv
  have fin : Q v s := h s.heap s.toks (Grow.refl _)
  rcases hx with ⟨a, m, hn, hm⟩ | ⟨a | a, c, hcl, hcv⟩
  · exact wpAny_Name (wpAny_loadName_local H.fn a hn hm fin) hd
  · exact wpAny_Name (wpAny_loadName_cell H.fn a hcl hcv fin) hd
  · exact wpAny_Name (wpAny_loadName_free H.fn a hcl hcv fin hc) hd
theorem EvV.run {e : Expr} {v : Value} {Q : Value → Shared → Prop} (he : EvV prog w B n env G e v) (R : Room n A) (L : Live X s.heap) (H : Has B X s.heap env G) (h : ∀ h' tk, Grow s.heap h' → Q v { s with heap := h', toks := tk }) : wpAny (model prog w) A (eval e env) Q E s := he A X Q E s R L H h
theorem Ev.run {e : Expr} {d : D} {Q : Value → Shared → Prop} (he : Ev prog w B n env G e d) (R : Room n A) (L : Live X s.heap) (H : Has B X s.heap env G) (h : ∀ v h' tk, Grow s.heap h' → IsD X h' v d → Q v { s with heap := h', toks := tk }) : wpAny (model prog w) A (eval e env) Q E s := he A X Q E s R L H h
theorem EvV.attr {K : Frag} {e : Expr} {x dx C c : Nat} {ox : Obj} {m : Str → Option Value} {name : Str} {v : Value} {pos : Pos} {attr : Option Value} (KX : K.In B) (I : In B x dx C ox c m) (he : EvV prog w B n env G e (.ref x)) (hg : plainGet K C name = true) (hh : hasDictIn K C = true)
    (ha : findIn K (.ref C) name = some attr) (hn : noGet K attr = true) (hl : m name = some v) (hv : handedIn v = true)
    (hev : eval (.Attribute e name pos) env = (do
      let o ← eval e env
      standAt pos.atName
      let r ← holding [o] (getAttr o name true)
      letTemporaryGo e o r
      pure r) := by with_unfolding_all rfl) : EvV prog w B n env G (.Attribute e name pos) v := by
  intro A X Q E s R L H h
  refine Attribute_any_ (he A X _ E s R L H fun h₁ t₁ g₁ => ?_) hev
  have gg : Grow B h₁ := H.keep.trans g₁
  have I₁ : In h₁ x dx C ox c m := ⟨gg _ _ I.at_, I.cls, I.no, I.dict, I.ns.grow fun o e => gg _ _ e⟩
  exact get_attr (s := { s with heap := h₁, toks := t₁ }) (KX.keeps gg) I₁ hg hh ha hn hl hv (h h₁ _ g₁)
theorem Ev.ofV {e : Expr} {v : Value} {d : D} (he : EvV prog w B n env G e v) (hd : ∀ X h, IsD X h v d) : Ev prog w B n env G e d := fun A X Q E s R L H h => he A X Q E s R L H fun h' tk g => h v h' tk g (hd X h')
theorem Ev.base {B' : Heap} {e : Expr} {d : D} (he : Ev prog w B n env G e d) (g : Grow B B') : Ev prog w B' n env G e d := fun A X Q E s R L H h => he A X Q E s R L ⟨g.trans H.keep, H.fn, H.gl, H.bi, H.var⟩ h
end
end
-- MC9
section
open PySem.Builtin PySem.Builtin.ObjectAttr
structure Pp where
  pg : Nat
  pgD : Nat
  ac : Nat
  acD : Nat
  ln : Nat
noncomputable def PX (q : Pp) (a : Addr) : Prop := a = q.ac ∨ a = q.acD ∨ a = q.pgD ∨ a = q.ln ∨ a = 140 ∨ a = 147
noncomputable def Apart (q : Pp) : Prop := [q.ac, q.acD, q.pgD, q.ln, 140, 147].Nodup
noncomputable def accM (t : Tok) : Str → Option Value := fun y => if y = Str.ofString "_initial_size" then some (.int 0 t) else none
structure PM (q : Pp) (mx : Int) (m : Str → Option Value) : Prop where
  maxlen : ∃ t, m "_maxlen" = some (.int mx t)
  split : ∃ t, m "_splitchars" = some (.str ", " t)
  lines : m "_lines" = some (.ref q.ln)
  cur : m "_current_line" = some (.ref q.ac)
  nl : m "newline" = none
  str : m "_str" = none
  app : m "_append_chunk" = none
/-- the page as it stands -/
structure PS (q : Pp) (h : Heap) (mx : Int) (lines : List Str) (parts : List (Str × Str)) : Prop where
  page : ∃ c m, In h q.pg q.pgD 94 (instObj 94 q.pgD) c m ∧ PM q mx m
  acc : ∃ k c t vs, In h q.ac q.acD 178 (accO q.acD vs k) c (accM t) ∧ c ≤ 400 ∧ PartsAt (PX q) h vs parts
  lns : ∃ k vs, h.get? q.ln = some (listO vs k) ∧ AllD (PX q) h vs (lines.map .str)
  t1 : ∃ tab, CodeT h 144 140 tab
  t2 : ∃ tab, CodeT h 151 147 tab
  ap : Apart q

theorem In.keeps {h h' : Heap} {x dx C c : Nat} {ox : Obj} {m : Str → Option Value} (I : In h x dx C ox c m) (k₁ : ∀ o, h.get? x = some o → h'.get? x = some o) (k₂ : ∀ o, h.get? dx = some o → h'.get? dx = some o) : In h' x dx C ox c m :=
  ⟨k₁ _ I.at_, I.cls, I.no, I.dict, I.ns.grow k₂⟩
section
variable {q : Pp} {h h' : Heap} {mx : Int} {lines lines' : List Str} {parts parts' : List (Str × Str)}
theorem Apart.ne (a : Apart q) : q.ac ≠ q.acD ∧ q.ac ≠ q.pgD ∧ q.ac ≠ q.ln ∧ q.ac ≠ 140 ∧ q.ac ≠ 147 ∧ q.acD ≠ q.pgD ∧ q.acD ≠ q.ln ∧ q.acD ≠ 140 ∧ q.acD ≠ 147 ∧ q.pgD ≠ q.ln ∧ q.pgD ≠ 140 ∧ q.pgD ≠ 147 ∧ q.ln ≠ 140 ∧ q.ln ≠ 147 := by
  unfold Apart at a
  simp only [List.nodup_cons, List.mem_cons, List.not_mem_nil, or_false, not_or] at a
  obtain ⟨⟨a1, a2, a3, a4, a5⟩, ⟨a6, a7, a8, a9⟩, ⟨a10, a11, a12⟩, ⟨a13, a14⟩, _⟩ := a
  exact ⟨a1, a2, a3, a4, a5, a6, a7, a8, a9, a10, a11, a12, a13, a14⟩
theorem PS.pgne (ps : PS q h mx lines parts) : q.pg ≠ q.ac ∧ q.pg ≠ q.acD ∧ q.pg ≠ q.ln ∧ q.pg ≠ q.pgD ∧ q.pg ≠ 140 ∧ q.pg ≠ 147 := by
  obtain ⟨c, m, I, _⟩ := ps.page
  obtain ⟨k, c', t, vs, J, _⟩ := ps.acc
  obtain ⟨k', vs', hl, _⟩ := ps.lns
  obtain ⟨es, nn, hd, _⟩ := I.ns
  obtain ⟨es', nn', hd', _⟩ := J.ns
  obtain ⟨tab, ⟨o1, vs1, file, tf, flags, tg, inF, text, tt, op, ho, hd2, h11, h2, h7, h9, h10, hop, hopd, _⟩, _⟩ := ps.t1
  obtain ⟨tab2, ⟨o12, vs12, file2, tf2, flags2, tg2, inF2, text2, tt2, op2, ho2, hd22, h112, h22, h72, h92, h102, hop2, hopd2, _⟩, _⟩ := ps.t2
  have hp := I.at_
  refine ⟨fun e => ?_, fun e => ?_, fun e => ?_, fun e => ?_, fun e => ?_, fun e => ?_⟩
  · have := J.at_; rw [← e, hp] at this; cases this
  · rw [← e, hp] at hd'; cases hd'
  · rw [← e, hp] at hl; cases hl
  · rw [← e, hp] at hd; cases hd
  · rw [← e, hp] at hop; cases hop; cases hopd
  · rw [← e, hp] at hop2; cases hop2; cases hopd2
theorem PS.live (ps : PS q h mx lines parts) : ∀ a, PX q a → ∃ o, h.get? a = some o := by
  obtain ⟨c, m, I, _⟩ := ps.page
  obtain ⟨k, c', t, vs, J, _⟩ := ps.acc
  obtain ⟨k', vs', hl, _⟩ := ps.lns
  obtain ⟨es, nn, hd, _⟩ := I.ns
  obtain ⟨es', nn', hd', _⟩ := J.ns
  obtain ⟨tab, ⟨o1, vs1, file, tf, flags, tg, inF, text, tt, op, ho, hd2, h11, h2, h7, h9, h10, hop, hopd, _⟩, _⟩ := ps.t1
  obtain ⟨tab2, ⟨o12, vs12, file2, tf2, flags2, tg2, inF2, text2, tt2, op2, ho2, hd22, h112, h22, h72, h92, h102, hop2, hopd2, _⟩, _⟩ := ps.t2
  rintro a (rfl | rfl | rfl | rfl | rfl | rfl)
  · exact ⟨_, J.at_⟩
  · exact ⟨_, hd'⟩
  · exact ⟨_, hd⟩
  · exact ⟨_, hl⟩
  · exact ⟨_, hop⟩
  · exact ⟨_, hop2⟩
theorem code_ne {c T : Addr} {tab : Array Value} (x : CodeT h c T tab) {a : Addr} {o : Obj} (ho : h.get? a = some o) (hd : ∀ vs, o.data ≠ .fields vs) : a ≠ c ∧ a ≠ T := by
  obtain ⟨o1, vs1, file, tf, flags, tg, inF, text, tt, op, ho1, hd2, h11, h2, h7, h9, h10, hop, hopd, _⟩ := x.1
  refine ⟨fun e => ?_, fun e => ?_⟩
  · rw [e, ho1] at ho; cases ho; exact hd _ hd2
  · rw [e, hop] at ho; cases ho; exact hd _ hopd
theorem PS.grow (ps : PS q h mx lines parts) (k : Grow h h') : PS q h' mx lines parts := by
  obtain ⟨c, m, I, pm⟩ := ps.page
  obtain ⟨kk, c', t, vs, J, hc, hp⟩ := ps.acc
  obtain ⟨k', vs', hl, hls⟩ := ps.lns
  obtain ⟨tab, hT⟩ := ps.t1
  obtain ⟨tab2, hT2⟩ := ps.t2
  exact ⟨⟨c, m, I.keeps (fun o => k _ o) (fun o => k _ o), pm⟩, ⟨kk, c', t, vs, J.keeps (fun o => k _ o) (fun o => k _ o), hc, AllD.grow hp k⟩, ⟨k', vs', k _ _ hl, hls.grow k⟩, ⟨tab, code_keep hT (fun _ e => k _ _ e) (fun _ e => k _ _ e)⟩, ⟨tab2, code_keep hT2 (fun _ e => k _ _ e) (fun _ e => k _ _ e)⟩, ps.ap⟩
/-- the accumulator's items turned -/
theorem PS.upd (ps : PS q h mx lines parts) (k : ∀ b o, b ≠ q.ac → h.get? b = some o → h'.get? b = some o) {vs' : List Value} {k' : Nat} (hac : h'.get? q.ac = some (accO q.acD vs' k')) (hp : PartsAt (PX q) h' vs' parts') : PS q h' mx lines parts' := by
  have pn := ps.pgne
  have an := ps.ap.ne
  obtain ⟨c, m, I, pm⟩ := ps.page
  obtain ⟨kk, c', t, vs, J, hc, _⟩ := ps.acc
  obtain ⟨kl, vl, hl, hls⟩ := ps.lns
  obtain ⟨tab, hT⟩ := ps.t1
  obtain ⟨tab2, hT2⟩ := ps.t2
  have d1 : ∀ vs0, (accO q.acD vs kk).data ≠ .fields vs0 := fun _ e => by cases e
  have e1 := code_ne hT J.at_ d1
  have e2 := code_ne hT2 J.at_ d1
  refine ⟨⟨c, m, I.keeps (fun o => k _ o pn.1) (fun o => k _ o (Ne.symm an.2.1)), pm⟩, ⟨k', c', t, vs', ⟨hac, rfl, rfl, rfl, J.ns.grow fun o => k _ o (Ne.symm an.1)⟩, hc, hp⟩,
    ⟨kl, vl, k _ _ (Ne.symm an.2.2.1) hl, hls.skeep fun a o hn e _ => k a o (fun z => hn (.inl z)) e⟩, ⟨tab, code_keep hT (fun o => k _ o (Ne.symm e1.1)) (fun o => k _ o (Ne.symm e1.2))⟩, ⟨tab2, code_keep hT2 (fun o => k _ o (Ne.symm e2.1)) (fun o => k _ o (Ne.symm e2.2))⟩, ps.ap⟩
/-- the lines turned -/
theorem PS.updL (ps : PS q h mx lines parts) (k : ∀ b o, b ≠ q.ln → h.get? b = some o → h'.get? b = some o) {vs' : List Value} {k' : Nat} (hln : h'.get? q.ln = some (listO vs' k')) (hp : AllD (PX q) h' vs' (lines'.map .str)) : PS q h' mx lines' parts := by
  have pn := ps.pgne
  have an := ps.ap.ne
  obtain ⟨c, m, I, pm⟩ := ps.page
  obtain ⟨kk, c', t, vs, J, hc, hps⟩ := ps.acc
  obtain ⟨kl, vl, hl, hls⟩ := ps.lns
  obtain ⟨tab, hT⟩ := ps.t1
  obtain ⟨tab2, hT2⟩ := ps.t2
  have d1 : ∀ vs0, (listO vl kl).data ≠ .fields vs0 := fun _ e => by cases e
  have e1 := code_ne hT hl d1
  have e2 := code_ne hT2 hl d1
  refine ⟨⟨c, m, I.keeps (fun o => k _ o pn.2.2.1) (fun o => k _ o an.2.2.2.2.2.2.2.2.2.1), pm⟩, ⟨kk, c', t, vs, J.keeps (fun o => k _ o an.2.2.1) (fun o => k _ o an.2.2.2.2.2.2.1), hc, AllD.skeep hps fun a o hn e _ => k a o (fun z => hn (.inr (.inr (.inr (.inl z))))) e⟩,
    ⟨k', vs', hln, hp⟩, ⟨tab, code_keep hT (fun o => k _ o (Ne.symm e1.1)) (fun o => k _ o (Ne.symm e1.2))⟩, ⟨tab2, code_keep hT2 (fun o => k _ o (Ne.symm e2.1)) (fun o => k _ o (Ne.symm e2.2))⟩, ps.ap⟩
/-- a code table grown -/
theorem PS.updT (ps : PS q h mx lines parts) {T c : Addr} (hT : (c = 144 ∧ T = 140) ∨ (c = 151 ∧ T = 147)) {tab : Array Value} (k : ∀ b o, b ≠ T → h.get? b = some o → h'.get? b = some o) (hok : CodeT h' c T tab) : PS q h' mx lines parts := by
  have pn := ps.pgne
  have an := ps.ap.ne
  obtain ⟨cc, m, I, pm⟩ := ps.page
  obtain ⟨kk, c', t, vs, J, hc, hps⟩ := ps.acc
  obtain ⟨kl, vl, hl, hls⟩ := ps.lns
  obtain ⟨tab1, hT1⟩ := ps.t1
  obtain ⟨tab2, hT2⟩ := ps.t2
  have hne : T = 140 ∨ T = 147 := by rcases hT with ⟨_, e⟩ | ⟨_, e⟩ <;> simp [e]
  have hPX : PX q T := by rcases hne with e | e <;> simp [PX, e]
  have f : ∀ z, z ≠ 140 → z ≠ 147 → z ≠ T := fun z h1 h2 e => by rcases hne with e' | e' <;> rw [e, e'] at h1 h2 <;> simp at h1 h2
  refine ⟨⟨cc, m, I.keeps (fun o => k _ o (f _ pn.2.2.2.2.1 pn.2.2.2.2.2)) (fun o => k _ o (f _ an.2.2.2.2.2.2.2.2.2.2.1 an.2.2.2.2.2.2.2.2.2.2.2.1)), pm⟩,
    ⟨kk, c', t, vs, J.keeps (fun o => k _ o (f _ an.2.2.2.1 an.2.2.2.2.1)) (fun o => k _ o (f _ an.2.2.2.2.2.2.2.1 an.2.2.2.2.2.2.2.2.1)), hc, AllD.skeep hps fun a o hn e _ => k a o (fun z => hn (z ▸ hPX)) e⟩,
    ⟨kl, vl, k _ _ (f _ an.2.2.2.2.2.2.2.2.2.2.2.2.1 an.2.2.2.2.2.2.2.2.2.2.2.2.2) hl, hls.skeep fun a o hn e _ => k a o (fun z => hn (z ▸ hPX)) e⟩, ?_, ?_, ps.ap⟩
  · rcases hT with ⟨rfl, rfl⟩ | ⟨rfl, rfl⟩
    · exact ⟨_, hok⟩
    · exact ⟨tab1, code_keep hT1 (fun o => k _ o (by decide)) (fun o => k _ o (by decide))⟩
  · rcases hT with ⟨rfl, rfl⟩ | ⟨rfl, rfl⟩
    · exact ⟨tab2, code_keep hT2 (fun o => k _ o (by decide)) (fun o => k _ o (by decide))⟩
    · exact ⟨_, hok⟩
end

section
variable {prog : Program} {w : World} {A : Around} {E : Value → Shared → Prop} {s : Shared} {P : Params} {ac d c k : Nat} {vs : List Value} {m : Str → Option Value} {name : Str}
theorem f_ga : findIn (hd.heap_1 P) (.ref 178) "__getattribute__" = some (some (.builtin "list.__getattribute__")) := rfl
theorem f_gat : findIn (hd.heap_1 P) (.ref 178) "__getattr__" = some none := rfl
theorem f_hasDict : hasDictIn (hd.heap_1 P) 178 = true := rfl
theorem kind_lga : builtinKind "list.__getattribute__" = some .slot ∨ builtinKind "list.__getattribute__" = some .method := by decide +kernel
theorem split_lga : splitId "list.__getattribute__" = some ("list", "__getattribute__") := by decide +kernel
theorem accMeth {pl : Sem Bool} {f : Value} {Q : Value × List Value → Shared → Prop} (X : (hd.heap_1 P).In s.heap) (I : In s.heap ac d 178 (accO d vs k) c m) (hf : findIn (hd.heap_1 P) (.ref 178) name = some (some f))
    (ht : Looks (model prog w) s.heap (typeOf f) (.type "function") ∨ Looks (model prog w) s.heap (typeOf f) (.type "method_descriptor")) (hl : m name = none) (h : Q (f, [.ref ac]) s) : wpAny (model prog w) A (getMethod (.ref ac) name pl) Q E s := by
  obtain ⟨es, n, J, hr, he⟩ := I.inst
  have hcan := canon_list_getattribute
  unfold getMethod specialOf
  refine wpAny_bind (wpAny_bind (J.type.here ((looks_findIn X f_ga).here ?_)))
  dsimp only
  rw [hcan, if_neg (by decide)]
  refine wpAny_bind (wpAny_bind (J.type.here ((looks_findIn X f_gat).here ?_)))
  refine wpAny_bind (wpAny_bind (J.type.here ((looks_findIn X hf).here (wpAny_bind ?_))))
  have fin : wpAny (model prog w) A (do
      if let some d := (← loadPart ac (some headPart)).dict then
        if (← nsGet d name).isSome then return ← (do return (← getAttr (.ref ac) name, []))
      rule "call.method-form"
      return (f, [.ref ac]) : Sem (Value × List Value)) Q E s := by
    refine wpAny_bind (wpAny_loadPart J.at_ ?_)
    have hd := J.dict
    rw [I.dict] at hd ⊢
    refine wpAny_bind (wpAny_bind (wpAny_loadPart hd ?_))
    rw [nsLook_of (show lookIn name (dictOf es n) = some (m name) by rw [lookIn_dict, getL_of hr, he])]
    refine wpAny_pure ?_
    rw [hl]
    exact wpAny_bind (wpAny_rule (wpAny_pure h))
  rcases ht with ht | ht
  · refine ht.here ?_
    rw [if_neg (by decide +kernel)]
    exact fin
  · refine ht.here ?_
    rw [if_neg (by decide +kernel)]
    exact fin
theorem accGetAttr {expr : Bool} {v : Value} {Q : Value → Shared → Prop} (X : (hd.heap_1 P).In s.heap) (I : In s.heap ac d 178 (accO d vs k) c m) (ha : findIn (hd.heap_1 P) (.ref 178) name = some none) (hl : m name = some v) (hh : handedIn v = true)
    (h : Q v { s with toks := s.toks + 1 }) : wpAny (model prog w) A (getAttr (.ref ac) name expr) Q E s := by
  obtain ⟨es, n, J, hr, he⟩ := I.inst
  have hsub := inst_sub (M := model prog w) X J f_sub
  obtain ⟨hp, g, dd, t, os⟩ := s
  have L0 := J.type (M := model prog w)
  have L1 := looks_findIn (M := model prog w) X f_ga
  have L2 := looks_findIn (M := model prog w) X f_gat
  have L3 := looks_find (M := model prog w) (name := name) (r := .value v) X J (findObj_own f_hasDict ha rfl (by rw [lookIn_dict, getL_of hr, he, hl]))
  unfold getAttr getAttrBy
  refine wpAny_bind (wpAny_mkText (wpAny_holding (wpAny_bind (L0.at (wpAny_bind (L1.at ?_))))))
  show wpAny _ _ (getAttrByItsOwn (.ref ac) (.str name t) (.ref 178) (.builtin "list.__getattribute__") true expr) _ _ _
  unfold getAttrByItsOwn hookBefore
  refine wpAny_bind (L2.at ?_)
  refine wpAny_bind (wpAny_attempt (wpAny_holding ?_))
  unfold callGetattribute
  rw [if_neg (by simp [onTheHeap])]
  unfold boundAndCalled
  refine wpAny_bind (wpAny_of_eq (PySem.F.slot_list_getattribute.bind _) ?_)
  refine call_sub PySem.F.slot_list_getattribute.plain kind_lga split_lga hsub PySem.F.entry_list_ga (PySem.F.args_list_getattribute_2 _ _) ?_
  unfold Builtin.«object.__getattribute__»
  refine wpAny_bind (wpAny_of_eq (a := (Value.ref ac, [Value.str name t])) rfl ?_)
  refine wpAny_bind (wpAny_pure (wpAny_bind (L0.at (wpAny_bind (L3.at ?_)))))
  refine wpAny_pure ⟨v, rfl, ?_⟩
  show wpAny _ _ (handedOut v) _ _ _
  rw [handedOut_of hh]; exact wpAny_pure h
end
end
-- MD1
section
open PySem.Builtin PySem.Builtin.ObjectAttr
section
variable {prog : Program} {w : World} {A : Around} {E : Value → Shared → Prop} {s : Shared} {P : Params} {B : Heap} {n : Nat} {q : Pp} {mx : Int} {lines : List Str} {parts : List (Str × Str)} {X : Addr → Prop}

theorem Bs.fnC (b : Bs P B) {a : Addr} {c : Value} {d : Option Addr} {sl : Array (Option Value)} {fd : FuncData} {body : List Stmt} (e : (hd.heap_1 P).lookup a = some ⟨c, d, .func fd, sl⟩) (hc : codeIn (hd.heap_1 P) fd.code fd.qualname = true)
    (hb : fd.body = .stmts body) (gl : fd.globals = mainGlobals) (bi : fd.builtins = builtinsNs) (kind : fd.scope.kind = .function) (co : fd.scope.isCoroutine = false) (gen : fd.scope.isGenerator = false)
    (nocell : (fd.scope.names.all fun x => x.2 != .cell) = true) (clos : fd.closure = [(Str.ofString "__class__", 102)]) : FnIs B a fd body := by
  have one : ∀ x c, fd.closure.lookup x = some c → x = Str.ofString "__class__" ∧ c = 102 := fun x c h => by
    rw [clos, List.lookup] at h
    split at h
    · rename_i h1; cases h; exact ⟨beq_iff_eq.mp h1, rfl⟩
    · cases h
  refine ⟨⟨_, b.K _ _ e, rfl⟩, codeRec_of b.K hc, hb, gl, bi, kind, co, gen, fun x hx => by simpa using List.all_eq_true.mp nocell x hx, fun x c h => ?_, fun x y c h h' => ?_⟩
  · obtain ⟨_, rfl⟩ := one x c h
    exact ⟨some (.ref 178), ⟨_, b.K 102 _ rfl, rfl⟩⟩
  · exact (one x c h).1.trans (one y c h').1.symm

/-- what the page's methods stand on -/
structure Gd (P : Params) (B : Heap) (q : Pp) (X : Addr → Prop) (h : Heap) : Prop where
  b : Bs P B
  hB : ∀ a, PX q a → B.get? a = none
  gB : Grow B h
  L : Live X h
  hX : ∀ a, PX q a → X a
theorem Gd.bKX {h : Heap} (g : Gd P B q X h) : (hd.heap_1 P).In h := g.b.K.keeps g.gB
theorem Gd.grow {h h' : Heap} (g : Gd P B q X h) (k : Grow h h') : Gd P B q X h' := ⟨g.b, g.hB, g.gB.trans k, g.L.grow k, g.hX⟩
/-- nothing changes but the page's own -/
noncomputable def Kp (q : Pp) (h h' : Heap) : Prop := ∀ b o, ¬ PX q b → h.get? b = some o → h'.get? b = some o
theorem Grow.kp {h h' : Heap} (g : Grow h h') : Kp q h h' := fun b o _ e => g b o e
theorem Kp.trans {h₁ h₂ h₃ : Heap} (x : Kp q h₁ h₂) (y : Kp q h₂ h₃) : Kp q h₁ h₃ := fun b o n e => y b o n (x b o n e)
theorem Gd.kp {h h' : Heap} (g : Gd P B q X h) (k : Kp q h h') (ps : PS q h' mx lines parts) : Gd P B q X h' :=
  ⟨g.b, g.hB, fun a o e => k a o (fun z => by rw [g.hB a z] at e; cases e) (g.gB a o e), fun a ha => by
    by_cases hp : PX q a
    · exact ps.live a hp
    · obtain ⟨o, e⟩ := g.L a ha; exact ⟨o, k a o hp e⟩, g.hX⟩
theorem Kp.same_ac {h h' : Heap} (x : Heap.SameBut q.ac h h') : Kp q h h' := fun b o n e => x.extBut b o (fun z => n (.inl z)) e
theorem Kp.same_ln {h h' : Heap} (x : Heap.SameBut q.ln h h') : Kp q h h' := fun b o n e => x.extBut b o (fun z => n (.inr (.inr (.inr (.inl z))))) e

theorem push_call {f g : Str} {tf tg : Tok} {Q : Value → Shared → Prop} (gd : Gd P B q X s.heap) (R : Room (n + 1) A) (ps : PS q s.heap mx lines parts) (hz : parts.length ≤ 200)
    (h : ∀ h' tk, Kp q s.heap h' → PS q h' mx lines (parts ++ [(f, g)]) → Q .none { s with heap := h', toks := tk }) :
    wpAny (model prog w) A (call (.ref 122) [.ref q.ac, .str f tf, .str g tg] []) Q E s := by
  refine call_fn (X := X) (n := n) (xs := ["self", "fws", "string"]) (us := [.ref q.ac, .str f tf, .str g tg]) (G₀ := [("self", .v (.ref q.ac)), ("fws", .d (.str f)), ("string", .d (.str g))]) (PX q) gd.b.nolimit
    (gd.b.fn (a := 122) rfl rfl rfl rfl rfl rfl rfl rfl rfl rfl) gd.gB gd.L R (by decide) rfl (by decide) (.of_eq rfl) (fun p hp => ?_) fun A' h₀ tk R' g₀ F => ?_
  · rcases List.mem_cons.mp hp with rfl | hp
    · exact ⟨_, .head _, rfl⟩
    · rcases List.mem_cons.mp hp with rfl | hp
      · exact ⟨_, .tail _ (.head _), .str f tf⟩
      · rw [List.mem_singleton.mp hp]
        exact ⟨_, .tail _ (.tail _ (.head _)), .str g tg⟩
  · have ps₀ := ps.grow g₀
    have gd₀ := gd.grow g₀
    refine St.cons (wpAny_Expr (Call_meth rfl (EvV.run (EvV.name memH) R' F.live F.has fun h₁ t₁ g₁ => ?_) rfl))
    have ps₁ := ps₀.grow g₁
    have gd₁ := gd₀.grow g₁
    obtain ⟨k, c, t, vs, I, hc, hp⟩ := ps₁.acc
    refine accMeth (s := { s with heap := h₁, toks := t₁ }) (gd₁.b.K.keeps gd₁.gB) I f_append (.inr (Looks.of_pure PySem.F.type_list_append)) rfl ?_
    have F₁ := F.grow g₁
    refine callWith_data (n := n) (B := B) (first := [.ref q.ac]) (ds := [.tup [.str f, .str g]]) Callable.builtin (EvL.cons (Ev.tup (EvL.cons (Ev.name (memT memH)) (EvL.cons (Ev.name (memT (memT memH))) EvL.nil)) (Nat.le_of_ble_eq_true rfl)) EvL.nil) rfl R' F₁.live F₁.has fun us h₂ t₂ g₂ qs => ?_
    cases qs with
    | cons q1 r =>
    cases r
    have ps₂ := ps₁.grow g₂
    have gd₂ := gd₁.grow g₂
    have I₂ := I.keeps (fun o => g₂ _ o) (fun o => g₂ _ o)
    have hl : vs.length ≤ 200 := by have := AllD.length hp; simp at this; omega
    refine acc_append (s := { s with heap := h₂, toks := t₂ }) (gd₂.b.K.keeps gd₂.gB) I₂ (by rw [sizeLine_eq]; omega) fun h₃ k₃ sb e₃ => ?_
    refine wpAny_execs_nil ?_
    have kp : Kp q h₂ h₃ := Kp.same_ac sb
    refine h h₃ t₂ ((g₀.trans (g₁.trans g₂)).kp.trans kp) (ps₂.upd (fun b o hb e => sb.extBut b o hb e) e₃ ?_)
    have sk : SKeep (PX q) h₂ h₃ := fun a o hn e _ => kp a o hn e
    unfold PartsAt
    rw [List.map_append]
    exact AllD.append ((AllD.grow hp g₂).skeep sk) (.cons ((q1.less fun a ha => .inl (gd.hX a ha)).skeep sk) .nil)
end
end
-- MD2
section
open PySem.Builtin PySem.Builtin.ObjectAttr
section
variable {prog : Program} {w : World} {A : Around} {E : Value → Shared → Prop} {P : Params} {h : Heap} {g : Array GenState} {d : Drawn} {t : Nat} {os : OsState} {ac dx c k : Nat} {vs : List Value} {m : Str → Option Value}

noncomputable abbrev superO (x : Addr) : Obj := { cls := .type "super", dict := none, data := .fields #[.ref 178, .ref x, .ref 178], slots := #[] }
noncomputable abbrev boundO (bt id : String) (x : Addr) : Obj := { cls := .type bt, data := .fields #[.builtin id, .ref x] }
theorem ty_len : typeOf (.builtin "list.__len__") = pure (.type "wrapper_descriptor") := by kernel_rfl
theorem ty_init : typeOf (.builtin "list.__init__") = pure (.type "wrapper_descriptor") := by kernel_rfl
theorem ty_pop : typeOf (.builtin "list.pop") = pure (.type "method_descriptor") := by kernel_rfl
theorem slot_wd_get : PySem.Slot "wrapper_descriptor" "__get__" "wrapper_descriptor.__get__" := .of (owner := "wrapper_descriptor") (n := "__get__") (by rw [typeLookup_type, builtinLookup_eq_fast]; kernel_rfl) (by decide +kernel) (by decide +kernel) (by decide +kernel)
  (by first | exact .inl (by decide +kernel) | exact .inr (by decide +kernel)) (by rw [isSubtype_type]; kernel_rfl)
theorem slot_md_get : PySem.Slot "method_descriptor" "__get__" "method_descriptor.__get__" := .of (owner := "method_descriptor") (n := "__get__") (by rw [typeLookup_type, builtinLookup_eq_fast]; kernel_rfl) (by decide +kernel) (by decide +kernel) (by decide +kernel)
  (by first | exact .inl (by decide +kernel) | exact .inr (by decide +kernel)) (by rw [isSubtype_type]; kernel_rfl)
theorem entry_wd_get : entryFor table "wrapper_descriptor.__get__" = some Builtin.«wrapper_descriptor.__get__» := entryFor_of_tree (by kernel_rfl)
theorem entry_md_get : entryFor table "method_descriptor.__get__" = some Builtin.«method_descriptor.__get__» := entryFor_of_tree (by kernel_rfl)
theorem args_wd_get (a b c : Value) : argsOk "wrapper_descriptor.__get__" ⟨[a, b, c], []⟩ := by unfold argsOk; kernel_rfl
theorem args_md_get (a b c : Value) : argsOk "method_descriptor.__get__" ⟨[a, b, c], []⟩ := by unfold argsOk; kernel_rfl

theorem get_len {Q : Value → Shared → Prop} (X : (hd.heap_1 P).In h) (I : In h ac dx 178 (accO dx vs k) c m) (hq : Q (.ref h.objs.size) ⟨h.push (boundO "method-wrapper" "list.__len__" ac), g, d, t, os⟩) :
    wpAny (model prog w) A (call (.builtin "wrapper_descriptor.__get__") [.builtin "list.__len__", .ref ac, .ref 178]) Q E ⟨h, g, d, t, os⟩ := by
  obtain ⟨es, n, J, _, _⟩ := I.inst
  refine wpAny_call_entry slot_wd_get (show Shared.TypeIs _ _ _ from ty_len) entry_wd_get ?_ (args_wd_get _ _ _)
  have hx := J.at_
  have hC := X 178 _ rfl
  unfold Builtin.«wrapper_descriptor.__get__»
  repeat lk
  exact ⟨_, rfl, hq⟩
theorem get_init {Q : Value → Shared → Prop} (X : (hd.heap_1 P).In h) (I : In h ac dx 178 (accO dx vs k) c m) (hq : Q (.ref h.objs.size) ⟨h.push (boundO "method-wrapper" "list.__init__" ac), g, d, t, os⟩) :
    wpAny (model prog w) A (call (.builtin "wrapper_descriptor.__get__") [.builtin "list.__init__", .ref ac, .ref 178]) Q E ⟨h, g, d, t, os⟩ := by
  obtain ⟨es, n, J, _, _⟩ := I.inst
  refine wpAny_call_entry slot_wd_get (show Shared.TypeIs _ _ _ from ty_init) entry_wd_get ?_ (args_wd_get _ _ _)
  have hx := J.at_
  have hC := X 178 _ rfl
  unfold Builtin.«wrapper_descriptor.__get__»
  repeat lk
  exact ⟨_, rfl, hq⟩
theorem get_pop {Q : Value → Shared → Prop} (X : (hd.heap_1 P).In h) (I : In h ac dx 178 (accO dx vs k) c m) (hq : Q (.ref h.objs.size) ⟨h.push (boundO "builtin_function_or_method" "list.pop" ac), g, d, t, os⟩) :
    wpAny (model prog w) A (call (.builtin "method_descriptor.__get__") [.builtin "list.pop", .ref ac, .ref 178]) Q E ⟨h, g, d, t, os⟩ := by
  obtain ⟨es, n, J, _, _⟩ := I.inst
  refine wpAny_call_entry slot_md_get (show Shared.TypeIs _ _ _ from ty_pop) entry_md_get ?_ (args_md_get _ _ _)
  have hx := J.at_
  have hC := X 178 _ rfl
  unfold Builtin.«method_descriptor.__get__»
  repeat lk
  exact ⟨_, rfl, hq⟩

/-- super()'s method, a built-in's -/
theorem super_meth {so : Addr} {name : Str} {id wd gid bt : String} {pl : Sem Bool} {Q : Value × List Value → Shared → Prop} (X : (hd.heap_1 P).In h) (I : In h ac dx 178 (accO dx vs k) c m) (hso : h.get? so = some (superO ac)) (hac : ac ≠ 178)
    (hf : alongIn (hd.heap_1 P) name [.type "list", .type "object"] = some (some (.builtin id))) (hn : (name == ("__class__" : Str)) = false) (hty : typeOf (.builtin id) = pure (.type wd)) (hlk : typeLookup (.type wd) "__get__" = pure (some (.builtin gid)))
    (hget : ∀ {Q' : Value → Shared → Prop} {A' : Around} {E' : Value → Shared → Prop} {t' : Nat}, Q' (.ref h.objs.size) ⟨h.push (boundO bt id ac), g, d, t', os⟩ → wpAny (model prog w) A' (call (.builtin gid) [.builtin id, .ref ac, .ref 178]) Q' E' ⟨h, g, d, t', os⟩)
    (hq : Q (.ref h.objs.size, []) ⟨h.push (boundO bt id ac), g, d, t + 1, os⟩) : wpAny (model prog w) A (getMethod (.ref so) name pl) Q E ⟨h, g, d, t, os⟩ := by
  have hslk := F.ks_slot_super_ga.lookup
  have hcan := F.ks_canon_super_ga
  have hT : ∀ t', (⟨h, g, d, t', os⟩ : Shared).TypeIs (.ref so) "super" := fun _ => ⟨_, hso, rfl⟩
  have hne : (Value.ref ac == Value.ref 178) = false := by simp [hac]
  have hno := looks_opaque (M := model prog w) (C := 178) X rfl
  have hC : Looks (model prog w) h (mroOf (.ref 178)) [.ref 178, .type "list", .type "object"] := Looks.of_peek X (by with_unfolding_all rfl)
  have ga : ∀ {Q' : Fin → Shared → Prop} {A' : Around} {E' : Value → Shared → Prop} {tk : Tok} {t' : Nat}, Q' (.done (.ret (.ref h.objs.size))) ⟨h.push (boundO bt id ac), g, d, t', os⟩ →
      wpAny (model prog w) A' (Builtin.«super.__getattribute__» ⟨[.ref so, .str name tk], []⟩) Q' E' ⟨h, g, d, t', os⟩ := by
    intro Q' A' E' tk t' hQ'
    have hdt : (superO ac).data = .fields #[.ref 178, .ref ac, .ref 178] := rfl
    have f0 : (#[.ref 178, .ref ac, .ref 178] : Array Value)[0]? = some (.ref 178) := rfl
    have f1 : (#[.ref 178, .ref ac, .ref 178] : Array Value)[1]? = some (.ref ac) := rfl
    have f2 : (#[.ref 178, .ref ac, .ref 178] : Array Value)[2]? = some (.ref 178) := rfl
    have hTid : (⟨h, g, d, t', os⟩ : Shared).TypeIs (.builtin id) wd := hty
    unfold Builtin.«super.__getattribute__»
    repeat (first
      | (with_reducible refine wpAny_field hso hdt f0 ?_) | (with_reducible refine wpAny_field hso hdt f1 ?_) | (with_reducible refine wpAny_field hso hdt f2 ?_)
      | (with_reducible refine ks_wpAny_notOpaque hno ?_)
      | (with_reducible refine Looks.at hC ?_; rw [show (([.ref 178, .type "list", .type "object"] : List Value).dropWhile (· != .ref 178)).drop 1 = [.type "list", .type "object"] from rfl])
      | (refine ks_forIn_along X (fun _ _ => rfl) rfl ?_ hf)
      | (with_reducible refine wpAny_typeOf hTid ?_)
      | (with_reducible refine wpAny_of_eq hlk ?_)
      | (with_reducible refine hget ?_)
      | (simp only [hn, hne, Bool.or_false, Bool.false_eq_true, if_false])
      | wp_step
      | dsimp only)
    all_goals exact hQ'
  unfold getMethod
  refine wpAny_bind (wpAny_specialOf (hT _) hslk ?_)
  show wpAny _ _ (if (Manifest.canonical "super.__getattribute__" != "object.__getattribute__") = true then _ else _) _ _ _
  rw [if_pos hcan]
  unfold getAttr getAttrBy
  refine wpAny_bind (wpAny_bind (wpAny_mkText (wpAny_holding (wpAny_bind (wpAny_typeOf (hT _) (wpAny_bind (wpAny_of_eq hslk ?_)))))))
  show wpAny _ _ (getAttrByItsOwn (.ref so) (.str name t) (.type "super") (.builtin "super.__getattribute__") true false) _ _ _
  unfold getAttrByItsOwn hookBefore callGetattribute boundAndCalled
  refine wpAny_bind (wpAny_of_eq (show (if onTheHeap (.type "super") then typeLookup (.type "super") "__getattr__" else pure none) = pure none from rfl) ?_)
  refine wpAny_bind (wpAny_attempt (wpAny_holding ?_))
  show wpAny _ _ (bindSpecial (.builtin "super.__getattribute__") (.ref so) >>= _) _ _ _
  refine wpAny_bind (wpAny_of_eq (F.ks_slot_super_ga.bind _) ?_)
  refine wpAny_mono (Q := fun v s' => v = .ref h.objs.size ∧ s' = ⟨h.push (boundO bt id ac), g, d, t + 1, os⟩) (E := fun _ _ => False)
    (wpAny_call_entry F.ks_slot_super_ga (hT _) F.ks_entry_super_ga (ga ⟨_, rfl, rfl, rfl⟩) (F.ks_gaArgs_super _ _)) (fun v s' hv => ?_) fun _ _ z => z.elim
  obtain ⟨rfl, rfl⟩ := hv
  exact wpAny_pure (wpAny_pure hq)

/-- a bound built-in called -/
theorem call_bound {bo : Addr} {bt id : String} {b : Builtin} {s : Shared} {Q : Value → Shared → Prop} (hb : s.heap.get? bo = some (boundO bt id ac)) (hbt : bt = "method-wrapper" ∨ bt = "builtin_function_or_method") (hp : plainId id = true) (he : entryFor table id = some b)
    (hck : ∀ (A' : Around) (Q' : Unit → Shared → Prop) (E' : Value → Shared → Prop), Q' () s → wpAny (model prog w) A' (checkBoundCall id ⟨[.ref ac], []⟩) Q' E' s)
    (hc : wpAny (model prog w) A.in1 (b ⟨[.ref ac], []⟩) (fun fin s' => ∃ v, fin = .done (.ret v) ∧ Q v s') E s) : wpAny (model prog w) A (call (.ref bo) []) Q E s := by
  refine wpAny_call (codeAny_of_tree ?_)
  show wpAny _ A.in1 (callAny (.ref bo) _) _ _ _
  unfold callAny
  refine wpAny_bind (wpAny_load hb ?_)
  have hbt' : ((Value.type bt == Value.type "method") || (Value.type bt == Value.type "builtin_function_or_method") || (Value.type bt == Value.type "method-wrapper")) = true ∧ (Value.type bt != Value.type "method") = true := by
    rcases hbt with rfl | rfl <;> exact ⟨by decide, by decide⟩
  show wpAny _ A.in1 (if ((Value.type bt == Value.type "method") || (Value.type bt == Value.type "builtin_function_or_method") || (Value.type bt == Value.type "method-wrapper")) = true then _ else _) _ _ _
  rw [if_pos hbt'.1]
  show wpAny _ A.in1 (if (Value.type bt != Value.type "method") = true then (checkBoundCall id ⟨[.ref ac], []⟩ >>= fun _ => again (.builtin id ⟨[.ref ac], []⟩)) else _) _ _ _
  rw [if_pos hbt'.2]
  refine wpAny_bind (hck _ _ _ (wpAny_pure ⟨plainId_quiet hp _, codeAny_builtin he ?_⟩))
  rw [Around.under_plainId hp _]
  refine wpAny_mono hc (fun fin s' hf => ?_) fun _ _ e => e
  obtain ⟨v, rfl, hv⟩ := hf
  exact hv

theorem bound_len {s : Shared} : ∀ (A' : Around) (Q' : Unit → Shared → Prop) (E' : Value → Shared → Prop), Q' () s → wpAny (model prog w) A' (checkBoundCall "list.__len__" ⟨[.ref ac], []⟩) Q' E' s := by
  intro A' Q' E' hQ
  obtain ⟨hp, g, d, t, os⟩ := s
  unfold checkBoundCall
  repeat lk
  exact hQ
theorem bound_init {s : Shared} : ∀ (A' : Around) (Q' : Unit → Shared → Prop) (E' : Value → Shared → Prop), Q' () s → wpAny (model prog w) A' (checkBoundCall "list.__init__" ⟨[.ref ac], []⟩) Q' E' s := by
  intro A' Q' E' hQ
  obtain ⟨hp, g, d, t, os⟩ := s
  unfold checkBoundCall
  repeat lk
  exact hQ
theorem bound_pop {s : Shared} (X : (hd.heap_1 P).In s.heap) (I : In s.heap ac dx 178 (accO dx vs k) c m) : ∀ (A' : Around) (Q' : Unit → Shared → Prop) (E' : Value → Shared → Prop), Q' () s → wpAny (model prog w) A' (checkBoundCall "list.pop" ⟨[.ref ac], []⟩) Q' E' s := by
  intro A' Q' E' hQ
  have hC := X 178 _ rfl
  have hx := I.at_
  obtain ⟨hp, g, d, t, os⟩ := s
  unfold checkBoundCall
  repeat lk
  exact hQ
end
end
-- MD3
section
open PySem.Builtin PySem.Builtin.ObjectAttr
noncomputable abbrev pr : Program := PySem.Challenge.pw_xj0025_01
section
variable {w : World} {A : Around} {E : Value → Shared → Prop} {s : Shared} {P : Params} {B : Heap} {n : Nat} {q : Pp} {mx : Int} {lines : List Str} {parts : List (Str × Str)} {X : Addr → Prop} {env : Env} {G : Ctxt} {Hs : Snaps}

theorem globLoad {prog : Program} {Q : Value → Shared → Prop} {x : Str} {v : Value} (g : GlobAt B x v) (H : Has B X s.heap env G) (hk : env.kindOf x = some .globalImplicit) (h : Q v s) : wpAny (model prog w) A (loadName env x) Q E s := by
  obtain ⟨mg, hn, e⟩ := g
  refine ks_loadName_global H.fn hk ?_
  rcases e with e | ⟨e, mb, hb, e2⟩
  · exact loadGlobal_global (by rw [H.gl]; exact hn.keeps H.keep) e h
  · exact loadGlobal_builtin (by rw [H.gl]; exact hn.keeps H.keep) e (by rw [H.bi]; exact hb.keeps H.keep) e2 h
theorem varLoad {prog : Program} {Q : Value → Shared → Prop} {x : Str} {v : Value} (H : Has B X s.heap env G) (hm : (x, Slot.v v) ∈ G) (h : Q v s) (hc : (x == ("__classdict__" : Str)) = false := by decide) : wpAny (model prog w) A (loadName env x) Q E s := by
  obtain ⟨u, hv, hx⟩ := H.var _ hm
  cases hv
  rcases hx with ⟨a, m, hn, hm⟩ | ⟨a | a, c, hcl, hcv⟩
  · exact wpAny_loadName_local H.fn a hn hm h
  · exact wpAny_loadName_cell H.fn a hcl hcv h
  · exact wpAny_loadName_free H.fn a hcl hcv h hc
theorem callable_bound {prog : Program} {bo : Addr} {bt id : String} {ac : Nat} (hb : B.get? bo = some (boundO bt id ac)) (hbt : bt = "method-wrapper" ∨ bt = "builtin_function_or_method") : Callable prog w B (.ref bo) := fun h g => ⟨.machine, .inr (.inl rfl), fun A Q E s k hq => by
  unfold keeperOf
  refine wpAny_bind (wpAny_load (k _ _ (g _ _ hb)) ?_)
  rcases hbt with rfl | rfl
  · exact wpAny_pure hq
  · exact wpAny_pure hq⟩

/-- super().name() in a method of the accumulator's class -/
theorem super_call {pl : Sem Bool} {body : List Stmt} {f L' : Addr} {fd : FuncData} {of : Obj} {ar : Arg} {cc : Addr} {p0 p1 apos pos : Pos} {name : Str} {id wd gid bt : String} {b : Builtin} {Q : Value → Shared → Prop} {dx c k : Nat} {vs : List Value} {m : Str → Option Value} {ac : Nat} {ocode : Obj} {cvs : Array Value} {tf : Tok}
    (bb : Bs P B) (gB : Grow B s.heap) (R : Room n A) (L : Live X s.heap) (H : Has B X s.heap (callEnv fd L' f) G) (hself : (ar.arg, Slot.v (.ref ac)) ∈ G) (har : (ar.arg == ("__classdict__" : Str)) = false) (I : In s.heap ac dx 178 (accO dx vs k) c m) (hac : ac ≠ 178)
    (hks : (callEnv fd L' f).kindOf "super" = some .globalImplicit) (hkc : (callEnv fd L' f).kindOf "__class__" = some .free) (hat : (name == ("__class__" : Str)) = false) (hf : B.get? f = some of) (hfd : of.data = .func fd)
    (hp : (fd.params.posonlyargs ++ fd.params.args).head? = some ar) (hco : fd.code = .ref cc) (hcc : B.get? cc = some ocode) (hoc : ocode.data = .fields cvs) (hvs : cvs[2]? = some (.str "/claim/cut.py" tf)) (hcl : fd.closure = [(Str.ofString "__class__", 102)])
    (hfn : alongIn (hd.heap_1 P) name [.type "list", .type "object"] = some (some (.builtin id))) (hty : typeOf (.builtin id) = pure (.type wd)) (hlk : typeLookup (.type wd) "__get__" = pure (some (.builtin gid)))
    (hget : ∀ {h : Heap} {g d os} {Q' : Value → Shared → Prop} {A' : Around} {E' : Value → Shared → Prop} {t' : Nat}, (hd.heap_1 P).In h → In h ac dx 178 (accO dx vs k) c m → Q' (.ref h.objs.size) ⟨h.push (boundO bt id ac), g, d, t', os⟩ → wpAny (model pr w) A' (call (.builtin gid) [.builtin id, .ref ac, .ref 178]) Q' E' ⟨h, g, d, t', os⟩)
    (hbt : bt = "method-wrapper" ∨ bt = "builtin_function_or_method") (hpl : plainId id = true) (he : entryFor table id = some b)
    (hck : ∀ {s : Shared}, (hd.heap_1 P).In s.heap → In s.heap ac dx 178 (accO dx vs k) c m → ∀ (A' : Around) (Q' : Unit → Shared → Prop) (E' : Value → Shared → Prop), Q' () s → wpAny (model pr w) A' (checkBoundCall id ⟨[.ref ac], []⟩) Q' E' s)
    (hc : ∀ h' tk (A' : Around), Grow s.heap h' → wpAny (model pr w) A' (b ⟨[.ref ac], []⟩) (fun fin s' => ∃ v, fin = .done (.ret v) ∧ Q v s') E { s with heap := h', toks := tk })
    (hev : eval (.Call (.Attribute (.Call (.Name "super" p0) [] [] p1) name apos) [] [] pos) (callEnv fd L' f) = (do
      let ov ← attributeBase (.Call (.Name "super" p0) [] [] p1) name (callEnv fd L' f) (eval (.Call (.Name "super" p0) [] [] p1) (callEnv fd L' f))
      standAt apos.atName
      let (fx, first) ← holding [ov] (getMethod ov name pl)
      callWith pos fx first (backTo pos (starEach [] (callEnv fd L' f))) [])) :
    _root_.PySem.wpAt (model pr w) A (.func body (callEnv fd L' f)) (eval (.Call (.Attribute (.Call (.Name "super" p0) [] [] p1) name apos) [] [] pos) (callEnv fd L' f)) Q E s := by
  have KX : (hd.heap_1 P).In s.heap := bb.K.keeps gB
  refine ks_wpAt_MethodCall (pl := pl) ?_ hev
  have hC := KX 178 _ rfl
  refine ks_wpAt_super_base hks hkc hat rfl (gB _ _ hf) hfd hp (by show fd.code = _; exact hco) (gB _ _ hcc) hoc hvs (by rfl) (by rfl) ?_
  refine globLoad (bb.bui (x := "super") (by rfl) (by rfl) (by decide)) H hks ⟨rfl, ?_⟩
  refine wpAny_loadName_free (c := 102) H.fn hkc (by show fd.closure.lookup _ = _; rw [hcl]; rfl) ⟨_, KX 102 _ rfl, rfl⟩ ?_
  refine varLoad H hself ?_ har
  refine (lk_isType KX).here ⟨rfl, ?_⟩
  obtain ⟨hp', g, d, t, os⟩ := s
  refine ks_wpAny_call_super (D := 178) (C := 178) (x := ac) hC rfl I.at_ rfl (fun c e => by cases e) (lk_self KX) fun h₁ hso g₁ => ?_
  have KX₁ : (hd.heap_1 P).In h₁ := KX.keeps g₁
  have I₁ := I.keeps (fun o => g₁ _ o) (fun o => g₁ _ o)
  refine super_meth KX₁ I₁ hso hac hfn hat hty hlk (hget KX₁ I₁) ?_
  have g₂ : Grow hp' (h₁.push (boundO bt id ac)) := Grow.trans g₁ (Grow.push _ _)
  have hbo : (h₁.push (boundO bt id ac)).get? h₁.objs.size = some (boundO bt id ac) := Heap.get?_push_size _ rfl
  refine callWith_data (n := n) (X := X) (G := []) (B := h₁.push (boundO bt id ac)) (es := []) (ds := []) (first := []) (callable_bound hbo hbt) EvL.nil rfl R (L.grow g₂) ⟨Grow.refl _, H.fn, H.gl, H.bi, fun _ hm => by cases hm⟩ fun us h₃ t₃ g₃ r => ?_
  cases r
  refine call_bound (s := ⟨h₃, g, d, t₃, os⟩) (g₃ _ _ hbo) hbt hpl he (fun A' Q' E' hq => ?_) ?_
  · exact hck (s := ⟨h₃, g, d, t₃, os⟩) (KX.keeps (g₂.trans g₃)) (I.keeps (fun o => (g₂.trans g₃) _ o) (fun o => (g₂.trans g₃) _ o)) A' Q' E' hq
  · exact hc h₃ t₃ _ (g₂.trans g₃)

theorem call_fnAt {f : Addr} {fd : FuncData} {body : List Stmt} {xs : List Str} {vs us : List Value} {G₀ : Ctxt} {Q : Value → Shared → Prop} (W : Addr → Prop) (hlim : B.NoLimit) (hf : FnIs B f fd body) (gB : Grow B s.heap) (L : Live X s.heap) (R : Room (n + 1) A) (hnd : xs.Nodup) (hlen : xs.length = us.length)
    (hloc : ∀ x ∈ xs, fd.scope.names.lookup x = some .local) (hbind : BindsTo s fd ⟨vs, []⟩ (xs.zip us)) (hG : ∀ p ∈ G₀, ∃ v, (p.1, v) ∈ xs.zip us ∧ IsS X s.heap v p.2)
    (hb : ∀ (A' : Around) (h₀ : Heap) (tk : Nat), Room n A' → Grow s.heap h₀ → Fm B [(W, s.heap)] (fun b => X b ∨ b = s.heap.objs.size) h₀ (callEnv fd s.heap.objs.size f) G₀ →
      _root_.PySem.wpAt (model pr w) A' (.func body (callEnv fd s.heap.objs.size f)) (execs body (callEnv fd s.heap.objs.size f)) (fun fl s' => Q (match fl with | .ret v => v | _ => .none) s') (fun _ _ => False) { s with heap := h₀, toks := tk }) :
    wpAny (model pr w) A (call (.ref f) vs []) Q E s := by
  obtain ⟨o, ho, hd⟩ := hf.ex
  have hdep : A.depth < recursionLimit := by
    have := R.2.1
    show _ < 1000
    omega
  refine wpAny_call (ks_codeAny_call_defAt (binds := xs.zip us) (body := body) hdep (gB _ _ ho) hd (hlim.keeps gB) (hf.code.keeps gB) hf.body_ hbind hf.nocell (fun x hx => hloc x.1 (List.of_mem_zip hx).1) (fun h₀ hns hk => ?_) hf.co hf.gen hf.kind)
  have F := Fm.startW (X := X) (G₀ := G₀) W hf gB L hnd hlen hloc hns hk hG
  exact ks_wpAt_mono (hb (A.deeper (callEnv fd s.heap.objs.size f)) h₀ _ ⟨R.1, by have := R.2.1; show A.depth + 1 + n ≤ _; omega, by have := R.2.2; show A.units + 3 + _ ≤ _; omega⟩ hk F) (fun _ _ hq => hq) fun _ _ e => e.elim

theorem self_mem {ac : Nat} {h : Heap} : ∀ p ∈ ([(Str.ofString "self", Slot.v (.ref ac))] : Ctxt), ∃ v, (p.1, v) ∈ [Str.ofString "self"].zip [Value.ref ac] ∧ IsS X h v p.2 := fun p hp => by
  rw [List.mem_singleton.mp hp]; exact ⟨_, .head _, rfl⟩
theorem PS.ac_ne (ps : PS q s.heap mx lines parts) (b : Bs P B) (gB : Grow B s.heap) : q.ac ≠ 178 := fun e => by
  obtain ⟨k, c, t, vs, I, _⟩ := ps.acc
  have := I.at_
  rw [e, b.K.keeps gB 178 _ rfl] at this
  cases this

theorem part_count_call {Q : Value → Shared → Prop} (b : Bs P B) (gB : Grow B s.heap) (L : Live X s.heap) (R : Room (n + 1) A) (ps : PS q s.heap mx lines parts)
    (h : ∀ h' tk t, Grow s.heap h' → Q (.int parts.length t) { s with heap := h', toks := tk }) :
    wpAny (model pr w) A (call (.ref 175) [.ref q.ac] []) Q E s := by
  obtain ⟨k, c, t, vs, I, hc, hp⟩ := ps.acc
  have hl : vs.length = parts.length := by have := AllD.length hp; simpa using this
  refine call_fnAt (X := X) (n := n) (xs := ["self"]) (us := [.ref q.ac]) (G₀ := [("self", .v (.ref q.ac))]) (fun _ => False) b.nolimit
    (b.fnC (a := 175) rfl rfl rfl rfl rfl rfl rfl rfl rfl rfl) gB L R (by decide) rfl (by decide) (.of_eq rfl) self_mem fun A' h₀ tk R' g₀ F => ?_
  refine ks_wpAt_execs_cons (ks_wpAt_Return_some ?_)
  have I₀ := I.keeps (fun o => g₀ _ o) (fun o => g₀ _ o)
  refine super_call (ac := q.ac) b (gB.trans g₀) R' F.live F.has memH rfl I₀ (ps.ac_ne b gB) rfl rfl rfl (b.K 175 _ rfl) rfl rfl rfl (b.K 174 _ rfl) rfl rfl rfl rfl ty_len slot_wd_get.lookup (fun X' I' hq => get_len X' I' hq) (.inl rfl) PySem.F.slot_list_len.plain PySem.F.entry_list_len
    (fun _ _ => bound_len) (fun h₁ t₁ A'' g₁ => ?_) rfl
  have I₁ := I₀.keeps (fun o => g₁ _ o) (fun o => g₁ _ o)
  unfold Builtin.«list.__len__»
  have ho := I₁.at_
  obtain ⟨hp', g, dd, tk', os⟩ := s
  try dsimp only at ho
  wp_walk
  refine ⟨_, rfl, ?_⟩
  have := h h₁ (t₁ + 1) t₁ (g₀.trans g₁)
  rw [← hl] at this
  simpa [accO] using this

theorem Bs.grow {h : Heap} (b : Bs P B) (g : Grow B h) : Bs P h :=
  ⟨b.K.keeps g, let ⟨m, x⟩ := b.ng; ⟨m, x.keeps g⟩, let ⟨m, x, y⟩ := b.nb; ⟨m, x.keeps g, y⟩, b.nolimit.keeps g, let ⟨mg, bm, ob, M⟩ := b.bmod; ⟨mg, bm, ob, M.keeps g⟩⟩

theorem Ev.partCount {o : Expr} {apos pos : Pos} {pl : Sem Bool} (b : Bs P B) (ps : PS q B mx lines parts) (ho : EvV pr w B (n + 1) env G o (.ref q.ac)) (hbase : attributeBase o (Str.ofString "part_count") env (eval o env) = eval o env)
    (he : eval (.Call (.Attribute o (Str.ofString "part_count") apos) [] [] pos) env = (do
      let ov ← attributeBase o (Str.ofString "part_count") env (eval o env)
      standAt apos.atName
      let (f, first) ← holding [ov] (getMethod ov (Str.ofString "part_count") pl)
      callWith pos f first (backTo pos (starEach [] env)) [])) : Ev pr w B (n + 1) env G (.Call (.Attribute o (Str.ofString "part_count") apos) [] [] pos) (.int parts.length) := by
  intro A X Q E s R L H h
  refine Call_meth hbase (EvV.run ho R L H fun h₁ t₁ g₁ => ?_) he
  have gg := H.keep.trans g₁
  have ps₁ := ps.grow gg
  obtain ⟨k, c, t, vs, I, hc, hp⟩ := ps₁.acc
  refine accMeth (s := { s with heap := h₁, toks := t₁ }) (f := .ref 175) (b.K.keeps gg) I rfl (.inl (looks_typeIn (b.K.keeps gg) rfl)) rfl ?_
  refine callWith_data (n := n + 1) (B := B) (X := X) (G := []) (es := []) (ds := []) (first := [.ref q.ac]) (Callable.fn (b.K 175 _ rfl) rfl) EvL.nil rfl R (L.grow g₁) ⟨gg, H.fn, H.gl, H.bi, fun _ hm => by cases hm⟩ fun us h₂ t₂ g₂ r => ?_
  cases r
  exact part_count_call (s := { s with heap := h₂, toks := t₂ }) b (gg.trans g₂) (L.grow (g₁.trans g₂)) R (ps₁.grow g₂) fun h' tk t g => h _ h' tk (g₁.trans (g₂.trans g)) (.int _ _)
end
end
-- MD4
section
open PySem.Builtin PySem.Builtin.ObjectAttr
section
variable {w : World} {A : Around} {E : Value → Shared → Prop} {s : Shared} {P : Params} {B : Heap} {n : Nat} {q : Pp} {mx : Int} {lines : List Str} {parts : List (Str × Str)} {X : Addr → Prop} {env : Env} {G : Ctxt} {Hs : Snaps}

theorem Has.rebase {h : Heap} (H : Has B X h env G) : Has h X h env G := ⟨Grow.refl _, H.fn, H.gl, H.bi, H.var⟩
theorem EvT.run {prog : Program} {e : Expr} {c : Bool} {Q : Bool → Shared → Prop} (he : EvT prog w B n env G e c) (R : Room n A) (L : Live X s.heap) (H : Has B X s.heap env G) (h : ∀ h' tk, Grow s.heap h' → Q c { s with heap := h', toks := tk }) : wpAny (model prog w) A (isTrue e env (eval e env)) Q E s := he A X Q E s R L H h
theorem Room.le {k : Nat} (R : Room (n + k) A) : Room n A := ⟨R.1, by have := R.2.1; omega, by have := R.2.2; omega⟩

theorem pop_call {f g : Str} {Q : Value → Shared → Prop} (gd : Gd P B q X s.heap) (R : Room (n + 2) A) (ps : PS q s.heap mx lines (parts ++ [(f, g)])) (hz : parts.length ≤ 200)
    (h : ∀ v h' tk, Kp q s.heap h' → PS q h' mx lines parts → IsD (PX q) h' v (partD (f, g)) → Q v { s with heap := h', toks := tk }) :
    wpAny (model pr w) A (call (.ref 138) [.ref q.ac] []) Q E s := by
  refine call_fnAt (X := X) (n := n + 1) (xs := ["self"]) (us := [.ref q.ac]) (G₀ := [("self", .v (.ref q.ac))]) (fun _ => False) gd.b.nolimit
    (gd.b.fnC (a := 138) rfl rfl rfl rfl rfl rfl rfl rfl rfl rfl) gd.gB gd.L R (by decide) rfl (by decide) (.of_eq rfl) self_mem fun A' h₀ tk R' g₀ F => ?_
  have ps₀ := ps.grow g₀
  have b₀ : Bs P h₀ := gd.b.grow (gd.gB.trans g₀)
  refine ks_wpAt_execs_cons (ks_wpAt_If (wpAt_of_wpAny ?_))
  have hfalse : (((parts ++ [(f, g)]).length : Int) == 0) = false := by
    rw [List.length_append]
    exact beq_false_of_ne (by simp only [List.length_cons, List.length_nil]; omega)
  refine EvT.run (EvT.is (EvT.cmp (Ev.partCount b₀ ps₀ (EvV.name memH) rfl rfl) Ev.int Op2.eq_int) hfalse) R' F.live F.has.rebase fun h₁ t₁ g₁ => ?_
  rw [if_neg (by decide)]
  refine wpAt_of_wpAny (wpAny_execs_nil ?_)
  refine ks_wpAt_execs_cons (ks_wpAt_Return_some ?_)
  have ps₁ := ps₀.grow g₁
  have F₁ := F.grow g₁
  have gg := g₀.trans g₁
  obtain ⟨k, c, t, vs, I, hc, hp⟩ := ps₁.acc
  have hl : vs.length = (parts ++ [(f, g)]).length := by have := AllD.length hp; simpa using this
  -- the last
  obtain ⟨vs', u, rfl⟩ : ∃ vs' u, vs = vs' ++ [u] := by
    rcases List.eq_nil_or_concat vs with rfl | ⟨vs', u, rfl⟩
    · simp at hl
    · exact ⟨vs', u, by rw [List.concat_eq_append]⟩
  have hl' : vs'.length = parts.length := by simpa using hl
  refine super_call (ac := q.ac) gd.b (gd.gB.trans gg) R' F₁.live F₁.has memH rfl I (ps.ac_ne gd.b gd.gB) rfl rfl rfl (gd.b.K 138 _ rfl) rfl rfl rfl (gd.b.K 137 _ rfl) rfl rfl rfl rfl ty_pop slot_md_get.lookup (fun X' I' hq => get_pop X' I' hq) (.inr rfl) PySem.F.slot_list_pop.plain PySem.F.entry_list_pop
    (fun X' I' => bound_pop X' I') (fun h₂ t₂ A'' g₂ => ?_) rfl
  have I₂ := I.keeps (fun o => g₂ _ o) (fun o => g₂ _ o)
  refine acc_pop_b (s := { s with heap := h₂, toks := t₂ }) I₂ (by omega) fun h₃ k₃ sb e₃ => ?_
  have kp : Kp q h₂ h₃ := Kp.same_ac sb
  have sk : SKeep (PX q) h₂ h₃ := fun a o hn e _ => kp a o hn e
  have hp₂ := AllD.grow hp g₂
  rw [List.map_append] at hp₂
  have hp3 : AllD (PX q) h₃ vs' (parts.map partD) ∧ IsD (PX q) h₃ u (partD (f, g)) := by
    have h4 := hp₂.skeep sk
    have h5 := h4.take parts.length
    have h6 := h4.get (k := parts.length) (d := partD (f, g)) (by simp)
    rw [List.take_left' (by rw [hl']), List.take_left' (by simp)] at h5
    obtain ⟨v, hv, qv⟩ := h6
    rw [List.getElem?_append_right (by omega), hl', Nat.sub_self] at hv
    cases hv
    exact ⟨h5, qv⟩
  exact h u h₃ t₂ ((gg.trans g₂).kp.trans kp) ((ps₁.grow g₂).upd (fun b o hb e => sb.extBut b o hb e) e₃ hp3.1) hp3.2

/-- a slice from a place on, of the accumulator -/
theorem sliceFrom_bounds {j L : Nat} (h : j ≤ L) : sliceBounds (some (j : Int)) none none L = ((j : Int), (L : Int), 1) := by
  unfold sliceBounds
  simp
  omega
theorem pickD_from {α : Type} {l : List α} {j : Nat} (h : j ≤ l.length) : pickD l (some (j : Int)) none none = l.drop j := by
  unfold pickD
  rw [sliceFrom_bounds h]
  simp only
  rw [sliceRange_one]
  have key : ∀ (k : Nat) (l : List α), k ≤ l.length → ((List.range (l.length - k)).map (k + ·)).filterMap (l[·]?) = l.drop k := by
    intro k l hk
    rw [List.filterMap_map]
    have e : (List.range (l.length - k)).filterMap ((fun x => l[x]?) ∘ (k + ·)) = (List.range (l.drop k).length).filterMap (fun i => (l.drop k)[i]?) := by
      rw [List.length_drop]
      exact congrArg (fun f => List.filterMap f _) (funext fun i => by simp [List.getElem?_drop])
    rw [e]
    generalize l.drop k = r
    induction r with
    | nil => rfl
    | cons a r ih =>
      rw [List.length_cons, List.range_succ_eq_map, List.filterMap_cons]
      simp only [List.getElem?_cons_zero]
      rw [List.filterMap_map]
      congr 1
  exact key j l h
theorem acc_tail {value slice : Expr} {i : Value} {ops : List Value} {ac d c k : Nat} {vs : List Value} {m : Str → Option Value} {Q : Value → Shared → Prop} (KX : (hd.heap_1 P).In s.heap) (I : In s.heap ac d 178 (accO d vs k) c m) (hg : wpAny (model pr w) A (getItem (.ref ac) i) Q E s)
    (hs : subscripted slice false (.ref ac) i = operate ops (getItem (.ref ac) i)) : wpAny (model pr w) A (subscriptTail value slice (.ref ac) i) Q E s := by
  obtain ⟨es, n, J, _, _⟩ := I.inst
  unfold subscriptTail getitemInPython
  refine wpAny_bind (wpAny_bind (wpAny_bind (J.type.here ((looks_findIn KX f_getitem).here ?_))))
  dsimp only
  refine wpAny_pure ?_
  rw [hs]
  exact wpAny_bind (wpAny_operating (wpAny_mono hg (fun r s₃ h₃ => wpAny_bind (wpAny_letTemporaryGo (wpAny_pure h₃))) fun _ _ x => x))
end
end
-- MD5
section
open PySem.Builtin PySem.Builtin.ObjectAttr
section
variable {w : World} {A : Around} {E : Value → Shared → Prop} {s : Shared} {P : Params} {B : Heap} {n : Nat} {q : Pp} {mx : Int} {lines lines' : List Str} {parts parts' : List (Str × Str)} {X : Addr → Prop} {env : Env} {G : Ctxt} {H₀ h h' : Heap}

/-- the page is not turned by a store into a frame -/
theorem PS.store (ps : PS q h mx lines parts) {L : Addr} {m : Str → Option Value} (hn : h.Ns L m) (hL : ¬ PX q L) (sb : Heap.SameBut L h h') : PS q h' mx lines parts := by
  obtain ⟨oL, esL, epL, hoL, hdL, _⟩ := hn
  have ne : ∀ {a o}, h.get? a = some o → (∀ es n, o.data ≠ .dict es n) → a ≠ L := fun {a o} e hd z => by rw [z, hoL] at e; cases e; exact hd _ _ hdL
  have nx : ∀ {a}, PX q a → a ≠ L := fun ha z => hL (z ▸ ha)
  obtain ⟨cc, m, I, pm⟩ := ps.page
  obtain ⟨kk, c', t, vs, J, hc, hps⟩ := ps.acc
  obtain ⟨kl, vl, hl, hls⟩ := ps.lns
  obtain ⟨tab1, hT1⟩ := ps.t1
  obtain ⟨tab2, hT2⟩ := ps.t2
  have sk : SKeep (PX q) h h' := fun a o _ e hs => sb.extBut a o (ne e fun es n hd => by obtain ⟨v, k, e'⟩ := hs; rw [hd] at e'; cases e') e
  have k1 : ∀ {c T tab}, CodeT h c T tab → CodeT h' c T tab := fun {c T tab} x => by
    obtain ⟨o1, vs1, file, tf, flags, tg, inF, text, tt, op, ho1, hd2, h11, h2, h7, h9, h10, hop, hopd, r⟩ := x.1
    exact code_keep x (fun o e => sb.extBut _ _ (ne ho1 fun es n hd => by rw [hd2] at hd; cases hd) e) fun o e => sb.extBut _ _ (ne hop fun es n hd => by rw [hopd] at hd; cases hd) e
  exact ⟨⟨cc, m, I.keeps (fun o e => sb.extBut _ _ (ne I.at_ fun es n hd => by cases hd) e) (fun o e => sb.extBut _ _ (nx (.inr (.inr (.inl rfl)))) e), pm⟩,
    ⟨kk, c', t, vs, J.keeps (fun o e => sb.extBut _ _ (nx (.inl rfl)) e) (fun o e => sb.extBut _ _ (nx (.inr (.inl rfl))) e), hc, AllD.skeep hps sk⟩,
    ⟨kl, vl, sb.extBut _ _ (nx (.inr (.inr (.inr (.inl rfl))))) hl, hls.skeep sk⟩, ⟨tab1, k1 hT1⟩, ⟨tab2, k1 hT2⟩, ps.ap⟩

/-- a method's frame beside the page -/
structure Mf (P : Params) (B : Heap) (q : Pp) (X : Addr → Prop) (H₀ h : Heap) (env : Env) (G : Ctxt) (mx : Int) (lines : List Str) (parts : List (Str × Str)) : Prop where
  F : Fm B [(PX q, H₀)] X h env G
  ps : PS q h mx lines parts
  b : Bs P B
  hB : ∀ a, PX q a → B.get? a = none
  hX : ∀ a, PX q a → X a
  nL : ¬ PX q env.locals
  nC : ∀ x c, env.cells.lookup x = some c → ¬ PX q c
theorem Mf.start {f : Addr} {fd : FuncData} (gd : Gd P B q X s.heap) (ps : PS q s.heap mx lines parts) (hcl : ∀ x c, fd.closure.lookup x = some c → ∃ o, B.get? c = some o) {h₀ : Heap} (g₀ : Grow s.heap h₀) (F : Fm B [(PX q, s.heap)] (fun b => X b ∨ b = s.heap.objs.size) h₀ (callEnv fd s.heap.objs.size f) G) :
    Mf P B q (fun b => X b ∨ b = s.heap.objs.size) s.heap h₀ (callEnv fd s.heap.objs.size f) G mx lines parts :=
  have n1 : ¬ PX q (callEnv fd s.heap.objs.size f).locals := fun ha => by
    obtain ⟨o, e⟩ := ps.live _ ha
    have e : s.heap.get? s.heap.objs.size = some o := e
    rw [get_size_none s.heap (Nat.le_refl _)] at e; cases e
  have n2 : ∀ x c, (callEnv fd s.heap.objs.size f).cells.lookup x = some c → ¬ PX q c := fun x c hc ha => by
    obtain ⟨o, e⟩ := hcl x c hc
    rw [gd.hB c ha] at e; cases e
  ⟨F, ps.grow g₀, gd.b, gd.hB, fun a ha => .inl (gd.hX a ha), n1, n2⟩
theorem Mf.gd (M : Mf P B q X H₀ h env G mx lines parts) : Gd P B q X h := ⟨M.b, M.hB, M.F.has.keep, M.F.live, M.hX⟩
theorem Mf.kp (M : Mf P B q X H₀ h env G mx lines parts) : Kp q H₀ h := fun b o n e => M.F.olds _ (.head _) b o n e
theorem Mf.grow (M : Mf P B q X H₀ h env G mx lines parts) (g : Grow h h') : Mf P B q X H₀ h' env G mx lines parts := ⟨M.F.grow g, M.ps.grow g, M.b, M.hB, M.hX, M.nL, M.nC⟩
theorem Mf.sub {G' : Ctxt} (M : Mf P B q X H₀ h env G mx lines parts) (hs : ∀ p ∈ G', p ∈ G) : Mf P B q X H₀ h env G' mx lines parts := ⟨M.F.sub hs, M.ps, M.b, M.hB, M.hX, M.nL, M.nC⟩
theorem Mf.upd (M : Mf P B q X H₀ h env G mx lines parts) (k : Kp q h h') (ps : PS q h' mx lines' parts') (hM : noM G = true) : Mf P B q X H₀ h' env G mx lines' parts' :=
  ⟨M.F.moveX (PX q) k M.hX ps.live M.hB (fun a ha p hp => by rw [List.mem_singleton.mp hp]; exact .inl ha) M.nL M.nC hM, ps, M.b, M.hB, M.hX, M.nL, M.nC⟩
theorem Mf.store {prog : Program} {x : Str} {v : Value} {t : Slot} {Q : Unit → Shared → Prop} (M : Mf P B q X H₀ s.heap env G mx lines parts) (hk : env.kindOf x = some .local) (hx : (names G).contains x = false) (hq : IsS X s.heap v t)
    (hh : ∀ h' tk, Mf P B q X H₀ h' env ((x, t) :: G) mx lines parts → Heap.SameBut env.locals s.heap h' → Q () { s with heap := h', toks := tk }) : wpAny (model prog w) A (storeName env x v) Q E s := by
  obtain ⟨m, hn⟩ := M.F.ns
  exact M.F.storeL hk hx hq fun h' tk F' sb => hh h' tk ⟨F', M.ps.store hn M.nL sb, M.b, M.hB, M.hX, M.nL, M.nC⟩ sb
/-- evaluating in the frame, on all that stands -/
theorem Mf.has (M : Mf P B q X H₀ h env G mx lines parts) : Has h X h env G := M.F.has.rebase
theorem Mf.bs (M : Mf P B q X H₀ h env G mx lines parts) : Bs P h := M.b.grow M.F.has.keep

theorem pop_from_call {j : Nat} {tj : Tok} {Q : Value → Shared → Prop} (gd : Gd P B q X s.heap) (R : Room (n + 1) A) (ps : PS q s.heap mx lines parts) (hz : parts.length ≤ 200) (hj : j ≤ parts.length)
    (hh : ∀ l k vs h' tk, Kp q s.heap h' → PS q h' mx lines (parts.take j) → ¬ X l → h'.get? l = some (listO vs k) → PartsAt (PX q) h' vs (parts.drop j) → Q (.ref l) { s with heap := h', toks := tk }) :
    wpAny (model pr w) A (call (.ref 130) [.ref q.ac, .int j tj] []) Q E s := by
  refine call_fn (X := X) (n := n) (xs := ["self", "i"]) (us := [.ref q.ac, .int j tj]) (G₀ := [("self", .v (.ref q.ac)), ("i", .d (.int j))]) (PX q) gd.b.nolimit
    (gd.b.fn (a := 130) rfl rfl rfl rfl rfl rfl rfl rfl rfl rfl) gd.gB gd.L R (by decide) rfl (by decide) (.of_defaults rfl (gd.gB _ _ (gd.b.K _ _ rfl)) rfl rfl rfl) (fun p hp => ?_) fun A' h₀ tk R' g₀ F => ?_
  · rcases List.mem_cons.mp hp with rfl | hp
    · exact ⟨_, .head _, rfl⟩
    · rw [List.mem_singleton.mp hp]
      exact ⟨_, .tail _ (.head _), .int j tj⟩
  · have M := Mf.start gd ps (fun x c hc => by cases hc) g₀ F
    obtain ⟨k, c, t, vs, I, hc, hp⟩ := M.ps.acc
    have hl : vs.length = parts.length := by have := AllD.length hp; simpa using this
    -- popped = self[i:]
    refine St.cons (wpAny_Assign_Name (Subscript_ (EvV.run (EvV.name memH) R' F.live F.has fun h₁ t₁ g₁ => wpAny_Slice ?_)) rfl)
    refine Ev.run (Ev.name (d := .int j) (memT memH)) R' (F.grow g₁).live (F.grow g₁).has fun v₂ h₂ t₂ g₂ q₂ => ?_
    rw [evalPart_none]
    refine wpAny_pure ?_
    refine wpAny_pure ?_
    have gsl : Grow h₀ (h₂.push { cls := .type "slice", data := .fields #[v₂, .none, .none] }) := Grow.trans g₁ (Grow.trans g₂ (Grow.push _ _))
    have I₂ := I.keeps (fun o => gsl _ o) (fun o => gsl _ o)
    have pt : IsPart v₂ (some (j : Int)) := by cases q₂; exact .int _ _
    refine acc_tail (s := { s with heap := h₂.push { cls := .type "slice", data := .fields #[v₂, .none, .none] }, toks := t₂ }) ((M.grow gsl).bs.K) I₂ (acc_slice (lo := some (j : Int)) (hi := none) (st := none) ((M.grow gsl).bs.K) I₂ ⟨_, Heap.get?_push_size _ rfl, rfl, rfl⟩ pt .none .none (by simp) ?_ (by rw [sizeLine_eq]; omega)) (by rfl)
    rw [pickD_from (by omega)]
    have e3 := Heap.get?_push_size (h₂.push { cls := .type "slice", data := .fields #[v₂, .none, .none] }) (o := listO (vs.drop j) 0) rfl
    have g3 : Grow h₀ ((h₂.push { cls := .type "slice", data := .fields #[v₂, .none, .none] }).push (listO (vs.drop j) 0)) := gsl.trans (Grow.push _ _)
    generalize hl3 : (h₂.push { cls := .type "slice", data := .fields #[v₂, .none, .none] }).objs.size = l at e3 ⊢
    have hlX : ¬ (X l ∨ l = s.heap.objs.size) := by
      rw [← hl3]; exact (M.grow gsl).F.live.fresh
    generalize (h₂.push { cls := .type "slice", data := .fields #[v₂, .none, .none] }).push (listO (vs.drop j) 0) = h₃ at e3 g3 ⊢
    have M₃ := M.grow g3
    refine M₃.store (s := { s with heap := h₃, toks := t₂ }) (t := .v (.ref l)) rfl rfl rfl fun h₄ t₄ M₄ sb₄ => ?_
    have e4 : h₄.get? l = some (listO (vs.drop j) 0) := sb₄.extBut _ _ (fun z => hlX (.inr z)) e3
    have p4 : PartsAt (PX q) h₄ (vs.drop j) (parts.drop j) := by
      have h1 := (AllD.grow hp g3).drop j
      rw [← List.map_drop] at h1
      exact h1.skeep fun a o hn e hso => by
        obtain ⟨m, hm⟩ := M₃.F.ns
        exact sb₄.extBut a o (fun z => ns_not_seq hm (z ▸ e) hso) e
    obtain ⟨k4, c4, t4', vs4, I4, hc4, hp4⟩ := M₄.ps.acc
    have hl4 : vs4.length = parts.length := by have := AllD.length hp4; simpa using this
    -- self[i:] = []
    refine St.cons (wpAny_Assign_Subscript (List_ (spliced_nil ?_)))
    refine wpAny_newObj_type ?_ (by show ([] : List Value).toArray.size ≤ sizeLine; exact Nat.zero_le _)
    have g5 : Grow h₄ (h₄.push (listO [] 0)) := Grow.push _ _
    have e5 : (h₄.push (listO [] 0)).get? h₄.objs.size = some (listO [] 0) := Heap.get?_push_size _ rfl
    have M₅ := M₄.grow g5
    refine EvV.run (s := { s with heap := h₄.push (listO [] 0), toks := t₄ }) (EvV.name (memT memH)) R' M₅.F.live M₅.F.has fun h₆ t₆ g₆ => wpAny_Slice ?_
    have M₆ := M₅.grow g₆
    refine Ev.run (s := { s with heap := h₆, toks := t₆ }) (Ev.name (d := .int j) (memT (memT memH))) R' M₆.F.live M₆.F.has fun v₇ h₇ t₇ g₇ q₇ => ?_
    rw [evalPart_none]
    refine wpAny_pure ?_
    refine wpAny_pure ?_
    have pt7 : IsPart v₇ (some (j : Int)) := by cases q₇; exact .int _ _
    have g8 : Grow h₄ (h₇.push { cls := .type "slice", data := .fields #[v₇, .none, .none] }) := g5.trans (Grow.trans g₆ (Grow.trans g₇ (Grow.push _ _)))
    have g58 : Grow (h₄.push (listO [] 0)) (h₇.push { cls := .type "slice", data := .fields #[v₇, .none, .none] }) := Grow.trans g₆ (Grow.trans g₇ (Grow.push _ _))
    have hs8 : (h₇.push { cls := .type "slice", data := .fields #[v₇, .none, .none] }).IsSliceOf h₇.objs.size v₇ .none .none := ⟨_, Heap.get?_push_size _ rfl, rfl, rfl⟩
    generalize h₇.push { cls := .type "slice", data := .fields #[v₇, .none, .none] } = h₈ at g8 g58 hs8 ⊢
    have M₈ := M₄.grow g8
    have I8 := I4.keeps (fun o => g8 _ o) (fun o => g8 _ o)
    have hne : q.ac ≠ h₄.objs.size := fun z => by
      have := I4.at_; rw [z, get_size_none h₄ (Nat.le_refl _)] at this; cases this
    refine acc_setSlice (s := { s with heap := h₈, toks := t₇ }) (start := j) M₈.bs.K I8 hs8 pt7 (g58 _ _ e5) hne (by rw [hl4]; exact sliceFrom_bounds hj) (by omega) (by omega) (by simp) fun h₉ k₉ sb₉ e₉ => ?_
    rw [List.append_nil] at e₉
    have kp9 : Kp q h₈ h₉ := Kp.same_ac sb₉
    have sk9 : SKeep (PX q) h₈ h₉ := fun a o hn e _ => kp9 a o hn e
    have ps₉ : PS q h₉ mx lines (parts.take j) := M₈.ps.upd (fun b o hb e => sb₉.extBut b o hb e) e₉ (by
      unfold PartsAt
      rw [List.map_take]
      exact ((AllD.grow hp4 g8).take j).skeep sk9)
    have M₉ := M₈.upd kp9 ps₉ rfl
    refine St.cons (wpAny_Return_some (EvV.run (s := { s with heap := h₉, toks := t₇ }) (EvV.name memH) R' M₉.F.live M₉.F.has fun h₁₀ t₁₀ g₁₀ => ?_))
    have hlX' : ¬ X l := fun z => hlX (.inl z)
    have hlac : l ≠ q.ac := fun z => hlX' (gd.hX l (.inl z))
    refine hh l 0 (vs.drop j) h₁₀ t₁₀ (M₉.grow g₁₀).kp (ps₉.grow g₁₀) hlX' (g₁₀ _ _ (sb₉.extBut _ _ hlac (g8 _ _ e4))) ?_
    exact AllD.grow ((AllD.grow p4 g8).skeep sk9) g₁₀
end
end
-- MD6
section
open PySem.Builtin PySem.Builtin.ObjectAttr
section
variable {w : World} {A : Around} {E : Value → Shared → Prop} {s : Shared} {P : Params} {B : Heap} {n : Nat} {q : Pp} {mx : Int} {lines lines' : List Str} {parts parts' : List (Str × Str)} {X : Addr → Prop} {env : Env} {G : Ctxt} {H₀ h h' : Heap}

theorem f_taker : takerIn (hd.heap_1 P) 178 "_initial_size" = some none := rfl
theorem f_setattr : findIn (hd.heap_1 P) (.ref 178) "__setattr__" = some (some (.builtin "object.__setattr__")) := rfl
theorem acc_cls : ∃ cd, clsIn (hd.heap_1 P) 178 = some cd ∧ cd.mro = [.ref 178, .type "list", .type "object"] ∧ cd.hasDict = true := ⟨_, rfl, rfl, rfl⟩
theorem acc_refuse (x : Addr) : refuseLoop (.ref x) "__setattr__" [.ref 178, .type "list", .type "object"] = pure () := by
  rw [refuseLoop_ref]; kernel_rfl
/-- the size set to nothing -/
theorem acc_setSize {ac d c k : Nat} {vs : List Value} {m : Str → Option Value} {t : Tok} {Q : Unit → Shared → Prop} (KX : (hd.heap_1 P).In s.heap) (I : In s.heap ac d 178 (accO d vs k) c m) (hc : c ≤ 500)
    (hh : ∀ h' tk, (∀ b o, b ≠ d → s.heap.get? b = some o → h'.get? b = some o) → DictIs h' d (if (m "_initial_size").isSome then c else c + 1) (fun y => if y = "_initial_size" then some (.int 0 t) else m y) → Q () { s with heap := h', toks := tk }) :
    wpAny (model pr w) A (setAttr (.ref ac) "_initial_size" (.int 0 t)) Q E s := by
  obtain ⟨cd, h1, h2, h3⟩ := acc_cls (P := P)
  refine set_attr (cd := cd) KX I h1 (by rw [h2]; exact acc_refuse ac) (by unfold mroIn; rw [h1, Option.bind_some, h2]; rfl) f_taker h3 f_setattr hh hc
theorem PS.updD (ps : PS q h mx lines parts) (k : ∀ b o, b ≠ q.acD → h.get? b = some o → h'.get? b = some o) {c : Nat} {t : Tok} (hc : c ≤ 400) (hd : DictIs h' q.acD c (accM t)) : PS q h' mx lines parts := by
  have pn := ps.pgne
  have an := ps.ap.ne
  obtain ⟨cc, m, I, pm⟩ := ps.page
  obtain ⟨kk, c', t', vs, J, hc', hps⟩ := ps.acc
  obtain ⟨kl, vl, hl, hls⟩ := ps.lns
  obtain ⟨tab, hT⟩ := ps.t1
  obtain ⟨tab2, hT2⟩ := ps.t2
  obtain ⟨es, nn, hd0, _⟩ := J.ns
  have d1 : ∀ vs0, (dictOf es nn).data ≠ .fields vs0 := fun _ e => by cases e
  have e1 := code_ne hT hd0 d1
  have e2 := code_ne hT2 hd0 d1
  have sk : SKeep (PX q) h h' := fun a o hn e _ => k a o (fun z => hn (.inr (.inl z))) e
  exact ⟨⟨cc, m, I.keeps (fun o => k _ o pn.2.1) (fun o => k _ o (Ne.symm an.2.2.2.2.2.1)), pm⟩, ⟨kk, c, t, vs, ⟨k _ _ an.1 J.at_, rfl, rfl, rfl, hd⟩, hc, AllD.skeep hps sk⟩,
    ⟨kl, vl, k _ _ (Ne.symm an.2.2.2.2.2.2.1) hl, hls.skeep sk⟩, ⟨tab, code_keep hT (fun o => k _ o (Ne.symm e1.1)) (fun o => k _ o (Ne.symm e1.2))⟩, ⟨tab2, code_keep hT2 (fun o => k _ o (Ne.symm e2.1)) (fun o => k _ o (Ne.symm e2.2))⟩, ps.ap⟩
theorem accM_self (t t' : Tok) : (fun y => if y = Str.ofString "_initial_size" then some (Value.int 0 t) else accM t' y) = accM t := by
  funext y
  unfold accM
  split <;> rfl

theorem all_bounds (L : Nat) : sliceBounds none none none L = (((0 : Nat) : Int), (L : Int), 1) := by
  unfold sliceBounds; simp

/-- the tail of reset: self[:] = startval; self._initial_size = 0 -/
theorem reset_tail {l k : Nat} {ws : List Value} {Q : Flow → Shared → Prop} {st1 st2 : Stmt} {pS pV p1 p2 p3 p4 p5 p6 p7 : Pos} {kc : Nat} (env : Env) (hst1 : st1 = .Assign [.Subscript (.Name "self" p1) (.Slice none none none p2) p3] (.Name "startval" p4) pS)
    (hst2 : st2 = .Assign [.Attribute (.Name "self" p5) "_initial_size" p6] (.Constant (.int 0) kc p7) pV) (R : Room n A) (M : Mf P B q X H₀ s.heap env [("startval", .v (.ref l)), ("self", .v (.ref q.ac))] mx lines parts)
    (hl : s.heap.get? l = some (listO ws k)) (hlX : ¬ X l) (hp : PartsAt (PX q) s.heap ws parts') (hz : parts.length ≤ 200) (hz2 : parts'.length ≤ 200)
    (hq : ∀ h' tk, Mf P B q X H₀ h' env [("startval", .v (.ref l)), ("self", .v (.ref q.ac))] mx lines parts' → Q .next { s with heap := h', toks := tk }) :
    wpAny (model pr w) A (execs [st1, st2] env) Q E s := by
  subst hst1 hst2
  have hlac : q.ac ≠ l := fun z => hlX (z ▸ M.hX _ (.inl rfl))
  have hwl : ws.length = parts'.length := by have := AllD.length hp; simpa using this
  refine St.cons (wpAny_Assign_Subscript (EvV.run (EvV.name memH) R M.F.live M.F.has fun h₁ t₁ g₁ => ?_) rfl)
  have M₁ := M.grow g₁
  refine EvV.run (s := { s with heap := h₁, toks := t₁ }) (EvV.name (memT memH)) R M₁.F.live M₁.F.has fun h₂ t₂ g₂ => wpAny_Slice ?_
  have M₂ := M₁.grow g₂
  refine wpAny_pure (wpAny_pure (wpAny_pure ?_))
  have hs3 : (h₂.push { cls := .type "slice", data := .fields #[.none, .none, .none] }).IsSliceOf h₂.objs.size .none .none .none := ⟨_, Heap.get?_push_size _ rfl, rfl, rfl⟩
  have g3 : Grow h₂ (h₂.push { cls := .type "slice", data := .fields #[.none, .none, .none] }) := Grow.push _ _
  show wpAny _ A (setItem _ (.ref h₂.objs.size) _) _ _ { s with heap := h₂.push { cls := .type "slice", data := .fields #[.none, .none, .none] }, toks := t₂ }
  generalize h₂.push { cls := .type "slice", data := .fields #[.none, .none, .none] } = h₃ at hs3 g3 ⊢
  have M₃ := M₂.grow g3
  have gg : Grow s.heap h₃ := Grow.trans g₁ (Grow.trans g₂ g3)
  obtain ⟨k3, c3, t3, vs3, I3, hc3, hp3⟩ := M₃.ps.acc
  have hl3 : vs3.length = parts.length := by have := AllD.length hp3; simpa using this
  refine acc_setSlice (s := { s with heap := h₃, toks := t₂ }) (start := 0) M₃.bs.K I3 hs3 .none (gg _ _ hl) hlac (all_bounds _) (Nat.zero_le _) (by omega) (by omega) fun h₄ k₄ sb₄ e₄ => ?_
  rw [List.take_zero, List.nil_append] at e₄
  have kp4 : Kp q h₃ h₄ := Kp.same_ac sb₄
  have ps₄ : PS q h₄ mx lines parts' := M₃.ps.upd (fun b o hb e => sb₄.extBut b o hb e) e₄ ((AllD.grow hp gg).skeep fun a o hn e _ => kp4 a o hn e)
  have M₄ := M₃.upd kp4 ps₄ rfl
  -- self._initial_size = 0
  refine St.cons (plainObj_wpAny_Assign_Attribute (wpAny_Constant_int ?_) rfl)
  refine EvV.run (s := { s with heap := h₄, toks := t₂ + 1 }) (EvV.name (memT memH)) R M₄.F.live M₄.F.has fun h₅ t₅ g₅ => ?_
  have M₅ := M₄.grow g₅
  obtain ⟨k5, c5, t5, vs5, I5, hc5, hp5⟩ := M₅.ps.acc
  refine acc_setSize (s := { s with heap := h₅, toks := t₅ }) M₅.bs.K I5 (by omega) fun h₆ t₆ k₆ d₆ => wpAny_execs_nil ?_
  rw [if_pos (by unfold accM; rw [if_pos rfl]; rfl), accM_self] at d₆
  have ps₆ : PS q h₆ mx lines parts' := M₅.ps.updD k₆ hc5 d₆
  exact hq h₆ t₆ (M₅.upd (fun b o nb e => k₆ b o (fun z => nb (.inr (.inl z))) e) ps₆ rfl)
end
end
-- MD7
section
open PySem.Builtin PySem.Builtin.ObjectAttr
section
variable {w : World} {A : Around} {E : Value → Shared → Prop} {s : Shared} {P : Params} {B : Heap} {n : Nat} {q : Pp} {mx : Int} {lines lines' : List Str} {parts parts' : List (Str × Str)} {X : Addr → Prop} {env : Env} {G : Ctxt} {H₀ h h' : Heap}

theorem isNone_test {x : Str} {px pc pos : Pos} {kc : Nat} {v : Value} {Q : Bool → Shared → Prop} (R : Room n A) (M : Mf P B q X H₀ s.heap env G mx lines parts) (hm : (x, Slot.v v) ∈ G) (hpl : plainIs v .none = true) (hx : (x == ("__debug__" : Str)) = false) (hx2 : (x == ("__classdict__" : Str)) = false)
    (h : ∀ h' tk, Grow s.heap h' → Q (v == .none) { s with heap := h', toks := tk }) : wpAny (model pr w) A (isTrue (.Compare (.Name x px) [.Is] [.Constant .none kc pc] pos) env (eval (.Compare (.Name x px) [.Is] [.Constant .none kc pc] pos) env)) Q E s := by
  refine wpAny_isTrue_Compare1 (EvV.run (EvV.name hm hx hx2) R M.F.live M.F.has fun h₁ t₁ g₁ => wpAny_Constant_none ?_) (by with_unfolding_all rfl)
  exact wpAny_is_plain hpl (wpAny_truthy_bool (h h₁ t₁ g₁))

theorem reset_call {l k : Nat} {ws : List Value} {Q : Value → Shared → Prop} (gd : Gd P B q X s.heap) (R : Room (n + 1) A) (ps : PS q s.heap mx lines parts) (hl : s.heap.get? l = some (listO ws k)) (hlX : ¬ X l) (hp : PartsAt (PX q) s.heap ws parts') (hz : parts.length ≤ 200) (hz2 : parts'.length ≤ 200)
    (hh : ∀ h' tk, Kp q s.heap h' → PS q h' mx lines parts' → Q .none { s with heap := h', toks := tk }) : wpAny (model pr w) A (call (.ref 160) [.ref q.ac, .ref l] []) Q E s := by
  refine call_fn (X := X) (n := n) (xs := ["self", "startval"]) (us := [.ref q.ac, .ref l]) (G₀ := [("startval", .v (.ref l)), ("self", .v (.ref q.ac))]) (PX q) gd.b.nolimit
    (gd.b.fn (a := 160) rfl rfl rfl rfl rfl rfl rfl rfl rfl rfl) gd.gB gd.L R (by decide) rfl (by decide) (.of_defaults rfl (gd.gB _ _ (gd.b.K _ _ rfl)) rfl rfl rfl) (fun p hp => ?_) fun A' h₀ tk R' g₀ F => ?_
  · rcases List.mem_cons.mp hp with rfl | hp
    · exact ⟨_, .tail _ (.head _), rfl⟩
    · rw [List.mem_singleton.mp hp]
      exact ⟨_, .head _, rfl⟩
  · have M := Mf.start gd ps (fun x c hc => by cases hc) g₀ F
    have hlX' : ¬ (X l ∨ l = s.heap.objs.size) := fun z => z.elim hlX fun e => by rw [e, get_size_none s.heap (Nat.le_refl _)] at hl; cases hl
    refine St.cons (wpAny_If (isNone_test (s := { s with heap := h₀, toks := tk }) R' M memH rfl rfl rfl fun h₁ t₁ g₁ => ?_))
    rw [if_neg (by simp)]
    refine wpAny_execs_nil ?_
    have M₁ := M.grow g₁
    have gg := g₀.trans g₁
    refine reset_tail (s := { s with heap := h₁, toks := t₁ }) _ rfl rfl R' M₁ (gg _ _ hl) hlX' (AllD.grow hp gg) hz hz2 fun h' tk' M' => hh h' tk' M'.kp M'.ps
theorem reset_call0 {Q : Value → Shared → Prop} (gd : Gd P B q X s.heap) (R : Room (n + 1) A) (ps : PS q s.heap mx lines parts) (hz : parts.length ≤ 200)
    (hh : ∀ h' tk, Kp q s.heap h' → PS q h' mx lines [] → Q .none { s with heap := h', toks := tk }) : wpAny (model pr w) A (call (.ref 160) [.ref q.ac] []) Q E s := by
  refine call_fn (X := X) (n := n) (xs := ["self", "startval"]) (us := [.ref q.ac, .none]) (G₀ := [("startval", .v .none), ("self", .v (.ref q.ac))]) (PX q) gd.b.nolimit
    (gd.b.fn (a := 160) rfl rfl rfl rfl rfl rfl rfl rfl rfl rfl) gd.gB gd.L R (by decide) rfl (by decide) (.of_defaults rfl (gd.gB _ _ (gd.b.K _ _ rfl)) rfl rfl rfl) (fun p hp => ?_) fun A' h₀ tk R' g₀ F => ?_
  · rcases List.mem_cons.mp hp with rfl | hp
    · exact ⟨_, .tail _ (.head _), rfl⟩
    · rw [List.mem_singleton.mp hp]
      exact ⟨_, .head _, rfl⟩
  · have M := Mf.start gd ps (fun x c hc => by cases hc) g₀ F
    refine St.cons (wpAny_If (isNone_test (s := { s with heap := h₀, toks := tk }) R' M memH rfl rfl rfl fun h₁ t₁ g₁ => ?_))
    rw [if_pos (by decide)]
    have M₁ := M.grow g₁
    refine St.cons (wpAny_Assign_Name (List_ (spliced_nil ?_)) rfl)
    refine wpAny_newObj_type ?_ (by show ([] : List Value).toArray.size ≤ sizeLine; exact Nat.zero_le _)
    have M₂ := (M₁.grow (Grow.push h₁ (listO [] 0))).sub (G' := [("self", .v (.ref q.ac))]) (by walk_at "sub")
    have hlX' : ¬ (X h₁.objs.size ∨ h₁.objs.size = s.heap.objs.size) := M₁.F.live.fresh
    have e2 : (h₁.push (listO [] 0)).get? h₁.objs.size = some (listO [] 0) := Heap.get?_push_size _ rfl
    refine M₂.store (s := { s with heap := h₁.push (listO [] 0), toks := t₁ }) (t := .v (.ref h₁.objs.size)) rfl rfl rfl fun h₃ t₃ M₃ sb₃ => ?_
    refine wpAny_execs_nil ?_
    have e3 : h₃.get? h₁.objs.size = some (listO [] 0) := sb₃.extBut _ _ (fun z => hlX' (.inr z)) e2
    refine reset_tail (s := { s with heap := h₃, toks := t₃ }) (ws := []) (parts' := []) _ rfl rfl R' M₃ e3 hlX' .nil hz (Nat.zero_le _) fun h' tk' M' => hh h' tk' M'.kp M'.ps
end
end
-- MD8
section
open PySem.Builtin PySem.Builtin.ObjectAttr
section
variable {prog : Program} {w : World} {A : Around} {E : Value → Shared → Prop} {s : Shared} {P : Params} {B : Heap} {n : Nat} {q : Pp} {mx : Int} {lines lines' : List Str} {parts parts' : List (Str × Str)} {X : Addr → Prop} {env : Env} {G : Ctxt} {H₀ H h h' : Heap} {a : Addr} {F : Nat → Value → Prop}

theorem GenX.tick (hG : GenX prog w A a H n F s) {tk : Nat} (ht : s.toks ≤ tk) : GenX prog w A a H n F { s with toks := tk } := by
  obtain ⟨fp, wr, g, St, W, hst, hT, ha, hfp, hwr⟩ := hG
  exact ⟨fp, wr, g, St, W, W.frame 0 s s.heap tk hst ht (fun _ _ _ e => e), hT, ha, hfp, hwr⟩
theorem sum_genX {val : Nat → Int} {t : Tok} {Q : Value → Shared → Prop} (hG : GenX prog w A a H n F s) (hval : ∀ j v, F j v → ∃ t, v = .int (val j) t)
    (hQ : ∀ s' t', (∀ b o, H.get? b = some o → ∀ o', s.heap.get? b = some o' → s'.heap.get? b = some o') → (AllBare s.gens → AllBare s'.gens) → s'.drawn = s.drawn → s'.os = s.os → Q (.int (preSum val n) t') s') :
    wpAny (model prog w) A (call (.builtin "sum") [.ref a, .int 0 t]) Q E s := by
  obtain ⟨fp, wr, g, St, W, hst, hT, ha, hfp, hwr⟩ := hG
  refine call_sum2 ((WalksS.in4_1 W).self 0 s _ _ hst ?_)
  refine ⟨a, fp, wr, _, n, _, _, val, rfl, WalksS.in4_1 W, hst, hfp, hval, fun s' t' hm => hQ s' t' (fun b o e o' e' => hm.heap b o' (fun hb => by rw [hwr b hb] at e; cases e) e') (fun G => show AllBare s'.gens from G.movedS hm) hm.drawn hm.os⟩
theorem join_genX {x : Str} {t : Tok} {xs : List Str} {Q : Value → Shared → Prop} (hG : GenX prog w A a H xs.length F s) (hval : ∀ j v, F j v → ∃ y t, xs[j]? = some y ∧ v = .str y t) (hok : JoinOk x xs = true) (hz : xs.length ≤ sizeLine)
    (hQ : ∀ s' t', (∀ b o, H.get? b = some o → ∀ o', s.heap.get? b = some o' → s'.heap.get? b = some o') → (AllBare s.gens → AllBare s'.gens) → s'.drawn = s.drawn → s'.os = s.os → Q (.str (Txt.join x xs) t') s') :
    wpAny (model prog w) A (call (.builtin "str.join") [.str x t, .ref a]) Q E s := by
  obtain ⟨fp, wr, g, St, W, hst, hT, ha, hfp, hwr⟩ := hG
  refine SC.joinGen (WalksS.in4_2 W) hT hst hfp ha (fun i v hv => by obtain ⟨y, t, _, e⟩ := hval i v hv; exact ⟨y, t, e⟩) (fun s' l hm hit => ?_) hz
  have e : l.map (·.1) = xs := by
    obtain ⟨hsz, hitem⟩ := hit
    have hsz' : l.length = xs.length := by simpa [strValues] using hsz
    apply List.ext_getElem?
    intro j
    by_cases hj : j < l.length
    · obtain ⟨y, t, hy, hv⟩ := hval j (.str l[j].1 l[j].2) (hitem j _ (by simp [strValues, hj]))
      cases hv
      rw [hy, List.getElem?_map, List.getElem?_eq_getElem hj]; rfl
    · rw [List.getElem?_eq_none (by simpa using hj), List.getElem?_eq_none (by omega)]
  rw [e]
  refine ⟨hok, fun t' k => hQ { s' with toks := k } t' (fun b o e1 o' e' => hm.heap b o' (fun hb => by rw [hwr b hb] at e1; cases e1) e') (fun G => show AllBare s'.gens from G.movedS hm) hm.drawn hm.os⟩
end
end
-- MD9
section
open PySem.Builtin PySem.Builtin.ObjectAttr
section
variable {w : World} {A : Around} {E : Value → Shared → Prop} {s : Shared} {P : Params} {B : Heap} {n : Nat} {q : Pp} {mx : Int} {lines lines' : List Str} {parts parts' : List (Str × Str)} {X : Addr → Prop} {env : Env} {G : Ctxt} {H₀ H h h' : Heap}

noncomputable def size1 (p : Str × Str) : Int := ((p.1.length : Int) + (p.2.length : Int))
noncomputable def total (ps : List (Str × Str)) : Int := (ps.map size1).sum
/-- short texts alone -/
noncomputable def Short (ps : List (Str × Str)) : Prop := ∀ p ∈ ps, p.1.length ≤ 100 ∧ p.2.length ≤ 100

theorem selfNs (H : Has B X h env G) {x : Str} {v : Value} (hm : (x, Slot.v v) ∈ G) (hk : env.kindOf x = some .local) : ∃ m, h.Ns env.locals m ∧ m x = some v := by
  obtain ⟨u, hv, hx⟩ := H.var _ hm
  cases hv
  rcases hx with ⟨_, m, hn, e⟩ | ⟨a | a, _⟩
  · exact ⟨m, hn, e⟩
  · rw [hk] at a; cases a
  · rw [hk] at a; cases a

theorem len_call {Q : Value → Shared → Prop} (gd : Gd P B q X s.heap) (R : Room (n + 2) A) (ps : PS q s.heap mx lines parts) (hsh : Short parts)
    (hh : ∀ h' tk g' t, Kp q s.heap h' → PS q h' mx lines parts → (AllBare s.gens → AllBare g') → Q (.int (total parts) t) { s with heap := h', toks := tk, gens := g' }) :
    wpAny (model pr w) A (call (.ref 145) [.ref q.ac] []) Q E s := by
  refine call_fn (X := X) (n := n + 1) (xs := ["self"]) (us := [.ref q.ac]) (G₀ := [("self", .v (.ref q.ac))]) (PX q) gd.b.nolimit
    (gd.b.fn (a := 145) rfl rfl rfl rfl rfl rfl rfl rfl rfl rfl) gd.gB gd.L R (by decide) rfl (by decide) (.of_eq rfl) self_mem fun A' h₀ tk R' g₀ F => ?_
  have M := Mf.start gd ps (fun x c hc => by cases hc) g₀ F
  refine St.cons (wpAny_Return_some (wpAny_Call_Name_kw ?_))
  refine globName (s := { s with heap := h₀, toks := tk }) (gd.b.bui (x := "sum") (by rfl) (by rfl) (by decide)) M.F.has (by rfl) (by decide) ?_
  refine callWith_of (P := fun _ => True) rfl (fun h _ => ⟨.machine, .inr (.inl rfl), Looks.of_pure rfl⟩) (evalArgs_list (es := [_, _]) (spliced_cons ?_))
  obtain ⟨k, c, t, vs, I, hc, hp⟩ := M.ps.acc
  obtain ⟨tab, hT⟩ := M.ps.t1
  obtain ⟨mL, hns, hmy⟩ := selfNs M.F.has memH rfl
  refine genexp_acc (s := { s with heap := h₀, toks := tk }) (n := n) (F := fun f g => .int ((f.length : Int) + (g.length : Int))) gd.b M.F.has.keep (gd.hB 140 (.inr (.inr (.inr (.inr (.inl rfl)))))) R' rfl rfl rfl rfl hT (X := PX q) (.inr (.inr (.inr (.inr (.inl rfl))))) (Ne.symm M.ps.ap.ne.2.2.2.1)
    rfl hns hmy M.bs.K I hp rfl rfl (by decide) rfl rfl rfl (by decide) rfl (fun f g C code hfg => ?_) fun a s₁ tab' hk₁ hT₁ hgb hdr hos hG => ?_
  · refine Ev.bin (Ev.call (fv := .builtin "len") (ds := [.str f]) (gd.b.bui (by rfl) (by rfl) (by decide)) Callable.builtin (EvL.cons (Ev.name memH) EvL.nil) (CallD.len_str ?_)) (Ev.call (fv := .builtin "len") (ds := [.str g]) (gd.b.bui (by rfl) (by rfl) (by decide)) Callable.builtin (EvL.cons (Ev.name (memT memH)) EvL.nil) (CallD.len_str ?_)) Op2.add_int
    · exact Nat.le_trans (hsh _ hfg).1 (Nat.le_of_ble_eq_true rfl)
    · exact Nat.le_trans (hsh _ hfg).2 (Nat.le_of_ble_eq_true rfl)
  have ps₁ : PS q s₁.heap mx lines parts := M.ps.updT (.inl ⟨rfl, rfl⟩) hk₁ hT₁
  have kp₁ : Kp q h₀ s₁.heap := fun b o nb e => hk₁ b o (fun z => nb (.inr (.inr (.inr (.inr (.inl z)))))) e
  have M₁ := M.upd kp₁ ps₁ rfl
  obtain ⟨m1, hns1, hm1⟩ := selfNs M₁.F.has memH rfl
  obtain ⟨k1, c1, t1, vs1, I1, hc1, hp1⟩ := ps₁.acc
  refine spliced_cons (Attribute_any_ (wpAny_Name (wpAny_loadName_local M₁.F.has.fn rfl hns1 hm1 ?_) (by decide)))
  refine accGetAttr M₁.bs.K I1 rfl (by unfold accM; rw [if_pos rfl]) rfl ?_
  refine spliced_nil ⟨trivial, ?_⟩
  have hl : (parts.map size1).length = parts.length := by simp
  refine sum_genX (s := { s₁ with toks := s₁.toks + 1 }) (val := fun i => (parts.map size1).getD i 0) (GenX.tick hG (Nat.le_succ _)) (fun j v hv => ?_) fun s₂ t' hk₂ hg₂ hdr₂ hos₂ => ?_
  · obtain ⟨f, g, X', h', e, q'⟩ := hv
    cases q'
    rename_i tt
    refine ⟨tt, ?_⟩
    have : (parts.map size1).getD j 0 = (f.length : Int) + (g.length : Int) := by
      rw [List.getD_eq_getElem?_getD, List.getElem?_map, e]; rfl
    rw [this]
  · rw [preSum_getD, List.take_of_length_le (by rw [hl]; exact Nat.le_refl _)]
    have hk12 : ∀ b o, b ≠ 140 → h₀.get? b = some o → s₂.heap.get? b = some o := fun b o nb e => hk₂ b o e o (hk₁ b o nb e)
    have hT₂ : CodeT s₂.heap 144 140 tab' := by
      obtain ⟨o1, vs1', file, tf, flags, tg, inF, text, tt, op, ho1, hd2, h11, h2, h7, h9, h10, hop, hopd, r⟩ := hT.1
      exact code_keep hT₁ (fun o e => hk₂ _ _ ho1 _ e) fun o e => hk₂ _ _ hop _ e
    have ps₂ : PS q s₂.heap mx lines parts := M.ps.updT (.inl ⟨rfl, rfl⟩) hk12 hT₂
    have kp₂ : Kp q s.heap s₂.heap := fun b o nb e => hk12 b o (fun z => nb (.inr (.inr (.inr (.inr (.inl z)))))) (g₀ _ _ e)
    have e : s₂ = { s with heap := s₂.heap, toks := s₂.toks, gens := s₂.gens } := by
      have h1 : s₂.drawn = s.drawn := hdr₂.trans hdr
      have h2 : s₂.os = s.os := hos₂.trans hos
      obtain ⟨_, _, _, _, _⟩ := s₂
      simp only at h1 h2
      subst h1 h2
      rfl
    have := hh s₂.heap s₂.toks s₂.gens t' kp₂ ps₂ (fun G => hg₂ (hgb G))
    rw [← e] at this
    exact this
end
end
-- MDA
section
open PySem.Builtin PySem.Builtin.ObjectAttr
section
variable {prog : Program} {w : World} {A : Around} {E : Value → Shared → Prop} {s : Shared} {P : Params} {B : Heap} {n : Nat} {q : Pp} {mx : Int} {lines lines' : List Str} {parts parts' : List (Str × Str)} {X : Addr → Prop} {env : Env} {G : Ctxt} {H₀ H h h' : Heap}

theorem on_join {x : Str} {t : Tok} {pos : Pos} {tree : Sem Value} {Q : Value → Shared → Prop} (h : wpAny (model prog w) A tree (fun v s₁ => wpAny (model prog w) A (call (.builtin "str.join") [.str x t, v]) Q E s₁) E s) :
    MethodOnS prog w A E (Str.ofString "join") (.str x t) pos [(false, tree)] Q s := by
  refine ⟨"str", "str.join", PySem.F.plainAttrs_str, PySem.F.slot_str_join, PySem.F.type_str_join, typeIs_str _ _ _, (fun a e => by cases e), ?_⟩
  refine Calls.callWith_builtin (by rfl) (evalArgs_plain (spliced_cons (wpAny_mono h (fun v s₁ h₁ => ?_) fun _ _ e => e)))
  exact spliced_nil h₁
theorem strsAre_of {h : Heap} : ∀ {vs : List Value} {xs : List Str}, AllD X h vs (xs.map .str) → StrsAre vs xs
  | [], [], _ => .nil
  | [], _ :: _, h => nomatch h
  | _ :: _, [], h => nomatch h
  | _ :: _, x :: xs, .cons q r => by
    cases q with
    | str _ t => exact .cons x t (strsAre_of r)
theorem Ev.joinTup {o e : Expr} {apos pos : Pos} {sep : Str} {xs : List Str} (ho : Ev prog w B n env G o (.str sep)) (he : Ev prog w B n env G e (.tup (xs.map .str))) (hfit : (xs.map (·.length)).sum + xs.length * sep.length ≤ 16777216)
    (hbase : attributeBase o (Str.ofString "join") env (eval o env) = eval o env := by rfl) (hs : starEach [e] env = [(false, eval e env)] := by rfl) (hline : (apos.endLine == pos.line) = true := by rfl) :
    Ev prog w B n env G (.Call (.Attribute o (Str.ofString "join") apos) [e] [] pos) (.str (Txt.join sep xs)) := by
  refine Ev.meth1 ho he (fun A X Q E s u t R L q ht h => ?_) hbase hs hline
  cases q with
  | str _ tt =>
  refine on_join (ht _ _ fun v h' tk g q => ?_)
  cases q with
  | @tup l ws m _ nx ho r =>
  exact join_tuple ⟨_, ho, rfl, m, rfl⟩ (strsAre_of r) hfit fun t' k => h _ h' k g (.str _ _)

noncomputable def part1 (p : Str × Str) : Str := Txt.join (Str.ofString "") [p.1, p.2]
noncomputable def lineStr (ps : List (Str × Str)) : Str := Txt.join (Str.ofString "") (ps.map part1)
theorem joinE (xs : List Str) : (Txt.join (Str.ofString "") xs).cps.toList = (xs.map fun x => x.cps.toList).flatten := by
  have e0 : Str.ofString "" = ⟨#[]⟩ := rfl
  rw [e0, show Txt.join ⟨#[]⟩ xs = Str.join ⟨#[]⟩ xs from StrLaws.glued_eq_join _ _]
  induction xs with
  | nil => rfl
  | cons x r ih =>
    rw [PyProof.Rows.join_nil_cons, List.map_cons, List.flatten_cons, ← ih]
    show (x.cps ++ (Str.join ⟨#[]⟩ r).cps).toList = _
    rw [Array.toList_append]
theorem join_len0 (xs : List Str) : (Txt.join (Str.ofString "") xs).length = (xs.map (·.length)).sum := by
  show (Txt.join (Str.ofString "") xs).cps.size = _
  rw [← Array.length_toList, joinE, List.length_flatten, List.map_map]
  rfl
theorem empty_len : (Str.ofString "").length = 0 := rfl

theorem str_call {Q : Value → Shared → Prop} (gd : Gd P B q X s.heap) (R : Room (n + 2) A) (ps : PS q s.heap mx lines parts) (hsh : Short parts) (hz : parts.length ≤ 200)
    (hh : ∀ h' tk g' t, Kp q s.heap h' → PS q h' mx lines parts → (AllBare s.gens → AllBare g') → Q (.str (lineStr parts) t) { s with heap := h', toks := tk, gens := g' }) :
    wpAny (model pr w) A (call (.ref 152) [.ref q.ac] []) Q E s := by
  have hle : ∀ (l : List (Str × Str)), Short l → ((l.map part1).map (·.length)).sum ≤ 200 * l.length := by
    intro l
    induction l with
    | nil => intro _; simp
    | cons p r ih =>
      intro hs
      have h1 := hs p (.head _)
      have h2 := ih fun p hp => hs p (.tail _ hp)
      have h3 : (part1 p).length = p.1.length + p.2.length := by unfold part1; rw [join_len0]; simp
      simp only [List.map_cons, List.sum_cons, List.length_cons]
      rw [h3]; omega
  refine call_fn (X := X) (n := n + 1) (xs := ["self"]) (us := [.ref q.ac]) (G₀ := [("self", .v (.ref q.ac))]) (PX q) gd.b.nolimit
    (gd.b.fn (a := 152) rfl rfl rfl rfl rfl rfl rfl rfl rfl rfl) gd.gB gd.L R (by decide) rfl (by decide) (.of_eq rfl) self_mem fun A' h₀ tk R' g₀ F => ?_
  have M := Mf.start gd ps (fun x c hc => by cases hc) g₀ F
  refine St.cons (wpAny_Return_some (Call_method1 rfl rfl rfl ?_))
  refine globName (s := { s with heap := h₀, toks := tk }) (gd.b.own (by rfl)) M.F.has (by rfl) (by decide) ?_
  obtain ⟨k, c, t, vs, I, hc, hp⟩ := M.ps.acc
  obtain ⟨tab, hT⟩ := M.ps.t2
  obtain ⟨mL, hns, hmy⟩ := selfNs M.F.has memH rfl
  refine on_join ?_
  refine genexp_acc (s := { s with heap := h₀, toks := tk }) (n := n) (F := fun f g => .str (part1 (f, g))) gd.b M.F.has.keep (gd.hB 147 (.inr (.inr (.inr (.inr (.inr rfl)))))) R' rfl rfl rfl rfl hT (X := PX q) (.inr (.inr (.inr (.inr (.inr rfl))))) (Ne.symm M.ps.ap.ne.2.2.2.2.1)
    rfl hns hmy M.bs.K I hp rfl rfl (by decide) rfl rfl rfl (by decide) rfl (fun f g C code hfg => ?_) fun a s₁ tab' hk₁ hT₁ hgb hdr hos hG => ?_
  · have h1 := hsh _ hfg
    refine Ev.joinTup (xs := [f, g]) (Ev.glob (gd.b.own (by rfl)) (fun _ _ => .str _ _) (by rfl)) (Ev.tup (EvL.cons (Ev.name memH) (EvL.cons (Ev.name (memT memH)) EvL.nil)) (Nat.le_of_ble_eq_true rfl)) ?_
    simp only [List.map_cons, List.map_nil, List.sum_cons, List.sum_nil, List.length_cons, List.length_nil, empty_len]
    have h2 := h1.1; have h3 := h1.2
    simp only at h2 h3
    omega
  have hx : (parts.map part1).length = parts.length := by simp
  refine join_genX (s := s₁) (xs := parts.map part1) (by rw [hx]; exact hG) (fun j v hv => ?_) (joinOk_of (by
    rw [empty_len, Nat.mul_zero, Nat.add_zero]
    exact Nat.le_trans (hle parts hsh) (by rw [sizeLine_eq]; omega))) (by rw [hx, sizeLine_eq]; omega) fun s₂ t' hk₂ hg₂ hdr₂ hos₂ => ?_
  · obtain ⟨f, g, X', h', e, q'⟩ := hv
    cases q'
    rename_i tt
    exact ⟨part1 (f, g), tt, by rw [List.getElem?_map, e]; rfl, rfl⟩
  · have hk12 : ∀ b o, b ≠ 147 → h₀.get? b = some o → s₂.heap.get? b = some o := fun b o nb e => hk₂ b o e o (hk₁ b o nb e)
    have hT₂ : CodeT s₂.heap 151 147 tab' := by
      obtain ⟨o1, vs1', file, tf, flags, tg, inF, text, tt, op, ho1, hd2, h11, h2, h7, h9, h10, hop, hopd, r⟩ := hT.1
      exact code_keep hT₁ (fun o e => hk₂ _ _ ho1 _ e) fun o e => hk₂ _ _ hop _ e
    have ps₂ : PS q s₂.heap mx lines parts := M.ps.updT (.inr ⟨rfl, rfl⟩) hk12 hT₂
    have kp₂ : Kp q s.heap s₂.heap := fun b o nb e => hk12 b o (fun z => nb (.inr (.inr (.inr (.inr (.inr z)))))) (g₀ _ _ e)
    have e : s₂ = { s with heap := s₂.heap, toks := s₂.toks, gens := s₂.gens } := by
      have h1 : s₂.drawn = s.drawn := hdr₂.trans hdr
      have h2 : s₂.os = s.os := hos₂.trans hos
      obtain ⟨_, _, _, _, _⟩ := s₂
      simp only at h1 h2
      subst h1 h2
      rfl
    have := hh s₂.heap s₂.toks s₂.gens t' kp₂ ps₂ (fun G => hg₂ (hgb G))
    rw [← e] at this
    exact this
end
end
-- MDB
section
open PySem.Builtin PySem.Builtin.ObjectAttr
section
variable {w : World} {A : Around} {E : Value → Shared → Prop} {s : Shared} {P : Params} {B : Heap} {n : Nat} {q : Pp} {mx : Int} {lines lines' : List Str} {parts parts' : List (Str × Str)} {X : Addr → Prop} {env : Env} {G : Ctxt} {H₀ H h h' : Heap}

theorem Room.in1 (R : Room (n + 1) A) : Room n A.in1 := ⟨R.1, by have := R.2.1; show A.depth + n ≤ 900; omega, by have := R.2.2; show A.units + 1 + 100 * n ≤ 9000; omega⟩
theorem f_len : findIn (hd.heap_1 P) (.ref 178) "__len__" = some (some (.ref 145)) := rfl
theorem f_str : findIn (hd.heap_1 P) (.ref 178) "__str__" = some (some (.ref 152)) := rfl
theorem f_bool : findIn (hd.heap_1 P) (.ref 178) "__bool__" = some none := rfl
theorem f_fn145 : isFn (hd.heap_1 P) (.ref 145) = true := rfl
theorem f_fn152 : isFn (hd.heap_1 P) (.ref 152) = true := rfl
theorem total_bd : ∀ {l : List (Str × Str)}, Short l → 0 ≤ total l ∧ total l ≤ 200 * (l.length : Int)
  | [], _ => by simp [total]
  | p :: r, hs => by
    have ih := total_bd (l := r) fun p hp => hs p (.tail _ hp)
    have h1 := hs p (.head _)
    have e : total (p :: r) = size1 p + total r := by simp [total]
    rw [e]
    unfold size1
    simp only [List.length_cons]
    omega

/-- what a page call leaves -/
noncomputable def Left (q : Pp) (s : Shared) (mx : Int) (lines : List Str) (parts : List (Str × Str)) (Q : Shared → Prop) : Prop :=
  ∀ h' tk g', Kp q s.heap h' → PS q h' mx lines parts → (AllBare s.gens → AllBare g') → Q { s with heap := h', toks := tk, gens := g' }

theorem len_body {A : Around} {Q : Value → Shared → Prop} (gd : Gd P B q X s.heap) (R : Room (n + 2) A) (ps : PS q s.heap mx lines parts) (hsh : Short parts) (hz : parts.length ≤ 200)
    (hh : ∀ t, Left q s mx lines parts fun s' => Q (.int (total parts) t) s') :
    wpAny (model pr w) A (Builtin.«len» ⟨[.ref q.ac], []⟩) (fun fin s' => ∃ v, fin = .done (.ret v) ∧ Q v s') E s := by
  obtain ⟨k, c, t, vs, I, hc, hp⟩ := ps.acc
  obtain ⟨es, nn, J, _, _⟩ := I.inst
  have hb := total_bd hsh
  unfold Builtin.«len»
  refine wpAny_bind (m := oneArg "len" _) (wpAny_pure ?_)
  refine wpAny_bind (m := callSpecial? (.ref q.ac) (Str.ofString "__len__")) (special_fn gd.bKX J f_len (beq_iff_eq.mp f_fn145) (len_call gd R ps hsh fun h' tk g' t kp ps' hg => ?_))
  refine wpAny_bind (wpAny_holding (wpAny_pure ?_))
  refine wpAny_bind (wpAny_letGo ?_)
  show wpAny _ _ (if total parts < 0 then _ else _) _ _ _
  rw [if_neg (by omega)]
  show wpAny _ _ (if total parts ≥ 2 ^ 63 then _ else _) _ _ _
  rw [if_neg (by omega)]
  exact wpAny_bind (wpAny_mkInt (wpAny_pure ⟨_, rfl, hh _ h' (tk + 1) g' kp ps' hg⟩))
theorem len_acc {Q : Value → Shared → Prop} (gd : Gd P B q X s.heap) (R : Room (n + 3) A) (ps : PS q s.heap mx lines parts) (hsh : Short parts) (hz : parts.length ≤ 200)
    (hh : ∀ t, Left q s mx lines parts fun s' => Q (.int (total parts) t) s') : wpAny (model pr w) A (call (.builtin "len") [.ref q.ac]) Q E s := by
  refine Calls.call_function_entry kind_len plain_len entry_len (args_len1 _) ?_
  exact len_body gd (Room.in1 R) ps hsh hz hh
theorem truthy_acc {Q : Bool → Shared → Prop} (gd : Gd P B q X s.heap) (R : Room (n + 3) A) (ps : PS q s.heap mx lines parts) (hsh : Short parts) (hz : parts.length ≤ 200)
    (hh : Left q s mx lines parts fun s' => Q (total parts != 0) s') : wpAny (model pr w) A (truthy (.ref q.ac)) Q E s := by
  obtain ⟨k, c, t, vs, I, hc, hp⟩ := ps.acc
  obtain ⟨es, nn, J, _, _⟩ := I.inst
  unfold truthy
  refine wpAny_bind (m := callSpecial? (.ref q.ac) (Str.ofString "__bool__")) (wpAny_bind (wpAny_bind (J.type.here ((looks_findIn gd.bKX f_bool).here (wpAny_pure ?_)))))
  refine wpAny_bind (wpAny_bind (J.type.here ((looks_findIn gd.bKX f_len).here ?_)))
  show wpAny _ _ (if false = true then _ else _) _ _ _
  rw [if_neg (by decide)]
  refine wpAny_bind (wpAny_runValue (codeAny_builtin entry_len ?_))
  rw [Around.under_plainId plain_len _]
  refine wpAny_mono (len_body (Q := fun v s' => ∃ t, v = .int (total parts) t ∧ Q (total parts != 0) s') gd (Room.in1 R) ps hsh hz fun t h' tk g' kp ps' hg => ⟨t, rfl, hh h' tk g' kp ps' hg⟩) (fun fin s' hf => ?_) fun _ _ e => e
  obtain ⟨v, rfl, t, rfl, hq⟩ := hf
  exact wpAny_pure hq
theorem str_acc {Q : Value → Shared → Prop} (gd : Gd P B q X s.heap) (R : Room (n + 4) A) (ps : PS q s.heap mx lines parts) (hsh : Short parts) (hz : parts.length ≤ 200)
    (hh : ∀ t, Left q s mx lines parts fun s' => Q (.str (lineStr parts) t) s') : wpAny (model pr w) A (call (.type "str") [.ref q.ac]) Q E s := by
  obtain ⟨k, c, t, vs, I, hc, hp⟩ := ps.acc
  obtain ⟨es, nn, J, _, _⟩ := I.inst
  refine kso_call (by have := R.2.2; show A.units + 1 + 1 < 9900; omega) gd.bKX J f_str f_fn152 ?_
  exact str_call gd (Room.in1 (Room.in1 R)) ps hsh hz fun h' tk g' t kp ps' hg => hh t h' tk g' kp ps' hg
end
end
-- MDC
section
open PySem.Builtin PySem.Builtin.ObjectAttr
section
variable {w : World} {A : Around} {E : Value → Shared → Prop} {s : Shared} {P : Params} {B : Heap} {n : Nat} {q : Pp} {mx : Int} {lines lines' : List Str} {parts parts' : List (Str × Str)} {X : Addr → Prop} {env : Env} {G : Ctxt} {H₀ H h h' : Heap}

theorem Ev.initSize {e : Expr} {pos : Pos} (KX : (hd.heap_1 P).In B) (ps : PS q B mx lines parts) (he : EvV pr w B n env G e (.ref q.ac))
    (hev : eval (.Attribute e (Str.ofString "_initial_size") pos) env = (do
      let o ← eval e env
      standAt pos.atName
      let r ← holding [o] (getAttr o (Str.ofString "_initial_size") true)
      letTemporaryGo e o r
      pure r) := by with_unfolding_all rfl) : Ev pr w B n env G (.Attribute e (Str.ofString "_initial_size") pos) (.int 0) := by
  intro A X Q E s R L H h
  refine Attribute_any_ (he A X _ E s R L H fun h₁ t₁ g₁ => ?_) hev
  have gg : Grow B h₁ := H.keep.trans g₁
  obtain ⟨k, c, t, vs, I, hc, hp⟩ := (ps.grow gg).acc
  exact accGetAttr (s := { s with heap := h₁, toks := t₁ }) (KX.keeps gg) I rfl (by unfold accM; rw [if_pos rfl]) rfl (h _ h₁ _ g₁ (.int _ _))

theorem onlyws_call {Q : Value → Shared → Prop} (gd : Gd P B q X s.heap) (R : Room (n + 5) A) (ps : PS q s.heap mx lines parts) (hsh : Short parts) (hz : parts.length ≤ 200) (ht : total parts ≠ 0) (hsp : Txt.isspace (lineStr parts) = false)
    (hh : Left q s mx lines parts fun s' => Q (.bool false) s') : wpAny (model pr w) A (call (.ref 167) [.ref q.ac] []) Q E s := by
  refine call_fn (X := X) (n := n + 4) (xs := ["self"]) (us := [.ref q.ac]) (G₀ := [("self", .v (.ref q.ac))]) (PX q) gd.b.nolimit
    (gd.b.fn (a := 167) rfl rfl rfl rfl rfl rfl rfl rfl rfl rfl) gd.gB gd.L R (by decide) rfl (by decide) (.of_eq rfl) self_mem fun A' h₀ tk R' g₀ F => ?_
  have M := Mf.start gd ps (fun x c hc => by cases hc) g₀ F
  refine St.cons (wpAny_Return_some (BoolOp_and ?_))
  refine Ev.run (s := { s with heap := h₀, toks := tk }) (B := h₀) (d := .bool true) (Ev.is (Ev.cmp (Ev.initSize M.bs.K M.ps (EvV.name memH)) Ev.int Op2.eq_int) rfl) R' M.F.live M.has fun v h₁ t₁ g₁ q₁ => ?_
  cases q₁
  refine wpAny_truthy_bool ?_
  rw [if_pos rfl]
  have M₁ := M.grow g₁
  refine BoolOp_one (BoolOp_or (wpAny_UnaryOp ?_))
  refine EvV.run (s := { s with heap := h₁, toks := t₁ }) (EvV.name memH) R' M₁.F.live M₁.F.has fun h₂ t₂ g₂ => not_of ?_
  have M₂ := M₁.grow g₂
  refine truthy_acc (s := { s with heap := h₂, toks := t₂ }) (n := n + 1) M₂.gd R' M₂.ps hsh hz fun h₃ t₃ g₃ kp₃ ps₃ hg₃ => ?_
  have e1 : (total parts != 0) = true := by simpa using ht
  rw [e1]
  refine wpAny_truthy_bool ?_
  rw [if_neg (by decide)]
  have M₃ := M₂.upd kp₃ ps₃ rfl
  refine BoolOp_one (Call_method0 rfl rfl (wpAny_Call_Name_kw ?_))
  refine globName (s := { s with heap := h₃, toks := t₃, gens := g₃ }) (gd.b.bui (x := "str") (by rfl) (by rfl) (by decide)) M₃.F.has (by rfl) (by decide) ?_
  refine callWith_of (P := fun _ => True) rfl (fun h _ => ⟨.machine, .inr (.inl rfl), Looks.of_pure rfl⟩) (evalArgs_list (es := [_]) (spliced_cons ?_))
  refine EvV.run (s := { s with heap := h₃, toks := t₃, gens := g₃ }) (EvV.name memH) R' M₃.F.live M₃.F.has fun h₄ t₄ g₄ => spliced_nil ⟨trivial, ?_⟩
  have M₄ := M₃.grow g₄
  refine str_acc (s := { s with heap := h₄, toks := t₄, gens := g₃ }) (n := n) M₄.gd R' M₄.ps hsh hz fun t5 h₅ t₅ g₅ kp₅ ps₅ hg₅ => ?_
  refine SB.isspace ?_
  rw [hsp]
  have kp : Kp q s.heap h₅ := (M₄.upd kp₅ ps₅ rfl).kp
  exact hh h₅ t₅ g₅ kp ps₅ fun G => hg₅ (hg₃ G)
end
end
-- MDD
section
open PySem.Builtin PySem.Builtin.ObjectAttr
section
variable {w : World} {A : Around} {E : Value → Shared → Prop} {s : Shared} {P : Params} {B : Heap} {n : Nat} {q : Pp} {mx : Int} {lines lines' : List Str} {parts parts' : List (Str × Str)} {X : Addr → Prop} {env : Env} {G : Ctxt} {H₀ H h h' : Heap}

theorem EvV.cur {p0 pos : Pos} (KX : (hd.heap_1 P).In B) (ps : PS q B mx lines parts) (hs : (Str.ofString "self", Slot.v (.ref q.pg)) ∈ G)
    (hev : eval (.Attribute (.Name (Str.ofString "self") p0) (Str.ofString "_current_line") pos) env = (do
      let o ← eval (.Name (Str.ofString "self") p0) env
      standAt pos.atName
      let r ← holding [o] (getAttr o (Str.ofString "_current_line") true)
      letTemporaryGo (.Name (Str.ofString "self") p0) o r
      pure r) := by with_unfolding_all rfl) : EvV pr w B n env G (.Attribute (.Name (Str.ofString "self") p0) (Str.ofString "_current_line") pos) (.ref q.ac) := by
  obtain ⟨c, m, I, pm⟩ := ps.page
  exact EvV.attr KX I (EvV.name hs) rfl rfl rfl rfl pm.cur rfl hev
theorem EvV.lns {p0 pos : Pos} (KX : (hd.heap_1 P).In B) (ps : PS q B mx lines parts) (hs : (Str.ofString "self", Slot.v (.ref q.pg)) ∈ G)
    (hev : eval (.Attribute (.Name (Str.ofString "self") p0) (Str.ofString "_lines") pos) env = (do
      let o ← eval (.Name (Str.ofString "self") p0) env
      standAt pos.atName
      let r ← holding [o] (getAttr o (Str.ofString "_lines") true)
      letTemporaryGo (.Name (Str.ofString "self") p0) o r
      pure r) := by with_unfolding_all rfl) : EvV pr w B n env G (.Attribute (.Name (Str.ofString "self") p0) (Str.ofString "_lines") pos) (.ref q.ln) := by
  obtain ⟨c, m, I, pm⟩ := ps.page
  exact EvV.attr KX I (EvV.name hs) rfl rfl rfl rfl pm.lines rfl hev
theorem Ev.maxlen {p0 pos : Pos} (KX : (hd.heap_1 P).In B) (ps : PS q B mx lines parts) (hs : (Str.ofString "self", Slot.v (.ref q.pg)) ∈ G)
    (hev : eval (.Attribute (.Name (Str.ofString "self") p0) (Str.ofString "_maxlen") pos) env = (do
      let o ← eval (.Name (Str.ofString "self") p0) env
      standAt pos.atName
      let r ← holding [o] (getAttr o (Str.ofString "_maxlen") true)
      letTemporaryGo (.Name (Str.ofString "self") p0) o r
      pure r) := by with_unfolding_all rfl) : Ev pr w B n env G (.Attribute (.Name (Str.ofString "self") p0) (Str.ofString "_maxlen") pos) (.int mx) := by
  obtain ⟨c, m, I, pm⟩ := ps.page
  obtain ⟨t, ht⟩ := pm.maxlen
  exact Ev.ofV (EvV.attr KX I (EvV.name hs) rfl rfl rfl rfl ht rfl hev) fun _ _ => .int _ _
theorem Ev.splitc {p0 pos : Pos} (KX : (hd.heap_1 P).In B) (ps : PS q B mx lines parts) (hs : (Str.ofString "self", Slot.v (.ref q.pg)) ∈ G)
    (hev : eval (.Attribute (.Name (Str.ofString "self") p0) (Str.ofString "_splitchars") pos) env = (do
      let o ← eval (.Name (Str.ofString "self") p0) env
      standAt pos.atName
      let r ← holding [o] (getAttr o (Str.ofString "_splitchars") true)
      letTemporaryGo (.Name (Str.ofString "self") p0) o r
      pure r) := by with_unfolding_all rfl) : Ev pr w B n env G (.Attribute (.Name (Str.ofString "self") p0) (Str.ofString "_splitchars") pos) (.str ", ") := by
  obtain ⟨c, m, I, pm⟩ := ps.page
  obtain ⟨t, ht⟩ := pm.split
  exact Ev.ofV (EvV.attr KX I (EvV.name hs) rfl rfl rfl rfl ht rfl hev) fun _ _ => .str _ _

/-- a method of the accumulator called on an expression that gives it -/
theorem cur_meth {o : Expr} {name : Str} {f : Addr} {apos pos : Pos} {args : List Expr} {pl : Sem Bool} {Q : Value → Shared → Prop} (M : Mf P B q X H₀ s.heap env G mx lines parts) (R : Room n A) (ho : EvV pr w s.heap n env G o (.ref q.ac))
    (hf : findIn (hd.heap_1 P) (.ref 178) name = some (some (.ref f))) (ht : typeIn (hd.heap_1 P) (.ref f) = some (.type "function")) (hl : ∀ t, accM t name = none)
    (hbase : attributeBase o name env (eval o env) = eval o env)
    (he : eval (.Call (.Attribute o name apos) args [] pos) env = (do
      let ov ← attributeBase o name env (eval o env)
      standAt apos.atName
      let (f, first) ← holding [ov] (getMethod ov name pl)
      callWith pos f first (backTo pos (starEach args env)) []))
    (k : ∀ h' tk, Grow s.heap h' → Mf P B q X H₀ h' env G mx lines parts → wpAny (model pr w) A (callWith pos (.ref f) [.ref q.ac] (backTo pos (starEach args env)) []) Q E { s with heap := h', toks := tk }) :
    wpAny (model pr w) A (eval (.Call (.Attribute o name apos) args [] pos) env) Q E s := by
  refine Call_meth hbase (EvV.run ho R M.F.live M.has fun h₁ t₁ g₁ => ?_) he
  have M₁ := M.grow g₁
  obtain ⟨kk, c, t, vs, I, hc, hp⟩ := M₁.ps.acc
  exact accMeth (s := { s with heap := h₁, toks := t₁ }) (f := .ref f) M₁.bs.K I hf (.inl (looks_typeIn M₁.bs.K ht)) (hl t) (k h₁ t₁ g₁ M₁)

/-- a bound method of the accumulator -/
theorem accBound {ac dx c k : Nat} {vs : List Value} {m : Str → Option Value} {name : Str} {f : Addr} {expr : Bool} {Q : Value → Shared → Prop} (KX : (hd.heap_1 P).In s.heap) (I : In s.heap ac dx 178 (accO dx vs k) c m)
    (ha : findIn (hd.heap_1 P) (.ref 178) name = some (some (.ref f))) (hg : specialIn (hd.heap_1 P) (.ref f) "__get__" = some (some (.builtin "function.__get__"))) (htk : takesIn (hd.heap_1 P) (.ref f) = some false) (hc : copiedNames.contains name = false) (hl : m name = none) (htf : typeIn (hd.heap_1 P) (.ref f) = some (.type "function"))
    (h : ∀ tk, Q (.ref s.heap.objs.size) { s with heap := s.heap.push (methodObj (.ref f) (.ref ac)), toks := tk }) : wpAny (model pr w) A (getAttr (.ref ac) name expr) Q E s := by
  obtain ⟨es, n, J, hr, he⟩ := I.inst
  have hsub := inst_sub (M := model pr w) KX J f_sub
  obtain ⟨hp, g, dd, t, os⟩ := s
  have L0 := J.type (M := model pr w)
  have L1 := looks_findIn (M := model pr w) KX f_ga
  have L2 := looks_findIn (M := model pr w) KX f_gat
  have L3 := looks_find (M := model pr w) (name := name) (r := .bind (.builtin "function.__get__") (.ref f)) KX J (findObj_fn f_hasDict ha hg htk hc (by rw [lookIn_dict, getL_of hr, he, hl]))
  unfold getAttr getAttrBy
  refine wpAny_bind (wpAny_mkText (wpAny_holding (wpAny_bind (L0.at (wpAny_bind (L1.at ?_))))))
  show wpAny _ _ (getAttrByItsOwn (.ref ac) (.str name t) (.ref 178) (.builtin "list.__getattribute__") true expr) _ _ _
  unfold getAttrByItsOwn hookBefore
  refine wpAny_bind (L2.at ?_)
  refine wpAny_bind (wpAny_attempt (wpAny_holding ?_))
  unfold callGetattribute
  rw [if_neg (by simp [onTheHeap])]
  unfold boundAndCalled
  refine wpAny_bind (wpAny_of_eq (PySem.F.slot_list_getattribute.bind _) ?_)
  refine call_sub PySem.F.slot_list_getattribute.plain kind_lga split_lga hsub PySem.F.entry_list_ga (PySem.F.args_list_getattribute_2 _ _) ?_
  unfold Builtin.«object.__getattribute__»
  refine wpAny_bind (wpAny_of_eq (a := (Value.ref ac, [Value.str name t])) rfl ?_)
  refine wpAny_bind (wpAny_pure (wpAny_bind (L0.at (wpAny_bind (L3.at ?_)))))
  show wpAny _ _ (bindTo (.builtin "function.__get__") (.ref f) (.ref ac) (.ref 178)) _ _ _
  unfold bindTo
  refine wpAny_bind (wpAny_holding (wpAny_call (fn_get KX htf ?_)))
  refine wpAny_pure ⟨_, rfl, ?_⟩
  show wpAny _ _ (handedOut _) _ _ _
  rw [handedOut_of rfl]
  exact wpAny_pure (h _)
end
end
-- MDE
section
open PySem.Builtin PySem.Builtin.ObjectAttr
section
variable {prog : Program} {w : World} {A : Around} {E : Value → Shared → Prop} {s : Shared} {P : Params} {B : Heap} {n : Nat} {q : Pp} {mx : Int} {lines lines' : List Str} {parts parts' : List (Str × Str)} {X : Addr → Prop} {env : Env} {G : Ctxt} {H₀ H h h' : Heap}

theorem call_fnC {f : Addr} {fd : FuncData} {body : List Stmt} {xs : List Str} {vs us : List Value} {G₀ : Ctxt} {Q : Value → Shared → Prop} (W : Addr → Prop) (hlim : B.NoLimit) (hf : FnIs B f fd body) (gB : Grow B s.heap) (L : Live X s.heap) (R : Room (n + 1) A) (hnd : xs.Nodup) (hlen : xs.length = us.length)
    (hloc : ∀ x ∈ xs, fd.scope.names.lookup x = some .local) (hbind : BindsTo s fd ⟨vs, []⟩ (xs.zip us)) (hG : ∀ p ∈ G₀, ∃ v, (p.1, v) ∈ xs.zip us ∧ IsS X s.heap v p.2)
    (hb : ∀ (A' : Around) (h₀ : Heap) (tk : Nat), Room n A' → Grow s.heap h₀ → Fm B [(W, s.heap)] (fun b => X b ∨ b = s.heap.objs.size) h₀ (callEnv fd s.heap.objs.size f) G₀ →
      wpAny (model prog w) A' (execs body (callEnv fd s.heap.objs.size f)) (fun fl s' => Q (match fl with | .ret v => v | _ => .none) s') (fun _ _ => False) { s with heap := h₀, toks := tk }) :
    codeAny (model prog w) A (.call (.ref f) ⟨vs, []⟩) (fun r s' => match r with | .ok (.ret v) => Q v s' | .ok _ => False | .error e => E e s') s := by
  obtain ⟨o, ho, hd⟩ := hf.ex
  have hdep : A.depth < recursionLimit := by
    have := R.2.1
    show _ < 1000
    omega
  refine (codeAny_call_def (binds := xs.zip us) (body := body) hdep (gB _ _ ho) hd (hlim.keeps gB) (hf.code.keeps gB) hf.body_ hbind hf.nocell (fun x hx => hloc x.1 (List.of_mem_zip hx).1) (fun h₀ hns hk => ?_) hf.co hf.gen hf.kind)
  have F := Fm.startW (X := X) (G₀ := G₀) W hf gB L hnd hlen hloc hns hk hG
  exact wpAny_mono (hb (A.deeper (callEnv fd s.heap.objs.size f)) h₀ _ ⟨R.1, by have := R.2.1; show A.depth + 1 + n ≤ _; omega, by have := R.2.2; show A.units + 3 + _ ≤ _; omega⟩ hk F) (fun _ _ hq => hq) fun _ _ e => e.elim

theorem push_code {f g : Str} {tf tg : Tok} {Q : Value → Shared → Prop} (gd : Gd P B q X s.heap) (R : Room (n + 1) A) (ps : PS q s.heap mx lines parts) (hz : parts.length ≤ 200)
    (h : ∀ h' tk, Kp q s.heap h' → PS q h' mx lines (parts ++ [(f, g)]) → Q .none { s with heap := h', toks := tk }) :
    codeAny (model prog w) A (.call (.ref 122) ⟨[.ref q.ac, .str f tf, .str g tg], []⟩) (fun r s' => match r with | .ok (.ret v) => Q v s' | .ok _ => False | .error e => E e s') s := by
  refine call_fnC (X := X) (n := n) (xs := ["self", "fws", "string"]) (us := [.ref q.ac, .str f tf, .str g tg]) (G₀ := [("self", .v (.ref q.ac)), ("fws", .d (.str f)), ("string", .d (.str g))]) (PX q) gd.b.nolimit
    (gd.b.fn (a := 122) rfl rfl rfl rfl rfl rfl rfl rfl rfl rfl) gd.gB gd.L R (by decide) rfl (by decide) (.of_eq rfl) (fun p hp => ?_) fun A' h₀ tk R' g₀ F => ?_
  · rcases List.mem_cons.mp hp with rfl | hp
    · exact ⟨_, .head _, rfl⟩
    · rcases List.mem_cons.mp hp with rfl | hp
      · exact ⟨_, .tail _ (.head _), .str f tf⟩
      · rw [List.mem_singleton.mp hp]
        exact ⟨_, .tail _ (.tail _ (.head _)), .str g tg⟩
  · have ps₀ := ps.grow g₀
    have gd₀ := gd.grow g₀
    refine St.cons (wpAny_Expr (Call_meth rfl (EvV.run (EvV.name memH) R' F.live F.has fun h₁ t₁ g₁ => ?_) rfl))
    have ps₁ := ps₀.grow g₁
    have gd₁ := gd₀.grow g₁
    obtain ⟨k, c, t, vs, I, hc, hp⟩ := ps₁.acc
    refine accMeth (s := { s with heap := h₁, toks := t₁ }) (gd₁.b.K.keeps gd₁.gB) I f_append (.inr (Looks.of_pure PySem.F.type_list_append)) rfl ?_
    have F₁ := F.grow g₁
    refine callWith_data (n := n) (B := B) (first := [.ref q.ac]) (ds := [.tup [.str f, .str g]]) Callable.builtin (EvL.cons (Ev.tup (EvL.cons (Ev.name (memT memH)) (EvL.cons (Ev.name (memT (memT memH))) EvL.nil)) (Nat.le_of_ble_eq_true rfl)) EvL.nil) rfl R' F₁.live F₁.has fun us h₂ t₂ g₂ qs => ?_
    cases qs with
    | cons q1 r =>
    cases r
    have ps₂ := ps₁.grow g₂
    have gd₂ := gd₁.grow g₂
    have I₂ := I.keeps (fun o => g₂ _ o) (fun o => g₂ _ o)
    have hl : vs.length ≤ 200 := by have := AllD.length hp; simp at this; omega
    refine acc_append (s := { s with heap := h₂, toks := t₂ }) (gd₂.b.K.keeps gd₂.gB) I₂ (by rw [sizeLine_eq]; omega) fun h₃ k₃ sb e₃ => ?_
    refine wpAny_execs_nil ?_
    have kp : Kp q h₂ h₃ := Kp.same_ac sb
    refine h h₃ t₂ ((g₀.trans (g₁.trans g₂)).kp.trans kp) (ps₂.upd (fun b o hb e => sb.extBut b o hb e) e₃ ?_)
    have sk : SKeep (PX q) h₂ h₃ := fun a o hn e _ => kp a o hn e
    unfold PartsAt
    rw [List.map_append]
    exact AllD.append ((AllD.grow hp g₂).skeep sk) (.cons ((q1.less fun a ha => .inl (gd.hX a ha)).skeep sk) .nil)
/-- a tuple of two, starred, as the arguments -/
theorem star_pair {a b : Str} {v : Value} {Q : List Value → Shared → Prop} (q1 : IsD X s.heap v (partD (a, b)))
    (h : ∀ h' ta tb, Grow s.heap h' → Q [.str a ta, .str b tb] { s with heap := h' }) : StarOf (model pr w) A E v Q s := by
  unfold partD at q1
  cases q1 with
  | tup hx hl hv =>
  rename_i a' vs k
  cases hv with
  | cons h1 r =>
  cases r with
  | cons h2 r =>
  cases r
  cases h1
  cases h2
  rename_i ta tb
  have hT' : s.TypeIs (.ref a') "tuple" := ⟨_, hl, rfl⟩
  unfold StarOf notIterableAtAll
  refine wpAny_bind (wpAny_specialOf hT' PySem.F.slot_tuple_iter.lookup (wpAny_pure ⟨rfl, ?_⟩))
  exact wpAny_collect_seq a' (.inr rfl) hl rfl rfl (fun h' hk => h h' _ _ hk) (by show 2 ≤ sizeLine; exact Nat.le_of_ble_eq_true rfl)

theorem callWith_bound {bo f ac : Addr} {pos p : Pos} {e : Expr} {v : Value} {a b : Str} {Q : Value → Shared → Prop} (KX : (hd.heap_1 P).In s.heap) (R : Room n A) (L : Live X s.heap) (H : Has B X s.heap env G) (ho : s.heap.get? bo = some (methodObj (.ref f) (.ref ac))) (hf : fnIn (hd.heap_1 P) f = true)
    (hv : EvV pr w B n env G e v) (q1 : IsD X s.heap v (partD (a, b)))
    (h : ∀ h' tk ta tb, Grow s.heap h' → codeAny (model pr w) A (.call (.ref f) ⟨[.ref ac, .str a ta, .str b tb], []⟩) (fun r s' => match r with | .ok (.ret v) => Q v s' | .ok _ => False | .error e => E e s') { s with heap := h', toks := tk })
    (he : starEach [.Starred e p] env = [(true, eval e env)] := by rfl) : wpAny (model pr w) A (callWith pos (.ref bo) [] (backTo pos (starEach [.Starred e p] env)) []) Q E s := by
  rw [he]
  refine ks_call (P := fun h => MethP (hd.heap_1 P) bo f (.ref ac) h) rfl (keeps_M hf) (ks_lone (EvV.run hv R L H fun h₁ t₁ g₁ => ?_))
  refine star_pair (q1.grow g₁) fun h₂ ta tb g₂ => ⟨⟨g₂ _ _ (g₁ _ _ ho), KX.keeps (Grow.trans g₁ g₂)⟩, ?_⟩
  refine wpAny_call (method_call (g₂ _ _ (g₁ _ _ ho)) ?_)
  exact h h₂ t₁ ta tb (Grow.trans g₁ g₂)
end
end
-- MDF
section
open PySem.Builtin PySem.Builtin.ObjectAttr
section
variable {prog : Program} {w : World} {A : Around} {E : Value → Shared → Prop} {s : Shared} {P : Params} {B : Heap} {n : Nat} {q : Pp} {mx : Int} {lines lines' : List Str} {parts parts' : List (Str × Str)} {X : Addr → Prop} {env : Env} {G : Ctxt} {H₀ H h h' : Heap}

theorem shaped_blank : SeqAt.shaped (toPy (.tup [.str " ", .str ""])) = true := by
  simp [toPy, toPys, SeqAt.shaped, PyData.canLay0, PyData.canLayAll0, PyData.depth, PyData.depthAll]
  decide +kernel
theorem newline_call {f g : Str} {Q : Value → Shared → Prop} (gd : Gd P B q X s.heap) (R : Room (n + 6) A) (ps : PS q s.heap mx lines (parts ++ [(f, g)])) (hz : parts.length ≤ 100)
    (hsh : Short (parts ++ [(f, g)])) (hok : SeqAt.shaped (toPy (partD (f, g))) = true) (hne : PyData.eqv (toPy (partD (f, g))) (toPy (.tup [.str " ", .str ""])) = false) (ht : 0 < total (parts ++ [(f, g)])) (hsp : Txt.isspace (lineStr (parts ++ [(f, g)])) = false) (hlz : lines.length ≤ 100)
    (hh : Left q s mx (lines ++ [lineStr (parts ++ [(f, g)])]) [] fun s' => Q .none s') : wpAny (model pr w) A (call (.ref 56) [.ref q.pg] []) Q E s := by
  have hz2 : (parts ++ [(f, g)]).length ≤ 200 := by rw [List.length_append]; simp only [List.length_cons, List.length_nil]; omega
  refine call_fn (X := X) (n := n + 5) (xs := ["self"]) (us := [.ref q.pg]) (G₀ := [("self", .v (.ref q.pg))]) (PX q) gd.b.nolimit
    (gd.b.fn (a := 56) rfl rfl rfl rfl rfl rfl rfl rfl rfl rfl) gd.gB gd.L R (by decide) rfl (by decide) (.of_eq rfl) self_mem fun A' h₀ tk R' g₀ F => ?_
  have M := Mf.start gd ps (fun x c hc => by cases hc) g₀ F
  -- end_of_line = self._current_line.pop()
  refine St.cons (wpAny_Assign_Name (cur_meth (s := { s with heap := h₀, toks := tk }) (f := 138) M R' (EvV.cur M.bs.K M.ps memH) rfl rfl (fun t => rfl) rfl rfl fun h₁ t₁ g₁ M₁ => ?_) rfl)
  refine callWith_K0 (K := hd.heap_1 P) M₁.bs.K rfl ?_
  refine pop_call (s := { s with heap := h₁, toks := t₁ }) (n := n + 3) M₁.gd R' M₁.ps (by omega) fun v h₂ t₂ kp₂ ps₂ q₂ => ?_
  have M₂ := M₁.upd kp₂ ps₂ rfl
  refine M₂.store (s := { s with heap := h₂, toks := t₂ }) (t := .v v) rfl rfl rfl fun h₃ t₃ M₃ sb₃ => ?_
  have q₃ : IsD (PX q) h₃ v (partD (f, g)) := q₂.skeep fun a o hn e hso => by
    obtain ⟨m, hm⟩ := M₂.F.ns
    exact sb₃.extBut a o (fun z => ns_not_seq hm (z ▸ e) hso) e
  -- if end_of_line != (' ', ''): push back
  have H₃ : Has h₃ (PX q) h₃ _ [(Str.ofString "end_of_line", Slot.d (partD (f, g)))] := ⟨Grow.refl _, M₃.F.has.fn, M₃.F.has.gl, M₃.F.has.bi, fun p hp => by
    rw [List.mem_singleton.mp hp]
    obtain ⟨u, hu, hx⟩ := M₃.F.has.var _ memH
    cases hu
    exact ⟨v, q₃, hx⟩⟩
  refine St.cons (wpAny_If ?_)
  refine EvT.run (s := { s with heap := h₃, toks := t₃ }) (EvT.is (d' := true) (EvT.cmp (Ev.name (d := .tup [.str f, .str g]) memH) (Ev.tup (EvL.cons Ev.str (EvL.cons Ev.str EvL.nil)) (Nat.le_of_ble_eq_true rfl)) (Op2.ne_any hok shaped_blank)) (by rw [hne]; rfl)) R' M₃.ps.live H₃ fun h₄ t₄ g₄ => ?_
  rw [if_pos rfl]
  have M₄ := M₃.grow g₄
  have q₄ := q₃.grow g₄
  refine wpAny_execs_cons (wpAny_Expr ?_)
  rw [arm_eval_Call]
  refine wpAny_bind (m := attributeBase _ _ _ _) (EvV.run (s := { s with heap := h₄, toks := t₄ }) (EvV.cur M₄.bs.K M₄.ps (memT memH)) R' M₄.F.live M₄.has fun h₅ t₅ g₅ => wpAny_bind (wpAny_standAt ?_))
  have M₅ := M₄.grow g₅
  unfold methodCall calleeOf
  refine wpAny_bind (wpAny_holding ?_)
  obtain ⟨kk, c, t, vs, I, hc, hp⟩ := M₅.ps.acc
  show wpAny _ _ (getAttr (.ref q.ac) (Str.ofString "push") true >>= fun z => pure (z, [])) _ _ _
  refine wpAny_bind (accBound (s := { s with heap := h₅, toks := t₅ }) (f := 122) M₅.bs.K I rfl rfl rfl rfl rfl rfl fun t₆ => wpAny_pure ?_)
  refine wpAny_bind (m := methodCallPos _ _ _ _ _) (wpAny_pure ?_)
  have g₆ : Grow h₅ (h₅.push (methodObj (.ref 122) (.ref q.ac))) := Grow.push _ _
  have e₆ : (h₅.push (methodObj (.ref 122) (.ref q.ac))).get? h₅.objs.size = some (methodObj (.ref 122) (.ref q.ac)) := Heap.get?_push_size _ rfl
  have M₆ := M₅.grow g₆
  have q₆ := (q₄.grow g₅).grow g₆
  refine callWith_bound (s := { s with heap := h₅.push (methodObj (.ref 122) (.ref q.ac)), toks := t₆ }) (f := 122) (X := PX q) (G := [(Str.ofString "end_of_line", Slot.v v)]) (n := n + 5) (B := h₅.push (methodObj (.ref 122) (.ref q.ac))) M₆.bs.K R' M₆.ps.live ⟨Grow.refl _, M₆.F.has.fn, M₆.F.has.gl, M₆.F.has.bi, fun p hp => by
    rw [List.mem_singleton.mp hp]
    obtain ⟨u, hu, hx⟩ := M₆.F.has.var _ memH
    exact ⟨u, hu, hx⟩⟩ e₆ rfl (EvV.name memH) q₆ (fun h₇ t₇ ta tb g₇ => ?_) rfl
  have M₇ := M₆.grow g₇
  refine push_code (s := { s with heap := h₇, toks := t₇ }) (n := n + 4) M₇.gd R' M₇.ps (by omega) fun h₈ t₈ kp₈ ps₈ => ?_
  have M₈ := M₇.upd kp₈ ps₈ rfl
  show wpAny _ _ (execs _ _) _ _ _
  refine wpAny_execs_nil ?_
  -- if len(self._current_line) > 0
  refine St.cons (wpAny_If (wpAny_isTrue_Compare1 (wpAny_Call_Name_kw ?_) (by with_unfolding_all rfl)))
  refine globName (s := { s with heap := h₈, toks := t₈ }) (gd.b.bui (x := "len") (by rfl) (by rfl) (by decide)) M₈.F.has (by rfl) (by decide) ?_
  refine callWith_of (P := fun _ => True) rfl (fun h _ => ⟨.machine, .inr (.inl rfl), Looks.of_pure rfl⟩) (evalArgs_list (es := [_]) (spliced_cons ?_))
  refine EvV.run (s := { s with heap := h₈, toks := t₈ }) (EvV.cur M₈.bs.K M₈.ps (memT memH)) R' M₈.F.live M₈.has fun h₉ t₉ g₉ => spliced_nil ⟨trivial, ?_⟩
  have M₉ := M₈.grow g₉
  refine len_acc (s := { s with heap := h₉, toks := t₉ }) (n := n + 2) M₉.gd R' M₉.ps hsh hz2 fun t10 h₁₀ t₁₀ g₁₀ kp₁₀ ps₁₀ hg₁₀ => ?_
  have M₁₀ := M₉.upd kp₁₀ ps₁₀ rfl
  refine Ev.run (s := { s with heap := h₁₀, toks := t₁₀, gens := g₁₀ }) (Ev.int (i := 0)) R' M₁₀.F.live M₁₀.has fun v₁₁ h₁₁ t₁₁ g₁₁ q₁₁ => ?_
  have M₁₁ := M₁₀.grow g₁₁
  refine Op2.gt_int A' _ _ _ { s with heap := h₁₁, toks := t₁₁, gens := g₁₀ } _ v₁₁ R' M₁₁.F.live (Grow.refl _) (.int _ _) q₁₁ fun r h₁₂ t₁₂ g₁₂ q₁₂ => ?_
  cases q₁₂
  refine wpAny_truthy_bool ?_
  rw [decide_eq_true ht, if_pos rfl]
  have M₁₂ := M₁₁.grow g₁₂
  -- if self._current_line.is_onlyws() and self._lines
  refine St.cons (wpAny_If (isTrue_and (isTrue_plain (cur_meth (s := { s with heap := h₁₂, toks := t₁₂, gens := g₁₀ }) (f := 167) M₁₂ R' (EvV.cur M₁₂.bs.K M₁₂.ps (memT memH)) rfl rfl (fun t => rfl) rfl rfl fun h₁₃ t₁₃ g₁₃ M₁₃ => ?_))))
  refine callWith_K0 (K := hd.heap_1 P) M₁₃.bs.K rfl ?_
  refine onlyws_call (s := { s with heap := h₁₃, toks := t₁₃, gens := g₁₀ }) (n := n) M₁₃.gd R' M₁₃.ps hsh hz2 (by omega) hsp fun h₁₄ t₁₄ g₁₄ kp₁₄ ps₁₄ hg₁₄ => ?_
  refine wpAny_truthy_bool ?_
  rw [if_neg (by decide)]
  rw [if_neg (by decide)]
  have M₁₄ := M₁₃.upd kp₁₄ ps₁₄ rfl
  -- self._lines.append(str(self._current_line))
  refine St.cons (wpAny_Expr (Call_method1 rfl rfl rfl ?_))
  refine EvV.run (s := { s with heap := h₁₄, toks := t₁₄, gens := g₁₄ }) (EvV.lns M₁₄.bs.K M₁₄.ps (memT memH)) R' M₁₄.F.live M₁₄.has fun h₁₅ t₁₅ g₁₅ => ?_
  have M₁₅ := M₁₄.grow g₁₅
  obtain ⟨kl, vl, hlo, hls⟩ := M₁₅.ps.lns
  refine ⟨"list", "list.append", PySem.F.plainAttrs_list, PySem.F.slot_list_append, PySem.F.type_list_append, ⟨_, hlo, rfl⟩, fun a' e' => (by cases e'; exact ⟨_, hlo, rfl⟩), ?_⟩
  refine Calls.callWith_builtin (by rfl) ?_
  refine evalArgs_list (es := [_]) (spliced_cons (wpAny_Call_Name_kw ?_))
  refine globName (s := { s with heap := h₁₅, toks := t₁₅, gens := g₁₄ }) (gd.b.bui (x := "str") (by rfl) (by rfl) (by decide)) M₁₅.F.has (by rfl) (by decide) ?_
  refine callWith_of (P := fun _ => True) rfl (fun h _ => ⟨.machine, .inr (.inl rfl), Looks.of_pure rfl⟩) (evalArgs_list (es := [_]) (spliced_cons ?_))
  refine EvV.run (s := { s with heap := h₁₅, toks := t₁₅, gens := g₁₄ }) (EvV.cur M₁₅.bs.K M₁₅.ps (memT memH)) R' M₁₅.F.live M₁₅.has fun h₁₆ t₁₆ g₁₆ => spliced_nil ⟨trivial, ?_⟩
  have M₁₆ := M₁₅.grow g₁₆
  refine str_acc (s := { s with heap := h₁₆, toks := t₁₆, gens := g₁₄ }) (n := n + 1) M₁₆.gd R' M₁₆.ps hsh hz2 fun t17 h₁₇ t₁₇ g₁₇ kp₁₇ ps₁₇ hg₁₇ => ?_
  have M₁₇ := M₁₆.upd kp₁₇ ps₁₇ rfl
  refine spliced_nil ?_
  obtain ⟨kl', vl', hlo', hls'⟩ := M₁₇.ps.lns
  have hll : vl'.length = lines.length := by have := AllD.length hls'; simpa using this
  have hpl : h₁₇.PlainList q.ln vl'.toArray := ⟨kl', hlo'⟩
  refine wpAny_list_append_plain (s := { s with heap := h₁₇, toks := t₁₇, gens := g₁₇ }) (hsz := by rw [sizeLine_eq]; simp only [List.size_toArray]; omega) hpl fun h₁₈ ⟨k₁₈, hlo₁₈⟩ sb₁₈ => ?_
  have kp₁₈ : Kp q h₁₇ h₁₈ := Kp.same_ln sb₁₈
  have sk₁₈ : SKeep (PX q) h₁₇ h₁₈ := fun a o hn e _ => kp₁₈ a o hn e
  have ps₁₈ : PS q h₁₈ mx (lines ++ [lineStr (parts ++ [(f, g)])]) (parts ++ [(f, g)]) := ps₁₇.updL (fun b o hb e => sb₁₈.extBut b o hb e) (vs' := vl' ++ [_]) (k' := k₁₈) (by simpa using hlo₁₈) (by
    rw [List.map_append]
    exact (hls'.skeep sk₁₈).append (.cons (.str _ t17) .nil))
  have M₁₈ := M₁₇.upd kp₁₈ ps₁₈ rfl
  show wpAny _ _ (execs _ _) _ _ _
  refine wpAny_execs_nil ?_
  show wpAny _ _ (execs _ _) _ _ _
  refine wpAny_execs_nil ?_
  -- self._current_line.reset()
  refine St.cons (wpAny_Expr (cur_meth (s := { s with heap := h₁₈, toks := t₁₇, gens := g₁₇ }) (f := 160) M₁₈ R' (EvV.cur M₁₈.bs.K M₁₈.ps (memT memH)) rfl rfl (fun t => rfl) rfl rfl fun h₁₉ t₁₉ g₁₉ M₁₉ => ?_))
  refine callWith_K0 (K := hd.heap_1 P) M₁₉.bs.K rfl ?_
  refine reset_call0 (s := { s with heap := h₁₉, toks := t₁₉, gens := g₁₇ }) (n := n + 4) M₁₉.gd R' M₁₉.ps hz2 fun h₂₀ t₂₀ kp₂₀ ps₂₀ => ?_
  have M₂₀ := M₁₉.upd kp₂₀ ps₂₀ rfl
  show wpAny _ _ (execs _ _) _ _ _
  refine wpAny_execs_nil ?_
  exact hh h₂₀ t₂₀ g₁₇ M₂₀.kp ps₂₀ fun G => hg₁₇ (hg₁₄ (hg₁₀ G))
end
end
-- MDG
section
open PySem.Builtin PySem.Builtin.ObjectAttr
section
variable {prog : Program} {w : World} {A : Around} {E : Value → Shared → Prop} {s : Shared} {P : Params} {B : Heap} {n : Nat} {q : Pp} {mx : Int} {lines lines' : List Str} {parts parts' : List (Str × Str)} {X : Addr → Prop} {env : Env} {G : Ctxt} {H₀ H h h' : Heap}

/-- a method of the page -/
theorem page_meth {o : Expr} {name : Str} {f : Addr} {apos pos : Pos} {args : List Expr} {pl : Sem Bool} {Q : Value → Shared → Prop} (KX : (hd.heap_1 P).In s.heap) (ps : PS q s.heap mx lines parts) (R : Room n A) (L : Live X s.heap) (H : Has B X s.heap env G) (ho : EvV pr w B n env G o (.ref q.pg))
    (hg : plainGet (hd.heap_1 P) 94 name = true) (hf : findIn (hd.heap_1 P) (.ref 94) name = some (some (.ref f))) (ht : isFn (hd.heap_1 P) (.ref f) = true) (hl : ∀ m, PM q mx m → m name = none)
    (hbase : attributeBase o name env (eval o env) = eval o env)
    (he : eval (.Call (.Attribute o name apos) args [] pos) env = (do
      let ov ← attributeBase o name env (eval o env)
      standAt apos.atName
      let (f, first) ← holding [ov] (getMethod ov name pl)
      callWith pos f first (backTo pos (starEach args env)) []))
    (k : ∀ h' tk, Grow s.heap h' → wpAny (model pr w) A (callWith pos (.ref f) [.ref q.pg] (backTo pos (starEach args env)) []) Q E { s with heap := h', toks := tk }) :
    wpAny (model pr w) A (eval (.Call (.Attribute o name apos) args [] pos) env) Q E s := by
  refine Call_meth hbase (EvV.run ho R L H fun h₁ t₁ g₁ => ?_) he
  obtain ⟨c, m, I, pm⟩ := (ps.grow g₁).page
  exact get_meth (s := { s with heap := h₁, toks := t₁ }) (KX.keeps g₁) I hg hf ht (hl m pm) (k h₁ t₁ g₁)

theorem pstr_call {f g sep : Str} {ts : Tok} {Q : Value → Shared → Prop} (gd : Gd P B q X s.heap) (R : Room (n + 7) A) (ps : PS q s.heap mx lines (parts ++ [(f, g)])) (hz : parts.length ≤ 100)
    (hsh : Short (parts ++ [(f, g)])) (hok : SeqAt.shaped (toPy (partD (f, g))) = true) (hne : PyData.eqv (toPy (partD (f, g))) (toPy (.tup [.str " ", .str ""])) = false) (ht : 0 < total (parts ++ [(f, g)])) (hsp : Txt.isspace (lineStr (parts ++ [(f, g)])) = false) (hlz : lines.length ≤ 100)
    (hfit : ((lines ++ [lineStr (parts ++ [(f, g)])]).map (·.length)).sum + (lines ++ [lineStr (parts ++ [(f, g)])]).length * sep.length ≤ sizeLine)
    (hh : ∀ t, Left q s mx (lines ++ [lineStr (parts ++ [(f, g)])]) [] fun s' => Q (.str (Str.join sep (lines ++ [lineStr (parts ++ [(f, g)])])) t) s') : wpAny (model pr w) A (call (.ref 42) [.ref q.pg, .str sep ts] []) Q E s := by
  refine call_fn (X := X) (n := n + 6) (xs := ["self", "linesep"]) (us := [.ref q.pg, .str sep ts]) (G₀ := [("self", .v (.ref q.pg)), ("linesep", .d (.str sep))]) (PX q) gd.b.nolimit
    (gd.b.fn (a := 42) rfl rfl rfl rfl rfl rfl rfl rfl rfl rfl) gd.gB gd.L R (by decide) rfl (by decide) (.of_eq rfl) (fun p hp => ?_) fun A' h₀ tk R' g₀ F => ?_
  · rcases List.mem_cons.mp hp with rfl | hp
    · exact ⟨_, .head _, rfl⟩
    · rw [List.mem_singleton.mp hp]
      exact ⟨_, .tail _ (.head _), .str sep ts⟩
  have M := Mf.start gd ps (fun x c hc => by cases hc) g₀ F
  refine St.cons (wpAny_Expr (page_meth (s := { s with heap := h₀, toks := tk }) (f := 56) M.bs.K M.ps R' M.F.live M.has (EvV.name memH) rfl rfl rfl (fun m pm => pm.nl) rfl rfl fun h₁ t₁ g₁ => ?_))
  have M₁ := M.grow g₁
  refine callWith_K0 (K := hd.heap_1 P) M₁.bs.K rfl ?_
  refine newline_call (s := { s with heap := h₁, toks := t₁ }) (n := n) M₁.gd R' M₁.ps hz hsh hok hne ht hsp hlz fun h₂ t₂ g₂ kp₂ ps₂ hg₂ => ?_
  have M₂ := M₁.upd kp₂ ps₂ rfl
  show wpAny _ _ (execs _ _) _ _ _
  refine St.cons (wpAny_Return_some (Call_method1 rfl rfl rfl ?_))
  refine Ev.run (s := { s with heap := h₂, toks := t₂, gens := g₂ }) (Ev.name (d := .str sep) (memT memH)) R' M₂.F.live M₂.has fun v h₃ t₃ g₃ q₃ => ?_
  have M₃ := M₂.grow g₃
  cases q₃
  refine SB.join ?_
  refine EvV.run (s := { s with heap := h₃, toks := t₃, gens := g₂ }) (EvV.lns M₃.bs.K M₃.ps memH) R' M₃.F.live M₃.has fun h₄ t₄ g₄ => ?_
  have M₄ := M₃.grow g₄
  obtain ⟨kl, vl, hlo, hls⟩ := M₄.ps.lns
  obtain ⟨l', rfl, e2⟩ := strs_of hls
  refine ⟨q.ln, l', rfl, ⟨_, hlo, rfl, kl, rfl⟩, _, e2, joinOk_of hfit, fun t' k => ?_⟩
  rw [show Txt.join sep (lines ++ [lineStr (parts ++ [(f, g)])]) = Str.join sep (lines ++ [lineStr (parts ++ [(f, g)])]) from StrLaws.glued_eq_join sep _]
  exact hh t' h₄ k g₂ M₄.kp M₄.ps fun G => hg₂ G
end
end
-- MDH
section
open PySem.Builtin PySem.Builtin.ObjectAttr
section
variable {prog : Program} {w : World} {A : Around} {E : Value → Shared → Prop} {s : Shared} {P : Params} {B : Heap} {n : Nat} {q : Pp} {mx : Int} {lines lines' : List Str} {parts parts' : List (Str × Str)} {X : Addr → Prop} {env : Env} {G : Ctxt} {H₀ H h h' : Heap}

theorem Src.str {e : Expr} {x : Str} (ha : x.cps.all (· < 128) = true) (he : Ev prog w B n env G e (.str x)) : Src prog w B n env G e (x.cps.toList.map fun c => .str ⟨#[c]⟩) := by
  intro A X Q E s R L H h
  refine he A X _ E s R L H fun u h₁ t₁ g₁ q₁ => ?_
  cases q₁ with
  | str _ tt =>
  refine wpAny_pyIter_ascii ha ?_
  refine h h₁.objs.size [h₁.objs.size] [h₁.objs.size] x.cps.size _ _ _ t₁ ⟨Walks.strAscii R.1 h₁.objs.size x tt, ?_, ?_, ?_, ?_, ?_, ?_, ?_, ?_, ?_⟩
  · simp
  · exact ⟨_, Heap.get?_push_size _ rfl, rfl, rfl⟩
  · exact g₁.trans (Grow.push _ _)
  · intro b hb
    rw [List.mem_singleton.mp hb]
    exact ⟨_, Heap.get?_push_size _ rfl⟩
  · intro b hb
    rw [List.mem_singleton.mp hb]
    cases e : s.heap.get? h₁.objs.size with
    | none => rfl
    | some o' => have := g₁ _ _ e; rw [get_size_none h₁ (Nat.le_refl _)] at this; cases this
  · intro b hb
    rw [List.mem_singleton.mp hb]
    exact (L.grow g₁).fresh
  · rintro i k ⟨o', ho', hc', hd'⟩ b hb
    rw [List.mem_singleton.mp hb]
    exact ⟨o', ho', fun ⟨vs', m', e⟩ => by rw [hd'] at e; cases e⟩
  · rintro i v ⟨c, u, hc, rfl⟩
    refine ⟨.str ⟨#[c]⟩, ?_, .str _ _⟩
    rw [List.getElem?_map, Array.getElem?_toList, hc]
    rfl
  · rintro i k ⟨o', ho', hc', hd'⟩
    exact ⟨o', _, _, ho', hc', hd', by decide⟩

/-- a for, with whatever holds from turn to turn -/
theorem St.forJ {x : Str} {px pos : Pos} {iter : Expr} {body orelse : List Stmt} {ds : List D} {Q : Flow → Shared → Prop} (hsrc : Src prog w B n env G iter ds) (R : Room n A) (L : Live X s.heap) (H : Has B X s.heap env G)
    (J : Nat → Heap → Array GenState → Prop) (h0 : J 0 s.heap s.gens)
    (hJ : ∀ i h h' g (W : Addr → Prop), J i h g → (∀ b, W b → ¬ X b ∧ s.heap.get? b = none ∧ ∀ o, h.get? b = some o → ¬ SeqO o) → (∀ b o, ¬ W b → h.get? b = some o → h'.get? b = some o) → J i h' g)
    (turn : ∀ i d v h tk g, ds[i]? = some d → J i h g → IsD X h v d →
      wpAny (model prog w) A (storeName env x v) (fun _ s₂ => wpAny (model prog w) A (execs body env) (fun f s₃ => match f with
        | .next | .cont => ∃ h' tk' g', s₃ = { s with heap := h', toks := tk', gens := g' } ∧ J (i + 1) h' g' ∧ (∀ b o, ¬ X b → h.get? b = some o → h'.get? b = some o)
        | .brk => Q .next s₃
        | .ret v => Q (.ret v) s₃) (fun _ _ => False) s₂) (fun _ _ => False) { s with heap := h, toks := tk, gens := g })
    (done : ∀ h' tk g, J ds.length h' g → wpAny (model prog w) A (execs orelse env) Q (fun _ _ => False) { s with heap := h', toks := tk, gens := g })
    (hs : ∀ x, foldedSetIterable iter env x = pure x := by intro _; rfl) :
    wpAny (model prog w) A (exec (.For (.Name x px) iter body orelse pos) env) Q E s := by
  refine wpAny_For (hsrc A X _ E s R L H fun I fp wr N P Sti h₁ t₁ WD => ?_) hs
  obtain ⟨W, hlen, hst, hg, hlive, hnew, hoff, hnoseq, hitem, hitr⟩ := WD
  have wrX : ∀ b ∈ wr, ¬ X b := fun b hb => hoff b (W.sub b hb)
  refine forLoop_own (fun k s' => ∃ h' tk i g, s' = { s with heap := h', toks := tk, gens := g } ∧ Sti i h' ∧ i ≤ N ∧ k = N + 1 - i ∧ J i h' g ∧ (∀ b o, ¬ X b → b ∉ wr → h₁.get? b = some o → h'.get? b = some o)) ?_ (N + 1)
    ⟨h₁, t₁, 0, s.gens, rfl, hst, Nat.zero_le _, rfl, hJ 0 s.heap h₁ s.gens (fun _ => False) h0 (fun _ z => z.elim) (fun b o _ e => hg b o e), fun _ _ _ _ e => e⟩
  rintro k s' ⟨h', tk, i, g, rfl, hsti, hi, rfl, hj, hk'⟩
  have moveNext : ∀ {h₂ : Heap}, (∀ b o, b ∉ wr → h'.get? b = some o → h₂.get? b = some o) → J i h₂ g := fun k₂ => hJ i h' _ g (fun b => b ∈ wr) hj
    (fun b hb => ⟨wrX b hb, hnew b hb, fun o e => by obtain ⟨o', e', hn⟩ := hnoseq i h' hsti b hb; rw [e] at e'; cases e'; exact hn⟩) k₂
  by_cases hlt : i < N
  · refine W.item i _ _ _ hlt hsti fun v h₂ tk₂ hv hst₂ hk₂ => ?_
    obtain ⟨d, hd, qd⟩ := hitem i v hv
    obtain ⟨oI, tI, vI, hI1, hI2, hI3, hI4⟩ := hitr _ _ hst₂
    refine letOwned hI1 hI2 hI3 hI4 ?_
    have qd₂ : IsD X h₂ v d := qd.skeep fun a o hn e hso => by
      have hw : a ∉ wr := fun hb => by obtain ⟨o', e', hn'⟩ := hnoseq 0 h₁ hst a hb; rw [e] at e'; cases e'; exact hn' hso
      exact hk₂ a o hw (hk' a o hn hw e)
    refine wpAny_assign_Name (wpAny_mono (turn i d v h₂ tk₂ g hd (moveNext hk₂) qd₂) (fun _ s₂ z₂ => wpAny_mono z₂ (fun f s₃ z₃ => ?_) fun _ _ e => e.elim) fun _ _ e => e.elim)
    have fin : (∃ h' tk' g', s₃ = { s with heap := h', toks := tk', gens := g' } ∧ J (i + 1) h' g' ∧ (∀ b o, ¬ X b → h₂.get? b = some o → h'.get? b = some o)) → ∃ m, m < N + 1 - i ∧ ∃ h' tk i g, s₃ = { s with heap := h', toks := tk, gens := g } ∧ Sti i h' ∧ i ≤ N ∧ m = N + 1 - i ∧ J i h' g ∧ (∀ b o, ¬ X b → b ∉ wr → h₁.get? b = some o → h'.get? b = some o) := by
      rintro ⟨h₄, tk₄, g₄, rfl, hj₄, k₄⟩
      exact ⟨N + 1 - (i + 1), by omega, h₄, tk₄, i + 1, g₄, rfl, W.frame _ _ _ hst₂ (fun b hb o e => k₄ b o (hoff b hb) e), hlt, rfl, hj₄, fun b o hb hw e => k₄ b o hb (hk₂ b o hw (hk' b o hb hw e))⟩
    cases f with
    | next => exact fin z₃
    | cont => exact fin z₃
    | brk => exact z₃
    | ret v => exact z₃
  · have hiN : i = N := by omega
    subst hiN
    refine W.done _ _ _ hsti fun h₂ tk₂ hk₂ => ?_
    exact wpAny_mono (done h₂ tk₂ g (by rw [hlen]; exact moveNext hk₂)) (fun f s₃ z => z) fun _ _ e => e.elim

/-- the page beside a moved iterator -/
theorem Mf.moved {h₀ : Heap} (M : Mf P B q X H₀ h env G mx lines parts) (W : Addr → Prop) (hM : noM G = true) (hpg : ∃ o, h₀.get? q.pg = some o) (hH : ∀ b o, H₀.get? b = some o → ∃ o', h₀.get? b = some o') (hBh : ∀ b o, B.get? b = some o → ∃ o', h₀.get? b = some o')
    (hW : ∀ b, W b → ¬ X b ∧ h₀.get? b = none ∧ ∀ o, h.get? b = some o → ¬ SeqO o) (k : ∀ b o, ¬ W b → h.get? b = some o → h'.get? b = some o) : Mf P B q X H₀ h' env G mx lines parts := by
  have nP : ∀ b, PX q b → ¬ W b := fun b hb z => (hW b z).1 (M.hX b hb)
  have nB : ∀ b o, B.get? b = some o → ¬ W b := fun b o e z => by obtain ⟨o', e'⟩ := hBh b o e; rw [(hW b z).2.1] at e'; cases e'
  have F' : Fm B [(PX q, H₀)] X h' env G := M.F.move W k (fun b hb => (hW b hb).1) (fun b o hb e => (hW b hb).2.2 o e) (fun b hb => by
    cases e : B.get? b with
    | none => rfl
    | some o => exact absurd hb (nB b o e)) (fun b hb p hp => by
    rw [List.mem_singleton.mp hp]
    right
    cases e : H₀.get? b with
    | none => rfl
    | some o => obtain ⟨o', e'⟩ := hH b o e; rw [(hW b hb).2.1] at e'; cases e')
  refine ⟨F', ?_, M.b, M.hB, M.hX, M.nL, M.nC⟩
  obtain ⟨cc, m, I, pm⟩ := M.ps.page
  obtain ⟨kk, c', t, vs, J, hc, hps⟩ := M.ps.acc
  obtain ⟨kl, vl, hl, hls⟩ := M.ps.lns
  obtain ⟨tab1, hT1⟩ := M.ps.t1
  obtain ⟨tab2, hT2⟩ := M.ps.t2
  have sk : SKeep (PX q) h h' := fun a o _ e hs => k a o (fun z => (hW a z).2.2 o e hs) e
  have bK := M.bs.K
  have cb : ∀ c, (∃ o, B.get? c = some o) → ∀ o, h.get? c = some o → h'.get? c = some o := fun c ⟨o', e'⟩ o e => k c o (nB c o' e') e
  exact ⟨⟨cc, m, I.keeps (fun o e => k _ o (fun z => by obtain ⟨o', e'⟩ := hpg; rw [(hW _ z).2.1] at e'; cases e') e) (fun o e => k _ o (nP _ (.inr (.inr (.inl rfl)))) e), pm⟩,
    ⟨kk, c', t, vs, J.keeps (fun o e => k _ o (nP _ (.inl rfl)) e) (fun o e => k _ o (nP _ (.inr (.inl rfl))) e), hc, AllD.skeep hps sk⟩,
    ⟨kl, vl, k _ _ (nP _ (.inr (.inr (.inr (.inl rfl))))) hl, hls.skeep sk⟩,
    ⟨tab1, code_keep hT1 (cb 144 ⟨_, M.b.K 144 _ rfl⟩) (fun o e => k _ o (nP _ (.inr (.inr (.inr (.inr (.inl rfl)))))) e)⟩, ⟨tab2, code_keep hT2 (cb 151 ⟨_, M.b.K 151 _ rfl⟩) (fun o e => k _ o (nP _ (.inr (.inr (.inr (.inr (.inr rfl)))))) e)⟩, M.ps.ap⟩
end
end
-- MDI
section
open PySem.Builtin PySem.Builtin.ObjectAttr
section
variable {prog : Program} {w : World} {A : Around} {E : Value → Shared → Prop} {s : Shared} {P : Params} {B : Heap} {n : Nat} {q : Pp} {mx : Int} {lines lines' : List Str} {parts parts' : List (Str × Str)} {X : Addr → Prop} {env : Env} {G : Ctxt} {H₀ H h h' : Heap}

theorem acc_tailG {value slice : Expr} {i : Value} {ac d c k : Nat} {vs : List Value} {m : Str → Option Value} {Q : Value → Shared → Prop} (KX : (hd.heap_1 P).In s.heap) (I : In s.heap ac d 178 (accO d vs k) c m) (hg : wpAny (model pr w) A (getItem (.ref ac) i) Q E s)
    (hs : ∀ o i, subscripted slice false o i = operate [o, i] (getItem o i)) : wpAny (model pr w) A (subscriptTail value slice (.ref ac) i) Q E s := acc_tail (ops := [.ref ac, i]) KX I hg (hs _ _)

/-- self._current_line[k][j] -/
theorem Ev.partFld {o e c : Expr} {p1 p2 : Pos} {k j : Nat} {f g x : Str} (KX : (hd.heap_1 P).In B) (ps : PS q B mx lines parts) (ho : EvV pr w B n env G o (.ref q.ac)) (he : Ev pr w B n env G e (.int (k : Int))) (hc : Ev pr w B n env G c (.int (j : Int)))
    (hk : parts[k]? = some (f, g)) (hz : parts.length ≤ 1000) (hj : [D.str f, D.str g][j]? = some (.str x))
    (hs : ∀ o i, subscripted e false o i = operate [o, i] (getItem o i) := by intro _ _; rfl) (hs2 : ∀ o i, subscripted c false o i = operate [o, i] (getItem o i) := by intro _ _; rfl) :
    Ev pr w B n env G (.Subscript (.Subscript o e p1) c p2) (.str x) := by
  intro A X Q E s R L H h
  have hkl : k < parts.length := by
    rcases Nat.lt_or_ge k parts.length with h1 | h1
    · exact h1
    · rw [List.getElem?_eq_none h1] at hk; cases hk
  have hj2 : j < 2 := by
    rcases Nat.lt_or_ge j 2 with h1 | h1
    · exact h1
    · rw [List.getElem?_eq_none (by simpa using h1)] at hj; cases hj
  refine Subscript_ (Subscript_ (EvV.run ho R L H fun h₁ t₁ g₁ => ?_))
  refine Ev.run (s := { s with heap := h₁, toks := t₁ }) he R (L.grow g₁) (H.grow g₁) fun v h₂ t₂ g₂ q₂ => ?_
  cases q₂
  rename_i tk
  have gg : Grow B h₂ := Grow.trans H.keep (Grow.trans g₁ g₂)
  have ps₂ := ps.grow gg
  obtain ⟨kk, cc, t, vs, I, hcc, hp⟩ := ps₂.acc
  obtain ⟨u, hu, qu⟩ := AllD.get (k := k) (d := partD (f, g)) hp (by rw [List.getElem?_map, hk]; rfl)
  refine acc_tailG (s := { s with heap := h₂, toks := t₂ }) (KX.keeps gg) I (acc_item (KX.keeps gg) I hu (by omega) ?_) hs
  refine Ev.run (s := { s with heap := h₂, toks := t₂ }) hc R (L.grow (Grow.trans g₁ g₂)) (H.grow (Grow.trans g₁ g₂)) fun v₃ h₃ t₃ g₃ q₃ => ?_
  refine Op2.item_tup (prog := pr) (w := w) (B := h₃) (n := n) (e := .Subscript o e p1) (f := c) (ds := [.str f, .str g]) (k := (j : Int)) (d := .str x) (j := j) (by unfold seqIndex?; simp; omega) hj (by omega) (by omega) hs2 A (PX q) _ _ { s with heap := h₃, toks := t₃ } u v₃ R (ps₂.grow g₃).live (Grow.refl _) (qu.grow g₃) (by cases q₃; exact .int _ _) fun r h₄ t₄ g₄ q₄ => ?_
  cases q₄
  exact h _ h₄ t₄ (Grow.trans g₁ (Grow.trans g₂ (Grow.trans g₃ g₄))) (.str _ _)

theorem Tru.str {x : Str} (hx : x.length ≤ 1000) : Tru prog w B n (.str x) (x.length != 0) := fun A X Q E s u _ _ _ q h => by
  cases q
  refine P.truthy_str (by omega) ?_
  have e : (((x.length : Int)) != 0) = (x.length != 0) := by
    by_cases hz : x.length = 0
    · rw [hz]; rfl
    · rw [bne_iff_ne.mpr hz, bne_iff_ne.mpr (by omega)]
  rw [e]
  exact h s.heap _ (Grow.refl _)
noncomputable def firstIs (x : Str) (c : Nat) : Bool := x.cps[0]? == some c
noncomputable def lastIs (x : Str) (c : Nat) : Bool := x.cps[x.cps.size - 1]? == some c
theorem one_eq (a c : Nat) : ((⟨#[a]⟩ : Str).cps.toList == (⟨#[c]⟩ : Str).cps.toList) = (some a == some c) := by
  show ([a] == [c]) = (some a == some c)
  by_cases h : a = c
  · subst h; simp
  · simp [h]
theorem EvT.first {x y : Str} {p1 p2 p3 p4 p5 p6 p7 : Pos} {k c : Nat} {v : Str} (hz : v.length ≤ 1000) (hx : (x, Slot.d (.str v)) ∈ G) (hy : (y, Slot.d (.str ⟨#[c]⟩)) ∈ G)
    (hd : (x == ("__debug__" : Str)) = false := by decide) (hc : (x == ("__classdict__" : Str)) = false := by decide) (hd' : (y == ("__debug__" : Str)) = false := by decide) (hc' : (y == ("__classdict__" : Str)) = false := by decide) :
    EvT prog w B n env G (.BoolOp .And [.Name x p1, .Compare (.Subscript (.Name x p2) (.Constant (.int 0) k p3) p4) [.Eq] [.Name y p5] p6] p7) (firstIs v c) := by
  refine EvT.and2 (b := v.length != 0) (EvT.plain (Ev.name hx hd hc) (Tru.str hz)) (fun hb => ?_) (fun hb => ?_)
  · have hl : 0 < v.cps.size := by have : v.length ≠ 0 := by simpa using hb
                                   exact Nat.pos_of_ne_zero this
    refine EvT.is (EvT.cmp (Ev.sub (Ev.name hx hd hc) (Ev.int (i := 0)) (Op2.item_str (c := v.cps[0]) (by decide) ?_)) (Ev.name hy hd' hc') Op2.eq_str (by rfl)) ?_
    · have : seqIndex? 0 v.length = some 0 := by unfold seqIndex?; show (if (decide ((0 : Int) ≤ 0) && decide ((0 : Int) < (v.cps.size : Int))) = true then _ else _) = _; rw [if_pos (by simp; omega)]; rfl
      rw [this]; simp [hl]
    · rw [one_eq]; unfold firstIs; rw [Array.getElem?_eq_getElem hl]
  · have hl : v.cps.size = 0 := by have : v.length = 0 := by simpa using hb
                                   exact this
    unfold firstIs
    rw [Array.getElem?_eq_none (by omega)]; rfl
theorem EvT.last {x y : Str} {p1 p2 p3 p4 p5 p6 p7 p8 : Pos} {k c : Nat} {v : Str} (hz : v.length ≤ 1000) (hx : (x, Slot.d (.str v)) ∈ G) (hy : (y, Slot.d (.str ⟨#[c]⟩)) ∈ G)
    (hd : (x == ("__debug__" : Str)) = false := by decide) (hc : (x == ("__classdict__" : Str)) = false := by decide) (hd' : (y == ("__debug__" : Str)) = false := by decide) (hc' : (y == ("__classdict__" : Str)) = false := by decide) :
    EvT prog w B n env G (.BoolOp .And [.Name x p1, .Compare (.Subscript (.Name x p2) (.UnaryOp .USub (.Constant (.int 1) k p3) p8) p4) [.Eq] [.Name y p5] p6] p7) (lastIs v c) := by
  refine EvT.and2 (b := v.length != 0) (EvT.plain (Ev.name hx hd hc) (Tru.str hz)) (fun hb => ?_) (fun hb => ?_)
  · have hl : 0 < v.cps.size := by have : v.length ≠ 0 := by simpa using hb
                                   exact Nat.pos_of_ne_zero this
    refine EvT.is (EvT.cmp (Ev.sub (Ev.name hx hd hc) (Ev.una (Ev.int (i := 1)) Op1.neg_int) (Op2.item_str (c := v.cps[v.cps.size - 1]) (by decide) ?_)) (Ev.name hy hd' hc') Op2.eq_str (by rfl)) ?_
    · have : seqIndex? (-1) v.length = some (v.cps.size - 1) := by
        unfold seqIndex?
        show (if (decide ((0 : Int) ≤ -1 + (v.cps.size : Int)) && decide (-1 + (v.cps.size : Int) < (v.cps.size : Int))) = true then some (-1 + (v.cps.size : Int)).toNat else none) = _
        rw [if_pos (by simp; omega)]
        congr 1; omega
      rw [this]; simp
    · rw [one_eq]; unfold lastIs; rw [Array.getElem?_eq_getElem (by omega)]
  · have hl : v.cps.size = 0 := by have : v.length = 0 := by simpa using hb
                                   exact this
    unfold lastIs
    rw [Array.getElem?_eq_none (by omega)]; rfl
end
end
-- MDJ
section
open PySem.Builtin PySem.Builtin.ObjectAttr
section
variable {prog : Program} {w : World} {A : Around} {E : Value → Shared → Prop} {s : Shared} {P : Params} {B : Heap} {n : Nat} {q : Pp} {mx : Int} {lines lines' : List Str} {parts parts' : List (Str × Str)} {X : Addr → Prop} {env : Env} {G : Ctxt} {H₀ H h h' : Heap}

theorem Ev.isspace {o : Expr} {apos pos : Pos} {x : Str} (ho : Ev prog w B n env G o (.str x))
    (hbase : attributeBase o (Str.ofString "isspace") env (eval o env) = eval o env := by rfl) (hline : (apos.endLine == pos.line) = true := by rfl) : Ev prog w B n env G (.Call (.Attribute o (Str.ofString "isspace") apos) [] [] pos) (.bool (Txt.isspace x)) :=
  Ev.meth0 ho (fun A X Q E s u R L q h => by cases q; exact SB.isspace (h _ s.heap _ (Grow.refl _) (.bool _))) hbase hline
theorem Mf.stood (M : Mf P B q X H₀ h env G mx lines parts) : ∀ b o, H₀.get? b = some o → ∃ o', h.get? b = some o' := fun b o e => by
  by_cases hp : PX q b
  · exact M.ps.live b hp
  · exact ⟨o, M.kp b o hp e⟩
theorem Mf.pg (M : Mf P B q X H₀ h env G mx lines parts) : ∃ o, h.get? q.pg = some o := by
  obtain ⟨c, m, I, _⟩ := M.ps.page; exact ⟨_, I.at_⟩
theorem Mf.mv {h₀ : Heap} (M₀ : Mf P B q X H₀ h₀ env G mx lines parts) {G' : Ctxt} {h h' : Heap} (W : Addr → Prop) (M : Mf P B q X H₀ h env G' mx lines parts) (hM : noM G' = true) (hW : ∀ b, W b → ¬ X b ∧ h₀.get? b = none ∧ ∀ o, h.get? b = some o → ¬ SeqO o) (k : ∀ b o, ¬ W b → h.get? b = some o → h'.get? b = some o) :
    Mf P B q X H₀ h' env G' mx lines parts := M.moved W hM M₀.pg (M₀.stood) (fun b o e => ⟨o, M₀.F.has.keep b o e⟩) hW k

theorem rangeSize_down {k : Nat} : Builtin.Range.rangeSize (k : Int) 0 (-1) = (k : Int) := by
  unfold Builtin.Range.rangeSize
  rw [if_neg (by decide)]
  split
  · rw [show -(-1 : Int) = 1 from rfl, Int.ediv_one]; omega
  · omega
theorem small_down {k : Nat} (h : k ≤ 1000) : Builtin.Range.small (k : Int) 0 (-1) = true := by
  have hs := rangeSize_down (k := k)
  unfold Builtin.Range.small
  rw [hs]
  simp [Builtin.Range.rangeFitsLong]
  omega
theorem splits : ((", " : Str).cps.toList.map fun c => D.str ⟨#[c]⟩) = [.str ⟨#[44]⟩, .str ⟨#[32]⟩] := by with_unfolding_all rfl
theorem range_down {N i : Nat} {d : D} (h : ((rangeL (N : Int) (-1) N).map D.int)[i]? = some d) : i < N ∧ d = .int ((N - i : Nat) : Int) := by
  rcases Nat.lt_or_ge i N with hi | hi
  · refine ⟨hi, ?_⟩
    simp [rangeL, hi] at h
    rw [← h]
    congr 1
    omega
  · rw [List.getElem?_eq_none (by simpa [rangeL] using hi)] at h; cases h
theorem append_call {f g : Str} {tf tg : Tok} {Q : Value → Shared → Prop} (gd : Gd P B q X s.heap) (R : Room (n + 6) A) (ps : PS q s.heap mx lines parts) (hz : parts.length ≤ 100) (hsh : Short (parts ++ [(f, g)])) (hlz : lines.length ≤ 100)
    (fit : total (parts ++ [(f, g)]) ≤ mx → Left q s mx lines (parts ++ [(f, g)]) fun s' => Q .none s')
    (over : mx < total (parts ++ [(f, g)]) → ∃ j, 1 ≤ j ∧ j ≤ parts.length ∧ (∀ p : Str × Str, (parts ++ [(f, g)])[j]? = some p → firstIs p.1 32 = true) ∧ (∀ (k : Nat) (p : Str × Str), j < k → (parts ++ [(f, g)])[k]? = some p → firstIs p.1 32 = false) ∧ (∀ (k : Nat) (p : Str × Str), j ≤ k → k < parts.length → (parts ++ [(f, g)])[k]? = some p → lastIs p.2 32 = false) ∧
      (∀ (k : Nat) (p : Str × Str), (parts ++ [(f, g)])[k]? = some p → lastIs p.2 44 = false) ∧ Left q s mx (lines ++ [lineStr ((parts ++ [(f, g)]).take j)]) ((parts ++ [(f, g)]).drop j) fun s' => Q .none s') :
    wpAny (model pr w) A (call (.ref 91) [.ref q.pg, .str f tf, .str g tg] []) Q E s := by
  refine call_fn (X := X) (n := n + 5) (xs := ["self", "fws", "string"]) (us := [.ref q.pg, .str f tf, .str g tg]) (G₀ := [("self", .v (.ref q.pg)), ("fws", .d (.str f)), ("string", .d (.str g))]) (PX q) gd.b.nolimit
    (gd.b.fn (a := 91) rfl rfl rfl rfl rfl rfl rfl rfl rfl rfl) gd.gB gd.L R (by decide) rfl (by decide) (.of_eq rfl) (fun p hp => ?_) fun A' h₀ tk R' g₀ F => ?_
  · rcases List.mem_cons.mp hp with rfl | hp
    · exact ⟨_, .head _, rfl⟩
    · rcases List.mem_cons.mp hp with rfl | hp
      · exact ⟨_, .tail _ (.head _), .str f tf⟩
      · rw [List.mem_singleton.mp hp]
        exact ⟨_, .tail _ (.tail _ (.head _)), .str g tg⟩
  have M := Mf.start gd ps (fun x c hc => by cases hc) g₀ F
  -- self._current_line.push(fws, string)
  refine St.cons (wpAny_Expr (cur_meth (s := { s with heap := h₀, toks := tk }) (f := 122) M R' (EvV.cur M.bs.K M.ps memH) rfl rfl (fun t => rfl) rfl rfl fun h₁ t₁ g₁ M₁ => ?_))
  refine callWith_data (n := n + 5) (B := h₁) (first := [.ref q.ac]) (ds := [.str f, .str g]) (Callable.fn (M₁.bs.K 122 _ rfl) rfl) (EvL.cons (Ev.name (memT memH)) (EvL.cons (Ev.name (memT (memT memH))) EvL.nil)) rfl R' M₁.F.live M₁.has fun us h₂ t₂ g₂ qs => ?_
  cases qs with
  | cons q1 qs =>
  cases qs with
  | cons q2 qs =>
  cases qs
  cases q1
  cases q2
  have M₂ := M₁.grow g₂
  refine push_call (s := { s with heap := h₂, toks := t₂ }) (n := n + 4) M₂.gd R' M₂.ps (by omega) fun h₃ t₃ kp₃ ps₃ => ?_
  have M₃ := (M₂.upd kp₃ ps₃ rfl).sub (G' := [("self", .v (.ref q.pg))]) (subCons memH subNil)
  show wpAny _ _ (execs _ _) _ _ _
  generalize hpp : parts ++ [(f, g)] = pp at *
  have hpl : pp.length = parts.length + 1 := by rw [← hpp]; simp
  -- if len(self._current_line) > self._maxlen
  refine St.cons (wpAny_If (wpAny_isTrue_Compare1 (wpAny_Call_Name_kw ?_) (by with_unfolding_all rfl)))
  refine globName (s := { s with heap := h₃, toks := t₃ }) (gd.b.bui (x := "len") (by rfl) (by rfl) (by decide)) M₃.F.has (by rfl) (by decide) ?_
  refine callWith_of (P := fun _ => True) rfl (fun h _ => ⟨.machine, .inr (.inl rfl), Looks.of_pure rfl⟩) (evalArgs_list (es := [_]) (spliced_cons ?_))
  refine EvV.run (s := { s with heap := h₃, toks := t₃ }) (EvV.cur M₃.bs.K M₃.ps memH) R' M₃.F.live M₃.has fun h₄ t₄ g₄ => spliced_nil ⟨trivial, ?_⟩
  have M₄ := M₃.grow g₄
  refine len_acc (s := { s with heap := h₄, toks := t₄ }) (n := n + 2) M₄.gd R' M₄.ps hsh (by omega) fun t5 h₅ t₅ g₅ kp₅ ps₅ hg₅ => ?_
  have M₅ := M₄.upd kp₅ ps₅ rfl
  refine Ev.run (s := { s with heap := h₅, toks := t₅, gens := g₅ }) (Ev.maxlen M₅.bs.K M₅.ps memH) R' M₅.F.live M₅.has fun v₆ h₆ t₆ g₆ q₆ => ?_
  have M₆ := M₅.grow g₆
  refine Op2.gt_int A' _ _ _ { s with heap := h₆, toks := t₆, gens := g₅ } _ v₆ R' M₆.F.live (Grow.refl _) (.int _ _) q₆ fun r h₇ t₇ g₇ q₇ => ?_
  cases q₇
  refine wpAny_truthy_bool ?_
  have M₇ := M₆.grow g₇
  by_cases hfit : total pp ≤ mx
  · rw [decide_eq_false (by omega), if_neg (by decide)]
    refine wpAny_execs_nil ?_
    show wpAny _ _ (execs _ _) _ _ _
    refine wpAny_execs_nil ?_
    exact fit hfit h₇ t₇ g₅ M₇.kp M₇.ps fun G => hg₅ G
  rw [decide_eq_true (by omega), if_pos rfl]
  obtain ⟨j, hj1, hj2, hjb, hjs, hjl, hjc, hh⟩ := over (by omega)
  have hsk : ∀ {b : Addr}, True := fun {_} => trivial
  -- for ch in self._splitchars
  refine St.cons (St.forJ (s := { s with heap := h₇, toks := t₇, gens := g₅ }) (B := h₇) (G := [("self", .v (.ref q.pg))]) (n := n + 5) (Src.str (x := ", ") (by decide +kernel) (Ev.splitc M₇.bs.K M₇.ps memH)) R' M₇.F.live M₇.has
    (fun i h g => g = g₅ ∧ i ≤ 1 ∧ Mf P B q _ s.heap h _ [("self", .v (.ref q.pg))] mx lines pp) ⟨rfl, Nat.zero_le _, M₇⟩ (fun i h h' g W hj hW k => ⟨hj.1, hj.2.1, M₇.mv W hj.2.2 rfl hW k⟩)
    (fun i d v h₈ t₈ g₈ hd hj qv => ?_) (fun h' tk g hj => ?_))
  case refine_2 => rw [splits] at hj; exact absurd hj.2.1 (by decide)
  obtain ⟨rfl, hi, M₈⟩ := hj
  rw [splits] at hd
  rcases i with _ | i
  · -- the comma
    cases hd
    refine M₈.store (s := { s with heap := h₈, toks := t₈, gens := g₈ }) (t := .d (.str ⟨#[44]⟩)) rfl rfl qv fun h₉ t₉ M₉ sb₉ => ?_
    refine St.cons (St.forJ (s := { s with heap := h₉, toks := t₉, gens := g₈ }) (B := h₉) (G := [("ch", .d (.str ⟨#[44]⟩)), ("self", .v (.ref q.pg))]) (n := n + 5) (Src.range3 (a := (parts.length : Int)) (b := 0) (c := -1) (N := parts.length) (M₉.bs.bui (x := "range") (by rfl) (by rfl) (by decide)) (Ev.is (Ev.bin (Ev.partCount (n := n + 4) M₉.bs M₉.ps (EvV.cur M₉.bs.K M₉.ps (memT memH)) rfl rfl) (Ev.int (i := 1)) Op2.sub_int) (by rw [hpl]; congr 1; omega)) (Ev.int (i := 0)) (Ev.una (Ev.int (i := 1)) Op1.neg_int) (small_down (by omega)) rangeSize_down (by decide) (by decide)) R' M₉.F.live M₉.has
      (fun i h g => g = g₈ ∧ Mf P B q _ s.heap h _ [("ch", .d (.str ⟨#[44]⟩)), ("self", .v (.ref q.pg))] mx lines pp ∧ ∀ b o, ¬ (X b ∨ b = s.heap.objs.size) → h₈.get? b = some o → h.get? b = some o) ⟨rfl, M₉, ?_⟩ (fun i h h' g W hj hW k => ⟨hj.1, M₉.mv W hj.2.1 rfl hW k, fun b o hb e => k b o (fun z => ?_) (hj.2.2 b o hb e)⟩)
      (fun i d v ha ta ga hd hj qv => ?_) (fun h' tk g hj => ?_))
    case refine_1 =>
      intro b o hb e
      exact sb₉.extBut b o (fun z => hb (.inr z)) e
    case refine_2 =>
      have e' := sb₉.extBut b o (fun z' => hb (.inr z')) e
      have := (hW b z).2.1
      have e' : h₉.get? b = some o := e'
      rw [show (({ s with heap := h₉, toks := t₉, gens := g₈ } : Shared).heap) = h₉ from rfl] at this
      rw [this] at e'; cases e'
    case refine_3 =>
      obtain ⟨rfl, Ma, ka⟩ := hj
      obtain ⟨hi, rfl⟩ := range_down hd
      refine Ma.store (s := { s with heap := ha, toks := ta, gens := ga }) (t := .d (.int ((parts.length - i : Nat) : Int))) rfl rfl qv fun hb tb Mb sbb => ?_
      refine St.cons (wpAny_If (EvT.run (s := { s with heap := hb, toks := tb, gens := ga }) (EvT.is (d' := false) (EvT.plain (Ev.isspace (Ev.name (d := .str ⟨#[44]⟩) (memT memH))) Tru.bool) (by decide +kernel)) R' Mb.F.live Mb.has fun hc tc gc => ?_))
      rw [if_neg (by decide)]
      refine wpAny_execs_nil ?_
      show wpAny _ _ (execs _ _) _ _ _
      have Mc := Mb.grow gc
      obtain ⟨⟨f1, g1⟩, hp1⟩ : ∃ p, pp[parts.length - i - 1]? = some p := ⟨_, List.getElem?_eq_getElem (by omega)⟩
      refine St.cons (wpAny_Assign_Name (Ev.run (s := { s with heap := hc, toks := tc, gens := ga }) (d := .str g1) (Ev.partFld (k := parts.length - i - 1) (j := 1) (f := f1) (g := g1) Mc.bs.K Mc.ps (EvV.cur Mc.bs.K Mc.ps (memT (memT memH))) (Ev.is (Ev.bin (Ev.name (d := .int ((parts.length - i : Nat) : Int)) memH) (Ev.int (i := 1)) Op2.sub_int) (by congr 1; omega)) (Ev.int (i := 1)) hp1 (by omega) rfl) R' Mc.F.live Mc.has fun vd hd' td gd' qd => ?_) rfl)
      have Md := Mc.grow gd'
      refine Md.store (s := { s with heap := hd', toks := td, gens := ga }) (t := .d (.str g1)) rfl rfl qd fun he te Me sbe => ?_
      show wpAny _ _ (execs _ _) _ _ _
      have hsz : g1.length ≤ 1000 := by
        have h2 : g1.length ≤ 100 := (hsh _ (List.mem_of_getElem? hp1)).2
        omega
      refine St.cons (wpAny_If (EvT.run (s := { s with heap := he, toks := te, gens := ga }) (EvT.is (d' := false) (EvT.last (v := g1) (c := 44) hsz memH (memT (memT memH))) (hjc _ _ hp1)) R' Me.F.live Me.has fun hf tf' gf => ?_))
      rw [if_neg (by decide)]
      refine wpAny_execs_nil ?_
      show wpAny _ _ (execs _ _) _ _ _
      refine wpAny_execs_nil ?_
      have kk : ∀ b o, ¬ (X b ∨ b = s.heap.objs.size) → ha.get? b = some o → hf.get? b = some o := fun b o hb e => gf _ _ (sbe.extBut b o (fun z => hb (.inr z)) (gd' _ _ (gc _ _ (sbb.extBut b o (fun z => hb (.inr z)) e))))
      exact ⟨hf, tf', ga, rfl, ⟨rfl, (Me.grow gf).sub (subCons (memT (memT memH)) (subCons (memT (memT (memT memH))) subNil)), fun b o hb e => kk b o hb (ka b o hb e)⟩, kk⟩
    case refine_4 =>
      obtain ⟨rfl, Ma, ka⟩ := hj
      refine St.cons (wpAny_Continue ?_)
      exact ⟨h', tk, _, rfl, ⟨rfl, by omega, Ma.sub (subCons (memT memH) subNil)⟩, ka⟩
  · -- the blank
    cases i with
    | succ i => simp at hi
    | zero =>
    cases hd
    refine M₈.store (s := { s with heap := h₈, toks := t₈, gens := g₈ }) (t := .d (.str ⟨#[32]⟩)) rfl rfl qv fun h₉ t₉ M₉ sb₉ => ?_
    refine St.cons (St.forJ (s := { s with heap := h₉, toks := t₉, gens := g₈ }) (B := h₉) (G := [("ch", .d (.str ⟨#[32]⟩)), ("self", .v (.ref q.pg))]) (n := n + 5) (Src.range3 (a := (parts.length : Int)) (b := 0) (c := -1) (N := parts.length) (M₉.bs.bui (x := "range") (by rfl) (by rfl) (by decide)) (Ev.is (Ev.bin (Ev.partCount (n := n + 4) M₉.bs M₉.ps (EvV.cur M₉.bs.K M₉.ps (memT memH)) rfl rfl) (Ev.int (i := 1)) Op2.sub_int) (by rw [hpl]; congr 1; omega)) (Ev.int (i := 0)) (Ev.una (Ev.int (i := 1)) Op1.neg_int) (small_down (by omega)) rangeSize_down (by decide) (by decide)) R' M₉.F.live M₉.has
      (fun i h g => g = g₈ ∧ i ≤ parts.length - j ∧ Mf P B q _ s.heap h _ [("ch", .d (.str ⟨#[32]⟩)), ("self", .v (.ref q.pg))] mx lines pp) ⟨rfl, Nat.zero_le _, M₉⟩ (fun i h h' g W hj hW k => ⟨hj.1, hj.2.1, M₉.mv W hj.2.2 rfl hW k⟩)
      (fun i d v ha ta ga hd hj qv => ?_) (fun h' tk g hj => ?_))
    case refine_2 =>
      have := hj.2.1
      simp only [List.length_map, rangeL, List.length_range] at this
      omega
    obtain ⟨rfl, hij, Ma⟩ := hj
    obtain ⟨hi', rfl⟩ := range_down hd
    refine Ma.store (s := { s with heap := ha, toks := ta, gens := ga }) (t := .d (.int ((parts.length - i : Nat) : Int))) rfl rfl qv fun hb tb Mb sbb => ?_
    obtain ⟨⟨f0, g0⟩, hp0⟩ : ∃ p, pp[parts.length - i]? = some p := ⟨_, List.getElem?_eq_getElem (by omega)⟩
    have hs0 : f0.length ≤ 1000 := by
      have h2 : f0.length ≤ 100 := (hsh _ (List.mem_of_getElem? hp0)).1
      omega
    refine St.cons (wpAny_If (EvT.run (s := { s with heap := hb, toks := tb, gens := ga }) (EvT.is (d' := true) (EvT.plain (Ev.isspace (Ev.name (d := .str ⟨#[32]⟩) (memT memH))) Tru.bool) (by decide +kernel)) R' Mb.F.live Mb.has fun hc tc gc => ?_))
    rw [if_pos rfl]
    have Mc := Mb.grow gc
    refine St.cons (wpAny_Assign_Name (Ev.run (s := { s with heap := hc, toks := tc, gens := ga }) (d := .str f0) (Ev.partFld (k := parts.length - i) (j := 0) (f := f0) (g := g0) Mc.bs.K Mc.ps (EvV.cur Mc.bs.K Mc.ps (memT (memT memH))) (Ev.name (d := .int ((parts.length - i : Nat) : Int)) memH) (Ev.int (i := 0)) hp0 (by omega) rfl) R' Mc.F.live Mc.has fun vd hd' td gd' qd => ?_) rfl)
    have Md := Mc.grow gd'
    refine Md.store (s := { s with heap := hd', toks := td, gens := ga }) (t := .d (.str f0)) rfl rfl qd fun he te Me sbe => ?_
    show wpAny _ _ (execs _ _) _ _ _
    refine St.cons (wpAny_If (EvT.run (s := { s with heap := he, toks := te, gens := ga }) (EvT.first (v := f0) (c := 32) hs0 memH (memT (memT memH))) R' Me.F.live Me.has fun hf tf' gf => ?_))
    have Mg := (Me.grow gf).sub (G' := [("i", .d (.int ((parts.length - i : Nat) : Int))), ("ch", .d (.str ⟨#[32]⟩)), ("self", .v (.ref q.pg))]) (subCons (memT memH) (subCons (memT (memT memH)) (subCons (memT (memT (memT memH))) subNil)))
    by_cases hji : i = parts.length - j
    · -- found
      have e1 : parts.length - i = j := by omega
      rw [e1] at hp0 Mg
      rw [hjb _ hp0, if_pos rfl]
      refine St.cons (wpAny_Break ?_)
      refine St.cons (wpAny_Break ?_)
      show wpAny _ _ (execs _ _) _ _ _
      -- remainder = self._current_line.pop_from(i)
      refine St.cons (wpAny_Assign_Name (cur_meth (s := { s with heap := hf, toks := tf', gens := ga }) (f := 130) Mg R' (EvV.cur Mg.bs.K Mg.ps (memT (memT memH))) rfl rfl (fun t => rfl) rfl rfl fun h₁₁ t₁₁ g₁₁ M₁₁ => ?_) rfl)
      refine callWith_data (n := n + 5) (B := h₁₁) (first := [.ref q.ac]) (ds := [.int (j : Int)]) (Callable.fn (M₁₁.bs.K 130 _ rfl) rfl) (EvL.cons (Ev.name memH) EvL.nil) rfl R' M₁₁.F.live M₁₁.has fun us h₁₂ t₁₂ g₁₂ qs => ?_
      cases qs with
      | cons q1 qs =>
      cases qs
      cases q1
      have M₁₂ := M₁₁.grow g₁₂
      refine pop_from_call (s := { s with heap := h₁₂, toks := t₁₂, gens := ga }) (n := n + 4) M₁₂.gd R' M₁₂.ps (by omega) (by omega) fun l kl vl h₁₃ t₁₃ kp₁₃ ps₁₃ hlX hl₁₃ hp₁₃ => ?_
      have M₁₃ := M₁₂.upd kp₁₃ ps₁₃ rfl
      refine M₁₃.store (s := { s with heap := h₁₃, toks := t₁₃, gens := ga }) (t := .v (.ref l)) rfl rfl rfl fun h₁₄ t₁₄ M₁₄ sb₁₄ => ?_
      have sk₁₄ : SKeep (PX q) h₁₃ h₁₄ := fun a o hn e hso => by
        obtain ⟨m, hm⟩ := M₁₃.F.ns
        exact sb₁₄.extBut a o (fun z => ns_not_seq hm (z ▸ e) hso) e
      have hl₁₄ : h₁₄.get? l = some (listO vl kl) := sb₁₄.extBut _ _ (fun z => hlX (.inr z)) hl₁₃
      have hp₁₄ : PartsAt (PX q) h₁₄ vl (pp.drop j) := AllD.skeep hp₁₃ sk₁₄
      show wpAny _ _ (execs _ _) _ _ _
      -- self._lines.append(str(self._current_line))
      have hshT : Short (pp.take j) := fun p hp => hsh p (List.mem_of_mem_take hp)
      refine St.cons (wpAny_Expr (Call_method1 rfl rfl rfl ?_))
      refine EvV.run (s := { s with heap := h₁₄, toks := t₁₄, gens := ga }) (EvV.lns M₁₄.bs.K M₁₄.ps (memT (memT (memT memH)))) R' M₁₄.F.live M₁₄.has fun h₁₅ t₁₅ g₁₅ => ?_
      have M₁₅ := M₁₄.grow g₁₅
      obtain ⟨kln, vln, hlo, hls⟩ := M₁₅.ps.lns
      refine ⟨"list", "list.append", PySem.F.plainAttrs_list, PySem.F.slot_list_append, PySem.F.type_list_append, ⟨_, hlo, rfl⟩, fun a' e' => (by cases e'; exact ⟨_, hlo, rfl⟩), ?_⟩
      refine Calls.callWith_builtin (by rfl) ?_
      refine evalArgs_list (es := [_]) (spliced_cons (wpAny_Call_Name_kw ?_))
      refine globName (s := { s with heap := h₁₅, toks := t₁₅, gens := ga }) (gd.b.bui (x := "str") (by rfl) (by rfl) (by decide)) M₁₅.F.has (by rfl) (by decide) ?_
      refine callWith_of (P := fun _ => True) rfl (fun h _ => ⟨.machine, .inr (.inl rfl), Looks.of_pure rfl⟩) (evalArgs_list (es := [_]) (spliced_cons ?_))
      refine EvV.run (s := { s with heap := h₁₅, toks := t₁₅, gens := ga }) (EvV.cur M₁₅.bs.K M₁₅.ps (memT (memT (memT memH)))) R' M₁₅.F.live M₁₅.has fun h₁₆ t₁₆ g₁₆ => spliced_nil ⟨trivial, ?_⟩
      have M₁₆ := M₁₅.grow g₁₆
      refine str_acc (s := { s with heap := h₁₆, toks := t₁₆, gens := ga }) (n := n + 1) M₁₆.gd R' M₁₆.ps hshT (by simp; omega) fun t17 h₁₇ t₁₇ g₁₇ kp₁₇ ps₁₇ hg₁₇ => ?_
      have M₁₇ := M₁₆.upd kp₁₇ ps₁₇ rfl
      refine spliced_nil ?_
      obtain ⟨kl', vl', hlo', hls'⟩ := M₁₇.ps.lns
      have hll : vl'.length = lines.length := by have := AllD.length hls'; simpa using this
      have hpl' : h₁₇.PlainList q.ln vl'.toArray := ⟨kl', hlo'⟩
      refine wpAny_list_append_plain (s := { s with heap := h₁₇, toks := t₁₇, gens := g₁₇ }) (hsz := by rw [sizeLine_eq]; simp only [List.size_toArray]; omega) hpl' fun h₁₈ ⟨k₁₈, hlo₁₈⟩ sb₁₈ => ?_
      have kp₁₈ : Kp q h₁₇ h₁₈ := Kp.same_ln sb₁₈
      have sk₁₈ : SKeep (PX q) h₁₇ h₁₈ := fun a o hn e _ => kp₁₈ a o hn e
      have ps₁₈ : PS q h₁₈ mx (lines ++ [lineStr (pp.take j)]) (pp.take j) := ps₁₇.updL (fun b o hb e => sb₁₈.extBut b o hb e) (vs' := vl' ++ [_]) (k' := k₁₈) (by simpa using hlo₁₈) (by
        rw [List.map_append]
        exact (hls'.skeep sk₁₈).append (.cons (.str _ t17) .nil))
      have M₁₈ := M₁₇.upd kp₁₈ ps₁₈ rfl
      show wpAny _ _ (execs _ _) _ _ _
      have hlP : ¬ PX q l := fun z => hlX (.inl (gd.hX l z))
      have kp₁₄₈ : Kp q h₁₄ h₁₈ := fun b o hb e => kp₁₈ b o hb (kp₁₇ b o hb (g₁₆ _ _ (g₁₅ _ _ e)))
      have hl₁₈ := kp₁₄₈ _ _ hlP hl₁₄
      have hp₁₈ : PartsAt (PX q) h₁₈ vl (pp.drop j) := AllD.skeep hp₁₄ fun a o hn e _ => kp₁₄₈ a o hn e
      -- self._current_line.reset(remainder)
      refine St.cons (wpAny_Expr (cur_meth (s := { s with heap := h₁₈, toks := t₁₇, gens := g₁₇ }) (f := 160) M₁₈ R' (EvV.cur M₁₈.bs.K M₁₈.ps (memT (memT (memT memH)))) rfl rfl (fun t => rfl) rfl rfl fun h₁₉ t₁₉ g₁₉ M₁₉ => ?_))
      clear hd
      refine callWith_K (K := hd.heap_1 P) (h₀ := h₁₉) M₁₉.bs.K rfl ?_ rfl rfl
      refine spliced_cons (EvV.run (s := { s with heap := h₁₉, toks := t₁₉, gens := g₁₇ }) (EvV.name memH) R' M₁₉.F.live M₁₉.has fun h₂₀ t₂₀ g₂₀ => spliced_nil ⟨?_, ?_⟩)
      · exact (M₁₉.grow g₂₀).bs.K
      have M₂₀ := M₁₉.grow g₂₀
      have gg : Grow h₁₈ h₂₀ := Grow.trans g₁₉ g₂₀
      refine reset_call (s := { s with heap := h₂₀, toks := t₂₀, gens := g₁₇ }) (n := n + 4) M₂₀.gd R' M₂₀.ps (gg _ _ hl₁₈) hlX (AllD.grow hp₁₈ gg) (by simp; omega) (by simp; omega) fun h₂₁ t₂₁ kp₂₁ ps₂₁ => ?_
      have M₂₁ := M₂₀.upd kp₂₁ ps₂₁ rfl
      show wpAny _ _ (execs _ _) _ _ _
      refine wpAny_execs_nil ?_
      show wpAny _ _ (execs _ _) _ _ _
      refine wpAny_execs_nil ?_
      exact hh h₂₁ t₂₁ g₁₇ M₂₁.kp ps₂₁ fun G => hg₁₇ (hg₅ G)
    · rw [hjs _ _ (by omega) hp0, if_neg (by decide)]
      refine wpAny_execs_nil ?_
      show wpAny _ _ (execs _ _) _ _ _
      refine wpAny_execs_nil ?_
      show wpAny _ _ (execs _ _) _ _ _
      obtain ⟨⟨f1, g1⟩, hp1⟩ : ∃ p, pp[parts.length - i - 1]? = some p := ⟨_, List.getElem?_eq_getElem (by omega)⟩
      refine St.cons (wpAny_Assign_Name (Ev.run (s := { s with heap := hf, toks := tf', gens := ga }) (d := .str g1) (Ev.partFld (k := parts.length - i - 1) (j := 1) (f := f1) (g := g1) Mg.bs.K Mg.ps (EvV.cur Mg.bs.K Mg.ps (memT (memT memH))) (Ev.is (Ev.bin (Ev.name (d := .int ((parts.length - i : Nat) : Int)) memH) (Ev.int (i := 1)) Op2.sub_int) (by congr 1; omega)) (Ev.int (i := 1)) hp1 (by omega) rfl) R' Mg.F.live Mg.has fun vh hh' th gh qh => ?_) rfl)
      have Mh := Mg.grow gh
      refine Mh.store (s := { s with heap := hh', toks := th, gens := ga }) (t := .d (.str g1)) rfl rfl qh fun hi₁ ti Mi sbi => ?_
      show wpAny _ _ (execs _ _) _ _ _
      have hsz : g1.length ≤ 1000 := by
        have h2 : g1.length ≤ 100 := (hsh _ (List.mem_of_getElem? hp1)).2
        omega
      refine St.cons (wpAny_If (EvT.run (s := { s with heap := hi₁, toks := ti, gens := ga }) (EvT.is (d' := false) (EvT.last (v := g1) (c := 32) hsz memH (memT (memT memH))) (hjl _ _ (by omega) (by omega) hp1)) R' Mi.F.live Mi.has fun hk tk' gk => ?_))
      rw [if_neg (by decide)]
      refine wpAny_execs_nil ?_
      show wpAny _ _ (execs _ _) _ _ _
      refine wpAny_execs_nil ?_
      have kk : ∀ b o, ¬ (X b ∨ b = s.heap.objs.size) → ha.get? b = some o → hk.get? b = some o := fun b o hb e => gk _ _ (sbi.extBut b o (fun z => hb (.inr z)) (gh _ _ (gf _ _ (sbe.extBut b o (fun z => hb (.inr z)) (gd' _ _ (gc _ _ (sbb.extBut b o (fun z => hb (.inr z)) e)))))))
      exact ⟨hk, tk', ga, rfl, ⟨rfl, by omega, (Mi.grow gk).sub (subCons (memT (memT memH)) (subCons (memT (memT (memT memH))) subNil))⟩, kk⟩
end
end
-- MDK
section
open PySem.Builtin PySem.Builtin.ObjectAttr
section
variable {w : World} {A : Around} {E : Value → Shared → Prop} {s : Shared} {P : Params} {B : Heap} {n : Nat} {q : Pp} {mx : Int} {lines lines' : List Str} {parts parts' : List (Str × Str)} {X : Addr → Prop} {env : Env} {G : Ctxt} {H₀ H h h' : Heap}

theorem call_fnAtC {f : Addr} {fd : FuncData} {body : List Stmt} {xs : List Str} {vs us : List Value} {G₀ : Ctxt} {Q : Value → Shared → Prop} (W : Addr → Prop) (hlim : B.NoLimit) (hf : FnIs B f fd body) (gB : Grow B s.heap) (L : Live X s.heap) (R : Room (n + 1) A) (hnd : xs.Nodup) (hlen : xs.length = us.length)
    (hloc : ∀ x ∈ xs, fd.scope.names.lookup x = some .local) (hbind : BindsTo s fd ⟨vs, []⟩ (xs.zip us)) (hG : ∀ p ∈ G₀, ∃ v, (p.1, v) ∈ xs.zip us ∧ IsS X s.heap v p.2)
    (hb : ∀ (A' : Around) (h₀ : Heap) (tk : Nat), Room n A' → Grow s.heap h₀ → Fm B [(W, s.heap)] (fun b => X b ∨ b = s.heap.objs.size) h₀ (callEnv fd s.heap.objs.size f) G₀ →
      _root_.PySem.wpAt (model pr w) A' (.func body (callEnv fd s.heap.objs.size f)) (execs body (callEnv fd s.heap.objs.size f)) (fun fl s' => Q (match fl with | .ret v => v | _ => .none) s') (fun _ _ => False) { s with heap := h₀, toks := tk }) :
    codeAny (model pr w) A (.call (.ref f) ⟨vs, []⟩) (fun r s' => match r with | .ok (.ret v) => Q v s' | .ok _ => False | .error e => E e s') s := by
  obtain ⟨o, ho, hd⟩ := hf.ex
  have hdep : A.depth < recursionLimit := by
    have := R.2.1
    show _ < 1000
    omega
  refine (ks_codeAny_call_defAt (binds := xs.zip us) (body := body) hdep (gB _ _ ho) hd (hlim.keeps gB) (hf.code.keeps gB) hf.body_ hbind hf.nocell (fun x hx => hloc x.1 (List.of_mem_zip hx).1) (fun h₀ hns hk => ?_) hf.co hf.gen hf.kind)
  have F := Fm.startW (X := X) (G₀ := G₀) W hf gB L hnd hlen hloc hns hk hG
  exact ks_wpAt_mono (hb (A.deeper (callEnv fd s.heap.objs.size f)) h₀ _ ⟨R.1, by have := R.2.1; show A.depth + 1 + n ≤ _; omega, by have := R.2.2; show A.units + 3 + _ ≤ _; omega⟩ hk F) (fun _ _ hq => hq) fun _ _ e => e.elim


theorem emptyM (t : Tok) : (fun y => if y = Str.ofString "_initial_size" then some (Value.int 0 t) else (fun _ => none : Str → Option Value) y) = accM t := by
  funext y; unfold accM; rfl
theorem acc_init {x dx k : Nat} {t0 : Tok} {Q : Value → Shared → Prop} (bb : Bs P B) (gB : Grow B s.heap) (L : Live X s.heap) (hx : X x) (hdx : X dx) (hBx : B.get? x = none) (hBd : B.get? dx = none) (hne : x ≠ dx) (R : Room (n + 1) A)
    (I : In s.heap x dx 178 (accO dx [] k) 0 (fun _ => none))
    (hq : ∀ h' tk k' t, (∀ b o, b ≠ x → b ≠ dx → s.heap.get? b = some o → h'.get? b = some o) → In h' x dx 178 (accO dx [] k') 1 (accM t) → Q .none { s with heap := h', toks := tk }) :
    codeAny (model pr w) A (.call (.ref 115) ⟨[.ref x, .int 0 t0], []⟩) (fun r s' => match r with | .ok (.ret v) => Q v s' | .ok _ => False | .error e => E e s') s := by
  refine call_fnAtC (X := X) (n := n) (xs := ["self", "initial_size"]) (us := [.ref x, .int 0 t0]) (G₀ := [("self", .v (.ref x)), ("initial_size", .v (.int 0 t0))]) (fun b => b = x ∨ b = dx) bb.nolimit
    (bb.fnC (a := 115) rfl rfl rfl rfl rfl rfl rfl rfl rfl rfl) gB L R (by decide) rfl (by decide) (.of_defaults rfl (gB _ _ (bb.K _ _ rfl)) rfl rfl rfl) (fun p hp => ?_) fun A' h₀ tk R' g₀ F => ?_
  · rcases List.mem_cons.mp hp with rfl | hp
    · exact ⟨_, .head _, rfl⟩
    · rw [List.mem_singleton.mp hp]
      exact ⟨_, .tail _ (.head _), rfl⟩
  have I₀ := I.keeps (fun o => g₀ _ o) (fun o => g₀ _ o)
  refine ks_wpAt_execs_cons (ks_wpAt_Assign_Attr (wpAt_of_wpAny (EvV.run (s := { s with heap := h₀, toks := tk }) (EvV.name (memT memH)) R' F.live F.has.rebase fun h₁ t₁ g₁ => ?_)))
  have F₁ := F.grow g₁
  refine EvV.run (s := { s with heap := h₁, toks := t₁ }) (EvV.name memH) R' F₁.live F₁.has.rebase fun h₂ t₂ g₂ => ?_
  have F₂ := F₁.grow g₂
  have gg : Grow s.heap h₂ := Grow.trans g₀ (Grow.trans g₁ g₂)
  have I₂ := I.keeps (fun o => gg _ o) (fun o => gg _ o)
  have KX₂ : (hd.heap_1 P).In h₂ := bb.K.keeps (gB.trans gg)
  refine acc_setSize (s := { s with heap := h₂, toks := t₂ }) KX₂ I₂ (by omega) fun h₃ t₃ k₃ D₃ => ?_
  have D₃ : DictIs h₃ dx 1 (accM t0) := by
    have := D₃
    rw [emptyM] at this
    exact this
  have nLx : x ≠ s.heap.objs.size := fun z => by have := I.at_; rw [z, get_size_none s.heap (Nat.le_refl _)] at this; cases this
  have nLd : dx ≠ s.heap.objs.size := fun z => by obtain ⟨es, nn, e, _⟩ := I.ns; rw [z, get_size_none s.heap (Nat.le_refl _)] at e; cases e
  have F₃ := F₂.moveX (fun b => b = dx) (fun b o hb e => k₃ b o hb e) (fun b hb => hb ▸ .inl hdx) (fun b hb => by obtain ⟨es, nn, e, _⟩ := D₃; exact ⟨_, hb ▸ e⟩) (fun b hb => hb ▸ hBd)
    (fun b hb p hp => by rw [List.mem_singleton.mp hp]; exact .inl (.inr hb)) (fun z => nLd z.symm) (fun y c hc z => by
      have hc' : List.lookup y [(Str.ofString "__class__", 102)] = some c := hc
      have e := bb.K 102 _ rfl
      rw [List.lookup] at hc'
      split at hc'
      · cases hc'; rw [z, hBd] at e; cases e
      · cases hc') rfl
  have I₃ : In h₃ x dx 178 (accO dx [] k) 1 (accM t0) := ⟨k₃ _ _ hne I₂.at_, I₂.cls, I₂.no, I₂.dict, D₃⟩
  have K₃ : ∀ b o, b ≠ x → b ≠ dx → s.heap.get? b = some o → h₃.get? b = some o := fun b o h1 h2 e => k₃ b o h2 (gg _ _ e)
  have gB₃ : Grow B h₃ := fun b o e => K₃ b o (fun z => by rw [z, hBx] at e; cases e) (fun z => by rw [z, hBd] at e; cases e) (gB _ _ e)
  have h178 : x ≠ 178 := fun z => by have := bb.K 178 _ rfl; rw [← z, hBx] at this; cases this
  refine ks_wpAt_execs_cons (ks_wpAt_Expr_any ?_)
  refine super_call (s := { s with heap := h₃, toks := t₃ }) (ac := x) bb gB₃ R' F₃.live F₃.has memH rfl I₃ h178 rfl rfl rfl (bb.K 115 _ rfl) rfl rfl rfl (bb.K 114 _ rfl) rfl rfl rfl rfl ty_init slot_wd_get.lookup (fun X' I' hq => get_init X' I' hq) (.inl rfl) PySem.F.slot_list_init.plain PySem.F.entry_list_init
    (fun X' I' => bound_init) (fun h₄ t₄ A'' g₄ => ?_) rfl
  have I₄ := I₃.keeps (fun o => g₄ _ o) (fun o => g₄ _ o)
  refine acc_init_b (s := { s with heap := h₄, toks := t₄ }) I₄ fun h₅ k₅ sb₅ e₅ => ?_
  refine wpAt_of_wpAny (wpAny_execs_nil ?_)
  exact hq h₅ t₄ k₅ t0 (fun b o h1 h2 e => sb₅.extBut b o h1 (g₄ _ _ (K₃ b o h1 h2 e))) ⟨e₅, rfl, rfl, rfl, I₄.ns.grow fun o e => sb₅.extBut _ _ (Ne.symm hne) e⟩
end
end
-- MDL
section
open PySem.Builtin PySem.Builtin.ObjectAttr
section
variable {w : World} {A : Around} {E : Value → Shared → Prop} {s : Shared} {P : Params} {B : Heap} {n : Nat} {q : Pp} {mx : Int} {lines lines' : List Str} {parts parts' : List (Str × Str)} {X : Addr → Prop} {env : Env} {G : Ctxt} {H₀ H h h' : Heap}

theorem tc_weight {C : Addr} {l : List Value} {kw : List (Str × Value)} : (Code.builtin "type.__call__" ⟨.ref C :: l, kw⟩).weight = 1 := by
  show 0 + 1 + (if guardIds.contains "type.__call__" then 1 else 0) + 0 = 1
  rw [if_neg (by decide +kernel)]
theorem tc_units {C : Addr} {l : List Value} {kw : List (Str × Value)} : (Code.builtin "type.__call__" ⟨.ref C :: l, kw⟩).cUnits = 1 := rfl
theorem Room.tc {C : Addr} {l : List Value} {kw : List (Str × Value)} (R : Room (n + 1) A) : Room n (A.under (.builtin "type.__call__" ⟨.ref C :: l, kw⟩)) :=
  ⟨R.1, by have := R.2.1; show A.depth + Code.weight _ + n ≤ 900; rw [tc_weight]; omega, by have := R.2.2; show A.units + Code.cUnits _ + 100 * n ≤ 9000; rw [tc_units]; omega⟩

theorem mk_acc {t0 : Tok} {Q : Value → Shared → Prop} (bb : Bs P B) (gB : Grow B s.heap) (R : Room (n + 2) A)
    (hq : ∀ ac acD h' tk k t, Grow s.heap h' → s.heap.get? ac = none → s.heap.get? acD = none → ac ≠ acD → In h' ac acD 178 (accO acD [] k) 1 (accM t) → Q (.ref ac) { s with heap := h', toks := tk }) :
    wpAny (model pr w) A (call (.ref 178) [.int 0 t0] []) Q E s := by
  obtain ⟨hp, g, d, t, os⟩ := s
  have KX : (hd.heap_1 P).In hp := bb.K.keeps gB
  refine wpAny_call (make_acc KX ?_)
  have n1 : hp.get? hp.objs.size = none := get_size_none hp (Nat.le_refl _)
  have n2 : hp.get? (hp.objs.size + 1) = none := get_size_none hp (Nat.le_succ _)
  have e1 : ((hp.push emptyDict).push (accO hp.objs.size [] 0)).get? hp.objs.size = some emptyDict := Heap.get?_push_of_some _ (Heap.get?_push_size _ rfl)
  have e2 : ((hp.push emptyDict).push (accO hp.objs.size [] 0)).get? (hp.objs.size + 1) = some (accO hp.objs.size [] 0) := by
    have := Heap.get?_push_size (hp.push emptyDict) (o := accO hp.objs.size [] 0) rfl
    rwa [Heap.size_push] at this
  have gg : Grow hp ((hp.push emptyDict).push (accO hp.objs.size [] 0)) := (Grow.push _ _).trans (Grow.push _ _)
  have nB : ∀ a, hp.get? a = none → B.get? a = none := fun a ha => by
    cases e : B.get? a with
    | none => rfl
    | some o => have := gB a o e; rw [show ((⟨hp, g, d, t, os⟩ : Shared).heap) = hp from rfl, ha] at this; cases this
  refine codeAny_mono (acc_init (s := ⟨(hp.push emptyDict).push (accO hp.objs.size [] 0), g, d, t, os⟩) (E := fun _ _ => False) (n := n) (X := fun b => b = hp.objs.size ∨ b = hp.objs.size + 1) (Q := fun v s' => v = .none ∧ Q (.ref (hp.objs.size + 1)) s') bb (gB.trans gg) (fun a ha => ?_) (.inr rfl) (.inl rfl) (nB _ n2) (nB _ n1) (by omega) R.tc ⟨e2, rfl, rfl, rfl, ?_⟩ fun h' tk k' t' kk I => ⟨rfl, ?_⟩) fun r s' z => ?_
  · rcases ha with rfl | rfl
    · exact ⟨_, e1⟩
    · exact ⟨_, e2⟩
  · exact ⟨[], 0, e1, Nat.zero_le _, rfl, fun _ => rfl⟩
  · refine hq _ _ h' tk k' t' (fun b o e => kk b o (fun z => ?_) (fun z => ?_) (gg b o e)) n2 n1 (Nat.succ_ne_self _) I
    · rw [z, n2] at e; cases e
    · rw [z, n1] at e; cases e
  · rcases r with e | (v | _ | _ | _)
    · exact z.elim
    all_goals first | exact z | exact z.elim
end
end
-- MDM
section
open PySem.Builtin PySem.Builtin.ObjectAttr
section
variable {w : World} {A : Around} {E : Value → Shared → Prop} {s : Shared} {P : Params} {B : Heap} {n : Nat} {q : Pp} {mx : Int} {lines lines' : List Str} {parts parts' : List (Str × Str)} {X : Addr → Prop} {env : Env} {G : Ctxt} {H₀ H h h' : Heap}

theorem pg_setattr : findIn (hd.heap_1 P) (.ref 94) "__setattr__" = some (some (.builtin "object.__setattr__")) := rfl
theorem pg_cls : ∃ cd, clsIn (hd.heap_1 P) 94 = some cd ∧ cd.mro = [.ref 94, .type "object"] ∧ cd.hasDict = true := ⟨_, rfl, rfl, rfl⟩
theorem pg_refuse (x : Addr) : refuseLoop (.ref x) "__setattr__" [.ref 94, .type "object"] = pure () := rfl
theorem page_setattr {x dx c : Nat} {m : Str → Option Value} {name : Str} {v : Value} {Q : Unit → Shared → Prop} (KX : (hd.heap_1 P).In s.heap) (I : In s.heap x dx 94 (instObj 94 dx) c m) (hc : c ≤ 500) (ht : takerIn (hd.heap_1 P) 94 name = some none)
    (hh : ∀ h' tk, (∀ b o, b ≠ dx → s.heap.get? b = some o → h'.get? b = some o) → DictIs h' dx (if (m name).isSome then c else c + 1) (fun y => if y = name then some v else m y) → Q () { s with heap := h', toks := tk }) :
    wpAny (model pr w) A (setAttr (.ref x) name v) Q E s := by
  obtain ⟨cd, h1, h2, h3⟩ := pg_cls (P := P)
  exact set_attr (cd := cd) KX I h1 (by rw [h2]; exact pg_refuse x) (by unfold mroIn; rw [h1, Option.bind_some, h2]; rfl) ht h3 pg_setattr hh hc

theorem page_set {x dx c : Nat} {m : Str → Option Value} {attr : Str} {e : Expr} {p1 p2 pos : Pos} {rest : List Stmt} {V : Value → Heap → Prop} {Q : Flow → Shared → Prop} (bb : Bs P B) (R : Room n A) (F : Fm B [(fun b => b = dx, H₀)] X s.heap env G) (I : In s.heap x dx 94 (instObj 94 dx) c m) (hdx : X dx) (hBd : B.get? dx = none)
    (nL : ¬ env.locals = dx) (nC : ∀ y a, env.cells.lookup y = some a → ¬ a = dx) (hM : noM G = true) (hs : (Str.ofString "self", Slot.v (.ref x)) ∈ G) (ht : takerIn (hd.heap_1 P) 94 attr = some none) (hc : c ≤ 500)
    (he : wpAny (model pr w) A (eval e env) (fun v s' => ∃ h' tk, s' = { s with heap := h', toks := tk } ∧ Grow s.heap h' ∧ V v h') E s)
    (k : ∀ v h₁ h' tk, Grow s.heap h₁ → V v h₁ → (∀ b o, b ≠ dx → h₁.get? b = some o → h'.get? b = some o) → Fm B [(fun b => b = dx, H₀)] X h' env G → In h' x dx 94 (instObj 94 dx) (if (m attr).isSome then c else c + 1) (fun y => if y = attr then some v else m y) →
      wpAny (model pr w) A (execs rest env) Q E { s with heap := h', toks := tk })
    (hsw : swapsWith e (some (.Attribute (.Name (Str.ofString "self") p1) attr p2)) pos.line env = pure false := by rfl) :
    wpAny (model pr w) A (execs (.Assign [.Attribute (.Name (Str.ofString "self") p1) attr p2] e pos :: rest) env) Q E s := by
  refine St.cons (plainObj_wpAny_Assign_Attribute (wpAny_mono he (fun v s₁ z => ?_) fun _ _ x => x) hsw)
  obtain ⟨h₁, t₁, rfl, g₁, hv⟩ := z
  have F₁ := F.grow g₁
  refine EvV.run (s := { s with heap := h₁, toks := t₁ }) (EvV.name hs) R F₁.live F₁.has.rebase fun h₂ t₂ g₂ => ?_
  have F₂ := F₁.grow g₂
  have gg : Grow s.heap h₂ := Grow.trans g₁ g₂
  have I₂ := I.keeps (fun o => gg _ o) (fun o => gg _ o)
  refine page_setattr (s := { s with heap := h₂, toks := t₂ }) (bb.K.keeps F₂.has.keep) I₂ hc ht fun h₃ t₃ k₃ D₃ => ?_
  have nx : x ≠ dx := fun z => by
    obtain ⟨es, nn, e, _⟩ := I.ns
    have := I.at_; rw [z, e] at this; cases this
  have F₃ := F₂.moveX (fun b => b = dx) (fun b o hb e => k₃ b o hb e) (fun b hb => hb ▸ hdx) (fun b hb => by obtain ⟨es, nn, e, _⟩ := D₃; exact ⟨_, hb ▸ e⟩) (fun b hb => hb ▸ hBd)
    (fun b hb p hp => by rw [List.mem_singleton.mp hp]; exact .inl hb) nL nC hM
  exact k v h₁ h₃ t₃ g₁ hv (fun b o hb e => k₃ b o hb (g₂ _ _ e)) F₃ ⟨k₃ _ _ nx I₂.at_, rfl, I₂.no, rfl, D₃⟩
end
end
-- MDN
section
open PySem.Builtin PySem.Builtin.ObjectAttr
section
variable {w : World} {A : Around} {E : Value → Shared → Prop} {s : Shared} {P : Params} {B : Heap} {n : Nat} {q : Pp} {mx : Int} {lines lines' : List Str} {parts parts' : List (Str × Str)} {X : Addr → Prop} {env : Env} {G : Ctxt} {H₀ H h h' : Heap}

theorem EvV.he {e : Expr} {v : Value} (he : EvV pr w B n env G e v) (R : Room n A) (L : Live X s.heap) (H : Has B X s.heap env G) :
    wpAny (model pr w) A (eval e env) (fun v' s' => ∃ h' tk, s' = { s with heap := h', toks := tk } ∧ Grow s.heap h' ∧ v' = v) E s := he.run R L H fun h' tk g => ⟨h', tk, rfl, g, rfl⟩

theorem page_init {x dx : Nat} {t0 t1 t2 t3 : Tok} {Q : Value → Shared → Prop} (bb : Bs P B) (gB : Grow B s.heap) (L : Live X s.heap) (hdx : X dx) (hBd : B.get? dx = none) (R : Room (n + 3) A)
    (I : In s.heap x dx 94 (instObj 94 dx) 0 (fun _ => none))
    (hq : ∀ h' tk ln ac acD k0 k t c m, (∀ b o, b ≠ dx → s.heap.get? b = some o → h'.get? b = some o) → s.heap.get? ln = none → s.heap.get? ac = none → s.heap.get? acD = none → [ac, acD, ln].Nodup → In h' x dx 94 (instObj 94 dx) c m → PM ⟨x, dx, ac, acD, ln⟩ mx m →
      In h' ac acD 178 (accO acD [] k) 1 (accM t) → h'.get? ln = some (listO [] k0) → Q .none { s with heap := h', toks := tk }) :
    codeAny (model pr w) A (.call (.ref 35) ⟨[.ref x, .int 0 t0, .int mx t1, .str " " t2, .str ", " t3], []⟩) (fun r s' => match r with | .ok (.ret v) => Q v s' | .ok _ => False | .error e => E e s') s := by
  refine call_fnC (prog := pr) (X := X) (n := n + 2) (xs := ["self", "headerlen", "maxlen", "continuation_ws", "splitchars"]) (us := [.ref x, .int 0 t0, .int mx t1, .str " " t2, .str ", " t3]) (G₀ := [("self", .v (.ref x)), ("headerlen", .v (.int 0 t0)), ("maxlen", .v (.int mx t1)), ("continuation_ws", .v (.str " " t2)), ("splitchars", .v (.str ", " t3))]) (fun b => b = dx) bb.nolimit
    (bb.fn (a := 35) rfl rfl rfl rfl rfl rfl rfl rfl rfl rfl) gB L R (by decide) rfl (by decide) (.of_eq rfl) (fun p hp => ?_) fun A' h₀ tk R' g₀ F => ?_
  · rcases List.mem_cons.mp hp with rfl | hp
    · exact ⟨_, .head _, rfl⟩
    rcases List.mem_cons.mp hp with rfl | hp
    · exact ⟨_, .tail _ (.head _), rfl⟩
    rcases List.mem_cons.mp hp with rfl | hp
    · exact ⟨_, .tail _ (.tail _ (.head _)), rfl⟩
    rcases List.mem_cons.mp hp with rfl | hp
    · exact ⟨_, .tail _ (.tail _ (.tail _ (.head _))), rfl⟩
    rw [List.mem_singleton.mp hp]
    exact ⟨_, .tail _ (.tail _ (.tail _ (.tail _ (.head _)))), rfl⟩
  have I₀ := I.keeps (fun o => g₀ _ o) (fun o => g₀ _ o)
  have nL : ¬ s.heap.objs.size = dx := fun z => by obtain ⟨es, nn, e, _⟩ := I.ns; rw [← z, get_size_none s.heap (Nat.le_refl _)] at e; cases e
  have nC : ∀ y a, ([] : List (Str × Addr)).lookup y = some a → ¬ a = dx := fun y a h => by cases h
  have lift : ∀ {ha hb : Heap}, (∀ b o, b ≠ dx → s.heap.get? b = some o → ha.get? b = some o) → (∀ b o, b ≠ dx → ha.get? b = some o → hb.get? b = some o) → ∀ b o, b ≠ dx → s.heap.get? b = some o → hb.get? b = some o := fun f g b o hb e => g b o hb (f b o hb e)
  have K₀ : ∀ b o, b ≠ dx → s.heap.get? b = some o → h₀.get? b = some o := fun b o _ e => g₀ b o e
  refine page_set (s := { s with heap := h₀, toks := tk }) (V := fun v _ => v = .int mx t1) bb R' F I₀ (.inl hdx) hBd nL nC rfl memH rfl (by omega) ((EvV.name (memT (memT memH))).he R' F.live F.has.rebase) fun v ha h₁ t₁ ga hv k₁ F₁ I₁ => ?_
  cases hv
  have K₁ := lift K₀ (fun b o hb e => k₁ b o hb (ga _ _ e))
  refine page_set (s := { s with heap := h₁, toks := t₁ }) (V := fun v _ => v = .str " " t2) bb R' F₁ I₁ (.inl hdx) hBd nL nC rfl memH rfl (by show 1 ≤ 500; omega) ((EvV.name (memT (memT (memT memH)))).he R' F₁.live F₁.has.rebase) fun v ha h₂ t₂ ga hv k₂ F₂ I₂ => ?_
  cases hv
  have K₂ := lift K₁ (fun b o hb e => k₂ b o hb (ga _ _ e))
  refine page_set (s := { s with heap := h₂, toks := t₂ }) (V := fun _ _ => True) bb R' F₂ I₂ (.inl hdx) hBd nL nC rfl memH rfl (by show 2 ≤ 500; omega) (Ev.run (s := { s with heap := h₂, toks := t₂ }) (Ev.call (fv := .builtin "len") (ds := [.str " "]) (bb.bui (by rfl) (by rfl) (by decide)) Callable.builtin (EvL.cons (Ev.ofV (EvV.name (memT (memT (memT memH)))) (fun _ _ => .str _ _)) EvL.nil) (CallD.len_str (Nat.le_of_ble_eq_true rfl))) R' F₂.live F₂.has fun v h' tk g _ => ⟨h', tk, rfl, g, trivial⟩) fun v ha h₃ t₃' ga hv k₃ F₃ I₃ => ?_
  have K₃ := lift K₂ (fun b o hb e => k₃ b o hb (ga _ _ e))
  refine page_set (s := { s with heap := h₃, toks := t₃' }) (V := fun v _ => v = .str ", " t3) bb R' F₃ I₃ (.inl hdx) hBd nL nC rfl memH rfl (by show 3 ≤ 500; omega) ((EvV.name (memT (memT (memT (memT memH))))).he R' F₃.live F₃.has.rebase) fun v ha h₄ t₄ ga hv k₄ F₄ I₄ => ?_
  cases hv
  have K₄ := lift K₃ (fun b o hb e => k₄ b o hb (ga _ _ e))
  refine page_set (s := { s with heap := h₄, toks := t₄ }) (V := fun v k => ∃ ln, v = .ref ln ∧ h₄.get? ln = none ∧ k.get? ln = some (listO [] 0)) bb R' F₄ I₄ (.inl hdx) hBd nL nC rfl memH rfl (by show 4 ≤ 500; omega) (List_ (spliced_nil (wpAny_newObj_type ⟨_, _, rfl, Grow.push _ _, _, rfl, get_size_none h₄ (Nat.le_refl _), Heap.get?_push_size _ rfl⟩ (Nat.zero_le _)))) fun v ha h₅ t₅ ga hv k₅ F₅ I₅ => ?_
  obtain ⟨ln, rfl, n4, e5⟩ := hv
  have nd : ∀ a, h₄.get? a = none → a ≠ dx := fun a ha z => by
    obtain ⟨es, nn, e, _⟩ := I₄.ns
    rw [z, e] at ha; cases ha
  have e5 := k₅ _ _ (nd _ n4) e5
  have K₅ := lift K₄ (fun b o hb e => k₅ b o hb (ga _ _ e))
  refine page_set (s := { s with heap := h₅, toks := t₅ }) (V := fun v k => ∃ ac acD k0 t, v = .ref ac ∧ h₅.get? ac = none ∧ h₅.get? acD = none ∧ ac ≠ acD ∧ In k ac acD 178 (accO acD [] k0) 1 (accM t)) bb R' F₅ I₅ (.inl hdx) hBd nL nC rfl memH rfl (by show 5 ≤ 500; omega) (wpAny_Call_Name_kw (globName (s := { s with heap := h₅, toks := t₅ }) (bb.own (x := "_Accumulator") (v := .ref 178) (by rfl)) F₅.has (by rfl) (by decide) ?_)) fun v ha h₆ t₆ ga hv k₆ F₆ I₆ => ?_
  · refine callWith_K (K := hd.heap_1 P) (h₀ := h₅) (bb.K.keeps F₅.has.keep) rfl ?_ rfl rfl
    refine spliced_cons (EvV.run (s := { s with heap := h₅, toks := t₅ }) (EvV.name (memT memH)) R' F₅.live F₅.has.rebase fun h' tk' g' => spliced_nil ⟨bb.K.keeps (F₅.has.keep.trans g'), ?_⟩)
    refine mk_acc (s := { s with heap := h', toks := tk' }) (n := n) bb (F₅.has.keep.trans g') R' fun ac acD h'' tk'' k t g'' n1 n2 hne I => ⟨h'', tk'', rfl, Grow.trans g' g'', ac, acD, k, t, rfl, ?_, ?_, hne, I⟩
    · cases e : h₅.get? ac with
      | none => rfl
      | some o => have := g' _ _ e; rw [show (({ s with heap := h', toks := tk' } : Shared).heap) = h' from rfl] at n1; rw [n1] at this; cases this
    · cases e : h₅.get? acD with
      | none => rfl
      | some o => have := g' _ _ e; rw [show (({ s with heap := h', toks := tk' } : Shared).heap) = h' from rfl] at n2; rw [n2] at this; cases this
  obtain ⟨ac, acD, k0, t, rfl, n1, n2, hne, Ia⟩ := hv
  have nd5 : ∀ a, h₅.get? a = none → a ≠ dx := fun a ha z => by
    obtain ⟨es, nn, e, _⟩ := I₅.ns
    rw [z, e] at ha; cases ha
  have K₆ := lift K₅ (fun b o hb e => k₆ b o hb (ga _ _ e))
  have e6 := k₆ _ _ (nd _ n4) (ga _ _ e5)
  have sn : ∀ {k : Heap} {a}, (∀ b o, b ≠ dx → s.heap.get? b = some o → k.get? b = some o) → k.get? a = none → a ≠ dx → s.heap.get? a = none := fun {k a} hk hn hd' => by
    cases e : s.heap.get? a with
    | none => rfl
    | some o => rw [hk a o hd' e] at hn; cases hn
  refine wpAny_execs_nil ?_
  refine hq h₆ t₆ ln ac acD 0 k0 t _ _ K₆ (sn K₄ n4 (nd _ n4)) (sn K₅ n1 (nd5 _ n1)) (sn K₅ n2 (nd5 _ n2)) ?_ I₆ ?_ (Ia.keeps (fun o => k₆ _ o (nd5 _ n1)) (fun o => k₆ _ o (nd5 _ n2))) e6
  · have a1 : ac ≠ ln := fun z => by rw [z] at n1; rw [n1] at e5; cases e5
    have a2 : acD ≠ ln := fun z => by rw [z] at n2; rw [n2] at e5; cases e5
    simp [hne, a1, a2]
  · exact ⟨⟨t1, rfl⟩, ⟨t3, rfl⟩, rfl, rfl, rfl, rfl, rfl⟩
end
end
-- MDO
section
open PySem.Builtin PySem.Builtin.ObjectAttr
section
variable {w : World} {A : Around} {E : Value → Shared → Prop} {s : Shared} {P : Params} {B : Heap} {n : Nat} {q : Pp} {mx : Int} {lines lines' : List Str} {parts parts' : List (Str × Str)} {X : Addr → Prop} {env : Env} {G : Ctxt} {H₀ H h h' : Heap}

theorem mk_page {t0 t1 t2 t3 : Tok} {tab1 tab2 : Array Value} {Q : Value → Shared → Prop} (bb : Bs P B) (gB : Grow B s.heap) (R : Room (n + 5) A) (hT1 : CodeT s.heap 144 140 tab1) (hT2 : CodeT s.heap 151 147 tab2)
    (hq : ∀ q h' tk, Grow s.heap h' → (∀ a, PX q a → s.heap.get? a = none ∨ a = 140 ∨ a = 147) → s.heap.get? q.pg = none → PS q h' mx [] [] → Q (.ref q.pg) { s with heap := h', toks := tk }) :
    wpAny (model pr w) A (call (.ref 94) [.int 0 t0, .int mx t1, .str " " t2, .str ", " t3] []) Q E s := by
  obtain ⟨hp, g, d, t, os⟩ := s
  dsimp only at hT1 hT2 hq
  have KX : (hd.heap_1 P).In hp := bb.K.keeps gB
  refine wpAny_call (make_core (makes_of KX (by rfl)) (looks_findIn KX (r := some (.ref 35)) (by rfl)) (fun self => bind_fn KX self rfl) (.inl rfl) ?_)
  have n1 : hp.get? hp.objs.size = none := get_size_none hp (Nat.le_refl _)
  have n2 : hp.get? (hp.objs.size + 1) = none := get_size_none hp (Nat.le_succ _)
  have e1 : ((hp.push emptyDict).push (instObj 94 hp.objs.size)).get? hp.objs.size = some emptyDict := Heap.get?_push_of_some _ (Heap.get?_push_size _ rfl)
  have e2 : ((hp.push emptyDict).push (instObj 94 hp.objs.size)).get? (hp.objs.size + 1) = some (instObj 94 hp.objs.size) := by
    have := Heap.get?_push_size (hp.push emptyDict) (o := instObj 94 hp.objs.size) rfl
    rwa [Heap.size_push] at this
  have gg : Grow hp ((hp.push emptyDict).push (instObj 94 hp.objs.size)) := (Grow.push _ _).trans (Grow.push _ _)
  have nB : B.get? hp.objs.size = none := by
    cases e : B.get? hp.objs.size with
    | none => rfl
    | some o => have := gB _ o e; rw [show ((⟨hp, g, d, t, os⟩ : Shared).heap) = hp from rfl, n1] at this; cases this
  have back : ∀ {a}, ((hp.push emptyDict).push (instObj 94 hp.objs.size)).get? a = none → hp.get? a = none := fun {a} ha => by
    cases e : hp.get? a with
    | none => rfl
    | some o => rw [gg _ _ e] at ha; cases ha
  refine codeAny_mono (page_init (s := ⟨(hp.push emptyDict).push (instObj 94 hp.objs.size), g, d, t, os⟩) (E := fun _ _ => False) (n := n + 1) (X := fun b => b = hp.objs.size) (mx := mx) (Q := fun v s' => v = .none ∧ Q (.ref (hp.objs.size + 1)) s') bb (gB.trans gg) (fun a ha => ?_) rfl nB R.tc ⟨e2, rfl, rfl, rfl, ?_⟩ fun h' tk ln ac acD k0 k t' c m kk nl na nad hnd I pm Ia hln => ⟨rfl, ?_⟩) fun r s' z => ?_
  · exact ⟨_, by rw [show a = hp.objs.size from ha]; exact e1⟩
  · exact ⟨[], 0, e1, Nat.zero_le _, rfl, fun _ => rfl⟩
  · have gk : Grow hp h' := fun b o e => kk b o (fun z => by rw [z, n1] at e; cases e) (gg b o e)
    have nl' := back nl
    have na' := back na
    have nad' := back nad
    have ck : ∀ {c T tab}, CodeT hp c T tab → CodeT h' c T tab := fun {c T tab} hT => code_keep hT (fun o e => gk _ _ e) (fun o e => gk _ _ e)
    have l1 : ∃ o, hp.get? 140 = some o := by
      obtain ⟨o1, vs1, file, tf, flags, tg, inF, text, tt, op, ho, hd2, h11, h2, h7, h9, h10, hop, _⟩ := hT1.1
      exact ⟨_, hop⟩
    have l2 : ∃ o, hp.get? 147 = some o := by
      obtain ⟨o1, vs1, file, tf, flags, tg, inF, text, tt, op, ho, hd2, h11, h2, h7, h9, h10, hop, _⟩ := hT2.1
      exact ⟨_, hop⟩
    have ne1 : ∀ a, hp.get? a = none → a ≠ 140 ∧ a ≠ 147 := fun a ha => ⟨fun z => (by obtain ⟨o, e⟩ := l1; rw [← z, ha] at e; cases e), fun z => by obtain ⟨o, e⟩ := l2; rw [← z, ha] at e; cases e⟩
    have pd : ∀ a, ((hp.push emptyDict).push (instObj 94 hp.objs.size)).get? a = none → a ≠ hp.objs.size := fun a ha z => by rw [z, e1] at ha; cases ha
    refine hq ⟨hp.objs.size + 1, hp.objs.size, ac, acD, ln⟩ h' tk gk (fun a ha => ?_) n2 ⟨⟨c, m, I, pm⟩, ⟨k, 1, t', [], Ia, by omega, .nil⟩, ⟨k0, [], hln, .nil⟩, ⟨_, ck hT1⟩, ⟨_, ck hT2⟩, ?_⟩
    · rcases ha with rfl | rfl | rfl | rfl | ha | ha
      · exact .inl na'
      · exact .inl nad'
      · exact .inl n1
      · exact .inl nl'
      · exact .inr (.inl ha)
      · exact .inr (.inr ha)
    · unfold Apart
      simp only [List.nodup_cons, List.mem_cons, List.not_mem_nil, or_false, not_or, not_false_eq_true, and_true, List.nodup_nil] at hnd ⊢
      refine ⟨⟨hnd.1.1, pd _ na, hnd.1.2, ne1 _ na'⟩, ⟨pd _ nad, hnd.2, ne1 _ nad'⟩, ⟨Ne.symm (pd _ nl), ne1 _ n1⟩, ne1 _ nl', by decide⟩
  · rcases r with e | (v | _ | _ | _)
    · exact z.elim
    all_goals first | exact z | exact z.elim
end
end
-- ME1
section
noncomputable def tabO : Obj := { cls := .none, data := .fields #[] }
noncomputable def K2 (P : Params) : Frag := (140, tabO) :: (147, tabO) :: hd.heap_1 P
noncomputable def Hid (h : Heap) : Heap := hideAll h [140, 147]
section
variable {B : Heap} {Hs : Snaps} {X : Addr → Prop} {h h' : Heap} {env : Env} {G : Ctxt} {P : Params} {p : Program} {loose : List Str} {mean : ExcName → Option Value} {mg mb : Str → Option Value}

theorem hid_get {a : Addr} {o : Obj} (e : h.get? a = some o) (h1 : a ≠ 140) (h2 : a ≠ 147) : (Hid h).get? a = some o := hideAll_get _ e (by simp [h1, h2])
theorem hid_grow : Grow (Hid h) h := fun a o e => of_hideAll _ e
theorem Ns_hid {a : Addr} {m : Str → Option Value} (x : h.Ns a m) (h1 : a ≠ 140) (h2 : a ≠ 147) : (Hid h).Ns a m := let ⟨o, es, ep, e, r⟩ := x; ⟨o, es, ep, hid_get e h1 h2, r⟩
theorem no140 : (hd.heap_1 P).lookup 140 = none := rfl
theorem no147 : (hd.heap_1 P).lookup 147 = none := rfl
theorem K2.at140 (KX : (K2 P).In h) : h.get? 140 = some tabO := KX 140 _ rfl
theorem K2.at147 (KX : (K2 P).In h) : h.get? 147 = some tabO := KX 147 _ rfl
theorem K2.ne (KX : (K2 P).In h) {a : Addr} {o : Obj} (e : h.get? a = some o) (hc : o.cls ≠ .none) : a ≠ 140 ∧ a ≠ 147 :=
  ⟨fun z => by rw [z, K2.at140 KX] at e; cases e; exact hc rfl, fun z => by rw [z, K2.at147 KX] at e; cases e; exact hc rfl⟩
theorem K2.rest (KX : (K2 P).In h) : (hd.heap_1 P).In (Hid h) := fun a o e => by
  have h1 : a ≠ 140 := fun z => by rw [z, no140] at e; cases e
  have h2 : a ≠ 147 := fun z => by rw [z, no147] at e; cases e
  refine hid_get (KX a o ?_) h1 h2
  unfold K2
  show List.lookup a _ = _
  rw [List.lookup_cons, beq_false_of_ne h1]
  dsimp only
  rw [List.lookup_cons, beq_false_of_ne h2]
  exact e
theorem Bs.hid (KX : (K2 P).In h) (T : Top p loose mean mg mb h) : Bs P (Hid h) := by
  refine ⟨K2.rest KX, ⟨mg, Ns_hid T.g (by decide) (by decide)⟩, ⟨mb, Ns_hid T.b (by decide) (by decide), T.builtins⟩, ?_, ?_⟩
  · obtain ⟨mc, x, y⟩ := T.nolimit
    exact ⟨mc, Ns_hid x (by decide) (by decide), y⟩
  · obtain ⟨bm, ob, a, b, c, d, e, f⟩ := T.bmain
    have n := K2.ne KX c (by rw [d]; nofun)
    exact ⟨mg, bm, ob, Ns_hid T.g (by decide) (by decide), a, b, hid_get c n.1 n.2, d, e, f⟩
theorem K2.tab1 (KX : (K2 P).In h) : CodeT h 144 140 #[] := by
  have e := KX 140 tabO rfl
  have hc := KX 144 _ rfl
  refine ⟨⟨_, _, _, _, _, _, _, _, _, _, hc, rfl, rfl, rfl, rfl, rfl, rfl, e, rfl, trivial, by decide⟩, ⟨_, _, hc, rfl, rfl, rfl⟩, e⟩
theorem K2.tab2 (KX : (K2 P).In h) : CodeT h 151 147 #[] := by
  have e := KX 147 tabO rfl
  have hc := KX 151 _ rfl
  refine ⟨⟨_, _, _, _, _, _, _, _, _, _, hc, rfl, rfl, rfl, rfl, rfl, rfl, e, rfl, trivial, by decide⟩, ⟨_, _, hc, rfl, rfl, rfl⟩, e⟩

theorem Fm.addXs {Y : Addr → Prop} (F : Fm B Hs X h env G) (g : Grow h h') (ha : ∀ a, Y a → X a ∨ h.get? a = none) (hl : ∀ a, Y a → ∃ o, h'.get? a = some o) : Fm B Hs (fun b => X b ∨ Y b) h' env G := by
  have F' := F.grow g
  have key : ∀ {v d}, IsD X h v d → IsD (fun b => X b ∨ Y b) h' v d := fun q => q.keep (fun b o e hx => by
    rcases hx with hx | hx
    · exact hx
    · rcases ha b hx with y | y
      · exact y
      · rw [y] at e; cases e) g.skeep
  have keyA : ∀ {v d}, AllD X h v d → AllD (fun b => X b ∨ Y b) h' v d := fun q => q.keep (fun b o e hx => by
    rcases hx with hx | hx
    · exact hx
    · rcases ha b hx with y | y
      · exact y
      · rw [y] at e; cases e) g.skeep
  refine ⟨⟨F'.has.keep, F'.has.fn, F'.has.gl, F'.has.bi, fun p hp => ?_⟩, ?_, .inl F.locX, F'.ns, F'.olds, F'.ownL, F'.newL, fun x c hc => ?_, F'.apart⟩
  · obtain ⟨v, hv, hx⟩ := F.has.var p hp
    refine ⟨v, ?_, hx.grow g⟩
    obtain ⟨n, t⟩ := p
    cases t with
    | d d => exact key hv
    | v u => exact hv
    | m b ds => obtain ⟨e, hx, vs, k, ho, r⟩ := hv; exact ⟨e, .inl hx, vs, k, g _ _ ho, keyA r⟩
  · intro b hb
    rcases hb with hb | hb
    · exact F'.live b hb
    · exact hl b hb
  · obtain ⟨e, b | b⟩ := F'.cells x c hc
    · exact ⟨e, .inl ⟨.inl b.1, b.2.1, b.2.2⟩⟩
    · exact ⟨e, .inr b⟩
end
end
-- ME2
section
section
variable {B : Heap} {Hs : Snaps} {X : Addr → Prop} {h h' : Heap} {env : Env} {G : Ctxt} {P : Params} {w : World} {A : Around} {E : Value → Shared → Prop} {s : Shared} {n : Nat}

theorem wellInts {hp : Heap} : ∀ {vs : List Value} {js : List Int}, WellAll P hp vs (ofPys (js.map .int)) → AllD X hp vs (js.map .int)
  | [], [], _ => .nil
  | [], _ :: _, h => nomatch h
  | _ :: _, [], h => nomatch h
  | v :: vs, i :: is, h => by
    cases h with
    | cons a b =>
    refine .cons ?_ (wellInts b)
    have a : Well P hp v (.int i) := by
      have e : ofPy (.int i) = WData.int i := by simp only [ofPy]
      rw [← e]; exact a
    cases a
    exact .int _ _
theorem isD_of_well {l : Addr} {js : List Int} (x : Well P h (.ref l) (ofPy (.list (js.map .int)))) : ∃ vs, h.get? l = some (listO vs 0) ∧ ∀ X, AllD X h vs (js.map .int) := by
  have e : ofPy (.list (js.map .int)) = WData.list (ofPys (js.map .int)) := by simp only [ofPy]
  rw [e] at x
  cases x with
  | list e r => exact ⟨_, e, fun X => wellInts r⟩

/-- the law's frame, with cells -/
noncomputable def lawX (s : Shared) (env : Env) (b : Addr) : Prop := b = 140 ∨ b = 147 ∨ (s.heap.get? b = none ∧ (b = env.locals ∨ ∃ x, env.cells.lookup x = some b))
theorem Fm.startC {m cm : Str → Option Value} {s₁ : Shared} {G₀ : Ctxt} (KX : (K2 P).In s.heap) (x : InCallC s env.locals m env.cells cm s₁) (hfn : env.scope.kind = .function) (hgl : env.globals = mainGlobals) (hbi : env.builtins = builtinsNs) (hab : ∀ c, (∃ y, env.cells.lookup y = some c) → s.heap.get? c = none)
    (hG : ∀ p ∈ G₀, ∃ v, env.kindOf p.1 = some .local ∧ m p.1 = some v ∧ IsS (fun b => b = 140 ∨ b = 147) s.heap v p.2) :
    Fm (Hid s.heap) [(fun b => b = 140 ∨ b = 147, s.heap)] (lawX s env) s₁.heap env G₀ := by
  have keep := x.toInCall.keep
  have hL : s.heap.get? env.locals = none := get_size_none s.heap x.toInCall.fresh
  have nB : ∀ a, s.heap.get? a = none → (Hid s.heap).get? a = none := fun a ha => by
    cases e : (Hid s.heap).get? a with
    | none => rfl
    | some o => have := hid_grow _ _ e; rw [ha] at this; cases this
  have lx : ∀ {v t}, IsS (fun b => b = 140 ∨ b = 147) s.heap v t → IsS (lawX s env) s₁.heap v t := fun {v t} q => by
    have hx : ∀ a o, s.heap.get? a = some o → lawX s env a → (a = 140 ∨ a = 147) := fun a o e hx => by
      rcases hx with hx | hx | hx
      · exact .inl hx
      · exact .inr hx
      · rw [hx.1] at e; cases e
    cases t with
    | d d => exact IsD.keep hx (Grow.skeep keep) q
    | v u => exact q
    | m a ds => obtain ⟨e, hxa, vs, k, ho, r⟩ := q; exact ⟨e, hxa.elim .inl fun z => .inr (.inl z), vs, k, keep _ _ ho, AllD.keep hx (Grow.skeep keep) r⟩
  refine ⟨⟨hid_grow.trans keep, hfn, hgl, hbi, fun p hp => ?_⟩, fun a ha => ?_, .inr (.inr ⟨hL, .inl rfl⟩), ⟨_, x.toInCall.ns⟩, fun q hq b o hb e => ?_, fun q hq => ?_, nB _ hL, fun y c hc => ?_, fun y z c hy hz => ?_⟩
  · obtain ⟨v, hk, hm, hs⟩ := hG p hp
    exact ⟨v, lx hs, .inl ⟨hk, _, x.toInCall.ns, hm⟩⟩
  · rcases ha with rfl | rfl | ⟨_, rfl | ⟨y, hy⟩⟩
    · exact ⟨_, keep _ _ (K2.at140 KX)⟩
    · exact ⟨_, keep _ _ (K2.at147 KX)⟩
    · obtain ⟨o, _, _, e, _⟩ := x.toInCall.ns; exact ⟨o, e⟩
    · obtain ⟨o, e, _⟩ := x.cell y a hy; exact ⟨o, e⟩
  · rw [List.mem_singleton.mp hq] at e
    exact keep _ _ e
  · rw [List.mem_singleton.mp hq]
    exact .inr hL
  · have hn := hab c ⟨y, hc⟩
    exact ⟨⟨_, x.cell y c hc⟩, .inl ⟨.inr (.inr ⟨hn, .inr ⟨y, hc⟩⟩), fun q hq => by rw [List.mem_singleton.mp hq]; exact .inr hn, nB _ hn⟩⟩
  · by_cases hyz : y = z
    · exact hyz
    · have ap := x.apart
      have m1 := mem_of_lookup hy
      have m2 := mem_of_lookup hz
      exact name_of_addr ap m1 m2
end
end
-- ME3
section
/-- the law as the program's last statement holds it -/
noncomputable def lawStmt : Option (List Stmt × Scope × Arguments) := match pr.main.body.getLast? with
  | some (.FunctionDef _ params body _ _ _ scope _ _ _) => some (body, scope, params)
  | _ => none
section
variable {w : World} {E : Value → Shared → Prop} {s : Shared} {P : Params} {p : Program} {loose : List Str} {mean : ExcName → Option Value} {mg mb : Str → Option Value}

noncomputable abbrev lawFd (name : Str) (params : Arguments) (body : List Stmt) (scope : Scope) (pm cd doc dV kV : Value) : FuncData := { docDef name params body scope pm cd doc with defaults := dV, kwdefaults := kV }

theorem law_call {fa l : Addr} {o : Obj} {name : Str} {params : Arguments} {body : List Stmt} {scope : Scope} {pm cd doc dV kV : Value} {vs : List Value} {js : List Int} {Q : Value → Shared → Prop} (hrec : lawStmt = some (body, scope, params)) (KX : (K2 P).In s.heap) (T : Top p loose mean mg mb s.heap)
    (ho : s.heap.get? fa = some o) (hd : o.data = .func (lawFd name params body scope pm cd doc dV kV)) (hcd : s.heap.CodeRec cd name) (hl : s.heap.get? l = some (listO vs 0)) (hv : ∀ X, AllD X s.heap vs (js.map .int))
    (hbind : bindArgs (lawFd name params body scope pm cd doc dV kV) ⟨[.ref l], []⟩ = pure [(Str.ofString "script", .ref l)]) (hloc : scope.names.lookup (Str.ofString "script") = some .local) (hco : scope.isCoroutine = false) (hgen : scope.isGenerator = false) (hk : scope.kind = .function)
    (hb : ∀ h₀ tk, Room 60 (callerA.deeper (callEnvC (lawFd name params body scope pm cd doc dV kV) s.heap.objs.size fa)) →
      Fm (Hid s.heap) [(fun b => b = 140 ∨ b = 147, s.heap)] (lawX s (callEnvC (lawFd name params body scope pm cd doc dV kV) s.heap.objs.size fa)) h₀ (callEnvC (lawFd name params body scope pm cd doc dV kV) s.heap.objs.size fa) [(Str.ofString "script", .d (.lst (js.map .int)))] → Grow s.heap h₀ →
      wpAny (model pr w) (callerA.deeper (callEnvC (lawFd name params body scope pm cd doc dV kV) s.heap.objs.size fa)) (execs body (callEnvC (lawFd name params body scope pm cd doc dV kV) s.heap.objs.size fa))
        (fun fl s' => Q (match fl with | .ret v => v | _ => .none) s') (fun _ _ => False) { s with heap := h₀, toks := tk }) :
    wpAny (model pr w) callerA (call (.ref fa) [.ref l] []) Q E s := by
  refine wpAny_call (codeAny_call_cells (by decide +kernel) ho hd T.nolimit hcd rfl hbind rfl (fun x hx => ?_) (fun s₁ x => ?_) hco hgen hk)
  · rw [List.mem_singleton.mp hx]
    exact .inl hloc
  · obtain ⟨h₀, tk, rfl⟩ := x.toInCall.same
    have hab : ∀ c, (∃ y, (callEnvC (lawFd name params body scope pm cd doc dV kV) s.heap.objs.size fa).cells.lookup y = some c) → s.heap.get? c = none := fun c ⟨y, hy⟩ =>
      get_size_none s.heap (Nat.le_of_lt (x.above y c (mem_of_lookup hy)))
    have F := Fm.startC (G₀ := [(Str.ofString "script", .d (.lst (js.map .int)))]) KX x hk rfl rfl hab (fun p hp => by
      rw [List.mem_singleton.mp hp]
      refine ⟨.ref l, hloc, ?_, ?_⟩
      · show bindL _ [(Str.ofString "script", Value.ref l)] (fun _ => none) (Str.ofString "script") = _
        unfold bindL
        rw [if_pos (show (callEnvC (lawFd name params body scope pm cd doc dV kV) s.heap.objs.size fa).kindOf (Str.ofString "script") = some .local from hloc)]
        simp [bindL]
      · have n := K2.ne KX hl (by nofun)
        exact .lst (fun z => z.elim n.1 n.2) hl (hv _))
    refine wpAny_mono (hb h₀ tk ⟨rfl, ?_, ?_⟩ F x.toInCall.keep) (fun fl s' z => z) fun _ _ z => z.elim
    · show callerA.depth + 1 + 60 ≤ 900
      decide +kernel
    · show 4 + 3 + 100 * 60 ≤ 9000
      omega
end
end
-- ME4
section
noncomputable def lawBody : List Stmt := match lawStmt with | some x => x.1 | none => []
noncomputable def lawScope : Scope := match lawStmt with | some x => x.2.1 | none => default
noncomputable def lawParams : Arguments := match lawStmt with | some x => x.2.2 | none => default
noncomputable def lawSt (k : Nat) : Stmt := lawBody.getD k (.Pass default)
noncomputable abbrev lawEnv (L fa : Addr) (name : Str) (pm cd doc dV kV : Value) : Env := callEnvC (lawFd name lawParams lawBody lawScope pm cd doc dV kV) L fa
theorem lawStmt_eq : lawStmt = some (lawBody, lawScope, lawParams) := rfl
theorem lawBody_len : lawBody.length = 24 := rfl
section
variable {w : World} {A : Around} {E : Value → Shared → Prop} {s : Shared} {P : Params} {B : Heap} {n : Nat} {X : Addr → Prop} {Hs : Snaps} {L fa : Addr} {name : Str} {pm cd doc dV kV : Value} {G : Ctxt} {js : List Int}

noncomputable def seedsOf (js : List Int) : List Int := js.take 2 ++ [4, 165].drop (js.take 2).length
theorem fm_congr {α β : Type} {f g : α → Option β} : ∀ {l : List α}, (∀ x ∈ l, f x = g x) → l.filterMap f = l.filterMap g
  | [], _ => rfl
  | a :: l, h => by
    rw [List.filterMap_cons, List.filterMap_cons, h a (.head _), fm_congr fun x hx => h x (.tail _ hx)]
theorem range_self {α : Type} : ∀ (r : List α), (List.range r.length).filterMap (r[·]?) = r
  | [] => rfl
  | a :: r => by
    rw [List.length_cons, List.range_succ_eq_map, List.filterMap_cons]
    simp only [List.getElem?_cons_zero]
    rw [List.filterMap_map]
    congr 1
    exact range_self r
theorem pick_range {α : Type} {l : List α} {a b : Nat} (hb : b ≤ l.length) : ((List.range (b - a)).map (a + ·)).filterMap (l[·]?) = (l.take b).drop a := by
  rw [List.filterMap_map]
  have e : (List.range (b - a)).filterMap ((fun x => l[x]?) ∘ (a + ·)) = (List.range ((l.take b).drop a).length).filterMap (((l.take b).drop a)[·]?) := by
    rw [List.length_drop, List.length_take, Nat.min_eq_left hb]
    refine fm_congr fun i hi => ?_
    have := List.mem_range.mp hi
    simp [List.getElem?_drop, List.getElem?_take, show a + i < b by omega]
  rw [e, range_self]
theorem pickD_of {α : Type} {l : List α} {lo hi : Option Int} {a b : Nat} (e : sliceBounds lo hi none l.length = ((a : Int), (b : Int), 1)) (hb : b ≤ l.length) : pickD l lo hi none = (l.take b).drop a := by
  unfold pickD
  rw [e]
  simp only
  rw [sliceRange_one]
  exact pick_range hb
theorem pickD_to {α : Type} {l : List α} {k : Nat} : pickD l none (some (k : Int)) none = l.take k := by
  rw [pickD_of (a := 0) (b := min k l.length) (by unfold sliceBounds; simp; omega) (Nat.min_le_right _ _), List.drop_zero]
  rcases Nat.le_total k l.length with h | h
  · rw [Nat.min_eq_left h]
  · rw [Nat.min_eq_right h, List.take_of_length_le (Nat.le_refl _), List.take_of_length_le h]
theorem st0 {Q : Flow → Shared → Prop} (bb : Bs P B) (R : Room n A) (F : Fm B Hs X s.heap (lawEnv L fa name pm cd doc dV kV) [(Str.ofString "script", .d (.lst (js.map .int)))]) (hz : js.length ≤ 63)
    (h : ∀ h' tk, Fm B Hs X h' (lawEnv L fa name pm cd doc dV kV) [(Str.ofString "seeds", .d (.lst ((seedsOf js).map .int))), (Str.ofString "script", .d (.lst (js.map .int)))] → Q .next { s with heap := h', toks := tk }) :
    wpAny (model pr w) A (exec (lawSt 0) (lawEnv L fa name pm cd doc dV kV)) Q E s := by
  have hk : (lawEnv L fa name pm cd doc dV kV).kindOf (Str.ofString "seeds") = some .local := by rfl
  have hl : (js.take 2).length ≤ 2 := by rw [List.length_take]; omega
  refine St.assignL (d := .lst ((seedsOf js).map .int)) (Ev.is (Ev.bin (Ev.slice_lst (lo := none) (hi := some 2) (st := none) (Ev.name memH) trivial (Ev.int (i := 2)) trivial nofun ?_ _ (fun _ _ => rfl))
    (Ev.slice_lst (ds := [.int 4, .int 165]) (lo := some ((js.take 2).length : Int)) (hi := none) (st := none) (Ev.list (EvL.cons Ev.int (EvL.cons Ev.int EvL.nil)) ?_) (Ev.is (Ev.call (fv := .builtin "len") (ds := [.lst ((js.take 2).map .int)]) (bb.bui (by rfl) (by rfl) (by decide)) Callable.builtin (EvL.cons (Ev.is (Ev.slice_lst (lo := none) (hi := some 2) (st := none) (Ev.name memH) trivial (Ev.int (i := 2)) trivial nofun ?_ _ (fun _ _ => rfl)) ?_) EvL.nil) (CallD.len_lst ?_)) ?_) trivial trivial nofun ?_ _ (fun _ _ => rfl))
    (Op2.add_lst ?_)) ?_) R F rfl rfl rfl fun h' tk F' => h h' tk F'
  all_goals try simp only [List.length_map, List.length_cons, List.length_nil, sizeLine_eq]
  · omega
  · omega
  · omega
  · rw [show (2 : Int) = ((2 : Nat) : Int) from rfl, pickD_to, List.map_take]
  · omega
  · omega
  · rw [show (2 : Int) = ((2 : Nat) : Int) from rfl, pickD_to, pickD_from (by simpa using hl)]
    simp only [List.length_drop, List.length_take, List.length_map, List.length_cons, List.length_nil]
    omega
  · rw [show (2 : Int) = ((2 : Nat) : Int) from rfl, pickD_to, pickD_from (by simpa using hl)]
    unfold seedsOf
    rw [List.map_append, List.map_take, List.map_drop]
    rfl
end
end
-- ME5
section
section
variable {w : World} {A : Around} {E : Value → Shared → Prop} {s : Shared} {P : Params} {B : Heap} {n : Nat} {X : Addr → Prop} {Hs : Snaps} {L fa : Addr} {name : Str} {pm cd doc dV kV : Value} {G : Ctxt} {js : List Int} {a b : Int} {high wide : Nat}

theorem st1 {Q : Flow → Shared → Prop} (bb : Bs P B) (R : Room n A) (hC : ∀ x c, (lawEnv L fa name pm cd doc dV kV).cells.lookup x = some c → B.get? c = none)
    (F : Fm B Hs X s.heap (lawEnv L fa name pm cd doc dV kV) [(Str.ofString "seeds", .d (.lst [.int a, .int b])), (Str.ofString "script", .d (.lst (js.map .int)))]) (hh : 3 + a.fmod 3 = (high : Int)) (hw : 3 + (a.fdiv 3).fmod 3 = (wide : Int))
    (h : ∀ h' tk, Fm B Hs X h' (lawEnv L fa name pm cd doc dV kV) [(Str.ofString "wide", .d (.int wide)), (Str.ofString "high", .d (.int high)), (Str.ofString "seeds", .d (.lst [.int a, .int b])), (Str.ofString "script", .d (.lst (js.map .int)))] → Q .next { s with heap := h', toks := tk }) :
    wpAny (model pr w) A (exec (lawSt 1) (lawEnv L fa name pm cd doc dV kV)) Q E s := by
  have it : ∀ {p : Pos} {k : Nat} {px : Pos} {pc : Pos}, Ev pr w B n (lawEnv L fa name pm cd doc dV kV) [(Str.ofString "seeds", .d (.lst [.int a, .int b])), (Str.ofString "script", .d (.lst (js.map .int)))] (.Subscript (.Name (Str.ofString "seeds") px) (.Constant (.int 0) k pc) p) (.int a) :=
    Ev.sub (Ev.name memH) (Ev.int (i := 0)) (Op2.item_lst (k := 0) (j := 0) rfl rfl (by decide) (by decide))
  refine St.assignTup (ts := [(Str.ofString "high", _), (Str.ofString "wide", _)]) (ds := [.int high, .int wide]) (Ev.tup (EvL.cons (Ev.is (Ev.bin (Ev.int (i := 3)) (Ev.bin it (Ev.int (i := 3)) (Op2.mod_int (by decide))) Op2.add_int) (by rw [hh])) (EvL.cons (Ev.is (Ev.bin (Ev.int (i := 3)) (Ev.bin (Ev.bin it (Ev.int (i := 3)) (Op2.fdiv_int (by decide) (by decide))) (Ev.int (i := 3)) (Op2.mod_int (by decide))) Op2.add_int) (by rw [hw])) EvL.nil)) (Nat.le_of_ble_eq_true rfl)) R F rfl rfl ?_ ?_ (by decide) rfl rfl fun h' tk F' => h h' tk F'
  · intro t ht
    rcases List.mem_cons.mp ht with rfl | ht
    · exact .inl rfl
    · rw [List.mem_singleton.mp ht]
      exact .inr ⟨rfl, _, rfl, hC (Str.ofString "wide") _ rfl⟩
  · intro t ht
    rcases List.mem_cons.mp ht with rfl | ht
    · rfl
    · rw [List.mem_singleton.mp ht]; rfl
end
noncomputable def stemOf : Nat → Str
  | 0 => ""
  | 1 => "m"
  | _ => "mn"
noncomputable def wordsOf (k : Nat) : List Str := [stemOf k ++ "a", stemOf k ++ "b", Txt.upper (stemOf k) ++ "A", Txt.upper (stemOf k) ++ "B"]
theorem small3 {k : Nat} (h : k ≤ 2) : k = 0 ∨ k = 1 ∨ k = 2 := by omega
section
variable {w : World} {A : Around} {E : Value → Shared → Prop} {s : Shared} {P : Params} {B : Heap} {n : Nat} {X : Addr → Prop} {Hs : Snaps} {L fa : Addr} {name : Str} {pm cd doc dV kV : Value} {G : Ctxt} {js : List Int} {a b : Int} {high wide kk : Nat}
theorem st2 {Q : Flow → Shared → Prop} (R : Room n A)
    (F : Fm B Hs X s.heap (lawEnv L fa name pm cd doc dV kV) G) (hm : (Str.ofString "seeds", Slot.d (.lst [.int a, .int b])) ∈ G) (hG : (names G).contains (Str.ofString "stem") = false) (hk : (a.fdiv 9).fmod 3 = (kk : Int)) (hk2 : kk ≤ 2)
    (h : ∀ h' tk, Fm B Hs X h' (lawEnv L fa name pm cd doc dV kV) ((Str.ofString "stem", .d (.str (stemOf kk))) :: G) → Q .next { s with heap := h', toks := tk }) :
    wpAny (model pr w) A (exec (lawSt 2) (lawEnv L fa name pm cd doc dV kV)) Q E s := by
  refine St.assignL (d := .str (stemOf kk)) (Ev.slice_str (x := "mn") (lo := none) (hi := some (kk : Int)) Ev.str trivial (Ev.is (Ev.bin (Ev.bin (Ev.sub (Ev.name hm) (Ev.int (i := 0)) (Op2.item_lst (k := 0) (j := 0) rfl rfl (by decide) (by decide))) (Ev.int (i := 9)) (Op2.fdiv_int (by decide) (by decide))) (Ev.int (i := 3)) (Op2.mod_int (by decide))) (by rw [hk])) ?_ ?_ ?_) R F rfl hG rfl h
  · rcases small3 hk2 with rfl | rfl | rfl <;> decide +kernel
  · rcases small3 hk2 with rfl | rfl | rfl <;> decide +kernel
  · rcases small3 hk2 with rfl | rfl | rfl <;> exact Nat.le_of_ble_eq_true rfl
end
end
-- ME6
section
section
variable {w : World} {A : Around} {E : Value → Shared → Prop} {s : Shared} {P : Params} {B : Heap} {n : Nat} {X : Addr → Prop} {Hs : Snaps} {L fa : Addr} {name : Str} {pm cd doc dV kV : Value} {G : Ctxt} {js : List Int} {a b : Int} {high wide kk : Nat}
theorem st3 {Q : Flow → Shared → Prop} (R : Room n A) (hC : ∀ x c, (lawEnv L fa name pm cd doc dV kV).cells.lookup x = some c → B.get? c = none)
    (F : Fm B Hs X s.heap (lawEnv L fa name pm cd doc dV kV) G) (hm : (Str.ofString "stem", Slot.d (.str (stemOf kk))) ∈ G) (hG : (names G).contains (Str.ofString "words") = false) (hk2 : kk ≤ 2)
    (h : ∀ h' tk, Fm B Hs X h' (lawEnv L fa name pm cd doc dV kV) ((Str.ofString "words", .d (.lst ((wordsOf kk).map .str))) :: G) → Q .next { s with heap := h', toks := tk }) :
    wpAny (model pr w) A (exec (lawSt 3) (lawEnv L fa name pm cd doc dV kV)) Q E s := by
  refine St.assignC (d := .lst ((wordsOf kk).map .str)) (Ev.list (EvL.cons (Ev.bin (Ev.name hm) Ev.str (Op2.add_str ?_)) (EvL.cons (Ev.bin (Ev.name hm) Ev.str (Op2.add_str ?_)) (EvL.cons (Ev.bin (Ev.upper (Ev.name hm) ?_) Ev.str (Op2.add_str ?_)) (EvL.cons (Ev.bin (Ev.upper (Ev.name hm) ?_) Ev.str (Op2.add_str ?_)) EvL.nil)))) (Nat.le_of_ble_eq_true rfl)) R F rfl rfl (hC (Str.ofString "words") _ rfl) hG rfl h
  all_goals (rcases small3 hk2 with rfl | rfl | rfl <;> first | decide +kernel | exact Nat.le_of_ble_eq_true rfl)
theorem st4 {Q : Flow → Shared → Prop} (bb : Bs P B) (R : Room (n + 1) A) (hC : ∀ x c, (lawEnv L fa name pm cd doc dV kV).cells.lookup x = some c → B.get? c = none)
    (F : Fm B Hs X s.heap (lawEnv L fa name pm cd doc dV kV) G) (h1 : (Str.ofString "script", Slot.d (.lst (js.map .int))) ∈ G) (h2 : (Str.ofString "high", Slot.d (.int high)) ∈ G) (h3 : (Str.ofString "wide", Slot.d (.int wide)) ∈ G) (hG : (names G).contains (Str.ofString "codes") = false)
    (hs : js.length ≤ 63) (hh : 3 ≤ high) (hh5 : high ≤ 5) (hw : 3 ≤ wide) (hw5 : wide ≤ 5)
    (h : ∀ h' tk, Fm B Hs X h' (lawEnv L fa name pm cd doc dV kV) ((Str.ofString "codes", .d (.lst ((lawCodes js high wide (high * wide)).map .int))) :: G) → Q .next { s with heap := h', toks := tk }) :
    wpAny (model pr w) A (exec (lawSt 4) (lawEnv L fa name pm cd doc dV kV)) Q E s := by
  refine St.assignC (Ev.call (fv := .ref 203) (ds := [.lst (js.map .int), .int high, .int wide]) (bb.own (by rfl)) (Callable.fn (bb.K 203 _ rfl) rfl) (EvL.cons (Ev.name h1) (EvL.cons (Ev.name h2) (EvL.cons (Ev.name h3) EvL.nil))) (codes_call bb js high wide hs hh hh5 hw hw5)) R F rfl rfl (hC (Str.ofString "codes") _ rfl) hG rfl h
theorem st5 {Q : Flow → Shared → Prop} (bb : Bs P B) (R : Room n A)
    (F : Fm B Hs X s.heap (lawEnv L fa name pm cd doc dV kV) G) (hm : (Str.ofString "stem", Slot.d (.str (stemOf kk))) ∈ G) (hG : (names G).contains (Str.ofString "size") = false) (hk2 : kk ≤ 2)
    (h : ∀ h' tk, Fm B Hs X h' (lawEnv L fa name pm cd doc dV kV) ((Str.ofString "size", .d (.int ((kk + 2 : Nat) : Int))) :: G) → Q .next { s with heap := h', toks := tk }) :
    wpAny (model pr w) A (exec (lawSt 5) (lawEnv L fa name pm cd doc dV kV)) Q E s := by
  refine St.assignL (Ev.is (Ev.bin (Ev.call (fv := .builtin "len") (ds := [.str (stemOf kk)]) (bb.bui (by rfl) (by rfl) (by decide)) Callable.builtin (EvL.cons (Ev.name hm) EvL.nil) (CallD.len_str ?_)) (Ev.int (i := 2)) Op2.add_int) ?_) R F rfl hG rfl h
  · rcases small3 hk2 with rfl | rfl | rfl <;> exact Nat.le_of_ble_eq_true rfl
  · rcases small3 hk2 with rfl | rfl | rfl <;> rfl
end
end
-- ME7
section
section
variable {w : World} {A : Around} {E : Value → Shared → Prop} {s : Shared} {P : Params} {B : Heap} {n : Nat} {X : Addr → Prop} {q : Pp} {env : Env} {G : Ctxt} {H₀ h h' : Heap} {mx : Int} {lines lines' : List Str} {parts parts' : List (Str × Str)}

noncomputable def is140 (b : Addr) : Prop := b = 140 ∨ b = 147
/-- the law's frame with the page -/
structure Lp (P : Params) (B : Heap) (q : Pp) (X : Addr → Prop) (H₀ h : Heap) (env : Env) (G : Ctxt) (mx : Int) (lines : List Str) (parts : List (Str × Str)) : Prop where
  F : Fm B [(is140, H₀)] X h env G
  ps : PS q h mx lines parts
  b : Bs P B
  hB : ∀ a, PX q a → B.get? a = none
  hX : ∀ a, PX q a → X a
  hH : ∀ a, PX q a → H₀.get? a = none ∨ is140 a
  nL : ¬ PX q env.locals
  nC : ∀ x c, env.cells.lookup x = some c → ¬ PX q c
theorem Lp.gd (M : Lp P B q X H₀ h env G mx lines parts) : Gd P B q X h := ⟨M.b, M.hB, M.F.has.keep, M.F.live, M.hX⟩
theorem Lp.grow (M : Lp P B q X H₀ h env G mx lines parts) (g : Grow h h') : Lp P B q X H₀ h' env G mx lines parts := ⟨M.F.grow g, M.ps.grow g, M.b, M.hB, M.hX, M.hH, M.nL, M.nC⟩
theorem Lp.sub {G' : Ctxt} (M : Lp P B q X H₀ h env G mx lines parts) (hs : ∀ p ∈ G', p ∈ G) : Lp P B q X H₀ h env G' mx lines parts := ⟨M.F.sub hs, M.ps, M.b, M.hB, M.hX, M.hH, M.nL, M.nC⟩
theorem Lp.upd (M : Lp P B q X H₀ h env G mx lines parts) (k : Kp q h h') (ps : PS q h' mx lines' parts') (hM : noM G = true) : Lp P B q X H₀ h' env G mx lines' parts' :=
  ⟨M.F.moveX (PX q) k M.hX ps.live M.hB (fun a ha p hp => by
    rw [List.mem_singleton.mp hp]
    rcases M.hH a ha with z | z
    · exact .inr z
    · exact .inl z) M.nL M.nC hM, ps, M.b, M.hB, M.hX, M.hH, M.nL, M.nC⟩
theorem Lp.bs (M : Lp P B q X H₀ h env G mx lines parts) : Bs P h := M.b.grow M.F.has.keep
theorem Lp.has (M : Lp P B q X H₀ h env G mx lines parts) : Has h X h env G := M.F.has.rebase
theorem Lp.store {prog : Program} {x : Str} {v : Value} {t : Slot} {Q : Unit → Shared → Prop} (M : Lp P B q X H₀ s.heap env G mx lines parts) (hk : env.kindOf x = some .local) (hx : (names G).contains x = false) (hq : IsS X s.heap v t)
    (hh : ∀ h' tk, Lp P B q X H₀ h' env ((x, t) :: G) mx lines parts → Heap.SameBut env.locals s.heap h' → Q () { s with heap := h', toks := tk }) : wpAny (model prog w) A (storeName env x v) Q E s := by
  obtain ⟨m, hn⟩ := M.F.ns
  exact M.F.storeL hk hx hq fun h' tk F' sb => hh h' tk ⟨F', M.ps.store hn M.nL sb, M.b, M.hB, M.hX, M.hH, M.nL, M.nC⟩ sb
theorem Lp.pg (M : Lp P B q X H₀ h env G mx lines parts) : ∃ o, h.get? q.pg = some o := by
  obtain ⟨c, m, I, _⟩ := M.ps.page; exact ⟨_, I.at_⟩
theorem Lp.stood (M : Lp P B q X H₀ h env G mx lines parts) : ∀ b o, H₀.get? b = some o → ∃ o', h.get? b = some o' := fun b o e => by
  by_cases hp : is140 b
  · exact M.ps.live b (by rcases hp with z | z <;> simp [PX, z])
  · exact ⟨o, M.F.olds _ (.head _) b o hp e⟩
theorem Lp.mv {h₀ : Heap} {G' : Ctxt} {l0 : List Str} {p0 : List (Str × Str)} (M₀ : Lp P B q X H₀ h₀ env G' mx l0 p0) (W : Addr → Prop) (M : Lp P B q X H₀ h env G mx lines parts)
    (hW : ∀ b, W b → ¬ X b ∧ h₀.get? b = none ∧ ∀ o, h.get? b = some o → ¬ SeqO o) (k : ∀ b o, ¬ W b → h.get? b = some o → h'.get? b = some o) : Lp P B q X H₀ h' env G mx lines parts := by
  have nP : ∀ b, PX q b → ¬ W b := fun b hb z => (hW b z).1 (M.hX b hb)
  have nB : ∀ b o, B.get? b = some o → ¬ W b := fun b o e z => by have e' := M₀.F.has.keep b o e; rw [(hW b z).2.1] at e'; cases e'
  have F' : Fm B [(is140, H₀)] X h' env G := M.F.move W k (fun b hb => (hW b hb).1) (fun b o hb e => (hW b hb).2.2 o e) (fun b hb => by
    cases e : B.get? b with
    | none => rfl
    | some o => exact absurd hb (nB b o e)) (fun b hb p hp => by
    rw [List.mem_singleton.mp hp]
    right
    cases e : H₀.get? b with
    | none => rfl
    | some o => obtain ⟨o', e'⟩ := M₀.stood b o e; rw [(hW b hb).2.1] at e'; cases e')
  refine ⟨F', ?_, M.b, M.hB, M.hX, M.hH, M.nL, M.nC⟩
  obtain ⟨cc, m, I, pm⟩ := M.ps.page
  obtain ⟨kk, c', t, vs, J, hc, hps⟩ := M.ps.acc
  obtain ⟨kl, vl, hl, hls⟩ := M.ps.lns
  obtain ⟨tab1, hT1⟩ := M.ps.t1
  obtain ⟨tab2, hT2⟩ := M.ps.t2
  have sk : SKeep (PX q) h h' := fun a o _ e hs => k a o (fun z => (hW a z).2.2 o e hs) e
  have cb : ∀ c, (∃ o, B.get? c = some o) → ∀ o, h.get? c = some o → h'.get? c = some o := fun c ⟨o', e'⟩ o e => k c o (nB c o' e') e
  exact ⟨⟨cc, m, I.keeps (fun o e => k _ o (fun z => by obtain ⟨o', e'⟩ := M₀.pg; rw [(hW _ z).2.1] at e'; cases e') e) (fun o e => k _ o (nP _ (.inr (.inr (.inl rfl)))) e), pm⟩,
    ⟨kk, c', t, vs, J.keeps (fun o e => k _ o (nP _ (.inl rfl)) e) (fun o e => k _ o (nP _ (.inr (.inl rfl))) e), hc, AllD.skeep hps sk⟩,
    ⟨kl, vl, k _ _ (nP _ (.inr (.inr (.inr (.inl rfl))))) hl, hls.skeep sk⟩,
    ⟨tab1, code_keep hT1 (cb 144 ⟨_, M.b.K 144 _ rfl⟩) (fun o e => k _ o (nP _ (.inr (.inr (.inr (.inr (.inl rfl)))))) e)⟩, ⟨tab2, code_keep hT2 (cb 151 ⟨_, M.b.K 151 _ rfl⟩) (fun o e => k _ o (nP _ (.inr (.inr (.inr (.inr (.inr rfl)))))) e)⟩, M.ps.ap⟩
end
end
-- ME8
section
section
variable {w : World} {A : Around} {E : Value → Shared → Prop} {s : Shared} {P : Params} {B : Heap} {n : Nat} {X : Addr → Prop} {H₀ : Heap} {L fa : Addr} {name : Str} {pm cd doc dV kV : Value} {G : Ctxt} {js : List Int} {a b : Int} {high wide kk : Nat}
theorem st6 {tab1 tab2 : Array Value} {Q : Flow → Shared → Prop} (bb : Bs P B) (R : Room (n + 5) A) (hB1 : B.get? 140 = none) (hB2 : B.get? 147 = none) (hX1 : X 140) (hX2 : X 147) (hT1 : CodeT s.heap 144 140 tab1) (hT2 : CodeT s.heap 151 147 tab2)
    (hL : (lawEnv L fa name pm cd doc dV kV).locals ≠ 140 ∧ (lawEnv L fa name pm cd doc dV kV).locals ≠ 147) (hCn : ∀ x c, (lawEnv L fa name pm cd doc dV kV).cells.lookup x = some c → c ≠ 140 ∧ c ≠ 147)
    (F : Fm B [(is140, H₀)] X s.heap (lawEnv L fa name pm cd doc dV kV) G) (h1 : (Str.ofString "wide", Slot.d (.int wide)) ∈ G) (h2 : (Str.ofString "size", Slot.d (.int ((kk + 2 : Nat) : Int))) ∈ G) (h3 : (Str.ofString "seeds", Slot.d (.lst [.int a, .int b])) ∈ G) (hG : (names G).contains (Str.ofString "page") = false)
    (hk2 : kk ≤ 2) (hw5 : wide ≤ 5)
    (h : ∀ q h' tk, Lp P B q (fun b => X b ∨ PX q b) H₀ h' (lawEnv L fa name pm cd doc dV kV) ((Str.ofString "page", .v (.ref q.pg)) :: G) (wide * (kk + 2 : Nat) + b.fmod (kk + 2 : Nat)) [] [] → Q .next { s with heap := h', toks := tk }) :
    wpAny (model pr w) A (exec (lawSt 6) (lawEnv L fa name pm cd doc dV kV)) Q E s := by
  refine wpAny_Assign_Name (wpAny_Call_Name_kw (globName (bb.own (x := "_ValueFormatter") (v := .ref 94) (by rfl)) F.has (by rfl) (by decide) ?_)) rfl
  refine callWith_data (n := n + 5) (B := B) (first := []) (ds := [.int 0, .int (wide * (kk + 2 : Nat) + b.fmod (kk + 2 : Nat)), .str " ", .str ", "]) (fun h g => keeps_K (K := hd.heap_1 P) rfl h (bb.K.keeps g)) (EvL.cons Ev.int (EvL.cons (Ev.bin (Ev.bin (Ev.name h1) (Ev.name h2) (Op2.mul_int ?_)) (Ev.bin (Ev.sub (Ev.name h3) (Ev.int (i := 1)) (Op2.item_lst (k := 1) (j := 1) rfl rfl (by decide) (by decide))) (Ev.name h2) (Op2.mod_int ?_)) Op2.add_int) (EvL.cons Ev.str (EvL.cons Ev.str EvL.nil)))) rfl R F.live F.has fun us h₁ t₁ g₁ qs => ?_
  · apply IntMulOk.of_left; apply intBits_le_64 <;> omega
  · omega
  cases qs with
  | cons q1 qs =>
  cases qs with
  | cons q2 qs =>
  cases qs with
  | cons q3 qs =>
  cases qs with
  | cons q4 qs =>
  cases qs
  cases q1
  cases q2
  cases q3
  cases q4
  have F₁ := F.grow g₁
  refine mk_page (s := { s with heap := h₁, toks := t₁ }) (n := n) bb F₁.has.keep R (code_keep hT1 (fun o e => g₁ _ _ e) fun o e => g₁ _ _ e) (code_keep hT2 (fun o e => g₁ _ _ e) fun o e => g₁ _ _ e) fun q h₂ t₂ g₂ hf hpg ps => ?_
  have F₂ := F₁.addXs (Y := PX q) g₂ (fun a ha => by
    rcases hf a ha with z | z | z
    · exact .inr z
    · exact .inl (z ▸ hX1)
    · exact .inl (z ▸ hX2)) ps.live
  have nob : ∀ a, PX q a → B.get? a = none := fun a ha => by
    rcases hf a ha with z | z | z
    · cases e : B.get? a with
      | none => rfl
      | some o => have := F₁.has.keep _ _ e; rw [show (({ s with heap := h₁, toks := t₁ } : Shared).heap) = h₁ from rfl] at z; rw [z] at this; cases this
    · exact z ▸ hB1
    · exact z ▸ hB2
  have ex : ∀ a, (∃ o, h₁.get? a = some o) → a ≠ 140 ∧ a ≠ 147 → ¬ PX q a := fun a ⟨o, e⟩ ha hp => by
    rcases hf a hp with z | z | z
    · rw [show (({ s with heap := h₁, toks := t₁ } : Shared).heap) = h₁ from rfl, e] at z; cases z
    · exact ha.1 z
    · exact ha.2 z
  have M : Lp P B q (fun b => X b ∨ PX q b) H₀ h₂ (lawEnv L fa name pm cd doc dV kV) G _ [] [] := ⟨F₂, ps, bb, nob, fun a ha => .inr ha, fun a ha => by
      rcases hf a ha with z | z
      · by_cases h140 : is140 a
        · exact .inr h140
        · left
          cases e : H₀.get? a with
          | none => rfl
          | some o => have := F₁.olds _ (.head _) a o h140 e; rw [show (({ s with heap := h₁, toks := t₁ } : Shared).heap) = h₁ from rfl] at z; rw [z] at this; cases this
      · exact .inr z,
    ex _ (by obtain ⟨m, o, _, _, e, _⟩ := F₁.ns; exact ⟨o, e⟩) hL, fun x c hc => ex c (by obtain ⟨⟨v, o, e, _⟩, _⟩ := F₁.cells x c hc; exact ⟨o, e⟩) (hCn x c hc)⟩
  exact M.store (s := { s with heap := h₂, toks := t₂ }) (t := .v (.ref q.pg)) rfl hG rfl fun h₃ t₃ M₃ _ => h q h₃ t₃ M₃
end
end
-- ME9
section
noncomputable def stemC (kk c : Nat) : Str := if c < 2 then stemOf kk else Txt.upper (stemOf kk)
noncomputable def letC : Nat → Str
  | 0 => "a"
  | 1 => "b"
  | 2 => "A"
  | _ => "B"
noncomputable def pieces (kk c : Nat) : List (Str × Str) := [(" ", stemC kk c), ("", letC c)]
noncomputable def partsOf (kk : Nat) (cur : List Nat) : List (Str × Str) := (cur.map (pieces kk)).flatten
theorem small4 {c : Nat} (h : c < 4) : c = 0 ∨ c = 1 ∨ c = 2 ∨ c = 3 := by omega
theorem stemC_len {kk c : Nat} (h : kk ≤ 2) (hc : c < 4) : (stemC kk c).length = kk := by
  rcases small3 h with rfl | rfl | rfl <;> rcases small4 hc with rfl | rfl | rfl | rfl <;> decide +kernel
theorem stemC_last {kk c : Nat} (h : kk ≤ 2) (hc : c < 4) : lastIs (stemC kk c) 32 = false ∧ lastIs (stemC kk c) 44 = false := by
  rcases small3 h with rfl | rfl | rfl <;> rcases small4 hc with rfl | rfl | rfl | rfl <;> decide +kernel
theorem letC_last {c : Nat} (hc : c < 4) : lastIs (letC c) 32 = false ∧ lastIs (letC c) 44 = false ∧ (letC c).length = 1 := by
  rcases small4 hc with rfl | rfl | rfl | rfl <;> decide +kernel
theorem blank_first : firstIs (" " : Str) 32 = true ∧ firstIs ("" : Str) 32 = false ∧ (" " : Str).length = 1 ∧ ("" : Str).length = 0 := by decide +kernel
noncomputable def Codes (l : List Nat) : Prop := ∀ c ∈ l, c < 4
theorem partsOf_len {kk : Nat} : ∀ cur : List Nat, (partsOf kk cur).length = 2 * cur.length
  | [] => rfl
  | c :: r => by
    have ih := partsOf_len (kk := kk) r
    unfold partsOf at ih ⊢
    rw [List.map_cons, List.flatten_cons, List.length_append, ih, List.length_cons]
    show 2 + _ = _
    omega
theorem total_app (x y : List (Str × Str)) : total (x ++ y) = total x + total y := by
  unfold total; rw [List.map_append, List.sum_append]
theorem total_pieces {kk c : Nat} (h : kk ≤ 2) (hc : c < 4) : total [((" " : Str), stemC kk c)] = (kk : Int) + 1 ∧ total [(("" : Str), letC c)] = 1 := by
  have h1 := stemC_len h hc
  have h2 := (letC_last hc).2.2
  have h3 := blank_first
  constructor
  · show (((" " : Str).length : Int) + ((stemC kk c).length : Int)) + 0 = _
    rw [h1, h3.2.2.1]; omega
  · show ((("" : Str).length : Int) + ((letC c).length : Int)) + 0 = _
    rw [h2, h3.2.2.2]; rfl
theorem total_partsOf {kk : Nat} (h : kk ≤ 2) : ∀ {cur : List Nat}, Codes cur → total (partsOf kk cur) = (cur.length : Int) * ((kk : Int) + 2)
  | [], _ => by simp [partsOf, total]
  | c :: r, hc => by
    have ih := total_partsOf h (cur := r) fun x hx => hc x (.tail _ hx)
    have e : partsOf kk (c :: r) = [((" " : Str), stemC kk c)] ++ ([(("" : Str), letC c)] ++ partsOf kk r) := rfl
    have t := total_pieces h (hc c (.head _))
    rw [e, total_app, total_app, ih, t.1, t.2, List.length_cons]
    push_cast
    rw [Int.add_mul]
    omega
theorem mem_partsOf {kk : Nat} {cur : List Nat} {p : Str × Str} (hp : p ∈ partsOf kk cur) : ∃ c ∈ cur, p = ((" " : Str), stemC kk c) ∨ p = (("" : Str), letC c) := by
  unfold partsOf at hp
  obtain ⟨l, hl, hp⟩ := List.mem_flatten.mp hp
  obtain ⟨c, hc, rfl⟩ := List.mem_map.mp hl
  refine ⟨c, hc, ?_⟩
  rcases List.mem_cons.mp hp with h | h
  · exact .inl h
  · exact .inr (List.mem_singleton.mp h)
theorem piece_ok {kk c : Nat} {p : Str × Str} (h : kk ≤ 2) (hc : c < 4) (hp : p = ((" " : Str), stemC kk c) ∨ p = (("" : Str), letC c)) : (p.1.length ≤ 100 ∧ p.2.length ≤ 100) ∧ lastIs p.2 44 = false ∧ lastIs p.2 32 = false := by
  have h1 := stemC_len h hc
  have h2 := letC_last hc
  have h3 := stemC_last h hc
  have h4 := blank_first
  rcases hp with rfl | rfl
  · exact ⟨⟨by rw [h4.2.2.1]; omega, by rw [h1]; omega⟩, h3.2, h3.1⟩
  · exact ⟨⟨by rw [h4.2.2.2]; omega, by rw [h2.2.2]; omega⟩, h2.2.1, h2.1⟩
theorem parts_ok {kk : Nat} {cur : List Nat} {p : Str × Str} (h : kk ≤ 2) (hc : Codes cur) (hp : p ∈ partsOf kk cur) : (p.1.length ≤ 100 ∧ p.2.length ≤ 100) ∧ lastIs p.2 44 = false ∧ lastIs p.2 32 = false := by
  obtain ⟨c, hm, hp⟩ := mem_partsOf hp
  exact piece_ok h (hc c hm) hp
end
-- MEA
section
section
variable {w : World} {A : Around} {E : Value → Shared → Prop} {s : Shared} {P : Params} {B : Heap} {n : Nat} {X : Addr → Prop} {q : Pp} {G : Ctxt} {H₀ h h' : Heap} {mx : Int} {lines lines' : List Str} {parts parts' : List (Str × Str)} {L fa : Addr} {name : Str} {pm cd doc dV kV : Value}

theorem chunk {e1 e2 : Expr} {f g : Str} {p0 p1 p2 : Pos} {Q : Value → Shared → Prop} (M : Lp P B q X H₀ s.heap (lawEnv L fa name pm cd doc dV kV) G mx lines parts) (R : Room (n + 6) A) (hpg : (Str.ofString "page", Slot.v (.ref q.pg)) ∈ G) (hM : noM G = true)
    (he1 : Ev pr w B (n + 6) (lawEnv L fa name pm cd doc dV kV) G e1 (.str f)) (he2 : Ev pr w B (n + 6) (lawEnv L fa name pm cd doc dV kV) G e2 (.str g)) (hz : parts.length ≤ 100) (hsh : Short (parts ++ [(f, g)])) (hlz : lines.length ≤ 100)
    {pl : Sem Bool} (hev : eval (.Call (.Attribute (.Name (Str.ofString "page") p0) (Str.ofString "_append_chunk") p1) [e1, e2] [] p2) (lawEnv L fa name pm cd doc dV kV) = (do
      let ov ← attributeBase (.Name (Str.ofString "page") p0) (Str.ofString "_append_chunk") (lawEnv L fa name pm cd doc dV kV) (eval (.Name (Str.ofString "page") p0) (lawEnv L fa name pm cd doc dV kV))
      standAt p1.atName
      let (f, first) ← holding [ov] (getMethod ov (Str.ofString "_append_chunk") pl)
      callWith p2 f first (backTo p2 (starEach [e1, e2] (lawEnv L fa name pm cd doc dV kV))) []))
    (hst : starEach [e1, e2] (lawEnv L fa name pm cd doc dV kV) = [e1, e2].map (fun e => (false, eval e (lawEnv L fa name pm cd doc dV kV))))
    (fit : total (parts ++ [(f, g)]) ≤ mx → ∀ h' tk g', (AllBare s.gens → AllBare g') → Lp P B q X H₀ h' (lawEnv L fa name pm cd doc dV kV) G mx lines (parts ++ [(f, g)]) → (∀ b o, ¬ X b → s.heap.get? b = some o → h'.get? b = some o) → Q .none { s with heap := h', toks := tk, gens := g' })
    (over : mx < total (parts ++ [(f, g)]) → ∃ j, 1 ≤ j ∧ j ≤ parts.length ∧ (∀ p : Str × Str, (parts ++ [(f, g)])[j]? = some p → firstIs p.1 32 = true) ∧ (∀ (k : Nat) (p : Str × Str), j < k → (parts ++ [(f, g)])[k]? = some p → firstIs p.1 32 = false) ∧ (∀ (k : Nat) (p : Str × Str), j ≤ k → k < parts.length → (parts ++ [(f, g)])[k]? = some p → lastIs p.2 32 = false) ∧
      (∀ (k : Nat) (p : Str × Str), (parts ++ [(f, g)])[k]? = some p → lastIs p.2 44 = false) ∧ ∀ h' tk g', (AllBare s.gens → AllBare g') → Lp P B q X H₀ h' (lawEnv L fa name pm cd doc dV kV) G mx (lines ++ [lineStr ((parts ++ [(f, g)]).take j)]) ((parts ++ [(f, g)]).drop j) → (∀ b o, ¬ X b → s.heap.get? b = some o → h'.get? b = some o) → Q .none { s with heap := h', toks := tk, gens := g' }) :
    wpAny (model pr w) A (eval (.Call (.Attribute (.Name (Str.ofString "page") p0) (Str.ofString "_append_chunk") p1) [e1, e2] [] p2) (lawEnv L fa name pm cd doc dV kV)) Q E s := by
  refine page_meth (f := 91) M.bs.K M.ps R M.F.live M.has (EvV.name hpg) rfl rfl rfl (fun m pm => pm.app) rfl hev fun h₁ t₁ g₁ => ?_
  have M₁ := M.grow g₁
  refine callWith_data (n := n + 6) (B := B) (first := [.ref q.pg]) (ds := [.str f, .str g]) (Callable.fn (M₁.b.K 91 _ rfl) rfl) (EvL.cons he1 (EvL.cons he2 EvL.nil)) hst R M₁.F.live M₁.F.has fun us h₂ t₂ g₂ qs => ?_
  cases qs with
  | cons q1 qs =>
  cases qs with
  | cons q2 qs =>
  cases qs
  cases q1
  cases q2
  have M₂ := M₁.grow g₂
  have ok : ∀ h' , Kp q h₂ h' → ∀ b o, ¬ X b → s.heap.get? b = some o → h'.get? b = some o := fun h' kp b o hb e => kp b o (fun z => hb (M.hX b z)) (g₂ _ _ (g₁ _ _ e))
  refine append_call (s := { s with heap := h₂, toks := t₂ }) (n := n) M₂.gd R M₂.ps hz hsh hlz (fun hf h' tk g' kp ps hg => fit hf h' tk g' hg (M₂.upd kp ps hM) (ok h' kp)) (fun ho => ?_)
  obtain ⟨j, a1, a2, a3, a4, a5, a6, a7⟩ := over ho
  exact ⟨j, a1, a2, a3, a4, a5, a6, fun h' tk g' kp ps hg => a7 h' tk g' hg (M₂.upd kp ps hM) (ok h' kp)⟩
end
end
-- MEB
section
noncomputable def wordC (kk c : Nat) : Str := stemC kk c ++ letC c
noncomputable def cpC : Nat → Nat
  | 0 => 97
  | 1 => 98
  | 2 => 65
  | _ => 66
theorem word_at {kk c : Nat} (h : kk ≤ 2) (hc : c < 4) : ((wordsOf kk).map D.str)[c]? = some (.str (wordC kk c)) := by
  rcases small4 hc with rfl | rfl | rfl | rfl <;> rfl
theorem word_len {kk c : Nat} (h : kk ≤ 2) (hc : c < 4) : (wordC kk c).length = kk + 1 := by
  rcases small3 h with rfl | rfl | rfl <;> rcases small4 hc with rfl | rfl | rfl | rfl <;> decide +kernel
theorem word_head {kk c : Nat} (h : kk ≤ 2) (hc : c < 4) : pickS (wordC kk c) none (some (-1)) = stemC kk c := by
  rcases small3 h with rfl | rfl | rfl <;> rcases small4 hc with rfl | rfl | rfl | rfl <;> decide +kernel
theorem word_headL {kk c : Nat} (h : kk ≤ 2) (hc : c < 4) : (Builtin.Str.strSliceIndices none (some (-1)) 1 (wordC kk c).length).length ≠ (wordC kk c).length := by
  rw [word_len h hc]
  rcases small3 h with rfl | rfl | rfl <;> decide +kernel
theorem word_last {kk c : Nat} (h : kk ≤ 2) (hc : c < 4) : (seqIndex? (-1) (wordC kk c).length).bind ((wordC kk c).cps[·]?) = some (cpC c) ∧ (⟨#[cpC c]⟩ : Str) = letC c := by
  rcases small3 h with rfl | rfl | rfl <;> rcases small4 hc with rfl | rfl | rfl | rfl <;> decide +kernel
section
variable {w : World} {A : Around} {E : Value → Shared → Prop} {s : Shared} {P : Params} {B : Heap} {n : Nat} {env : Env} {G : Ctxt} {kk c : Nat}
theorem Ev.word {p1 p2 p3 : Pos} (h : kk ≤ 2) (hc : c < 4) (hw : (Str.ofString "words", Slot.d (.lst ((wordsOf kk).map .str))) ∈ G) (hcd : (Str.ofString "code", Slot.d (.int c)) ∈ G) : Ev pr w B n env G (.Subscript (.Name (Str.ofString "words") p1) (.Name (Str.ofString "code") p2) p3) (.str (wordC kk c)) :=
  Ev.sub (Ev.name hw) (Ev.name hcd) (Op2.item_lst (k := (c : Int)) (j := c) (by unfold seqIndex?; show (if (_ : Bool) = true then _ else _) = _; rw [show ((wordsOf kk).map D.str).length = 4 from rfl]; simp; omega) (word_at h hc) (by omega) (by omega))
end
end
-- MEC
section
noncomputable def wstep (kk wide : Nat) (st : List Str × List Nat) (c : Nat) : List Str × List Nat := if st.2.length < wide then (st.1, st.2 ++ [c]) else (st.1 ++ [lineStr (partsOf kk st.2)], [c])
noncomputable def wst (kk wide : Nat) (cs : List Nat) : List Str × List Nat := cs.foldl (wstep kk wide) ([], [])
theorem wst_snoc {kk wide : Nat} {cs : List Nat} {c : Nat} : wst kk wide (cs ++ [c]) = wstep kk wide (wst kk wide cs) c := by unfold wst; rw [List.foldl_append]; rfl
theorem partsOf_snoc {kk : Nat} {cur : List Nat} {c : Nat} : partsOf kk (cur ++ [c]) = partsOf kk cur ++ [((" " : Str), stemC kk c)] ++ [(("" : Str), letC c)] := by
  unfold partsOf; rw [List.map_append, List.flatten_append, List.append_assoc]; rfl
theorem snocInd {α : Type} {motive : List α → Prop} (nil : motive []) (snoc : ∀ l a, motive l → motive (l ++ [a])) (l : List α) : motive l := by
  have key : ∀ r : List α, motive r.reverse := fun r => by
    induction r with
    | nil => exact nil
    | cons a r ih => rw [List.reverse_cons]; exact snoc _ _ ih
  have := key l.reverse
  rwa [List.reverse_reverse] at this
theorem wst_ok {kk wide : Nat} (hw : 1 ≤ wide) : ∀ (cs : List Nat), Codes cs → Codes (wst kk wide cs).2 ∧ (wst kk wide cs).2.length ≤ wide ∧ (wst kk wide cs).1.length ≤ cs.length := by
  intro cs
  refine snocInd (motive := fun cs => Codes cs → Codes (wst kk wide cs).2 ∧ (wst kk wide cs).2.length ≤ wide ∧ (wst kk wide cs).1.length ≤ cs.length) ?_ ?_ cs
  · intro _
    exact ⟨fun _ h => (by cases h), Nat.zero_le _, Nat.zero_le _⟩
  · intro cs c ih hc
    obtain ⟨h1, h2, h3⟩ := ih fun x hx => hc x (List.mem_append_left _ hx)
    have hcc := hc c (List.mem_append_right _ (.head _))
    rw [wst_snoc]
    unfold wstep
    split
    · refine ⟨fun x hx => ?_, ?_, ?_⟩
      · rcases List.mem_append.mp hx with hx | hx
        · exact h1 x hx
        · rw [List.mem_singleton.mp hx]; exact hcc
      · rw [List.length_append, List.length_singleton]; omega
      · rw [List.length_append, List.length_singleton]; show (wst kk wide cs).1.length ≤ _; omega
    · refine ⟨fun x hx => by rw [List.mem_singleton.mp hx]; exact hcc, hw, ?_⟩
      rw [List.length_append, List.length_append, List.length_singleton, List.length_singleton]; omega
end
-- MED
section
section
variable {w : World} {A : Around} {E : Value → Shared → Prop} {s : Shared} {P : Params} {B : Heap} {n : Nat} {X : Addr → Prop} {q : Pp} {G : Ctxt} {H₀ h h' : Heap} {lines lines' : List Str} {L fa : Addr} {name : Str} {pm cd doc dV kV : Value} {kk wide r c : Nat} {cur : List Nat}

theorem get_snoc {α : Type} {l : List α} {a p : α} {k : Nat} (h : (l ++ [a])[k]? = some p) : (k < l.length ∧ l[k]? = some p) ∨ (k = l.length ∧ p = a) := by
  rcases Nat.lt_or_ge k l.length with hk | hk
  · rw [List.getElem?_append_left hk] at h; exact .inl ⟨hk, h⟩
  · rw [List.getElem?_append_right hk] at h
    cases e : k - l.length with
    | zero => rw [e] at h; simp at h; exact .inr ⟨by omega, h.symm⟩
    | succ m => rw [e] at h; simp at h

theorem turn1 {e1 e2 : Expr} {p0 p1 p2 : Pos} {Q : Value → Shared → Prop} (M : Lp P B q X H₀ s.heap (lawEnv L fa name pm cd doc dV kV) G ((wide : Int) * ((kk + 2 : Nat) : Int) + (r : Int)) lines (partsOf kk cur)) (R : Room (n + 6) A) (hpg : (Str.ofString "page", Slot.v (.ref q.pg)) ∈ G) (hM : noM G = true)
    (hk2 : kk ≤ 2) (hw : 1 ≤ wide) (hw5 : wide ≤ 5) (hr : r < kk + 2) (hcur : Codes cur) (hlen : cur.length ≤ wide) (hc : c < 4) (hlz : lines.length ≤ 100)
    (he1 : Ev pr w B (n + 6) (lawEnv L fa name pm cd doc dV kV) G e1 (.str " ")) (he2 : Ev pr w B (n + 6) (lawEnv L fa name pm cd doc dV kV) G e2 (.str (stemC kk c)))
    {pl : Sem Bool} (hev : eval (.Call (.Attribute (.Name (Str.ofString "page") p0) (Str.ofString "_append_chunk") p1) [e1, e2] [] p2) (lawEnv L fa name pm cd doc dV kV) = (do
      let ov ← attributeBase (.Name (Str.ofString "page") p0) (Str.ofString "_append_chunk") (lawEnv L fa name pm cd doc dV kV) (eval (.Name (Str.ofString "page") p0) (lawEnv L fa name pm cd doc dV kV))
      standAt p1.atName
      let (f, first) ← holding [ov] (getMethod ov (Str.ofString "_append_chunk") pl)
      callWith p2 f first (backTo p2 (starEach [e1, e2] (lawEnv L fa name pm cd doc dV kV))) []))
    (hst : starEach [e1, e2] (lawEnv L fa name pm cd doc dV kV) = [e1, e2].map (fun e => (false, eval e (lawEnv L fa name pm cd doc dV kV))))
    (hq : ∀ h' tk g' lines' cur', ((lines' = lines ∧ cur' = cur ∧ (cur.length < wide ∨ r = kk + 1)) ∨ (lines' = lines ++ [lineStr (partsOf kk cur)] ∧ cur' = [] ∧ cur.length = wide)) → (AllBare s.gens → AllBare g') → Lp P B q X H₀ h' (lawEnv L fa name pm cd doc dV kV) G ((wide : Int) * ((kk + 2 : Nat) : Int) + (r : Int)) lines' (partsOf kk cur' ++ [((" " : Str), stemC kk c)]) →
      (∀ b o, ¬ X b → s.heap.get? b = some o → h'.get? b = some o) → Q .none { s with heap := h', toks := tk, gens := g' }) :
    wpAny (model pr w) A (eval (.Call (.Attribute (.Name (Str.ofString "page") p0) (Str.ofString "_append_chunk") p1) [e1, e2] [] p2) (lawEnv L fa name pm cd doc dV kV)) Q E s := by
  have hpl := partsOf_len (kk := kk) cur
  have tp := total_pieces hk2 hc
  have tt : total (partsOf kk cur ++ [((" " : Str), stemC kk c)]) = (cur.length : Int) * ((kk : Int) + 2) + ((kk : Int) + 1) := by rw [total_app, total_partsOf hk2 hcur, tp.1]
  have bf := blank_first
  have hcast : ((kk + 2 : Nat) : Int) = (kk : Int) + 2 := rfl
  refine chunk M R hpg hM he1 he2 (by rw [hpl]; omega) (fun p hp => ?_) hlz hev hst (fun hf h' tk g' hg M' kp => hq h' tk g' lines cur (.inl ⟨rfl, rfl, ?_⟩) hg M' kp) (fun ho => ?_)
  · rcases List.mem_append.mp hp with hp | hp
    · exact (parts_ok hk2 hcur hp).1
    · exact (piece_ok hk2 hc (.inl (List.mem_singleton.mp hp))).1
  · rw [tt] at hf
    rcases Nat.lt_or_ge cur.length wide with h1 | h1
    · exact .inl h1
    · right
      have e : cur.length = wide := by omega
      rw [e, hcast] at hf
      generalize (wide : Int) * ((kk : Int) + 2) = z at hf
      omega
  · rw [tt] at ho
    have e : cur.length = wide := by
      rcases Nat.lt_or_ge cur.length wide with h1 | h1
      · exfalso
        have h2 : ((cur.length : Int) + 1) * ((kk : Int) + 2) ≤ (wide : Int) * ((kk : Int) + 2) := Int.mul_le_mul_of_nonneg_right (by omega) (by omega)
        rw [Int.add_mul, Int.one_mul] at h2
        rw [hcast] at ho
        generalize (wide : Int) * ((kk : Int) + 2) = z at ho h2
        generalize (cur.length : Int) * ((kk : Int) + 2) = y at ho h2
        omega
      · omega
    refine ⟨(partsOf kk cur).length, by rw [hpl]; omega, Nat.le_refl _, fun p hp => ?_, fun k p hk hp => ?_, fun k p h1 h2 hp => by omega, fun k p hp => ?_, fun h' tk g' hg M' kp => ?_⟩
    · rcases get_snoc hp with ⟨h1, _⟩ | ⟨_, rfl⟩
      · omega
      · exact bf.1
    · rcases get_snoc hp with ⟨h1, _⟩ | ⟨h1, _⟩ <;> omega
    · rcases get_snoc hp with ⟨_, h1⟩ | ⟨_, rfl⟩
      · exact (parts_ok hk2 hcur (List.mem_of_getElem? h1)).2.1
      · exact (stemC_last hk2 hc).2
    · rw [List.take_left' rfl, List.drop_left' rfl] at M'
      exact hq h' tk g' _ [] (.inr ⟨rfl, rfl, e⟩) hg M' kp
end
end
-- MEE
section
section
variable {w : World} {A : Around} {E : Value → Shared → Prop} {s : Shared} {P : Params} {B : Heap} {n : Nat} {X : Addr → Prop} {q : Pp} {G : Ctxt} {H₀ h h' : Heap} {lines lines' : List Str} {L fa : Addr} {name : Str} {pm cd doc dV kV : Value} {kk wide r c : Nat} {cur : List Nat}

theorem turn2 {e1 e2 : Expr} {p0 p1 p2 : Pos} {Q : Value → Shared → Prop} (M : Lp P B q X H₀ s.heap (lawEnv L fa name pm cd doc dV kV) G ((wide : Int) * ((kk + 2 : Nat) : Int) + (r : Int)) lines (partsOf kk cur ++ [((" " : Str), stemC kk c)])) (R : Room (n + 6) A) (hpg : (Str.ofString "page", Slot.v (.ref q.pg)) ∈ G) (hM : noM G = true)
    (hk2 : kk ≤ 2) (hw : 1 ≤ wide) (hw5 : wide ≤ 5) (hr : r < kk + 2) (hcur : Codes cur) (hlen : cur.length < wide ∨ (cur.length = wide ∧ r = kk + 1)) (hc : c < 4) (hlz : lines.length ≤ 100)
    (he1 : Ev pr w B (n + 6) (lawEnv L fa name pm cd doc dV kV) G e1 (.str "")) (he2 : Ev pr w B (n + 6) (lawEnv L fa name pm cd doc dV kV) G e2 (.str (letC c)))
    {pl : Sem Bool} (hev : eval (.Call (.Attribute (.Name (Str.ofString "page") p0) (Str.ofString "_append_chunk") p1) [e1, e2] [] p2) (lawEnv L fa name pm cd doc dV kV) = (do
      let ov ← attributeBase (.Name (Str.ofString "page") p0) (Str.ofString "_append_chunk") (lawEnv L fa name pm cd doc dV kV) (eval (.Name (Str.ofString "page") p0) (lawEnv L fa name pm cd doc dV kV))
      standAt p1.atName
      let (f, first) ← holding [ov] (getMethod ov (Str.ofString "_append_chunk") pl)
      callWith p2 f first (backTo p2 (starEach [e1, e2] (lawEnv L fa name pm cd doc dV kV))) []))
    (hst : starEach [e1, e2] (lawEnv L fa name pm cd doc dV kV) = [e1, e2].map (fun e => (false, eval e (lawEnv L fa name pm cd doc dV kV))))
    (hq : ∀ h' tk g', (AllBare s.gens → AllBare g') → Lp P B q X H₀ h' (lawEnv L fa name pm cd doc dV kV) G ((wide : Int) * ((kk + 2 : Nat) : Int) + (r : Int)) (wstep kk wide (lines, cur) c).1 (partsOf kk (wstep kk wide (lines, cur) c).2) →
      (∀ b o, ¬ X b → s.heap.get? b = some o → h'.get? b = some o) → Q .none { s with heap := h', toks := tk, gens := g' }) :
    wpAny (model pr w) A (eval (.Call (.Attribute (.Name (Str.ofString "page") p0) (Str.ofString "_append_chunk") p1) [e1, e2] [] p2) (lawEnv L fa name pm cd doc dV kV)) Q E s := by
  have hpl := partsOf_len (kk := kk) cur
  have tp := total_pieces hk2 hc
  have tt : total ((partsOf kk cur ++ [((" " : Str), stemC kk c)]) ++ [(("" : Str), letC c)]) = ((cur.length : Int) + 1) * ((kk : Int) + 2) := by
    rw [total_app, total_app, total_partsOf hk2 hcur, tp.1, tp.2, Int.add_mul]; omega
  have bf := blank_first
  have hcast : ((kk + 2 : Nat) : Int) = (kk : Int) + 2 := rfl
  have hle : cur.length ≤ wide := by omega
  refine chunk M R hpg hM he1 he2 (by rw [List.length_append, hpl, List.length_singleton]; omega) (fun p hp => ?_) hlz hev hst (fun hf h' tk g' hg M' kp => hq h' tk g' hg ?_ kp) (fun ho => ?_)
  · rcases List.mem_append.mp hp with hp | hp
    · rcases List.mem_append.mp hp with hp | hp
      · exact (parts_ok hk2 hcur hp).1
      · exact (piece_ok hk2 hc (.inl (List.mem_singleton.mp hp))).1
    · exact (piece_ok hk2 hc (.inr (List.mem_singleton.mp hp))).1
  · have hlt : cur.length < wide := by
      rcases hlen with z | ⟨z, zr⟩
      · exact z
      · exfalso
        rw [tt, z, hcast, Int.add_mul] at hf
        generalize (wide : Int) * ((kk : Int) + 2) = y at hf
        omega
    unfold wstep
    rw [if_pos hlt, partsOf_snoc]
    exact M'
  · rw [tt] at ho
    have e : cur.length = wide := by
      rcases hlen with z | ⟨z, _⟩
      · exfalso
        have h2 : ((cur.length : Int) + 1) * ((kk : Int) + 2) ≤ (wide : Int) * ((kk : Int) + 2) := Int.mul_le_mul_of_nonneg_right (by omega) (by omega)
        rw [hcast] at ho
        generalize (wide : Int) * ((kk : Int) + 2) = z at ho h2
        generalize ((cur.length : Int) + 1) * ((kk : Int) + 2) = y at ho h2
        omega
      · exact z
    refine ⟨(partsOf kk cur).length, by rw [hpl]; omega, by rw [List.length_append]; omega, fun p hp => ?_, fun k p hk hp => ?_, fun k p h1 h2 hp => ?_, fun k p hp => ?_, fun h' tk g' hg M' kp => hq h' tk g' hg ?_ kp⟩
    · rcases get_snoc hp with ⟨_, h1⟩ | ⟨h1, _⟩
      · rcases get_snoc h1 with ⟨h1, _⟩ | ⟨_, rfl⟩
        · omega
        · exact bf.1
      · rw [List.length_append, List.length_singleton] at h1; omega
    · rcases get_snoc hp with ⟨_, h1⟩ | ⟨_, rfl⟩
      · rcases get_snoc h1 with ⟨h1, _⟩ | ⟨h1, _⟩ <;> omega
      · exact bf.2.1
    · rw [List.length_append, List.length_singleton] at h2
      rcases get_snoc hp with ⟨_, h1⟩ | ⟨h1, _⟩
      · rcases get_snoc h1 with ⟨h1, _⟩ | ⟨_, rfl⟩
        · omega
        · exact (stemC_last hk2 hc).1
      · rw [List.length_append, List.length_singleton] at h1; omega
    · rcases get_snoc hp with ⟨_, h1⟩ | ⟨_, rfl⟩
      · rcases get_snoc h1 with ⟨_, h1⟩ | ⟨_, rfl⟩
        · exact (parts_ok hk2 hcur (List.mem_of_getElem? h1)).2.1
        · exact (stemC_last hk2 hc).2
      · exact (letC_last hc).2.1
    · unfold wstep
      rw [if_neg (by simp only; omega)]
      rw [List.append_assoc, List.take_left' rfl, List.drop_left' rfl] at M'
      exact M'
end
end
-- MEF
section
section
variable {w : World} {A : Around} {E : Value → Shared → Prop} {s : Shared} {P : Params} {B : Heap} {n : Nat} {X : Addr → Prop} {q : Pp} {G : Ctxt} {H₀ h h' : Heap} {lines lines' : List Str} {L fa : Addr} {name : Str} {pm cd doc dV kV : Value} {kk wide r c : Nat} {cur cs : List Nat}
noncomputable def codeD (c : Nat) : D := .int (c : Int)
theorem st7 {Q : Flow → Shared → Prop} (M : Lp P B q X H₀ s.heap (lawEnv L fa name pm cd doc dV kV) G ((wide : Int) * ((kk + 2 : Nat) : Int) + (r : Int)) [] []) (R : Room (n + 6) A) (hpg : (Str.ofString "page", Slot.v (.ref q.pg)) ∈ G) (hM : noM G = true)
    (hwd : (Str.ofString "words", Slot.d (.lst ((wordsOf kk).map .str))) ∈ G) (hcd : (Str.ofString "codes", Slot.d (.lst (cs.map codeD))) ∈ G) (hG : (names G).contains (Str.ofString "code") = false)
    (hk2 : kk ≤ 2) (hw : 1 ≤ wide) (hw5 : wide ≤ 5) (hr : r < kk + 2) (hcs : Codes cs) (hn : cs.length ≤ 25)
    (hq : ∀ h' tk g', (AllBare s.gens → AllBare g') → Lp P B q X H₀ h' (lawEnv L fa name pm cd doc dV kV) G ((wide : Int) * ((kk + 2 : Nat) : Int) + (r : Int)) (wst kk wide cs).1 (partsOf kk (wst kk wide cs).2) → Q .next { s with heap := h', toks := tk, gens := g' }) :
    wpAny (model pr w) A (exec (lawSt 7) (lawEnv L fa name pm cd doc dV kV)) Q E s := by
  refine St.forJ (X := X) (ds := cs.map codeD) (Src.list (Ev.name hcd)) R M.F.live M.F.has
    (fun i h g => (AllBare s.gens → AllBare g) ∧ Lp P B q X H₀ h (lawEnv L fa name pm cd doc dV kV) G ((wide : Int) * ((kk + 2 : Nat) : Int) + (r : Int)) (wst kk wide (cs.take i)).1 (partsOf kk (wst kk wide (cs.take i)).2))
    ⟨id, M⟩ (fun i h h' g W a hW k => ⟨a.1, M.mv W a.2 hW k⟩) (fun i d v h tk g hd a qd => ?_) (fun h' tk g a => ?_)
  · obtain ⟨hg, Mi⟩ := a
    rw [List.getElem?_map] at hd
    cases e : cs[i]? with
    | none => rw [e] at hd; cases hd
    | some c =>
    rw [e] at hd
    cases hd
    have hc : c < 4 := hcs c (List.mem_of_getElem? e)
    have hct : Codes (cs.take i) := fun x hx => hcs x (List.mem_of_mem_take hx)
    obtain ⟨k1, k2, k3⟩ := wst_ok (kk := kk) hw (cs.take i) hct
    have k4 : (wst kk wide (cs.take i)).1.length ≤ 25 := Nat.le_trans k3 (Nat.le_trans (List.length_take_le' _ _) hn)
    have hsn : cs.take (i + 1) = cs.take i ++ [c] := by
      rw [List.take_add_one, e]; rfl
    have fin := wst_snoc (kk := kk) (wide := wide) (cs := cs.take i) (c := c)
    rw [← hsn] at fin
    generalize wst kk wide (cs.take i) = st at Mi k1 k2 k3 k4 fin
    obtain ⟨lines, cur⟩ := st
    dsimp only at Mi k1 k2 k3 k4 fin
    refine Mi.store (s := { s with heap := h, toks := tk, gens := g }) (t := .d (codeD c)) rfl hG qd fun h₂ t₂ M₂ sb => ?_
    have kp₀ : ∀ b o, ¬ X b → h.get? b = some o → h₂.get? b = some o := fun b o hb eo => sb.extBut b o (fun z => hb (z ▸ Mi.F.locX)) eo
    have wd : ∀ {p1 p2 p3 : Pos}, Ev pr w B (n + 6) (lawEnv L fa name pm cd doc dV kV) ((Str.ofString "code", .d (codeD c)) :: G) (.Subscript (.Name (Str.ofString "words") p1) (.Name (Str.ofString "code") p2) p3) (.str (wordC kk c)) := Ev.word hk2 hc (memT hwd) memH
    refine St.cons (wpAny_Expr (turn1 (s := { s with heap := h₂, toks := t₂, gens := g }) M₂ R (memT hpg) hM hk2 hw hw5 hr k1 k2 hc (by omega) Ev.str
      (Ev.slice_str (lo := none) (hi := some (-1)) wd trivial (Ev.una Ev.int Op1.neg_int) (word_head hk2 hc) (fun z => absurd z (word_headL hk2 hc)) (by rw [stemC_len hk2 hc]; exact Nat.le_trans (Nat.le_trans hk2 (by decide : 2 ≤ 100)) (Nat.le_of_ble_eq_true rfl))) rfl rfl
      fun h₃ t₃ g₃ lines' cur' hor hg₃ M₃ kp₃ => ?_))
    have hor' : Codes cur' ∧ (cur'.length < wide ∨ (cur'.length = wide ∧ r = kk + 1)) ∧ lines'.length ≤ 26 ∧ wstep kk wide (lines', cur') c = wstep kk wide (lines, cur) c := by
      rcases hor with ⟨rfl, rfl, z⟩ | ⟨rfl, rfl, z⟩
      · refine ⟨k1, ?_, by omega, rfl⟩
        rcases z with z | z
        · exact .inl z
        · rcases Nat.lt_or_ge cur'.length wide with y | y
          · exact .inl y
          · exact .inr ⟨by omega, z⟩
      · refine ⟨fun x hx => (by cases hx), .inl (by simp only [List.length_nil]; omega), by rw [List.length_append, List.length_singleton]; omega, ?_⟩
        unfold wstep
        rw [if_pos (show ([] : List Nat).length < wide by rw [List.length_nil]; omega), if_neg (show ¬ cur.length < wide by omega)]
        rfl
    obtain ⟨c1, c2, c3, c4⟩ := hor'
    show wpAny _ _ (execs _ _) _ _ _
    refine St.cons (wpAny_Expr (turn2 (s := { s with heap := h₃, toks := t₃, gens := g₃ }) M₃ R (memT hpg) hM hk2 hw hw5 hr c1 c2 hc (by omega) Ev.str
      (Ev.is (Ev.sub wd (Ev.una Ev.int Op1.neg_int) (Op2.item_str (c := cpC c) (by decide) (word_last hk2 hc).1)) (by rw [(word_last hk2 hc).2])) rfl rfl
      fun h₄ t₄ g₄ hg₄ M₄ kp₄ => ?_))
    show wpAny _ _ (execs _ _) _ _ _
    refine wpAny_execs_nil ⟨h₄, t₄, g₄, rfl, ⟨fun z => hg₄ (hg₃ (hg z)), ?_⟩, fun b o hb eo => kp₄ b o hb (kp₃ b o hb (kp₀ b o hb eo))⟩
    rw [fin, ← c4]
    exact M₄.sub fun p hp => memT hp
  · refine wpAny_execs_nil ?_
    obtain ⟨hg, M'⟩ := a
    rw [List.length_map, List.take_length] at M'
    exact hq h' tk g hg M'
end
end
-- MEG
section
section
variable {prog : Program} {w : World} {A : Around} {E : Value → Shared → Prop} {s : Shared} {P : Params} {B : Heap} {n : Nat} {X : Addr → Prop} {q : Pp} {env : Env} {G Gc : Ctxt} {Hs : Snaps} {H₀ h h' : Heap} {mx : Int} {lines : List Str} {parts : List (Str × Str)}

open Classical in
noncomputable def pull {α β : Type} (l : List α) (g : α → D) (f : α → β) (z : β) (d : D) : β := if h : ∃ a, a ∈ l ∧ g a = d then f h.choose else z
theorem pull_eq {α β : Type} {l : List α} {g : α → D} {f : α → β} {z : β} {a : α} (hg : ∀ a b, g a = g b → a = b) (ha : a ∈ l) : pull l g f z (g a) = f a := by
  have h : ∃ b, b ∈ l ∧ g b = g a := ⟨a, ha, rfl⟩
  unfold pull
  rw [dif_pos h, hg _ _ h.choose_spec.2]
theorem pull_map {α : Type} {l : List α} {g f : α → D} {z : D} (hg : ∀ a b, g a = g b → a = b) : (((l.map g).filter fun _ => true).map (pull l g f z)) = l.map f := by
  rw [List.filter_eq_self.mpr (fun _ _ => rfl), List.map_map]
  exact List.map_congr_left fun a ha => pull_eq hg ha
theorem Caught.nil {env cenv : Env} {bs : List Str} : Caught env cenv bs G [] := fun p hp => by cases hp
theorem Caught.cons {env cenv : Env} {bs : List Str} {p : Str × Slot} (hm : p ∈ G) (hb : bs.contains p.1 = false) (h1 : env.kindOf p.1 = some .cell ∨ env.kindOf p.1 = some .free) (h2 : cenv.kindOf p.1 = some .cell ∨ cenv.kindOf p.1 = some .free) (h3 : cenv.cells.lookup p.1 = env.cells.lookup p.1) (r : Caught env cenv bs G Gc) : Caught env cenv bs G (p :: Gc) := fun x hx => by
  rcases List.mem_cons.mp hx with rfl | hx
  · refine ⟨hm, fun z => ?_, h1, h2, h3⟩
    have := List.contains_iff_mem.mpr z
    rw [hb] at this; cases this
  · exact r x hx

theorem Ev.compT {α : Type} {elt target iter : Expr} {scope : Scope} {pos : Pos} {cl : List (Str × Addr)} {l : List α} {g f : α → D} {bs : α → List (Str × D)} (hg : ∀ a b, g a = g b → a = b)
    (hsrc : Src prog w B n env G iter (l.map g)) (hz : l.length ≤ sizeLine)
    (hclos : closureFor scope env = pure cl) (hcell : ∀ y ∈ scope.names, y.2 ≠ .cell) (hkind : scope.kind = .function)
    (hnames : ∀ y ∈ scope.names, y.2 = .local → scope.names.lookup y.1 = some .local)
    (hcaught : ∀ C a, a ∈ l → Caught env (compEnvC scope cl C env) ((bs a).map (·.1)) G Gc)
    (htgt : ∀ C a, a ∈ l → Tgt prog w n (compEnvC scope cl C env) target (g a) (bs a)) (hloc : ∀ C a, a ∈ l → ∀ q ∈ bs a, (compEnvC scope cl C env).kindOf q.1 = some .local)
    (helt : ∀ C a, a ∈ l → Ev prog w B n (compEnvC scope cl C env) ((bs a).map (fun q => (q.1, Slot.d q.2)) ++ Gc) elt (f a))
    (hs : ∀ x, foldedSetIterable iter env x = pure x := by intro _; rfl) :
    Ev prog w B n env G (.ListComp elt [⟨target, iter, [], 0⟩] scope pos) (.lst (l.map f)) := by
  rw [← pull_map (l := l) (g := g) (f := f) (z := .int 0) hg]
  refine Ev.comp (p := fun _ => true) (bs := pull l g bs []) (Gc := Gc) hsrc (by rw [List.length_map]; exact hz) hclos hcell hkind hnames ?_ ?_ ?_ (fun _ _ _ => rfl) ?_ hs
  · intro C d hd
    obtain ⟨a, ha, rfl⟩ := List.mem_map.mp hd
    rw [pull_eq hg ha]; exact hcaught C a ha
  · intro C d hd
    obtain ⟨a, ha, rfl⟩ := List.mem_map.mp hd
    rw [pull_eq hg ha]; exact htgt C a ha
  · intro C d hd
    obtain ⟨a, ha, rfl⟩ := List.mem_map.mp hd
    rw [pull_eq hg ha]; exact hloc C a ha
  · intro C d hd _
    obtain ⟨a, ha, rfl⟩ := List.mem_map.mp hd
    rw [pull_eq hg ha, pull_eq hg ha]; exact helt C a ha
theorem St.assignCompT {α : Type} {elt target iter : Expr} {scope : Scope} {pos spos py : Pos} {y : Str} {cl : List (Str × Addr)} {l : List α} {g f : α → D} {bs : α → List (Str × D)} {Q : Flow → Shared → Prop} (hg : ∀ a b, g a = g b → a = b)
    (hsrc : Src prog w B n env G iter (l.map g)) (hz : l.length ≤ sizeLine)
    (hclos : closureFor scope env = pure cl) (hcell : ∀ y ∈ scope.names, y.2 ≠ .cell) (hkind : scope.kind = .function)
    (hnames : ∀ y ∈ scope.names, y.2 = .local → scope.names.lookup y.1 = some .local)
    (hcaught : ∀ C a, a ∈ l → Caught env (compEnvC scope cl C env) ((bs a).map (·.1)) G Gc)
    (htgt : ∀ C a, a ∈ l → Tgt prog w n (compEnvC scope cl C env) target (g a) (bs a)) (hloc : ∀ C a, a ∈ l → ∀ q ∈ bs a, (compEnvC scope cl C env).kindOf q.1 = some .local)
    (helt : ∀ C a, a ∈ l → Ev prog w B n (compEnvC scope cl C env) ((bs a).map (fun q => (q.1, Slot.d q.2)) ++ Gc) elt (f a))
    (R : Room n A) (F : Fm B Hs X s.heap env G) (hk : env.kindOf y = some .local) (hx : (names G).contains y = false)
    (hsw : swapsWith (.ListComp elt [⟨target, iter, [], 0⟩] scope pos) (some (.Name y py)) spos.line env = pure true)
    (h : ∀ h' tk, Fm B Hs X h' env ((y, .d (.lst (l.map f))) :: G) → Q .next { s with heap := h', toks := tk })
    (hs : ∀ x, foldedSetIterable iter env x = pure x := by intro _; rfl) :
    wpAny (model prog w) A (exec (.Assign [.Name y py] (.ListComp elt [⟨target, iter, [], 0⟩] scope pos) spos) env) Q E s := by
  rw [← pull_map (l := l) (g := g) (f := f) (z := .int 0) hg] at h
  refine St.assignComp (p := fun _ => true) (bs := pull l g bs []) (Gc := Gc) hsrc (by rw [List.length_map]; exact hz) hclos hcell hkind hnames ?_ ?_ ?_ (fun _ _ _ => rfl) ?_ R F hk hx hsw h hs
  · intro C d hd
    obtain ⟨a, ha, rfl⟩ := List.mem_map.mp hd
    rw [pull_eq hg ha]; exact hcaught C a ha
  · intro C d hd
    obtain ⟨a, ha, rfl⟩ := List.mem_map.mp hd
    rw [pull_eq hg ha]; exact htgt C a ha
  · intro C d hd
    obtain ⟨a, ha, rfl⟩ := List.mem_map.mp hd
    rw [pull_eq hg ha]; exact hloc C a ha
  · intro C d hd _
    obtain ⟨a, ha, rfl⟩ := List.mem_map.mp hd
    rw [pull_eq hg ha, pull_eq hg ha]; exact helt C a ha

/-- the frame's own objects: what a statement on data may change beside what it makes -/
noncomputable def fY (env : Env) (b : Addr) : Prop := b = env.locals ∨ ∃ x, env.cells.lookup x = some b
theorem Lp.snapY (M : Lp P B q X H₀ h env G mx lines parts) : Fm B [(fY env, h), (is140, H₀)] X h env G :=
  { M.F with
    olds := fun p hp b o hb e => by
      rcases List.mem_cons.mp hp with rfl | hp
      · exact e
      · exact M.F.olds p hp b o hb e
    ownL := fun p hp => by
      rcases List.mem_cons.mp hp with rfl | hp
      · exact .inl (.inl rfl)
      · exact M.F.ownL p hp
    cells := fun x c hc => by
      obtain ⟨a, b | b⟩ := M.F.cells x c hc
      · refine ⟨a, .inl ⟨b.1, fun p hp => ?_, b.2.2⟩⟩
        rcases List.mem_cons.mp hp with rfl | hp
        · exact .inl (.inr ⟨x, hc⟩)
        · exact b.2.1 p hp
      · exact ⟨a, .inr b⟩ }
theorem Lp.back {G' : Ctxt} (M : Lp P B q X H₀ h env G mx lines parts) (F : Fm B [(fY env, h), (is140, H₀)] X h' env G') : Lp P B q X H₀ h' env G' mx lines parts := by
  have k : ∀ b o, ¬ fY env b → h.get? b = some o → h'.get? b = some o := F.olds _ (.head _)
  have nP : ∀ b, PX q b → ¬ fY env b := fun b hb z => by
    rcases z with rfl | ⟨x, hx⟩
    · exact M.nL hb
    · exact M.nC x b hx hb
  have nS : ∀ b o, h.get? b = some o → SeqO o → ¬ fY env b := fun b o e hs z => by
    rcases z with rfl | ⟨x, hx⟩
    · obtain ⟨m, hn⟩ := M.F.ns
      exact ns_not_seq hn e hs
    · obtain ⟨⟨v, hv⟩, _⟩ := M.F.cells x b hx
      exact cell_not_seq hv e hs
  have nPg : ¬ fY env q.pg := fun z => by
    obtain ⟨cc, m, I, pm⟩ := M.ps.page
    have e := I.at_
    rcases z with z | ⟨x, hx⟩
    · obtain ⟨m, o, es, ep, e', hd, _⟩ := M.F.ns
      rw [← z, e] at e'
      cases e'
      cases hd
    · obtain ⟨⟨v, o, e', hd⟩, _⟩ := M.F.cells x _ hx
      rw [e] at e'
      cases e'
      cases hd
  have bB : ∀ b o, B.get? b = some o → h.get? b = some o → h'.get? b = some o := fun b o e _ => F.has.keep b o e
  refine ⟨F.unsnap, ?_, M.b, M.hB, M.hX, M.hH, M.nL, M.nC⟩
  obtain ⟨cc, m, I, pm⟩ := M.ps.page
  obtain ⟨kk, c', t, vs, J, hc, hps⟩ := M.ps.acc
  obtain ⟨kl, vl, hl, hls⟩ := M.ps.lns
  obtain ⟨tab1, hT1⟩ := M.ps.t1
  obtain ⟨tab2, hT2⟩ := M.ps.t2
  have sk : SKeep (PX q) h h' := fun a o _ e hs => k a o (nS a o e hs) e
  have cb : ∀ c, (∃ o, B.get? c = some o) → ∀ o, h.get? c = some o → h'.get? c = some o := fun c ⟨o', e'⟩ o e => by
    have := M.F.has.keep c o' e'
    rw [e] at this
    cases this
    exact F.has.keep c o e'
  exact ⟨⟨cc, m, I.keeps (fun o e => k _ o nPg e) (fun o e => k _ o (nP _ (.inr (.inr (.inl rfl)))) e), pm⟩,
    ⟨kk, c', t, vs, J.keeps (fun o e => k _ o (nP _ (.inl rfl)) e) (fun o e => k _ o (nP _ (.inr (.inl rfl))) e), hc, AllD.skeep hps sk⟩,
    ⟨kl, vl, k _ _ (nP _ (.inr (.inr (.inr (.inl rfl))))) hl, hls.skeep sk⟩,
    ⟨tab1, code_keep hT1 (cb 144 ⟨_, M.b.K 144 _ rfl⟩) (fun o e => k _ o (nP _ (.inr (.inr (.inr (.inr (.inl rfl)))))) e)⟩, ⟨tab2, code_keep hT2 (cb 151 ⟨_, M.b.K 151 _ rfl⟩) (fun o e => k _ o (nP _ (.inr (.inr (.inr (.inr (.inr rfl)))))) e)⟩, M.ps.ap⟩
end
end
-- MEH
section
noncomputable def rowOf (cs : List Int) (wide k : Nat) : List Int := (cs.take (k * wide + wide)).drop (k * wide)
noncomputable def rowsOf (cs : List Int) (high wide : Nat) : List (List Int) := (List.range high).map (rowOf cs wide)
theorem row_le {high wide k : Nat} (hk : k < high) : k * wide + wide ≤ high * wide := by
  have : (k + 1) * wide ≤ high * wide := Nat.mul_le_mul_right _ hk
  rw [Nat.add_mul, Nat.one_mul] at this; exact this
theorem rangeSize_rows {high wide : Nat} (hh : 1 ≤ high) (hw : 1 ≤ wide) : Builtin.Range.rangeSize 0 ((high * wide : Nat) : Int) (wide : Int) = (high : Int) := by
  unfold Builtin.Range.rangeSize
  rw [if_pos (by omega)]
  have h1 : 1 * 1 ≤ high * wide := Nat.mul_le_mul hh hw
  rw [if_pos (by omega)]
  obtain ⟨m, rfl⟩ : ∃ m, high = m + 1 := ⟨high - 1, by omega⟩
  have e : ((((m + 1) * wide : Nat) : Int) - 0 - 1) = ((wide : Int) - 1) + (m : Int) * (wide : Int) := by
    rw [Nat.add_mul, Nat.one_mul]; push_cast; omega
  rw [e, Int.add_mul_ediv_right _ _ (by omega), Int.ediv_eq_zero_of_lt (by omega) (by omega)]
  push_cast; omega
section
variable {w : World} {A : Around} {E : Value → Shared → Prop} {s : Shared} {P : Params} {B : Heap} {n : Nat} {X : Addr → Prop} {q : Pp} {G : Ctxt} {H₀ h h' : Heap} {mx : Int} {lines : List Str} {parts : List (Str × Str)} {L fa : Addr} {name : Str} {pm cd doc dV kV : Value} {high wide : Nat} {cs : List Int}

theorem st8 {Q : Flow → Shared → Prop} (M : Lp P B q X H₀ s.heap (lawEnv L fa name pm cd doc dV kV) G mx lines parts) (R : Room n A) (h1 : (Str.ofString "codes", Slot.d (.lst (cs.map .int))) ∈ G) (h2 : (Str.ofString "wide", Slot.d (.int (wide : Int))) ∈ G) (hG : (names G).contains (Str.ofString "rows") = false)
    (hh : 3 ≤ high) (hh5 : high ≤ 5) (hw : 3 ≤ wide) (hw5 : wide ≤ 5) (hlen : cs.length = high * wide)
    (hq : ∀ h' tk, Lp P B q X H₀ h' (lawEnv L fa name pm cd doc dV kV) ((Str.ofString "rows", .d (rowsD (rowsOf cs high wide))) :: G) mx lines parts → Q .next { s with heap := h', toks := tk }) :
    wpAny (model pr w) A (exec (lawSt 8) (lawEnv L fa name pm cd doc dV kV)) Q E s := by
  have hN : high * wide ≤ 25 := by
    have : high * wide ≤ 5 * 5 := Nat.mul_le_mul hh5 hw5
    omega
  have sz : ∀ {m : Nat}, m ≤ 100 → m ≤ sizeLine := fun h => Nat.le_trans h (Nat.le_of_ble_eq_true rfl)
  refine St.assignCompT (α := Nat) (l := List.range high) (g := fun i => .int (0 + (i : Int) * (wide : Int))) (f := fun i => .lst ((rowOf cs wide i).map .int)) (bs := fun i => [(Str.ofString "k", .int (0 + (i : Int) * (wide : Int)))])
    (Gc := [(Str.ofString "codes", Slot.d (.lst (cs.map .int))), (Str.ofString "wide", Slot.d (.int (wide : Int)))]) (fun a b e => ?_) (Src.is (Src.range3 (a := 0) (b := ((high * wide : Nat) : Int)) (c := (wide : Int)) (N := high) (M.b.bui (by rfl) (by rfl) (by decide)) Ev.int
      (Ev.is (Ev.call (fv := .builtin "len") (ds := [.lst (cs.map .int)]) (M.b.bui (by rfl) (by rfl) (by decide)) Callable.builtin (EvL.cons (Ev.name h1) EvL.nil) (CallD.len_lst ?_)) ?_) (Ev.name h2) ?_ ?_ ?_ ?_) ?_) ?_ rfl (by decide) rfl (by decide)
    (fun C a ha => Caught.cons h1 rfl (.inl rfl) (.inl rfl) rfl (Caught.cons h2 rfl (.inl rfl) (.inl rfl) rfl Caught.nil)) (fun C a ha => Tgt.name rfl rfl) (fun C a ha q hq => by rw [List.mem_singleton.mp hq]; rfl)
    (fun C a ha => Ev.is (Ev.slice_lst (lo := some (0 + (a : Int) * (wide : Int))) (hi := some (0 + (a : Int) * (wide : Int) + (wide : Int))) (st := none) (Ev.name (memT memH)) (Ev.name memH) (Ev.bin (Ev.name memH) (Ev.name (memT (memT memH))) Op2.add_int) trivial nofun ?_ _ (fun _ _ => rfl)) ?_)
    R M.snapY rfl hG rfl fun h' tk F' => hq h' tk ?_
  · have e : (0 : Int) + (a : Int) * (wide : Int) = 0 + (b : Int) * (wide : Int) := by injection e
    have e2 : (a : Int) * (wide : Int) = (b : Int) * (wide : Int) := by omega
    have := Int.eq_of_mul_eq_mul_right (by omega) e2
    omega
  · rw [List.length_map, hlen]; exact sz (by omega)
  · rw [List.length_map, hlen]
  · refine small_of (by decide) ?_ (by omega) (by omega) (by decide) (by omega)
    unfold Builtin.Range.rangeFitsLong; simp only [Bool.and_eq_true, decide_eq_true_eq]; omega
  · exact rangeSize_rows (by omega) (by omega)
  · omega
  · omega
  · unfold rangeL
    rw [List.map_map]
    rfl
  · rw [List.length_range]; exact sz (by omega)
  · rw [List.length_map, hlen]; exact sz (by omega)
  · have hr := row_le (wide := wide) (List.mem_range.mp ha)
    have ez : (0 : Int) + (a : Int) * (wide : Int) = ((a * wide : Nat) : Int) := by push_cast; omega
    rw [ez]
    rw [pickD_of (a := a * wide) (b := a * wide + wide) ?_ (by rw [List.length_map, hlen]; exact hr)]
    · unfold rowOf
      rw [List.map_drop, List.map_take]
    · rw [List.length_map, hlen]
      unfold sliceBounds
      generalize a * wide = z at hr
      simp
      omega
  · rw [show rowsD (rowsOf cs high wide) = .lst ((List.range high).map fun i => .lst ((rowOf cs wide i).map .int)) by unfold rowsOf rowsD; rw [List.map_map]; rfl]
    exact M.back F'
end
end
-- MEI
section
theorem str_ext {x y : Str} (h : x.cps.toList = y.cps.toList) : x = y := by
  cases x with
  | mk a =>
  cases y with
  | mk b =>
  have : a = b := by
    cases a; cases b; exact congrArg Array.mk h
  rw [this]
theorem str_app (x y : Str) : (x ++ y).cps.toList = x.cps.toList ++ y.cps.toList := by
  show (x.cps ++ y.cps).toList = _
  rw [Array.toList_append]
noncomputable def rowStr (kk : Nat) (row : List Nat) : Str := Str.join (Str.ofString "") (row.map fun c => " " ++ wordC kk c)
theorem rowStr_list (kk : Nat) (row : List Nat) : (rowStr kk row).cps.toList = (row.map fun c => (" " : Str).cps.toList ++ ((stemC kk c).cps.toList ++ (letC c).cps.toList)).flatten := by
  unfold rowStr
  rw [← show Txt.join (Str.ofString "") (row.map fun c => " " ++ wordC kk c) = _ from StrLaws.glued_eq_join _ _, joinE, List.map_map]
  congr 1
  refine List.map_congr_left fun c _ => ?_
  show ((" " : Str) ++ wordC kk c).cps.toList = _
  rw [str_app]
  unfold wordC
  rw [str_app]
theorem part1_list (p : Str × Str) : (part1 p).cps.toList = p.1.cps.toList ++ p.2.cps.toList := by
  unfold part1
  rw [joinE]
  show p.1.cps.toList ++ (p.2.cps.toList ++ []) = _
  rw [List.append_nil]
theorem lineStr_list (ps : List (Str × Str)) : (lineStr ps).cps.toList = (ps.map fun p => p.1.cps.toList ++ p.2.cps.toList).flatten := by
  unfold lineStr
  rw [joinE, List.map_map]
  congr 1
  exact List.map_congr_left fun p _ => part1_list p
theorem line_row (kk : Nat) (row : List Nat) : lineStr (partsOf kk row) = rowStr kk row := by
  refine str_ext ?_
  rw [lineStr_list, rowStr_list]
  induction row with
  | nil => rfl
  | cons c r ih =>
    have e : partsOf kk (c :: r) = ((" " : Str), stemC kk c) :: (("" : Str), letC c) :: partsOf kk r := rfl
    have e0 : ("" : Str).cps.toList = [] := rfl
    rw [e, List.map_cons, List.map_cons, List.flatten_cons, List.flatten_cons, ih, List.map_cons, List.flatten_cons, e0, List.nil_append]
    rw [List.append_assoc, List.append_assoc, List.append_assoc]
theorem rowStr_len {kk : Nat} (hk : kk ≤ 2) : ∀ {row : List Nat}, Codes row → (rowStr kk row).length = row.length * (kk + 2) := by
  intro row hc
  show (rowStr kk row).cps.size = _
  rw [← Array.length_toList, rowStr_list]
  induction row with
  | nil => simp
  | cons c r ih =>
    have h1 := stemC_len hk (hc c (.head _))
    have h2 := (letC_last (hc c (.head _))).2.2
    rw [List.map_cons, List.flatten_cons, List.length_append, ih fun x hx => hc x (.tail _ hx), List.length_append, List.length_append, Array.length_toList, Array.length_toList, Array.length_toList, List.length_cons, Nat.add_mul, Nat.one_mul]
    have e1 : (" " : Str).cps.size = 1 := rfl
    have e2 : (stemC kk c).cps.size = kk := h1
    have e3 : (letC c).cps.size = 1 := h2
    omega

theorem fold_fill {kk wide : Nat} : ∀ (r : List Nat) (ls : List Str) (cur : List Nat), cur.length + r.length ≤ wide → r.foldl (wstep kk wide) (ls, cur) = (ls, cur ++ r)
  | [], ls, cur, _ => by rw [List.append_nil]; rfl
  | c :: r, ls, cur, h => by
    rw [List.length_cons] at h
    rw [List.foldl_cons]
    have e : wstep kk wide (ls, cur) c = (ls, cur ++ [c]) := by
      unfold wstep; rw [if_pos (show cur.length < wide by omega)]
    rw [e, fold_fill r ls (cur ++ [c]) (by rw [List.length_append, List.length_singleton]; omega), List.append_assoc]
    rfl
theorem fold_row {kk wide : Nat} {c : Nat} {r : List Nat} {ls : List Str} {cur : List Nat} (hc : cur.length = wide) (hr : (c :: r).length ≤ wide) : (c :: r).foldl (wstep kk wide) (ls, cur) = (ls ++ [lineStr (partsOf kk cur)], c :: r) := by
  rw [List.length_cons] at hr
  rw [List.foldl_cons]
  have e : wstep kk wide (ls, cur) c = (ls ++ [lineStr (partsOf kk cur)], [c]) := by
    unfold wstep; rw [if_neg (show ¬ cur.length < wide by omega)]
  rw [e, fold_fill r _ _ (by rw [List.length_singleton]; omega)]
  rfl
noncomputable def rowN (cs : List Nat) (wide k : Nat) : List Nat := (cs.take (k * wide + wide)).drop (k * wide)
theorem rowN_len {cs : List Nat} {wide k : Nat} (h : k * wide + wide ≤ cs.length) : (rowN cs wide k).length = wide := by
  unfold rowN; rw [List.length_drop, List.length_take]; omega
theorem rowN_codes {cs : List Nat} {wide k : Nat} (h : Codes cs) : Codes (rowN cs wide k) := fun x hx => h x (List.mem_of_mem_take (List.mem_of_mem_drop hx))
theorem take_row {cs : List Nat} {wide k : Nat} : cs.take (k * wide + wide) = cs.take (k * wide) ++ rowN cs wide k := by
  unfold rowN
  have : cs.take (k * wide) = (cs.take (k * wide + wide)).take (k * wide) := by
    rw [List.take_take, Nat.min_eq_left (by omega)]
  rw [this, List.take_append_drop]
theorem wst_rows {kk wide : Nat} {cs : List Nat} (hw : 1 ≤ wide) : ∀ (k : Nat), k * wide + wide ≤ cs.length → wst kk wide (cs.take (k * wide + wide)) = ((List.range k).map fun i => rowStr kk (rowN cs wide i), rowN cs wide k)
  | 0, h => by
    have e := take_row (cs := cs) (wide := wide) (k := 0)
    rw [e, Nat.zero_mul, List.take_zero, List.nil_append]
    unfold wst
    rw [fold_fill _ _ _ (by rw [rowN_len h]; exact Nat.le_of_eq (Nat.zero_add _))]
    rfl
  | k + 1, h => by
    have e1 : (k + 1) * wide = k * wide + wide := by rw [Nat.add_mul, Nat.one_mul]
    have ih := wst_rows (kk := kk) (cs := cs) hw k (by rw [e1] at h; omega)
    have hl := rowN_len h
    have hl0 : (rowN cs wide k).length = wide := rowN_len (by rw [e1] at h; omega)
    rw [take_row (k := k + 1), e1]
    unfold wst at ih ⊢
    rw [List.foldl_append, ih]
    cases er : rowN cs wide (k + 1) with
    | nil => rw [er] at hl; rw [List.length_nil] at hl; omega
    | cons c r =>
      rw [fold_row hl0 (by rw [← er, hl]; exact Nat.le_refl _), line_row, List.range_succ, List.map_append]
      rfl
theorem not_space {x : Str} {c : Nat} (hm : c ∈ x.cps.toList) (hc : Unicode.isSpace c = false) : Txt.isspace x = false := by
  unfold Txt.isspace
  rw [Bool.and_eq_false_iff]
  right
  rw [Array.all_eq_false']
  exact ⟨c, Array.mem_toList_iff.mp hm, by rw [hc]; decide⟩
theorem cp_space : ∀ c, c < 4 → Unicode.isSpace (cpC c) = false := by decide +kernel
theorem let_cps : ∀ c, c < 4 → (letC c).cps.toList = [cpC c] := by decide +kernel
theorem row_not_space {kk c : Nat} {row : List Nat} (hm : c ∈ row) (hc : c < 4) : Txt.isspace (rowStr kk row) = false := by
  refine not_space (c := cpC c) ?_ (cp_space c hc)
  rw [rowStr_list, List.mem_flatten]
  refine ⟨_, List.mem_map.mpr ⟨c, hm, rfl⟩, ?_⟩
  rw [let_cps c hc]
  simp
theorem part_shaped : ∀ c, c < 4 → SeqAt.shaped (toPy (partD (("" : Str), letC c))) = true := fun c hc => by
  have h : PyData.strOk ("" : Str) = true ∧ PyData.strOk (letC c) = true := by
    rcases small4 hc with rfl | rfl | rfl | rfl <;> decide +kernel
  simp [toPy, toPys, SeqAt.shaped, PyData.canLay0, PyData.canLayAll0, PyData.depth, PyData.depthAll, h]
theorem part_ne : ∀ c, c < 4 → PyData.eqv (toPy (partD (("" : Str), letC c))) (toPy (.tup [.str " ", .str ""])) = false := fun c hc => by
  rcases small4 hc with rfl | rfl | rfl | rfl <;> decide +kernel
end
-- MEJ
section
noncomputable def intC (c : Nat) : Int := (c : Int)
theorem codeD_inj {a b : Nat} (h : codeD a = codeD b) : a = b := by
  unfold codeD at h
  injection h with h
  omega
theorem codes_inj : ∀ {a b : List Nat}, a.map codeD = b.map codeD → a = b
  | [], [], _ => rfl
  | [], _ :: _, h => by cases h
  | _ :: _, [], h => by cases h
  | x :: a, y :: b, h => by
    rw [List.map_cons, List.map_cons] at h
    injection h with h1 h2
    rw [codeD_inj h1, codes_inj h2]
theorem rowsD_nat {cs : List Nat} {high wide : Nat} : rowsD (rowsOf (cs.map intC) high wide) = .lst (((List.range high).map (rowN cs wide)).map fun r => .lst (r.map codeD)) := by
  unfold rowsOf
  show D.lst (((List.range high).map (rowOf (cs.map intC) wide)).map fun r => .lst (r.map .int)) = _
  rw [List.map_map, List.map_map]
  congr 1
  refine List.map_congr_left fun k _ => ?_
  show D.lst ((rowOf (cs.map intC) wide k).map .int) = .lst ((rowN cs wide k).map codeD)
  unfold rowOf rowN
  rw [← List.map_take, ← List.map_drop, List.map_map]
  rfl
section
variable {w : World} {A : Around} {E : Value → Shared → Prop} {s : Shared} {P : Params} {B : Heap} {n : Nat} {X : Addr → Prop} {q : Pp} {G : Ctxt} {H₀ h h' : Heap} {mx : Int} {lines : List Str} {parts : List (Str × Str)} {L fa : Addr} {name : Str} {pm cd doc dV kV : Value} {high wide kk : Nat} {cs : List Nat}

theorem st9 {Q : Flow → Shared → Prop} (M : Lp P B q X H₀ s.heap (lawEnv L fa name pm cd doc dV kV) G mx (wst kk wide cs).1 (partsOf kk (wst kk wide cs).2)) (R : Room (n + 7) A) (hpg : (Str.ofString "page", Slot.v (.ref q.pg)) ∈ G) (hM : noM G = true)
    (hwd : (Str.ofString "words", Slot.d (.lst ((wordsOf kk).map .str))) ∈ G) (hrw : (Str.ofString "rows", Slot.d (rowsD (rowsOf (cs.map intC) high wide))) ∈ G) (hk2 : kk ≤ 2) (hh : 3 ≤ high) (hh5 : high ≤ 5) (hw : 3 ≤ wide) (hw5 : wide ≤ 5) (hcs : Codes cs) (hlen : cs.length = high * wide)
    (hq : ∀ h' tk g' lines', (AllBare s.gens → AllBare g') → Lp P B q X H₀ h' (lawEnv L fa name pm cd doc dV kV) G mx lines' [] → Q .next { s with heap := h', toks := tk, gens := g' }) :
    wpAny (model pr w) A (exec (lawSt 9) (lawEnv L fa name pm cd doc dV kV)) Q E s := by
  have sz : ∀ {m : Nat}, m ≤ 1000 → m ≤ sizeLine := fun h => Nat.le_trans h (Nat.le_of_ble_eq_true rfl)
  obtain ⟨m, rfl⟩ : ∃ m, high = m + 1 := ⟨high - 1, by omega⟩
  have em : m * wide + wide = cs.length := by rw [hlen, Nat.add_mul, Nat.one_mul]
  have hl := wst_rows (kk := kk) (cs := cs) (wide := wide) (by omega) m (Nat.le_of_eq em)
  rw [em, List.take_length] at hl
  rw [hl] at M
  have rl : ∀ k, k < m + 1 → (rowN cs wide k).length = wide := fun k hk => rowN_len (by rw [hlen]; exact row_le hk)
  have rc : ∀ k, Codes (rowN cs wide k) := fun k => rowN_codes hcs
  have hlast : ∃ r c, rowN cs wide m = r ++ [c] := by
    rcases List.eq_nil_or_concat (rowN cs wide m) with z | ⟨r, c, z⟩
    · have := rl m (by omega); rw [z, List.length_nil] at this; omega
    · exact ⟨r, c, by rw [z, List.concat_eq_append]⟩
  obtain ⟨r, c, hrc⟩ := hlast
  have hcc : c < 4 := rc m c (by rw [hrc]; exact List.mem_append_right _ (.head _))
  have eparts : partsOf kk (rowN cs wide m) = (partsOf kk r ++ [((" " : Str), stemC kk c)]) ++ [(("" : Str), letC c)] := by rw [hrc]; exact partsOf_snoc
  have lall : ∀ k, k < m + 1 → (rowStr kk (rowN cs wide k)).length ≤ 20 := fun k hk => by
    rw [rowStr_len hk2 (rc k), rl k hk]
    have : wide * (kk + 2) ≤ 5 * 4 := Nat.mul_le_mul hw5 (by omega)
    omega
  have lsum : ∀ l : List Nat, (∀ k ∈ l, k < m + 1) → ((l.map fun k => rowStr kk (rowN cs wide k)).map (·.length)).sum ≤ 20 * l.length := by
    intro l
    induction l with
    | nil => intro _; exact Nat.zero_le _
    | cons k l ih =>
      intro h
      have h1 := ih fun x hx => h x (.tail _ hx)
      have h2 := lall k (h k (.head _))
      rw [List.map_cons, List.map_cons, List.sum_cons, List.length_cons]
      omega
  have hall : ((List.range m).map fun i => rowStr kk (rowN cs wide i)) ++ [lineStr (partsOf kk (rowN cs wide m))] = (List.range (m + 1)).map fun i => rowStr kk (rowN cs wide i) := by
    rw [List.range_succ, List.map_append, line_row]; rfl
  have hfit : (((List.range (m + 1)).map fun i => rowStr kk (rowN cs wide i)).map (·.length)).sum + ((List.range (m + 1)).map fun i => rowStr kk (rowN cs wide i)).length * ("\n" : Str).length ≤ sizeLine := by
    have h1 := lsum (List.range (m + 1)) fun k hk => List.mem_range.mp hk
    rw [List.length_map, List.length_range]
    rw [List.length_range] at h1
    have e : ("\n" : Str).length = 1 := rfl
    rw [e]
    exact sz (by omega)
  have htot : total (partsOf kk (rowN cs wide m)) = (wide : Int) * ((kk : Int) + 2) := by
    rw [total_partsOf hk2 (rc m), rl m (by omega)]
  have hpos : 0 < total (partsOf kk (rowN cs wide m)) := by
    rw [htot]; exact Int.mul_pos (by omega) (by omega)
  refine wpAny_If (wpAny_isTrue_Compare1 (page_meth (f := 42) M.bs.K M.ps R M.F.live M.has (EvV.name hpg) rfl rfl rfl (fun m pm => pm.str) rfl rfl fun h₁ t₁ g₁ => ?_))
  have M₁ := M.grow g₁
  refine callWith_data (n := n + 7) (B := B) (first := [.ref q.pg]) (ds := [.str "\n"]) (Callable.fn (M₁.b.K 42 _ rfl) rfl) (EvL.cons Ev.str EvL.nil) rfl R M₁.F.live M₁.F.has fun us h₂ t₂ g₂ qs => ?_
  cases qs with
  | cons q1 qs =>
  cases qs
  cases q1
  have M₂ := M₁.grow g₂
  have hps := M₂.ps
  rw [eparts] at hps
  have hpl := partsOf_len (kk := kk) r
  have hrl := rl m (by omega)
  rw [hrc, List.length_append, List.length_singleton] at hrl
  refine pstr_call (s := { s with heap := h₂, toks := t₂ }) (n := n) M₂.gd R hps (by rw [List.length_append, List.length_singleton, hpl]; omega) (fun p hp => (parts_ok hk2 (rc m) (by rw [eparts]; exact hp)).1) (part_shaped c hcc) (part_ne c hcc) (by rw [← eparts]; exact hpos) ?_ ?_ ?_ fun t h₃ t₃ g₃ kp ps hg => ?_
  · rw [← eparts, line_row]; exact row_not_space (by rw [hrc]; exact List.mem_append_right _ (.head _)) hcc
  · rw [List.length_map, List.length_range]; omega
  · rw [← eparts, hall]; exact hfit
  have M₃ := M₂.upd kp ps hM
  rw [← eparts, hall]
  refine Ev.run (s := { s with heap := h₃, toks := t₃, gens := g₃ }) (Ev.join (sep := "\n") (xs := (List.range (m + 1)).map fun i => rowStr kk (rowN cs wide i)) Ev.str (Ev.is (Ev.compT (α := List Nat) (l := (List.range (m + 1)).map (rowN cs wide)) (g := fun r => .lst (r.map codeD)) (f := fun r => .str (rowStr kk r)) (bs := fun r => [(Str.ofString "row", .lst (r.map codeD))])
    (Gc := [(Str.ofString "words", Slot.d (.lst ((wordsOf kk).map .str)))]) (fun a b e => codes_inj (by injection e)) (Src.is (Src.list (Ev.name hrw)) ?_) ?_ rfl (by decide) rfl (by decide)
    (fun C a ha => Caught.cons hwd rfl (.inl rfl) (.inl rfl) rfl Caught.nil) (fun C a ha => Tgt.name rfl rfl) (fun C a ha q hq => by rw [List.mem_singleton.mp hq]; rfl)
    (fun C a ha => Ev.join (sep := "") (xs := a.map fun c => " " ++ wordC kk c) Ev.str (Ev.is (Ev.compT (α := Nat) (l := a) (g := codeD) (f := fun c => .str (" " ++ wordC kk c)) (bs := fun c => [(Str.ofString "code", codeD c)]) (Gc := [(Str.ofString "words", Slot.d (.lst ((wordsOf kk).map .str)))])
      (fun a b e => codeD_inj e) (Src.list (Ev.name memH)) ?_ rfl (by decide) rfl (by decide) (fun C a ha => Caught.cons (memT memH) rfl (.inl rfl) (.inl rfl) rfl Caught.nil) (fun C a ha => Tgt.name rfl rfl) (fun C a ha q hq => by rw [List.mem_singleton.mp hq]; rfl)
      (fun C c hc => Ev.bin Ev.str (Ev.word hk2 ?_ (memT memH) memH) (Op2.add_str ?_))) ?_) ?_)) ?_) ?_) R M₃.F.live M₃.has fun v h₄ t₄ g₄ q₄ => ?_
  · have h := rowsD_nat (cs := cs) (high := m + 1) (wide := wide)
    injection h
  · rw [List.length_map, List.length_range]; exact sz (by omega)
  · obtain ⟨k, hk, rfl⟩ := List.mem_map.mp ha
    rw [rl k (List.mem_range.mp hk)]; exact sz (by omega)
  · obtain ⟨k, hk, rfl⟩ := List.mem_map.mp ha
    exact rc k c hc
  · obtain ⟨k, hk, rfl⟩ := List.mem_map.mp ha
    rw [word_len hk2 (rc k c hc)]
    have e : (Str.ofString " ").length = 1 := rfl
    rw [e]; exact sz (by omega)
  · rw [List.map_map]; rfl
  · obtain ⟨k, hk, rfl⟩ := List.mem_map.mp ha
    have e0 : ("" : Str).length = 0 := rfl
    rw [e0, Nat.mul_zero, Nat.add_zero]
    have h1 := lall k (List.mem_range.mp hk)
    unfold rowStr at h1
    rw [← show Txt.join (Str.ofString "") ((rowN cs wide k).map fun c => " " ++ wordC kk c) = _ from StrLaws.glued_eq_join _ _, join_len0] at h1
    exact sz (by omega)
  · rw [List.map_map, List.map_map]; rfl
  · exact hfit
  cases q₄ with
  | str _ t' =>
  refine Op2.ne_str (n := n) (B := B) A X _ E _ _ _ ⟨R.1, by have := R.2.1; omega, by have := R.2.2; omega⟩ (M₃.F.live.grow g₄) (M₃.F.has.keep.trans g₄) (.str _ _) (.str _ _) fun r h₅ t₅ g₅ q₅ => ?_
  cases q₅
  refine wpAny_truthy_bool ?_
  rw [bne_self_eq_false, if_neg (by decide)]
  exact wpAny_execs_nil (hq h₅ t₅ g₃ _ hg (M₃.grow (g₄.trans g₅)))
end
end
-- MEK
section
noncomputable def bools (bs : List Bool) : D := .lst (bs.map .bool)
theorem boolLay : ∀ bs : List Bool, PyData.canLayAll0 (toPys (bs.map .bool)) = true
  | [] => rfl
  | b :: bs => by simp [toPys, toPy, PyData.canLayAll0, PyData.canLay0, boolLay bs]
theorem boolDepth : ∀ bs : List Bool, PyData.depthAll (toPys (bs.map .bool)) ≤ 2
  | [] => by simp [toPys, PyData.depthAll]
  | b :: bs => by
    have := boolDepth bs
    simp only [List.map_cons, toPys, toPy, PyData.depthAll, PyData.depth]
    omega
theorem bools_shaped (bs : List Bool) : SeqAt.shaped (toPy (bools bs)) = true := by
  have h1 := boolLay bs
  have h2 := boolDepth bs
  unfold bools
  simp only [toPy, SeqAt.shaped, PyData.canLay0, PyData.depth, h1, Bool.true_and, decide_eq_true_eq]
  omega
theorem Op2.ne_bools {prog : Program} {w : World} {B : Heap} {n : Nat} {bs : List Bool} : Op2 prog w B n (compareOp .NotEq) (bools bs) (bools bs) (.bool false) := by
  have h := Op2.ne_any (prog := prog) (w := w) (B := B) (n := n) (bools_shaped bs) (bools_shaped bs)
  have e : PyData.eqv (toPy (bools bs)) (toPy (bools bs)) = true := SeqAt.eqv_refl _ (SeqAt.canLay_of_shaped (bools_shaped bs))
  rw [e] at h
  exact h
noncomputable def pairD (p : Nat × Nat) : D := .tup [codeD p.1, codeD p.2]
theorem pairD_inj {a b : Nat × Nat} (h : pairD a = pairD b) : a = b := by
  unfold pairD at h
  injection h with h
  injection h with h1 h2
  injection h2 with h2 _
  exact Prod.ext (codeD_inj h1) (codeD_inj h2)
theorem pairEqv (p : Nat × Nat) (x y : Nat) : PyData.eqv (toPy (pairD p)) (toPy (.tup [.int (x : Int), .int (y : Int)])) = decide (p = (x, y)) := by
  obtain ⟨a, b⟩ := p
  simp only [pairD, codeD, toPy, toPys, PyData.eqv, PyData.eqvAll, Bool.and_true]
  rw [Bool.eq_iff_iff]
  simp only [Bool.and_eq_true, beq_iff_eq, decide_eq_true_eq, Prod.mk.injEq]
  omega
noncomputable def cnt (x y : Nat) (l : List (Nat × Nat)) : Nat := l.countP fun p => decide (p = (x, y))
theorem cnt_eqv (x y : Nat) (l : List (Nat × Nat)) : ((l.map pairD).countP fun z => PyData.eqv (toPy z) (toPy (.tup [.int (x : Int), .int (y : Int)]))) = cnt x y l := by
  unfold cnt
  rw [List.countP_map]
  congr 1
  funext p
  exact pairEqv p x y
theorem pairsLay : ∀ l : List (Nat × Nat), PyData.canLayAll0 (toPys (l.map pairD)) = true
  | [] => rfl
  | p :: l => by simp [toPys, toPy, pairD, codeD, PyData.canLayAll0, PyData.canLay0, pairsLay l]
theorem intsLay : ∀ l : List Int, PyData.canLayAll0 (toPys (l.map .int)) = true
  | [] => rfl
  | p :: l => by simp [toPys, toPy, PyData.canLayAll0, PyData.canLay0, intsLay l]
noncomputable def cntI (k : Int) (l : List Int) : Nat := l.countP fun z => z == k
theorem cntI_eqv (k : Int) (l : List Int) : ((l.map D.int).countP fun z => PyData.eqv (toPy z) (toPy (.int k))) = cntI k l := by
  unfold cntI
  rw [List.countP_map]
  congr 1
noncomputable def costN (x y : Nat) : Int := if x = y then 0 else if x % 2 = y % 2 then 1 else 2
noncomputable def rk : Nat → Nat
  | 0 => 2
  | 1 => 3
  | 2 => 0
  | _ => 1
noncomputable def turnN (x y : Nat) : Int := if x % 2 = y % 2 then 0 else if rk y < rk x then 1 else -1
theorem cost_tab {kk x y : Nat} (h : kk ≤ 2) (hx : x < 4) (hy : y < 4) : subcost (wordC kk x) (wordC kk y) = costN x y := by
  rcases small3 h with rfl | rfl | rfl <;> rcases small4 hx with rfl | rfl | rfl | rfl <;> rcases small4 hy with rfl | rfl | rfl | rfl <;> decide +kernel
theorem strcoll_tab {kk x y : Nat} (h : kk ≤ 2) (hx : x < 4) (hy : y < 4) (hxy : x % 2 ≠ y % 2) : strcoll (wordC kk x) (wordC kk y) = turnN x y := by
  rcases small3 h with rfl | rfl | rfl <;> rcases small4 hx with rfl | rfl | rfl | rfl <;> rcases small4 hy with rfl | rfl | rfl | rfl <;> first | exact absurd rfl hxy | decide +kernel
theorem lower_ok {kk x : Nat} (h : kk ≤ 2) (hx : x < 4) : Builtin.Str.tooLong (Txt.lower (wordC kk x)).length = false := by
  rcases small3 h with rfl | rfl | rfl <;> rcases small4 hx with rfl | rfl | rfl | rfl <;> decide +kernel
section
variable {w : World} {A : Around} {E : Value → Shared → Prop} {s : Shared} {P : Params} {B : Heap} {n : Nat} {env : Env} {G : Ctxt} {kk c : Nat}
theorem Ev.wordAt {x : Str} {p1 p2 p3 : Pos} (h : kk ≤ 2) (hc : c < 4) (hw : (Str.ofString "words", Slot.d (.lst ((wordsOf kk).map .str))) ∈ G) (hcd : (x, Slot.d (codeD c)) ∈ G) (hd : (x == ("__debug__" : Str)) = false := by decide) (hcl : (x == ("__classdict__" : Str)) = false := by decide)
    (hs : ∀ o i, subscripted (.Name x p2) false o i = operate [o, i] (getItem o i) := by intro _ _; rfl) : Ev pr w B n env G (.Subscript (.Name (Str.ofString "words") p1) (.Name x p2) p3) (.str (wordC kk c)) :=
  Ev.sub (Ev.name hw) (Ev.name hcd hd hcl) (Op2.item_lst (k := (c : Int)) (j := c) (by unfold seqIndex?; show (if (_ : Bool) = true then _ else _) = _; rw [show ((wordsOf kk).map D.str).length = 4 from rfl]; simp; omega) (word_at h hc) (by omega) (by omega) hs)
end
/-- picks out of short lists -/
theorem pick_mid {α : Type} {l : List α} (h : 3 ≤ l.length) : pickD l (some 1) (some (-1)) none = (l.take (l.length - 1)).drop 1 := by
  refine pickD_of ?_ (by omega)
  unfold sliceBounds
  simp
  omega
theorem pick_rev {α : Type} {l : List α} (h : 3 ≤ l.length) (h5 : l.length ≤ 5) : pickD l none none (some (-1)) = l.reverse := by
  exact match l, h, h5 with
  | [a, b, c], _, _ => by
    show ((sliceRange (sliceBounds none none (some (-1)) 3).1 (sliceBounds none none (some (-1)) 3).2.1 (sliceBounds none none (some (-1)) 3).2.2).filterMap ([a, b, c][·]?)) = _
    rw [show sliceRange (sliceBounds none none (some (-1)) 3).1 (sliceBounds none none (some (-1)) 3).2.1 (sliceBounds none none (some (-1)) 3).2.2 = [2, 1, 0] by decide +kernel]
    rfl
  | [a, b, c, d], _, _ => by
    show ((sliceRange (sliceBounds none none (some (-1)) 4).1 (sliceBounds none none (some (-1)) 4).2.1 (sliceBounds none none (some (-1)) 4).2.2).filterMap ([a, b, c, d][·]?)) = _
    rw [show sliceRange (sliceBounds none none (some (-1)) 4).1 (sliceBounds none none (some (-1)) 4).2.1 (sliceBounds none none (some (-1)) 4).2.2 = [3, 2, 1, 0] by decide +kernel]
    rfl
  | [a, b, c, d, e], _, _ => by
    show ((sliceRange (sliceBounds none none (some (-1)) 5).1 (sliceBounds none none (some (-1)) 5).2.1 (sliceBounds none none (some (-1)) 5).2.2).filterMap ([a, b, c, d, e][·]?)) = _
    rw [show sliceRange (sliceBounds none none (some (-1)) 5).1 (sliceBounds none none (some (-1)) 5).2.1 (sliceBounds none none (some (-1)) 5).2.2 = [4, 3, 2, 1, 0] by decide +kernel]
    rfl
theorem pick_back {α : Type} {l : List α} (h : 3 ≤ l.length) (h5 : l.length ≤ 5) : pickD l (some (-2)) (some 0) (some (-1)) = ((l.take (l.length - 1)).drop 1).reverse := by
  exact match l, h, h5 with
  | [a, b, c], _, _ => by
    show ((sliceRange (sliceBounds (some (-2)) (some 0) (some (-1)) 3).1 (sliceBounds (some (-2)) (some 0) (some (-1)) 3).2.1 (sliceBounds (some (-2)) (some 0) (some (-1)) 3).2.2).filterMap ([a, b, c][·]?)) = _
    rw [show sliceRange (sliceBounds (some (-2)) (some 0) (some (-1)) 3).1 (sliceBounds (some (-2)) (some 0) (some (-1)) 3).2.1 (sliceBounds (some (-2)) (some 0) (some (-1)) 3).2.2 = [1] by decide +kernel]
    rfl
  | [a, b, c, d], _, _ => by
    show ((sliceRange (sliceBounds (some (-2)) (some 0) (some (-1)) 4).1 (sliceBounds (some (-2)) (some 0) (some (-1)) 4).2.1 (sliceBounds (some (-2)) (some 0) (some (-1)) 4).2.2).filterMap ([a, b, c, d][·]?)) = _
    rw [show sliceRange (sliceBounds (some (-2)) (some 0) (some (-1)) 4).1 (sliceBounds (some (-2)) (some 0) (some (-1)) 4).2.1 (sliceBounds (some (-2)) (some 0) (some (-1)) 4).2.2 = [2, 1] by decide +kernel]
    rfl
  | [a, b, c, d, e], _, _ => by
    show ((sliceRange (sliceBounds (some (-2)) (some 0) (some (-1)) 5).1 (sliceBounds (some (-2)) (some 0) (some (-1)) 5).2.1 (sliceBounds (some (-2)) (some 0) (some (-1)) 5).2.2).filterMap ([a, b, c, d, e][·]?)) = _
    rw [show sliceRange (sliceBounds (some (-2)) (some 0) (some (-1)) 5).1 (sliceBounds (some (-2)) (some 0) (some (-1)) 5).2.1 (sliceBounds (some (-2)) (some 0) (some (-1)) 5).2.2 = [3, 2, 1] by decide +kernel]
    rfl
noncomputable def rD (r : List Nat) : D := .lst (r.map codeD)
theorem rD_inj {a b : List Nat} (h : rD a = rD b) : a = b := codes_inj (by unfold rD at h; injection h)
noncomputable def nat0 (r : List Nat) : Nat := r[0]?.getD 0
noncomputable def natL (r : List Nat) : Nat := r[r.length - 1]?.getD 0
noncomputable def row0 (rs : List (List Nat)) : List Nat := rs[0]?.getD []
noncomputable def rowL (rs : List (List Nat)) : List Nat := rs[rs.length - 1]?.getD []
noncomputable def midR (rs : List (List Nat)) : List (List Nat) := (rs.take (rs.length - 1)).drop 1
noncomputable def ringL (rs : List (List Nat)) : List Nat := row0 rs ++ (midR rs).map natL ++ (rowL rs).reverse ++ ((midR rs).reverse).map nat0
structure Page (rs : List (List Nat)) (wide : Nat) : Prop where
  h3 : 3 ≤ rs.length
  h5 : rs.length ≤ 5
  w3 : 3 ≤ wide
  w5 : wide ≤ 5
  row : ∀ r ∈ rs, r.length = wide
  codes : ∀ r ∈ rs, Codes r
theorem map_at {α β : Type} {f : α → β} {l : List α} {k : Nat} {z : α} (h : k < l.length) : (l.map f)[k]? = some (f (l[k]?.getD z)) := by
  rw [List.getElem?_map, List.getElem?_eq_getElem h]; rfl
theorem mem_at {α : Type} {l : List α} {k : Nat} {z : α} (h : k < l.length) : l[k]?.getD z ∈ l := by
  rw [List.getElem?_eq_getElem h]; exact List.getElem_mem h
theorem seqIndex_last {n : Nat} (h : 0 < n) : seqIndex? (-1) n = some (n - 1) := by
  unfold seqIndex?
  simp
  omega
theorem mid_mem {rs : List (List Nat)} {r : List Nat} (h : r ∈ midR rs) : r ∈ rs := List.mem_of_mem_take (List.mem_of_mem_drop h)
theorem mid_len (rs : List (List Nat)) : (midR rs).length = rs.length - 1 - 1 := by
  unfold midR; rw [List.length_drop, List.length_take]; omega
theorem Page.row0 {rs : List (List Nat)} {wide : Nat} (p : Page rs wide) : Mine.row0 rs ∈ rs := mem_at (by have := p.h3; omega)
theorem Page.rowL {rs : List (List Nat)} {wide : Nat} (p : Page rs wide) : Mine.rowL rs ∈ rs := mem_at (by have := p.h3; omega)
theorem Page.ringLen {rs : List (List Nat)} {wide : Nat} (p : Page rs wide) : (ringL rs).length = 2 * (wide + (rs.length - 2)) := by
  have h3 := p.h3
  unfold ringL
  rw [List.length_append, List.length_append, List.length_append, List.length_map, List.length_map, List.length_reverse, List.length_reverse, mid_len, p.row _ p.row0, p.row _ p.rowL]
  omega
theorem Page.ringCodes {rs : List (List Nat)} {wide : Nat} (p : Page rs wide) : Codes (ringL rs) := by
  have w3 := p.w3
  intro c hc
  unfold ringL at hc
  rcases List.mem_append.mp hc with hc | hc
  · rcases List.mem_append.mp hc with hc | hc
    · rcases List.mem_append.mp hc with hc | hc
      · exact p.codes _ p.row0 c hc
      · obtain ⟨r, hr, rfl⟩ := List.mem_map.mp hc
        have hr := mid_mem hr
        exact p.codes r hr _ (mem_at (by rw [p.row r hr]; omega))
    · exact p.codes _ p.rowL c (List.mem_reverse.mp hc)
  · obtain ⟨r, hr, rfl⟩ := List.mem_map.mp hc
    have hr := mid_mem (List.mem_reverse.mp hr)
    exact p.codes r hr _ (mem_at (by rw [p.row r hr]; omega))
noncomputable def stepAt (ring : List Nat) (k : Nat) : Nat × Nat := (ring[if k = 0 then ring.length - 1 else k - 1]?.getD 0, ring[k]?.getD 0)
noncomputable def stepsL (ring : List Nat) : List (Nat × Nat) := (List.range ring.length).map (stepAt ring)
theorem steps_codes {ring : List Nat} (h : Codes ring) {p : Nat × Nat} (hp : p ∈ stepsL ring) : p.1 < 4 ∧ p.2 < 4 := by
  obtain ⟨k, hk, rfl⟩ := List.mem_map.mp hp
  have hk := List.mem_range.mp hk
  refine ⟨h _ (mem_at ?_), h _ (mem_at hk)⟩
  split <;> omega
end
-- MEL
section
section
variable {w : World} {A : Around} {E : Value → Shared → Prop} {s : Shared} {P : Params} {B : Heap} {n : Nat} {X : Addr → Prop} {Hs : Snaps} {G : Ctxt} {L fa : Addr} {name : Str} {pm cd doc dV kV : Value} {wide kk : Nat} {rs : List (List Nat)} {ring : List Nat} {env : Env}

theorem Ev.neg {i : Int} {k : Nat} {p1 p2 : Pos} : Ev pr w B n env G (.UnaryOp .USub (.Constant (.int i) k p1) p2) (.int (-i)) := Ev.una Ev.int Op1.neg_int
theorem sz1000 {m : Nat} (h : m ≤ 1000) : m ≤ sizeLine := Nat.le_trans h (Nat.le_of_ble_eq_true rfl)
theorem st10 {Q : Flow → Shared → Prop} (p : Page rs wide) (R : Room n A) (hC : ∀ x c, (lawEnv L fa name pm cd doc dV kV).cells.lookup x = some c → B.get? c = none) (F : Fm B Hs X s.heap (lawEnv L fa name pm cd doc dV kV) G)
    (h1 : (Str.ofString "rows", Slot.d (.lst (rs.map rD))) ∈ G) (hG : (names G).contains (Str.ofString "ring") = false)
    (h : ∀ h' tk, Fm B Hs X h' (lawEnv L fa name pm cd doc dV kV) ((Str.ofString "ring", .d (rD (ringL rs))) :: G) → Q .next { s with heap := h', toks := tk }) :
    wpAny (model pr w) A (exec (lawSt 10) (lawEnv L fa name pm cd doc dV kV)) Q E s := by
  have h3 := p.h3
  have h5 := p.h5
  have w3 := p.w3
  have w5 := p.w5
  have l0 := p.row _ p.row0
  have lL := p.row _ p.rowL
  have E1 : ∀ {p1 p2 p3 : Pos} {k : Nat}, Ev pr w B n (lawEnv L fa name pm cd doc dV kV) G (.Subscript (.Name (Str.ofString "rows") p1) (.Constant (.int 0) k p2) p3) (rD (row0 rs)) :=
    Ev.sub (Ev.name h1) (Ev.int (i := 0)) (Op2.item_lst (k := 0) (j := 0) (by rw [List.length_map]; exact seqIndex_nat (k := 0) (by omega)) (map_at (by omega)) (by decide) (by decide))
  have E3 : ∀ {p1 p2 p3 p4 : Pos} {k : Nat}, Ev pr w B n (lawEnv L fa name pm cd doc dV kV) G (.Subscript (.Name (Str.ofString "rows") p1) (.UnaryOp .USub (.Constant (.int 1) k p2) p4) p3) (rD (rowL rs)) :=
    Ev.sub (Ev.name h1) (Ev.neg (i := 1)) (Op2.item_lst (k := -1) (j := rs.length - 1) (by rw [List.length_map]; exact seqIndex_last (by omega)) (map_at (by omega)) (by decide) (by decide))
  refine St.assignC (d := rD (ringL rs)) (Ev.is (Ev.bin (Ev.bin (Ev.bin E1
    (Ev.compT (α := List Nat) (l := midR rs) (g := rD) (f := fun r => codeD (natL r)) (bs := fun r => [(Str.ofString "row", rD r)]) (Gc := []) (fun a b e => rD_inj e)
      (Src.is (Src.list (Ev.slice_lst (lo := some 1) (hi := some (-1)) (st := none) (Ev.name h1) Ev.int (Ev.neg (i := 1)) trivial nofun ?_ _ (fun _ _ => rfl))) ?_) ?_ rfl (by decide) rfl (by decide) (fun C a ha => Caught.nil) (fun C a ha => Tgt.name rfl rfl) (fun C a ha q hq => by rw [List.mem_singleton.mp hq]; rfl)
      (fun C a ha => Ev.sub (a := rD a) (Ev.name memH) (Ev.neg (i := 1)) (Op2.item_lst (k := -1) (j := a.length - 1) ?_ ?_ (by decide) (by decide)))) (Op2.add_lst ?_))
    (Ev.slice_lst (lo := none) (hi := none) (st := some (-1)) E3 trivial trivial (Ev.neg (i := 1)) nofun ?_ _ (fun _ _ => rfl)) (Op2.add_lst ?_))
    (Ev.compT (α := List Nat) (l := (midR rs).reverse) (g := rD) (f := fun r => codeD (nat0 r)) (bs := fun r => [(Str.ofString "row", rD r)]) (Gc := []) (fun a b e => rD_inj e)
      (Src.is (Src.list (Ev.slice_lst (lo := some (-2)) (hi := some 0) (st := some (-1)) (Ev.name h1) (Ev.neg (i := 2)) Ev.int (Ev.neg (i := 1)) nofun ?_ _ (fun _ _ => rfl))) ?_) ?_ rfl (by decide) rfl (by decide) (fun C a ha => Caught.nil) (fun C a ha => Tgt.name rfl rfl) (fun C a ha q hq => by rw [List.mem_singleton.mp hq]; rfl)
      (fun C a ha => Ev.sub (a := rD a) (Ev.name memH) (Ev.int (i := 0)) (Op2.item_lst (k := 0) (j := 0) ?_ ?_ (by decide) (by decide)))) (Op2.add_lst ?_)) ?_) R F rfl rfl (hC (Str.ofString "ring") _ rfl) hG rfl h
  · rw [List.length_map]; exact sz1000 (by omega)
  · rw [pick_mid (by rw [List.length_map]; exact h3), List.length_map, ← List.map_take, ← List.map_drop]; rfl
  · rw [mid_len]; exact sz1000 (by omega)
  · rw [List.length_map]; exact seqIndex_last (by rw [p.row a (mid_mem ha)]; omega)
  · exact map_at (by rw [p.row a (mid_mem ha)]; omega)
  · rw [List.length_map, List.length_map, mid_len, l0]; exact sz1000 (by omega)
  · rw [List.length_map, lL]; exact sz1000 (by omega)
  · rw [pick_rev (by rw [List.length_map, lL]; exact w3) (by rw [List.length_map, lL]; exact w5), List.length_append, List.length_map, List.length_map, mid_len, l0, List.length_reverse, List.length_map, lL]; exact sz1000 (by omega)
  · rw [List.length_map]; exact sz1000 (by omega)
  · rw [pick_back (by rw [List.length_map]; exact h3) (by rw [List.length_map]; exact h5), List.length_map, ← List.map_take, ← List.map_drop, ← List.map_reverse]; rfl
  · rw [List.length_reverse, mid_len]; exact sz1000 (by omega)
  · rw [List.length_map]; exact seqIndex_nat (k := 0) (by rw [p.row a (mid_mem (List.mem_reverse.mp ha))]; omega)
  · exact map_at (by rw [p.row a (mid_mem (List.mem_reverse.mp ha))]; omega)
  · rw [pick_rev (by rw [List.length_map, lL]; exact w3) (by rw [List.length_map, lL]; exact w5), List.length_append, List.length_append, List.length_map, List.length_map, List.length_map, mid_len, l0, List.length_reverse, List.length_map, lL, List.length_reverse, mid_len]; exact sz1000 (by omega)
  · rw [pick_rev (by rw [List.length_map, lL]; exact w3) (by rw [List.length_map, lL]; exact w5)]
    unfold ringL rD
    simp only [List.map_append, List.map_map, List.map_reverse]
    rfl
theorem st11 {Q : Flow → Shared → Prop} (bb : Bs P B) (R : Room n A) (F : Fm B Hs X s.heap (lawEnv L fa name pm cd doc dV kV) G)
    (h1 : (Str.ofString "ring", Slot.d (rD ring)) ∈ G) (hG : (names G).contains (Str.ofString "steps") = false) (hl : ring.length ≤ 100)
    (h : ∀ h' tk, Fm B Hs X h' (lawEnv L fa name pm cd doc dV kV) ((Str.ofString "steps", .d (.lst ((stepsL ring).map pairD))) :: G) → Q .next { s with heap := h', toks := tk }) :
    wpAny (model pr w) A (exec (lawSt 11) (lawEnv L fa name pm cd doc dV kV)) Q E s := by
  refine St.assignCompT (α := Nat) (l := List.range ring.length) (g := codeD) (f := fun k => pairD (stepAt ring k)) (bs := fun k => [(Str.ofString "k", codeD k)]) (Gc := [(Str.ofString "ring", Slot.d (rD ring))]) (fun a b e => codeD_inj e)
    (Src.is (Src.range1 (k := (ring.length : Int)) (bb.bui (by rfl) (by rfl) (by decide)) (Ev.is (Ev.call (fv := .builtin "len") (ds := [rD ring]) (bb.bui (by rfl) (by rfl) (by decide)) Callable.builtin (EvL.cons (Ev.name h1) EvL.nil) (CallD.len_lst ?_)) ?_) ?_ ?_) ?_) ?_ rfl (by decide) rfl (by decide)
    (fun C a ha => Caught.cons h1 rfl (.inl rfl) (.inl rfl) rfl Caught.nil) (fun C a ha => Tgt.name rfl rfl) (fun C a ha q hq => by rw [List.mem_singleton.mp hq]; rfl)
    (fun C a ha => Ev.tup (EvL.cons (Ev.sub (a := rD ring) (Ev.name (memT memH)) (Ev.bin (a := codeD a) (Ev.name memH) Ev.int Op2.sub_int) (Op2.item_lst (k := (a : Int) - 1) (j := if a = 0 then ring.length - 1 else a - 1) ?_ ?_ ?_ ?_)) (EvL.cons (Ev.sub (a := rD ring) (b := codeD a) (Ev.name (memT memH)) (Ev.name memH) (Op2.item_lst (k := (a : Int)) (j := a) ?_ ?_ ?_ ?_)) EvL.nil)) (Nat.le_of_ble_eq_true rfl))
    R F rfl hG rfl (fun h' tk F' => h h' tk ?_)
  · rw [List.length_map]; exact sz1000 (by omega)
  · rw [List.length_map]
  · omega
  · omega
  · rw [show ((ring.length : Nat) : Int).toNat = ring.length from rfl]
    unfold rangeL
    rw [List.map_map]
    refine List.map_congr_left fun k _ => ?_
    show D.int (0 + (k : Int) * 1) = .int (k : Int)
    congr 1
    omega
  · rw [List.length_range]; exact sz1000 (by omega)
  · have hm := List.mem_range.mp ha
    rw [List.length_map]
    split
    · rename_i e
      rw [e]
      exact seqIndex_last (by omega)
    · rw [show (a : Int) - 1 = ((a - 1 : Nat) : Int) by omega]
      exact seqIndex_nat (by omega)
  · have hm := List.mem_range.mp ha
    exact map_at (by split <;> omega)
  · omega
  · have hm := List.mem_range.mp ha
    omega
  · rw [List.length_map]; exact seqIndex_nat (List.mem_range.mp ha)
  · exact map_at (List.mem_range.mp ha)
  · omega
  · have hm := List.mem_range.mp ha
    omega
  · have e : ((stepsL ring).map pairD) = (List.range ring.length).map fun k => pairD (stepAt ring k) := by
      unfold stepsL; rw [List.map_map]; rfl
    rw [e]; exact F'
end
end
-- MEM
section
noncomputable def Pairs (l : List (Nat × Nat)) : Prop := ∀ p ∈ l, p.1 < 4 ∧ p.2 < 4
noncomputable def costsL (l : List (Nat × Nat)) : List Int := l.map fun p => costN p.1 p.2
noncomputable def turnsL (l : List (Nat × Nat)) : List Int := l.map fun p => turnN p.1 p.2
theorem cost_zero : ∀ x y : Nat, (costN x y == 0) = decide (x = y) := fun x y => by
  unfold costN
  split
  · rename_i e; rw [decide_eq_true e]; rfl
  · rename_i e; rw [decide_eq_false e]; split <;> rfl
theorem cost_two : ∀ x y : Nat, (costN x y == 2) = decide (x % 2 ≠ y % 2) := fun x y => by
  unfold costN
  split
  · rename_i e; rw [e, decide_eq_false (by simp)]; rfl
  · split
    · rename_i e; rw [e, decide_eq_false (by simp)]; rfl
    · rename_i e; rw [decide_eq_true e]; rfl
theorem int_eq (x y : Nat) : ((x : Int) == (y : Int)) = decide (x = y) := by
  rw [Bool.eq_iff_iff]; simp only [beq_iff_eq, decide_eq_true_eq]; omega
theorem int_odd (x y : Nat) : (((x : Int) - (y : Int)).fmod 2 == 1) = decide (x % 2 ≠ y % 2) := by
  rw [Int.fmod_eq_emod_of_nonneg _ (by decide), Bool.eq_iff_iff]
  simp only [beq_iff_eq, decide_eq_true_eq]
  omega
section
variable {w : World} {A : Around} {E : Value → Shared → Prop} {s : Shared} {P : Params} {B : Heap} {n : Nat} {X : Addr → Prop} {Hs : Snaps} {G Gc : Ctxt} {L fa : Addr} {name : Str} {pm cd doc dV kV : Value} {wide kk : Nat} {l : List (Nat × Nat)} {env : Env}

theorem Ev.costXY {p1 p2 p3 p4 p5 p6 p7 p8 : Pos} {a : Nat × Nat} (bb : Bs P B) (hk2 : kk ≤ 2) (ha : a.1 < 4 ∧ a.2 < 4) (hw : (Str.ofString "words", Slot.d (.lst ((wordsOf kk).map .str))) ∈ Gc) (hx : (Str.ofString "x", Slot.d (codeD a.1)) ∈ Gc) (hy : (Str.ofString "y", Slot.d (codeD a.2)) ∈ Gc)
    (hk : env.kindOf (Str.ofString "_substitution_cost") = some .globalImplicit)
    (hst : starEach [.Subscript (.Name (Str.ofString "words") p1) (.Name (Str.ofString "x") p2) p3, .Subscript (.Name (Str.ofString "words") p4) (.Name (Str.ofString "y") p5) p6] env = [.Subscript (.Name (Str.ofString "words") p1) (.Name (Str.ofString "x") p2) p3, .Subscript (.Name (Str.ofString "words") p4) (.Name (Str.ofString "y") p5) p6].map (fun e => (false, eval e env))) :
    Ev pr w B (n + 1) env Gc (.Call (.Name (Str.ofString "_substitution_cost") p7) [.Subscript (.Name (Str.ofString "words") p1) (.Name (Str.ofString "x") p2) p3, .Subscript (.Name (Str.ofString "words") p4) (.Name (Str.ofString "y") p5) p6] [] p8) (.int (costN a.1 a.2)) :=
  Ev.is (Ev.call (fv := .ref 196) (bb.own (by rfl)) (Callable.fn (bb.K 196 _ rfl) rfl) (EvL.cons (Ev.wordAt hk2 ha.1 hw hx) (EvL.cons (Ev.wordAt hk2 ha.2 hw hy) EvL.nil)) (subcost_call bb _ _ (lower_ok hk2 ha.1) (lower_ok hk2 ha.2)) hk hst) (by rw [cost_tab hk2 ha.1 ha.2])
theorem st12 {Q : Flow → Shared → Prop} (bb : Bs P B) (R : Room (n + 1) A) (F : Fm B Hs X s.heap (lawEnv L fa name pm cd doc dV kV) G) (hk2 : kk ≤ 2) (hp : Pairs l)
    (h1 : (Str.ofString "steps", Slot.d (.lst (l.map pairD))) ∈ G) (h2 : (Str.ofString "words", Slot.d (.lst ((wordsOf kk).map .str))) ∈ G) (hG : (names G).contains (Str.ofString "rim") = false) (hl : l.length ≤ 100)
    (h : ∀ h' tk, Fm B Hs X h' (lawEnv L fa name pm cd doc dV kV) ((Str.ofString "rim", .d (.lst ((costsL l).map .int))) :: G) → Q .next { s with heap := h', toks := tk }) :
    wpAny (model pr w) A (exec (lawSt 12) (lawEnv L fa name pm cd doc dV kV)) Q E s := by
  refine St.assignCompT (α := Nat × Nat) (l := l) (g := pairD) (f := fun p => .int (costN p.1 p.2)) (bs := fun p => [(Str.ofString "x", codeD p.1), (Str.ofString "y", codeD p.2)]) (Gc := [(Str.ofString "words", Slot.d (.lst ((wordsOf kk).map .str)))]) (fun a b e => pairD_inj e)
    (Src.list (Ev.name h1)) (sz1000 (by omega)) rfl (by decide) rfl (by decide)
    (fun C a ha => Caught.cons h2 rfl (.inl rfl) (.inl rfl) rfl Caught.nil) (fun C a ha => Tgt.pair rfl rfl (by decide) rfl) (fun C a ha q hq => by
      rcases List.mem_cons.mp hq with rfl | hq
      · rfl
      · rw [List.mem_singleton.mp hq]; rfl)
    (fun C a ha => Ev.costXY bb hk2 (hp a ha) (memT (memT memH)) memH (memT memH) rfl rfl)
    R F rfl hG rfl (fun h' tk F' => h h' tk ?_)
  have e : ((costsL l).map D.int) = l.map fun p => .int (costN p.1 p.2) := by
    unfold costsL; rw [List.map_map]; rfl
  rw [e]; exact F'
theorem pairLoc {C : Addr} {env : Env} {a : Nat × Nat} {q : Str × D} (hx : env.kindOf (Str.ofString "x") = some .local) (hy : env.kindOf (Str.ofString "y") = some .local) (hq : q ∈ [(Str.ofString "x", codeD a.1), (Str.ofString "y", codeD a.2)]) : env.kindOf q.1 = some .local := by
  rcases List.mem_cons.mp hq with rfl | hq
  · exact hx
  · rw [List.mem_singleton.mp hq]; exact hy
theorem oneLoc {x : Str} {d : D} {env : Env} {q : Str × D} (hx : env.kindOf x = some .local) (hq : q ∈ [(x, d)]) : env.kindOf q.1 = some .local := by
  rw [List.mem_singleton.mp hq]; exact hx
theorem int_inj {a b : Int} (h : D.int a = D.int b) : a = b := by injection h
theorem st13 {Q : Flow → Shared → Prop} (R : Room n A) (F : Fm B Hs X s.heap (lawEnv L fa name pm cd doc dV kV) G)
    (h1 : (Str.ofString "steps", Slot.d (.lst (l.map pairD))) ∈ G) (h2 : (Str.ofString "rim", Slot.d (.lst ((costsL l).map .int))) ∈ G) (hl : l.length ≤ 100)
    (h : ∀ h' tk, Fm B Hs X h' (lawEnv L fa name pm cd doc dV kV) G → Q .next { s with heap := h', toks := tk }) :
    wpAny (model pr w) A (exec (lawSt 13) (lawEnv L fa name pm cd doc dV kV)) Q E s := by
  refine St.if_ (b := false) (EvT.cmp (Ev.is (d' := bools (l.map fun p => decide (p.1 = p.2))) (Ev.compT (α := Int) (l := costsL l) (g := .int) (f := fun c => .bool (c == 0)) (bs := fun c => [(Str.ofString "cost", .int c)]) (Gc := []) (fun a b e => int_inj e)
      (Src.list (Ev.name h2)) (sz1000 (by unfold costsL; rw [List.length_map]; omega)) rfl (by decide) rfl (by decide) (fun C a ha => Caught.nil) (fun C a ha => Tgt.name rfl rfl) (fun C a ha q hq => oneLoc rfl hq)
      (fun C a ha => Ev.cmp (Ev.name memH) Ev.int Op2.eq_int)) ?_)
    (Ev.is (d' := bools (l.map fun p => decide (p.1 = p.2))) (Ev.compT (α := Nat × Nat) (l := l) (g := pairD) (f := fun p => .bool ((p.1 : Int) == (p.2 : Int))) (bs := fun p => [(Str.ofString "x", codeD p.1), (Str.ofString "y", codeD p.2)]) (Gc := []) (fun a b e => pairD_inj e)
      (Src.list (Ev.name h1)) (sz1000 (by omega)) rfl (by decide) rfl (by decide) (fun C a ha => Caught.nil) (fun C a ha => Tgt.pair rfl rfl (by decide) rfl) (fun C a ha q hq => pairLoc (C := C) rfl rfl hq)
      (fun C a ha => Ev.cmp (Ev.name memH) (Ev.name (memT memH)) Op2.eq_int)) ?_) Op2.ne_bools) R F (fun e => nomatch e) (fun _ h' tk F' => wpAny_execs_nil (h h' tk F'))
  · unfold bools costsL
    rw [List.map_map, List.map_map]
    congr 1
    exact List.map_congr_left fun p _ => congrArg D.bool (cost_zero p.1 p.2)
  · unfold bools
    rw [List.map_map]
    congr 1
    exact List.map_congr_left fun p _ => congrArg D.bool (int_eq p.1 p.2)
theorem st14 {Q : Flow → Shared → Prop} (R : Room n A) (F : Fm B Hs X s.heap (lawEnv L fa name pm cd doc dV kV) G)
    (h1 : (Str.ofString "steps", Slot.d (.lst (l.map pairD))) ∈ G) (h2 : (Str.ofString "rim", Slot.d (.lst ((costsL l).map .int))) ∈ G) (hl : l.length ≤ 100)
    (h : ∀ h' tk, Fm B Hs X h' (lawEnv L fa name pm cd doc dV kV) G → Q .next { s with heap := h', toks := tk }) :
    wpAny (model pr w) A (exec (lawSt 14) (lawEnv L fa name pm cd doc dV kV)) Q E s := by
  refine St.if_ (b := false) (EvT.cmp (Ev.is (d' := bools (l.map fun p => decide (p.1 % 2 ≠ p.2 % 2))) (Ev.compT (α := Int) (l := costsL l) (g := .int) (f := fun c => .bool (c == 2)) (bs := fun c => [(Str.ofString "cost", .int c)]) (Gc := []) (fun a b e => int_inj e)
      (Src.list (Ev.name h2)) (sz1000 (by unfold costsL; rw [List.length_map]; omega)) rfl (by decide) rfl (by decide) (fun C a ha => Caught.nil) (fun C a ha => Tgt.name rfl rfl) (fun C a ha q hq => oneLoc rfl hq)
      (fun C a ha => Ev.cmp (Ev.name memH) Ev.int Op2.eq_int)) ?_)
    (Ev.is (d' := bools (l.map fun p => decide (p.1 % 2 ≠ p.2 % 2))) (Ev.compT (α := Nat × Nat) (l := l) (g := pairD) (f := fun p => .bool (((p.1 : Int) - (p.2 : Int)).fmod 2 == 1)) (bs := fun p => [(Str.ofString "x", codeD p.1), (Str.ofString "y", codeD p.2)]) (Gc := []) (fun a b e => pairD_inj e)
      (Src.list (Ev.name h1)) (sz1000 (by omega)) rfl (by decide) rfl (by decide) (fun C a ha => Caught.nil) (fun C a ha => Tgt.pair rfl rfl (by decide) rfl) (fun C a ha q hq => pairLoc (C := C) rfl rfl hq)
      (fun C a ha => Ev.cmp (Ev.bin (Ev.bin (Ev.name memH) (Ev.name (memT memH)) Op2.sub_int) Ev.int (Op2.mod_int (by decide))) Ev.int Op2.eq_int)) ?_) Op2.ne_bools) R F (fun e => nomatch e) (fun _ h' tk F' => wpAny_execs_nil (h h' tk F'))
  · unfold bools costsL
    rw [List.map_map, List.map_map]
    congr 1
    exact List.map_congr_left fun p _ => congrArg D.bool (cost_two p.1 p.2)
  · unfold bools
    rw [List.map_map]
    congr 1
    exact List.map_congr_left fun p _ => congrArg D.bool (int_odd p.1 p.2)
end
end
-- MEN
section
noncomputable def halfL (l : List (Nat × Nat)) : List (Nat × Nat) := (l.take (l.length / 2 + 1)).drop 1
section
variable {w : World} {A : Around} {E : Value → Shared → Prop} {s : Shared} {P : Params} {B : Heap} {n : Nat} {X : Addr → Prop} {Hs : Snaps} {G Gc : Ctxt} {L fa : Addr} {name : Str} {pm cd doc dV kV : Value} {wide kk : Nat} {l : List (Nat × Nat)} {ring : List Nat} {env : Env}

theorem st15 {Q : Flow → Shared → Prop} (bb : Bs P B) (R : Room (n + 1) A) (F : Fm B Hs X s.heap (lawEnv L fa name pm cd doc dV kV) G) (hk2 : kk ≤ 2) (hp : Pairs l)
    (h1 : (Str.ofString "steps", Slot.d (.lst (l.map pairD))) ∈ G) (h2 : (Str.ofString "words", Slot.d (.lst ((wordsOf kk).map .str))) ∈ G) (hG : (names G).contains (Str.ofString "turns") = false) (hl : l.length ≤ 100)
    (h : ∀ h' tk, Fm B Hs X h' (lawEnv L fa name pm cd doc dV kV) ((Str.ofString "turns", .d (.lst ((turnsL l).map .int))) :: G) → Q .next { s with heap := h', toks := tk }) :
    wpAny (model pr w) A (exec (lawSt 15) (lawEnv L fa name pm cd doc dV kV)) Q E s := by
  refine St.assignCompT (α := Nat × Nat) (l := l) (g := pairD) (f := fun p => .int (turnN p.1 p.2)) (bs := fun p => [(Str.ofString "x", codeD p.1), (Str.ofString "y", codeD p.2)]) (Gc := [(Str.ofString "words", Slot.d (.lst ((wordsOf kk).map .str)))]) (fun a b e => pairD_inj e)
    (Src.list (Ev.name h1)) (sz1000 (by omega)) rfl (by decide) rfl (by decide)
    (fun C a ha => Caught.cons h2 rfl (.inl rfl) (.inl rfl) rfl Caught.nil) (fun C a ha => Tgt.pair rfl rfl (by decide) rfl) (fun C a ha q hq => pairLoc (C := C) rfl rfl hq)
    (fun C a ha => Ev.ite (b := decide (a.1 % 2 ≠ a.2 % 2)) (EvT.is (EvT.cmp (Ev.bin (Ev.bin (a := codeD a.1) (b := codeD a.2) (Ev.name memH) (Ev.name (memT memH)) Op2.sub_int) Ev.int (Op2.mod_int (by decide))) Ev.int Op2.eq_int) (int_odd a.1 a.2))
      (fun hb => Ev.is (Ev.call (fv := .ref 189) (bb.own (by rfl)) (Callable.fn (bb.K 189 _ rfl) rfl) (EvL.cons (Ev.wordAt hk2 (hp a ha).1 (memT (memT memH)) memH) (EvL.cons (Ev.wordAt hk2 (hp a ha).2 (memT (memT memH)) (memT memH)) EvL.nil)) (strcoll_call bb _ _)) (by rw [strcoll_tab hk2 (hp a ha).1 (hp a ha).2 (of_decide_eq_true hb)]))
      (fun hb => Ev.is Ev.int (by
        have hb := of_decide_eq_false hb
        unfold turnN
        rw [if_pos (Decidable.not_not.mp hb)])))
    R F rfl hG rfl (fun h' tk F' => h h' tk ?_)
  have e : ((turnsL l).map D.int) = l.map fun p => .int (turnN p.1 p.2) := by
    unfold turnsL; rw [List.map_map]; rfl
  rw [e]; exact F'

theorem Ev.lenIs {x : Str} {p1 p2 : Pos} {k : Nat} {ds : List D} (bb : Bs P B) (h : (x, Slot.d (.lst ds)) ∈ G) (hk : ds.length = k) (hl : k ≤ 100) (hkd : env.kindOf (Str.ofString "len") = some .globalImplicit) (hst : starEach [.Name x p1] env = [.Name x p1].map (fun e => (false, eval e env)))
    (hd : (x == ("__debug__" : Str)) = false := by decide) (hcl : (x == ("__classdict__" : Str)) = false := by decide) {p3 : Pos} : Ev pr w B n env G (.Call (.Name (Str.ofString "len") p2) [.Name x p1] [] p3) (.int (k : Int)) :=
  Ev.is (Ev.call (fv := .builtin "len") (ds := [.lst ds]) (bb.bui (by rfl) (by rfl) (by decide)) Callable.builtin (EvL.cons (Ev.name h hd hcl) EvL.nil) (CallD.len_lst (sz1000 (by omega))) hkd hst) (by rw [hk])
theorem pick_from1 {α : Type} {l : List α} {k : Nat} (hk : k + 1 ≤ l.length) : pickD l (some 1) (some ((k + 1 : Nat) : Int)) none = (l.take (k + 1)).drop 1 := by
  refine pickD_of ?_ hk
  unfold sliceBounds
  simp
  omega
theorem st16 {Q : Flow → Shared → Prop} (bb : Bs P B) (R : Room n A) (F : Fm B Hs X s.heap (lawEnv L fa name pm cd doc dV kV) G)
    (h1 : (Str.ofString "steps", Slot.d (.lst (l.map pairD))) ∈ G) (h2 : (Str.ofString "ring", Slot.d (rD ring)) ∈ G) (hG : (names G).contains (Str.ofString "half") = false) (hl : l.length ≤ 100) (hrl : ring.length = l.length) (h2l : 2 ≤ l.length)
    (h : ∀ h' tk, Fm B Hs X h' (lawEnv L fa name pm cd doc dV kV) ((Str.ofString "half", .d (.lst ((halfL l).map pairD))) :: G) → Q .next { s with heap := h', toks := tk }) :
    wpAny (model pr w) A (exec (lawSt 16) (lawEnv L fa name pm cd doc dV kV)) Q E s := by
  refine St.assignL (d := .lst ((halfL l).map pairD)) (Ev.is (Ev.slice_lst (lo := some 1) (hi := some ((l.length / 2 + 1 : Nat) : Int)) (st := none) (Ev.name h1) Ev.int
    (Ev.is (Ev.bin (Ev.bin (Ev.lenIs bb h2 (k := l.length) (by rw [List.length_map]; exact hrl) (by omega) rfl rfl) Ev.int (Op2.fdiv_int (by decide) (by decide))) Ev.int Op2.add_int) ?_) trivial nofun ?_ _ (fun _ _ => rfl)) ?_) R F rfl hG rfl h
  · rw [Int.fdiv_eq_ediv_of_nonneg _ (by decide)]
    congr 1
  · rw [List.length_map]; exact sz1000 (by omega)
  · rw [pick_from1 (by rw [List.length_map]; omega), ← List.map_take, ← List.map_drop]
    rfl
theorem halfLen (l : List (Nat × Nat)) (h : 2 ≤ l.length) : (halfL l).length = l.length / 2 := by
  unfold halfL; rw [List.length_drop, List.length_take]; omega
theorem Ev.pairs {x : Str} {p1 p2 p3 p4 p5 p6 : Pos} {k1 k2 k3 : Nat} {a b : Nat} (h : (x, Slot.d (.lst (l.map pairD))) ∈ G) (hbase : attributeBase (.Name x p1) (Str.ofString "count") env (eval (.Name x p1) env) = eval (.Name x p1) env)
    (hs : starEach [.Tuple [.Constant (.int (a : Int)) k1 p3, .Constant (.int (b : Int)) k2 p4] k3 p5] env = [(false, eval (.Tuple [.Constant (.int (a : Int)) k1 p3, .Constant (.int (b : Int)) k2 p4] k3 p5) env)]) (hline : (p2.endLine == p6.line) = true) (hst : starEach [.Constant (.int (a : Int)) k1 p3, .Constant (.int (b : Int)) k2 p4] env = [.Constant (.int (a : Int)) k1 p3, .Constant (.int (b : Int)) k2 p4].map fun e => (false, eval e env))
    (hd : (x == ("__debug__" : Str)) = false := by decide) (hcl : (x == ("__classdict__" : Str)) = false := by decide) :
    Ev pr w B n env G (.Call (.Attribute (.Name x p1) (Str.ofString "count") p2) [.Tuple [.Constant (.int (a : Int)) k1 p3, .Constant (.int (b : Int)) k2 p4] k3 p5] [] p6) (.int (cnt a b l : Int)) :=
  Ev.is (Ev.count (Ev.name h hd hcl) (Ev.tup (EvL.cons Ev.int (EvL.cons Ev.int EvL.nil)) (Nat.le_of_ble_eq_true rfl) hst) (pairsLay l) (by simp [toPy, toPys, PyData.canLay0, PyData.canLayAll0]) (by simp [toPy, toPys, PyData.depth, PyData.depthAll]) hbase hs hline) (by rw [cnt_eqv])
theorem cnt_le (x y : Nat) (l : List (Nat × Nat)) : cnt x y l ≤ l.length := List.countP_le_length
theorem st17 {Q : Flow → Shared → Prop} (bb : Bs P B) (R : Room n A) (F : Fm B Hs X s.heap (lawEnv L fa name pm cd doc dV kV) G)
    (h1 : (Str.ofString "turns", Slot.d (.lst ((turnsL l).map .int))) ∈ G) (h2 : (Str.ofString "half", Slot.d (.lst ((halfL l).map pairD))) ∈ G) (hl : l.length ≤ 100) (h2l : 2 ≤ l.length)
    (hm : (((turnsL l).take ((halfL l).length + 1)).drop 1).sum = 2 * ((cnt 0 3 (halfL l) : Int) - (cnt 3 0 (halfL l) : Int)))
    (h : ∀ h' tk, Fm B Hs X h' (lawEnv L fa name pm cd doc dV kV) G → Q .next { s with heap := h', toks := tk }) :
    wpAny (model pr w) A (exec (lawSt 17) (lawEnv L fa name pm cd doc dV kV)) Q E s := by
  have hh := halfLen l h2l
  have c1 := cnt_le 0 3 (halfL l)
  have c2 := cnt_le 3 0 (halfL l)
  refine St.if_ (b := false) (EvT.is (EvT.cmp (Ev.call (fv := .builtin "sum") (ds := [.lst ((((turnsL l).take ((halfL l).length + 1)).drop 1).map .int)]) (bb.bui (by rfl) (by rfl) (by decide)) Callable.builtin
      (EvL.cons (Ev.is (Ev.slice_lst (lo := some 1) (hi := some (((halfL l).length + 1 : Nat) : Int)) (st := none) (Ev.name h1) Ev.int (Ev.bin (Ev.lenIs bb h2 (k := (halfL l).length) (by rw [List.length_map]) (by omega) rfl rfl) Ev.int Op2.add_int) trivial nofun ?_ _ (fun _ _ => rfl)) ?_) EvL.nil) CallD.sum_ints)
    (Ev.bin Ev.int (Ev.bin (Ev.pairs (a := 0) (b := 3) h2 rfl rfl rfl rfl) (Ev.pairs (a := 3) (b := 0) h2 rfl rfl rfl rfl) Op2.sub_int) (Op2.mul_int ?_)) Op2.ne_int) ?_) R F (fun e => nomatch e) (fun _ h' tk F' => wpAny_execs_nil (h h' tk F'))
  · unfold turnsL; rw [List.length_map, List.length_map]; exact sz1000 (by omega)
  · rw [pick_from1 (by unfold turnsL; rw [List.length_map, List.length_map, hh]; omega), ← List.map_take, ← List.map_drop]
  · apply IntMulOk.of_left; apply intBits_le_64 <;> omega
  · rw [hm, bne_self_eq_false]
end
end
-- MEO
section
noncomputable def at2N (rs : List (List Nat)) (k m : Nat) : Nat := ((rs[k]?.getD [])[m]?).getD 0
noncomputable abbrev Tri := Nat × Nat × Nat
noncomputable def triAtN (rs : List (List Nat)) (figures : Int) (k m : Nat) : List Tri :=
  if (figures.fdiv (2 ^ (4 * k + m))).fmod 2 == 0 then [(at2N rs k m, at2N rs k (m + 1), at2N rs (k + 1) (m + 1)), (at2N rs k m, at2N rs (k + 1) (m + 1), at2N rs (k + 1) m)]
  else [(at2N rs k m, at2N rs k (m + 1), at2N rs (k + 1) m), (at2N rs k (m + 1), at2N rs (k + 1) (m + 1), at2N rs (k + 1) m)]
noncomputable def triRowN (rs : List (List Nat)) (figures : Int) (k : Nat) : Nat → List Tri
  | 0 => []
  | m + 1 => triRowN rs figures k m ++ triAtN rs figures k m
noncomputable def trisN (rs : List (List Nat)) (figures : Int) (wide : Nat) : Nat → List Tri
  | 0 => []
  | k + 1 => trisN rs figures wide k ++ triRowN rs figures k (wide - 1)
noncomputable def triI (t : Tri) : Int × Int × Int := (intC t.1, intC t.2.1, intC t.2.2)
noncomputable def tripD (t : Tri) : D := .tup [codeD t.1, codeD t.2.1, codeD t.2.2]
noncomputable def rsI (rs : List (List Nat)) : List (List Int) := rs.map fun r => r.map intC
theorem rsI_D (rs : List (List Nat)) : rowsD (rsI rs) = .lst (rs.map rD) := by
  unfold rsI
  show D.lst ((rs.map fun r => r.map intC).map fun r => .lst (r.map .int)) = _
  rw [List.map_map]
  congr 1
  refine List.map_congr_left fun r _ => ?_
  show D.lst ((r.map intC).map .int) = rD r
  rw [List.map_map]
  rfl
theorem at2_I (rs : List (List Nat)) (k m : Nat) : at2 (rsI rs) k m = intC (at2N rs k m) := by
  unfold at2 at2N rsI
  rw [List.getElem?_map]
  cases rs[k]? with
  | none => rfl
  | some r =>
    show ((r.map intC)[m]?).getD 0 = intC ((r[m]?).getD 0)
    rw [List.getElem?_map]
    cases r[m]? <;> rfl
theorem triAt_I (rs : List (List Nat)) (f : Int) (k m : Nat) : triAt (rsI rs) f k m = (triAtN rs f k m).map triI := by
  unfold triAt triAtN
  split
  · simp only [at2_I]; rfl
  · simp only [at2_I]; rfl
theorem triRow_I (rs : List (List Nat)) (f : Int) (k : Nat) : ∀ m, triRow (rsI rs) f k m = (triRowN rs f k m).map triI
  | 0 => rfl
  | m + 1 => by rw [triRow, triRowN, List.map_append, triRow_I rs f k m, triAt_I]
theorem tris_I (rs : List (List Nat)) (f : Int) (wide : Nat) : ∀ k, tris (rsI rs) f wide k = (trisN rs f wide k).map triI
  | 0 => rfl
  | k + 1 => by rw [tris, trisN, List.map_append, tris_I rs f wide k, triRow_I]
theorem trisN_length (rs : List (List Nat)) (f : Int) (wide k : Nat) : (trisN rs f wide k).length = 2 * (wide - 1) * k := by
  rw [← tris_length (rsI rs) f wide k, tris_I, List.length_map]
noncomputable def sideAt (t : Tri) : Nat → Nat × Nat
  | 0 => (t.2.2, t.1)
  | 1 => (t.1, t.2.1)
  | _ => (t.2.1, t.2.2)
noncomputable def sidesN (t : Tri) : List (Nat × Nat) := [(t.2.2, t.1), (t.1, t.2.1), (t.2.1, t.2.2)]
noncomputable def eSide (t : Tri) : Int := (cnt 0 3 (sidesN t) : Int) - (cnt 3 0 (sidesN t) : Int)
noncomputable def insL (ts : List Tri) : Int := (ts.map eSide).sum
noncomputable def costsT (ts : List Tri) : List Int := (ts.map fun t => costsL (sidesN t)).flatten
noncomputable def Tris (ts : List Tri) : Prop := ∀ t ∈ ts, t.1 < 4 ∧ t.2.1 < 4 ∧ t.2.2 < 4
theorem insL_snoc {ts : List Tri} {t : Tri} : insL (ts ++ [t]) = insL ts + eSide t := by
  unfold insL; rw [List.map_append, List.sum_append]; simp
theorem costsT_snoc {ts : List Tri} {t : Tri} : costsT (ts ++ [t]) = costsT ts ++ costsL (sidesN t) := by
  unfold costsT; rw [List.map_append, List.flatten_append]; simp
theorem costsT_len (ts : List Tri) : (costsT ts).length = 3 * ts.length := by
  induction ts with
  | nil => rfl
  | cons t ts ih =>
    show (costsL (sidesN t) ++ costsT ts).length = _
    rw [List.length_append, ih, List.length_cons]
    show 3 + _ = _
    omega
theorem sides_pairs {t : Tri} (h : t.1 < 4 ∧ t.2.1 < 4 ∧ t.2.2 < 4) : Pairs (sidesN t) := fun p hp => by
  unfold sidesN at hp
  rcases List.mem_cons.mp hp with rfl | hp
  · exact ⟨h.2.2, h.1⟩
  · rcases List.mem_cons.mp hp with rfl | hp
    · exact ⟨h.1, h.2.1⟩
    · rw [List.mem_singleton.mp hp]; exact ⟨h.2.1, h.2.2⟩
theorem at2N_codes {rs : List (List Nat)} (h : ∀ r ∈ rs, Codes r) (k m : Nat) : at2N rs k m < 4 := by
  unfold at2N
  cases e : rs[k]? with
  | none => simp
  | some r =>
    simp only [Option.getD_some]
    cases e2 : r[m]? with
    | none => simp
    | some c => exact h r (List.mem_of_getElem? e) c (List.mem_of_getElem? e2)
theorem triAtN_tris {rs : List (List Nat)} (h : ∀ r ∈ rs, Codes r) (f : Int) (k m : Nat) : Tris (triAtN rs f k m) := by
  intro t ht
  unfold triAtN at ht
  have c := at2N_codes h
  split at ht
  · rcases List.mem_cons.mp ht with rfl | ht
    · exact ⟨c _ _, c _ _, c _ _⟩
    · rw [List.mem_singleton.mp ht]; exact ⟨c _ _, c _ _, c _ _⟩
  · rcases List.mem_cons.mp ht with rfl | ht
    · exact ⟨c _ _, c _ _, c _ _⟩
    · rw [List.mem_singleton.mp ht]; exact ⟨c _ _, c _ _, c _ _⟩
theorem triRowN_tris {rs : List (List Nat)} (h : ∀ r ∈ rs, Codes r) (f : Int) (k : Nat) : ∀ m, Tris (triRowN rs f k m)
  | 0 => fun t ht => by cases ht
  | m + 1 => fun t ht => by
    rcases List.mem_append.mp ht with ht | ht
    · exact triRowN_tris h f k m t ht
    · exact triAtN_tris h f k m t ht
theorem trisN_tris {rs : List (List Nat)} (h : ∀ r ∈ rs, Codes r) (f : Int) (wide : Nat) : ∀ k, Tris (trisN rs f wide k)
  | 0 => fun t ht => by cases ht
  | k + 1 => fun t ht => by
    rcases List.mem_append.mp ht with ht | ht
    · exact trisN_tris h f wide k t ht
    · exact triRowN_tris h f k _ t ht
theorem noM_d {x : Str} {d : D} {G : Ctxt} (h : noM G = true) : noM ((x, .d d) :: G) = true := by
  unfold noM at h ⊢
  rw [List.all_cons, h]; rfl
theorem nc_cons {x y : Str} {t : Slot} {G : Ctxt} (h : (x == y) = false) (hG : (names G).contains x = false) : (names ((y, t) :: G)).contains x = false := by
  show (y :: names G).contains x = false
  rw [List.contains_cons, h, hG]; rfl
section
variable {w : World} {A : Around} {E : Value → Shared → Prop} {s : Shared} {P : Params} {B : Heap} {n : Nat} {X : Addr → Prop} {Hs : Snaps} {G Gr : Ctxt} {L fa : Addr} {name : Str} {pm cd doc dV kV : Value} {wide kk : Nat} {rs : List (List Nat)} {env : Env}

theorem tri_turn {t : Tri} {a : Addr} {i : Int} {cs : List Int} {Q : Flow → Shared → Prop} (bb : Bs P B) (R : Room (n + 1) A) (hk2 : kk ≤ 2) (ht : t.1 < 4 ∧ t.2.1 < 4 ∧ t.2.2 < 4)
    (F : Fm B Hs X s.heap (lawEnv L fa name pm cd doc dV kV) ((Str.ofString "three", .d (tripD t)) :: (Str.ofString "inside", .d (.int i)) :: (Str.ofString "costs", .m a (cs.map .int)) :: Gr))
    (ho : Own Hs a) (hBa : B.get? a = none) (hM : noM Gr = true) (h2 : (Str.ofString "words", Slot.d (.lst ((wordsOf kk).map .str))) ∈ Gr) (n1 : (names Gr).contains (Str.ofString "three") = false) (n2 : (names Gr).contains (Str.ofString "sides") = false) (n3 : (names Gr).contains (Str.ofString "inside") = false) (n4 : (names Gr).contains (Str.ofString "costs") = false) (hz : cs.length ≤ 500)
    {bd : List Stmt} (hbd : bd = (match lawSt 20 with | .For _ _ b _ _ => b | _ => []))
    (h : ∀ h' tk, Fm B Hs X h' (lawEnv L fa name pm cd doc dV kV) ((Str.ofString "inside", .d (.int (i + eSide t))) :: (Str.ofString "costs", .m a ((cs ++ costsL (sidesN t)).map .int)) :: Gr) → Q .next { s with heap := h', toks := tk }) :
    wpAny (model pr w) A (execs bd (lawEnv L fa name pm cd doc dV kV)) Q E s := by
  subst hbd
  show wpAny (model pr w) A (execs (_ :: _) _) Q E s
  refine St.cons (St.assignCompT (α := Nat) (l := List.range 3) (g := codeD) (f := fun k => pairD (sideAt t k)) (bs := fun k => [(Str.ofString "k", codeD k)]) (Gc := [(Str.ofString "three", Slot.d (tripD t))]) (fun a b e => codeD_inj e)
    (Src.is (Src.range1 (k := 3) (bb.bui (by rfl) (by rfl) (by decide)) Ev.int (by decide) (by decide)) (by rfl)) (sz1000 (by decide)) rfl (by decide) rfl (by decide)
    (fun C a ha => Caught.cons memH rfl (.inl rfl) (.inl rfl) rfl Caught.nil) (fun C a ha => Tgt.name rfl rfl) (fun C a ha q hq => oneLoc rfl hq)
    (fun C a ha => Ev.tup (ds := [codeD (sideAt t a).1, codeD (sideAt t a).2]) (EvL.cons (Ev.sub (a := tripD t) (Ev.name (memT memH)) (Ev.bin (a := codeD a) (Ev.name memH) Ev.int Op2.sub_int) (Op2.item_tup (k := (a : Int) - 1) (j := if a = 0 then 2 else a - 1) ?_ ?_ ?_ ?_)) (EvL.cons (Ev.sub (a := tripD t) (b := codeD a) (Ev.name (memT memH)) (Ev.name memH) (Op2.item_tup (k := (a : Int)) (j := a) ?_ ?_ ?_ ?_)) EvL.nil)) (Nat.le_of_ble_eq_true rfl))
    R F rfl (nc_cons rfl (nc_cons rfl (nc_cons rfl n2))) rfl (fun h₁ t₁ F₁ => ?_))
  case refine_9 =>
    have F₁ : Fm B Hs X h₁ (lawEnv L fa name pm cd doc dV kV) ((Str.ofString "sides", .d (.lst ((sidesN t).map pairD))) :: (Str.ofString "three", .d (tripD t)) :: (Str.ofString "inside", .d (.int i)) :: (Str.ofString "costs", .m a (cs.map .int)) :: Gr) := F₁
    have F₂ := F₁.sub (G' := (Str.ofString "inside", .d (.int i)) :: (Str.ofString "sides", .d (.lst ((sidesN t).map pairD))) :: (Str.ofString "costs", .m a (cs.map .int)) :: Gr) (subCons (memT (memT memH)) (subCons memH (subCons (memT (memT (memT memH))) fun p hp => memT (memT (memT (memT hp))))))
    refine St.cons (St.iaddInt (s := { s with heap := h₁, toks := t₁ }) (b := eSide t) (Ev.bin (Ev.pairs (a := 0) (b := 3) (memT memH) rfl rfl rfl rfl) (Ev.pairs (a := 3) (b := 0) (memT memH) rfl rfl rfl rfl) Op2.sub_int) R F₂ rfl (nc_cons rfl (nc_cons rfl n3)) fun h₃ t₃ F₃ => ?_)
    have F₄ := F₃.sub (G' := (Str.ofString "costs", .m a (cs.map .int)) :: (Str.ofString "sides", .d (.lst ((sidesN t).map pairD))) :: (Str.ofString "inside", .d (.int (i + eSide t))) :: Gr) (subCons (memT (memT memH)) (subCons (memT memH) (subCons memH fun p hp => memT (memT (memT hp)))))
    refine St.cons (St.extendM (s := { s with heap := h₃, toks := t₃ }) (es := (costsL (sidesN t)).map .int) (Ev.is (Ev.compT (α := Nat × Nat) (l := sidesN t) (g := pairD) (f := fun p => .int (costN p.1 p.2)) (bs := fun p => [(Str.ofString "x", codeD p.1), (Str.ofString "y", codeD p.2)]) (Gc := [(Str.ofString "words", Slot.d (.lst ((wordsOf kk).map .str)))]) (fun a b e => pairD_inj e)
      (Src.list (Ev.name (memT memH))) (sz1000 (by show 3 ≤ 1000; decide)) rfl (by decide) rfl (by decide)
      (fun C a ha => Caught.cons (memT (memT (memT h2))) rfl (.inl rfl) (.inl rfl) rfl Caught.nil) (fun C a ha => Tgt.pair rfl rfl (by decide) rfl) (fun C a ha q hq => pairLoc (C := C) rfl rfl hq)
      (fun C a ha => Ev.costXY bb hk2 (sides_pairs ht a ha) (memT (memT memH)) memH (memT memH) rfl rfl)) rfl) R F₄ ho hBa rfl ?_ (nc_cons rfl (nc_cons rfl n4)) ?_ fun h₅ t₅ F₅ => wpAny_execs_nil (h h₅ t₅ ?_))
    · exact noM_d (noM_d hM)
    · rw [List.length_map]
      show cs.length + 3 ≤ _
      exact sz1000 (by omega)
    · rw [List.map_append]
      exact F₅.sub (subCons (memT (memT memH)) (subCons memH fun p hp => memT (memT (memT hp))))
  all_goals have ha := List.mem_range.mp ha
  all_goals rcases (show a = 0 ∨ a = 1 ∨ a = 2 by omega) with rfl | rfl | rfl
  all_goals first | rfl | decide
end
end
-- MEP
section
theorem any_int (k : Int) : ∀ l : List Int, ((toPys (l.map .int)).any fun y => PyData.eqv y (toPy (.int k))) = l.any (· == k)
  | [] => rfl
  | a :: l => by
    show (PyData.eqv (.int a) (.int k) || _) = (a == k || _)
    rw [eqv_int]
    congr 1
    exact any_int k l
section
variable {w : World} {A : Around} {E : Value → Shared → Prop} {s : Shared} {P : Params} {B : Heap} {n : Nat} {X : Addr → Prop} {Hs : Snaps} {G Gr : Ctxt} {L fa : Addr} {name : Str} {pm cd doc dV kV : Value} {wide kk : Nat} {rs : List (List Nat)} {env : Env} {h : Heap}

theorem Fm.freeze {x : Str} {a : Addr} {ds : List D} (F : Fm B Hs X h env ((x, .m a ds) :: G)) (hM : noM G = true) : Fm B Hs (fun b => X b ∧ b ≠ a) h env ((x, .d (.lst ds)) :: G) := by
  obtain ⟨v, ⟨rfl, hXa, vs, k, hoa, r⟩, hv⟩ := F.has.var _ (.head _)
  refine ⟨⟨F.has.keep, F.has.fn, F.has.gl, F.has.bi, fun p hp => ?_⟩, fun b hb => F.live b hb.1, ⟨F.locX, fun z => ?_⟩, F.ns, F.olds, F.ownL, F.newL, fun y c hc => ?_, F.apart⟩
  · rcases List.mem_cons.mp hp with rfl | hp
    · exact ⟨_, .lst (fun z => z.2 rfl) hoa (r.less fun _ z => z.1), hv⟩
    · obtain ⟨u, hu, hx⟩ := F.has.var p (.tail _ hp)
      refine ⟨u, ?_, hx⟩
      have hm := noM_spec hM p hp
      obtain ⟨pn, pt⟩ := p
      cases pt with
      | d d => exact IsD.less hu fun _ z => z.1
      | v u => exact hu
      | m b es => exact absurd rfl (hm b es)
  · obtain ⟨m, hn⟩ := F.ns
    exact ns_not_seq hn (z ▸ hoa) ⟨_, _, rfl⟩
  · obtain ⟨⟨u, hu⟩, b | b⟩ := F.cells y c hc
    · exact ⟨⟨u, hu⟩, .inl ⟨⟨b.1, fun z => cell_not_seq hu (z ▸ hoa) ⟨_, _, rfl⟩⟩, b.2⟩⟩
    · exact ⟨⟨u, hu⟩, .inr b⟩

theorem st18 {Q : Flow → Shared → Prop} (R : Room n A) (F : Fm B Hs X s.heap (lawEnv L fa name pm cd doc dV kV) G) (hG : (names G).contains (Str.ofString "inside") = false)
    (h : ∀ h' tk, Fm B Hs X h' (lawEnv L fa name pm cd doc dV kV) ((Str.ofString "inside", .d (.int 0)) :: G) → Q .next { s with heap := h', toks := tk }) :
    wpAny (model pr w) A (exec (lawSt 18) (lawEnv L fa name pm cd doc dV kV)) Q E s :=
  St.assignL (d := .int 0) (n := n) Ev.int R F rfl hG rfl h
theorem st19 {Q : Flow → Shared → Prop} (F : Fm B Hs X s.heap (lawEnv L fa name pm cd doc dV kV) G) (hG : (names G).contains (Str.ofString "costs") = false)
    (h : ∀ a h' tk, Own Hs a → B.get? a = none → Fm B Hs (fun b => X b ∨ b = a) h' (lawEnv L fa name pm cd doc dV kV) ((Str.ofString "costs", .m a []) :: G) → Q .next { s with heap := h', toks := tk }) :
    wpAny (model pr w) A (exec (lawSt 19) (lawEnv L fa name pm cd doc dV kV)) Q E s :=
  St.assignNil F rfl hG rfl h
theorem st20 {a : Addr} {c0 f : Int} {Q : Flow → Shared → Prop} (bb : Bs P B) (R : Room (n + 1) A) (hC : ∀ x c, (lawEnv L fa name pm cd doc dV kV).cells.lookup x = some c → B.get? c = none) (hk2 : kk ≤ 2) (p : Page rs wide)
    (F : Fm B Hs X s.heap (lawEnv L fa name pm cd doc dV kV) ((Str.ofString "inside", .d (.int 0)) :: (Str.ofString "costs", .m a []) :: Gr)) (hXa : X a)
    (ho : Own Hs a) (hBa : B.get? a = none) (hM : noM Gr = true) (h2 : (Str.ofString "words", Slot.d (.lst ((wordsOf kk).map .str))) ∈ Gr) (h3 : (Str.ofString "rows", Slot.d (.lst (rs.map rD))) ∈ Gr) (h4 : (Str.ofString "seeds", Slot.d (.lst [.int c0, .int f])) ∈ Gr)
    (n1 : (names Gr).contains (Str.ofString "three") = false) (n2 : (names Gr).contains (Str.ofString "sides") = false) (n3 : (names Gr).contains (Str.ofString "inside") = false) (n4 : (names Gr).contains (Str.ofString "costs") = false)
    (h : ∀ h' tk, Fm B Hs X h' (lawEnv L fa name pm cd doc dV kV) ((Str.ofString "inside", .d (.int (insL (trisN rs f wide (rs.length - 1))))) :: (Str.ofString "costs", .m a ((costsT (trisN rs f wide (rs.length - 1))).map .int)) :: Gr) → Q .next { s with heap := h', toks := tk }) :
    wpAny (model pr w) A (exec (lawSt 20) (lawEnv L fa name pm cd doc dV kV)) Q E s := by
  have h33 := p.h3
  have h55 := p.h5
  have hts := trisN_tris p.codes f wide (rs.length - 1)
  have hlen : (trisN rs f wide (rs.length - 1)).length ≤ 100 := by
    rw [trisN_length]
    have w5 := p.w5
    have h1 : 2 * (wide - 1) * (rs.length - 1) ≤ 8 * 4 := Nat.mul_le_mul (by omega) (by omega)
    omega
  have hsrc : ∀ {p1 p2 p3 p4 p5 p6 : Pos} {k : Nat}, Ev pr w B (n + 1) (lawEnv L fa name pm cd doc dV kV) ((Str.ofString "inside", .d (.int 0)) :: (Str.ofString "costs", .m a []) :: Gr) (.Call (.Name (Str.ofString "_law_triangles") p1) [.Name (Str.ofString "rows") p2, .Subscript (.Name (Str.ofString "seeds") p3) (.Constant (.int 1) k p4) p5] [] p6) (.lst ((trisN rs f wide (rs.length - 1)).map tripD)) := by
    intro p1 p2 p3 p4 p5 p6 k
    have hc := tris_call (prog := pr) (w := w) (n := n) bb (rsI rs) f rs.length wide (by unfold rsI; rw [List.length_map]) (fun k hk => by
      unfold rsI
      rw [List.getElem?_map, List.getElem?_eq_getElem hk]
      show (rs[k].map intC).length = wide
      rw [List.length_map]
      exact p.row _ (List.getElem_mem hk)) h33 h55 p.w3 p.w5
    rw [rsI_D, tris_I, List.map_map] at hc
    exact Ev.call (fv := .ref 210) (bb.own (by rfl)) (Callable.fn (bb.K 210 _ rfl) rfl) (EvL.cons (Ev.name (memT (memT h3))) (EvL.cons (Ev.sub (Ev.name (memT (memT h4))) (Ev.int (i := 1)) (Op2.item_lst (k := 1) (j := 1) rfl rfl (by decide) (by decide))) EvL.nil)) hc
  generalize trisN rs f wide (rs.length - 1) = ts at hts hlen hsrc h
  refine St.for_ (Src.list hsrc) R F (.inr ⟨rfl, _, rfl, hC (Str.ofString "three") _ rfl⟩) (fun i => (Str.ofString "inside", .d (.int (insL (ts.take i)))) :: (Str.ofString "costs", .m a ((costsT (ts.take i)).map .int)) :: Gr) rfl (fun i => nc_cons rfl (nc_cons rfl n1)) (fun i d h₁ t₁ hd F₁ => ?_) (fun h' tk F' => ?_)
  · rw [List.getElem?_map] at hd
    cases e : ts[i]? with
    | none => rw [e] at hd; cases hd
    | some t =>
    rw [e] at hd
    cases hd
    have hsn : ts.take (i + 1) = ts.take i ++ [t] := by
      rw [List.take_add_one, e]; rfl
    refine tri_turn (s := { s with heap := h₁, toks := t₁ }) bb R hk2 (hts t (List.mem_of_getElem? e)) F₁ (fun q hq => ?_) hBa hM h2 n1 n2 n3 n4 ?_ rfl fun h' tk F' => ⟨.inl rfl, h', tk, rfl, ?_⟩
    · rcases List.mem_cons.mp hq with rfl | hq
      · exact .inl hXa
      · exact ho q hq
    · rw [costsT_len]
      have := List.length_take_le' i ts
      omega
    · rw [hsn, insL_snoc, costsT_snoc]
      exact F'
  · rw [List.length_map, List.take_length] at F'
    exact h h' tk F'
theorem st21 {l : List (Nat × Nat)} {i : Int} {cs : List Int} {Q : Flow → Shared → Prop} (bb : Bs P B) (R : Room n A) (F : Fm B Hs X s.heap (lawEnv L fa name pm cd doc dV kV) G)
    (h1 : (Str.ofString "turns", Slot.d (.lst ((turnsL l).map .int))) ∈ G) (h2 : (Str.ofString "inside", Slot.d (.int i)) ∈ G) (h3 : (Str.ofString "costs", Slot.d (.lst (cs.map .int))) ∈ G) (hsum : (turnsL l).sum = 2 * i) (hone : (1 : Int) ∈ cs)
    (h : ∀ h' tk, Fm B Hs X h' (lawEnv L fa name pm cd doc dV kV) G → Q .next { s with heap := h', toks := tk }) :
    wpAny (model pr w) A (exec (lawSt 21) (lawEnv L fa name pm cd doc dV kV)) Q E s := by
  refine St.if_ (b := false) (EvT.or2 (b := false) (EvT.is (EvT.cmp (Ev.call (fv := .builtin "sum") (ds := [.lst ((turnsL l).map .int)]) (bb.bui (by rfl) (by rfl) (by decide)) Callable.builtin (EvL.cons (Ev.name h1) EvL.nil) CallD.sum_ints)
      (Ev.bin Ev.int (Ev.name h2) (Op2.mul_int ?_)) Op2.ne_int) ?_)
    (fun _ => EvT.is (EvT.cmp (Ev.int (i := 1)) (Ev.name h3) (Op2.notIn_lst (intsLay cs) (by rfl) (by decide +kernel))) ?_) (fun e => nomatch e)) R F (fun e => nomatch e) (fun _ h' tk F' => wpAny_execs_nil (h h' tk F'))
  · apply IntMulOk.of_left; apply intBits_le_64 <;> omega
  · rw [hsum, bne_self_eq_false]
  · rw [any_int]
    have : cs.any (· == 1) = true := List.any_eq_true.mpr ⟨1, hone, by decide⟩
    rw [this]; rfl
theorem st22 {rc cs : List Int} {Q : Flow → Shared → Prop} (bb : Bs P B) (R : Room n A) (F : Fm B Hs X s.heap (lawEnv L fa name pm cd doc dV kV) G)
    (h1 : (Str.ofString "rim", Slot.d (.lst (rc.map .int))) ∈ G) (h3 : (Str.ofString "costs", Slot.d (.lst (cs.map .int))) ∈ G) (hz : rc.length ≤ 300) (hz2 : cs.length ≤ 500)
    (h : ∀ h' tk, Fm B Hs X h' (lawEnv L fa name pm cd doc dV kV) G → Q .next { s with heap := h', toks := tk }) :
    wpAny (model pr w) A (exec (lawSt 22) (lawEnv L fa name pm cd doc dV kV)) Q E s := by
  refine St.if_ (b := false) (EvT.cmp (Ev.is (d' := bools []) (Ev.comp (ds := (rc.map .int) ++ (cs.map .int)) (p := fun _ => false) (f := fun d => d) (bs := fun d => [(Str.ofString "cost", d)]) (Gc := [])
      (Src.list (Ev.bin (Ev.name h1) (Ev.name h3) (Op2.add_lst (sz1000 (by rw [List.length_map, List.length_map]; omega))))) (sz1000 (by rw [List.length_append, List.length_map, List.length_map]; omega)) rfl (by decide) rfl (by decide) (fun C d hd => Caught.nil) (fun C d hd => Tgt.name rfl rfl) (fun C d hd q hq => oneLoc rfl hq)
      (fun C d hd => ?_) (fun C d hd e => nomatch e)) ?_) (Ev.is (d' := bools []) (Ev.list EvL.nil (Nat.zero_le _)) rfl) Op2.ne_bools) R F (fun e => nomatch e) (fun _ h' tk F' => wpAny_execs_nil (h h' tk F'))
  · have hk : ∃ k : Int, d = .int k := by
      rcases List.mem_append.mp hd with hd | hd <;> (obtain ⟨k, _, rfl⟩ := List.mem_map.mp hd; exact ⟨k, rfl⟩)
    obtain ⟨k, rfl⟩ := hk
    exact EvT.plain (Ev.isinst_int (k := k) (bb.bui (by rfl) (by rfl) (by decide)) (bb.bui (by rfl) (by rfl) (by decide)) (Ev.name memH)) Tru.bool
  · rw [List.filter_eq_nil_iff.mpr (fun _ _ => by decide)]
    rfl
theorem st23 {rc : List Int} {i : Int} {Q : Flow → Shared → Prop} (R : Room n A) (F : Fm B Hs X s.heap (lawEnv L fa name pm cd doc dV kV) G)
    (h1 : (Str.ofString "rim", Slot.d (.lst (rc.map .int))) ∈ G) (h2 : (Str.ofString "inside", Slot.d (.int i)) ∈ G) (hodd : (i + (cntI 1 rc : Int).fdiv 2).fmod 2 = 1)
    (h : ∀ h' tk, Fm B Hs X h' (lawEnv L fa name pm cd doc dV kV) G → Q (.ret (.bool true)) { s with heap := h', toks := tk }) :
    wpAny (model pr w) A (exec (lawSt 23) (lawEnv L fa name pm cd doc dV kV)) Q E s := by
  refine St.ret (d := .bool true) (Ev.is (Ev.cmp (Ev.bin (Ev.bin (Ev.name h2) (Ev.bin (Ev.is (d' := .int (cntI 1 rc : Int)) (Ev.count (Ev.name h1) (Ev.int (i := 1)) (intsLay rc) (by rfl) (by decide +kernel)) ?_) Ev.int (Op2.fdiv_int (by decide) (by decide))) Op2.add_int) Ev.int (Op2.mod_int (by decide))) Ev.int Op2.eq_int) ?_) R F fun v h' tk F' q => ?_
  · rw [cntI_eqv]
  · rw [hodd]; rfl
  · cases q
    exact h h' tk F'
end
end
-- MEQ
section
noncomputable def sm {α : Type} (l : List α) (f : α → Int) : Int := (l.map f).sum
theorem sm_nil {α : Type} {f : α → Int} : sm [] f = 0 := rfl
theorem sm_cons {α : Type} {a : α} {l : List α} {f : α → Int} : sm (a :: l) f = f a + sm l f := by unfold sm; rw [List.map_cons, List.sum_cons]
theorem sm_app {α : Type} {l r : List α} {f : α → Int} : sm (l ++ r) f = sm l f + sm r f := by unfold sm; rw [List.map_append, List.sum_append]
theorem sm_map {α β : Type} {l : List α} {g : α → β} {f : β → Int} : sm (l.map g) f = sm l (fun a => f (g a)) := by unfold sm; rw [List.map_map]; rfl
theorem sm_congr {α : Type} {f g : α → Int} : ∀ {l : List α}, (∀ a ∈ l, f a = g a) → sm l f = sm l g := fun {l} h => by
  unfold sm; rw [List.map_congr_left h]
theorem sm_add {α : Type} {f g : α → Int} : ∀ {l : List α}, sm l (fun a => f a + g a) = sm l f + sm l g
  | [] => rfl
  | a :: l => by rw [sm_cons, sm_cons, sm_cons, sm_add (l := l)]; omega
theorem sm_sub {α : Type} {f g : α → Int} : ∀ {l : List α}, sm l (fun a => f a - g a) = sm l f - sm l g
  | [] => rfl
  | a :: l => by rw [sm_cons, sm_cons, sm_cons, sm_sub (l := l)]; omega
theorem sm_two {α : Type} {f : α → Int} : ∀ {l : List α}, sm l (fun a => 2 * f a) = 2 * sm l f
  | [] => rfl
  | a :: l => by rw [sm_cons, sm_cons, sm_two (l := l)]; omega
theorem sm_neg {α : Type} {f g : α → Int} : ∀ {l : List α}, (∀ a ∈ l, f a = - g a) → sm l f = - sm l g
  | [], _ => rfl
  | a :: l, h => by rw [sm_cons, sm_cons, sm_neg (l := l) fun x hx => h x (.tail _ hx), h a (.head _)]; omega
theorem sm_zero {α : Type} {f : α → Int} : ∀ {l : List α}, (∀ a ∈ l, f a = 0) → sm l f = 0
  | [], _ => rfl
  | a :: l, h => by rw [sm_cons, sm_zero (l := l) fun x hx => h x (.tail _ hx), h a (.head _)]; omega
theorem sm_perm {α : Type} {f : α → Int} {l r : List α} (p : l.Perm r) : sm l f = sm r f := by
  induction p with
  | nil => rfl
  | cons a _ ih => rw [sm_cons, sm_cons, ih]
  | swap a b l => rw [sm_cons, sm_cons, sm_cons, sm_cons]; omega
  | trans _ _ ih1 ih2 => rw [ih1, ih2]
theorem countP_sm {α : Type} {p : α → Bool} : ∀ {l : List α}, (l.countP p : Int) = sm l (fun a => if p a = true then 1 else 0)
  | [] => rfl
  | a :: l => by
    rw [sm_cons, ← countP_sm (l := l), List.countP_cons]
    split <;> (push_cast; omega)

/-- the page's places, by number -/
noncomputable def ringIdx (h w : Nat) : List Nat := List.range w ++ ((List.range (h - 2)).map fun k => (k + 1) * w + (w - 1)) ++ ((List.range w).map fun m => h * w - 1 - m) ++ ((List.range (h - 2)).map fun k => (h - 2 - k) * w)
noncomputable def cellE (w k m : Nat) : List (Nat × Nat) := [(k * w + m, k * w + (m + 1)), (k * w + (m + 1), (k + 1) * w + (m + 1)), ((k + 1) * w + (m + 1), (k + 1) * w + m), ((k + 1) * w + m, k * w + m)]
noncomputable def rowE (w k : Nat) : Nat → List (Nat × Nat)
  | 0 => []
  | m + 1 => rowE w k m ++ cellE w k m
noncomputable def cellsE (w : Nat) : Nat → List (Nat × Nat)
  | 0 => []
  | k + 1 => cellsE w k ++ rowE w k (w - 1)
noncomputable def swapP (p : Nat × Nat) : Nat × Nat := (p.2, p.1)
noncomputable def antiP (N : Nat) (p : Nat × Nat) : Nat × Nat := (N - 1 - p.1, N - 1 - p.2)
noncomputable def innerE (h w : Nat) : List (Nat × Nat) := (cellsE w (h - 1)).filter fun p => decide (p.1 < p.2) && !(stepsL (ringIdx h w)).contains p && !(stepsL (ringIdx h w)).contains (swapP p)
noncomputable def okP (h w p : Nat) : Bool := decide (p < h * w) && ((rimP h w (h * w - 1 - p) && decide (p < h * w - 1 - p)) || (rimP h w p && decide (h * w - 1 - p < p)))
noncomputable def shapeB (h w : Nat) : Bool :=
  ((halfL (stepsL (ringIdx h w))).map (·.1) ++ [h * w - 1]).isPerm (0 :: (halfL (stepsL (ringIdx h w))).map (·.2)) &&
  (((stepsL (ringIdx h w)).map (·.1)).isPerm ((stepsL (ringIdx h w)).map (·.2)) &&
  ((stepsL (ringIdx h w)).isPerm (halfL (stepsL (ringIdx h w)) ++ (halfL (stepsL (ringIdx h w))).map (antiP (h * w))) &&
  ((cellsE w (h - 1)).isPerm (stepsL (ringIdx h w) ++ (innerE h w ++ (innerE h w).map swapP)) &&
  ((halfL (stepsL (ringIdx h w))).all (fun p => okP h w p.1 && okP h w p.2) && okP h w 0))))
theorem shapes : ∀ h ∈ [3, 4, 5], ∀ w ∈ [3, 4, 5], shapeB h w = true := by decide +kernel
noncomputable def rsF (F : Nat → Nat) (h w : Nat) : List (List Nat) := (List.range h).map fun k => (List.range w).map fun m => F (k * w + m)
theorem ring_F (F : Nat → Nat) {h w : Nat} (hh : 3 ≤ h) (hh5 : h ≤ 5) (hw : 3 ≤ w) (hw5 : w ≤ 5) : ringL (rsF F h w) = (ringIdx h w).map F := by
  rcases (show h = 3 ∨ h = 4 ∨ h = 5 by omega) with rfl | rfl | rfl <;> rcases (show w = 3 ∨ w = 4 ∨ w = 5 by omega) with rfl | rfl | rfl <;> rfl
noncomputable def FF (F : Nat → Nat) (p : Nat × Nat) : Nat × Nat := (F p.1, F p.2)
theorem steps_map (F : Nat → Nat) (l : List Nat) : stepsL (l.map F) = (stepsL l).map (FF F) := by
  unfold stepsL
  rw [List.map_map, List.length_map]
  refine List.map_congr_left fun k hk => ?_
  have hk := List.mem_range.mp hk
  show stepAt (l.map F) k = FF F (stepAt l k)
  unfold stepAt FF
  have h1 : ∀ j, j < l.length → (l.map F)[j]?.getD 0 = F (l[j]?.getD 0) := fun j hj => by
    rw [List.getElem?_map, List.getElem?_eq_getElem hj]; rfl
  rw [List.length_map, h1 _ hk, h1 _ (by split <;> omega)]
theorem half_map {F : Nat × Nat → Nat × Nat} (l : List (Nat × Nat)) : halfL (l.map F) = (halfL l).map F := by
  unfold halfL; rw [List.length_map, List.map_drop, List.map_take]
theorem turns_half (l : List (Nat × Nat)) (h : 2 ≤ l.length) : ((turnsL l).take ((halfL l).length + 1)).drop 1 = turnsL (halfL l) := by
  rw [halfLen l h]
  unfold turnsL halfL
  rw [List.map_drop, List.map_take]
noncomputable def eN (x y : Nat) : Int := (if (x, y) = (0, 3) then 1 else 0) - (if (x, y) = (3, 0) then 1 else 0)
noncomputable def phN (x : Nat) : Int := if x % 2 = 1 then -1 else 0
noncomputable def c1N (x y : Nat) : Int := if costN x y == 1 then 1 else 0
noncomputable def opN (x : Nat) : Nat := (x + 2) % 4
noncomputable def sgN (x : Nat) : Int := if x < 2 then 0 else 1
noncomputable def ddN (x y : Nat) : Int := eN x y + eN (opN x) (opN y) + c1N x y
noncomputable def qN (x y : Nat) : Int := (ddN x y - (sgN y - sgN x)) / 2
theorem tabs : ∀ x, x < 4 → ∀ y, y < 4 → turnN x y = 2 * eN x y + (phN y - phN x) ∧ eN y x = - eN x y ∧ c1N (opN x) (opN y) = c1N x y ∧ ddN x y = (sgN y - sgN x) + 2 * qN x y ∧ phN (opN x) = phN x ∧ (sgN (opN x) = 1 - sgN x) ∧ opN (opN x) = x ∧ opN x < 4 := by decide +kernel
theorem sg01 (x : Nat) : sgN x = 0 ∨ sgN x = 1 := by unfold sgN; split <;> simp
theorem cnt_sm (l : List (Nat × Nat)) : (cnt 0 3 l : Int) - (cnt 3 0 l : Int) = sm l fun p => eN p.1 p.2 := by
  unfold cnt
  rw [countP_sm, countP_sm, ← sm_sub]
  refine sm_congr fun p _ => ?_
  obtain ⟨a, b⟩ := p
  simp [eN]
theorem cost1_sm (l : List (Nat × Nat)) : (cntI 1 (costsL l) : Int) = sm l fun p => c1N p.1 p.2 := by
  unfold cntI costsL
  rw [countP_sm, sm_map]
  rfl
end
-- MER
section
theorem eSide_eq (t : Tri) : eSide t = eN t.2.2 t.1 + (eN t.1 t.2.1 + eN t.2.1 t.2.2) := by
  unfold eSide
  rw [cnt_sm]
  unfold sidesN
  rw [sm_cons, sm_cons, sm_cons, sm_nil]
  dsimp only
  omega
theorem insL_app {a b : List Tri} : insL (a ++ b) = insL a + insL b := by unfold insL; rw [List.map_append, List.sum_append]
theorem insL_two {a b : Tri} : insL [a, b] = eSide a + eSide b := by
  show eSide a + (eSide b + 0) = _
  omega
section
variable {F : Nat → Nat} {h w : Nat} {f : Int} {rs : List (List Nat)}
theorem rsF_len : (rsF F h w).length = h := by unfold rsF; rw [List.length_map, List.length_range]
theorem at_F {k m : Nat} (hk : k < h) (hm : m < w) : at2N (rsF F h w) k m = F (k * w + m) := by
  unfold at2N rsF
  rw [List.getElem?_map, List.getElem?_range hk]
  show (((List.range w).map fun m => F (k * w + m))[m]?).getD 0 = _
  rw [List.getElem?_map, List.getElem?_range hm]
  rfl
noncomputable def eF (F : Nat → Nat) (p : Nat × Nat) : Int := eN (F p.1) (F p.2)
theorem eN_anti {x y : Nat} (hx : x < 4) (hy : y < 4) : eN y x = - eN x y := (tabs x hx y hy).2.1
theorem ins_cell (h4 : ∀ i, F i < 4) {k m : Nat} (hk : k + 1 < h) (hm : m + 1 < w) : insL (triAtN (rsF F h w) f k m) = sm (cellE w k m) (eF F) := by
  have a1 : at2N (rsF F h w) k m = F (k * w + m) := at_F (by omega) (by omega)
  have a2 : at2N (rsF F h w) k (m + 1) = F (k * w + (m + 1)) := at_F (by omega) (by omega)
  have a3 : at2N (rsF F h w) (k + 1) (m + 1) = F ((k + 1) * w + (m + 1)) := at_F (by omega) (by omega)
  have a4 : at2N (rsF F h w) (k + 1) m = F ((k + 1) * w + m) := at_F (by omega) (by omega)
  have es : sm (cellE w k m) (eF F) = eN (F (k * w + m)) (F (k * w + (m + 1))) + (eN (F (k * w + (m + 1))) (F ((k + 1) * w + (m + 1))) + (eN (F ((k + 1) * w + (m + 1))) (F ((k + 1) * w + m)) + eN (F ((k + 1) * w + m)) (F (k * w + m)))) := by
    unfold cellE
    rw [sm_cons, sm_cons, sm_cons, sm_cons, sm_nil]
    unfold eF
    dsimp only
    omega
  have d1 := eN_anti (h4 (k * w + m)) (h4 ((k + 1) * w + (m + 1)))
  have d2 := eN_anti (h4 (k * w + (m + 1))) (h4 ((k + 1) * w + m))
  rw [es]
  unfold triAtN
  rw [a1, a2, a3, a4]
  split
  · rw [insL_two, eSide_eq, eSide_eq]
    dsimp only
    omega
  · rw [insL_two, eSide_eq, eSide_eq]
    dsimp only
    omega
theorem ins_row (h4 : ∀ i, F i < 4) {k : Nat} (hk : k + 1 < h) : ∀ m, m + 1 ≤ w → insL (triRowN (rsF F h w) f k m) = sm (rowE w k m) (eF F)
  | 0, _ => rfl
  | m + 1, hm => by rw [triRowN, rowE, insL_app, sm_app, ins_row h4 hk m (by omega), ins_cell h4 hk (by omega)]
theorem ins_all (h4 : ∀ i, F i < 4) (hw : 1 ≤ w) : ∀ k, k + 1 ≤ h → insL (trisN (rsF F h w) f w k) = sm (cellsE w k) (eF F)
  | 0, _ => rfl
  | k + 1, hk => by rw [trisN, cellsE, insL_app, sm_app, ins_all h4 hw k (by omega), ins_row h4 (by omega) (w - 1) (by omega)]
theorem side_cell {k m : Nat} (hk : k + 1 < h) (hm : m + 1 < w) {p : Nat × Nat} (hp : p ∈ cellE w k m) : ∃ t ∈ triAtN (rsF F h w) f k m, FF F p ∈ sidesN t := by
  have a1 : at2N (rsF F h w) k m = F (k * w + m) := at_F (by omega) (by omega)
  have a2 : at2N (rsF F h w) k (m + 1) = F (k * w + (m + 1)) := at_F (by omega) (by omega)
  have a3 : at2N (rsF F h w) (k + 1) (m + 1) = F ((k + 1) * w + (m + 1)) := at_F (by omega) (by omega)
  have a4 : at2N (rsF F h w) (k + 1) m = F ((k + 1) * w + m) := at_F (by omega) (by omega)
  unfold triAtN
  rw [a1, a2, a3, a4]
  unfold cellE at hp
  simp only [List.mem_cons, List.not_mem_nil, or_false] at hp
  split
  · rcases hp with rfl | rfl | rfl | rfl
    · exact ⟨_, .head _, by simp [FF, sidesN]⟩
    · exact ⟨_, .head _, by simp [FF, sidesN]⟩
    · exact ⟨_, .tail _ (.head _), by simp [FF, sidesN]⟩
    · exact ⟨_, .tail _ (.head _), by simp [FF, sidesN]⟩
  · rcases hp with rfl | rfl | rfl | rfl
    · exact ⟨_, .head _, by simp [FF, sidesN]⟩
    · exact ⟨_, .tail _ (.head _), by simp [FF, sidesN]⟩
    · exact ⟨_, .tail _ (.head _), by simp [FF, sidesN]⟩
    · exact ⟨_, .head _, by simp [FF, sidesN]⟩
theorem side_row {k : Nat} (hk : k + 1 < h) {p : Nat × Nat} : ∀ m, m + 1 ≤ w → p ∈ rowE w k m → ∃ t ∈ triRowN (rsF F h w) f k m, FF F p ∈ sidesN t
  | 0, _, hp => by cases hp
  | m + 1, hm, hp => by
    rcases List.mem_append.mp hp with hp | hp
    · obtain ⟨t, ht, hs⟩ := side_row hk (p := p) m (by omega) hp
      exact ⟨t, List.mem_append_left _ ht, hs⟩
    · obtain ⟨t, ht, hs⟩ := side_cell (f := f) (m := m) hk (by omega) hp
      exact ⟨t, List.mem_append_right _ ht, hs⟩
theorem side_all (hw : 1 ≤ w) {p : Nat × Nat} : ∀ k, k + 1 ≤ h → p ∈ cellsE w k → ∃ t ∈ trisN (rsF F h w) f w k, FF F p ∈ sidesN t
  | 0, _, hp => by cases hp
  | k + 1, hk, hp => by
    rcases List.mem_append.mp hp with hp | hp
    · obtain ⟨t, ht, hs⟩ := side_all hw k (by omega) hp
      exact ⟨t, List.mem_append_left _ ht, hs⟩
    · obtain ⟨t, ht, hs⟩ := side_row (F := F) (h := h) (w := w) (f := f) (k := k) (p := p) (show k + 1 < h by omega) (w - 1) (show w - 1 + 1 ≤ w by omega) hp
      exact ⟨t, List.mem_append_right _ ht, hs⟩

theorem ok_anti (h4 : ∀ i, F i < 4) (ha : ∀ p, p < h * w → rimP h w p = true → h * w - 1 - p < p → F p = opN (F (h * w - 1 - p))) {p : Nat} (ho : okP h w p = true) : F (h * w - 1 - p) = opN (F p) := by
  unfold okP at ho
  simp only [Bool.and_eq_true, Bool.or_eq_true, decide_eq_true_eq] at ho
  obtain ⟨h0, ⟨h1, h2⟩ | ⟨h1, h2⟩⟩ := ho
  · have := ha (h * w - 1 - p) (by omega) h1 (by omega)
    rw [this]
    congr 2
    omega
  · have := ha p h0 h1 h2
    rw [this, (tabs _ (h4 _) 0 (by decide)).2.2.2.2.2.2.1]

theorem no_one {ts : List Tri} (hT : Tris ts) (h1 : (1 : Int) ∉ costsT ts) : ∀ t ∈ ts, ∀ p ∈ sidesN t, costN p.1 p.2 ≠ 1 := fun t ht p hp e => by
  refine h1 ?_
  unfold costsT
  rw [List.mem_flatten]
  exact ⟨_, List.mem_map.mpr ⟨t, ht, rfl⟩, List.mem_map.mpr ⟨p, hp, e⟩⟩
theorem tri_zeroB : ∀ a, a < 4 → ∀ b, b < 4 → ∀ c, c < 4 → ((costN c a == 1) || (costN a b == 1) || (costN b c == 1) || (eN c a + (eN a b + eN b c) == 0)) = true := by decide +kernel
theorem tri_zero (a : Nat) (ha : a < 4) (b : Nat) (hb : b < 4) (c : Nat) (hc : c < 4) (h1 : costN c a ≠ 1) (h2 : costN a b ≠ 1) (h3 : costN b c ≠ 1) : eN c a + (eN a b + eN b c) = 0 := by
  have h := tri_zeroB a ha b hb c hc
  simp only [Bool.or_eq_true, beq_iff_eq] at h
  rcases h with ((h | h) | h) | h
  · exact absurd h h1
  · exact absurd h h2
  · exact absurd h h3
  · exact h
theorem ins_zero {ts : List Tri} (hT : Tris ts) (h1 : (1 : Int) ∉ costsT ts) : insL ts = 0 := by
  have h := no_one hT h1
  have : sm ts eSide = 0 := sm_zero fun t ht => by
    obtain ⟨a, b, c⟩ := t
    have hc := hT _ ht
    rw [eSide_eq]
    exact tri_zero a hc.1 b hc.2.1 c hc.2.2 (h _ ht (c, a) (.head _)) (h _ ht (a, b) (.tail _ (.head _))) (h _ ht (b, c) (.tail _ (.tail _ (.head _))))
  exact this

structure Tucker (l : List (Nat × Nat)) (ts : List Tri) : Prop where
  c : (((turnsL l).take ((halfL l).length + 1)).drop 1).sum = 2 * ((cnt 0 3 (halfL l) : Int) - (cnt 3 0 (halfL l) : Int))
  d : (turnsL l).sum = 2 * insL ts
  e : (1 : Int) ∈ costsT ts
  g : (insL ts + (cntI 1 (costsL l) : Int).fdiv 2).fmod 2 = 1

theorem tucker (h4 : ∀ i, F i < 4) (ha : ∀ p, p < h * w → rimP h w p = true → h * w - 1 - p < p → F p = opN (F (h * w - 1 - p))) (hh : 3 ≤ h) (hh5 : h ≤ 5) (hw : 3 ≤ w) (hw5 : w ≤ 5) : Tucker (stepsL (ringL (rsF F h w))) (trisN (rsF F h w) f w (h - 1)) := by
  have sh : shapeB h w = true := shapes h (by simp; omega) w (by simp; omega)
  unfold shapeB at sh
  simp only [Bool.and_eq_true] at sh
  obtain ⟨D1, D2, D3, D4, D5, D6⟩ := sh
  have D1 := List.isPerm_iff.mp D1
  have D2 := List.isPerm_iff.mp D2
  have D3 := List.isPerm_iff.mp D3
  have D4 := List.isPerm_iff.mp D4
  have D5 := List.all_eq_true.mp D5
  rw [ring_F F hh hh5 hw hw5, steps_map]
  have hlen : 2 ≤ ((stepsL (ringIdx h w)).map (FF F)).length := by
    rw [List.length_map]
    unfold stepsL ringIdx
    simp only [List.length_map, List.length_append, List.length_range]
    omega
  have anti : ∀ p, okP h w p = true → F (h * w - 1 - p) = opN (F p) := fun p ho => ok_anti h4 ha ho
  have h0 := anti 0 D6
  rw [Nat.sub_zero] at h0
  have hins : insL (trisN (rsF F h w) f w (h - 1)) = sm (stepsL (ringIdx h w)) (eF F) := by
    rw [ins_all h4 (by omega) (h - 1) (by omega), sm_perm D4, sm_app, sm_app, sm_map]
    have : sm (innerE h w) (fun a => eF F (swapP a)) = - sm (innerE h w) (eF F) := sm_neg fun p _ => eN_anti (h4 p.1) (h4 p.2)
    rw [this]
    omega
  have hside : ∀ p ∈ stepsL (ringIdx h w), ∃ t ∈ trisN (rsF F h w) f w (h - 1), FF F p ∈ sidesN t := fun p hp => by
    refine side_all (by omega) (h - 1) (by omega) ?_
    exact (D4.mem_iff).mpr (List.mem_append_left _ hp)
  have hT : Tris (trisN (rsF F h w) f w (h - 1)) := trisN_tris (fun r hr => by
    unfold rsF at hr
    obtain ⟨k, _, rfl⟩ := List.mem_map.mp hr
    intro c hc
    obtain ⟨m, _, rfl⟩ := List.mem_map.mp hc
    exact h4 _) f w (h - 1)
  generalize trisN (rsF F h w) f w (h - 1) = ts at hins hside hT
  generalize stepsL (ringIdx h w) = S at *
  -- turns
  have turn : ∀ l : List (Nat × Nat), (turnsL (l.map (FF F))).sum = 2 * sm l (eF F) + (sm (l.map (·.2)) (fun i => phN (F i)) - sm (l.map (·.1)) (fun i => phN (F i))) := fun l => by
    have e1 : (turnsL (l.map (FF F))).sum = sm l (fun p => turnN (F p.1) (F p.2)) := by
      unfold turnsL; rw [List.map_map]; rfl
    rw [e1, sm_map, sm_map, ← sm_two, ← sm_sub, ← sm_add]
    exact sm_congr fun p _ => (tabs _ (h4 p.1) _ (h4 p.2)).1
  have cntE : ∀ l : List (Nat × Nat), (cnt 0 3 (l.map (FF F)) : Int) - (cnt 3 0 (l.map (FF F)) : Int) = sm l (eF F) := fun l => by
    rw [cnt_sm, sm_map]; rfl
  have E2 : sm (S.map (·.2)) (fun i => phN (F i)) = sm (S.map (·.1)) (fun i => phN (F i)) := (sm_perm D2).symm
  have E1 := sm_perm (f := fun i => phN (F i)) D1
  rw [sm_app, sm_cons, sm_nil, sm_cons, h0, (tabs _ (h4 0) 0 (by decide)).2.2.2.2.1] at E1
  -- parity
  have hC : (cntI 1 (costsL (S.map (FF F))) : Int) = 2 * sm (halfL S) (fun p => c1N (F p.1) (F p.2)) := by
    rw [cost1_sm, sm_map, sm_perm D3, sm_app, sm_map]
    have : sm (halfL S) (fun a => c1N (FF F (antiP (h * w) a)).1 (FF F (antiP (h * w) a)).2) = sm (halfL S) (fun p => c1N (F p.1) (F p.2)) := sm_congr fun p hp => by
      have o := D5 p hp
      rw [Bool.and_eq_true] at o
      show c1N (F (h * w - 1 - p.1)) (F (h * w - 1 - p.2)) = _
      rw [anti _ o.1, anti _ o.2, (tabs _ (h4 p.1) _ (h4 p.2)).2.2.1]
    rw [this]
    show sm (halfL S) (fun p => c1N (F p.1) (F p.2)) + _ = _
    omega
  have hE : sm S (eF F) + sm (halfL S) (fun p => c1N (F p.1) (F p.2)) = sm (halfL S) (fun p => ddN (F p.1) (F p.2)) := by
    rw [sm_perm D3, sm_app, sm_map, ← sm_add, ← sm_add]
    refine sm_congr fun p hp => ?_
    have o := D5 p hp
    rw [Bool.and_eq_true] at o
    show eN (F p.1) (F p.2) + eN (F (h * w - 1 - p.1)) (F (h * w - 1 - p.2)) + c1N (F p.1) (F p.2) = _
    rw [anti _ o.1, anti _ o.2]
    rfl
  have hD : sm (halfL S) (fun p => ddN (F p.1) (F p.2)) = (sm ((halfL S).map (·.2)) (fun i => sgN (F i)) - sm ((halfL S).map (·.1)) (fun i => sgN (F i))) + 2 * sm (halfL S) (fun p => qN (F p.1) (F p.2)) := by
    rw [sm_map, sm_map, ← sm_two, ← sm_sub, ← sm_add]
    exact sm_congr fun p _ => (tabs _ (h4 p.1) _ (h4 p.2)).2.2.2.1
  have E3 := sm_perm (f := fun i => sgN (F i)) D1
  rw [sm_app, sm_cons, sm_nil, sm_cons, h0, (tabs _ (h4 0) 0 (by decide)).2.2.2.2.2.1] at E3
  have s01 := sg01 (F 0)
  have par : (insL ts + (cntI 1 (costsL (S.map (FF F))) : Int).fdiv 2).fmod 2 = 1 := by
    rw [hC, hins, Int.fdiv_eq_ediv_of_nonneg _ (by decide), Int.fmod_eq_emod_of_nonneg _ (by decide)]
    generalize sm (halfL S) (fun p => c1N (F p.1) (F p.2)) = z at hE
    omega
  refine ⟨?_, ?_, ?_, par⟩
  · rw [turns_half _ hlen, half_map, turn, cntE]
    omega
  · rw [turn, hins]
    omega
  · refine Decidable.byContradiction fun h1 => ?_
    have z1 := ins_zero hT h1
    have z2 : (cntI 1 (costsL (S.map (FF F))) : Int) = 0 := by
      rw [cost1_sm, sm_map]
      refine sm_zero fun p hp => ?_
      obtain ⟨t, ht, hs⟩ := hside p hp
      have := no_one hT h1 t ht _ hs
      show (if (costN (F p.1) (F p.2) == 1) = true then (1 : Int) else 0) = 0
      rw [if_neg]
      exact fun e => this (eq_of_beq e)
    rw [z1, z2] at par
    exact absurd par (by decide)
end
end
-- MES
section
section
variable {js : List Int} {h w : Nat}
theorem digit_small : ∀ i, i < 25 → 0 ≤ digitAt i ∧ digitAt i < 4 := by decide +kernel
theorem fmod4 (z : Int) : 0 ≤ z.fmod 4 ∧ z.fmod 4 < 4 := by
  rw [Int.fmod_eq_emod_of_nonneg _ (by decide)]; omega
theorem codeAt_small (cs : List Int) {p : Nat} (hp : p < 25) : 0 ≤ codeAt js h w cs p ∧ codeAt js h w cs p < 4 := by
  unfold codeAt
  split
  · exact fmod4 _
  · split
    · exact fmod4 _
    · exact digit_small p hp
theorem lc_get : ∀ n j, j < n → (lawCodes js h w n)[j]? = some (codeAt js h w (lawCodes js h w j) j)
  | 0, j, hj => by omega
  | n + 1, j, hj => by
    have hl := lawCodes_length js h w n
    rw [lawCodes]
    rcases Nat.lt_or_ge j n with hn | hn
    · rw [List.getElem?_append_left (by omega)]
      exact lc_get n j hn
    · have e : j = n := by omega
      subst e
      rw [List.getElem?_append_right (by omega), hl, Nat.sub_self]
      rfl
noncomputable def codesN (js : List Int) (h w : Nat) : List Nat := (lawCodes js h w (h * w)).map Int.toNat
noncomputable def codeF (js : List Int) (h w : Nat) (i : Nat) : Nat := (codesN js h w)[i]?.getD 0
theorem codesN_len : (codesN js h w).length = h * w := by unfold codesN; rw [List.length_map, lawCodes_length]
theorem codeF_at {i : Nat} (hi : i < h * w) : codeF js h w i = (codeAt js h w (lawCodes js h w i) i).toNat := by
  unfold codeF codesN
  rw [List.getElem?_map, lc_get _ _ hi]
  rfl
theorem lc_small (hN : h * w ≤ 25) {x : Int} (hx : x ∈ lawCodes js h w (h * w)) : 0 ≤ x ∧ x < 4 := by
  obtain ⟨i, hi⟩ := List.getElem?_of_mem hx
  have hl : i < h * w := by
    rw [← lawCodes_length js h w (h * w)]
    exact (List.getElem?_eq_some_iff.mp hi).1
  rw [lc_get _ _ hl] at hi
  injection hi with hi
  rw [← hi]
  exact codeAt_small _ (by omega)
theorem codesN_codes (hN : h * w ≤ 25) : Codes (codesN js h w) := fun c hc => by
  obtain ⟨x, hx, rfl⟩ := List.mem_map.mp hc
  have := lc_small hN hx
  omega
theorem codesN_int (hN : h * w ≤ 25) : (codesN js h w).map intC = lawCodes js h w (h * w) := by
  unfold codesN
  rw [List.map_map]
  have : ∀ l : List Int, (∀ x ∈ l, 0 ≤ x ∧ x < 4) → l.map (intC ∘ Int.toNat) = l := by
    intro l
    induction l with
    | nil => intro _; rfl
    | cons a l ih =>
      intro hl
      rw [List.map_cons, ih fun x hx => hl x (.tail _ hx)]
      have := hl a (.head _)
      congr 1
      show ((a.toNat : Nat) : Int) = a
      omega
  exact this _ fun x hx => lc_small hN hx
theorem codeF_small (hN : h * w ≤ 25) (i : Nat) : codeF js h w i < 4 := by
  unfold codeF
  cases e : (codesN js h w)[i]? with
  | none => exact (by decide : 0 < 4)
  | some c => exact codesN_codes hN c (List.mem_of_getElem? e)
theorem codeF_anti (hN : h * w ≤ 25) (p : Nat) (hp : p < h * w) (hr : rimP h w p = true) (hq : h * w - 1 - p < p) : codeF js h w p = opN (codeF js h w (h * w - 1 - p)) := by
  rw [codeF_at hp, codeF_at (by omega)]
  have hs := codeAt_small (js := js) (h := h) (w := w) (lawCodes js h w (h * w - 1 - p)) (p := h * w - 1 - p) (by omega)
  have hc : codeAt js h w (lawCodes js h w p) p = ((lawCodes js h w p)[h * w - 1 - p]?.getD 0 + 2).fmod 4 := by
    unfold codeAt
    rw [if_pos (by rw [hr, Bool.true_and]; exact decide_eq_true hq)]
  rw [hc, lc_get _ _ hq]
  show ((codeAt js h w (lawCodes js h w (h * w - 1 - p)) (h * w - 1 - p) + 2).fmod 4).toNat = _
  rw [Int.fmod_eq_emod_of_nonneg _ (by decide)]
  unfold opN
  omega
theorem rowN_F {k : Nat} (hk : k * w + w ≤ h * w) : rowN (codesN js h w) w k = (List.range w).map fun m => codeF js h w (k * w + m) := by
  have hl := codesN_len (js := js) (h := h) (w := w)
  refine List.ext_getElem? fun m => ?_
  unfold rowN
  rw [List.getElem?_drop, List.getElem?_map]
  rcases Nat.lt_or_ge m w with hm | hm
  · rw [List.getElem?_take, if_pos (by omega), List.getElem?_range hm]
    show _ = some (codeF js h w (k * w + m))
    unfold codeF
    rw [List.getElem?_eq_getElem (by omega)]
    rfl
  · rw [List.getElem?_take, if_neg (by omega), List.getElem?_eq_none (by rw [List.length_range]; exact hm)]
    rfl
theorem rows_F : (List.range h).map (rowN (codesN js h w) w) = rsF (codeF js h w) h w := by
  unfold rsF
  refine List.map_congr_left fun k hk => ?_
  exact rowN_F (row_le (List.mem_range.mp hk))
theorem page_of (hh : 3 ≤ h) (hh5 : h ≤ 5) (hw : 3 ≤ w) (hw5 : w ≤ 5) (hN : h * w ≤ 25) : Page ((List.range h).map (rowN (codesN js h w) w)) w := by
  refine ⟨by rw [List.length_map, List.length_range]; exact hh, by rw [List.length_map, List.length_range]; exact hh5, hw, hw5, fun r hr => ?_, fun r hr => ?_⟩
  · obtain ⟨k, hk, rfl⟩ := List.mem_map.mp hr
    exact rowN_len (by rw [codesN_len]; exact row_le (List.mem_range.mp hk))
  · obtain ⟨k, hk, rfl⟩ := List.mem_map.mp hr
    exact rowN_codes (codesN_codes hN)
theorem tucker_law (f : Int) (hh : 3 ≤ h) (hh5 : h ≤ 5) (hw : 3 ≤ w) (hw5 : w ≤ 5) (hN : h * w ≤ 25) : Tucker (stepsL (ringL ((List.range h).map (rowN (codesN js h w) w)))) (trisN ((List.range h).map (rowN (codesN js h w) w)) f w (h - 1)) := by
  rw [rows_F]
  exact tucker (codeF_small hN) (codeF_anti hN) hh hh5 hw hw5
theorem seeds_two : ∃ a b, seedsOf js = [a, b] := by
  match js with
  | [] => exact ⟨_, _, rfl⟩
  | [a] => exact ⟨_, _, rfl⟩
  | a :: b :: r => exact ⟨a, b, rfl⟩
theorem dims (a : Int) : ∃ high wide kk : Nat, 3 + a.fmod 3 = (high : Int) ∧ 3 + (a.fdiv 3).fmod 3 = (wide : Int) ∧ (a.fdiv 9).fmod 3 = (kk : Int) ∧ 3 ≤ high ∧ high ≤ 5 ∧ 3 ≤ wide ∧ wide ≤ 5 ∧ kk ≤ 2 := by
  rw [Int.fmod_eq_emod_of_nonneg _ (by decide), Int.fmod_eq_emod_of_nonneg _ (by decide), Int.fmod_eq_emod_of_nonneg _ (by decide)]
  exact ⟨(3 + a % 3).toNat, (3 + a.fdiv 3 % 3).toNat, (a.fdiv 9 % 3).toNat, by omega, by omega, by omega, by omega, by omega, by omega, by omega, by omega⟩
theorem rem_nat (b : Int) (kk : Nat) : ∃ r : Nat, b.fmod ((kk + 2 : Nat) : Int) = (r : Int) ∧ r < kk + 2 := by
  rw [Int.fmod_eq_emod_of_nonneg _ (by omega)]
  have h1 := Int.emod_nonneg b (show ((kk + 2 : Nat) : Int) ≠ 0 by omega)
  have h2 := Int.emod_lt_of_pos b (show (0 : Int) < ((kk + 2 : Nat) : Int) by omega)
  exact ⟨(b % ((kk + 2 : Nat) : Int)).toNat, by omega, by omega⟩
end
end
-- MET
section
theorem lawBody_eq : lawBody = [lawSt 0, lawSt 1, lawSt 2, lawSt 3, lawSt 4, lawSt 5, lawSt 6, lawSt 7, lawSt 8, lawSt 9, lawSt 10, lawSt 11, lawSt 12, lawSt 13, lawSt 14, lawSt 15, lawSt 16, lawSt 17, lawSt 18, lawSt 19, lawSt 20, lawSt 21, lawSt 22, lawSt 23] := rfl
theorem cellsFrom_ge : ∀ (names : List (Str × NameKind)) (n : Nat) (acc : List (Str × Addr)) {x : Str} {c : Addr}, (cellsFrom n names acc).lookup x = some c → acc.lookup x = some c ∨ n ≤ c
  | [], n, acc, x, c, h => .inl h
  | (name, kind) :: r, n, acc, x, c, h => by
    unfold cellsFrom at h
    split at h
    · rcases cellsFrom_ge r (n + 1) _ h with z | z
      · rw [List.lookup_cons] at z
        split at z
        · injection z with z
          exact .inr (Nat.le_of_eq z)
        · exact .inl z
      · exact .inr (by omega)
    · exact cellsFrom_ge r n acc h
theorem Fm.snapF {B : Heap} {Hs : Snaps} {X : Addr → Prop} {h : Heap} {env : Env} {G : Ctxt} (M : Fm B Hs X h env G) : Fm B ((fY env, h) :: Hs) X h env G :=
  { M with
    olds := fun p hp b o hb e => by
      rcases List.mem_cons.mp hp with rfl | hp
      · exact e
      · exact M.olds p hp b o hb e
    ownL := fun p hp => by
      rcases List.mem_cons.mp hp with rfl | hp
      · exact .inl (.inl rfl)
      · exact M.ownL p hp
    cells := fun x c hc => by
      obtain ⟨a, b | b⟩ := M.cells x c hc
      · refine ⟨a, .inl ⟨b.1, fun p hp => ?_, b.2.2⟩⟩
        rcases List.mem_cons.mp hp with rfl | hp
        · exact .inl (.inr ⟨x, hc⟩)
        · exact b.2.1 p hp
      · exact ⟨a, .inr b⟩ }
section
variable {w : World} {A : Around} {E : Value → Shared → Prop} {s : Shared} {P : Params} {n : Nat} {X : Addr → Prop} {fa : Addr} {name : Str} {pm cd doc dV kV : Value} {js : List Int} {H₀ h₀ : Heap} {tk₀ : Nat}
theorem law_cells {L : Addr} {x : Str} {c : Addr} (h : (lawEnv L fa name pm cd doc dV kV).cells.lookup x = some c) : L < c := by
  rcases cellsFrom_ge _ _ _ h with z | z
  · simp at z
  · exact z
theorem hid_size (h : Heap) : (Hid h).objs.size = h.objs.size := hideAll_size _ _
theorem law_fY {b : Addr} (hb : fY (lawEnv H₀.objs.size fa name pm cd doc dV kV) b) : H₀.objs.size ≤ b := by
  rcases hb with rfl | ⟨x, hx⟩
  · exact Nat.le_refl _
  · exact Nat.le_of_lt (law_cells hx)

theorem walk_a {Q : Flow → Shared → Prop} {rest : List Stmt} {a b : Int} {high wide kk r : Nat} (KX : (K2 P).In H₀) (bb : Bs P (Hid H₀)) (R : Room 60 A) (hlen : js.length ≤ 63) (g₀ : Grow H₀ h₀) (hX1 : X 140) (hX2 : X 147)
    (hab : seedsOf js = [a, b]) (e1 : 3 + a.fmod 3 = (high : Int)) (e2 : 3 + (a.fdiv 3).fmod 3 = (wide : Int)) (e3 : (a.fdiv 9).fmod 3 = (kk : Int)) (er : b.fmod ((kk + 2 : Nat) : Int) = (r : Int)) (hh : 3 ≤ high) (hh5 : high ≤ 5) (hw : 3 ≤ wide) (hw5 : wide ≤ 5) (hk2 : kk ≤ 2) (hN : high * wide ≤ 25)
    (F : Fm (Hid H₀) [(is140, H₀)] X h₀ (lawEnv H₀.objs.size fa name pm cd doc dV kV) [(Str.ofString "script", .d (.lst (js.map .int)))])
    (hq : ∀ q h' tk, Lp P (Hid H₀) q (fun b => X b ∨ PX q b) H₀ h' (lawEnv H₀.objs.size fa name pm cd doc dV kV) [(Str.ofString "page", .v (.ref q.pg)), (Str.ofString "size", .d (.int ((kk + 2 : Nat) : Int))), (Str.ofString "codes", .d (.lst (((codesN js high wide).map intC).map .int))), (Str.ofString "words", .d (.lst ((wordsOf kk).map .str))), (Str.ofString "stem", .d (.str (stemOf kk))), (Str.ofString "wide", .d (.int wide)), (Str.ofString "high", .d (.int high)), (Str.ofString "seeds", .d (.lst [.int a, .int b])), (Str.ofString "script", .d (.lst (js.map .int)))] ((wide : Int) * ((kk + 2 : Nat) : Int) + (r : Int)) [] [] →
      wpAny (model pr w) A (execs rest (lawEnv H₀.objs.size fa name pm cd doc dV kV)) Q E { s with heap := h', toks := tk }) :
    wpAny (model pr w) A (execs (lawSt 0 :: lawSt 1 :: lawSt 2 :: lawSt 3 :: lawSt 4 :: lawSt 5 :: lawSt 6 :: rest) (lawEnv H₀.objs.size fa name pm cd doc dV kV)) Q E { s with heap := h₀, toks := tk₀ } := by
  have hC : ∀ x c, (lawEnv H₀.objs.size fa name pm cd doc dV kV).cells.lookup x = some c → (Hid H₀).get? c = none := fun x c hc => get_size_none _ (by rw [hid_size]; exact Nat.le_of_lt (law_cells hc))
  have nf : ∀ b o, H₀.get? b = some o → ¬ fY (lawEnv H₀.objs.size fa name pm cd doc dV kV) b := fun b o e z => by
    exact absurd (Heap.lt_size e) (Nat.not_lt.mpr (law_fY z))
  have l140 := Heap.lt_size (K2.at140 KX)
  have l147 := Heap.lt_size (K2.at147 KX)
  have F₀ := F.snapF
  refine St.cons (st0 (s := { s with heap := h₀, toks := tk₀ }) bb R F₀ hlen fun h₁ t₁ F₁ => ?_)
  rw [hab] at F₁
  refine St.cons (st1 (s := { s with heap := h₁, toks := t₁ }) bb R hC F₁ e1 e2 fun h₂ t₂ F₂ => ?_)
  refine St.cons (st2 (s := { s with heap := h₂, toks := t₂ }) R F₂ (memT (memT memH)) rfl e3 hk2 fun h₃ t₃ F₃ => ?_)
  refine St.cons (st3 (s := { s with heap := h₃, toks := t₃ }) R hC F₃ memH rfl hk2 fun h₄ t₄ F₄ => ?_)
  refine St.cons (st4 (s := { s with heap := h₄, toks := t₄ }) bb R hC F₄ (memT (memT (memT (memT (memT memH))))) (memT (memT (memT memH))) (memT (memT memH)) rfl hlen hh hh5 hw hw5 fun h₅ t₅ F₅ => ?_)
  rw [← codesN_int hN] at F₅
  refine St.cons (st5 (s := { s with heap := h₅, toks := t₅ }) bb R F₅ (memT (memT memH)) rfl hk2 fun h₆ t₆ F₆ => ?_)
  have old := F₆.olds _ (.head _)
  have kp : ∀ b o, H₀.get? b = some o → h₆.get? b = some o := fun b o e => old b o (nf b o e) (g₀ b o e)
  refine St.cons (st6 (s := { s with heap := h₆, toks := t₆ }) bb R (hideAll_none _ (by decide)) (hideAll_none _ (by decide)) hX1 hX2 (code_keep (K2.tab1 KX) (fun o e => kp _ o e) fun o e => kp _ o e) (code_keep (K2.tab2 KX) (fun o e => kp _ o e) fun o e => kp _ o e)
    ⟨Nat.ne_of_gt l140, Nat.ne_of_gt l147⟩ (fun x c hc => ⟨Nat.ne_of_gt (Nat.lt_trans l140 (law_cells hc)), Nat.ne_of_gt (Nat.lt_trans l147 (law_cells hc))⟩) F₆.unsnap (memT (memT (memT (memT memH)))) memH (memT (memT (memT (memT (memT (memT memH)))))) rfl hk2 hw5 fun q h' tk M => ?_)
  rw [er] at M
  exact hq q h' tk M
end
end
-- MEU
section
section
variable {w : World} {A : Around} {E : Value → Shared → Prop} {s : Shared} {P : Params} {B : Heap} {n : Nat} {X : Addr → Prop} {q : Pp} {L fa : Addr} {name : Str} {pm cd doc dV kV : Value} {js : List Int} {H₀ h₀ : Heap} {tk₀ : Nat} {a b : Int} {high wide kk r : Nat} {Hs : Snaps}
noncomputable abbrev G6 (q : Pp) (js : List Int) (a b : Int) (high wide kk : Nat) : Ctxt := [(Str.ofString "page", .v (.ref q.pg)), (Str.ofString "size", .d (.int ((kk + 2 : Nat) : Int))), (Str.ofString "codes", .d (.lst (((codesN js high wide).map intC).map .int))), (Str.ofString "words", .d (.lst ((wordsOf kk).map .str))), (Str.ofString "stem", .d (.str (stemOf kk))), (Str.ofString "wide", .d (.int wide)), (Str.ofString "high", .d (.int high)), (Str.ofString "seeds", .d (.lst [.int a, .int b])), (Str.ofString "script", .d (.lst (js.map .int)))]
noncomputable abbrev rsN (js : List Int) (high wide : Nat) : List (List Nat) := (List.range high).map (rowN (codesN js high wide) wide)
theorem codes_eq (cs : List Nat) : (cs.map intC).map D.int = cs.map codeD := by rw [List.map_map]; rfl
theorem rows_eq {cs : List Nat} : rowsD (rowsOf (cs.map intC) high wide) = .lst (((List.range high).map (rowN cs wide)).map rD) := rowsD_nat
theorem walk_b {Q : Flow → Shared → Prop} {rest : List Stmt} (R : Room 60 A) (hr : r < kk + 2) (hh : 3 ≤ high) (hh5 : high ≤ 5) (hw : 3 ≤ wide) (hw5 : wide ≤ 5) (hk2 : kk ≤ 2) (hN : high * wide ≤ 25)
    (M : Lp P B q X H₀ h₀ (lawEnv L fa name pm cd doc dV kV) (G6 q js a b high wide kk) ((wide : Int) * ((kk + 2 : Nat) : Int) + (r : Int)) [] [])
    (hq : ∀ h' tk g' lines', (AllBare s.gens → AllBare g') → Lp P B q X H₀ h' (lawEnv L fa name pm cd doc dV kV) ((Str.ofString "rows", .d (.lst ((rsN js high wide).map rD))) :: G6 q js a b high wide kk) ((wide : Int) * ((kk + 2 : Nat) : Int) + (r : Int)) lines' [] →
      wpAny (model pr w) A (execs rest (lawEnv L fa name pm cd doc dV kV)) Q E { s with heap := h', toks := tk, gens := g' }) :
    wpAny (model pr w) A (execs (lawSt 7 :: lawSt 8 :: lawSt 9 :: rest) (lawEnv L fa name pm cd doc dV kV)) Q E { s with heap := h₀, toks := tk₀ } := by
  have hcs := codesN_codes (js := js) (h := high) (w := wide) hN
  have hl := codesN_len (js := js) (h := high) (w := wide)
  refine St.cons (st7 (s := { s with heap := h₀, toks := tk₀ }) (cs := codesN js high wide) M R memH rfl (memT (memT (memT memH))) (by rw [← codes_eq]; exact memT (memT memH)) rfl hk2 (by omega) hw5 hr hcs (by omega) fun h₁ t₁ g₁ hg₁ M₁ => ?_)
  refine St.cons (st8 (s := { s with heap := h₁, toks := t₁, gens := g₁ }) M₁ R (memT (memT memH)) (memT (memT (memT (memT (memT memH))))) rfl hh hh5 hw hw5 (by rw [List.length_map]; exact hl) fun h₂ t₂ M₂ => ?_)
  refine St.cons (st9 (s := { s with heap := h₂, toks := t₂, gens := g₁ }) M₂ R (memT memH) rfl (memT (memT (memT (memT memH)))) memH hk2 hh hh5 hw hw5 hcs hl fun h₃ t₃ g₃ lines' hg₃ M₃ => ?_)
  rw [rows_eq] at M₃
  exact hq h₃ t₃ g₃ lines' (fun z => hg₃ (hg₁ z)) M₃

theorem walk_c {Q : Flow → Shared → Prop} (bb : Bs P B) (R : Room 60 A) (hC : ∀ x c, (lawEnv L fa name pm cd doc dV kV).cells.lookup x = some c → B.get? c = none) (hh : 3 ≤ high) (hh5 : high ≤ 5) (hw : 3 ≤ wide) (hw5 : wide ≤ 5) (hk2 : kk ≤ 2) (hN : high * wide ≤ 25)
    (F : Fm B Hs X s.heap (lawEnv L fa name pm cd doc dV kV) ((Str.ofString "rows", .d (.lst ((rsN js high wide).map rD))) :: G6 q js a b high wide kk))
    (hq : ∀ h' tk, Olds Hs h' → Q (.ret (.bool true)) { s with heap := h', toks := tk }) :
    wpAny (model pr w) A (execs [lawSt 10, lawSt 11, lawSt 12, lawSt 13, lawSt 14, lawSt 15, lawSt 16, lawSt 17, lawSt 18, lawSt 19, lawSt 20, lawSt 21, lawSt 22, lawSt 23] (lawEnv L fa name pm cd doc dV kV)) Q E s := by
  have p := page_of (js := js) hh hh5 hw hw5 hN
  have tk := tucker_law (js := js) b hh hh5 hw hw5 hN
  have rl := p.ringLen
  have rc := p.ringCodes
  have hrs : (rsN js high wide).length = high := by rw [List.length_map, List.length_range]
  have sl : (stepsL (ringL (rsN js high wide))).length = (ringL (rsN js high wide)).length := by unfold stepsL; rw [List.length_map, List.length_range]
  have sp : Pairs (stepsL (ringL (rsN js high wide))) := fun x hx => steps_codes rc hx
  have l100 : (ringL (rsN js high wide)).length ≤ 100 := by rw [rl, hrs]; omega
  have l2 : 2 ≤ (ringL (rsN js high wide)).length := by rw [rl]; omega
  have s100 : (stepsL (ringL (rsN js high wide))).length ≤ 100 := by rw [sl]; exact l100
  have s2 : 2 ≤ (stepsL (ringL (rsN js high wide))).length := by rw [sl]; exact l2
  have e1 : high - 1 = (rsN js high wide).length - 1 := by rw [hrs]
  rw [e1] at tk
  have tlen : (costsT (trisN (rsN js high wide) b wide ((rsN js high wide).length - 1))).length ≤ 500 := by
    rw [costsT_len, trisN_length, hrs]
    have h1 : 2 * (wide - 1) * (high - 1) ≤ 8 * 4 := Nat.mul_le_mul (by omega) (by omega)
    omega
  refine St.cons (st10 p R hC F memH rfl fun h₁ t₁ F₁ => ?_)
  refine St.cons (st11 (s := { s with heap := h₁, toks := t₁ }) bb R F₁ memH rfl l100 fun h₂ t₂ F₂ => ?_)
  refine St.cons (st12 (s := { s with heap := h₂, toks := t₂ }) bb R F₂ hk2 sp memH (memT (memT (memT (memT (memT (memT memH)))))) rfl s100 fun h₃ t₃ F₃ => ?_)
  refine St.cons (st13 (s := { s with heap := h₃, toks := t₃ }) R F₃ (memT memH) memH s100 fun h₄ t₄ F₄ => ?_)
  refine St.cons (st14 (s := { s with heap := h₄, toks := t₄ }) R F₄ (memT memH) memH s100 fun h₅ t₅ F₅ => ?_)
  refine St.cons (st15 (s := { s with heap := h₅, toks := t₅ }) bb R F₅ hk2 sp (memT memH) (memT (memT (memT (memT (memT (memT (memT memH))))))) rfl s100 fun h₆ t₆ F₆ => ?_)
  refine St.cons (st16 (s := { s with heap := h₆, toks := t₆ }) bb R F₆ (memT (memT memH)) (memT (memT (memT memH))) rfl s100 sl.symm s2 fun h₇ t₇ F₇ => ?_)
  refine St.cons (st17 (s := { s with heap := h₇, toks := t₇ }) bb R F₇ (memT memH) memH s100 s2 tk.c fun h₈ t₈ F₈ => ?_)
  refine St.cons (st18 (s := { s with heap := h₈, toks := t₈ }) R F₈ rfl fun h₉ t₉ F₉ => ?_)
  refine St.cons (st19 (s := { s with heap := h₉, toks := t₉ }) F₉ rfl fun ad h₁₀ t₁₀ ho hBa F₁₀ => ?_)
  have F₁₁ := F₁₀.sub (G' := (Str.ofString "inside", .d (.int 0)) :: (Str.ofString "costs", .m ad []) :: [(Str.ofString "turns", .d (.lst ((turnsL (stepsL (ringL (rsN js high wide)))).map .int))), (Str.ofString "rim", .d (.lst ((costsL (stepsL (ringL (rsN js high wide)))).map .int))), (Str.ofString "words", .d (.lst ((wordsOf kk).map .str))), (Str.ofString "rows", .d (.lst ((rsN js high wide).map rD))), (Str.ofString "seeds", .d (.lst [.int a, .int b]))])
    (subCons (memT memH) (subCons memH (subCons (memT (memT (memT memH))) (subCons (memT (memT (memT (memT memH)))) (subCons (by repeat (first | exact memH | apply memT)) (subCons (by repeat (first | exact memH | apply memT)) (subCons (by repeat (first | exact memH | apply memT)) subNil)))))))
  refine St.cons (st20 (s := { s with heap := h₁₀, toks := t₁₀ }) bb R hC hk2 p F₁₁ (.inr rfl) ho hBa rfl (memT (memT memH)) (memT (memT (memT memH))) (memT (memT (memT (memT memH)))) rfl rfl rfl rfl fun h₁₂ t₁₂ F₁₂ => ?_)
  have F₁₃ := (F₁₂.sub (G' := (Str.ofString "costs", .m ad ((costsT (trisN (rsN js high wide) b wide ((rsN js high wide).length - 1))).map .int)) :: (Str.ofString "inside", .d (.int (insL (trisN (rsN js high wide) b wide ((rsN js high wide).length - 1))))) :: [(Str.ofString "turns", .d (.lst ((turnsL (stepsL (ringL (rsN js high wide)))).map .int))), (Str.ofString "rim", .d (.lst ((costsL (stepsL (ringL (rsN js high wide)))).map .int)))])
    (subCons (memT memH) (subCons memH (subCons (memT (memT memH)) (subCons (memT (memT (memT memH))) subNil))))).freeze rfl
  refine St.cons (st21 (s := { s with heap := h₁₂, toks := t₁₂ }) bb R F₁₃ (memT (memT memH)) (memT memH) memH tk.d tk.e fun h₁₄ t₁₄ F₁₄ => ?_)
  refine St.cons (st22 (s := { s with heap := h₁₄, toks := t₁₄ }) bb R F₁₄ (memT (memT (memT memH))) memH (by unfold costsL; rw [List.length_map]; exact Nat.le_trans s100 (by decide)) tlen fun h₁₅ t₁₅ F₁₅ => ?_)
  refine St.cons (st23 (s := { s with heap := h₁₅, toks := t₁₅ }) R F₁₅ (memT (memT (memT memH))) (memT memH) tk.g fun h₁₆ t₁₆ F₁₆ => ?_)
  exact hq h₁₆ t₁₆ F₁₆.olds

theorem law_walk {Q : Flow → Shared → Prop} (KX : (K2 P).In H₀) (bb : Bs P (Hid H₀)) (R : Room 60 A) (hlen : js.length ≤ 63) (g₀ : Grow H₀ h₀) (hX1 : X 140) (hX2 : X 147)
    (F : Fm (Hid H₀) [(is140, H₀)] X h₀ (lawEnv H₀.objs.size fa name pm cd doc dV kV) [(Str.ofString "script", .d (.lst (js.map .int)))])
    (hq : ∀ h' tk g', (AllBare s.gens → AllBare g') → (∀ b o, ¬ is140 b → H₀.get? b = some o → h'.get? b = some o) → (∃ tab, CodeT h' 144 140 tab) → (∃ tab, CodeT h' 151 147 tab) → Q (.ret (.bool true)) { s with heap := h', toks := tk, gens := g' }) :
    wpAny (model pr w) A (execs lawBody (lawEnv H₀.objs.size fa name pm cd doc dV kV)) Q E { s with heap := h₀, toks := tk₀ } := by
  obtain ⟨a, b, hab⟩ := seeds_two (js := js)
  obtain ⟨high, wide, kk, e1, e2, e3, hh, hh5, hw, hw5, hk2⟩ := dims a
  obtain ⟨r, er, hr⟩ := rem_nat b kk
  have hN : high * wide ≤ 25 := by
    have : high * wide ≤ 5 * 5 := Nat.mul_le_mul hh5 hw5
    omega
  have hC : ∀ x c, (lawEnv H₀.objs.size fa name pm cd doc dV kV).cells.lookup x = some c → (Hid H₀).get? c = none := fun x c hc => get_size_none _ (by rw [hid_size]; exact Nat.le_of_lt (law_cells hc))
  have nf : ∀ b o, H₀.get? b = some o → ¬ fY (lawEnv H₀.objs.size fa name pm cd doc dV kV) b := fun b o e z => by
    exact absurd (Heap.lt_size e) (Nat.not_lt.mpr (law_fY z))
  rw [lawBody_eq]
  refine walk_a KX bb R hlen g₀ hX1 hX2 hab e1 e2 e3 er hh hh5 hw hw5 hk2 hN F fun q h₁ t₁ M₁ => ?_
  refine walk_b R hr hh hh5 hw hw5 hk2 hN M₁ fun h₂ t₂ g₂ lines' hg₂ M₂ => ?_
  refine walk_c (s := { s with heap := h₂, toks := t₂, gens := g₂ }) bb R hC hh hh5 hw hw5 hk2 hN M₂.snapY fun h₃ t₃ O => ?_
  have k := O _ (.head _)
  obtain ⟨tab1, hT1⟩ := M₂.ps.t1
  obtain ⟨tab2, hT2⟩ := M₂.ps.t2
  refine hq h₃ t₃ g₂ hg₂ (O _ (.tail _ (.head _))) ⟨tab1, code_keep hT1 (fun o e => k _ _ (nf 144 _ (KX 144 _ rfl)) e) fun o e => k _ _ (nf 140 _ (KX 140 _ rfl)) e⟩ ⟨tab2, code_keep hT2 (fun o e => k _ _ (nf 151 _ (KX 151 _ rfl)) e) fun o e => k _ _ (nf 147 _ (KX 147 _ rfl)) e⟩
end
end
-- MEV
section
noncomputable def A2 : List Addr := [140, 147, 2, 3, 15, 17, 18, 20, 21, 29, 31, 32, 34, 35, 36, 38, 39, 41, 42, 43, 45, 46, 48, 49, 50, 52, 53, 55, 56, 57, 59, 60, 62, 63, 64, 66, 67, 69, 70, 71, 73, 74, 76, 77, 78, 80, 81, 83, 84, 85, 87, 88, 90, 91, 92, 93, 94, 95, 96, 99, 102, 107, 108, 109, 111, 112, 114, 115, 116, 118, 119, 121, 122, 123, 124, 126, 127, 129, 130, 131, 132, 134, 135, 137, 138, 139, 141, 142, 144, 145, 146, 148, 149, 151, 152, 153, 154, 156, 157, 159, 160, 161, 163, 164, 166, 167, 168, 169, 171, 172, 174, 175, 176, 177, 178, 179, 180, 183, 185, 186, 188, 189, 190, 192, 193, 195, 196, 197, 199, 200, 202, 203, 204, 206, 207, 209, 210, 211, 214, 215]
theorem A2_eq : ∀ P, A2 = (K2 P).map (·.1) := fun _ => by kernel_rfl
theorem old_tables {P : Params} {H₀ h' : Heap} (KX : (K2 P).In H₀) (old : ∀ b o, ¬ is140 b → H₀.get? b = some o → h'.get? b = some o) (t1 : ∃ tab, CodeT h' 144 140 tab) (t2 : ∃ tab, CodeT h' 151 147 tab) : OldK H₀ h' := by
  obtain ⟨tab1, _, T1⟩ := t1
  obtain ⟨tab2, _, T2⟩ := t2
  have e1 := K2.at140 KX
  have e2 := K2.at147 KX
  refine ⟨fun b o e => ?_, fun b o e => ?_⟩
  · by_cases hb : is140 b
    · rcases hb with rfl | rfl
      · rw [e1] at e
        cases e
        exact .inr (.inl ⟨(K2.tab1 KX).2.isCodeTable, rfl, #[], tab1, rfl, by rw [Array.empty_append]; exact T1.2⟩)
      · rw [e2] at e
        cases e
        exact .inr (.inl ⟨(K2.tab2 KX).2.isCodeTable, rfl, #[], tab2, rfl, by rw [Array.empty_append]; exact T2.2⟩)
    · exact .inl (old b o hb e)
  · by_cases hb : is140 b
    · rcases hb with rfl | rfl
      · exact ⟨_, T1.2⟩
      · exact ⟨_, T2.2⟩
    · exact ⟨o, old b o hb e⟩
/-- the text less the four lines that bind a module's own name -/
noncomputable def topV : Program := { PySem.Challenge.pw_xj0025_01 with main := { PySem.Challenge.pw_xj0025_01.main with body := [0, 2, 3, 4, 5, 7, 9, 10, 11, 13, 14, 15].filterMap (PySem.Challenge.pw_xj0025_01.main.body[·]?) } }
noncomputable abbrev topR : RowW := OpenRow.toRowW PySem.Challenge.rw_xj0025_01.row
noncomputable abbrev topH : Hook := kHook K2 A2 A2_eq
noncomputable abbrev topX (s : Shared) : Bool := xlAt topV [] s && recOk (RowW.records topR) s
noncomputable abbrev topP : Program := PySem.Challenge.rw_xj0025_01.row.prog
/-- what the top leaves behind the boot, in every world: one run in the kernel -/
theorem top_run (w : World) (os : OsState) : (topFrom treeTable topP w 2638 ⟨boot_heap w.params, Array.mk [], boot_drawn, boot_toks, os⟩).map (fun s => (openSeen topV [Str.ofString "_Accumulator"] (importedModules topP.main.body) topX true s, Hook.obs topH s)) = some (openGood topV [Str.ofString "_Accumulator"], Hook.val topH w) := by
  unfold topFrom
  first | rw [PySem.W.Fast.te14082659384304107361, PySem.W.Fast.te14364793385576792824, PySem.W.Fast.te4187177175401517315] | skip
  kernel_rfl
theorem top_boot (w : World) : (fencedOpening treeTable topP w 2638).map (fun s => (s.heap, s.gens, s.drawn, s.toks)) = some (boot_heap w.params, Array.mk [], boot_drawn, boot_toks) :=
  boot_open (p := topP) (N := 2638) (by kernel_rfl) (by kernel_rfl) (fun s => by kernel_rfl) w
theorem top_left : LeftO topP topV [Str.ofString "_Accumulator"] topX (Hook.obs topH) (Hook.val topH) 2638 := fun w => by
  obtain ⟨⟨h, gs, d, k, os⟩, e, e'⟩ := Option.map_eq_some_iff.mp (top_boot w)
  have r := top_run w os
  generalize boot_heap w.params = bh at e' r
  generalize boot_drawn = bd at e' r
  generalize boot_toks = bt at e' r
  simp only [Prod.mk.injEq] at e'
  obtain ⟨rfl, rfl, rfl, rfl⟩ := e'
  unfold openEnds
  rw [e]
  exact r
theorem cw_all : PySem.Challenge.rw_xj0025_01.Holds := by
  w_on
  o_law
  refine holds_open (q := topV) (loose := [Str.ofString "_Accumulator"]) (Xt := topX) (XP := XL topV []) (Yf := Hook.obs topH) (Ya := Hook.val topH) (YP := Hook.says topH) (N := 2638) top_left (Hook.of topH) (Hook.keeps topH) (fun s e => xl_of s (Bool.and_eq_true_iff.mp e).1) XL.keeps (by rfl) (by rfl) (by rfl) (fun s e => recFacts_of (Bool.and_eq_true_iff.mp e).2) (by rfl) (by first | assumption | decide +kernel) (by decide +kernel) ⟨rfl, rfl, rfl, rfl, rfl, by decide +kernel⟩ ?hw ?hc
  (case hw => w_witness2)
  intro w s₀ s₁ mg mb G Y fa o pm cd doc dV kV ho hd hcd hD hmg hg args vals as hpre hlay hrd hwl hlo
  have KX := kIn_of Y
  refine Ground.open G ?_
  intro T B D TE TW
  wrow_args hpre hlay hrd hwl hlo
  rename Well _ _ _ _ => W1
  rename ¬ _ => hcond
  obtain ⟨vs, hl, hv⟩ := isD_of_well W1
  have he := Dflts.none hD rfl
  subst he
  have he := Dflts.noKw hD
  subst he
  refine law_call lawStmt_eq KX T ho hd hcd hl hv rfl rfl rfl rfl rfl fun h₀ tk R F g₀ => ?_
  refine law_walk (s := s₁) KX (Bs.hid KX T) R (by omega) g₀ (.inl rfl) (.inr (.inl rfl)) F fun h' tk' g' hg' old t1 t2 => ?_
  refine ⟨.inl ⟨.bool true, .bool true, [], rfl, fun cls => ?_, ?_, ?_, ?_⟩, old_tables KX old t1 t2, rfl, hg' (.of_eq hg)⟩
  · first | rfl | exact raisesW_false (by wrow_none_raised)
  · first | exact ReadsW.bool _ | exact readsW_of_reads (Reads.bool true) | (w_reads; done)
  · first | rfl | exact postW_of (by wrow_shape) (by wtm_val) rfl
  · exact fun _ => ⟨List.nodup_nil, fun a ha => by cases ha⟩
end
end Mine

theorem PySem.Challenge.cw_xj0025_01_holds : PySem.Challenge.rw_xj0025_01.Holds := by
  exact Mine.cw_all

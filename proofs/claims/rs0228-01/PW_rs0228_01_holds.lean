import PyProof.Rows.All
import Wide.All
import OpenK.AllK
import Wide.FinOn
import KE.IntBitsLaws
import KE.KEqSeq
import KE.KSetIn
import KE.KStrOpen
import KE.KRevIter
import PyProof.Rows.SumAny
import PyProof.EnumMake
import PyProof.WalksEnum
import KE.KNest
import Lean
import PySem.Challenge.RW_rs0228_01
set_option Elab.async false
set_option maxRecDepth 100000
set_option linter.unusedVariables false
open PySem PySem.W PySem.Calls PyProof.Rows
namespace Mine
noncomputable abbrev pw : Program := PySem.Challenge.pw_rs0228_01
inductive D where
  | none
  | bool (b : Bool)
  | int (i : Int)
  | str (x : Str)
  | tup (l : List D)
  | list (l : List D)
  | dict (l : List (Str × D))
mutual
noncomputable def Rep (w : World) (X : Addr → Prop) (h : Heap) : D → Value → Prop
  | .none, v => v = .none
  | .bool b, v => v = .bool b
  | .int i, v => ∃ t, v = .int i t
  | .str x, v => ∃ t, v = .str x t
  | .tup l, v => ∃ a vs, v = .ref a ∧ ¬ X a ∧ h.IsTuple a (List.toArray vs) ∧ RepL w X h l vs
  | .list l, v => ∃ a vs, v = .ref a ∧ ¬ X a ∧ h.PlainList a (List.toArray vs) ∧ RepL w X h l vs
  | .dict l, v => ∃ a f, v = .ref a ∧ ¬ X a ∧ (a == sysModules) = false ∧ h.MapOf (PySem.strKind pw w) a f ∧ RepM w X h l f
noncomputable def RepL (w : World) (X : Addr → Prop) (h : Heap) : List D → List Value → Prop
  | [], vs => vs = []
  | d :: l, vs => ∃ v r, vs = v :: r ∧ Rep w X h d v ∧ RepL w X h l r
noncomputable def RepM (w : World) (X : Addr → Prop) (h : Heap) : List (Str × D) → (Str → Option Value) → Prop
  | [], f => f = fun _ => Option.none
  | (x, d) :: l, f => ∃ v g, f = (fun y => if y = x then some v else g y) ∧ Rep w X h d v ∧ RepM w X h l g
end
noncomputable def Pres (X : Addr → Prop) (h h' : Heap) : Prop := ∀ b o, ¬ X b → h.get? b = some o → h'.get? b = some o
noncomputable def Grow (h h' : Heap) : Prop := ∀ b o, h.get? b = some o → h'.get? b = some o
theorem Grow.pres {X : Addr → Prop} {h h' : Heap} (g : Grow h h') : Pres X h h' := fun b o _ e => g b o e
theorem Grow.refl (h : Heap) : Grow h h := fun _ _ e => e
theorem Grow.trans {h h' h'' : Heap} (a : Grow h h') (b : Grow h' h'') : Grow h h'' := fun x o e => b x o (a x o e)
theorem isList_pres {X : Addr → Prop} {h h' : Heap} {a : Addr} {vs : Array Value} (p : Pres X h h') (hx : ¬ X a) (l : h.PlainList a vs) : h'.PlainList a vs :=
  let ⟨n, ho⟩ := l; ⟨n, p a _ hx ho⟩
theorem isTuple_pres {X : Addr → Prop} {h h' : Heap} {a : Addr} {vs : Array Value} (p : Pres X h h') (hx : ¬ X a) (l : h.IsTuple a vs) : h'.IsTuple a vs :=
  let ⟨o, ho, r⟩ := l; ⟨o, p a o hx ho, r⟩
theorem mapOf_pres {X : Addr → Prop} {h h' : Heap} {a : Addr} {w : World} {f} (p : Pres X h h') (hx : ¬ X a) (l : h.MapOf (PySem.strKind pw w) a f) : h'.MapOf (PySem.strKind pw w) a f :=
  let ⟨o, es, ep, ho, r⟩ := l; ⟨o, es, ep, p a o hx ho, r⟩
mutual
theorem Rep.pres {w : World} {X : Addr → Prop} {h h' : Heap} (p : Pres X h h') : ∀ (d : D) (v : Value), Rep w X h d v → Rep w X h' d v
  | .none, v, r => by simpa only [Rep] using r
  | .bool b, v, r => by simpa only [Rep] using r
  | .int i, v, r => by simpa only [Rep] using r
  | .str x, v, r => by simpa only [Rep] using r
  | .tup l, v, r => by
    simp only [Rep] at r ⊢
    obtain ⟨a, vs, e, hx, ht, rl⟩ := r
    exact ⟨a, vs, e, hx, isTuple_pres p hx ht, RepL.pres p l vs rl⟩
  | .list l, v, r => by
    simp only [Rep] at r ⊢
    obtain ⟨a, vs, e, hx, ht, rl⟩ := r
    exact ⟨a, vs, e, hx, isList_pres p hx ht, RepL.pres p l vs rl⟩
  | .dict l, v, r => by
    simp only [Rep] at r ⊢
    obtain ⟨a, f, e, hx, hs, ht, rl⟩ := r
    exact ⟨a, f, e, hx, hs, mapOf_pres p hx ht, RepM.pres p l f rl⟩
theorem RepL.pres {w : World} {X : Addr → Prop} {h h' : Heap} (p : Pres X h h') : ∀ (l : List D) (vs : List Value), RepL w X h l vs → RepL w X h' l vs
  | [], vs, r => by simpa only [RepL] using r
  | d :: l, vs, r => by
    simp only [RepL] at r ⊢
    obtain ⟨v, s, e, rd, rl⟩ := r
    exact ⟨v, s, e, Rep.pres p d v rd, RepL.pres p l s rl⟩
theorem RepM.pres {w : World} {X : Addr → Prop} {h h' : Heap} (p : Pres X h h') : ∀ (l : List (Str × D)) (f : Str → Option Value), RepM w X h l f → RepM w X h' l f
  | [], f, r => by simpa only [RepM] using r
  | (x, d) :: l, f, r => by
    simp only [RepM] at r ⊢
    obtain ⟨v, g, e, rd, rl⟩ := r
    exact ⟨v, g, e, Rep.pres p d v rd, RepM.pres p l g rl⟩
end
theorem Rep.weak {w : World} {X Y : Addr → Prop} {h : Heap} (xy : ∀ a, (h.get? a).isSome = true → Y a → X a) : ∀ (d : D) (v : Value), Rep w X h d v → Rep w Y h d v := by
  have ex : ∀ {a : Addr} {o : Obj}, h.get? a = some o → ¬ X a → ¬ Y a := fun e n y => n (xy _ (by rw [e]; rfl) y)
  intro d
  refine D.rec (motive_1 := fun d => ∀ v, Rep w X h d v → Rep w Y h d v) (motive_2 := fun l => ∀ vs, RepL w X h l vs → RepL w Y h l vs)
    (motive_3 := fun l => ∀ f, RepM w X h l f → RepM w Y h l f) (motive_4 := fun p => ∀ v, Rep w X h p.2 v → Rep w Y h p.2 v) ?_ ?_ ?_ ?_ ?_ ?_ ?_ ?_ ?_ ?_ ?_ ?_ d
  · intro v r; simpa only [Rep] using r
  · intro b v r; simpa only [Rep] using r
  · intro i v r; simpa only [Rep] using r
  · intro x v r; simpa only [Rep] using r
  · intro l ih v r
    simp only [Rep] at r ⊢
    obtain ⟨a, vs, e, hx, ht, rl⟩ := r
    obtain ⟨o, ho, _⟩ := id ht
    exact ⟨a, vs, e, ex ho hx, ht, ih vs rl⟩
  · intro l ih v r
    simp only [Rep] at r ⊢
    obtain ⟨a, vs, e, hx, ht, rl⟩ := r
    obtain ⟨o, ho⟩ := id ht
    exact ⟨a, vs, e, ex ho hx, ht, ih vs rl⟩
  · intro l ih v r
    simp only [Rep] at r ⊢
    obtain ⟨a, f, e, hx, hs, ht, rl⟩ := r
    obtain ⟨o, _, _, ho, _⟩ := id ht
    exact ⟨a, f, e, ex ho hx, hs, ht, ih f rl⟩
  · intro vs r; simpa only [RepL] using r
  · intro d l ihd ihl vs r
    simp only [RepL] at r ⊢
    obtain ⟨v, s, e, rd, rl⟩ := r
    exact ⟨v, s, e, ihd v rd, ihl s rl⟩
  · intro f r; simpa only [RepM] using r
  · intro p l ihd ihl f r
    obtain ⟨x, d⟩ := p
    simp only [RepM] at r ⊢
    obtain ⟨v, g, e, rd, rl⟩ := r
    exact ⟨v, g, e, ihd v rd, ihl g rl⟩
  · intro x d ih v r; exact ih v r
theorem RepL.weak {w : World} {X Y : Addr → Prop} {h : Heap} (xy : ∀ a, (h.get? a).isSome = true → Y a → X a) : ∀ (l : List D) (vs : List Value), RepL w X h l vs → RepL w Y h l vs
  | [], vs, r => by simpa only [RepL] using r
  | d :: l, vs, r => by
    simp only [RepL] at r ⊢
    obtain ⟨v, s, e, rd, rl⟩ := r
    exact ⟨v, s, e, Rep.weak xy d v rd, RepL.weak xy l s rl⟩
theorem RepL.length {w : World} {X : Addr → Prop} {h : Heap} : ∀ {l : List D} {vs : List Value}, RepL w X h l vs → vs.length = l.length
  | [], vs, r => by simp only [RepL] at r; subst r; rfl
  | d :: l, vs, r => by
    simp only [RepL] at r
    obtain ⟨v, s, rfl, _, rl⟩ := r
    simp [RepL.length rl]
theorem RepL.at {w : World} {X : Addr → Prop} {h : Heap} : ∀ {l : List D} {vs : List Value} (i : Nat) {d : D}, RepL w X h l vs → l[i]? = some d → ∃ v, vs[i]? = some v ∧ Rep w X h d v
  | [], vs, i, d, r, e => by simp at e
  | d :: l, vs, 0, d', r, e => by
    simp only [RepL] at r
    obtain ⟨v, s, rfl, rd, rl⟩ := r
    simp at e; subst e
    exact ⟨v, rfl, rd⟩
  | d :: l, vs, i + 1, d', r, e => by
    simp only [RepL] at r
    obtain ⟨v, s, rfl, rd, rl⟩ := r
    simp at e
    obtain ⟨v', e', r'⟩ := RepL.at i rl e
    exact ⟨v', by simpa using e', r'⟩
theorem RepL.append {w : World} {X : Addr → Prop} {h : Heap} : ∀ {l m : List D} {vs us : List Value}, RepL w X h l vs → RepL w X h m us → RepL w X h (l ++ m) (vs ++ us)
  | [], m, vs, us, r, q => by simp only [RepL] at r; subst r; exact q
  | d :: l, m, vs, us, r, q => by
    simp only [RepL] at r
    obtain ⟨v, s, rfl, rd, rl⟩ := r
    simp only [List.cons_append, RepL]
    exact ⟨v, s ++ us, rfl, rd, RepL.append rl q⟩
theorem RepL.one {w : World} {X : Addr → Prop} {h : Heap} {d : D} {v : Value} (r : Rep w X h d v) : RepL w X h [d] [v] := by
  simp only [RepL]; exact ⟨v, [], rfl, r, rfl⟩
theorem RepL.nil {w : World} {X : Addr → Prop} {h : Heap} : RepL w X h [] [] := by simp only [RepL]
theorem RepM.at {w : World} {X : Addr → Prop} {h : Heap} : ∀ {l : List (Str × D)} {f : Str → Option Value} {x : Str}, RepM w X h l f →
    match l.lookup x with
    | some d => ∃ v, f x = some v ∧ Rep w X h d v
    | Option.none => f x = Option.none
  | [], f, x, r => by simp only [RepM] at r; subst r; rfl
  | (y, d) :: l, f, x, r => by
    simp only [RepM] at r
    obtain ⟨v, g, rfl, rd, rl⟩ := r
    rw [List.lookup_cons]
    by_cases h : x = y
    · subst h; simp [rd]
    · have : (x == y) = false := by simpa using h
      rw [this]
      simp only [h, if_false]
      exact RepM.at rl
theorem wpQ {α : Type} {M : Model} {A : Around} {t : Sem α} {Q : α → Shared → Prop} {E : Value → Shared → Prop} {s : Shared} (h : ∀ Q' : α → Shared → Prop, (∀ a s', Q a s' → Q' a s') → wpAny M A t Q' E s) : wpAny M A t Q E s := h Q fun _ _ x => x
structure SC where
  sc : Scope
  ns : List Str
  gs : List Str
noncomputable def SC.ok (c : SC) : Bool :=
  c.sc.kind == .function && c.ns.all (fun x => (c.sc.names.lookup x == some .local || c.sc.names.lookup x == some .cell) && !(x == ("__debug__" : Str))) &&
  c.gs.all (fun x => c.sc.names.lookup x == some .globalImplicit && !(x == ("__debug__" : Str))) && decide c.ns.Nodup
inductive V where
  | imm (d : D)
  | own (d : D)
theorem codeQ {M : Model} {A : Around} {c : Code} {R : Result → Shared → Prop} {s : Shared} (h : ∀ R' : Result → Shared → Prop, (∀ r s', R r s' → R' r s') → codeAny M A c R' s) : codeAny M A c R s := h R fun _ _ x => x
theorem hideP {α β : Type} (P : α → β → Prop) : ∃ Q : α → β → Prop, (∀ a b, P a b → Q a b) ∧ ∀ a b, Q a b → P a b := ⟨P, fun _ _ x => x, fun _ _ x => x⟩
theorem ltS {P : Nat → Prop} {n : Nat} (hn : P n) (h : ∀ k, k < n → P k) (k : Nat) (hk : k < n + 1) : P k := (Nat.lt_or_eq_of_le (Nat.le_of_lt_succ hk)).elim (h k) fun e => e ▸ hn
theorem lt3 {P : Nat → Prop} (p0 : P 0) (p1 : P 1) (p2 : P 2) : ∀ k, k < 3 → P k := ltS p2 (ltS p1 (ltS p0 fun _ h => absurd h (Nat.not_lt_zero _)))
theorem lt4 {P : Nat → Prop} (p0 : P 0) (p1 : P 1) (p2 : P 2) (p3 : P 3) : ∀ k, k < 4 → P k := ltS p3 (lt3 p0 p1 p2)
theorem lt6 {P : Nat → Prop} (p0 : P 0) (p1 : P 1) (p2 : P 2) (p3 : P 3) (p4 : P 4) (p5 : P 5) : ∀ k, k < 6 → P k := ltS p5 (ltS p4 (lt4 p0 p1 p2 p3))
noncomputable abbrev Ctx := List (Option V)
inductive Has : List Str → Ctx → Str → V → Prop
  | head {x : Str} {ns : List Str} {v : V} {G : Ctx} : Has (x :: ns) (some v :: G) x v
  | tail {x y : Str} {ns : List Str} {v : V} {o : Option V} {G : Ctx} : Has ns G x v → Has (y :: ns) (o :: G) x v
noncomputable def noHas : List Str → Ctx → Str → Bool
  | y :: ns, o :: G, x => (o.isNone || !(x == y)) && noHas ns G x
  | [], _, _ => true
  | _ :: _, [], _ => true
theorem Has.no {ns : List Str} {G : Ctx} {x : Str} {v : V} (e : noHas ns G x = true) (h : Has ns G x v) : False := by
  induction h with
  | head => simp [noHas] at e
  | tail _ ih => exact ih (Bool.and_eq_true _ _ ▸ e).2
inductive Put : List Str → Ctx → Str → V → Ctx → Prop
  | head {x : Str} {ns : List Str} {v : V} {o : Option V} {G : Ctx} : Put (x :: ns) (o :: G) x v (some v :: G)
  | tail {x y : Str} {ns : List Str} {v : V} {o : Option V} {G G' : Ctx} : Put ns G x v G' → Put (y :: ns) (o :: G) x v (o :: G')
inductive In : List Str → Str → Prop
  | head {x : Str} {ns : List Str} : In (x :: ns) x
  | tail {x y : Str} {ns : List Str} : In ns x → In (y :: ns) x
inductive Less : Ctx → Ctx → Prop
  | nil : Less [] []
  | same {o : Option V} {G G' : Ctx} : Less G G' → Less (o :: G) (o :: G')
  | drop {o : Option V} {G G' : Ctx} : Less G G' → Less (Option.none :: G) (o :: G')
theorem In.mem {ns : List Str} {x : Str} (h : In ns x) : x ∈ ns := by induction h <;> simp_all
theorem Has.mem {ns : List Str} {G : Ctx} {x : Str} {v : V} (h : Has ns G x v) : x ∈ ns := by induction h <;> simp_all
theorem Put.mem {ns : List Str} {G G' : Ctx} {x : Str} {v : V} (h : Put ns G x v G') : x ∈ ns := by induction h <;> simp_all
theorem Has.of_put {ns : List Str} {G G' : Ctx} {x y : Str} {v u : V} (p : Put ns G x v G') (nd : ns.Nodup) : Has ns G' y u → (y = x ∧ u = v) ∨ (y ≠ x ∧ Has ns G y u) := by
  induction p with
  | head =>
    intro h
    cases h with
    | head => exact .inl ⟨rfl, rfl⟩
    | tail h => exact .inr ⟨fun e => by subst e; exact (List.nodup_cons.mp nd).1 h.mem, .tail h⟩
  | tail p ih =>
    intro h
    cases h with
    | head => exact .inr ⟨fun e => by subst e; exact (List.nodup_cons.mp nd).1 p.mem, .head⟩
    | tail h =>
      rcases ih (List.nodup_cons.mp nd).2 h with q | q
      · exact .inl q
      · exact .inr ⟨q.1, .tail q.2⟩
theorem Has.of_less {ns : List Str} {G G' : Ctx} {x : Str} {v : V} (l : Less G G') (h : Has ns G x v) : Has ns G' x v := by
  induction h generalizing G' with
  | head => cases l with | same l => exact .head
  | tail h ih => cases l with
    | same l => exact .tail (ih l)
    | drop l => exact .tail (ih l)
theorem Less.refl : ∀ G : Ctx, Less G G
  | [] => .nil
  | _ :: G => .same (Less.refl G)
noncomputable def VarIs (env : Env) (h : Heap) (x : Str) (v : Value) : Prop :=
  (env.kindOf x = some .local ∧ ∃ m, h.Ns env.locals m ∧ m x = some v) ∨ (env.kindOf x = some .cell ∧ ∃ c, env.cells.lookup x = some c ∧ h.IsCell c (some v))
noncomputable def RepK (w : World) (X : Addr → Prop) (h : Heap) : List (Str × D) → List (Str × Value) → Prop
  | [], kvs => kvs = []
  | (x, d) :: l, kvs => ∃ v r, kvs = (x, v) :: r ∧ Rep w X h d v ∧ RepK w X h l r
theorem RepK.map {w : World} {X Y : Addr → Prop} {h h' : Heap} (f : ∀ d v, Rep w X h d v → Rep w Y h' d v) : ∀ (l : List (Str × D)) (kvs : List (Str × Value)), RepK w X h l kvs → RepK w Y h' l kvs
  | [], kvs, r => r
  | (x, d) :: l, kvs, ⟨v, r, e, rd, rl⟩ => ⟨v, r, e, f d v rd, RepK.map f l r rl⟩
theorem RepK.toM {w : World} {X : Addr → Prop} {h : Heap} : ∀ {l : List (Str × D)} {kvs : List (Str × Value)}, RepK w X h l kvs → RepM w X h l (valueAt kvs)
  | [], kvs, r => by simp only [RepK] at r; subst r; simp only [RepM]; rfl
  | (x, d) :: l, kvs, ⟨v, r, e, rd, rl⟩ => by
    subst e
    simp only [RepM]
    refine ⟨v, valueAt r, funext fun y => ?_, rd, RepK.toM rl⟩
    unfold valueAt
    rw [List.find?_cons]
    by_cases q : y = x
    · subst q; simp
    · simp [q, Ne.symm q]
theorem RepK.length {w : World} {X : Addr → Prop} {h : Heap} : ∀ {l : List (Str × D)} {kvs : List (Str × Value)}, RepK w X h l kvs → kvs.length = l.length
  | [], kvs, r => by simp only [RepK] at r; subst r; rfl
  | (x, d) :: l, kvs, ⟨v, r, e, rd, rl⟩ => by subst e; simp [RepK.length rl]
noncomputable def Held (w : World) (X : Addr → Prop) (h : Heap) : D → Addr → Prop
  | .list l, a => ∃ vs, h.PlainList a (List.toArray vs) ∧ RepL w X h l vs
  | .dict l, a => ∃ kvs, (a == sysModules) = false ∧ h.DictOf (PySem.strKind pw w) a kvs ∧ RepK w X h l kvs
  | _, _ => False
theorem RepM.weak {w : World} {X Y : Addr → Prop} {h : Heap} (xy : ∀ a, (h.get? a).isSome = true → Y a → X a) : ∀ (l : List (Str × D)) (f : Str → Option Value), RepM w X h l f → RepM w Y h l f
  | [], f, r => by simpa only [RepM] using r
  | (x, d) :: l, f, r => by
    simp only [RepM] at r ⊢
    obtain ⟨v, g, e, rd, rl⟩ := r
    exact ⟨v, g, e, Rep.weak xy d v rd, RepM.weak xy l g rl⟩
theorem Held.weak {w : World} {X Y : Addr → Prop} {h : Heap} {d : D} {a : Addr} (xy : ∀ a, (h.get? a).isSome = true → Y a → X a) (r : Held w X h d a) : Held w Y h d a := by
  cases d with
  | list l => obtain ⟨vs, p, q⟩ := r; exact ⟨vs, p, RepL.weak xy l vs q⟩
  | dict l => obtain ⟨f, n, p, q⟩ := r; exact ⟨f, n, p, q.map (Rep.weak xy) l f⟩
  | _ => exact r.elim
theorem Held.pres {w : World} {X : Addr → Prop} {h h' : Heap} {d : D} {a : Addr} (pr : Pres X h h') (e : ∀ o, h.get? a = some o → h'.get? a = some o) (r : Held w X h d a) : Held w X h' d a := by
  cases d with
  | list l => obtain ⟨vs, ⟨n, p⟩, q⟩ := r; exact ⟨vs, ⟨n, e _ p⟩, RepL.pres pr l vs q⟩
  | dict l => obtain ⟨f, n, ⟨o, es, ep, p, t⟩, q⟩ := r; exact ⟨f, n, ⟨o, es, ep, e _ p, t⟩, q.map (Rep.pres pr) l f⟩
  | _ => exact r.elim
theorem Held.some {w : World} {X : Addr → Prop} {h : Heap} {d : D} {a : Addr} (r : Held w X h d a) : (h.get? a).isSome = true := by
  cases d with
  | list l => obtain ⟨vs, ⟨n, p⟩, q⟩ := r; rw [p]; rfl
  | dict l => obtain ⟨f, n, ⟨o, es, ep, p, t⟩, q⟩ := r; rw [p]; rfl
  | _ => exact r.elim
theorem Held.not_cell {w : World} {X : Addr → Prop} {h : Heap} {d : D} {a b : Addr} {v : Option Value} (r : Held w X h d a) (c : h.IsCell b v) : a ≠ b := fun e => by
  subst e
  obtain ⟨o', e', d'⟩ := c
  cases d with
  | list l => obtain ⟨vs, ⟨n, p⟩, q⟩ := r; rw [p] at e'; cases e'; cases d'
  | dict l => obtain ⟨f, n, ⟨o, es, ep, p, _, t, _⟩, q⟩ := r; rw [p] at e'; cases e'; rw [t] at d'; cases d'
  | _ => exact r.elim
noncomputable def RepV (w : World) (X₀ X : Addr → Prop) (h : Heap) : V → Value → Prop
  | .imm d, v => Rep w X h d v
  | .own d, v => ∃ a, v = .ref a ∧ X a ∧ ¬ X₀ a ∧ Held w X h d a
inductive IsFn (h : Heap) (f : Str) (a : Addr) : Prop
  | mk (o : Obj) (pm cd doc : Value) (params : Arguments) (body : List Stmt) (sc : Scope) (h1 : pw.theDef f = some (params, body, sc)) (h2 : h.get? a = some o) (h3 : o.data = .func (docDef f params body sc pm cd doc)) (h4 : h.CodeRec cd f)
noncomputable def b1Has (i : Int) : Bool := [173, 847, 6150, 6155, 6156, 6157, 8203, 8204, 8205, 8288, 65279].contains i || (decide (65024 ≤ i) && decide (i < 65040))
noncomputable def intE (e : Expr) : Option Int := by
  cases e with
  | Constant c _ _ => cases c with
    | int i => exact some i
    | _ => exact Option.none
  | _ => exact Option.none
theorem nsE {α : Type} {i : α} {P : Prop} (h : Option.none = some i) : P := by cases h
theorem intE_eq {e : Expr} {i : Int} : intE e = some i → ∃ n p, e = .Constant (.int i) n p := by
  cases e with
  | Constant c n p => cases c with
    | int j => exact fun h => ⟨n, p, by rw [Option.some.inj h]⟩
    | _ => exact fun h => nsE h
  | _ => exact fun h => nsE h
noncomputable def strE (e : Expr) : Option Str := by
  cases e with
  | Constant c _ _ => cases c with
    | str x => exact some x
    | _ => exact Option.none
  | _ => exact Option.none
noncomputable def keyE : Option Expr → Option Int
  | some e => intE e
  | Option.none => Option.none
noncomputable def constPairs : List (Option Expr) → List Expr → Option (List (Int × Str))
  | [], _ => some []
  | _ :: _, [] => some []
  | k :: ks, v :: vs => match keyE k with
    | some i => (match strE v with
      | some x => (match constPairs ks vs with | some l => some ((i, x) :: l) | Option.none => Option.none)
      | Option.none => Option.none)
    | Option.none => Option.none
noncomputable def dictE (e : Expr) : List (Option Expr) × List Expr := by
  cases e with
  | Dict ks vs _ => exact (ks, vs)
  | _ => exact ([], [])
noncomputable def asgE (st : Stmt) : List Expr × Expr := by
  cases st with
  | Assign ts e _ => exact (ts, e)
  | _ => exact ([], .Name "" default)
noncomputable def dKs (st : Stmt) : List (Option Expr) := (dictE (asgE st).2).1
noncomputable def dVs (st : Stmt) : List Expr := (dictE (asgE st).2).2
noncomputable def b3St : Stmt := pw.main.body.getD 15 (.Pass default)
noncomputable def b3Pairs : List (Int × Str) := (constPairs (dKs b3St) (dVs b3St)).getD []
noncomputable def Fns : List Str := ["_ellipsis_match", "_strip_exception_details", "_div2n1n", "_int2digits", "_digits2int", "_divmod_pos", "int_divmod", "in_table_b1", "map_table_b3", "_law_sign", "_law_moves", "_law_grown", "_law_answers", "_law_fraction"]
noncomputable def Blts : List (Str × Value) := [("len", .builtin "len"), ("range", .type "range"), ("chr", .builtin "chr"), ("ord", .builtin "ord"), ("sum", .builtin "sum"), ("list", .type "list"), ("reversed", .type "reversed"), ("enumerate", .type "enumerate"), ("max", .builtin "max"), ("divmod", .builtin "divmod")]
structure Tops (w : World) (h : Heap) (mg mb : Str → Option Value) : Prop where
  g : h.Ns mainGlobals mg
  b : h.Ns builtinsNs mb
  fn : ∀ f ∈ Fns, ∃ a, mg f = some (.ref a) ∧ IsFn h f a
  blt : ∀ p ∈ Blts, mg p.1 = Option.none ∧ mb p.1 = some p.2
  ell : ∃ t, mg "ELLIPSIS_MARKER" = some (.str "..." t)
  lim : ∃ t, mg "_DIV_LIMIT" = some (.int 4000 t)
  set : ∃ a n, mg "b1_set" = some (.ref a) ∧ h.SetOf (PySem.intKind pw w) a b1Has n
  map : ∃ a f, mg "b3_exceptions" = some (.ref a) ∧ (a == sysModules) = false ∧ h.MapOf (PySem.intKind pw w) a f ∧ ∀ i, match b3Pairs.lookup i with | Option.none => f i = Option.none | some x => ∃ t, f i = some (.str x t)
structure Base (w : World) (h : Heap) : Prop where
  nolimit : h.NoLimit
  tops : ∃ mg mb, Tops w h mg mb
structure Ok (w : World) (hb : Heap) (A : Around) (k : Nat) : Prop where
  handled : A.handled = Option.none
  depth : A.depth + k < recursionLimit
  units : A.units + 10 * k + 100 < cLine
  base : Base w hb
noncomputable def Mu (X X₀ : Addr → Prop) : Addr → Prop := fun b => X b ∧ ¬ X₀ b
theorem Pres.mu {X X₀ : Addr → Prop} {h h' : Heap} (p : Pres (Mu X X₀) h h') : Pres X h h' := fun b o nx e => p b o (fun q => nx q.1) e
structure FS (c : SC) (w : World) (hb : Heap) (X₀ X : Addr → Prop) (env : Env) (h : Heap) (G : Ctx) : Prop where
  sc : env.scope = c.sc
  ok : c.ok = true
  gl : env.globals = mainGlobals
  bl : env.builtins = builtinsNs
  base : Grow hb h
  sub : ∀ a, X₀ a → X a
  fresh : ∀ a, X a → (h.get? a).isSome = true ∧ hb.get? a = Option.none
  loc : (X env.locals ∧ ¬ X₀ env.locals) ∧ ∃ m, h.Ns env.locals m
  cells : ∀ x a, env.cells.lookup x = some a → (X a ∧ ¬ X₀ a) ∧ ∃ v, h.IsCell a v
  apart : env.cells.Pairwise fun x y => x.2 ≠ y.2
  celled : ∀ x, c.sc.names.lookup x = some .cell → (env.cells.lookup x).isSome = true
  var : ∀ x e, Has c.ns G x e → ∃ v, VarIs env h x v ∧ RepV w X₀ X h e v
  owned : ∀ x y l m v, x ≠ y → Has c.ns G x (.own l) → Has c.ns G y (.own m) → VarIs env h x v → ¬ VarIs env h y v
  off : ∀ x d a, Has c.ns G x (.own d) → VarIs env h x (.ref a) → a ≠ env.locals
section
variable {c : SC} {w : World} {hb : Heap} {X₀ X : Addr → Prop} {env : Env} {h h' : Heap} {G : Ctx}
theorem VarIs.grow {x : Str} {v : Value} (g : Grow h h') (q : VarIs env h x v) : VarIs env h' x v := by
  rcases q with ⟨k, m, n, e⟩ | ⟨k, a, l, o⟩
  · exact .inl ⟨k, m, n.keeps g, e⟩
  · exact .inr ⟨k, a, l, o.keeps g⟩
theorem ns_fun {a : Addr} {m m' : Str → Option Value} (x : h.Ns a m) (y : h.Ns a m') : m = m' := by
  obtain ⟨o, es, ep, ho, hd, _, hm⟩ := x
  obtain ⟨o', es', ep', ho', hd', _, hm'⟩ := y
  rw [ho] at ho'; cases ho'
  rw [hd] at hd'; cases hd'
  funext n; rw [← hm n, ← hm' n]
theorem cell_fun {a : Addr} {v v' : Option Value} (x : h.IsCell a v) (y : h.IsCell a v') : v = v' := by
  obtain ⟨o, ho, hd⟩ := x
  obtain ⟨o', ho', hd'⟩ := y
  rw [ho] at ho'; cases ho'
  rw [hd] at hd'; cases hd'; rfl
theorem VarIs.uniq {x : Str} {v u : Value} (q : VarIs env h x v) (r : VarIs env h x u) : v = u := by
  rcases q with ⟨k, m, n, e⟩ | ⟨k, a, l, o⟩ <;> rcases r with ⟨k', m', n', e'⟩ | ⟨k', a', l', o'⟩
  · rw [ns_fun n n'] at e; rw [e] at e'; cases e'; rfl
  · rw [k] at k'; cases k'
  · rw [k] at k'; cases k'
  · rw [l] at l'; cases l'; cases cell_fun o o'; rfl
theorem VarIs.back {x : Str} {v u : Value} (g : Grow h h') (q : VarIs env h' x v) (r : VarIs env h x u) : VarIs env h x v := by
  have := VarIs.uniq q (r.grow g); subst this; exact r
theorem RepV.grow {e : V} {v : Value} (g : Grow h h') (r : RepV w X₀ X h e v) : RepV w X₀ X h' e v := by
  cases e with
  | imm d => exact Rep.pres g.pres d v r
  | own d => obtain ⟨a, e, x, y, r⟩ := r; exact ⟨a, e, x, y, r.pres g.pres fun o e => g _ _ e⟩
theorem FS.grow (F : FS c w hb X₀ X env h G) (g : Grow h h') : FS c w hb X₀ X env h' G where
  sc := F.sc
  ok := F.ok
  gl := F.gl
  bl := F.bl
  base := F.base.trans g
  sub := F.sub
  fresh := fun a x => ⟨by obtain ⟨o, ho⟩ := Option.isSome_iff_exists.mp (F.fresh a x).1; rw [g a o ho]; rfl, (F.fresh a x).2⟩
  loc := ⟨F.loc.1, let ⟨m, n⟩ := F.loc.2; ⟨m, n.keeps g⟩⟩
  cells := fun x a e => ⟨(F.cells x a e).1, let ⟨v, q⟩ := (F.cells x a e).2; ⟨v, q.keeps g⟩⟩
  apart := F.apart
  celled := F.celled
  var := fun x e q => let ⟨v, a, b⟩ := F.var x e q; ⟨v, a.grow g, b.grow g⟩
  owned := fun x y l m v ne a b p q => by
    obtain ⟨v1, p1, _⟩ := F.var x _ a
    obtain ⟨v2, p2, _⟩ := F.var y _ b
    exact F.owned x y l m v ne a b (p.back g p1) (q.back g p2)
  off := fun x d a p q => by
    obtain ⟨v1, p1, _⟩ := F.var x _ p
    exact F.off x d a p (q.back g p1)
theorem FS.less {G' : Ctx} (F : FS c w hb X₀ X env h G) (l : Less G' G) : FS c w hb X₀ X env h G' where
  sc := F.sc
  ok := F.ok
  gl := F.gl
  bl := F.bl
  base := F.base
  sub := F.sub
  fresh := F.fresh
  loc := F.loc
  cells := F.cells
  apart := F.apart
  celled := F.celled
  var := fun x e q => F.var x e (q.of_less l)
  owned := fun x y a b v ne p q => F.owned x y a b v ne (p.of_less l) (q.of_less l)
  off := fun x d a p q => F.off x d a (p.of_less l) q
theorem SC.ok_kind (F : FS c w hb X₀ X env h G) : env.scope.kind = .function := by
  have := F.ok
  simp only [SC.ok, Bool.and_eq_true, beq_iff_eq] at this
  rw [F.sc]; exact this.1.1.1
theorem SC.ok_nodup (o : c.ok = true) : c.ns.Nodup := by
  simp only [SC.ok, Bool.and_eq_true, decide_eq_true_eq] at o
  exact o.2
theorem SC.ok_var (o : c.ok = true) {x : Str} (m : x ∈ c.ns) : (c.sc.names.lookup x = some .local ∨ c.sc.names.lookup x = some .cell) ∧ (x == ("__debug__" : Str)) = false := by
  simp only [SC.ok, Bool.and_eq_true, List.all_eq_true] at o
  have := o.1.1.2 x m
  simpa using this
theorem SC.ok_glob (o : c.ok = true) {x : Str} (m : x ∈ c.gs) : c.sc.names.lookup x = some .globalImplicit ∧ (x == ("__debug__" : Str)) = false := by
  simp only [SC.ok, Bool.and_eq_true, List.all_eq_true] at o
  have := o.1.2 x m
  simpa using this
theorem FS.kindOf (F : FS c w hb X₀ X env h G) (x : Str) : env.kindOf x = c.sc.names.lookup x := by
  show env.scope.names.lookup x = _; rw [F.sc]
end
noncomputable def EV (c : SC) (k : Nat) (G : Ctx) (e : Expr) (d : D) : Prop :=
  ∀ (w : World) (hb : Heap) (A : Around) (X₀ X : Addr → Prop) (env : Env) (s : Shared), Ok w hb A k → FS c w hb X₀ X env s.heap G →
    wpAny (model pw w) A (eval e env) (fun v s' => Keeps s s' ∧ Rep w X s'.heap d v) (fun _ _ => False) s
theorem kH {s s' : Shared} (k : Keeps s s') : Grow s.heap s'.heap := by obtain ⟨h, t, rfl, g⟩ := k; exact g
theorem kR (s : Shared) : Keeps s s := ⟨_, _, rfl, fun _ _ e => e⟩
theorem kTok (s : Shared) (t : Nat) : Keeps s { s with toks := t } := ⟨_, _, rfl, fun _ _ e => e⟩
theorem kT {s s' s'' : Shared} (a : Keeps s s') (b : Keeps s' s'') : Keeps s s'' := by
  obtain ⟨h, t, rfl, g⟩ := a
  obtain ⟨h', t', rfl, g'⟩ := b
  exact ⟨h', t', rfl, fun b o e => g' b o (g b o e)⟩
theorem kPush (s : Shared) (o : Obj) (t : Nat) : Keeps s { s with heap := s.heap.push o, toks := t } := ⟨_, _, rfl, fun _ _ e => Heap.get?_push_of_some _ e⟩
section
variable {c : SC} {k : Nat} {G : Ctx}
theorem ev_int {i : Int} {n : Nat} {pos : Pos} : EV c k G (.Constant (.int i) n pos) (.int i) := fun _ _ _ _ _ _ s _ _ =>
  wpAny_Constant_int ⟨kTok s _, by simp only [Rep]; exact ⟨_, rfl⟩⟩
theorem ev_str {x : Str} {n : Nat} {pos : Pos} : EV c k G (.Constant (.str x) n pos) (.str x) := fun _ _ _ _ _ _ s _ _ =>
  wpAny_Constant_str ⟨kTok s _, by simp only [Rep]; exact ⟨_, rfl⟩⟩
theorem ev_bool {b : Bool} {n : Nat} {pos : Pos} : EV c k G (.Constant (.bool b) n pos) (.bool b) := fun _ _ _ _ _ _ s _ _ =>
  wpAny_Constant_bool ⟨kR s, by simp only [Rep]⟩
theorem ev_none {n : Nat} {pos : Pos} : EV c k G (.Constant .none n pos) .none := fun _ _ _ _ _ _ s _ _ =>
  wpAny_Constant_none ⟨kR s, by simp only [Rep]⟩
theorem wp_var {w : World} {hb : Heap} {X₀ X : Addr → Prop} {A : Around} {env : Env} {s : Shared} {x : Str} {v : Value} {pos : Pos} {Q : Value → Shared → Prop} {E : Value → Shared → Prop} (F : FS c w hb X₀ X env s.heap G) (m : x ∈ c.ns)
    (q : VarIs env s.heap x v) (h : Q v s) : wpAny (model pw w) A (eval (.Name x pos) env) Q E s := by
  have o := SC.ok_var F.ok m
  refine wpAny_Name ?_ o.2
  rcases q with ⟨kd, mp, n, e⟩ | ⟨kd, a, l, cl⟩
  · exact wpAny_loadName_local (SC.ok_kind F) kd n e h
  · exact wpAny_loadName_cell (SC.ok_kind F) kd l cl h
theorem ev_name {x : Str} {pos : Pos} {d : D} (q : Has c.ns G x (.imm d)) : EV c k G (.Name x pos) d := fun w hb A X₀ X env s O F => by
  obtain ⟨v, a, b⟩ := F.var x _ q
  exact wp_var F q.mem a ⟨kR s, b⟩
theorem ev_two {w : World} {hb : Heap} {A : Around} {X₀ X : Addr → Prop} {env : Env} {s : Shared} {l r : Expr} {d e : D} {Q : Value → Shared → Prop} {E : Value → Shared → Prop} (O : Ok w hb A k) (F : FS c w hb X₀ X env s.heap G)
    (hl : EV c k G l d) (hr : EV c k G r e) {f : Value → Value → Sem Value}
    (h : ∀ u v s', Keeps s s' → Rep w X s'.heap d u → Rep w X s'.heap e v → wpAny (model pw w) A (f u v) Q E s') :
    wpAny (model pw w) A (eval l env) (fun a s₁ => wpAny (model pw w) A (eval r env) (fun b s₂ => wpAny (model pw w) A (f a b) Q E s₂) E s₁) E s :=
  wpAny_mono (hl w hb A X₀ X env s O F) (fun u s₁ ⟨k1, r1⟩ => wpAny_mono (hr w hb A X₀ X env s₁ O (F.grow (kH k1))) (fun v s₂ ⟨k2, r2⟩ =>
    h u v s₂ (kT k1 k2) (Rep.pres (kH k2).pres _ _ r1) r2) fun _ _ x => x.elim) fun _ _ x => x.elim
noncomputable def BO (op : Operator) (d e r : D) : Prop := ∀ (w : World) (hb : Heap) (A : Around) (X : Addr → Prop) (s : Shared) (u v : Value) (n : Nat), Ok w hb A n → (∀ a, X a → (s.heap.get? a).isSome = true) → Rep w X s.heap d u → Rep w X s.heap e v →
    wpAny (model pw w) A (binaryOp op u v) (fun v s' => Keeps s s' ∧ Rep w X s'.heap r v) (fun _ _ => False) s
theorem ev_bin {l r : Expr} {op : Operator} {pos : Pos} {d e f : D} (hl : EV c k G l d) (hr : EV c k G r e) (b : BO op d e f) : EV c k G (.BinOp l op r pos) f := fun w hb A X₀ X env s O F =>
  wpAny_BinOp (ev_two O F hl hr fun u v s' kp ru rv => wpAny_mono (b w hb A X s' u v k O (fun a x => ((F.grow (kH kp)).fresh a x).1) ru rv) (fun _ _ ⟨k2, r2⟩ => ⟨kT kp k2, r2⟩) fun _ _ x => x.elim)
end
theorem rep_int {w : World} {X : Addr → Prop} {h : Heap} {i : Int} {t : Tok} : Rep w X h (.int i) (.int i t) := by simp only [Rep]; exact ⟨_, rfl⟩
theorem rep_str {w : World} {X : Addr → Prop} {h : Heap} {x : Str} {t : Tok} : Rep w X h (.str x) (.str x t) := by simp only [Rep]; exact ⟨_, rfl⟩
theorem rep_bool {w : World} {X : Addr → Prop} {h : Heap} {b : Bool} : Rep w X h (.bool b) (.bool b) := by simp only [Rep]
theorem rep_none {w : World} {X : Addr → Prop} {h : Heap} : Rep w X h .none .none := by simp only [Rep]
theorem Rep.int_of {w : World} {X : Addr → Prop} {h : Heap} {i : Int} {v : Value} (r : Rep w X h (.int i) v) : ∃ t, v = .int i t := by simpa only [Rep] using r
theorem Rep.str_of {w : World} {X : Addr → Prop} {h : Heap} {x : Str} {v : Value} (r : Rep w X h (.str x) v) : ∃ t, v = .str x t := by simpa only [Rep] using r
theorem Rep.bool_of {w : World} {X : Addr → Prop} {h : Heap} {b : Bool} {v : Value} (r : Rep w X h (.bool b) v) : v = .bool b := by simpa only [Rep] using r
theorem Rep.none_of {w : World} {X : Addr → Prop} {h : Heap} {v : Value} (r : Rep w X h .none v) : v = .none := by simpa only [Rep] using r
theorem Rep.plain_of {w : World} {X : Addr → Prop} {h : Heap} {l : List D} {v : Value} (r : Rep w X h (.list l) v) : ∃ a vs, v = .ref a ∧ ¬ X a ∧ h.PlainList a (List.toArray vs) ∧ RepL w X h l vs := by simpa only [Rep] using r
theorem Rep.list_of {w : World} {X : Addr → Prop} {h : Heap} {l : List D} {v : Value} (r : Rep w X h (.list l) v) : ∃ a vs, v = .ref a ∧ ¬ X a ∧ h.IsList a (List.toArray vs) ∧ RepL w X h l vs :=
  let ⟨a, vs, e, x, p, q⟩ := r.plain_of; ⟨a, vs, e, x, p.isList, q⟩
theorem Rep.tup_of {w : World} {X : Addr → Prop} {h : Heap} {l : List D} {v : Value} (r : Rep w X h (.tup l) v) : ∃ a vs, v = .ref a ∧ ¬ X a ∧ h.IsTuple a (List.toArray vs) ∧ RepL w X h l vs := by simpa only [Rep] using r
theorem Rep.dict_of {w : World} {X : Addr → Prop} {h : Heap} {l : List (Str × D)} {v : Value} (r : Rep w X h (.dict l) v) : ∃ a f, v = .ref a ∧ ¬ X a ∧ (a == sysModules) = false ∧ h.MapOf (PySem.strKind pw w) a f ∧ RepM w X h l f := by simpa only [Rep] using r
theorem bo_add {a b : Int} : BO .Add (.int a) (.int b) (.int (a + b)) := fun w hb A X s u v n O _ ru rv => by
  obtain ⟨t, rfl⟩ := ru.int_of; obtain ⟨t', rfl⟩ := rv.int_of
  exact add_int ⟨kTok s _, rep_int⟩
theorem bo_sub {a b : Int} : BO .Sub (.int a) (.int b) (.int (a - b)) := fun w hb A X s u v n O _ ru rv => by
  obtain ⟨t, rfl⟩ := ru.int_of; obtain ⟨t', rfl⟩ := rv.int_of
  exact sub_int ⟨kTok s _, rep_int⟩
noncomputable def Sm (a : Int) : Prop := Builtin.Int.intBits a ≤ 2 ^ 20
theorem bo_mul {a b : Int} (ha : Sm a) (hb : Sm b) : BO .Mult (.int a) (.int b) (.int (a * b)) := fun w hb' A X s u v n O _ ru rv => by
  obtain ⟨t, rfl⟩ := ru.int_of; obtain ⟨t', rfl⟩ := rv.int_of
  refine mul_int ⟨kTok s _, rep_int⟩ ?_
  unfold IntMulOk Builtin.Int.intTooBig
  unfold Sm at ha hb
  intro q
  simp only [Bool.and_eq_true, decide_eq_true_eq] at q
  have := q.2
  unfold bitsLine at this
  lia
theorem bo_mod {a b : Int} (hb : 0 < b) : BO .Mod (.int a) (.int b) (.int (a % b)) := fun w hb' A X s u v n O _ ru rv => by
  obtain ⟨t, rfl⟩ := ru.int_of; obtain ⟨t', rfl⟩ := rv.int_of
  exact mod_int (by exact Int.ne_of_gt hb) ⟨kTok s _, by rw [Int.fmod_eq_emod_of_nonneg _ (by exact Int.le_of_lt hb)]; exact rep_int⟩
theorem noPylong {a b : Int} (hb : Sm b) (h : b.natAbs < 2 ^ 8000) : Builtin.divisionGoesByPylong a b = false := by
  unfold Builtin.divisionGoesByPylong
  have : b.natAbs.log2 < 8000 ∨ b = 0 := by
    by_cases e : b = 0
    · exact .inr e
    · exact .inl ((Nat.log2_lt (by lia)).mpr h)
  simp only [Bool.and_eq_false_iff, decide_eq_false_iff_not]
  left
  rcases this with q | q
  · by_cases e : b = 0
    · simp [e]
    · have e' : (b == 0) = false := by simpa using e
      simp only [e', Bool.false_eq_true, if_false]
      lia
  · subst q; simp
theorem bo_div {a b : Int} (hb : 0 < b) (hs : b < 2 ^ 8000) : BO .FloorDiv (.int a) (.int b) (.int (a / b)) := fun w hb' A X s u v n O _ ru rv => by
  obtain ⟨t, rfl⟩ := ru.int_of; obtain ⟨t', rfl⟩ := rv.int_of
  have h8 : b.natAbs < 2 ^ 8000 := by
    have : (b.natAbs : Int) < ((2 ^ 8000 : Nat) : Int) := by rw [Int.natAbs_of_nonneg (by exact Int.le_of_lt hb)]; simpa using hs
    exact_mod_cast this
  have hs' : Sm b := by
    unfold Sm
    rw [intBits_le_iff]
    exact Nat.lt_of_lt_of_le h8 (Nat.pow_le_pow_right (by decide) (by decide))
  exact floordiv_int (by exact Int.ne_of_gt hb) ⟨kTok s _, by rw [Int.fdiv_eq_ediv_of_nonneg _ (by exact Int.le_of_lt hb)]; exact rep_int⟩ (.inl (noPylong hs' h8))
theorem bo_pow {a : Int} {m : Nat} (h : (Builtin.Int.intBits a : Int) * m ≤ 2 ^ 27) : BO .Pow (.int a) (.int m) (.int (a ^ m)) := fun w hb' A X s u v n O _ ru rv => by
  obtain ⟨t, rfl⟩ := ru.int_of; obtain ⟨t', rfl⟩ := rv.int_of
  exact pow_int (by exact Int.natCast_nonneg _) h ⟨kTok s _, by simpa using rep_int⟩
theorem bo_shl {a : Int} {m : Nat} (h : (Builtin.Int.intBits a : Int) + m ≤ 2 ^ 27) : BO .LShift (.int a) (.int m) (.int (a * 2 ^ m)) := fun w hb' A X s u v n O _ ru rv => by
  obtain ⟨t, rfl⟩ := ru.int_of; obtain ⟨t', rfl⟩ := rv.int_of
  exact lshift_int (by exact Int.natCast_nonneg _) h ⟨kTok s _, by simpa using rep_int⟩
theorem bo_shr {a : Int} {m : Nat} : BO .RShift (.int a) (.int m) (.int (a / 2 ^ m)) := fun w hb' A X s u v n O _ ru rv => by
  obtain ⟨t, rfl⟩ := ru.int_of; obtain ⟨t', rfl⟩ := rv.int_of
  refine rshift_int_or O.handled (fun h => by lia) fun _ => ⟨kTok s _, ?_⟩
  have : (0 : Int) ≤ 2 ^ m := Int.pow_nonneg (by decide)
  rw [Int.toNat_natCast, Int.fdiv_eq_ediv_of_nonneg _ this]; exact rep_int
theorem bo_xor {a b : Int} : BO .BitXor (.int a) (.int b) (.int (Builtin.bitXor a b)) := fun w hb A X s u v n O _ ru rv => by
  obtain ⟨t, rfl⟩ := ru.int_of; obtain ⟨t', rfl⟩ := rv.int_of
  exact xor_int ⟨kTok s _, rep_int⟩
theorem bo_cat {x y : Str} (h : x.length + y.length ≤ 2 ^ 24) : BO .Add (.str x) (.str y) (.str (x ++ y)) := fun w hb A X s u v n O _ ru rv => by
  obtain ⟨t, rfl⟩ := ru.str_of; obtain ⟨t', rfl⟩ := rv.str_of
  exact add_str (fun _ _ => ⟨kTok s _, rep_str⟩) (by unfold sizeLine; exact h)
noncomputable def UO (op : UnaryOp) (d r : D) : Prop := ∀ (w : World) (hb : Heap) (A : Around) (X : Addr → Prop) (s : Shared) (u : Value) (n : Nat), Ok w hb A n → Rep w X s.heap d u →
    wpAny (model pw w) A (unaryOp op u) (fun v s' => Keeps s s' ∧ Rep w X s'.heap r v) (fun _ _ => False) s
theorem uo_neg {a : Int} : UO .USub (.int a) (.int (-a)) := fun w hb A X s u n O ru => by
  obtain ⟨t, rfl⟩ := ru.int_of
  exact neg_int ⟨kTok s _, rep_int⟩
theorem uo_inv {a : Int} : UO .Invert (.int a) (.int (-a - 1)) := fun w hb A X s u n O ru => by
  obtain ⟨t, rfl⟩ := ru.int_of
  refine invert_int ⟨kTok s _, ?_⟩
  have : Builtin.bitNot a = -a - 1 := by unfold Builtin.bitNot; exact rfl
  rw [this]; exact rep_int
noncomputable def CO (op : CmpOp) (d e : D) (b : Bool) : Prop := ∀ (w : World) (hb : Heap) (A : Around) (X : Addr → Prop) (s : Shared) (u v : Value) (n : Nat), Ok w hb A n → Rep w X s.heap d u → Rep w X s.heap e v →
    wpAny (model pw w) A (compareOp op u v) (fun r s' => Keeps s s' ∧ r = .bool b) (fun _ _ => False) s
theorem co_lt {a b : Int} : CO .Lt (.int a) (.int b) (decide (a < b)) := fun w hb A X s u v n O ru rv => by
  obtain ⟨t, rfl⟩ := ru.int_of; obtain ⟨t', rfl⟩ := rv.int_of
  exact lt_int ⟨kR s, rfl⟩
theorem co_le {a b : Int} : CO .LtE (.int a) (.int b) (decide (a ≤ b)) := fun w hb A X s u v n O ru rv => by
  obtain ⟨t, rfl⟩ := ru.int_of; obtain ⟨t', rfl⟩ := rv.int_of
  exact le_int ⟨kR s, rfl⟩
theorem co_gt {a b : Int} : CO .Gt (.int a) (.int b) (decide (b < a)) := fun w hb A X s u v n O ru rv => by
  obtain ⟨t, rfl⟩ := ru.int_of; obtain ⟨t', rfl⟩ := rv.int_of
  exact gt_int ⟨kR s, rfl⟩
theorem co_ge {a b : Int} : CO .GtE (.int a) (.int b) (decide (b ≤ a)) := fun w hb A X s u v n O ru rv => by
  obtain ⟨t, rfl⟩ := ru.int_of; obtain ⟨t', rfl⟩ := rv.int_of
  exact ge_int ⟨kR s, rfl⟩
theorem co_eq {a b : Int} : CO .Eq (.int a) (.int b) (decide (a = b)) := fun w hb A X s u v n O ru rv => by
  obtain ⟨t, rfl⟩ := ru.int_of; obtain ⟨t', rfl⟩ := rv.int_of
  exact eq_int ⟨kR s, by rw [Bool.beq_eq_decide_eq]⟩
theorem co_ne {a b : Int} : CO .NotEq (.int a) (.int b) (!decide (a = b)) := fun w hb A X s u v n O ru rv => by
  obtain ⟨t, rfl⟩ := ru.int_of; obtain ⟨t', rfl⟩ := rv.int_of
  exact ne_int ⟨kR s, by simp [bne, Bool.beq_eq_decide_eq]⟩
theorem co_eqs {x y : Str} : CO .Eq (.str x) (.str y) (decide (x = y)) := fun w hb A X s u v n O ru rv => by
  obtain ⟨t, rfl⟩ := ru.str_of; obtain ⟨t', rfl⟩ := rv.str_of
  exact eq_str ⟨kR s, by rw [Bool.beq_eq_decide_eq]⟩
theorem co_nes {x y : Str} : CO .NotEq (.str x) (.str y) (!decide (x = y)) := fun w hb A X s u v n O ru rv => by
  obtain ⟨t, rfl⟩ := ru.str_of; obtain ⟨t', rfl⟩ := rv.str_of
  exact ne_str ⟨kR s, by simp [bne, Bool.beq_eq_decide_eq]⟩
theorem co_isb {a b : Bool} : CO .IsNot (.bool a) (.bool b) (a != b) := fun w hb A X s u v n O ru rv => by
  obtain rfl := ru.bool_of; obtain rfl := rv.bool_of
  show wpAny _ A ((do return Value.bool (!(← isSame (.bool a) (.bool b)))) : Sem Value) _ _ s
  have : isSame (.bool a) (.bool b) = pure ((Value.bool a) == (Value.bool b)) := rfl
  rw [this]
  refine wpAny_bind (wpAny_pure (wpAny_pure ⟨kR s, ?_⟩))
  cases a <;> cases b <;> rfl
theorem co_isnone {d : D} {b : Bool} (h : b = match d with | .none => false | _ => true) : CO .IsNot d .none b := fun w hb A X s u v n O ru rv => by
  obtain rfl := rv.none_of
  refine isNot_none ⟨kR s, ?_⟩
  subst h
  cases d with
  | none => obtain rfl := ru.none_of; rfl
  | bool c => obtain rfl := ru.bool_of; rfl
  | int i => obtain ⟨t, rfl⟩ := ru.int_of; rfl
  | str x => obtain ⟨t, rfl⟩ := ru.str_of; rfl
  | tup l => obtain ⟨a, vs, rfl, _⟩ := ru.tup_of; rfl
  | list l => obtain ⟨a, vs, rfl, _⟩ := ru.list_of; rfl
  | dict l => obtain ⟨a, vs, rfl, _⟩ := ru.dict_of; rfl
noncomputable def TR (d : D) (b : Bool) : Prop := ∀ (w : World) (hb : Heap) (A : Around) (X : Addr → Prop) (s : Shared) (u : Value) (n : Nat), Ok w hb A n → Rep w X s.heap d u →
    wpAny (model pw w) A (truthy u) (fun r s' => Keeps s s' ∧ r = b) (fun _ _ => False) s
theorem tr_bool {b : Bool} : TR (.bool b) b := fun w hb A X s u n O ru => by
  obtain rfl := ru.bool_of; exact wpAny_truthy_bool ⟨kR s, rfl⟩
theorem tr_int {a : Int} : TR (.int a) (!decide (a = 0)) := fun w hb A X s u n O ru => by
  obtain ⟨t, rfl⟩ := ru.int_of; exact truthy_int ⟨kR s, by simp [bne, Bool.beq_eq_decide_eq]⟩
theorem tr_str {x : Str} (h : x.length ≤ 2 ^ 24) : TR (.str x) (!decide (x.length = 0)) := fun w hb A X s u n O ru => by
  obtain ⟨t, rfl⟩ := ru.str_of
  refine PySem.P.truthy_str (by exact Int.not_le.mpr (Int.lt_of_le_of_lt (Int.ofNat_le.mpr h) (by decide))) ⟨kTok s _, ?_⟩
  simp only [bne, Bool.beq_eq_decide_eq]
  congr 1
  simp
theorem tr_list {l : List D} (h : l.length ≤ 2 ^ 24) : TR (.list l) (!l.isEmpty) := fun w hb A X s u n O ru => by
  obtain ⟨a, vs, rfl, _, hl, rl⟩ := ru.list_of
  have e := rl.length
  refine wpAny_truthy_list hl (by simp; exact Int.lt_of_le_of_lt (Int.ofNat_le.mpr (Nat.le_of_eq e)) (Int.lt_of_le_of_lt (Int.ofNat_le.mpr h) (by decide))) ⟨kTok s _, ?_⟩
  cases l <;> cases vs <;> simp_all
section
variable {c : SC} {k : Nat} {G : Ctx}
theorem ev_un {op : UnaryOp} {e : Expr} {pos : Pos} {d r : D} (he : EV c k G e d) (u : UO op d r) : EV c k G (.UnaryOp op e pos) r := fun w hb A X₀ X env s O F =>
  wpAny_UnaryOp (wpAny_mono (he w hb A X₀ X env s O F) (fun v s₁ ⟨k1, r1⟩ => wpAny_mono (u w hb A X s₁ v k O r1) (fun _ _ ⟨k2, r2⟩ => ⟨kT k1 k2, r2⟩) fun _ _ x => x) fun _ _ x => x)
theorem ev_cmp {l r : Expr} {op : CmpOp} {pos : Pos} {d e : D} {b : Bool} (hl : EV c k G l d) (hr : EV c k G r e) (co : CO op d e b) (hm : behindInMarks op r = false := by with_unfolding_all rfl) : EV c k G (.Compare l [op] [r] pos) (.bool b) :=
  fun w hb A X₀ X env s O F => wpAny_Compare1 (ev_two O F hl hr fun u v s' kp ru rv => wpAny_mono (co w hb A X s' u v k O ru rv) (fun _ _ ⟨k2, r2⟩ => ⟨kT kp k2, by rw [r2]; exact rep_bool⟩) fun _ _ x => x) hm
noncomputable def IT (c : SC) (k : Nat) (G : Ctx) (e : Expr) (b : Bool) : Prop :=
  ∀ (w : World) (hb : Heap) (A : Around) (X₀ X : Addr → Prop) (env : Env) (s : Shared), Ok w hb A k → FS c w hb X₀ X env s.heap G →
    wpAny (model pw w) A (isTrue e env (eval e env)) (fun v s' => Keeps s s' ∧ v = b) (fun _ _ => False) s
theorem it_val {e : Expr} {d : D} {b : Bool} (he : EV c k G e d) (t : TR d b) (hv : ∀ env whole, isTrue e env whole = (do let v ← whole; standAt e.pos; holding [v] (truthy v)) := by intro _ _; rfl) : IT c k G e b :=
  fun w hb A X₀ X env s O F => wpAny_isTrue_value (wpAny_mono (he w hb A X₀ X env s O F) (fun v s₁ ⟨k1, r1⟩ => wpAny_mono (t w hb A X s₁ v k O r1) (fun _ _ ⟨k2, r2⟩ => ⟨kT k1 k2, r2⟩) fun _ _ x => x) fun _ _ x => x) (hv _ _)
theorem it_cmp {l r : Expr} {op : CmpOp} {pos : Pos} {d e : D} {b : Bool} (hl : EV c k G l d) (hr : EV c k G r e) (co : CO op d e b) (hm : behindInMarks op r = false := by with_unfolding_all rfl) : IT c k G (.Compare l [op] [r] pos) b :=
  fun w hb A X₀ X env s O F => wpAny_isTrue_Compare1 (ev_two O F hl hr fun u v s' kp ru rv => wpAny_mono (co w hb A X s' u v k O ru rv) (fun _ _ ⟨k2, r2⟩ => by
    subst r2; exact wpAny_truthy_bool ⟨kT kp k2, rfl⟩) fun _ _ x => x) hm
theorem it_not {e : Expr} {pos : Pos} {b : Bool} (he : IT c k G e b) : IT c k G (.UnaryOp .Not e pos) (!b) := fun w hb A X₀ X env s O F =>
  wpAny_isTrue_Not (wpAny_mono (he w hb A X₀ X env s O F) (fun _ _ ⟨k1, r1⟩ => ⟨k1, by rw [r1]⟩) fun _ _ x => x)
noncomputable def AT (op : BoolOp) (c : SC) (k : Nat) (G : Ctx) (es : List Expr) (b : Bool) : Prop :=
  ∀ (w : World) (hb : Heap) (A : Around) (X₀ X : Addr → Prop) (env : Env) (s : Shared), Ok w hb A k → FS c w hb X₀ X env s.heap G →
    wpAny (model pw w) A (allTrue op es env) (fun v s' => Keeps s s' ∧ v = b) (fun _ _ => False) s
theorem it_bool {op : BoolOp} {es : List Expr} {pos : Pos} {b : Bool} (h : AT op c k G es b) : IT c k G (.BoolOp op es pos) b := fun w hb A X₀ X env s O F =>
  wpAny_isTrue_BoolOp (h w hb A X₀ X env s O F)
theorem at_and0 : AT .And c k G [] true := fun w hb A X₀ X env s O F => wpAny_allTrue_And_nil ⟨kR s, rfl⟩
theorem at_or0 : AT .Or c k G [] false := fun w hb A X₀ X env s O F => wpAny_allTrue_Or_nil ⟨kR s, rfl⟩
theorem at_and {e : Expr} {es : List Expr} {a b : Bool} (h : IT c k G e a) (hr : a = true → AT .And c k G es b) : AT .And c k G (e :: es) (a && b) := fun w hb A X₀ X env s O F =>
  wpAny_allTrue_And_cons (wpAny_mono (h w hb A X₀ X env s O F) (fun v s₁ ⟨k1, r1⟩ => by
    subst r1
    cases v
    · exact ⟨k1, rfl⟩
    · exact wpAny_mono (hr rfl w hb A X₀ X env s₁ O (F.grow (kH k1))) (fun _ _ ⟨k2, r2⟩ => ⟨kT k1 k2, by rw [r2]; rfl⟩) fun _ _ x => x) fun _ _ x => x.elim)
theorem at_or {e : Expr} {es : List Expr} {a b : Bool} (h : IT c k G e a) (hr : a = false → AT .Or c k G es b) : AT .Or c k G (e :: es) (a || b) := fun w hb A X₀ X env s O F =>
  wpAny_allTrue_Or_cons (wpAny_mono (h w hb A X₀ X env s O F) (fun v s₁ ⟨k1, r1⟩ => by
    subst r1
    cases v
    · exact wpAny_mono (hr rfl w hb A X₀ X env s₁ O (F.grow (kH k1))) (fun _ _ ⟨k2, r2⟩ => ⟨kT k1 k2, by rw [r2]; rfl⟩) fun _ _ x => x
    · exact ⟨k1, rfl⟩) fun _ _ x => x.elim)
theorem ev_if {t a b : Expr} {pos : Pos} {v : Bool} {d : D} (ht : IT c k G t v) (ha : v = true → EV c k G a d) (hb : v = false → EV c k G b d) : EV c k G (.IfExp t a b pos) d := fun w hb' A X₀ X env s O F =>
  wpAny_IfExp (wpAny_mono (ht w hb' A X₀ X env s O F) (fun u s₁ ⟨k1, r1⟩ => by
    subst r1
    cases u
    · exact wpAny_mono (hb rfl w hb' A X₀ X env s₁ O (F.grow (kH k1))) (fun _ _ ⟨k2, r2⟩ => ⟨kT k1 k2, r2⟩) fun _ _ x => x
    · exact wpAny_mono (ha rfl w hb' A X₀ X env s₁ O (F.grow (kH k1))) (fun _ _ ⟨k2, r2⟩ => ⟨kT k1 k2, r2⟩) fun _ _ x => x) fun _ _ x => x.elim)
theorem ev_and {x y : Expr} {pos : Pos} {a : Bool} {d : D} (hx : EV c k G x (.bool a)) (hy : a = true → EV c k G y d) (hd : a = false → d = .bool false) : EV c k G (.BoolOp .And [x, y] pos) d := fun w hb A X₀ X env s O F =>
  wpAny_And2 (wpAny_mono (hx w hb A X₀ X env s O F) (fun u s₁ ⟨k1, r1⟩ => by
    obtain rfl := r1.bool_of
    refine wpAny_truthy_bool ?_
    cases a
    · simp only [Bool.false_eq_true, if_false]
      exact ⟨k1, by rw [hd rfl]; exact rep_bool⟩
    · simp only [if_true]
      exact wpAny_mono (hy rfl w hb A X₀ X env s₁ O (F.grow (kH k1))) (fun _ _ ⟨k2, r2⟩ => ⟨kT k1 k2, r2⟩) fun _ _ x => x) fun _ _ x => x.elim)
noncomputable def EVS (c : SC) (k : Nat) (G : Ctx) (es : List Expr) (ds : List D) : Prop :=
  ∀ (w : World) (hb : Heap) (A : Around) (X₀ X : Addr → Prop) (env : Env) (s : Shared) (pos : Pos), Ok w hb A k → FS c w hb X₀ X env s.heap G →
    wpAny (model pw w) A (spliced (backTo pos (starEach es env))) (fun vs s' => Keeps s s' ∧ RepL w X s'.heap ds vs) (fun _ _ => False) s
theorem evs_nil : EVS c k G [] [] := fun w hb A X₀ X env s pos O F => wpAny_items_nil ⟨kR s, RepL.nil⟩
theorem evs_cons {e : Expr} {es : List Expr} {d : D} {ds : List D} (h : EV c k G e d) (hs : EVS c k G es ds) (he : ∀ env, starEach (e :: es) env = (false, eval e env) :: starEach es env := by intro _; rfl) : EVS c k G (e :: es) (d :: ds) :=
  fun w hb A X₀ X env s pos O F => wpAny_items_cons (wpAny_mono (h w hb A X₀ X env s O F) (fun v s₁ ⟨k1, r1⟩ =>
    wpAny_mono (hs w hb A X₀ X env s₁ pos O (F.grow (kH k1))) (fun vs s₂ ⟨k2, r2⟩ => ⟨kT k1 k2, by simp only [RepL]; exact ⟨v, vs, rfl, Rep.pres (kH k2).pres _ _ r1, r2⟩⟩) fun _ _ x => x) fun _ _ x => x.elim) (he env)
noncomputable def EVN (c : SC) (k : Nat) (G : Ctx) (e : Expr) (ds : List D) : Prop :=
  ∀ (w : World) (hb : Heap) (A : Around) (X₀ X : Addr → Prop) (env : Env) (s : Shared), Ok w hb A k → FS c w hb X₀ X env s.heap G →
    wpAny (model pw w) A (eval e env) (fun v s' => Keeps s s' ∧ ∃ a vs, v = .ref a ∧ s.heap.get? a = Option.none ∧ s'.heap.PlainList a (List.toArray vs) ∧ RepL w (fun b => X b ∨ b = a) s'.heap ds vs) (fun _ _ => False) s
theorem plain_list {h : Heap} {a : Addr} {vs : Array Value} (x : h.PlainList a vs) : h.IsList a vs := let ⟨n, e⟩ := x; ⟨_, e, rfl, n, rfl⟩
theorem FS.notX {w : World} {hb : Heap} {X₀ X : Addr → Prop} {env : Env} {h : Heap} (F : FS c w hb X₀ X env h G) {a : Addr} (e : h.get? a = Option.none) : ¬ X a := fun x => by
  have := (F.fresh a x).1; rw [e] at this; cases this
theorem EVN.ev {e : Expr} {ds : List D} (h : EVN c k G e ds) : EV c k G e (.list ds) := fun w hb A X₀ X env s O F =>
  wpAny_mono (h w hb A X₀ X env s O F) (fun v s₁ ⟨k1, a, vs, e, n, hl, rl⟩ => ⟨k1, by simp only [Rep]; exact ⟨a, vs, e, F.notX n, hl, RepL.weak (fun _ _ x => .inl x) _ _ rl⟩⟩) fun _ _ x => x
theorem none_of_le {h : Heap} {a : Addr} (e : h.objs.size ≤ a) : h.get? a = Option.none := by
  cases q : h.get? a with
  | none => rfl
  | some o => exact absurd (Heap.lt_size q) (Nat.not_lt.mpr e)
theorem evn_list {es : List Expr} {ds : List D} {pos : Pos} (h : EVS c k G es ds) (hl : ds.length ≤ 2 ^ 24) : EVN c k G (.List es pos) ds := fun w hb A X₀ X env s O F =>
  wpAny_List (wpAny_mono (h w hb A X₀ X env s pos O F) (fun vs s₁ ⟨k1, r1⟩ => ⟨by rw [r1.length]; exact hl, by
    have gp : Grow s₁.heap (s₁.heap.push { cls := .type "list", data := .seq vs.toArray }) := fun _ _ e => Heap.get?_push_of_some _ e
    refine ⟨kT k1 (kPush s₁ _ _), _, vs, rfl, ?_, ⟨_, Heap.get?_push_size _ rfl⟩, RepL.pres gp.pres _ _ (RepL.weak (fun b hb q => q.elim id fun q => by subst q; rw [none_of_le (Nat.le_refl _)] at hb; cases hb) _ _ r1)⟩
    cases q : s.heap.get? s₁.heap.objs.size with
    | none => rfl
    | some o => exact absurd (Heap.lt_size (kH k1 _ _ q)) (Nat.lt_irrefl _)⟩) fun _ _ x => x.elim)
theorem ev_tup {es : List Expr} {ds : List D} {n : Nat} {pos : Pos} (h : EVS c k G es ds) (hl : ds.length ≤ 2 ^ 24) : EV c k G (.Tuple es n pos) (.tup ds) := fun w hb A X₀ X env s O F =>
  wpAny_Tuple (wpAny_mono (h w hb A X₀ X env s pos O F) (fun vs s₁ ⟨k1, r1⟩ => ⟨by rw [r1.length]; exact hl, by
    have gp : Grow s₁.heap (s₁.heap.push { cls := .type "tuple", data := .seq vs.toArray }) := fun _ _ e => Heap.get?_push_of_some _ e
    refine ⟨kT k1 (kPush s₁ _ _), ?_⟩
    simp only [Rep]
    refine ⟨_, vs, rfl, ?_, ⟨_, Heap.get?_push_size _ rfl, rfl, _, rfl⟩, RepL.pres gp.pres _ _ r1⟩
    exact (F.grow (kH k1)).notX (none_of_le (Nat.le_refl _))⟩) fun _ _ x => x.elim)
end
theorem evalArgs_all {M : Model} {A : Around} {E : Value → Shared → Prop} {s : Shared} {f : Value} {trees : List (Bool × Sem Value)} {Q : Args → Shared → Prop} (hp : trees.all (fun x => !x.1) = true)
    (h : wpAny M A (spliced trees) (fun vs s' => Q ⟨vs, []⟩ s') E s) : wpAny M A (evalArgs f true trees []) Q E s := by
  cases trees with
  | nil =>
    unfold evalArgs
    show wpAny M A (spliced [] >>= _) Q E s
    refine wpAny_bind (wpAny_mono h (fun vs s' h' => ?_) fun _ _ x => x)
    refine wpAny_holding ?_
    exact wpAny_bind (wpAny_pure (wpAny_bind (wpAny_pure (wpAny_pure h'))))
  | cons t r =>
    obtain ⟨b, x⟩ := t
    cases b with
    | false => exact evalArgs_plain h
    | true => simp at hp
noncomputable def Plain (es : List Expr) : Prop := ∀ env pos, (backTo pos (starEach es env)).all (fun x => !x.1) = true
theorem any_of_all {l : List (Bool × Sem Value)} (h : l.all (fun x => !x.1) = true) : l.any (·.1) = false := by
  induction l with
  | nil => rfl
  | cons x r ih => simp only [List.all_cons, Bool.and_eq_true, Bool.not_eq_true'] at h; simp only [List.any_cons, h.1, Bool.false_or]; exact ih h.2
noncomputable def FC (f : Str) (k : Nat) (ds : List D) (d : D) : Prop :=
  ∀ (w : World) (hb : Heap) (A : Around) (X : Addr → Prop) (s : Shared) (vs : List Value) (a : Addr), Ok w hb A k → Grow hb s.heap → (∀ a, X a → (s.heap.get? a).isSome = true ∧ hb.get? a = Option.none) → IsFn hb f a → RepL w X s.heap ds vs →
    wpAny (model pw w) A (call (.ref a) vs) (fun v s' => Keeps s s' ∧ Rep w X s'.heap d v) (fun _ _ => False) s
section
variable {c : SC} {k : Nat} {G : Ctx}
theorem wp_glob {w : World} {hb : Heap} {X₀ X : Addr → Prop} {A : Around} {env : Env} {s : Shared} {x : Str} {pos : Pos} {Q : Value → Shared → Prop} {E : Value → Shared → Prop} (F : FS c w hb X₀ X env s.heap G) (m : In c.gs x)
    (h : wpAny (model pw w) A (loadGlobal env x) Q E s) : wpAny (model pw w) A (eval (.Name x pos) env) Q E s := by
  have o := SC.ok_glob F.ok m.mem
  exact Name_function_global (SC.ok_kind F) ((F.kindOf x).trans o.1) h o.2
theorem wp_fn {w : World} {hb : Heap} {X₀ X : Addr → Prop} {A : Around} {env : Env} {s : Shared} {x : Str} {pos : Pos} {Q : Value → Shared → Prop} {E : Value → Shared → Prop} {mg} {v : Value} (F : FS c w hb X₀ X env s.heap G) (m : In c.gs x)
    (hg : hb.Ns mainGlobals mg) (hv : mg x = some v) (h : Q v s) : wpAny (model pw w) A (eval (.Name x pos) env) Q E s :=
  wp_glob F m (loadGlobal_global (by rw [F.gl]; exact hg.keeps F.base) hv h)
theorem wp_blt {w : World} {hb : Heap} {X₀ X : Addr → Prop} {A : Around} {env : Env} {s : Shared} {x : Str} {pos : Pos} {Q : Value → Shared → Prop} {E : Value → Shared → Prop} {mg mb} {v : Value} (F : FS c w hb X₀ X env s.heap G) (m : In c.gs x)
    (hg : hb.Ns mainGlobals mg) (hn : mg x = Option.none) (hbb : hb.Ns builtinsNs mb) (hv : mb x = some v) (h : Q v s) : wpAny (model pw w) A (eval (.Name x pos) env) Q E s :=
  wp_glob F m (loadGlobal_builtin (by rw [F.gl]; exact hg.keeps F.base) hn (by rw [F.bl]; exact hbb.keeps F.base) hv h)
theorem ht0 : ∀ w h, Base w h → ∃ mg mb, Tops w h mg mb := fun w h b => b.tops
theorem ev_call {f : Str} {p pos : Pos} {args : List Expr} {ds : List D} {d : D} (ht : ∀ w h, Base w h → ∃ mg mb, Tops w h mg mb) (m : In c.gs f) (mf : f ∈ Fns) (ha : EVS c k G args ds) (hc : FC f k ds d) (hp : Plain args := by intro _ _; rfl)
    (he : ∀ env, eval (.Call (.Name f p) args [] pos) env = (do callWith pos (← eval (.Name f p) env) [] (backTo pos (starEach args env)) (backToKw pos (keywordEach [] env))) := by intro _; rfl) :
    EV c k G (.Call (.Name f p) args [] pos) d := fun w hb A X₀ X env s O F => by
  obtain ⟨mg, mb, T⟩ := ht w hb O.base
  obtain ⟨a, hv, fn⟩ := T.fn f mf
  obtain ⟨o, pm, cd, doc, ps, b, sc, h1, h2, h3, h4⟩ := id fn
  refine Call_ (wp_fn F m T.g hv ?_) (he env)
  refine callWith_function (o := o) (fd := docDef f ps b sc pm cd doc) (evalArgs_all (hp env pos) (wpAny_mono (ha w hb A X₀ X env s pos O F) (fun vs s₁ zp => ?_) fun _ _ x => x))
  obtain ⟨k1, r1⟩ := zp
  have F1 := F.grow (kH k1)
  exact ⟨⟨F1.base _ _ h2, h3⟩, wpAny_mono (hc w hb A X s₁ vs a O F1.base F1.fresh fn r1) (fun v s₂ ⟨k2, r2⟩ => ⟨kT k1 k2, r2⟩) fun _ _ x => x⟩
noncomputable def BC (id : String) (ds : List D) (d : D) : Prop :=
  ∀ (w : World) (hb : Heap) (A : Around) (X : Addr → Prop) (s : Shared) (vs : List Value) (n : Nat), Ok w hb A n → (∀ a, X a → (s.heap.get? a).isSome = true) → RepL w X s.heap ds vs →
    wpAny (model pw w) A (call (.builtin id) vs) (fun v s' => Keeps s s' ∧ Rep w X s'.heap d v) (fun _ _ => False) s
theorem ev_blt {f : Str} {id : String} {p pos : Pos} {args : List Expr} {ds : List D} {d : D} (ht : ∀ w h, Base w h → ∃ mg mb, Tops w h mg mb) (m : In c.gs f) (mf : (f, Value.builtin id) ∈ Blts) (ha : EVS c k G args ds) (hc : BC id ds d) (hp : Plain args := by intro _ _; rfl)
    (he : ∀ env, eval (.Call (.Name f p) args [] pos) env = (do callWith pos (← eval (.Name f p) env) [] (backTo pos (starEach args env)) (backToKw pos (keywordEach [] env))) := by intro _; rfl) :
    EV c k G (.Call (.Name f p) args [] pos) d := fun w hb A X₀ X env s O F => by
  obtain ⟨mg, mb, T⟩ := ht w hb O.base
  obtain ⟨h1, h2⟩ := T.blt _ mf
  refine Call_ (wp_blt F m T.g h1 T.b h2 ?_) (he env)
  refine callWith_builtin (any_of_all (hp env pos)) (evalArgs_all (hp env pos) (wpAny_mono (ha w hb A X₀ X env s pos O F) (fun vs s₁ zp => ?_) fun _ _ x => x))
  obtain ⟨k1, r1⟩ := zp
  have F1 := F.grow (kH k1)
  exact wpAny_mono (hc w hb A X s₁ vs k O (fun a x => (F1.fresh a x).1) r1) (fun v s₂ ⟨k2, r2⟩ => ⟨kT k1 k2, r2⟩) fun _ _ x => x
theorem ev_ell {pos : Pos} (ht : ∀ w h, Base w h → ∃ mg mb, Tops w h mg mb) (m : In c.gs "ELLIPSIS_MARKER") : EV c k G (.Name "ELLIPSIS_MARKER" pos) (.str "...") := fun w hb A X₀ X env s O F => by
  obtain ⟨mg, mb, T⟩ := ht w hb O.base
  obtain ⟨t, h⟩ := T.ell
  exact wp_fn F m T.g h ⟨kR s, rep_str⟩
theorem ev_lim {pos : Pos} (ht : ∀ w h, Base w h → ∃ mg mb, Tops w h mg mb) (m : In c.gs "_DIV_LIMIT") : EV c k G (.Name "_DIV_LIMIT" pos) (.int 4000) := fun w hb A X₀ X env s O F => by
  obtain ⟨mg, mb, T⟩ := ht w hb O.base
  obtain ⟨t, h⟩ := T.lim
  exact wp_fn F m T.g h ⟨kR s, rep_int⟩
structure MC (name : Str) (T id : String) (d : D) (ds : List D) (r : D) : Prop where
  pa : PlainAttrs T
  sl : Slot T name id
  ty : typeOf (.builtin id) = pure (.type "method_descriptor")
  is : ∀ (w : World) (X : Addr → Prop) (s : Shared) (u : Value), Rep w X s.heap d u → s.TypeIs u T ∧ ∀ a, u = .ref a → ∃ ob, s.heap.get? a = some ob ∧ ob.dict = Option.none
  call : ∀ (w : World) (hb : Heap) (A : Around) (X : Addr → Prop) (s : Shared) (u : Value) (vs : List Value) (n : Nat), Ok w hb A n → (∀ a, X a → (s.heap.get? a).isSome = true) → Rep w X s.heap d u → RepL w X s.heap ds vs →
    wpAny (model pw w) A (PySem.call (.builtin id) (u :: vs)) (fun v s' => Keeps s s' ∧ Rep w X s'.heap r v) (fun _ _ => False) s
theorem ev_meth {o : Expr} {name : Str} {apos pos : Pos} {args : List Expr} {T id : String} {d r : D} {ds : List D} (ho : EV c k G o d) (ha : EVS c k G args ds) (hm : MC name T id d ds r) (hp : Plain args := by intro _ _; rfl)
    (hbase : ∀ env, attributeBase o name env (eval o env) = eval o env := by intro _; rfl) (hlen : args.length < 30 := by decide) (hline : (apos.endLine == pos.line) = true := by rfl) :
    EV c k G (.Call (.Attribute o name apos) args [] pos) r := fun w hb A X₀ X env s O F => by
  refine wpAny_Call_method_late (hbase env) ?_ hline rfl (wpAny_mono (ho w hb A X₀ X env s O F) (fun u s₁ ⟨k1, r1⟩ => ?_) fun _ _ x => x.elim)
  · rw [hp env pos]; simp [backToKw, keywordEach]; omega
  · have F1 := F.grow (kH k1)
    obtain ⟨t1, t2⟩ := hm.is w X s₁ u r1
    refine ⟨T, id, hm.pa, hm.sl, hm.ty, t1, t2, ?_⟩
    refine callWith_builtin (any_of_all (hp env pos)) (evalArgs_all (hp env pos) (wpAny_mono (ha w hb A X₀ X env s₁ pos O F1) (fun vs s₂ zp => ?_) fun _ _ x => x))
    obtain ⟨k2, r2⟩ := zp
    have F2 := F1.grow (kH k2)
    exact wpAny_mono (hm.call w hb A X s₂ u vs k O (fun a x => (F2.fresh a x).1) (Rep.pres (kH k2).pres _ _ r1) r2) (fun v s₃ ⟨k3, r3⟩ => ⟨kT k1 (kT k2 k3), r3⟩) fun _ _ x => x
end
section
variable {c : SC} {w : World} {hb : Heap} {X₀ X : Addr → Prop} {env : Env} {h h' : Heap} {G G' : Ctx}
theorem seq_ne_dict {a b : Addr} {vs : Array Value} {m : Str → Option Value} (l : h.PlainList a vs) (n : h.Ns b m) : a ≠ b := by
  rintro rfl
  obtain ⟨k, e⟩ := l
  obtain ⟨o, es, ep, e', hd, _⟩ := n
  rw [e] at e'; cases e'; cases hd
theorem seq_ne_cell {a b : Addr} {vs : Array Value} {v : Option Value} (l : h.PlainList a vs) (n : h.IsCell b v) : a ≠ b := by
  rintro rfl
  obtain ⟨k, e⟩ := l
  obtain ⟨o, e', hd⟩ := n
  rw [e] at e'; cases e'; cases hd
theorem ns_ne_cell {a b : Addr} {m : Str → Option Value} {v : Option Value} (l : h.Ns a m) (n : h.IsCell b v) : a ≠ b := by
  rintro rfl
  obtain ⟨o, es, ep, e, hd, _⟩ := l
  obtain ⟨o', e', hd'⟩ := n
  rw [e] at e'; cases e'; rw [hd] at hd'; cases hd'
theorem RepV.same {e : V} {v : Value} {p : Addr} (hs : Heap.SameBut p h h') (hp : X p) (hl : ∀ d a, e = .own d → v = .ref a → a ≠ p) (r : RepV w X₀ X h e v) : RepV w X₀ X h' e v := by
  have pr : Pres X h h' := fun b o nx e => by rw [hs.2 b (fun q => nx (q ▸ hp))]; exact e
  cases e with
  | imm d => exact Rep.pres pr d v r
  | own d =>
    obtain ⟨a, e, x, y, r⟩ := r
    exact ⟨a, e, x, y, r.pres pr fun o eo => by rw [hs.2 a (hl d a rfl e)]; exact eo⟩
theorem FS.put {x : Str} {v : Value} {e : V} {p : Addr} (F : FS c w hb X₀ X env h G) (q : Put c.ns G x e G') (hs : Heap.SameBut p h h') (hp : X p) (hl : ∀ y d a, Has c.ns G y (.own d) → VarIs env h y (.ref a) → a ≠ p) (hv : ∀ d a, e = .own d → v = .ref a → a ≠ p ∧ a ≠ env.locals)
    (hx : VarIs env h' x v) (hy : ∀ y u, y ≠ x → VarIs env h y u → VarIs env h' y u) (hns : ∃ m, h'.Ns env.locals m) (hcl : ∀ y a, env.cells.lookup y = some a → ∃ v, h'.IsCell a v)
    (hps : (h'.get? p).isSome = true) (r : RepV w X₀ X h e v) (ap : ∀ l, e = .own l → ∀ y m, Has c.ns G y (.own m) → ¬ VarIs env h y v) : FS c w hb X₀ X env h' G' := by
  have nd := SC.ok_nodup F.ok
  refine ⟨F.sc, F.ok, F.gl, F.bl, fun b o eb => ?_, F.sub, fun a xa => ⟨?_, (F.fresh a xa).2⟩, ⟨F.loc.1, hns⟩, fun y a ea => ⟨(F.cells y a ea).1, hcl y a ea⟩, F.apart, F.celled, fun y u hy' => ?_, fun y z l m u ne a b vy vz => ?_, fun y d a hy' vy => ?_⟩
  · have : b ≠ p := fun q => by have := (F.fresh p hp).2; rw [← q, eb] at this; cases this
    rw [hs.2 b this]; exact F.base b o eb
  · by_cases ha : a = p
    · rw [ha]; exact hps
    · rw [hs.2 a ha]; exact (F.fresh a xa).1
  · rcases Has.of_put q nd hy' with ⟨rfl, rfl⟩ | ⟨ne, hh⟩
    · exact ⟨v, hx, r.same hs hp fun d a e e' => (hv d a e e').1⟩
    · obtain ⟨u', a, b⟩ := F.var y u hh
      exact ⟨u', hy y u' ne a, b.same hs hp fun d t e e' => by subst e; subst e'; exact hl y d t hh a⟩
  · have back : ∀ t u, t ≠ x → ∀ m, Has c.ns G t (.own m) → VarIs env h' t u → VarIs env h t u := fun t u nt m ht vt => by
      obtain ⟨u', a', _⟩ := F.var t _ ht
      have := VarIs.uniq vt (hy t u' nt a'); subst this; exact a'
    rcases Has.of_put q nd a with ⟨e1, e2⟩ | ⟨n1, h1⟩ <;> rcases Has.of_put q nd b with ⟨e3, e4⟩ | ⟨n2, h2⟩
    · exact ne (e1.trans e3.symm)
    · subst e1
      have := VarIs.uniq vy hx; subst this
      exact ap l e2.symm z m h2 (back z _ n2 m h2 vz)
    · subst e3
      have := VarIs.uniq vz hx; subst this
      exact ap m e4.symm y l h1 (back y _ n1 l h1 vy)
    · exact F.owned y z l m u ne h1 h2 (back y u n1 l h1 vy) (back z u n2 m h2 vz)
  · rcases Has.of_put q nd hy' with ⟨e1, e2⟩ | ⟨n1, h1⟩
    · subst e1
      have := VarIs.uniq vy hx; subst this
      exact (hv d a e2.symm rfl).2
    · obtain ⟨u', a', _⟩ := F.var y _ h1
      have := VarIs.uniq vy (hy y u' n1 a'); subst this
      exact F.off y d a h1 a'
theorem FS.nocell {d : D} {x y : Str} {a b : Addr} (F : FS c w hb X₀ X env h G) (hx : Has c.ns G x (.own d)) (vx : VarIs env h x (.ref a)) (e : env.cells.lookup y = some b) : a ≠ b := by
  obtain ⟨u, vu, a', e', _, _, r⟩ := F.var x _ hx
  have := VarIs.uniq vx vu; rw [e'] at this; cases this
  exact r.not_cell (F.cells y b e).2.choose_spec
theorem wp_store {A : Around} {s : Shared} {x : Str} {v : Value} {e : V} {E : Value → Shared → Prop} {Q : Unit → Shared → Prop} (F : FS c w hb X₀ X env s.heap G) (q : Put c.ns G x e G')
    (r : RepV w X₀ X s.heap e v) (ap : ∀ l, e = .own l → (∀ a, v = .ref a → a ≠ env.locals) ∧ ∀ y m, Has c.ns G y (.own m) → ¬ VarIs env s.heap y v)
    (h : ∀ h' tk, FS c w hb X₀ X env h' G' → Pres (Mu X X₀) s.heap h' → VarIs env h' x v → (∀ y u, y ≠ x → VarIs env s.heap y u → VarIs env h' y u) → (∀ b o, b ≠ env.locals → (∀ y, env.cells.lookup y ≠ some b) → s.heap.get? b = some o → h'.get? b = some o) → Q () { s with heap := h', toks := tk }) : wpAny (model pw w) A (storeName env x v) Q E s := by
  have o := SC.ok_var F.ok q.mem
  have kf := SC.ok_kind F
  obtain ⟨xl, m, n⟩ := F.loc
  rcases o.1 with k | k
  · have k' := (F.kindOf x).trans k
    refine wpAny_storeName_local k' n (fun h' n' hs => ?_) (by rw [kf]; rfl)
    have vx : VarIs env h' x v := .inl ⟨k', _, n', by simp⟩
    have vy : ∀ y u, y ≠ x → VarIs env s.heap y u → VarIs env h' y u := fun y u ne vy => by
      rcases vy with ⟨ky, m', n1, e1⟩ | ⟨ky, a, l, cl⟩
      · exact .inl ⟨ky, _, n', by simp only [ne, if_false]; rw [ns_fun n n1]; exact e1⟩
      · exact .inr ⟨ky, a, l, cl.sameBut hs (fun q => ns_ne_cell n cl q.symm)⟩
    refine h h' _ ?_ (fun b o nx e => by rw [hs.2 b (fun q => nx (q ▸ xl))]; exact e) vx vy (fun b o nb _ e => by rw [hs.2 b nb]; exact e)
    refine F.put q hs xl.1 (fun y d a hy' va => F.off y d a hy' va) (fun d a e e' => ⟨(ap d e).1 a e', (ap d e).1 a e'⟩) vx vy ⟨_, n'⟩ (fun y a ea => ?_) ?_ r fun l e => (ap l e).2
    · obtain ⟨v', cl⟩ := (F.cells y a ea).2
      exact ⟨v', cl.sameBut hs (fun q => ns_ne_cell n cl q.symm)⟩
    · obtain ⟨o, _, _, e', _⟩ := n'; rw [e']; rfl
  · have k' := (F.kindOf x).trans k
    obtain ⟨a, la⟩ := Option.isSome_iff_exists.mp (F.celled x k)
    obtain ⟨xa, v₀, cl⟩ := F.cells x a la
    refine wpAny_storeName_cell kf k' la cl fun h' c' hs => ?_
    have vx : VarIs env h' x v := .inr ⟨k', a, la, c'⟩
    have vy : ∀ y u, y ≠ x → VarIs env s.heap y u → VarIs env h' y u := fun y u ne vy => by
      rcases vy with ⟨ky, m', n1, e1⟩ | ⟨ky, b, l, cb⟩
      · exact .inl ⟨ky, m', n1.sameBut hs (ns_ne_cell n1 cl), e1⟩
      · exact .inr ⟨ky, b, l, cb.sameBut hs fun q => ne (name_of_addr F.apart (mem_of_lookup l) (q ▸ mem_of_lookup la))⟩
    refine h h' s.toks ?_ (fun b o nx e => by rw [hs.2 b (fun q => nx (q ▸ xa))]; exact e) vx vy (fun b o _ nb e => by rw [hs.2 b (fun q => nb x (q ▸ la))]; exact e)
    refine F.put q hs xa.1 (fun y d b hy' va => F.nocell hy' va la) (fun d b e e' => ⟨?_, (ap d e).1 b e'⟩) vx vy ⟨m, n.sameBut hs (ns_ne_cell n cl)⟩ (fun y b eb => ?_) ?_ r fun l e => (ap l e).2
    · subst e; obtain ⟨a1, e1, _, _, r1⟩ := r
      rw [e'] at e1; cases e1
      exact r1.not_cell cl
    · by_cases hb' : b = a
      · subst hb'; exact ⟨_, c'⟩
      · obtain ⟨v', cb⟩ := (F.cells y b eb).2
        exact ⟨v', cb.sameBut hs hb'⟩
    · obtain ⟨o, e', _⟩ := c'; rw [e']; rfl
end
inductive Out where
  | next (G : Ctx)
  | ret (d : D)
noncomputable def UPR (c : SC) (w : World) (hb : Heap) (X₀ X : Addr → Prop) (env : Env) (h : Heap) (fl : Flow) (h' : Heap) : Out → Prop
  | .next G' => fl = .next ∧ ∃ X' : Addr → Prop, (∀ a, X' a → X a ∨ h.get? a = Option.none) ∧ FS c w hb X₀ X' env h' G'
  | .ret d => ∃ v, fl = .ret v ∧ Rep w X₀ h' d v
inductive UP (c : SC) (w : World) (hb : Heap) (X₀ X : Addr → Prop) (env : Env) (s : Shared) (o : Out) (fl : Flow) (s' : Shared) : Prop
  | mk (h' : Heap) (tk : Tok) (e : s' = { s with heap := h', toks := tk }) (p : Pres (Mu X X₀) s.heap h') (r : UPR c w hb X₀ X env s.heap fl h' o)
noncomputable def ES (c : SC) (k : Nat) (G : Ctx) (st : Stmt) (o : Out) : Prop :=
  ∀ (w : World) (hb : Heap) (A : Around) (X₀ X : Addr → Prop) (env : Env) (s : Shared), Ok w hb A k → FS c w hb X₀ X env s.heap G →
    wpAny (model pw w) A (exec st env) (UP c w hb X₀ X env s o) (fun _ _ => False) s
noncomputable def EX (c : SC) (k : Nat) (G : Ctx) (ss : List Stmt) (o : Out) : Prop :=
  ∀ (w : World) (hb : Heap) (A : Around) (X₀ X : Addr → Prop) (env : Env) (s : Shared), Ok w hb A k → FS c w hb X₀ X env s.heap G →
    wpAny (model pw w) A (execs ss env) (UP c w hb X₀ X env s o) (fun _ _ => False) s
theorem old_trans {X X1 X2 : Addr → Prop} {h h1 : Heap} (p : Pres X h h1) (a : ∀ a, X1 a → X a ∨ h.get? a = Option.none) (b : ∀ a, X2 a → X1 a ∨ h1.get? a = Option.none) : ∀ a, X2 a → X a ∨ h.get? a = Option.none := fun x hx => by
  rcases b x hx with q | q
  · exact a x q
  · cases e : h.get? x with
    | none => exact .inr rfl
    | some o =>
      by_cases xx : X x
      · exact .inl xx
      · rw [p x o xx e] at q; cases q
theorem mu_old {X X1 X₀ : Addr → Prop} {h : Heap} (a : ∀ a, X1 a → X a ∨ h.get? a = Option.none) : ∀ a, Mu X1 X₀ a → Mu X X₀ a ∨ h.get? a = Option.none := fun b q => (a b q.1).imp (fun x => ⟨x, q.2⟩) id
theorem pres_trans {X X1 : Addr → Prop} {h h1 h2 : Heap} (p : Pres X h h1) (a : ∀ a, X1 a → X a ∨ h.get? a = Option.none) (q : Pres X1 h1 h2) : Pres X h h2 := fun b o nx e =>
  q b o (fun x1 => by rcases a b x1 with z | z; exact nx z; rw [z] at e; cases e) (p b o nx e)
section
variable {c : SC} {k : Nat} {G G1 : Ctx}
theorem UP.trans {w : World} {hb : Heap} {X₀ X X1 : Addr → Prop} {env : Env} {s : Shared} {h1 : Heap} {tk : Nat} {o : Out} {fl : Flow} {s' : Shared} (p : Pres (Mu X X₀) s.heap h1) (a : ∀ a, X1 a → X a ∨ s.heap.get? a = Option.none)
    (u : UP c w hb X₀ X1 env { s with heap := h1, toks := tk } o fl s') : UP c w hb X₀ X env s o fl s' := by
  obtain ⟨h', t', rfl, pr, r⟩ := u
  refine ⟨h', t', rfl, pres_trans p (mu_old a) pr, ?_⟩
  cases o with
  | next G' =>
    obtain ⟨e, X', b, F⟩ := r
    exact ⟨e, X', old_trans p.mu a b, F⟩
  | ret d => exact r
theorem ex_nil : EX c k G [] (.next G) := fun w hb A X₀ X env s O F => wpAny_execs_nil ⟨_, _, rfl, fun _ _ _ e => e, rfl, X, fun _ x => .inl x, F⟩
theorem ex_cons {st : Stmt} {rest : List Stmt} {o : Out} (h1 : ES c k G st (.next G1)) (h2 : EX c k G1 rest o) : EX c k G (st :: rest) o := fun w hb A X₀ X env s O F =>
  wpAny_execs_cons (wpAny_mono (h1 w hb A X₀ X env s O F) (fun fl s' u => by
    obtain ⟨h', tk, rfl, pr, rfl, X', a, F'⟩ := u
    exact wpAny_mono (h2 w hb A X₀ X' env _ O F') (fun fl s'' u => UP.trans pr a u) fun _ _ x => x) fun _ _ x => x.elim)
theorem ex_ret {st : Stmt} {rest : List Stmt} {d : D} (h1 : ES c k G st (.ret d)) : EX c k G (st :: rest) (.ret d) := fun w hb A X₀ X env s O F =>
  wpAny_execs_cons (wpAny_mono (h1 w hb A X₀ X env s O F) (fun fl s' u => by
    obtain ⟨h', tk, rfl, pr, v, rfl, r⟩ := u
    exact ⟨h', tk, rfl, pr, v, rfl, r⟩) fun _ _ x => x.elim)
theorem ex_less {ss : List Stmt} {o : Out} (l : Less G1 G) (h : EX c k G1 ss o) : EX c k G ss o := fun w hb A X₀ X env s O F => h w hb A X₀ X env s O (F.less l)
theorem es_less {st : Stmt} {G' : Ctx} (l : Less G' G1) (h : ES c k G st (.next G1)) : ES c k G st (.next G') := fun w hb A X₀ X env s O F =>
  wpAny_mono (h w hb A X₀ X env s O F) (fun fl s' u => by
    obtain ⟨h', tk, rfl, pr, e, X', a, F'⟩ := u
    exact ⟨h', tk, rfl, pr, e, X', a, F'.less l⟩) fun _ _ x => x
theorem es_return {e : Expr} {pos : Pos} {d : D} (h : EV c k G e d) : ES c k G (.Return (some e) pos) (.ret d) := fun w hb A X₀ X env s O F =>
  wpAny_Return_some (wpAny_mono (h w hb A X₀ X env s O F) (fun v s' ⟨k1, r⟩ => by
    obtain ⟨h', tk, rfl, g⟩ := id k1
    exact ⟨h', tk, rfl, Grow.pres g, v, rfl, Rep.weak (fun a _ x => F.sub a x) d v r⟩) fun _ _ x => x)
theorem es_if {t : Expr} {a b : List Stmt} {pos : Pos} {v : Bool} {o : Out} (ht : IT c k G t v) (ha : v = true → EX c k G a o) (hb : v = false → EX c k G b o) : ES c k G (.If t a b pos) o := fun w hb' A X₀ X env s O F =>
  wpAny_If (wpAny_mono (ht w hb' A X₀ X env s O F) (fun u s1 ⟨k1, e⟩ => by
    subst e
    obtain ⟨h', tk, rfl, g⟩ := id k1
    have F' := F.grow g
    cases u
    · exact wpAny_mono (hb rfl w hb' A X₀ X env _ O F') (fun fl s'' u => UP.trans (Grow.pres g) (fun _ x => .inl x) u) fun _ _ x => x
    · exact wpAny_mono (ha rfl w hb' A X₀ X env _ O F') (fun fl s'' u => UP.trans (Grow.pres g) (fun _ x => .inl x) u) fun _ _ x => x) fun _ _ x => x.elim)
theorem es_assert {t : Expr} {pos : Pos} {mm : Option Expr} (ht : IT c k G t true) : ES c k G (.Assert t mm pos) (.next G) := fun w hb' A X₀ X env s O F =>
  wpAny_Assert_holds (wpAny_mono (ht w hb' A X₀ X env s O F) (fun u s1 ⟨k1, e⟩ => by
    obtain ⟨h', tk, rfl, g⟩ := id k1
    exact ⟨e, h', tk, rfl, Grow.pres g, rfl, X, fun _ x => .inl x, F.grow g⟩) fun _ _ x => x)
noncomputable def NoSwap (e : Expr) : Prop := ∀ (t : Option Expr) (line : Nat) (env : Env), swapsWith e t line env = pure false
theorem es_assign {x : Str} {e : Expr} {p pos : Pos} {d : D} {G' : Ctx} (h : EV c k G e d) (q : Put c.ns G x (.imm d) G') (hs : NoSwap e := by intro _ _ _; rfl) : ES c k G (.Assign [.Name x p] e pos) (.next G') := fun w hb A X₀ X env s O F =>
  wpAny_Assign_Name (wpAny_mono (h w hb A X₀ X env s O F) (fun v s1 ⟨k1, r⟩ => by
    obtain ⟨h1, tk, rfl, g⟩ := id k1
    refine wp_store (F.grow g) q r (fun l e => by cases e) fun h' tk' F' pr _ _ _ => ⟨h', tk', rfl, pres_trans (Grow.pres g) (fun _ x => .inl x) pr, rfl, X, fun _ x => .inl x, F'⟩) fun _ _ x => x.elim) (hs _ _ _)
theorem FS.take {w : World} {hb : Heap} {X₀ X : Addr → Prop} {env : Env} {h h' : Heap} {a : Addr} (F : FS c w hb X₀ X env h G) (g : Grow h h') (n : h.get? a = Option.none) (s : (h'.get? a).isSome = true) : FS c w hb X₀ (fun b => X b ∨ b = a) env h' G := by
  have F' := F.grow g
  have hn : hb.get? a = Option.none := by
    cases e : hb.get? a with
    | none => rfl
    | some o => rw [F.base a o e] at n; cases n
  refine ⟨F'.sc, F'.ok, F'.gl, F'.bl, F'.base, fun b x => .inl (F'.sub b x), fun b x => ?_, ⟨⟨.inl F'.loc.1.1, F'.loc.1.2⟩, F'.loc.2⟩, fun x b e => ⟨⟨.inl (F'.cells x b e).1.1, (F'.cells x b e).1.2⟩, (F'.cells x b e).2⟩, F'.apart, F'.celled, fun x e q => ?_, F'.owned, F'.off⟩
  · rcases x with x | rfl
    · exact F'.fresh b x
    · exact ⟨s, hn⟩
  · obtain ⟨v, p, r⟩ := F.var x e q
    have more : ∀ b, (h.get? b).isSome = true → (X b ∨ b = a) → X b := fun b hb' q => q.elim id fun q => by rw [q, n] at hb'; cases hb'
    refine ⟨v, p.grow g, ?_⟩
    cases e with
    | imm d => exact Rep.pres g.pres d v (Rep.weak more d v r)
    | own d => obtain ⟨b, e, xb, x0, r⟩ := r; exact ⟨b, e, .inl xb, x0, (r.weak more).pres g.pres fun o e => g _ _ e⟩
theorem es_assign_new {x : Str} {e : Expr} {p pos : Pos} {ds : List D} {G' : Ctx} (h : EVN c k G e ds) (q : Put c.ns G x (.own (.list ds)) G') (hs : NoSwap e := by intro _ _ _; rfl) : ES c k G (.Assign [.Name x p] e pos) (.next G') := fun w hb A X₀ X env s O F =>
  wpAny_Assign_Name (wpAny_mono (h w hb A X₀ X env s O F) (fun v s1 ⟨k1, a, vs, e, n, pl, rl⟩ => by
    obtain ⟨h1, tk, rfl, g⟩ := id k1
    subst e
    dsimp only at rl pl
    have F1 := F.take g n (by obtain ⟨m, e⟩ := pl; rw [e]; rfl)
    have na : ∀ y u, VarIs env h1 y u → VarIs env s.heap y u ∨ True := fun _ _ _ => .inr trivial
    refine wp_store (e := .own (.list ds)) F1 q ⟨a, rfl, .inr rfl, fun x => ?_, vs, pl, ?_⟩ (fun l _ => ⟨fun b e => ?_, fun y m hy vy => ?_⟩) fun h' tk' F' pr _ _ _ => ⟨h', tk', rfl, pres_trans (Grow.pres g) (mu_old fun b x => x.elim .inl fun q => .inr (q ▸ n)) pr, rfl, _, fun b x => x.elim .inl fun q => .inr (q ▸ n), F'⟩
    · exact F.notX n (F.sub a x)
    · assumption
    · cases e
      obtain ⟨m, nl⟩ := F.loc.2
      obtain ⟨o, _, _, e', _⟩ := nl
      intro q; rw [q, e'] at n; cases n
    · obtain ⟨u, vu, b, e, _, _, r⟩ := F.var y _ hy
      have := VarIs.uniq vy (vu.grow g); rw [e] at this; cases this
      have := r.some; rw [n] at this; cases this) fun _ _ x => x.elim) (hs _ _ _)
end
section
variable {c : SC} {k : Nat} {G G1 : Ctx}
theorem FS.freeze {w : World} {hb : Heap} {X₀ X : Addr → Prop} {env : Env} {h : Heap} {x : Str} {ds : List D} {G' : Ctx} (F : FS c w hb X₀ X env h G) (hx : Has c.ns G x (.own (.list ds))) (q : Put c.ns G x (.imm (.list ds)) G') :
    ∃ X' : Addr → Prop, (∀ a, X' a → X a) ∧ FS c w hb X₀ X' env h G' := by
  obtain ⟨v, vx, a, rfl, xa, x0, vs, pl, rl⟩ := F.var x _ hx
  have nd := SC.ok_nodup F.ok
  obtain ⟨xl, m, nl⟩ := F.loc
  refine ⟨fun b => X b ∧ b ≠ a, fun b q => q.1, F.sc, F.ok, F.gl, F.bl, F.base, fun b q => ⟨F.sub b q, fun e => x0 (e ▸ q)⟩, fun b q => F.fresh b q.1, ⟨⟨⟨xl.1, (seq_ne_dict pl nl).symm⟩, xl.2⟩, m, nl⟩, fun y b e => ?_, F.apart, F.celled, fun y u hy => ?_, fun y z l m' u ne hy hz vy => ?_, fun y d b hy vy => ?_⟩
  · obtain ⟨xb, v', cl⟩ := F.cells y b e
    exact ⟨⟨⟨xb.1, (seq_ne_cell pl cl).symm⟩, xb.2⟩, v', cl⟩
  · rcases Has.of_put q nd hy with ⟨rfl, rfl⟩ | ⟨ne, hh⟩
    · refine ⟨_, vx, ?_⟩
      show Rep _ _ _ _ _
      simp only [Rep]
      exact ⟨a, vs, rfl, fun z => z.2 rfl, pl, RepL.weak (fun _ _ z => z.1) _ _ rl⟩
    · obtain ⟨u', vu, r⟩ := F.var y u hh
      refine ⟨u', vu, ?_⟩
      cases u with
      | imm d => exact Rep.weak (fun _ _ z => z.1) d u' r
      | own l =>
        obtain ⟨b, e, xb, b0, r⟩ := r
        refine ⟨b, e, ⟨xb, fun q => ?_⟩, b0, r.weak (fun _ _ z => z.1)⟩
        subst q; subst e
        exact F.owned x y _ _ _ (Ne.symm ne) hx hh vx vu
  · rcases Has.of_put q nd hy with ⟨e1, e2⟩ | ⟨n1, h1⟩
    · cases e2
    · rcases Has.of_put q nd hz with ⟨e1, e2⟩ | ⟨n2, h2⟩
      · cases e2
      · exact F.owned y z l m' u ne h1 h2 vy
  · rcases Has.of_put q nd hy with ⟨e1, e2⟩ | ⟨n1, h1⟩
    · cases e2
    · exact F.off y d b h1 vy
theorem ex_freeze {x : Str} {ds : List D} {G' : Ctx} {ss : List Stmt} {o : Out} (hx : Has c.ns G x (.own (.list ds))) (q : Put c.ns G x (.imm (.list ds)) G') (h : EX c k G' ss o) : EX c k G ss o := fun w hb A X₀ X env s O F => by
  obtain ⟨X', sub, F'⟩ := F.freeze hx q
  refine wpAny_mono (h w hb A X₀ X' env s O F') (fun fl s' u => ?_) fun _ _ x => x
  obtain ⟨h', t', rfl, pr, r⟩ := u
  refine ⟨h', t', rfl, fun b o nx e => pr b o (fun z => nx ⟨sub b z.1, z.2⟩) e, ?_⟩
  cases o with
  | next G' => obtain ⟨e, X2, b, F2⟩ := r; exact ⟨e, X2, fun a z => (b a z).imp (sub a) id, F2⟩
  | ret d => exact r
noncomputable def D.flat : D → Prop
  | .none | .bool _ | .int _ | .str _ => True
  | _ => False
theorem Rep.flat {w : World} {X Y : Addr → Prop} {h : Heap} : ∀ {d : D} {v : Value}, d.flat → Rep w X h d v → Rep w Y h d v
  | .none, v, _, r => by simpa only [Rep] using r
  | .bool b, v, _, r => by simpa only [Rep] using r
  | .int i, v, _, r => by simpa only [Rep] using r
  | .str x, v, _, r => by simpa only [Rep] using r
theorem ev_view {x : Str} {ds : List D} {G' : Ctx} {e : Expr} {d : D} (hx : Has c.ns G x (.own (.list ds))) (q : Put c.ns G x (.imm (.list ds)) G') (h : EV c k G' e d) (fl : d.flat := by trivial) : EV c k G e d := fun w hb A X₀ X env s O F => by
  obtain ⟨X', sub, F'⟩ := F.freeze hx q
  exact wpAny_mono (h w hb A X₀ X' env s O F') (fun v s' ⟨k1, r⟩ => ⟨k1, r.flat fl⟩) fun _ _ x => x
theorem it_view {x : Str} {ds : List D} {G' : Ctx} {e : Expr} {b : Bool} (hx : Has c.ns G x (.own (.list ds))) (q : Put c.ns G x (.imm (.list ds)) G') (h : IT c k G' e b) : IT c k G e b := fun w hb A X₀ X env s O F => by
  obtain ⟨X', sub, F'⟩ := F.freeze hx q
  exact h w hb A X₀ X' env s O F'
noncomputable def AS (c : SC) (k : Nat) (G : Ctx) (t : Expr) (d : D) (G' : Ctx) : Prop :=
  ∀ (w : World) (hb : Heap) (A : Around) (X₀ X : Addr → Prop) (env : Env) (s : Shared) (v : Value), Ok w hb A k → FS c w hb X₀ X env s.heap G → Rep w X s.heap d v →
    wpAny (model pw w) A (assign t env v) (fun _ s' => ∃ h' tk, s' = { s with heap := h', toks := tk } ∧ Pres (Mu X X₀) s.heap h' ∧ FS c w hb X₀ X env h' G') (fun _ _ => False) s
theorem as_name {x : Str} {p : Pos} {d : D} {G' : Ctx} (q : Put c.ns G x (.imm d) G') : AS c k G (.Name x p) d G' := fun w hb A X₀ X env s v O F r =>
  wpAny_assign_Name (wp_store F q r (fun l e => by cases e) fun h' tk F' pr _ _ _ => ⟨h', tk, rfl, pr, F'⟩)
inductive ASS (c : SC) (k : Nat) : Ctx → List Expr → List D → Ctx → Prop
  | nil {G : Ctx} : ASS c k G [] [] G
  | cons {G G1 G2 : Ctx} {t : Expr} {ts : List Expr} {d : D} {ds : List D} : (∀ env, assignEach (t :: ts) env = (false, assign t env) :: assignEach ts env) → AS c k G t d G1 → ASS c k G1 ts ds G2 → ASS c k G (t :: ts) (d :: ds) G2
theorem ass_name {x : Str} {p : Pos} {d : D} {ts : List Expr} {ds : List D} {G2 : Ctx} (q : Put c.ns G x (.imm d) G1) (h : ASS c k G1 ts ds G2) : ASS c k G (.Name x p :: ts) (d :: ds) G2 := .cons (fun _ => rfl) (as_name q) h
theorem ass_len {ts : List Expr} {ds : List D} {G2 : Ctx} (h : ASS c k G ts ds G2) (env : Env) : (assignEach ts env).length = ds.length ∧ (assignEach ts env).findIdx? (·.1) = Option.none := by
  induction h with
  | nil => exact ⟨rfl, rfl⟩
  | cons e _ _ ih => rw [e env]; exact ⟨by simp [ih.1], by simp [List.findIdx?_cons, ih.2]⟩
theorem ass_run {ts : List Expr} {ds : List D} {G2 : Ctx} (h : ASS c k G ts ds G2) : ∀ (w : World) (hb : Heap) (A : Around) (X₀ X : Addr → Prop) (env : Env) (s : Shared) (vs : List Value), Ok w hb A k → FS c w hb X₀ X env s.heap G → RepL w X s.heap ds vs →
    wpAny (model pw w) A (assignInOrder ((assignEach ts env).map (·.2)) vs) (fun _ s' => ∃ h' tk, s' = { s with heap := h', toks := tk } ∧ Pres (Mu X X₀) s.heap h' ∧ FS c w hb X₀ X env h' G2) (fun _ _ => False) s := by
  induction h with
  | nil =>
    intro w hb A X₀ X env s vs O F r
    simp only [RepL] at r; subst r
    show wpAny _ A (assignInOrder [] []) _ _ s
    unfold assignInOrder
    exact wpAny_pure ⟨_, _, rfl, fun _ _ _ e => e, F⟩
  | cons e a _ ih =>
    intro w hb A X₀ X env s vs O F r
    simp only [RepL] at r
    obtain ⟨v, us, rfl, rv, ru⟩ := r
    rw [e env]
    show wpAny _ A (assignInOrder (assign _ env :: _) (v :: us)) _ _ s
    unfold assignInOrder
    refine wpAny_bind (wpAny_holding (wpAny_mono (a w hb A X₀ X env s v O F rv) (fun _ s' zp => ?_) fun _ _ x => x))
    obtain ⟨h', tk, e', pr, F'⟩ := zp
    subst e'
    exact wpAny_mono (ih w hb A X₀ X env _ us O F' (RepL.pres pr.mu _ _ ru)) (fun _ s'' ⟨h2, t2, e2, p2, F2⟩ => ⟨h2, t2, by rw [e2], pres_trans pr (fun _ x => .inl x) p2, F2⟩) fun _ _ x => x
theorem ext_grow {s : Shared} {h' : Heap} (x : Heap.ExtBut s.heap.objs.size s.heap h') : Grow s.heap h' := fun b o e => x b o (Nat.ne_of_lt (Heap.lt_size e)) e
theorem as_tup {ts : List Expr} {n : Nat} {pos : Pos} {ds : List D} {G2 : Ctx} (h : ASS c k G ts ds G2) : AS c k G (.Tuple ts n pos) (.tup ds) G2 := fun w hb A X₀ X env s v O F r => by
  obtain ⟨a, vs, rfl, _, ht, rl⟩ := r.tup_of
  have l := ass_len h env
  refine wpAny_assign_Tuple O.handled ht (by rw [l.1, ← rl.length]; simp) l.2 fun h' ex => ?_
  have g := ext_grow ex
  refine wpAny_mono (ass_run h w hb A X₀ X env { s with heap := h' } vs O (F.grow g) (RepL.pres g.pres _ _ rl)) (fun _ s'' ⟨h2, t2, e2, p2, F2⟩ => ⟨h2, t2, by rw [e2], pres_trans g.pres (fun _ x => .inl x) p2, F2⟩) fun _ _ x => x
theorem es_assign_tup {ts : List Expr} {n : Nat} {tp pos : Pos} {e : Expr} {ds : List D} {G2 : Ctx} (he : EV c k G e (.tup ds)) (h : ASS c k G ts ds G2) (hs : NoSwap e := by intro _ _ _; rfl)
    (hw : ∀ env, env.scope = c.sc → swappedStores [.Tuple ts n tp] e env = pure Option.none) : ES c k G (.Assign [.Tuple ts n tp] e pos) (.next G2) := fun w hb A X₀ X env s O F =>
  Assign_Tuple (wpAny_mono (he w hb A X₀ X env s O F) (fun v s1 ⟨k1, r⟩ => by
    obtain ⟨h1, tk, rfl, g⟩ := id k1
    exact wpAny_mono (as_tup h w hb A X₀ X env _ v O (F.grow g) r) (fun _ s' ⟨h', tk', e, pr, F'⟩ => ⟨h', tk', by rw [e], pres_trans (Grow.pres g) (fun _ x => .inl x) pr, rfl, X, fun _ x => .inl x, F'⟩) fun _ _ x => x) fun _ _ x => x.elim) (hs (some (.Tuple ts n tp)) pos.line env) (hw env F.sc)
noncomputable def NotBox (h : Heap) (b : Addr) : Prop := ∀ o, h.get? b = some o → o.cls ≠ .type "list" ∧ o.cls ≠ .type "tuple" ∧ o.cls ≠ .type "dict"
theorem Rep.box {w : World} {X Y : Addr → Prop} {h : Heap} (xy : ∀ a, Y a → X a ∨ NotBox h a) : ∀ (d : D) (v : Value), Rep w X h d v → Rep w Y h d v := by
  intro d
  refine D.rec (motive_1 := fun d => ∀ v, Rep w X h d v → Rep w Y h d v) (motive_2 := fun l => ∀ vs, RepL w X h l vs → RepL w Y h l vs)
    (motive_3 := fun l => ∀ f, RepM w X h l f → RepM w Y h l f) (motive_4 := fun p => ∀ v, Rep w X h p.2 v → Rep w Y h p.2 v) ?_ ?_ ?_ ?_ ?_ ?_ ?_ ?_ ?_ ?_ ?_ ?_ d
  · intro v r; simpa only [Rep] using r
  · intro b v r; simpa only [Rep] using r
  · intro i v r; simpa only [Rep] using r
  · intro x v r; simpa only [Rep] using r
  · intro l ih v r
    simp only [Rep] at r ⊢
    obtain ⟨a, vs, e, hx, ht, rl⟩ := r
    obtain ⟨o, ho, hc, _⟩ := id ht
    exact ⟨a, vs, e, fun y => (xy a y).elim hx fun n => (n o ho).2.1 hc, ht, ih vs rl⟩
  · intro l ih v r
    simp only [Rep] at r ⊢
    obtain ⟨a, vs, e, hx, ht, rl⟩ := r
    obtain ⟨n, ho⟩ := id ht
    exact ⟨a, vs, e, fun y => (xy a y).elim hx fun nb => (nb _ ho).1 rfl, ht, ih vs rl⟩
  · intro l ih v r
    simp only [Rep] at r ⊢
    obtain ⟨a, f, e, hx, hs, ht, rl⟩ := r
    obtain ⟨o, _, _, ho, hc, _⟩ := id ht
    exact ⟨a, f, e, fun y => (xy a y).elim hx fun n => (n o ho).2.2 hc.1, hs, ht, ih f rl⟩
  · intro vs r; simpa only [RepL] using r
  · intro d l ihd ihl vs r
    simp only [RepL] at r ⊢
    obtain ⟨v, s, e, rd, rl⟩ := r
    exact ⟨v, s, e, ihd v rd, ihl s rl⟩
  · intro f r; simpa only [RepM] using r
  · intro p l ihd ihl f r
    obtain ⟨x, d⟩ := p
    simp only [RepM] at r ⊢
    obtain ⟨v, g, e, rd, rl⟩ := r
    exact ⟨v, g, e, ihd v rd, ihl g rl⟩
  · intro x d ih v r; exact ih v r
theorem RepL.box {w : World} {X Y : Addr → Prop} {h : Heap} (xy : ∀ a, Y a → X a ∨ NotBox h a) : ∀ (l : List D) (vs : List Value), RepL w X h l vs → RepL w Y h l vs
  | [], vs, r => by simpa only [RepL] using r
  | d :: l, vs, r => by
    simp only [RepL] at r ⊢
    obtain ⟨v, s, e, rd, rl⟩ := r
    exact ⟨v, s, e, Rep.box xy d v rd, RepL.box xy l s rl⟩
theorem FS.iter {w : World} {hb : Heap} {X₀ X : Addr → Prop} {env : Env} {h h' : Heap} {wr : List Addr} (F : FS c w hb X₀ X env h G) (kp : ∀ b o, b ∉ wr → h.get? b = some o → h'.get? b = some o) (hw : ∀ b ∈ wr, ¬ X b ∧ NotBox h b ∧ hb.get? b = Option.none) : FS c w hb X₀ X env h' G := by
  have kx : ∀ b o, X b → h.get? b = some o → h'.get? b = some o := fun b o xb e => kp b o (fun q => (hw b q).1 xb) e
  have rp : ∀ d v, Rep w X h d v → Rep w X h' d v := fun d v r =>
    Rep.weak (X := fun a => X a ∨ a ∈ wr) (fun _ _ x => .inl x) d v (Rep.pres (fun b o nx e => kp b o (fun q => nx (.inr q)) e) d v (Rep.box (fun a y => y.imp id fun q => (hw a q).2.1) d v r))
  have rpl : ∀ l vs, RepL w X h l vs → RepL w X h' l vs := fun l vs r =>
    RepL.weak (X := fun a => X a ∨ a ∈ wr) (fun _ _ x => .inl x) l vs (RepL.pres (fun b o nx e => kp b o (fun q => nx (.inr q)) e) l vs (RepL.box (fun a y => y.imp id fun q => (hw a q).2.1) l vs r))
  obtain ⟨xl, m, nl⟩ := F.loc
  have nl' : h'.Ns env.locals m := by obtain ⟨o, es, ep, e, r⟩ := nl; exact ⟨o, es, ep, kx _ _ xl.1 e, r⟩
  have cl' : ∀ x a v, env.cells.lookup x = some a → h.IsCell a v → h'.IsCell a v := fun x a v e q => let ⟨o, ho, r⟩ := q; ⟨o, kx _ _ (F.cells x a e).1.1 ho, r⟩
  have var' : ∀ x v, VarIs env h x v → VarIs env h' x v := fun x v q => by
    rcases q with ⟨kk, m', n, e⟩ | ⟨kk, a, l, o⟩
    · exact .inl ⟨kk, m, nl', by rw [ns_fun nl n]; exact e⟩
    · exact .inr ⟨kk, a, l, cl' x a _ l o⟩
  refine ⟨F.sc, F.ok, F.gl, F.bl, fun b o e => kp b o (fun q => ?_) (F.base b o e), F.sub, fun a x => ⟨?_, (F.fresh a x).2⟩, ⟨xl, m, nl'⟩, fun x a e => ⟨(F.cells x a e).1, let ⟨v, q⟩ := (F.cells x a e).2; ⟨v, cl' x a v e q⟩⟩, F.apart, F.celled, fun x e q => ?_, fun x y l m v ne a b p q => ?_, fun x d b hx vx => ?_⟩
  · rw [(hw b q).2.2] at e; cases e
  · obtain ⟨o, ho⟩ := Option.isSome_iff_exists.mp (F.fresh a x).1
    rw [kx a o x ho]; rfl
  · obtain ⟨v, p, r⟩ := F.var x e q
    refine ⟨v, var' x v p, ?_⟩
    cases e with
    | imm d => exact rp d v r
    | own d =>
      obtain ⟨a, e, xa, x0, r⟩ := r
      refine ⟨a, e, xa, x0, ?_⟩
      cases d with
      | list l => obtain ⟨vs, ⟨n, ho⟩, rl⟩ := r; exact ⟨vs, ⟨n, kx _ _ xa ho⟩, rpl l vs rl⟩
      | dict l => obtain ⟨f, n, ⟨o, es, ep, ho, t⟩, rl⟩ := r; exact ⟨f, n, ⟨o, es, ep, kx _ _ xa ho, t⟩, rl.map rp l f⟩
      | _ => exact r.elim
  · obtain ⟨v1, p1, _⟩ := F.var x _ a
    obtain ⟨v2, p2, _⟩ := F.var y _ b
    have := VarIs.uniq p (var' x v1 p1); subst this
    have := VarIs.uniq q (var' y v2 p2); subst this
    exact F.owned x y l m _ ne a b p1 p2
  · obtain ⟨v1, p1, _⟩ := F.var x _ hx
    have := VarIs.uniq vx (var' x v1 p1); subst this
    exact F.off x d b hx p1
structure Goes (w : World) (A : Around) (X : Addr → Prop) (h₀ h : Heap) (ds : List D) (I : Addr) (fp wr : List Addr) (P : Nat → Value → Prop) (St : Nat → Heap → Prop) : Prop where
  W : Walks pw w A I fp wr ds.length P St
  st : St 0 h
  new : ∀ b ∈ wr, h₀.get? b = Option.none
  off : ∀ b ∈ fp, ¬ X b
  alive : ∀ i h, St i h → ∀ b ∈ fp, (h.get? b).isSome = true
  box : ∀ i h, St i h → ∀ b ∈ wr, NotBox h b
  items : ∀ i d v, ds[i]? = some d → P i v → Rep w X h d v
  go : ∀ i (s : Shared) (v : Value) (t : Expr) (Q : Unit → Shared → Prop) (E : Value → Shared → Prop), P i v → St (i + 1) s.heap → (∀ h', St (i + 1) h' → (∀ b o, b ∉ wr → s.heap.get? b = some o → h'.get? b = some o) → Q () { s with heap := h' }) →
    wpAny (model pw w) A (letOwnedTupleGo t (.ref I) v) Q E s
theorem letGo_plain {w : World} {A : Around} {s : Shared} {I : Addr} {o : Obj} {T : String} {v : Value} {t : Expr} {Q : Unit → Shared → Prop} {E : Value → Shared → Prop} (e : s.heap.get? I = some o) (hc : o.cls = .type T)
    (n : ["enumerate", "zip", "dict_itemiterator", "dict_reverseitemiterator", "odict_iterator", "itertools.zip_longest", "itertools.pairwise"].contains T = false) (h : Q () s) : wpAny (model pw w) A (letOwnedTupleGo t (.ref I) v) Q E s := by
  have main : wpAny (model pw w) A (do
      let (.ref r, .ref a) := ((.ref I : Value), v) | return
      let o ← load r
      match o.cls, o.data with
      | .type n, .fields vs =>
        if ["enumerate", "zip", "dict_itemiterator", "dict_reverseitemiterator", "odict_iterator", "itertools.zip_longest", "itertools.pairwise"].contains n && vs[0]? == some (rawInt a) then
          rule "for.unpacks-the-owned-tuple"
          updateField r 0 .none
      | _, _ => pure () : Sem Unit) Q E s := by
    cases v with
    | ref a =>
      refine wpAny_bind (wpAny_load e ?_)
      obtain ⟨cl, di, da, sl⟩ := o
      dsimp only at hc
      subst hc
      cases da with
      | fields vs => simp only [n, Bool.false_and]; exact wpAny_pure h
      | _ => exact wpAny_pure h
    | _ => exact wpAny_pure h
  unfold letOwnedTupleGo
  split
  · exact main
  · exact main
  · exact wpAny_pure h
noncomputable def Iter (c : SC) (k : Nat) (G : Ctx) (e : Expr) (ds : List D) : Prop :=
  ∀ (w : World) (hb : Heap) (A : Around) (X₀ X : Addr → Prop) (env : Env) (s : Shared), Ok w hb A k → FS c w hb X₀ X env s.heap G →
    wpAny (model pw w) A (eval e env) (fun x s₁ => wpAny (model pw w) A (pyIter x) (fun it s₂ => Keeps s s₂ ∧ ∃ I fp wr P St, it = .ref I ∧ Goes w A X s.heap s₂.heap ds I fp wr P St) (fun _ _ => False) s₁) (fun _ _ => False) s
structure Turn (w : World) (X₀ X X' : Addr → Prop) (H h' : Heap) (fp wr : List Addr) (St : Nat → Heap → Prop) (i : Nat) : Prop where
  pr : ∀ b o, ¬ (X b ∧ ¬ X₀ b) → b ∉ wr → H.get? b = some o → h'.get? b = some o
  st : St i h'
  xx : ∀ a, X' a → X a ∨ H.get? a = Option.none
  fpx : ∀ b ∈ fp, ¬ X' b
theorem Turn.item {w : World} {A : Around} {X₀ X X' : Addr → Prop} {h₀ H h' : Heap} {ds : List D} {I : Addr} {fp wr : List Addr} {P : Nat → Value → Prop} {St : Nat → Heap → Prop} {i : Nat} {d : D} {v : Value}
    (T : Turn w X₀ X X' H h' fp wr St i) (g : Goes w A X h₀ H ds I fp wr P St) (hd : ds[i]? = some d) (hp : P i v) : Rep w X' h' d v := by
  have r := g.items i d v hd hp
  have r2 : Rep w (fun a => (X a ∨ X' a) ∨ a ∈ wr) H d v := Rep.box (fun a y => by
    rcases y with (x | x) | x
    · exact .inl x
    · exact (T.xx a x).imp id fun q o e => by rw [q] at e; cases e
    · exact .inr (g.box 0 H g.st a x)) d v r
  exact Rep.weak (fun _ _ x => .inl (.inr x)) d v (Rep.pres (fun b o nx e => T.pr b o (fun q => nx (.inl (.inl q.1))) (fun q => nx (.inr q)) e) d v r2)
theorem Turn.move {w : World} {A : Around} {X₀ X X' : Addr → Prop} {h₀ H h' h1 : Heap} {ds : List D} {I : Addr} {fp wr : List Addr} {P : Nat → Value → Prop} {St : Nat → Heap → Prop} {i : Nat}
    (T : Turn w X₀ X X' H h' fp wr St i) (g : Goes w A X h₀ H ds I fp wr P St) (kp : ∀ b o, b ∉ wr → h'.get? b = some o → h1.get? b = some o) (st : St (i + 1) h1) : Turn w X₀ X X' H h1 fp wr St (i + 1) :=
  ⟨fun b o nx nw e => kp b o nw (T.pr b o nx nw e), st, T.xx, T.fpx⟩
theorem Turn.body {w : World} {A : Around} {X₀ X X' X2 : Addr → Prop} {h₀ H h' h2 : Heap} {ds : List D} {I : Addr} {fp wr : List Addr} {P : Nat → Value → Prop} {St : Nat → Heap → Prop} {i : Nat}
    (T : Turn w X₀ X X' H h' fp wr St i) (g : Goes w A X h₀ H ds I fp wr P St) (p : Pres (Mu X' X₀) h' h2) (x2 : ∀ a, X2 a → X' a ∨ h'.get? a = Option.none) : Turn w X₀ X X2 H h2 fp wr St i := by
  have live : ∀ b ∈ fp, h'.get? b ≠ Option.none := fun b hb e => by have := g.alive i h' T.st b hb; rw [e] at this; cases this
  refine ⟨fun b o nx nw e => p b o (fun q => (T.xx b q.1).elim (fun z => nx ⟨z, q.2⟩) fun z => by rw [z] at e; cases e) (T.pr b o nx nw e), g.W.frame i h' h2 T.st fun b hb o e => p b o (fun q => T.fpx b hb q.1) e, fun a xa => ?_, fun b hb xb => (x2 b xb).elim (T.fpx b hb) (live b hb)⟩
  rcases x2 a xa with q | q
  · exact T.xx a q
  · cases e : H.get? a with
    | none => exact .inr rfl
    | some o =>
      by_cases xa : X a
      · exact .inl xa
      · by_cases wa : a ∈ wr
        · exact absurd q (live a (g.W.sub a wa))
        · rw [T.pr a o (fun z => xa z.1) wa e] at q; cases q
theorem Turn.old {w : World} {X₀ X X' : Addr → Prop} {h₀ H h' : Heap} {fp wr : List Addr} {St : Nat → Heap → Prop} {i : Nat} (T : Turn w X₀ X X' H h' fp wr St i) (g : Grow h₀ H) (nw : ∀ b ∈ wr, h₀.get? b = Option.none) :
    Pres (Mu X X₀) h₀ h' ∧ ∀ a, X' a → X a ∨ h₀.get? a = Option.none :=
  ⟨fun b o nx e => T.pr b o nx (fun q => by rw [nw b q] at e; cases e) (g b o e), fun a xa => (T.xx a xa).imp id fun q => by
    cases e : h₀.get? a with
    | none => rfl
    | some o => rw [g a o e] at q; cases q⟩
theorem es_for {t iter : Expr} {body : List Stmt} {pos : Pos} {ds : List D} {o : Out} (it : Iter c k G iter ds) (Gs : Nat → Ctx) (h0 : Less (Gs 0) G) (j : Nat) (hj : j ≤ ds.length)
    (turn : ∀ i d, i < j → ds[i]? = some d → ∃ G', AS c k (Gs i) t d G' ∧ EX c k G' body (.next (Gs (i + 1))))
    (last : (j = ds.length ∧ o = .next (Gs j)) ∨ ∃ d r G', ds[j]? = some d ∧ AS c k (Gs j) t d G' ∧ EX c k G' body (.ret r) ∧ o = .ret r)
    (hfs : ∀ env x, foldedSetIterable iter env x = pure x := by intro _ _; rfl) : ES c k G (.For t iter body [] pos) o := fun w hb A X₀ X env s O F => by
  refine wpAny_For (wpAny_mono (it w hb A X₀ X env s O F) (fun x s1 h1 => wpAny_mono h1 (fun itv s2 h2 => ?_) fun _ _ x => x.elim) fun _ _ x => x.elim) (hfs env)
  obtain ⟨k2, I, fp, wr, P, St, rfl, g⟩ := h2
  obtain ⟨H2, T2, rfl, g2⟩ := id k2
  dsimp only at g
  have hwb : ∀ b ∈ wr, hb.get? b = Option.none := fun b q => by
    cases e : hb.get? b with
    | none => rfl
    | some o => have := F.base b o e; rw [g.new b q] at this; cases this
  obtain ⟨Inv, mk, un⟩ := hideP fun (n : Nat) (s' : Shared) => ∃ i, n = ds.length - i ∧ i ≤ j ∧ ∃ h' tk X', s' = { s with heap := h', toks := tk } ∧ Turn w X₀ X X' H2 h' fp wr St i ∧ FS c w hb X₀ X' env h' (Gs i)
  refine codeQ fun R hR => codeAny_forLoop_any Inv (fun n s' hI => wpQ fun Q hQ => ?_) ds.length (mk _ _ ⟨0, by omega, by omega, H2, T2, X, rfl, ⟨fun b o _ _ e => e, g.st, fun a x => .inl x, g.off⟩, (F.grow g2).less h0⟩)
  replace hI := un _ _ hI
  obtain ⟨i, en, hij, h', tk, X', rfl, T, F'⟩ := hI
  by_cases hi : i < ds.length
  · refine g.W.item i _ _ _ hi T.st fun v h1 t1 pv st0 kp0 => hQ _ _ ?_
    show wpAny (model pw w) A (letOwnedTupleGo t (.ref I) v) _ _ _
    refine g.go i _ v t _ _ pv st0 fun h1 st1 kp1 => ?_
    have kp : ∀ b o, b ∉ wr → h'.get? b = some o → h1.get? b = some o := fun b o nb e => kp1 b o nb (kp0 b o nb e)
    have hd : ds[i]? = some ds[i] := by simp [hi]
    have rv0 := T.item g hd pv
    have wok : ∀ b ∈ wr, ¬ X' b ∧ NotBox h' b ∧ hb.get? b = Option.none := fun b q => ⟨T.fpx b (g.W.sub b q), g.box i h' T.st b q, hwb b q⟩
    have F1 : FS c w hb X₀ X' env h1 (Gs i) := F'.iter kp wok
    have rv : Rep w X' h1 ds[i] v := Rep.weak (X := fun a => X' a ∨ a ∈ wr) (fun _ _ x => .inl x) _ v (Rep.pres (fun b o nx e => kp b o (fun q => nx (.inr q)) e) _ v (Rep.box (fun a y => y.imp id fun q => (wok a q).2.1) _ v rv0))
    have T1 := T.move g kp st1
    have go : ∀ G' (o' : Out), AS c k (Gs i) t ds[i] G' → EX c k G' body o' → ((∀ (fl : Flow) (s' : Shared), ((∃ h3 t3 X3, s' = { s with heap := h3, toks := t3 } ∧ Turn w X₀ X X3 H2 h3 fp wr St (i + 1) ∧ match o' with
        | .next G2 => fl = .next ∧ FS c w hb X₀ X3 env h3 G2
        | .ret d => ∃ v : Value, fl = Flow.ret v ∧ Rep w X₀ h3 d v)) → match fl with
          | .next | .cont => ∃ m, m < n ∧ Inv m s'
          | .brk => R (.ok .next) s'
          | .ret v => R (.ok (.ret v)) s') →
        wpAny (model pw w) A (assign t env v) (fun _ s₂ => wpAny (model pw w) A (execs body env) (fun f s₃ => match f with
            | .next | .cont => ∃ m, m < n ∧ Inv m s₃
            | .brk => R (.ok .next) s₃
            | .ret v => R (.ok (.ret v)) s₃) (fun _ _ => False) s₂) (fun _ _ => False) { s with heap := h1, toks := t1 }) := fun G' o' ha hx fin => by
      refine wpAny_mono (ha w hb A X₀ X' env { s with heap := h1, toks := t1 } v O F1 rv) (fun _ s2 zp => ?_) fun _ _ x => x
      obtain ⟨h2, t2, e2, p2, F2⟩ := zp
      subst e2
      refine wpAny_mono (hx w hb A X₀ X' env _ O F2) (fun fl s3 u => fin fl s3 ?_) fun _ _ x => x
      obtain ⟨h3, t3, rfl, p3, r⟩ := u
      have T2 := T1.body g p2 (X2 := X') (fun _ x => .inl x)
      cases o' with
      | next G2 =>
        obtain ⟨e, X3, x3, F3⟩ := r
        exact ⟨h3, t3, X3, rfl, T2.body g p3 x3, e, F3⟩
      | ret d => exact ⟨h3, t3, X', rfl, T2.body g p3 (fun _ x => .inl x), r⟩
    refine wpAny_mono (Q := fun _ s₂ => wpAny (model pw w) A (execs body env) (fun f s₃ => match f with
            | .next | .cont => ∃ m, m < n ∧ Inv m s₃
            | .brk => R (.ok .next) s₃
            | .ret v => R (.ok (.ret v)) s₃) (fun _ _ => False) s₂) (E := fun _ _ => False) ?_ (fun _ s2 h => wpAny_mono h (fun _ _ x => x) fun _ _ x => x.elim) fun _ _ x => x.elim
    by_cases hlt : i < j
    · obtain ⟨G', ha, hx⟩ := turn i ds[i] hlt hd
      refine go G' _ ha hx fun fl s3 q => ?_
      obtain ⟨h3, t3, X3, rfl, T3, rfl, F3⟩ := q
      exact ⟨ds.length - (i + 1), by omega, mk _ _ ⟨i + 1, rfl, by omega, h3, t3, X3, rfl, T3, F3⟩⟩
    · have hji : i = j := by omega
      rcases last with ⟨e, _⟩ | ⟨d, r, G', hd', ha, hx, eo⟩
      · omega
      · subst hji
        rw [hd] at hd'; cases hd'
        refine go G' _ ha hx fun fl s3 q => ?_
        obtain ⟨h3, t3, X3, rfl, T3, v', rfl, r3⟩ := q
        obtain ⟨p, _⟩ := T3.old g2 g.new
        subst eo
        exact hR _ _ ⟨h3, t3, rfl, p, v', rfl, r3⟩
  · have ei : i = ds.length := by omega
    subst ei
    refine g.W.done _ _ _ T.st fun h1 t1 kp => hQ _ _ ?_
    have ej : j = ds.length := by omega
    rcases last with ⟨_, eo⟩ | ⟨d, r, G', hd', _⟩
    · have F1 : FS c w hb X₀ X' env h1 (Gs ds.length) := F'.iter kp fun b q => ⟨T.fpx b (g.W.sub b q), g.box _ h' T.st b q, hwb b q⟩
      obtain ⟨p, x⟩ := T.old g2 g.new
      subst eo
      show wpAny (model pw w) A (execs [] env) _ _ _
      refine wpAny_execs_nil (hR _ _ ⟨h1, t1, rfl, fun b o nx e => kp b o (fun q => by rw [g.new b q] at e; cases e) (p b o nx e), rfl, X', x, ?_⟩)
      rw [ej]; exact F1
    · rw [List.getElem?_eq_none (by omega)] at hd'; cases hd'
end
noncomputable def SI (d i r : D) : Prop := ∀ (w : World) (hb : Heap) (A : Around) (X : Addr → Prop) (s : Shared) (u v : Value) (n : Nat), Ok w hb A n → (∀ a, X a → (s.heap.get? a).isSome = true) → Rep w X s.heap d u → Rep w X s.heap i v →
    ∃ T id, s.TypeIs u T ∧ typeLookup (.type T) "__getitem__" = pure (some (.builtin id)) ∧ wpAny (model pw w) A (getItem u v) (fun v s' => Keeps s s' ∧ Rep w X s'.heap r v) (fun _ _ => False) s
noncomputable def NoCut (slice : Expr) : Prop := ∀ o i, subscripted slice false o i = operate [o, i] (getItem o i)
section
variable {c : SC} {k : Nat} {G G1 : Ctx}
theorem ev_sub {e i : Expr} {pos : Pos} {d j r : D} (he : EV c k G e d) (hi : EV c k G i j) (si : SI d j r) (hs : NoCut i := by intro _ _; rfl) : EV c k G (.Subscript e i pos) r := fun w hb A X₀ X env s O F =>
  Subscript_ (ev_two O F he hi fun u v s' kp ru rv => by
    obtain ⟨T, id, hT, hl, hg⟩ := si w hb A X s' u v k O (fun a x => ((F.grow (kH kp)).fresh a x).1) ru rv
    exact tail_any hT hl (wpAny_mono hg (fun _ _ ⟨k2, r2⟩ => ⟨kT kp k2, r2⟩) fun _ _ x => x) (hs u v))
end
theorem si_list {l : List D} {i : Nat} {d : D} (h : l[i]? = some d) (hb : i < 2 ^ 63) : SI (.list l) (.int i) d := fun w hb' A X s u v n O _ ru rv => by
  obtain ⟨a, vs, rfl, _, hl, rl⟩ := ru.list_of
  obtain ⟨t, rfl⟩ := rv.int_of
  obtain ⟨x, hx, rx⟩ := rl.at i h
  exact ⟨"list", _, hl.typeIs, slot_list_getitem.lookup, wpAny_getItem_list hl (by exact Int.natCast_nonneg _) (by exact Int.lt_of_lt_of_le (Int.ofNat_lt.mpr hb) (by decide)) (by simpa using hx) ⟨kR s, rx⟩⟩
theorem si_back {l : List D} {i : Nat} {d : D} (h : l[l.length - i]? = some d) (h1 : 1 ≤ i) (h2 : i ≤ l.length) (hb : i < 2 ^ 63) : SI (.list l) (.int (-(i : Int))) d := fun w hb' A X s u v n O _ ru rv => by
  obtain ⟨a, vs, rfl, _, hl, rl⟩ := ru.list_of
  obtain ⟨t, rfl⟩ := rv.int_of
  obtain ⟨x, hx, rx⟩ := rl.at _ h
  have e := rl.length
  refine ⟨"list", _, hl.typeIs, slot_list_getitem.lookup, wpAny_getItem_list_neg hl (by lia) (by simp; exact Nat.le_trans h2 (Nat.le_of_eq e.symm)) (by lia) ?_ ⟨kR s, rx⟩⟩
  rw [show (-(i : Int) + (vs.toArray.size : Int)).toNat = l.length - i by simp; lia]
  simpa using hx
theorem si_tup {l : List D} {i : Nat} {d : D} (h : l[i]? = some d) (hb : i < 2 ^ 63) : SI (.tup l) (.int i) d := fun w hb' A X s u v n O _ ru rv => by
  obtain ⟨a, vs, rfl, _, hl, rl⟩ := ru.tup_of
  obtain ⟨t, rfl⟩ := rv.int_of
  obtain ⟨x, hx, rx⟩ := rl.at i h
  have hlt : i < vs.length := by
    rcases Nat.lt_or_ge i vs.length with q | q
    · exact q
    · rw [List.getElem?_eq_none q] at hx; cases hx
  refine ⟨"tuple", _, hl.typeIs, F.slot_tuple_getitem.lookup, getItem_tuple (j := i) hl (by exact Int.le_trans (by decide) (Int.natCast_nonneg _)) (by exact Int.lt_of_lt_of_le (Int.ofNat_lt.mpr hb) (by decide)) ?_ (by simpa using hx) ⟨kR s, rx⟩⟩
  unfold seqIndex?
  simp
  lia
theorem si_str {x : Str} {i : Nat} {c : Nat} (h : x.cps[i]? = some c) (hb : i < 2 ^ 63) : SI (.str x) (.int i) (.str ⟨#[c]⟩) := fun w hb' A X s u v n O _ ru rv => by
  obtain ⟨t, rfl⟩ := ru.str_of
  obtain ⟨t', rfl⟩ := rv.int_of
  have hlt : i < x.cps.size := by
    rcases Nat.lt_or_ge i x.cps.size with q | q
    · exact q
    · rw [Array.getElem?_eq_none q] at h; cases h
  refine ⟨"str", _, typeIs_str _ _ _, F.slot_str_getitem.lookup, getItem_str ?_ ?_ ⟨kTok s _, rep_str⟩⟩
  · simp; exact Int.lt_of_lt_of_le (Int.ofNat_lt.mpr hb) (by decide)
  · unfold seqIndex?
    have q : (i : Int) < (x.length : Int) := by show (i : Int) < (x.cps.size : Int); exact Int.ofNat_lt.mpr hlt
    have q0 : ¬ ((i : Int) < 0) := by exact Int.not_lt.mpr (Int.natCast_nonneg _)
    simp only [q0, if_false, q]
    simp [h]
theorem si_dict {l : List (Str × D)} {x : Str} {d : D} (h : l.lookup x = some d) : SI (.dict l) (.str x) d := fun w hb' A X s u v n O _ ru rv => by
  obtain ⟨a, f, rfl, _, _, hm, rm⟩ := ru.dict_of
  obtain ⟨t, rfl⟩ := rv.str_of
  have q := rm.at (x := x)
  rw [h] at q
  obtain ⟨v, hv, rv⟩ := q
  exact ⟨"dict", _, hm.typeIs, slot_dict_getitem.lookup, wpAny_getItem_of (strKind_is pw w x t) hm hv ⟨kTok s _, rv⟩⟩
theorem co_notin_dict {l : List (Str × D)} {x : Str} : CO .NotIn (.str x) (.dict l) (!(l.lookup x).isSome) := fun w hb A X s u v n O ru rv => by
  obtain ⟨a, f, rfl, hx, hs, hm, rm⟩ := rv.dict_of
  obtain ⟨t, rfl⟩ := ru.str_of
  have q := rm.at (x := x)
  refine wpAny_notIn_of (strKind_is pw w x t) hs hm ⟨kTok s _, ?_⟩
  cases e : l.lookup x with
  | none => rw [e] at q; rw [q]; rfl
  | some d => rw [e] at q; obtain ⟨v, hv, _⟩ := q; rw [hv]; rfl
theorem co_in_str {x y : Str} : CO .In (.str x) (.str y) (Txt.contains y x) := fun w hb A X s u v n O ru rv => by
  obtain ⟨t, rfl⟩ := ru.str_of
  obtain ⟨t', rfl⟩ := rv.str_of
  exact PySem.P.in_str ⟨kR s, rfl⟩
theorem co_notin_str {x y : Str} : CO .NotIn (.str x) (.str y) (!Txt.contains y x) := fun w hb A X s u v n O ru rv => by
  obtain ⟨t, rfl⟩ := ru.str_of
  obtain ⟨t', rfl⟩ := rv.str_of
  exact PySem.P.notIn_str ⟨kR s, rfl⟩
noncomputable def cut (x : Str) (a b : Nat) : Str := ⟨((x.cps.toList.drop a).take (b - a)).toArray⟩
theorem cut_whole {x : Str} {a b : Nat} (hab : a ≤ b) (hb : b ≤ x.length) (e : b - a = x.length) : cut x a b = x := by
  have hl : x.length = x.cps.toList.length := by simp [Str.length]
  have ea : a = 0 := by lia
  have eb : b = x.cps.toList.length := by lia
  unfold cut
  subst ea
  rw [eb, List.drop_zero, Nat.sub_zero, List.take_length]
theorem kSlice (s : Shared) (o : Obj) : Keeps s { s with heap := s.heap.push o } := ⟨_, _, rfl, fun _ _ e => Heap.get?_push_of_some _ e⟩
section
variable {c : SC} {k : Nat} {G G1 : Ctx}
theorem ev_cut {y : Str} {yp : Pos} {lo hi : Expr} {p pos : Pos} {x : Str} {a b : Nat} (he : EV c k G (.Name y yp) (.str x)) (hl : EV c k G lo (.int a)) (hh : EV c k G hi (.int b)) (hab : a ≤ b) (hb : b ≤ x.length) (hx : x.length ≤ 2 ^ 24) :
    EV c k G (.Subscript (.Name y yp) (.Slice (some lo) (some hi) Option.none p) pos) (.str (cut x a b)) := fun w hb' A X₀ X env s O F => by
  refine wpAny_Subscript_str_slice (wpAny_mono (he w hb' A X₀ X env s O F) (fun o s1 zp => ?_) fun _ _ x => x.elim)
  obtain ⟨k1, r1⟩ := zp
  have F1 := F.grow (kH k1)
  rw [evalPart_some]
  refine wpAny_mono (hl w hb' A X₀ X env s1 O F1) (fun vl s2 zp => ?_) fun _ _ x => x.elim
  obtain ⟨k2, r2⟩ := zp
  have F2 := F1.grow (kH k2)
  rw [evalPart_some]
  refine wpAny_mono (hh w hb' A X₀ X env s2 O F2) (fun vu s3 zp => ?_) fun _ _ x => x.elim
  obtain ⟨k3, r3⟩ := zp
  obtain ⟨t, rfl⟩ := r1.str_of
  obtain ⟨t1, rfl⟩ := r2.int_of
  obtain ⟨t2, rfl⟩ := r3.int_of
  refine ⟨x, t, some (a, t1), some (b, t2), rfl, rfl, rfl, ?_⟩
  have kk := kT k1 (kT k2 (kT k3 (kSlice s3 { cls := .type "slice", data := .fields #[.int a t1, .int b t2, .none] })))
  have pk : slicePicked x (some ((a : Int), t1)) (some ((b : Int), t2)) Option.none = Builtin.Str.strSliceIndices (some (a : Int)) (some (b : Int)) 1 x.length := rfl
  have cps : ((slicePicked x (some ((a : Int), t1)) (some ((b : Int), t2)) Option.none).filterMap (x.cps[·]?)) = (x.cps.toList.drop a).take (b - a) := by rw [pk]; exact StrLaws.sliced_plain x hab hb
  unfold sliceMade
  split
  · rename_i hc
    refine ⟨kk, ?_⟩
    have e : cut x a b = x := by
      simp only [Bool.and_eq_true, beq_iff_eq] at hc
      have h2 := hc.2
      rw [pk, StrLaws.strSliceIndices_plain hab hb, List.length_map, List.length_range] at h2
      exact cut_whole hab hb h2
    rw [e]; exact rep_str
  · refine ⟨?_, kT kk (kTok _ _), ?_⟩
    · rw [cps]
      show ((x.cps.toList.drop a).take (b - a)).toArray.size ≤ sizeLine
      unfold sizeLine
      have : x.length = x.cps.size := rfl
      simp; omega
    · rw [cps]; exact rep_str
end
theorem is_str {w : World} {X : Addr → Prop} {s : Shared} {u : Value} {x : Str} (r : Rep w X s.heap (.str x) u) : s.TypeIs u "str" ∧ ∀ a, u = .ref a → ∃ ob, s.heap.get? a = some ob ∧ ob.dict = Option.none := by
  obtain ⟨t, rfl⟩ := r.str_of
  exact ⟨typeIs_str _ _ _, fun a e => by cases e⟩
theorem RepL.one_of {w : World} {X : Addr → Prop} {h : Heap} {d : D} {vs : List Value} (r : RepL w X h [d] vs) : ∃ v, vs = [v] ∧ Rep w X h d v := by
  simp only [RepL] at r; obtain ⟨v, r', rfl, rd, rfl⟩ := r; exact ⟨v, rfl, rd⟩
theorem RepL.two_of {w : World} {X : Addr → Prop} {h : Heap} {d e : D} {vs : List Value} (r : RepL w X h [d, e] vs) : ∃ v u, vs = [v, u] ∧ Rep w X h d v ∧ Rep w X h e u := by
  simp only [RepL] at r; obtain ⟨v, r', rfl, rd, u, r'', rfl, re, rfl⟩ := r; exact ⟨v, u, rfl, rd, re⟩
theorem RepL.three_of {w : World} {X : Addr → Prop} {h : Heap} {d e f : D} {vs : List Value} (r : RepL w X h [d, e, f] vs) : ∃ v u z, vs = [v, u, z] ∧ Rep w X h d v ∧ Rep w X h e u ∧ Rep w X h f z := by
  simp only [RepL] at r; obtain ⟨v, r', rfl, rd, u, r'', rfl, re, z, r3, rfl, rf, rfl⟩ := r; exact ⟨v, u, z, rfl, rd, re, rf⟩
theorem mc_find {x y : Str} : MC "find" "str" "str.find" (.str x) [.str y] (.int (Txt.find x y)) :=
  ⟨F.plainAttrs_str, F.slot_str_find, F.type_str_find, fun _ _ _ _ r => is_str r, fun w hb A X s u vs n O _ ru rv => by
    obtain ⟨t, rfl⟩ := ru.str_of
    obtain ⟨v, rfl, r⟩ := rv.one_of
    obtain ⟨t', rfl⟩ := r.str_of
    exact PySem.SC.find ⟨kTok s _, rep_int⟩⟩
noncomputable def findIn (x y : Str) (a b : Nat) : Int := match Builtin.Str.occurrences x y a b 1 with | i :: _ => (i : Int) | [] => -1
noncomputable def rfindIn (x y : Str) (a b : Nat) : Int := match Builtin.Str.lastOccurrence x y a b with | some i => (i : Int) | Option.none => -1
theorem fromIndex_nat (n a : Nat) : fromIndex n (a : Int) = a := by
  unfold fromIndex
  have h : ¬ ((a : Int) < 0) := by exact Int.not_lt.mpr (Int.natCast_nonneg _)
  rw [if_neg h]
  exact rfl
theorem gives_find4 (x y : Str) (a b : Nat) (ha : a ≤ x.length) (hb : b ≤ x.length) (t u v z : Tok) : Gives (Builtin.«str.find» ⟨[.str x t, .str y u, .int a v, .int b z], []⟩) (.int (findIn x y a b)) := by
  show Gives (match Builtin.Str.occurrences x y (fromIndex x.length a) (min (fromIndex x.length b) x.length) 1 with | i :: _ => retInt i | [] => (do rule "str.find.not-found"; retInt (-1))) _
  rw [fromIndex_nat, fromIndex_nat, Nat.min_eq_left hb]
  unfold findIn
  cases Builtin.Str.occurrences x y a b 1 with
  | nil => exact .rule (.of_eq rfl)
  | cons i _ => exact .of_eq rfl
theorem gives_rfind4 (x y : Str) (a b : Nat) (ha : a ≤ x.length) (hb : b ≤ x.length) (t u v z : Tok) : Gives (Builtin.«str.rfind» ⟨[.str x t, .str y u, .int a v, .int b z], []⟩) (.int (rfindIn x y a b)) := by
  show Gives (match Builtin.Str.lastOccurrence x y (fromIndex x.length a) (min (fromIndex x.length b) x.length) with | some i => retInt i | Option.none => (do rule "str.rfind.not-found"; retInt (-1))) _
  rw [fromIndex_nat, fromIndex_nat, Nat.min_eq_left hb]
  unfold rfindIn
  cases Builtin.Str.lastOccurrence x y a b with
  | none => exact .rule (.of_eq rfl)
  | some i => exact .of_eq rfl
theorem mc_find4 {x y : Str} {a b : Nat} (ha : a ≤ x.length) (hb : b ≤ x.length) : MC "find" "str" "str.find" (.str x) [.str y, .int a, .int b] (.int (findIn x y a b)) :=
  ⟨F.plainAttrs_str, F.slot_str_find, F.type_str_find, fun _ _ _ _ r => is_str r, fun w hb' A X s u vs n O _ ru rv => by
    obtain ⟨t, rfl⟩ := ru.str_of
    obtain ⟨v1, v2, v3, rfl, r1, r2, r3⟩ := rv.three_of
    obtain ⟨t1, rfl⟩ := r1.str_of
    obtain ⟨t2, rfl⟩ := r2.int_of
    obtain ⟨t3, rfl⟩ := r3.int_of
    exact call_gives F.slot_str_find (typeIs_str _ _ _) F.entry_str_find (F.args_str_find_4 _ _ _ _) (gives_find4 x y a b ha hb _ _ _ _) ⟨kTok s _, rep_int⟩⟩
theorem mc_rfind4 {x y : Str} {a b : Nat} (ha : a ≤ x.length) (hb : b ≤ x.length) : MC "rfind" "str" "str.rfind" (.str x) [.str y, .int a, .int b] (.int (rfindIn x y a b)) :=
  ⟨F.plainAttrs_str, F.slot_str_rfind, F.type_str_rfind, fun _ _ _ _ r => is_str r, fun w hb' A X s u vs n O _ ru rv => by
    obtain ⟨t, rfl⟩ := ru.str_of
    obtain ⟨v1, v2, v3, rfl, r1, r2, r3⟩ := rv.three_of
    obtain ⟨t1, rfl⟩ := r1.str_of
    obtain ⟨t2, rfl⟩ := r2.int_of
    obtain ⟨t3, rfl⟩ := r3.int_of
    exact call_gives F.slot_str_rfind (typeIs_str _ _ _) F.entry_str_rfind (F.args_str_rfind_4 _ _ _ _) (gives_rfind4 x y a b ha hb _ _ _ _) ⟨kTok s _, rep_int⟩⟩
theorem mc_startswith {x y : Str} : MC "startswith" "str" "str.startswith" (.str x) [.str y] (.bool (Txt.startswith x y)) :=
  ⟨F.plainAttrs_str, F.slot_str_startswith, F.type_str_startswith, fun _ _ _ _ r => is_str r, fun w hb A X s u vs n O _ ru rv => by
    obtain ⟨t, rfl⟩ := ru.str_of
    obtain ⟨v, rfl, r⟩ := rv.one_of
    obtain ⟨t', rfl⟩ := r.str_of
    exact PySem.SC.startswith ⟨kR s, rep_bool⟩⟩
theorem mc_lower {x : Str} (h : Builtin.Str.tooLong (Txt.lower x).length = false) : MC "lower" "str" "str.lower" (.str x) [] (.str (Txt.lower x)) :=
  ⟨F.plainAttrs_str, F.slot_str_lower, F.type_str_lower, fun _ _ _ _ r => is_str r, fun w hb A X s u vs n O _ ru rv => by
    obtain ⟨t, rfl⟩ := ru.str_of
    simp only [RepL] at rv; subst rv
    exact PySem.SC.lower h ⟨kTok s _, rep_str⟩⟩
theorem RepL.strs {w : World} {X : Addr → Prop} {h : Heap} : ∀ {l : List Str} {vs : List Value}, RepL w X h (l.map D.str) vs → ∃ us : List (Str × Tok), strValues us = vs ∧ us.map (·.1) = l
  | [], vs, r => by simp only [List.map_nil, RepL] at r; subst r; exact ⟨[], rfl, rfl⟩
  | x :: l, vs, r => by
    simp only [List.map_cons, RepL] at r
    obtain ⟨v, s, rfl, rd, rl⟩ := r
    obtain ⟨t, rfl⟩ := rd.str_of
    obtain ⟨us, e1, e2⟩ := RepL.strs rl
    exact ⟨(x, t) :: us, by simp [strValues] at e1 ⊢; exact e1, by simp [e2]⟩
theorem mc_join {x : Str} {l : List Str} (h : JoinOk x l = true) : MC "join" "str" "str.join" (.str x) [.list (l.map D.str)] (.str (Txt.join x l)) :=
  ⟨F.plainAttrs_str, F.slot_str_join, F.type_str_join, fun _ _ _ _ r => is_str r, fun w hb A X s u vs n O _ ru rv => by
    obtain ⟨t, rfl⟩ := ru.str_of
    obtain ⟨v, rfl, r⟩ := rv.one_of
    obtain ⟨a, vs, rfl, _, hl, rl⟩ := r.list_of
    obtain ⟨us, e1, e2⟩ := rl.strs
    subst e1
    exact PySem.SC.join hl e2 h fun _ _ => ⟨kTok s _, rep_str⟩⟩
theorem mc_bits {a : Int} : MC "bit_length" "int" "int.bit_length" (.int a) [] (.int (Builtin.Int.intBits a)) :=
  ⟨F.plainAttrs_int, F.slot_int_bit_length, F.type_int_bit_length, fun _ _ s u r => by
    obtain ⟨t, rfl⟩ := r.int_of
    exact ⟨typeIs_int _ _ _, fun a e => by cases e⟩, fun w hb A X s u vs n O _ ru rv => by
    obtain ⟨t, rfl⟩ := ru.int_of
    simp only [RepL] at rv; subst rv
    exact call_gives F.slot_int_bit_length (typeIs_int _ _ _) F.entry_int_bit_length (F.args_int_bit_length_1 _) (PySem.AutoIntG2.int_bit_length_int_0 _ _) ⟨kTok s _, rep_int⟩⟩
theorem bc_len_str {x : Str} (h : x.length ≤ 2 ^ 24) : BC "len" [.str x] (.int x.length) := fun w hb A X s vs n O _ r => by
  obtain ⟨v, rfl, q⟩ := r.one_of
  obtain ⟨t, rfl⟩ := q.str_of
  exact SBL.len (by exact Int.lt_of_le_of_lt (Int.ofNat_le.mpr h) (by decide)) ⟨kTok s _, rep_int⟩
theorem bc_len_list {l : List D} (h : l.length ≤ 2 ^ 24) : BC "len" [.list l] (.int l.length) := fun w hb A X s vs n O _ r => by
  obtain ⟨v, rfl, q⟩ := r.one_of
  obtain ⟨a, us, rfl, _, hl, rl⟩ := q.list_of
  have e := rl.length
  refine call_len_list hl (by simp; exact Int.lt_of_le_of_lt (Int.ofNat_le.mpr (Nat.le_of_eq e)) (Int.lt_of_le_of_lt (Int.ofNat_le.mpr h) (by decide))) ⟨kTok s _, ?_⟩
  rw [← e]; simpa using rep_int
theorem bc_chr {i : Int} (h0 : 0 ≤ i) (h1 : i ≤ 1114111) : BC "chr" [.int i] (.str ⟨#[i.toNat]⟩) := fun w hb A X s vs n O _ r => by
  obtain ⟨v, rfl, q⟩ := r.one_of
  obtain ⟨t, rfl⟩ := q.int_of
  exact chr_of_range h0 h1 ⟨kTok s _, rep_str⟩
theorem bc_ord {c : Nat} : BC "ord" [.str ⟨#[c]⟩] (.int c) := fun w hb A X s vs n O _ r => by
  obtain ⟨v, rfl, q⟩ := r.one_of
  obtain ⟨t, rfl⟩ := q.str_of
  exact PySem.P.ord_of_char ⟨kTok s _, rep_int⟩
theorem bc_divmod {a b : Int} (hb : 0 < b) (hs : b < 2 ^ 8000) : BC "divmod" [.int a, .int b] (.tup [.int (a / b), .int (a % b)]) := fun w hb' A X s vs n O live r => by
  obtain ⟨v, u, rfl, r1, r2⟩ := r.two_of
  obtain ⟨t, rfl⟩ := r1.int_of
  obtain ⟨t', rfl⟩ := r2.int_of
  have h8 : b.natAbs < 2 ^ 8000 := by
    have : (b.natAbs : Int) < ((2 ^ 8000 : Nat) : Int) := by rw [Int.natAbs_of_nonneg (by exact Int.le_of_lt hb)]; simpa using hs
    exact_mod_cast this
  have hs' : Sm b := by
    unfold Sm
    rw [intBits_le_iff]
    exact Nat.lt_of_lt_of_le h8 (Nat.pow_le_pow_right (by decide) (by decide))
  refine divmod_int (by exact Int.ne_of_gt hb) ⟨kPush s _ _, ?_⟩ (.inl (noPylong hs' h8))
  rw [Int.fdiv_eq_ediv_of_nonneg _ (by exact Int.le_of_lt hb), Int.fmod_eq_emod_of_nonneg _ (by exact Int.le_of_lt hb)]
  simp only [Rep]
  refine ⟨_, [.int (a / b) s.toks, .int (a % b) (s.toks + 1)], rfl, fun x => ?_, ⟨_, Heap.get?_push_size _ rfl, rfl, _, rfl⟩, ?_⟩
  · have := live _ x
    rw [none_of_le (Nat.le_refl _)] at this; cases this
  · simp only [RepL]
    exact ⟨_, _, rfl, rep_int, _, _, rfl, rep_int, rfl⟩
section
variable {kd : Str → Option NameKind}
theorem bindL_other {x : Str} : ∀ (l : List (Str × Value)) (m : Str → Option Value), (∀ p ∈ l, p.1 ≠ x) → bindL kd l m x = m x
  | [], m, _ => rfl
  | (n, v) :: r, m, h => by
    unfold bindL
    rw [bindL_other r _ fun p hp => h p (List.mem_cons_of_mem _ hp)]
    have : x ≠ n := fun e => h (n, v) List.mem_cons_self e.symm
    split
    · simp [this]
    · rfl
theorem bindC_other {x : Str} : ∀ (l : List (Str × Value)) (m : Str → Option Value), (∀ p ∈ l, p.1 ≠ x) → bindC kd l m x = m x
  | [], m, _ => rfl
  | (n, v) :: r, m, h => by
    unfold bindC
    rw [bindC_other r _ fun p hp => h p (List.mem_cons_of_mem _ hp)]
    have : x ≠ n := fun e => h (n, v) List.mem_cons_self e.symm
    split
    · rfl
    · simp [this]
theorem bindL_at {x : Str} {v : Value} (hk : kd x = some .local) : ∀ (ns : List Str) (vs : List Value) (i : Nat) (m : Str → Option Value), ns.Nodup → ns[i]? = some x → vs[i]? = some v → bindL kd (ns.zip vs) m x = some v
  | [], _, i, m, _, h, _ => by simp at h
  | n :: ns, [], i, m, _, _, h => by simp at h
  | n :: ns, u :: vs, 0, m, nd, h, h' => by
    simp at h h'; subst h; subst h'
    show bindL kd (ns.zip vs) (if kd n = some .local then _ else _) n = _
    rw [if_pos hk, bindL_other _ _ fun p hp e => ?_]
    · simp
    · exact (List.nodup_cons.mp nd).1 (e ▸ (List.of_mem_zip hp).1)
  | n :: ns, u :: vs, i + 1, m, nd, h, h' => bindL_at hk ns vs i _ (List.nodup_cons.mp nd).2 (by simpa using h) (by simpa using h')
theorem bindC_at {x : Str} {v : Value} (hk : kd x ≠ some .local) : ∀ (ns : List Str) (vs : List Value) (i : Nat) (m : Str → Option Value), ns.Nodup → ns[i]? = some x → vs[i]? = some v → bindC kd (ns.zip vs) m x = some v
  | [], _, i, m, _, h, _ => by simp at h
  | n :: ns, [], i, m, _, _, h => by simp at h
  | n :: ns, u :: vs, 0, m, nd, h, h' => by
    simp at h h'; subst h; subst h'
    show bindC kd (ns.zip vs) (if kd n = some .local then _ else _) n = _
    rw [if_neg hk, bindC_other _ _ fun p hp e => ?_]
    · simp
    · exact (List.nodup_cons.mp nd).1 (e ▸ (List.of_mem_zip hp).1)
  | n :: ns, u :: vs, i + 1, m, nd, h, h' => bindC_at hk ns vs i _ (List.nodup_cons.mp nd).2 (by simpa using h) (by simpa using h')
end
noncomputable def G0 (ds : List D) (n : Nat) : Ctx := ds.map (fun d => some (V.imm d)) ++ List.replicate n Option.none
theorem has_none {ns : List Str} {n : Nat} {x : Str} {e : V} : ¬ Has ns (List.replicate n Option.none) x e := by
  induction n generalizing ns with
  | zero => intro h; cases h
  | succ n ih => intro h; cases h with | tail h => exact ih h
theorem has_G0 {more : List Str} {n : Nat} {x : Str} {e : V} : ∀ {names : List Str} {ds : List D}, names.length = ds.length → Has (names ++ more) (G0 ds n) x e → ∃ (i : Nat) (d : D), e = .imm d ∧ names[i]? = some x ∧ ds[i]? = some d
  | [], [], _, h => absurd h has_none
  | m :: names, d :: ds, l, h => by
    cases h with
    | head => exact ⟨0, d, rfl, rfl, rfl⟩
    | tail h =>
      obtain ⟨i, d', a, b, c⟩ := has_G0 (by simpa using l) h
      exact ⟨i + 1, d', a, by simpa using b, by simpa using c⟩
  | [], _ :: _, l, _ => by simp at l
  | _ :: _, [], l, _ => by simp at l
theorem fc_of_body {f : Str} {k : Nat} {ds : List D} {d : D} {ps : Arguments} {b : List Stmt} {sc : Scope} {c : SC} {more : List Str} (hdef : pw.theDef f = some (ps, b, sc)) (hc : c.sc = sc) (ok : c.ok = true)
    (hns : c.ns = ps.args.map (·.arg) ++ more) (hlen : (ps.args.map (·.arg)).length = ds.length) (hnolim : ∀ w h, Base w h → h.NoLimit)
    (hbind : ∀ pm cd doc (vs : List Value), vs.length = ds.length → bindArgs (docDef f ps b sc pm cd doc) ⟨vs, []⟩ = pure ((ps.args.map (·.arg)).zip vs))
    (hco : sc.isCoroutine = false) (hgen : sc.isGenerator = false) (h : EX c k (G0 ds more.length) b (.ret d)) : FC f (k + 1) ds d := fun w hb A X s vs a O g fr fn rl => by
  obtain ⟨o, pm, cd, doc, ps', b', sc', h1, h2, h3, h4⟩ := fn
  rw [hdef] at h1; cases h1
  subst hc
  have nd : (ps.args.map (·.arg)).Nodup := by have := SC.ok_nodup ok; rw [hns] at this; exact (List.nodup_append.mp this).1
  have kf : c.sc.kind = .function := by
    have := ok
    simp only [SC.ok, Bool.and_eq_true, beq_iff_eq] at this
    exact this.1.1.1
  have kinds : ∀ x ∈ ps.args.map (·.arg), c.sc.names.lookup x = some .local ∨ c.sc.names.lookup x = some .cell := fun x hx => (SC.ok_var ok (by rw [hns]; exact List.mem_append_left _ hx)).1
  refine wpAny_call (codeAny_call_cells (body := b) (binds := (ps.args.map (·.arg)).zip vs) (by have := O.depth; exact Nat.lt_of_le_of_lt (Nat.le_add_right _ _) this) (g _ _ h2) h3 ((hnolim w hb O.base).keeps g) (h4.keeps g) rfl (hbind pm cd doc vs rl.length) rfl (fun x hx => ?_) (fun s1 I => ?_) hco hgen kf)
  · rcases kinds x.1 (List.of_mem_zip hx).1 with q | q
    · exact .inl q
    · exact .inr ⟨q, cellsFrom_some _ _ _ (.inl q)⟩
  generalize hfd : docDef f ps b c.sc pm cd doc = fd at I h3
  have es : (callEnvC fd s.heap.objs.size a).scope = c.sc := by subst hfd; rfl
  have eg : (callEnvC fd s.heap.objs.size a).globals = mainGlobals := by subst hfd; rfl
  have eb : (callEnvC fd s.heap.objs.size a).builtins = builtinsNs := by subst hfd; rfl
  have el : (callEnvC fd s.heap.objs.size a).locals = s.heap.objs.size := rfl
  have ec : (callEnvC fd s.heap.objs.size a).cells = cellsFrom (s.heap.objs.size + 1) c.sc.names [] := by subst hfd; rfl
  generalize hE : callEnvC fd s.heap.objs.size a = env at I es eg eb el ec
  obtain ⟨H1, T1, rfl⟩ := I.toInCall.same
  have keep : Grow s.heap H1 := I.toInCall.keep
  have nl : s.heap.get? env.locals = Option.none := by rw [el]; exact none_of_le (Nat.le_refl _)
  have nc : ∀ x b, env.cells.lookup x = some b → s.heap.get? b = Option.none := fun x b e => by
    have hgt := I.above x b (mem_of_lookup e)
    rw [el] at hgt
    exact none_of_le (Nat.le_of_lt hgt)
  have nX : ∀ b, s.heap.get? b = Option.none → ¬ X b := fun b e x => by have := (fr b x).1; rw [e] at this; cases this
  have nb : ∀ b, s.heap.get? b = Option.none → hb.get? b = Option.none := fun b e => by
    cases q : hb.get? b with
    | none => rfl
    | some o => rw [g _ o q] at e; cases e
  have ko : ∀ x, env.kindOf x = c.sc.names.lookup x := fun x => by show env.scope.names.lookup x = _; rw [es]
  let X' : Addr → Prop := fun b => X b ∨ b = env.locals ∨ ∃ x, env.cells.lookup x = some b
  have X'old : ∀ b, (s.heap.get? b).isSome = true → X' b → X b := fun b hb x => by
    rcases x with x | rfl | ⟨x, hx⟩
    · exact x
    · rw [nl] at hb; cases hb
    · rw [nc x b hx] at hb; cases hb
  have F : FS c w hb X X' env H1 (G0 ds more.length) := by
    refine ⟨es, ok, eg, eb, g.trans keep, fun b x => .inl x, fun b x => ?_, ⟨⟨.inr (.inl rfl), nX _ nl⟩, _, I.toInCall.ns⟩, fun x b e => ⟨⟨.inr (.inr ⟨x, e⟩), nX _ (nc x b e)⟩, _, I.cell x b e⟩, I.apart, fun x e => ?_, fun x e q => ?_, fun x y l m v ne p q => ?_, fun x d b p q => ?_⟩
    · rcases x with x | rfl | ⟨x, hx⟩
      · obtain ⟨o, ho⟩ := Option.isSome_iff_exists.mp (fr b x).1
        exact ⟨by rw [keep b o ho]; rfl, (fr b x).2⟩
      · exact ⟨by obtain ⟨o, _, _, e, _⟩ := I.toInCall.ns; rw [e]; rfl, nb _ nl⟩
      · exact ⟨by obtain ⟨o, e, _⟩ := I.cell x b hx; rw [e]; rfl, nb _ (nc x b hx)⟩
    · rw [ec]; exact cellsFrom_some _ _ _ (.inl e)
    · rw [hns] at q
      obtain ⟨i, d', rfl, hx, hd⟩ := has_G0 hlen q
      obtain ⟨v, hv, rv⟩ := rl.at i hd
      refine ⟨v, ?_, ?_⟩
      · rcases kinds x (List.mem_of_getElem? hx) with kx | kx
        · exact .inl ⟨(ko x).trans kx, _, I.toInCall.ns, bindL_at ((ko x).trans kx) _ _ i _ nd hx hv⟩
        · have kx' := (ko x).trans kx
          obtain ⟨b, hb'⟩ := Option.isSome_iff_exists.mp (show (env.cells.lookup x).isSome = true by rw [ec]; exact cellsFrom_some _ _ _ (.inl kx))
          refine .inr ⟨kx', b, hb', ?_⟩
          have := I.cell x b hb'
          rw [bindC_at (by rw [kx']; decide) _ _ i _ nd hx hv] at this
          exact this
      · exact Rep.pres keep.pres d' v (Rep.weak X'old d' v rv)
    · rw [hns] at p
      obtain ⟨_, _, e, _⟩ := has_G0 hlen p
      cases e
    · rw [hns] at p
      obtain ⟨_, _, e, _⟩ := has_G0 hlen p
      cases e
  have O' : Ok w hb (A.deeper env) k := ⟨O.handled, by have := O.depth; show A.depth + 1 + k < _; lia, by have := O.units; show A.units + 3 + 10 * k + 100 < _; lia, O.base⟩
  refine wpAny_mono (h w hb (A.deeper env) X X' env _ O' F) (fun fl s' u => ?_) fun _ _ x => x.elim
  obtain ⟨h', tk, rfl, pr, v, rfl, r⟩ := u
  refine ⟨⟨h', tk, rfl, fun b o e => pr b o (fun q => ?_) (keep b o e)⟩, r⟩
  exact q.2 (X'old b (by rw [e]; rfl) q.1)
section
variable {c : SC} {k : Nat} {G G1 G2 : Ctx}
noncomputable def EVX (c : SC) (k : Nat) (G : Ctx) (e : Expr) (v : V) : Prop :=
  ∀ (w : World) (hb : Heap) (A : Around) (X₀ X : Addr → Prop) (env : Env) (s : Shared), Ok w hb A k → FS c w hb X₀ X env s.heap G →
    wpAny (model pw w) A (eval e env) (fun u s' => Keeps s s' ∧ match v with
      | .imm d => Rep w X s'.heap d u
      | .own d => ∃ a, u = .ref a ∧ s.heap.get? a = Option.none ∧ Held w (fun b => X b ∨ b = a) s'.heap d a) (fun _ _ => False) s
theorem evx_imm {e : Expr} {d : D} (h : EV c k G e d) : EVX c k G e (.imm d) := h
theorem evx_new {e : Expr} {ds : List D} (h : EVN c k G e ds) : EVX c k G e (.own (.list ds)) := fun w hb A X₀ X env s O F =>
  wpAny_mono (h w hb A X₀ X env s O F) (fun u s' ⟨k1, a, vs, e, n, pl, rl⟩ => ⟨k1, a, e, n, vs, pl, rl⟩) fun _ _ x => x
noncomputable def NewVs (w : World) (X₀ X : Addr → Prop) (h0 h : Heap) (ps : List (V × Value)) : Prop :=
  (∀ p ∈ ps, RepV w X₀ X h p.1 p.2 ∧ ∀ d, p.1 = .own d → ∃ a, p.2 = .ref a ∧ h0.get? a = Option.none ∧ (h.get? a).isSome = true) ∧ ps.Pairwise fun p q => ∀ d e, p.1 = .own d → q.1 = .own e → p.2 ≠ q.2
noncomputable def EVXS (c : SC) (k : Nat) (G : Ctx) (es : List Expr) (vs : List V) : Prop :=
  ∀ (w : World) (hb : Heap) (A : Around) (X₀ X : Addr → Prop) (env : Env) (s : Shared) (pos : Pos), Ok w hb A k → FS c w hb X₀ X env s.heap G →
    wpAny (model pw w) A (spliced (backTo pos (starEach es env))) (fun us s' => Keeps s s' ∧ ∃ X' ps, (∀ b, X b → X' b) ∧ (∀ b, X' b → X b ∨ s.heap.get? b = Option.none) ∧ FS c w hb X₀ X' env s'.heap G ∧ NewVs w X₀ X' s.heap s'.heap ps ∧ ps.map (·.1) = vs ∧ ps.map (·.2) = us) (fun _ _ => False) s
theorem evxs_nil : EVXS c k G [] [] := fun w hb A X₀ X env s pos O F => wpAny_items_nil ⟨kR s, X, [], fun _ x => x, fun _ x => .inl x, F, ⟨fun _ x => (by cases x), List.Pairwise.nil⟩, rfl, rfl⟩
theorem evxs_cons {e : Expr} {es : List Expr} {v : V} {vs : List V} (h : EVX c k G e v) (hs : EVXS c k G es vs) (he : ∀ env, starEach (e :: es) env = (false, eval e env) :: starEach es env := by intro _; rfl) : EVXS c k G (e :: es) (v :: vs) :=
  fun w hb A X₀ X env s pos O F => wpAny_items_cons (wpAny_mono (h w hb A X₀ X env s O F) (fun u s₁ ⟨k1, r1⟩ => by
    have g1 := kH k1
    cases v with
    | imm d =>
      refine wpAny_mono (hs w hb A X₀ X env s₁ pos O (F.grow g1)) (fun us s₂ zp => ?_) fun _ _ x => x
      obtain ⟨k2, X', ps, x0, x1, F2, n, e1, e2⟩ := zp
      refine ⟨kT k1 k2, X', (.imm d, u) :: ps, x0, fun b x => (x1 b x).imp id fun q => ?_, F2, ⟨fun p m => ?_, List.pairwise_cons.mpr ⟨fun q _ _ _ e => (by cases e), n.2⟩⟩, by simp [e1], by simp [e2]⟩
      · cases z : s.heap.get? b with
        | none => rfl
        | some o => rw [g1 b o z] at q; cases q
      · rcases List.mem_cons.mp m with rfl | m
        · refine ⟨Rep.pres (kH k2).pres _ _ (Rep.weak (fun b hb' x => (x1 b x).elim id fun q => by rw [q] at hb'; cases hb') _ _ r1), fun _ e => by cases e⟩
        · obtain ⟨a, b⟩ := n.1 p m
          refine ⟨a, fun d e => ?_⟩
          obtain ⟨ad, e3, q, z⟩ := b d e
          refine ⟨ad, e3, ?_, z⟩
          cases z : s.heap.get? ad with
          | none => rfl
          | some o => rw [g1 ad o z] at q; cases q
    | own d =>
      obtain ⟨a, rfl, na, hd⟩ := r1
      have F1 := F.take g1 na hd.some
      refine wpAny_mono (hs w hb A X₀ _ env s₁ pos O F1) (fun us s₂ zp => ?_) fun _ _ x => x
      obtain ⟨k2, X', ps, x0, x1, F2, n, e1, e2⟩ := zp
      have g2 := kH k2
      have old : ∀ b, s₁.heap.get? b = Option.none → s.heap.get? b = Option.none := fun b q => by
        cases z : s.heap.get? b with
        | none => rfl
        | some o => rw [g1 b o z] at q; cases q
      refine ⟨kT k1 k2, X', (.own d, .ref a) :: ps, fun b x => x0 b (.inl x), fun b x => ?_, F2, ⟨fun p m => ?_, List.pairwise_cons.mpr ⟨fun p m d1 d2 _ e e' => ?_, n.2⟩⟩, by simp [e1], by simp [e2]⟩
      · rcases x1 b x with (x | rfl) | x
        · exact .inl x
        · exact .inr na
        · exact .inr (old b x)
      · rcases List.mem_cons.mp m with rfl | m
        · have s2 : (s₂.heap.get? a).isSome = true := by obtain ⟨o, ho⟩ := Option.isSome_iff_exists.mp hd.some; rw [g2 a o ho]; rfl
          refine ⟨⟨a, rfl, ?_, fun x => F.notX na (F.sub a x), ?_⟩, fun d' e => ⟨a, rfl, na, s2⟩⟩
          · exact x0 a (.inr rfl)
          · exact (hd.weak fun b hb' x => (x1 b x).elim id fun q => by rw [q] at hb'; cases hb').pres g2.pres fun o e => g2 _ _ e
        · obtain ⟨r, b⟩ := n.1 p m
          refine ⟨r, fun d e => ?_⟩
          obtain ⟨ad, e3, q, z⟩ := b d e
          exact ⟨ad, e3, old ad q, z⟩
      · obtain ⟨ad, e3, q, z⟩ := (n.1 p m).2 d2 e
        dsimp only at e'
        rw [e3] at e'; cases e'
        have := hd.some; rw [q] at this; cases this) fun _ _ x => x.elim) (he env)
inductive PUTS (ns : List Str) : Ctx → List Str → List V → Ctx → Prop
  | nil {G : Ctx} : PUTS ns G [] [] G
  | cons {G G1 G2 : Ctx} {x : Str} {xs : List Str} {v : V} {vs : List V} : Put ns G x v G1 → PUTS ns G1 xs vs G2 → PUTS ns G (x :: xs) (v :: vs) G2
theorem store_all {w : World} {hb : Heap} {A : Around} {X₀ X : Addr → Prop} {env : Env} (O : Ok w hb A k) : ∀ {xs : List Str} {ps : List (V × Value)} {G G2 : Ctx} (s : Shared), PUTS c.ns G xs (ps.map (·.1)) G2 → FS c w hb X₀ X env s.heap G →
    (∀ p ∈ ps, RepV w X₀ X s.heap p.1 p.2 ∧ ∀ d, p.1 = .own d → (∀ a, p.2 = .ref a → a ≠ env.locals) ∧ ∀ y m, Has c.ns G y (.own m) → ¬ VarIs env s.heap y p.2) → ps.Pairwise (fun p q => ∀ d e, p.1 = .own d → q.1 = .own e → p.2 ≠ q.2) →
    wpAny (model pw w) A (assignInOrder (xs.map fun n => bindName env n) (ps.map (·.2))) (fun _ s' => ∃ h' tk, s' = { s with heap := h', toks := tk } ∧ Pres (Mu X X₀) s.heap h' ∧ FS c w hb X₀ X env h' G2) (fun _ _ => False) s
  | [], [], _, _, s, P, F, _, _ => by
    cases P
    show wpAny _ A (assignInOrder [] []) _ _ s
    unfold assignInOrder
    exact wpAny_pure ⟨_, _, rfl, fun _ _ _ e => e, F⟩
  | [], _ :: _, _, _, s, P, F, _, _ => by cases P
  | _ :: _, [], _, _, s, P, F, _, _ => by cases P
  | x :: xs, p :: ps, G, G2, s, P, F, hp, pw' => by
    obtain ⟨v, u⟩ := p
    cases P with
    | cons p1 P1 =>
    show wpAny _ A (assignInOrder (bindName env x :: _) (u :: _)) _ _ s
    unfold assignInOrder
    obtain ⟨r0, o0⟩ := hp _ (List.mem_cons_self ..)
    refine wpAny_bind (wpAny_holding (wpAny_bindName (wp_store F p1 r0 o0 fun h' tk F' pr vx vy kp => ?_)))
    have w2 := List.pairwise_cons.mp pw'
    refine wpAny_mono (store_all O { s with heap := h', toks := tk } P1 F' (fun q m => ?_) w2.2) (fun _ s'' ⟨h2, t2, e2, p2, F2⟩ => ⟨h2, t2, by rw [e2], pres_trans pr (fun _ x => .inl x) p2, F2⟩) fun _ _ x => x
    obtain ⟨rq, oq⟩ := hp q (List.mem_cons_of_mem _ m)
    refine ⟨?_, fun d e => ⟨(oq d e).1, fun y m' hy vq => ?_⟩⟩
    · obtain ⟨qv, qu⟩ := q
      cases qv with
      | imm d => exact Rep.pres pr.mu d qu rq
      | own d =>
        obtain ⟨a, e, xa, x0, r⟩ := rq
        refine ⟨a, e, xa, x0, r.pres pr.mu fun o eo => kp a o ((oq d rfl).1 a e) (fun y ey => ?_) eo⟩
        exact r.not_cell (F.cells y a ey).2.choose_spec rfl
    · rcases Has.of_put p1 (SC.ok_nodup F.ok) hy with ⟨e1, e2⟩ | ⟨ne, hh⟩
      · subst e1
        have := VarIs.uniq vq vx
        exact w2.1 q m m' d e2.symm e this.symm
      · obtain ⟨u', vu, _⟩ := F.var y _ hh
        have := VarIs.uniq vq (vy y u' ne vu); subst this
        exact (oq d e).2 y m' hh vu
theorem es_assign_swap {ts es : List Expr} {n m : Nat} {tp ep pos : Pos} {xs : List Str} {vs : List V} (h : EVXS c k G es vs) (P : PUTS c.ns G xs.reverse vs.reverse G2) (hl : vs.length ≤ 2 ^ 24) (hx : xs.length = vs.length)
    (hw : ∀ env, env.scope = c.sc → swappedStores [.Tuple ts n tp] (.Tuple es m ep) env = pure (some xs)) : ES c k G (.Assign [.Tuple ts n tp] (.Tuple es m ep) pos) (.next G2) := fun w hb A X₀ X env s O F =>
  Assign_Tuple_swapped (names := xs) (wpAny_Tuple (wpAny_mono (h w hb A X₀ X env s ep O F) (fun us s₁ ⟨k1, X', ps, x0, x1, F1, nv, e1, e2⟩ => ⟨by rw [← e2, List.length_map, ← List.length_map (f := (·.1)), e1]; exact hl, by
    have gp : Grow s₁.heap (s₁.heap.push { cls := .type "tuple", data := .seq us.toArray }) := fun _ _ e => Heap.get?_push_of_some _ e
    rw [show xs.length = us.toArray.size by rw [hx, ← e1, ← e2]; simp]
    refine wpAny_mono (wpAny_unpackItems_tuple (items := us.toArray) O.handled ⟨_, Heap.get?_push_size _ rfl, rfl, _, rfl⟩ (Q := fun us' s' => us' = us ∧ ∃ h', s' = { s₁ with heap := h' } ∧ Grow s₁.heap h') fun h' ex => ⟨by simp, h', rfl, fun b o e => ?_⟩) (fun us' s' ⟨e3, h', e4, g'⟩ => ?_) fun _ _ x => x
    · exact ex b o (Nat.ne_of_lt (Heap.lt_size (gp b o e))) (gp b o e)
    · subst e3; subst e4
      have F2 := F1.grow g'
      have old : ∀ b, s₁.heap.get? b = Option.none → s.heap.get? b = Option.none := fun b q => by
        cases z : s.heap.get? b with
        | none => rfl
        | some o => rw [kH k1 b o z] at q; cases q
      have := store_all O (xs := xs.reverse) (ps := ps.reverse) (G2 := G2) { s₁ with heap := h' } (by rw [List.map_reverse, e1]; exact P) F2 (fun p m => ?_) (List.pairwise_reverse.mpr (nv.2.imp fun {a b} q d e x y z => q e d y x z.symm))
      · rw [show ps.reverse.map (·.2) = us'.reverse by rw [List.map_reverse, e2]] at this
        refine wpAny_mono this (fun _ s3 zp => ?_) fun _ _ x => x
        obtain ⟨h3, t3, e3, p3, F3⟩ := zp
        obtain ⟨h1, t1, rfl, g1⟩ := k1
        refine ⟨h3, t3, by rw [e3], pres_trans (Grow.pres (fun b o e => g' b o (g1 b o e))) (mu_old x1) p3, rfl, X', x1, F3⟩
      · obtain ⟨r, b⟩ := nv.1 p (List.mem_reverse.mp m)
        refine ⟨r.grow g', fun d e => ?_⟩
        obtain ⟨ad, e3, q, z⟩ := b d e
        refine ⟨fun a e4 => ?_, fun y m' hy vy => ?_⟩
        · rw [e3] at e4; cases e4
          intro e5; subst e5
          obtain ⟨mm, nl⟩ := F.loc.2
          obtain ⟨o, _, _, e', _⟩ := nl
          rw [q] at e'; cases e'
        · obtain ⟨u', vu, a', e5, _, _, hd⟩ := F.var y _ hy
          have := VarIs.uniq vy ((vu.grow (kH k1)).grow g'); rw [e3, e5] at this; cases this
          have := hd.some; rw [q] at this; cases this⟩) fun _ _ x => x.elim)) (by rfl) (hw env F.sc)
end
section
variable {c : SC} {k : Nat} {G G1 G2 : Ctx}
theorem FS.change {w : World} {hb : Heap} {X₀ X : Addr → Prop} {env : Env} {h h' : Heap} {x : Str} {d d' : D} {a : Addr} {G' : Ctx} (F : FS c w hb X₀ X env h G) (hx : Has c.ns G x (.own d)) (vx : VarIs env h x (.ref a)) (q : Put c.ns G x (.own d') G')
    (hs : Heap.SameBut a h h') (hd : Held w X h' d' a) : FS c w hb X₀ X env h' G' := by
  have nd := SC.ok_nodup F.ok
  obtain ⟨u, vu, a', e, xa, x0, r⟩ := F.var x _ hx
  have := VarIs.uniq vx vu; subst this; cases e
  have nl := F.off x d a hx vx
  have nc := fun y b => F.nocell (y := y) (b := b) hx vx
  obtain ⟨xl, m, n⟩ := F.loc
  have n' : h'.Ns env.locals m := n.sameBut hs (Ne.symm nl)
  have vy : ∀ y u, VarIs env h y u → VarIs env h' y u := fun y u vy => by
    rcases vy with ⟨ky, m', n1, e1⟩ | ⟨ky, b, l, cl⟩
    · exact .inl ⟨ky, m, n', by rw [ns_fun n n1]; exact e1⟩
    · exact .inr ⟨ky, b, l, cl.sameBut hs (Ne.symm (nc y b l))⟩
  have pr : Pres X h h' := fun b o nx e => by rw [hs.2 b (fun q => nx (q ▸ xa))]; exact e
  have back : ∀ t u e, Has c.ns G t e → VarIs env h' t u → VarIs env h t u := fun t u e ht vt => by
    obtain ⟨u', a', _⟩ := F.var t _ ht
    have := VarIs.uniq vt (vy t u' a'); subst this; exact a'
  refine ⟨F.sc, F.ok, F.gl, F.bl, fun b o eb => ?_, F.sub, fun b xb => ⟨?_, (F.fresh b xb).2⟩, ⟨xl, m, n'⟩, fun y b e => ⟨(F.cells y b e).1, let ⟨v, cl⟩ := (F.cells y b e).2; ⟨v, cl.sameBut hs (Ne.symm (nc y b e))⟩⟩, F.apart, F.celled, fun y e hy => ?_, fun y z l m u ne p1 p2 v1 v2 => ?_, fun y dy b hy vb => ?_⟩
  · have : b ≠ a := fun q => by have := (F.fresh a xa).2; rw [← q, eb] at this; cases this
    rw [hs.2 b this]; exact F.base b o eb
  · by_cases hb' : b = a
    · rw [hb']; exact hd.some
    · rw [hs.2 b hb']; exact (F.fresh b xb).1
  · rcases Has.of_put q nd hy with ⟨rfl, rfl⟩ | ⟨ne, hh⟩
    · exact ⟨_, vy _ _ vx, a, rfl, xa, x0, hd⟩
    · obtain ⟨u', vu', ru⟩ := F.var y e hh
      refine ⟨u', vy _ _ vu', ?_⟩
      cases e with
      | imm dd => exact Rep.pres pr dd u' ru
      | own dd =>
        obtain ⟨b, e, xb, b0, rb⟩ := ru
        refine ⟨b, e, xb, b0, rb.pres pr fun o eo => ?_⟩
        have : b ≠ a := fun q => by
          subst q; subst e
          exact F.owned y x _ _ _ ne hh hx vu' vx
        rw [hs.2 b this]; exact eo
  · have g1 : ∃ l', Has c.ns G y (.own l') := by
      rcases Has.of_put q nd p1 with ⟨e1, _⟩ | ⟨_, h1⟩
      · exact ⟨d, e1 ▸ hx⟩
      · exact ⟨l, h1⟩
    have g2 : ∃ l', Has c.ns G z (.own l') := by
      rcases Has.of_put q nd p2 with ⟨e1, _⟩ | ⟨_, h1⟩
      · exact ⟨d, e1 ▸ hx⟩
      · exact ⟨m, h1⟩
    obtain ⟨l1, h1⟩ := g1; obtain ⟨l2, h2⟩ := g2
    exact F.owned y z l1 l2 u ne h1 h2 (back y u _ h1 v1) (back z u _ h2 v2)
  · rcases Has.of_put q nd hy with ⟨e1, _⟩ | ⟨_, h1⟩
    · subst e1
      have := VarIs.uniq vb (vy _ _ vx); cases this
      exact nl
    · exact F.off y dy b h1 (back y _ _ h1 vb)
theorem SC.ok_inter {w : World} {hb : Heap} {X₀ X : Addr → Prop} {env : Env} {h : Heap} (F : FS c w hb X₀ X env h G) : interactive env = false := by
  unfold interactive; rw [SC.ok_kind F]; rfl
structure MO (name : Str) (T id : String) (d : D) (ds : List D) (d' : D) : Prop where
  pa : PlainAttrs T
  sl : Slot T name id
  ty : typeOf (.builtin id) = pure (.type "method_descriptor")
  is : ∀ (w : World) (X : Addr → Prop) (s : Shared) (a : Addr), Held w X s.heap d a → s.TypeIs (.ref a) T ∧ ∃ ob, s.heap.get? a = some ob ∧ ob.dict = Option.none
  call : ∀ (w : World) (hb : Heap) (A : Around) (X : Addr → Prop) (s : Shared) (a : Addr) (vs : List Value) (n : Nat), Ok w hb A n → X a → Held w X s.heap d a → RepL w X s.heap ds vs →
    wpAny (model pw w) A (PySem.call (.builtin id) (.ref a :: vs)) (fun v s' => v = .none ∧ ∃ h' tk, s' = { s with heap := h', toks := tk } ∧ Heap.SameBut a s.heap h' ∧ Held w X h' d' a) (fun _ _ => False) s
theorem es_mut {x name : Str} {p apos pos pos' : Pos} {args : List Expr} {T id : String} {d d' : D} {ds : List D} {G' : Ctx} (hx : Has c.ns G x (.own d)) (ha : EVS c k G args ds) (hm : MO name T id d ds d') (q : Put c.ns G x (.own d') G') (hp : Plain args := by intro _ _; rfl)
    (hbase : ∀ env, attributeBase (.Name x p) name env (eval (.Name x p) env) = eval (.Name x p) env := by intro _; rfl) (hlen : args.length < 30 := by decide) (hline : (apos.endLine == pos.line) = true := by rfl)
    (hsw : ∀ env, swapsWith (.Call (.Attribute (.Name x p) name apos) args [] pos) Option.none pos'.line env = pure false := by intro _; rfl) :
    ES c k G (.Expr (.Call (.Attribute (.Name x p) name apos) args [] pos) pos') (.next G') := fun w hb A X₀ X env s O F => by
  obtain ⟨v, vx, a, rfl, xa, x0, r⟩ := F.var x _ hx
  refine wpAny_Expr ?_ (SC.ok_inter F) (hsw env)
  refine wpAny_Call_method_late (hbase env) ?_ hline rfl (wp_var F hx.mem vx ?_)
  · rw [hp env pos]; simp [backToKw, keywordEach]; omega
  · obtain ⟨t1, ob, t2, t3⟩ := hm.is w X s a r
    refine ⟨T, id, hm.pa, hm.sl, hm.ty, t1, fun b e => by cases e; exact ⟨ob, t2, t3⟩, ?_⟩
    refine callWith_builtin (any_of_all (hp env pos)) (evalArgs_all (hp env pos) (wpAny_mono (ha w hb A X₀ X env s pos O F) (fun vs s₂ zp => ?_) fun _ _ x => x))
    obtain ⟨k2, r2⟩ := zp
    have g2 := kH k2
    have F2 := F.grow g2
    refine wpAny_mono (hm.call w hb A X s₂ a vs k O xa (r.pres g2.pres fun o e => g2 _ _ e) r2) (fun v s₃ zp => ?_) fun _ _ x => x
    obtain ⟨e1, h', tk, e2, hs, hd⟩ := zp
    subst e1; subst e2
    obtain ⟨h1, t1, rfl, g1⟩ := k2
    refine ⟨h', tk, rfl, fun b o nx e => ?_, rfl, X, fun _ x => .inl x, F2.change hx (vx.grow g2) q hs hd⟩
    rw [hs.2 b (fun q => nx (q ▸ ⟨xa, x0⟩))]; exact g1 b o e
end
theorem held_list_is {w : World} {X : Addr → Prop} {s : Shared} {a : Addr} {l : List D} (r : Held w X s.heap (.list l) a) : s.TypeIs (.ref a) "list" ∧ ∃ ob, s.heap.get? a = some ob ∧ ob.dict = Option.none := by
  obtain ⟨vs, ⟨n, e⟩, _⟩ := r
  exact ⟨(plain_list ⟨n, e⟩).typeIs, _, e, rfl⟩
theorem held_update {w : World} {X : Addr → Prop} {h : Heap} {a : Addr} {us : List Value} {m : Nat} {l' : List D} {vs : List Value} {f : Array Value → Array Value} (xa : X a) (e : h.get? a = some { cls := .type "list", data := .seq us.toArray m }) (hf : f us.toArray = vs.toArray)
    (r : RepL w X h l' vs) : Held w X (h.update a (Obj.mapSeq f)) (.list l') a := by
  refine ⟨vs, ⟨_, by rw [← hf]; exact IsL.update (n := m) e f⟩, RepL.pres (fun b o nx eo => ?_) _ _ r⟩
  rw [(Heap.SameBut.update h a _).2 b (fun q => nx (q ▸ xa))]; exact eo
theorem RepL.rev {w : World} {X : Addr → Prop} {h : Heap} : ∀ {l : List D} {us : List Value}, RepL w X h l us → RepL w X h l.reverse us.reverse
  | [], us, r => by simp only [RepL] at r; subst r; exact RepL.nil
  | d :: l, us, r => by
    simp only [RepL] at r
    obtain ⟨v, vs, rfl, rd, rl⟩ := r
    rw [List.reverse_cons, List.reverse_cons]
    exact RepL.append (RepL.rev rl) (RepL.one rd)
theorem RepL.del {w : World} {X : Addr → Prop} {h : Heap} : ∀ {l : List D} {us : List Value} (i : Nat), RepL w X h l us → RepL w X h (l.eraseIdx i) (us.eraseIdx i)
  | [], us, i, r => by simp only [RepL] at r; subst r; exact RepL.nil
  | d :: l, us, i, r => by
    simp only [RepL] at r
    obtain ⟨v, vs, rfl, rd, rl⟩ := r
    cases i with
    | zero => exact rl
    | succ i => simp only [List.eraseIdx_cons_succ, RepL]; exact ⟨v, _, rfl, rd, RepL.del i rl⟩
theorem RepL.put {w : World} {X : Addr → Prop} {h : Heap} {d : D} {v : Value} (rv : Rep w X h d v) : ∀ {l : List D} {us : List Value} (i : Nat), RepL w X h l us → RepL w X h (l.set i d) (us.set i v)
  | [], us, i, r => by simp only [RepL] at r; subst r; exact RepL.nil
  | e :: l, us, i, r => by
    simp only [RepL] at r
    obtain ⟨u, vs, rfl, rd, rl⟩ := r
    cases i with
    | zero => simp only [List.set_cons_zero, RepL]; exact ⟨v, _, rfl, rv, rl⟩
    | succ i => simp only [List.set_cons_succ, RepL]; exact ⟨u, _, rfl, rd, RepL.put rv i rl⟩
theorem mo_append {l : List D} {d : D} (hl : l.length ≤ 2 ^ 24) : MO "append" "list" "list.append" (.list l) [d] (.list (l ++ [d])) :=
  ⟨F.plainAttrs_list, F.slot_list_append, F.type_list_append, fun w X s a r => held_list_is r, fun w hb A X s a vs n O xa r rv => by
    obtain ⟨v, rfl, rd⟩ := rv.one_of
    obtain ⟨us, ⟨m, e⟩, rl⟩ := id r
    exact call_meets F.slot_list_append (held_list_is r).1 F.entry_list_append (F.args_list_append_2 _ _) (PySem.AutoListH.list_append_list_val_0 a us.toArray m v (by rw [List.size_toArray, rl.length]; exact hl)) ⟨e, rfl, _, _, rfl, Heap.SameBut.update .., held_update xa e (vs := us ++ [v]) (by simp) (RepL.append rl (RepL.one rd))⟩⟩
theorem mo_insert {l : List D} {d : D} (hl : l.length ≤ 2 ^ 24) : MO "insert" "list" "list.insert" (.list l) [.int 0, d] (.list (d :: l)) :=
  ⟨F.plainAttrs_list, F.slot_list_insert, F.type_list_insert, fun w X s a r => held_list_is r, fun w hb A X s a vs n O xa r rv => by
    obtain ⟨v, u, rfl, r0, rd⟩ := rv.two_of
    obtain ⟨t, rfl⟩ := r0.int_of
    obtain ⟨us, ⟨m, e⟩, rl⟩ := id r
    exact call_meets F.slot_list_insert (held_list_is r).1 F.entry_list_insert (F.args_list_insert_3 _ _ _) (PySem.AutoListH.list_insert_list_int_val_1 a us.toArray m 0 t u (by decide) (by rw [List.size_toArray, rl.length]; exact hl)) ⟨e, rfl, _, _, rfl, Heap.SameBut.update .., held_update xa e (vs := u :: us) (by simp) (by simp only [RepL]; exact ⟨u, us, rfl, rd, rl⟩)⟩⟩
theorem mo_reverse {l : List D} (hl : l.length ≤ 2 ^ 24) : MO "reverse" "list" "list.reverse" (.list l) [] (.list l.reverse) :=
  ⟨F.plainAttrs_list, F.slot_list_reverse, F.type_list_reverse, fun w X s a r => held_list_is r, fun w hb A X s a vs n O xa r rv => by
    simp only [RepL] at rv; subst rv
    obtain ⟨us, ⟨m, e⟩, rl⟩ := id r
    exact call_meets F.slot_list_reverse (held_list_is r).1 F.entry_list_reverse (F.args_list_reverse_1 _) (PySem.AutoListH.list_reverse_list_0 a us.toArray m (by rw [List.size_toArray, rl.length]; exact hl)) ⟨e, rfl, _, _, rfl, Heap.SameBut.update .., held_update xa e (vs := us.reverse) (by simp) (RepL.rev rl)⟩⟩
section
variable {c : SC} {k : Nat} {G G1 G2 : Ctx}
noncomputable def BI (op : Operator) (d e r : D) : Prop := ∀ (w : World) (hb : Heap) (A : Around) (X : Addr → Prop) (s : Shared) (u v : Value) (n : Nat), Ok w hb A n → (∀ a, X a → (s.heap.get? a).isSome = true) → Rep w X s.heap d u → Rep w X s.heap e v →
    wpAny (model pw w) A (inplaceOp op u v) (fun v s' => Keeps s s' ∧ Rep w X s'.heap r v) (fun _ _ => False) s
theorem bi_add {a b : Int} : BI .Add (.int a) (.int b) (.int (a + b)) := fun w hb A X s u v n O _ ru rv => by
  obtain ⟨t, rfl⟩ := ru.int_of; obtain ⟨t', rfl⟩ := rv.int_of
  exact PySem.AutoIntOps.iadd_0 ⟨kTok s _, rep_int⟩
theorem wp_load {w : World} {hb : Heap} {X₀ X : Addr → Prop} {A : Around} {env : Env} {s : Shared} {x : Str} {v : Value} {Q : Value → Shared → Prop} {E : Value → Shared → Prop} (F : FS c w hb X₀ X env s.heap G)
    (q : VarIs env s.heap x v) (h : Q v s) : wpAny (model pw w) A (loadName env x) Q E s := by
  rcases q with ⟨kd, mp, n, e⟩ | ⟨kd, a, l, cl⟩
  · exact wpAny_loadName_local (SC.ok_kind F) kd n e h
  · exact wpAny_loadName_cell (SC.ok_kind F) kd l cl h
theorem es_aug {x : Str} {op : Operator} {p pos : Pos} {e : Expr} {d d' f : D} {G' : Ctx} (hx : Has c.ns G x (.imm d)) (he : EV c k G e d') (b : BI op d d' f) (q : Put c.ns G x (.imm f) G') : ES c k G (.AugAssign (.Name x p) op e pos) (.next G') := fun w hb A X₀ X env s O F => by
  obtain ⟨u, vu, ru⟩ := F.var x _ hx
  refine wpAny_AugAssign_Name (wp_load F vu (wpAny_mono (he w hb A X₀ X env s O F) (fun v s1 zp => ?_) fun _ _ x => x.elim))
  obtain ⟨k1, rv⟩ := zp
  have F1 := F.grow (kH k1)
  refine wpAny_mono (b w hb A X s1 u v k O (fun a x => (F1.fresh a x).1) (Rep.pres (kH k1).pres d u ru) rv) (fun r s2 zp => ?_) fun _ _ x => x
  obtain ⟨k2, rr⟩ := zp
  obtain ⟨h2, tk, rfl, g⟩ := kT k1 k2
  refine wp_store (F.grow g) q rr (fun l e => by cases e) fun h' tk' F' pr _ _ _ => ⟨h', tk', rfl, pres_trans (Grow.pres g) (fun _ x => .inl x) pr, rfl, X, fun _ x => .inl x, F'⟩
theorem es_del {x : Str} {p sp pos : Pos} {i : Expr} {l : List D} {j : Int} {m : Nat} {G' : Ctx} (hx : Has c.ns G x (.own (.list l))) (hi : EV c k G i (.int j)) (hj : seqIndex? j l.length = some m) (hf : Builtin.List.listFitsIndex j = true) (hl : l.length ≤ 2 ^ 24) (q : Put c.ns G x (.own (.list (l.eraseIdx m))) G') :
    ES c k G (.Delete [.Subscript (.Name x p) i sp] pos) (.next G') := fun w hb A X₀ X env s O F => by
  obtain ⟨v, vx, a, rfl, xa, x0, us, ⟨n, e⟩, rl⟩ := F.var x _ hx
  refine wpAny_Delete (wpAny_deleteEach_cons (delete_Subscript (wp_var F hx.mem vx (wpAny_mono (hi w hb A X₀ X env s O F) (fun u s1 zp => ?_) fun _ _ x => x.elim))))
  obtain ⟨k1, r1⟩ := zp
  obtain ⟨t, rfl⟩ := r1.int_of
  obtain ⟨h1, t1, rfl, g1⟩ := id k1
  have F1 := F.grow g1
  refine wpAny_delItem_plain (items := us.toArray) (k := m) ⟨n, g1 _ _ e⟩ hf (by rw [List.size_toArray, rl.length]; exact hj) (fun h' pl hs => ?_) (by rw [List.size_toArray, rl.length]; exact hl)
  refine wpAny_deleteEach_nil ⟨h', _, rfl, fun b o nx eo => ?_, rfl, X, fun _ x => .inl x, F1.change hx (vx.grow g1) q hs ⟨us.eraseIdx m, ?_, ?_⟩⟩
  · rw [hs.2 b (fun q => nx (q ▸ ⟨xa, x0⟩))]; exact g1 b o eo
  · rw [show us.toArray.eraseIdxIfInBounds m = (us.eraseIdx m).toArray by simp] at pl; exact pl
  · refine RepL.del m (RepL.pres (fun b o nx eo => ?_) _ _ rl)
    rw [hs.2 b (fun q => nx (q ▸ xa))]; exact g1 b o eo
theorem RepK.app {w : World} {X : Addr → Prop} {h : Heap} {x : Str} {d : D} {v : Value} (rv : Rep w X h d v) : ∀ {l : List (Str × D)} {kvs : List (Str × Value)}, RepK w X h l kvs → RepK w X h (l ++ [(x, d)]) (kvs ++ [(x, v)])
  | [], kvs, r => by simp only [RepK] at r; subst r; exact ⟨v, [], rfl, rv, rfl⟩
  | (y, d') :: l, kvs, ⟨u, r, e, rd, rl⟩ => by subst e; exact ⟨u, _, rfl, rd, RepK.app rv rl⟩
theorem RepK.noKey {w : World} {X : Addr → Prop} {h : Heap} {x : Str} : ∀ {l : List (Str × D)} {kvs : List (Str × Value)}, RepK w X h l kvs → l.lookup x = Option.none → kvs.any (fun kv => kv.1 = x) = false
  | [], kvs, r, _ => by simp only [RepK] at r; subst r; rfl
  | (y, d') :: l, kvs, ⟨u, r, e, rd, rl⟩, hn => by
    subst e
    rw [List.lookup_cons] at hn
    by_cases q : x = y
    · subst q; simp at hn
    · rw [show (x == y) = false by simpa using q] at hn
      rw [List.any_cons, RepK.noKey rl hn]; simp [Ne.symm q]
theorem es_setkey {x : Str} {p sp pos : Pos} {i e : Expr} {l : List (Str × D)} {y : Str} {d : D} {G' : Ctx} (hx : Has c.ns G x (.own (.dict l))) (he : EV c k G e d) (hi : EV c k G i (.str y)) (hn : l.lookup y = Option.none) (hl : l.length ≤ 2 ^ 24) (q : Put c.ns G x (.own (.dict (l ++ [(y, d)]))) G')
    (hs : NoSwap e := by intro _ _ _; rfl) : ES c k G (.Assign [.Subscript (.Name x p) i sp] e pos) (.next G') := fun w hb A X₀ X env s O F => by
  refine wpAny_Assign_Subscript (wpAny_mono (he w hb A X₀ X env s O F) (fun v s1 zp => ?_) fun _ _ x => x.elim) (hs _ _ _)
  obtain ⟨k1, r1⟩ := zp
  have F1 := F.grow (kH k1)
  obtain ⟨u, vx, a, rfl, xa, x0, r⟩ := F1.var x _ hx
  refine wp_var F1 hx.mem vx (wpAny_mono (hi w hb A X₀ X env s1 O F1) (fun z s2 zp => ?_) fun _ _ x => x.elim)
  obtain ⟨k2, r2⟩ := zp
  obtain ⟨t, rfl⟩ := r2.str_of
  have g2 := kH k2
  have F2 := F1.grow g2
  obtain ⟨kvs, ns, dk, rk⟩ := r.pres g2.pres fun o e => g2 _ _ e
  refine wpAny_setItem_pairs (knd := PySem.strKind pw w) (k := y) (kvs := kvs) (by simp [PySem.strKind, Value.isStrOf]) dk (fun h' dk' hs' => ?_) (by rw [rk.length]; exact hl)
  have pr : Pres X s2.heap h' := fun b o nx eo => by rw [hs'.2 b (fun q => nx (q ▸ xa))]; exact eo
  obtain ⟨h2, t2, rfl, g⟩ := kT k1 k2
  refine ⟨h', _, rfl, fun b o nx eo => ?_, rfl, X, fun _ x => .inl x, F2.change hx (vx.grow g2) q hs' ⟨kvs ++ [(y, v)], ns, ?_, RepK.app (Rep.pres pr d v (Rep.pres g2.pres d v r1)) (rk.map (Rep.pres pr) l kvs)⟩⟩
  · rw [hs'.2 b (fun q => nx (q ▸ ⟨xa, x0⟩))]; exact g b o eo
  · unfold stored at dk'
    rw [rk.noKey hn] at dk'
    exact dk'
end
structure MN (name : Str) (T id : String) (d : D) (ds : List D) (r : List D) : Prop where
  pa : PlainAttrs T
  sl : Slot T name id
  ty : typeOf (.builtin id) = pure (.type "method_descriptor")
  is : ∀ (w : World) (X : Addr → Prop) (s : Shared) (u : Value), Rep w X s.heap d u → s.TypeIs u T ∧ ∀ a, u = .ref a → ∃ ob, s.heap.get? a = some ob ∧ ob.dict = Option.none
  call : ∀ (w : World) (hb : Heap) (A : Around) (X : Addr → Prop) (s : Shared) (u : Value) (vs : List Value) (n : Nat), Ok w hb A n → (∀ a, X a → (s.heap.get? a).isSome = true) → Rep w X s.heap d u → RepL w X s.heap ds vs →
    wpAny (model pw w) A (PySem.call (.builtin id) (u :: vs)) (fun v s' => Keeps s s' ∧ ∃ a us, v = .ref a ∧ s.heap.get? a = Option.none ∧ s'.heap.PlainList a (List.toArray us) ∧ RepL w (fun b => X b ∨ b = a) s'.heap r us) (fun _ _ => False) s
section
variable {c : SC} {k : Nat} {G : Ctx}
theorem evn_meth {o : Expr} {name : Str} {apos pos : Pos} {args : List Expr} {T id : String} {d : D} {r ds : List D} (ho : EV c k G o d) (ha : EVS c k G args ds) (hm : MN name T id d ds r) (hp : Plain args := by intro _ _; rfl)
    (hbase : ∀ env, attributeBase o name env (eval o env) = eval o env := by intro _; rfl) (hlen : args.length < 30 := by decide) (hline : (apos.endLine == pos.line) = true := by rfl) :
    EVN c k G (.Call (.Attribute o name apos) args [] pos) r := fun w hb A X₀ X env s O F => by
  refine wpAny_Call_method_late (hbase env) ?_ hline rfl (wpAny_mono (ho w hb A X₀ X env s O F) (fun u s₁ ⟨k1, r1⟩ => ?_) fun _ _ x => x.elim)
  · rw [hp env pos]; simp [backToKw, keywordEach]; omega
  · have F1 := F.grow (kH k1)
    obtain ⟨t1, t2⟩ := hm.is w X s₁ u r1
    refine ⟨T, id, hm.pa, hm.sl, hm.ty, t1, t2, ?_⟩
    refine callWith_builtin (any_of_all (hp env pos)) (evalArgs_all (hp env pos) (wpAny_mono (ha w hb A X₀ X env s₁ pos O F1) (fun vs s₂ zp => ?_) fun _ _ x => x))
    obtain ⟨k2, r2⟩ := zp
    have F2 := F1.grow (kH k2)
    refine wpAny_mono (hm.call w hb A X s₂ u vs k O (fun a x => (F2.fresh a x).1) (Rep.pres (kH k2).pres _ _ r1) r2) (fun v s₃ ⟨k3, a, us, e, n, pl, rl⟩ => ⟨kT k1 (kT k2 k3), a, us, e, ?_, pl, rl⟩) fun _ _ x => x
    cases z : s.heap.get? a with
    | none => rfl
    | some o => rw [kH k2 a o (kH k1 a o z)] at n; cases n
end
theorem reps_strs {w : World} {X : Addr → Prop} {h : Heap} : ∀ (l : List (Str × Tok)), RepL w X h ((l.map (·.1)).map D.str) (strValues l)
  | [] => RepL.nil
  | (x, t) :: l => by
    simp only [List.map_cons, strValues, RepL]
    exact ⟨.str x t, strValues l, rfl, rep_str, reps_strs l⟩
theorem call_split {w : World} {A : Around} {s : Shared} {Q : Value → Shared → Prop} {E : Value → Shared → Prop} {x y : Str} {t u : Tok} (hy : (y.length == 0) = false)
    (h : ∀ l k, l.map (·.1) = Txt.split x y → Q (.ref s.heap.objs.size) { s with heap := s.heap.push { cls := .type "list", data := .seq (strValues l).toArray }, toks := k }) (hsz : x.length + 2 ≤ sizeLine) :
    wpAny (model pw w) A (call (.builtin "str.split") [.str x t, .str y u]) Q E s := by
  have hn : (Builtin.Str.partsBetween x (Builtin.Str.occurrences x y 0 x.length (x.length + 1)) y.length).length ≤ sizeLine := by
    have e1 := StrLaws.occ_length_le x y 0 x.length (x.length + 1)
    rw [length_partsBetween]; lia
  cases h1 : (decide (x.length < y.length) || decide (Builtin.Str.strKind x < Builtin.Str.strKind y))
  · cases hf : (Builtin.Str.occurrences x y 0 x.length (x.length + 1)).isEmpty
    · refine call_meets F.slot_str_split (typeIs_str _ _ _) F.entry_str_split (F.args_str_split_2 _ _) (meets_str_split_sep x y t u h1 hy hf (by exact Nat.le_trans (Nat.le_add_right _ _) hsz) hn) ?_
      show wants Q E _ { s with toks := _, heap := s.heap.push { cls := .type "list", data := .seq (strsFrom s.toks (Builtin.Str.partsBetween x (Builtin.Str.occurrences x y 0 x.length (x.length + 1)) y.length)).toArray } }
      rw [strsFrom_eq]
      exact h (numbered s.toks _) _ ((numbered_texts _ _).trans ((if_neg (ne_true_of_eq_false h1)).trans (if_neg (ne_true_of_eq_false hf))).symm)
    · exact call_meets F.slot_str_split (typeIs_str _ _ _) F.entry_str_split (F.args_str_split_2 _ _) (meets_str_split_not_found x y t u h1 hy hf)
        (h [(x, t)] s.toks ((if_neg (ne_true_of_eq_false h1)).trans (if_pos hf)).symm)
  · exact call_meets F.slot_str_split (typeIs_str _ _ _) F.entry_str_split (F.args_str_split_2 _ _) (meets_str_split_cannot_occur x y t u h1)
      (h [(x, t)] s.toks (if_pos h1).symm)
theorem mn_split {x y : Str} (hy : (y.length == 0) = false) (hx : x.length + 2 ≤ 2 ^ 24) : MN "split" "str" "str.split" (.str x) [.str y] ((Txt.split x y).map D.str) :=
  ⟨F.plainAttrs_str, F.slot_str_split, F.type_str_split, fun _ _ _ _ r => is_str r, fun w hb A X s u vs n O _ ru rv => by
    obtain ⟨t, rfl⟩ := ru.str_of
    obtain ⟨v, rfl, r⟩ := rv.one_of
    obtain ⟨t', rfl⟩ := r.str_of
    refine call_split hy (fun l k e => ⟨kPush s _ _, _, strValues l, rfl, none_of_le (Nat.le_refl _), ⟨_, Heap.get?_push_size _ rfl⟩, ?_⟩) hx
    rw [← e]; exact reps_strs l⟩
theorem none_back {h h' : Heap} {a : Addr} (g : Grow h h') (n : h'.get? a = Option.none) : h.get? a = Option.none := by
  cases z : h.get? a with
  | none => rfl
  | some o => rw [g a o z] at n; cases n
theorem notBox_of {h : Heap} {b : Addr} {o : Obj} {T : String} (e : h.get? b = some o) (c : o.cls = .type T) (n : T ≠ "list" ∧ T ≠ "tuple" ∧ T ≠ "dict") : NotBox h b := fun o' e' => by
  rw [e] at e'; cases e'
  rw [c]
  exact ⟨fun q => n.1 (by injection q), fun q => n.2.1 (by injection q), fun q => n.2.2 (by injection q)⟩
section
variable {c : SC} {k : Nat} {G : Ctx}
theorem iter_list {e : Expr} {ds : List D} (he : EV c k G e (.list ds)) : Iter c k G e ds := fun w hb A X₀ X env s O F =>
  wpAny_mono (he w hb A X₀ X env s O F) (fun u s₁ ⟨k1, r1⟩ => by
    obtain ⟨a, vs, rfl, na, hl, rl⟩ := r1.list_of
    refine wpAny_pyIter_list hl ?_
    have F1 := F.grow (kH k1)
    have gp : Grow s₁.heap (s₁.heap.push { cls := .type "list_iterator", data := .fields #[.ref a, .int 0 0] }) := fun _ _ e => Heap.get?_push_of_some _ e
    have nI : s₁.heap.get? s₁.heap.objs.size = Option.none := none_of_le (Nat.le_refl _)
    have ne : a ≠ s₁.heap.objs.size := fun q => by obtain ⟨o, e, _⟩ := hl; rw [q, nI] at e; cases e
    refine ⟨kT k1 (kPush s₁ _ _), s₁.heap.objs.size, [s₁.heap.objs.size, a], [s₁.heap.objs.size], (fun i v => vs.toArray[i]? = some v), (fun i h => h.IsListIter s₁.heap.objs.size a i ∧ h.IsList a vs.toArray), rfl, ⟨?_, ⟨⟨_, Heap.get?_push_size _ rfl, rfl, rfl⟩, let ⟨o, e, r⟩ := hl; ⟨o, gp _ _ e, r⟩⟩, ?_, ?_, ?_, ?_, ?_, ?_⟩⟩
    · rw [← rl.length]; exact Walks.list (prog := pw) (w := w) O.handled s₁.heap.objs.size a ne vs.toArray
    · intro b m; rw [List.mem_singleton.mp m]; exact none_back (kH k1) nI
    · intro b m
      rcases List.mem_cons.mp m with rfl | m
      · exact F1.notX nI
      · rw [List.mem_singleton.mp m]; exact na
    · intro i h st b m
      obtain ⟨⟨o, e, _⟩, o', e', _⟩ := st
      rcases List.mem_cons.mp m with rfl | m
      · rw [e]; rfl
      · rw [List.mem_singleton.mp m, e']; rfl
    · intro i h st b m
      rw [List.mem_singleton.mp m]
      obtain ⟨⟨o, e, cl, _⟩, _⟩ := st
      exact notBox_of e cl ⟨by decide, by decide, by decide⟩
    · intro i d v hd hv
      obtain ⟨v', e, r⟩ := rl.at i hd
      have : v = v' := by
        have hv' : vs[i]? = some v := by simpa using hv
        rw [e] at hv'; cases hv'; rfl
      subst this
      exact Rep.pres gp.pres d v r
    · intro i s v t Q E _ st k
      obtain ⟨⟨o, e, cl, _⟩, _⟩ := id st
      exact letGo_plain e cl (by decide) (k s.heap st fun _ _ _ e => e)) fun _ _ x => x.elim
theorem iter_tup {e : Expr} {ds : List D} (he : EV c k G e (.tup ds)) : Iter c k G e ds := fun w hb A X₀ X env s O F =>
  wpAny_mono (he w hb A X₀ X env s O F) (fun u s₁ ⟨k1, r1⟩ => by
    obtain ⟨a, vs, rfl, na, hl, rl⟩ := r1.tup_of
    refine wpAny_pyIter_tuple hl ?_
    have F1 := F.grow (kH k1)
    have gp : Grow s₁.heap (s₁.heap.push { cls := .type "tuple_iterator", data := .fields #[.ref a, .int 0 0] }) := fun _ _ e => Heap.get?_push_of_some _ e
    have nI : s₁.heap.get? s₁.heap.objs.size = Option.none := none_of_le (Nat.le_refl _)
    have ne : a ≠ s₁.heap.objs.size := fun q => by obtain ⟨o, e, _⟩ := hl; rw [q, nI] at e; cases e
    refine ⟨kT k1 (kPush s₁ _ _), s₁.heap.objs.size, [s₁.heap.objs.size, a], [s₁.heap.objs.size], (fun i v => vs.toArray[i]? = some v), (fun i h => h.IsTupleIter s₁.heap.objs.size a i ∧ h.IsTuple a vs.toArray), rfl, ⟨?_, ⟨⟨_, Heap.get?_push_size _ rfl, rfl, rfl⟩, let ⟨o, e, r⟩ := hl; ⟨o, gp _ _ e, r⟩⟩, ?_, ?_, ?_, ?_, ?_, ?_⟩⟩
    · rw [← rl.length]; exact Walks.tuple (prog := pw) (w := w) O.handled s₁.heap.objs.size a ne vs.toArray
    · intro b m; rw [List.mem_singleton.mp m]; exact none_back (kH k1) nI
    · intro b m
      rcases List.mem_cons.mp m with rfl | m
      · exact F1.notX nI
      · rw [List.mem_singleton.mp m]; exact na
    · intro i h st b m
      obtain ⟨⟨o, e, _⟩, o', e', _⟩ := st
      rcases List.mem_cons.mp m with rfl | m
      · rw [e]; rfl
      · rw [List.mem_singleton.mp m, e']; rfl
    · intro i h st b m
      rw [List.mem_singleton.mp m]
      obtain ⟨⟨o, e, cl, _⟩, _⟩ := st
      exact notBox_of e cl ⟨by decide, by decide, by decide⟩
    · intro i d v hd hv
      obtain ⟨v', e, r⟩ := rl.at i hd
      have : v = v' := by
        have hv' : vs[i]? = some v := by simpa using hv
        rw [e] at hv'; cases hv'; rfl
      subst this
      exact Rep.pres gp.pres d v r
    · intro i s v t Q E _ st k
      obtain ⟨⟨o, e, cl, _⟩, _⟩ := id st
      exact letGo_plain e cl (by decide) (k s.heap st fun _ _ _ e => e)) fun _ _ x => x.elim
noncomputable def charsOf (x : Str) : List D := x.cps.toList.map fun c => .str ⟨#[c]⟩
theorem iter_str {e : Expr} {x : Str} (he : EV c k G e (.str x)) : Iter c k G e (charsOf x) := fun w hb A X₀ X env s O F =>
  wpAny_mono (he w hb A X₀ X env s O F) (fun u s₁ ⟨k1, r1⟩ => by
    obtain ⟨t, rfl⟩ := r1.str_of
    have F1 := F.grow (kH k1)
    have nI : s₁.heap.get? s₁.heap.objs.size = Option.none := none_of_le (Nat.le_refl _)
    have main : ∀ (T : String), T ≠ "list" ∧ T ≠ "tuple" ∧ T ≠ "dict" → ["enumerate", "zip", "dict_itemiterator", "dict_reverseitemiterator", "odict_iterator", "itertools.zip_longest", "itertools.pairwise"].contains T = false → Walks pw w A s₁.heap.objs.size [s₁.heap.objs.size] [s₁.heap.objs.size] x.cps.size (SignAt x) (fun i h => h.IsStrIter s₁.heap.objs.size T x t i) →
        Goes w A X s.heap (s₁.heap.push { cls := .type T, data := .fields #[.str x t, .int 0 0] }) (charsOf x) s₁.heap.objs.size [s₁.heap.objs.size] [s₁.heap.objs.size] (SignAt x) (fun i h => h.IsStrIter s₁.heap.objs.size T x t i) := fun T nT nT2 W => by
      refine ⟨?_, ⟨_, Heap.get?_push_size _ rfl, rfl, rfl⟩, ?_, ?_, ?_, ?_, ?_, ?_⟩
      · rw [charsOf, List.length_map, Array.length_toList]; exact W
      · intro b m; rw [List.mem_singleton.mp m]; exact none_back (kH k1) nI
      · intro b m; rw [List.mem_singleton.mp m]; exact F1.notX nI
      · intro i h st b m
        obtain ⟨o, e, _⟩ := st
        rw [List.mem_singleton.mp m, e]; rfl
      · intro i h st b m
        rw [List.mem_singleton.mp m]
        obtain ⟨o, e, cl, _⟩ := st
        exact notBox_of e cl nT
      · intro i d v hd hv
        obtain ⟨cp, u, e, rfl⟩ := hv
        simp only [charsOf, List.getElem?_map, Array.getElem?_toList, e, Option.map_some, Option.some.injEq] at hd
        subst hd
        exact rep_str
      · intro i s v t Q E _ st k
        obtain ⟨o, e, cl, _⟩ := id st
        exact letGo_plain e cl nT2 (k s.heap st fun _ _ _ e => e)
    cases ha : x.cps.all (· < 128)
    · exact wpAny_pyIter_wide ha ⟨kT k1 (kPush s₁ _ _), _, _, _, _, _, rfl, main "str_iterator" ⟨by decide, by decide, by decide⟩ (by decide) (Walks.strWide O.handled _ x t)⟩
    · exact wpAny_pyIter_ascii ha ⟨kT k1 (kPush s₁ _ _), _, _, _, _, _, rfl, main "str_ascii_iterator" ⟨by decide, by decide, by decide⟩ (by decide) (Walks.strAscii O.handled _ x t)⟩) fun _ _ x => x.elim
theorem ev_type {f : Str} {id : String} {p pos : Pos} {args : List Expr} {ds : List D} {Q : Value → Shared → Prop} {E : Value → Shared → Prop} {w : World} {hb : Heap} {A : Around} {X₀ X : Addr → Prop} {env : Env} {s : Shared} (O : Ok w hb A k) (F : FS c w hb X₀ X env s.heap G)
    (m : In c.gs f) (mf : (f, Value.type id) ∈ Blts) (ha : EVS c k G args ds) (hp : Plain args) (he : ∀ env, eval (.Call (.Name f p) args [] pos) env = (do callWith pos (← eval (.Name f p) env) [] (backTo pos (starEach args env)) (backToKw pos (keywordEach [] env))))
    (h : ∀ vs s₁, Keeps s s₁ → RepL w X s₁.heap ds vs → wpAny (model pw w) A (call (.type id) vs) Q E s₁) (hE : ∀ v s, False → E v s) : wpAny (model pw w) A (eval (.Call (.Name f p) args [] pos) env) Q E s := by
  obtain ⟨mg, mb, T⟩ := O.base.tops
  obtain ⟨h1, h2⟩ := T.blt _ mf
  refine Call_ (wp_blt F m T.g h1 T.b h2 ?_) (he env)
  exact PySem.callWith_type (any_of_all (hp env pos)) (evalArgs_all (hp env pos) (wpAny_mono (ha w hb A X₀ X env s pos O F) (fun vs s₁ ⟨k1, r1⟩ => h vs s₁ k1 r1) fun v s x => hE v s x))
noncomputable def rangeL (a c : Int) (n : Nat) : List D := (List.range n).map fun (i : Nat) => .int (a + (i : Int) * c)
theorem goes_range {w : World} {A : Around} {X : Addr → Prop} {s s₁ : Shared} {a c : Int} {n : Nat} (hh : A.handled = Option.none) (k1 : Keeps s s₁) (fx : ∀ a, X a → (s₁.heap.get? a).isSome = true) :
    Goes w A X s.heap (s₁.heap.push { cls := .type "range_iterator", data := .fields #[rawInt a, rawInt n, rawInt c] }) (rangeL a c n) s₁.heap.objs.size [s₁.heap.objs.size] [s₁.heap.objs.size] (fun i v => ∃ t, v = .int (a + i * c) t) (fun i h => IsRangeIter h s₁.heap.objs.size (a + (i : Nat) * c) ((n : Int) - (i : Nat)) c) := by
  have nI : s₁.heap.get? s₁.heap.objs.size = Option.none := none_of_le (Nat.le_refl _)
  refine ⟨?_, ?_, ?_, ?_, ?_, ?_, ?_, ?_⟩
  · rw [rangeL, List.length_map, List.length_range]; exact Walks.range hh _ a c n
  · show IsRangeIter _ _ _ _ _
    rw [show a + ((0 : Nat) : Int) * c = a by simp, show (n : Int) - ((0 : Nat) : Int) = n by simp]
    exact Heap.get?_push_size _ rfl
  · intro b m; rw [List.mem_singleton.mp m]; exact none_back (kH k1) nI
  · intro b m x; rw [List.mem_singleton.mp m] at x; have := fx _ x; rw [nI] at this; cases this
  · intro i h st b m
    rw [List.mem_singleton.mp m, st]; rfl
  · intro i h st b m
    rw [List.mem_singleton.mp m]
    exact notBox_of st rfl ⟨by decide, by decide, by decide⟩
  · intro i d v hd hv
    obtain ⟨t, rfl⟩ := hv
    simp only [rangeL, List.getElem?_map] at hd
    rcases Nat.lt_or_ge i n with q | q
    · rw [show (List.range n)[i]? = some i by simp [q]] at hd; simp only [Option.map_some, Option.some.injEq] at hd; subst hd; exact rep_int
    · rw [List.getElem?_eq_none (by rw [List.length_range]; exact q)] at hd; cases hd
  · intro i s v t Q E _ st k
    exact letGo_plain st rfl (by decide) (k s.heap st fun _ _ _ e => e)
theorem fitsR {i : Int} (h1 : -(2 ^ 30) ≤ i) (h2 : i ≤ 2 ^ 30) : Builtin.Range.rangeFitsLong i = true := by
  unfold Builtin.Range.rangeFitsLong
  have a : -(2 ^ 63 : Int) ≤ i := by exact Int.le_trans (by decide) h1
  have b : i < (2 ^ 63 : Int) := by exact Int.lt_of_le_of_lt h2 (by decide)
  rw [decide_eq_true a, decide_eq_true b]; rfl
theorem smallR {a b c n : Int} (e : Builtin.Range.rangeSize a b c = n) (a1 : -(2 ^ 29) ≤ a ∧ a ≤ 2 ^ 29) (b1 : -(2 ^ 29) ≤ b ∧ b ≤ 2 ^ 29) (c1 : -2 ≤ c ∧ c ≤ 2) (n1 : -(2 ^ 29) ≤ n ∧ n ≤ 2 ^ 29) : Builtin.Range.small a b c = true := by
  unfold Builtin.Range.small
  rw [e, fitsR (by exact Int.le_trans (by decide) a1.1) (by exact Int.le_trans a1.2 (by decide)), fitsR (by exact Int.le_trans (by decide) b1.1) (by exact Int.le_trans b1.2 (by decide)), fitsR (by exact Int.le_trans (by decide) c1.1) (by exact Int.le_trans c1.2 (by decide)), fitsR (by exact Int.le_trans (by decide) n1.1) (by exact Int.le_trans n1.2 (by decide))]
  by_cases q : c > 0
  · rw [if_pos q, fitsR (by lia) (by lia)]; simp
  · rw [if_neg q, fitsR (by lia) (by lia)]; simp
theorem iter_range1 {p pos : Pos} {e : Expr} {n : Nat} (m : In c.gs "range") (he : EV c k G e (.int n)) (hn : n ≤ 2 ^ 24) (hp : Plain [e] := by intro _ _; rfl)
    (hev : ∀ env, eval (.Call (.Name "range" p) [e] [] pos) env = (do callWith pos (← eval (.Name "range" p) env) [] (backTo pos (starEach [e] env)) (backToKw pos (keywordEach [] env))) := by intro _; rfl) (hst : ∀ env, starEach [e] env = (false, eval e env) :: starEach [] env := by intro _; rfl) : Iter c k G (.Call (.Name "range" p) [e] [] pos) (rangeL 0 1 n) := fun w hb A X₀ X env s O F =>
  ev_type (id := "range") O F m (by decide) (evs_cons he evs_nil hst) hp hev (fun vs s₁ k1 r1 => by
    obtain ⟨v, rfl, rv⟩ := r1.one_of
    obtain ⟨t, rfl⟩ := rv.int_of
    have F1 := F.grow (kH k1)
    have e1 : Builtin.Range.rangeSize 0 n 1 = n := by
      unfold Builtin.Range.rangeSize; simp only [Int.reduceGT, if_true]; split <;> lia
    refine call_range_1 (wpAny_pyIter_range (Heap.get?_push_size _ rfl) (smallR e1 (by exact ⟨by decide, by decide⟩) (by exact ⟨Int.le_trans (by decide) (Int.natCast_nonneg _), Int.le_trans (Int.ofNat_le.mpr hn) (by decide)⟩) (by exact ⟨by decide, by decide⟩) (by exact ⟨Int.le_trans (by decide) (Int.natCast_nonneg _), Int.le_trans (Int.ofNat_le.mpr hn) (by decide)⟩)) ?_)
    rw [e1]
    have k2 : Keeps s { s₁ with heap := s₁.heap.push { cls := .type "range", data := .fields #[.int 0 s₁.toks, .int n t, .int 1 (s₁.toks + 1)] }, toks := s₁.toks + 1 + 1 } := kT k1 (kPush s₁ _ _)
    exact ⟨kT k2 (kPush _ _ _), _, _, _, _, _, rfl, goes_range O.handled k2 fun a x => ((F.grow (kH k2)).fresh a x).1⟩) fun _ _ x => x
theorem iter_range2 {p pos : Pos} {e f : Expr} {a b : Int} {n : Nat} (m : In c.gs "range") (he : EV c k G e (.int a)) (hf : EV c k G f (.int b)) (hb' : b = a + n) (h1 : -(2 ^ 24) ≤ a) (h2 : b ≤ 2 ^ 24) (hp : Plain [e, f] := by intro _ _; rfl)
    (hev : ∀ env, eval (.Call (.Name "range" p) [e, f] [] pos) env = (do callWith pos (← eval (.Name "range" p) env) [] (backTo pos (starEach [e, f] env)) (backToKw pos (keywordEach [] env))) := by intro _; rfl) (hst : ∀ env, starEach [e, f] env = (false, eval e env) :: starEach [f] env := by intro _; rfl) (hst2 : ∀ env, starEach [f] env = (false, eval f env) :: starEach [] env := by intro _; rfl) :
    Iter c k G (.Call (.Name "range" p) [e, f] [] pos) (rangeL a 1 n) := fun w hb A X₀ X env s O F =>
  ev_type (id := "range") O F m (by decide) (evs_cons he (evs_cons hf evs_nil hst2) hst) hp hev (fun vs s₁ k1 r1 => by
    obtain ⟨v, u, rfl, rv, ru⟩ := r1.two_of
    obtain ⟨t, rfl⟩ := rv.int_of
    obtain ⟨t', rfl⟩ := ru.int_of
    have F1 := F.grow (kH k1)
    have e1 : Builtin.Range.rangeSize a b 1 = n := by
      unfold Builtin.Range.rangeSize; simp only [Int.reduceGT, if_true]; split <;> lia
    refine call_range_2 (wpAny_pyIter_range (Heap.get?_push_size _ rfl) (smallR e1 (by lia) (by lia) (by exact ⟨by decide, by decide⟩) (by lia)) ?_)
    rw [e1]
    have k2 : Keeps s { s₁ with heap := s₁.heap.push { cls := .type "range", data := .fields #[.int a t, .int b t', .int 1 s₁.toks] }, toks := s₁.toks + 1 } := kT k1 (kPush s₁ _ _)
    exact ⟨kT k2 (kPush _ _ _), _, _, _, _, _, rfl, goes_range O.handled k2 fun a x => ((F.grow (kH k2)).fresh a x).1⟩) fun _ _ x => x
theorem iter_range3 {p pos : Pos} {e f g : Expr} {a : Int} {n : Nat} (m : In c.gs "range") (he : EV c k G e (.int a)) (hf : EV c k G f (.int (-1))) (hg : EV c k G g (.int (-1))) (ha : a = n - 1) (hn : n ≤ 2 ^ 24) (hp : Plain [e, f, g] := by intro _ _; rfl)
    (hev : ∀ env, eval (.Call (.Name "range" p) [e, f, g] [] pos) env = (do callWith pos (← eval (.Name "range" p) env) [] (backTo pos (starEach [e, f, g] env)) (backToKw pos (keywordEach [] env))) := by intro _; rfl) (hst : ∀ env, starEach [e, f, g] env = (false, eval e env) :: starEach [f, g] env := by intro _; rfl) (hst2 : ∀ env, starEach [f, g] env = (false, eval f env) :: starEach [g] env := by intro _; rfl) (hst3 : ∀ env, starEach [g] env = (false, eval g env) :: starEach [] env := by intro _; rfl) :
    Iter c k G (.Call (.Name "range" p) [e, f, g] [] pos) (rangeL a (-1) n) := fun w hb A X₀ X env s O F =>
  ev_type (id := "range") O F m (by decide) (evs_cons he (evs_cons hf (evs_cons hg evs_nil hst3) hst2) hst) hp hev (fun vs s₁ k1 r1 => by
    obtain ⟨v, u, z, rfl, rv, ru, rz⟩ := r1.three_of
    obtain ⟨t, rfl⟩ := rv.int_of
    obtain ⟨t', rfl⟩ := ru.int_of
    obtain ⟨t2, rfl⟩ := rz.int_of
    have F1 := F.grow (kH k1)
    have e1 : Builtin.Range.rangeSize a (-1) (-1) = n := by
      unfold Builtin.Range.rangeSize; simp only [Int.reduceNeg, gt_iff_lt, show ¬ (0 : Int) < -1 by decide, if_false]; split <;> lia
    refine call_range_3 (by decide) (wpAny_pyIter_range (Heap.get?_push_size _ rfl) (smallR e1 (by lia) (by exact ⟨by decide, by decide⟩) (by exact ⟨by decide, by decide⟩) (by exact ⟨Int.le_trans (by decide) (Int.natCast_nonneg _), Int.le_trans (Int.ofNat_le.mpr hn) (by decide)⟩)) ?_) (.inl (noPylong (by unfold Sm; decide) (by decide)))
    rw [e1]
    have k2 : Keeps s { s₁ with heap := s₁.heap.push { cls := .type "range", data := .fields #[.int a t, .int (-1) t', .int (-1) t2] }, toks := s₁.toks } := kT k1 (kPush s₁ _ _)
    exact ⟨kT k2 (kPush _ _ _), _, _, _, _, _, rfl, goes_range O.handled k2 fun a x => ((F.grow (kH k2)).fresh a x).1⟩) fun _ _ x => x
end
noncomputable def relS (scope : Scope) (sc : Scope) : Scope :=
  { scope with names := scope.names.map fun (n, k) => if (k == .free && sc.kind == .function && sc.names.lookup n == some .cell) then (n, .cell) else (n, k) }
theorem relS_eq (scope : Scope) (env : Env) : relabel scope env = relS scope env.scope := rfl
noncomputable def clOf (cells : List (Str × Addr)) : List (Str × NameKind) → List (Str × Addr) → List (Str × Addr)
  | [], cs => cs
  | (n, k) :: r, cs => clOf cells r (if k == .free then (n, (cells.lookup n).getD 0) :: cs else cs)
noncomputable def compOk (scope sc : Scope) : Bool :=
  scope.kind == .function && scope.names.all (fun x => (x.2 == .local || x.2 == .free && (sc.names.lookup x.1 == some .cell) || x.2 == .globalImplicit)) && decide (scope.names.map (·.1)).Nodup && sc.kind == .function
noncomputable def clStep (env : Env) : (Str × NameKind) → List (Str × Addr) → Sem (ForInStep (List (Str × Addr))) := fun x r => match x with | (name, kind) => if (kind == NameKind.free) = true then do let a ← cellOf env name; pure (ForInStep.yield ((name, a) :: r)) else pure (ForInStep.yield r)
theorem pure_seq {α β : Type} (a : α) (f : α → Sem β) : (pure a >>= f) = f a := rfl
theorem cl_for {env : Env} : ∀ (names : List (Str × NameKind)) (cs : List (Str × Addr)), (∀ x ∈ names, x.2 = .free → (env.cells.lookup x.1).isSome = true) →
    (forIn names cs (clStep env) : Sem (List (Str × Addr))) = pure (clOf env.cells names cs)
  | [], cs, _ => rfl
  | (n, k) :: r, cs, h => by
    have e : clStep env (n, k) cs = pure (ForInStep.yield (if k == .free then (n, (env.cells.lookup n).getD 0) :: cs else cs)) := by
      unfold clStep
      by_cases q : k = .free
      · subst q
        obtain ⟨a, ha⟩ := Option.isSome_iff_exists.mp (h (n, .free) (List.mem_cons_self ..) rfl)
        have : cellOf env n = pure a := by unfold cellOf; dsimp only at ha; rw [ha]
        dsimp only at ha ⊢
        simp only [beq_self_eq_true, if_true, this, ha, Option.getD_some]
        rfl
      · have : (k == NameKind.free) = false := by simpa using q
        simp only [this]; rfl
    rw [List.forIn_cons, e, pure_seq]
    exact cl_for r _ fun x m => h x (List.mem_cons_of_mem _ m)
theorem closure_of {scope : Scope} {env : Env} (h : ∀ x ∈ scope.names, x.2 = .free → (env.cells.lookup x.1).isSome = true) : closureFor scope env = pure (clOf env.cells scope.names []) := by
  have := cl_for (env := env) scope.names [] h
  unfold closureFor
  show (forIn scope.names [] (clStep env) >>= fun r => pure r) = _
  rw [this]; rfl
theorem clOf_mem {cells : List (Str × Addr)} {x : Str} {a : Addr} : ∀ {names : List (Str × NameKind)} {cs : List (Str × Addr)}, (∀ y ∈ names, y.2 = .free → (cells.lookup y.1).isSome = true) → (x, a) ∈ clOf cells names cs → (x, a) ∈ cs ∨ ((x, .free) ∈ names ∧ cells.lookup x = some a)
  | [], cs, _, m => .inl m
  | (n, k) :: r, cs, h, m => by
    unfold clOf at m
    rcases clOf_mem (fun y q => h y (List.mem_cons_of_mem _ q)) m with q | ⟨q, e⟩
    · by_cases z : k = .free
      · subst z
        simp only [beq_self_eq_true, if_true] at q
        rcases List.mem_cons.mp q with q | q
        · obtain ⟨a', ha⟩ := Option.isSome_iff_exists.mp (h (n, .free) (List.mem_cons_self ..) rfl)
          dsimp only at ha
          rw [ha] at q
          injection q with q1 q2
          subst q1
          exact .inr ⟨List.mem_cons_self .., by rw [ha, q2]; rfl⟩
        · exact .inl q
      · have : (k == NameKind.free) = false := by simpa using z
        simp only [this] at q
        exact .inl q
    · exact .inr ⟨List.mem_cons_of_mem _ q, e⟩
theorem clOf_has {cells : List (Str × Addr)} {x : Str} : ∀ {names : List (Str × NameKind)} {cs : List (Str × Addr)}, ((x, NameKind.free) ∈ names ∨ ∃ a, (x, a) ∈ cs) → ∃ a, (x, a) ∈ clOf cells names cs
  | [], cs, h => h.elim (fun q => by cases q) id
  | (n, k) :: r, cs, h => by
    unfold clOf
    refine clOf_has ?_
    rcases h with h | ⟨a, h⟩
    · rcases List.mem_cons.mp h with h | h
      · cases h; exact .inr ⟨_, by simp only [beq_self_eq_true, if_true]; exact List.mem_cons_self ..⟩
      · exact .inl h
    · refine .inr ⟨a, ?_⟩
      split
      · exact List.mem_cons_of_mem _ h
      · exact h
theorem clOf_keys {cells : List (Str × Addr)} : ∀ {names : List (Str × NameKind)} {cs : List (Str × Addr)}, (names.map (·.1)).Nodup → (cs.map (·.1)).Nodup → (∀ x ∈ names, x.1 ∉ cs.map (·.1)) → ((clOf cells names cs).map (·.1)).Nodup
  | [], cs, _, h, _ => h
  | (n, k) :: r, cs, hn, h, hd => by
    unfold clOf
    have hn' := List.nodup_cons.mp hn
    refine clOf_keys hn'.2 ?_ fun x m => ?_
    · split
      · exact List.nodup_cons.mpr ⟨hd _ (List.mem_cons_self ..), h⟩
      · exact h
    · have h1 := hd x (List.mem_cons_of_mem _ m)
      split
      · rw [List.map_cons, List.mem_cons]
        rintro (q | q)
        · have e : x.1 = n := q
          exact hn'.1 (by rw [← e]; exact List.mem_map_of_mem (f := (·.1)) m)
        · exact h1 q
      · exact h1
inductive Inh (ns : List Str) (G : Ctx) (scope : Scope) : List Str → Ctx → Prop
  | nil : Inh ns G scope [] []
  | non {x : Str} {ms : List Str} {G' : Ctx} : Inh ns G scope ms G' → Inh ns G scope (x :: ms) (Option.none :: G')
  | var {x : Str} {ms : List Str} {G' : Ctx} {d : D} : Has ns G x (.imm d) → scope.names.lookup x = some .free → Inh ns G scope ms G' → Inh ns G scope (x :: ms) (some (.imm d) :: G')
theorem Inh.has {ns : List Str} {G : Ctx} {scope : Scope} {ms : List Str} {G' : Ctx} (h : Inh ns G scope ms G') {x : Str} {e : V} (q : Has ms G' x e) : Has ns G x e ∧ scope.names.lookup x = some .free := by
  induction h with
  | nil => cases q
  | non _ ih => cases q with | tail q => exact ih q
  | var a b _ ih => cases q with
    | head => exact ⟨a, b⟩
    | tail q => exact ih q
theorem lookup_map_kind {f : Str × NameKind → NameKind} {x : Str} : ∀ {names : List (Str × NameKind)}, (names.map fun p => (p.1, f p)).lookup x = (match names.find? (fun p => p.1 == x) with | some p => some (f p) | Option.none => Option.none)
  | [] => rfl
  | (n, k) :: r => by
    rw [List.map_cons, List.lookup_cons, List.find?_cons]
    by_cases q : x = n
    · subst q; simp
    · have e1 : (x == n) = false := by simpa using q
      have e2 : (n == x) = false := by simpa using Ne.symm q
      simp only [e1, e2]
      exact lookup_map_kind
theorem find_of_lookup {x : Str} {k : NameKind} : ∀ {names : List (Str × NameKind)}, names.lookup x = some k → names.find? (fun p => p.1 == x) = some (x, k)
  | [], h => by cases h
  | (n, k') :: r, h => by
    rw [List.lookup_cons] at h
    rw [List.find?_cons]
    by_cases q : x = n
    · subst q; simp at h; subst h; simp
    · have e1 : (x == n) = false := by simpa using q
      have e2 : (n == x) = false := by simpa using Ne.symm q
      rw [e1] at h
      simp only [e2]
      exact find_of_lookup h
section
variable {c c' : SC} {k : Nat} {G G' : Ctx}
theorem relS_names (scope sc : Scope) : (relS scope sc).names = scope.names.map fun p => (p.1, if (p.2 == .free && sc.kind == .function && sc.names.lookup p.1 == some .cell) then NameKind.cell else p.2) := by
  unfold relS
  dsimp only
  apply List.map_congr_left
  intro p _
  obtain ⟨n, k⟩ := p
  dsimp only
  split <;> rfl
theorem FS.comp {w : World} {hb : Heap} {X₀ X : Addr → Prop} {env : Env} {h h' : Heap} {scope : Scope} {C acc : Addr} {m : Str → Option Value} (F : FS c w hb X₀ X env h G) (ok : compOk scope c.sc = true) (hc : c'.sc = relS scope c.sc) (ok' : c'.ok = true)
    (inh : Inh c.ns G scope c'.ns G') (g : Grow h h') (nC : h.get? C = Option.none) (nA : h.get? acc = Option.none) (hC : h'.Ns C m) (sA : (h'.get? acc).isSome = true) :
    closureFor scope env = pure (clOf env.cells scope.names []) ∧ FS c' w hb X₀ (fun b => X b ∨ b = acc ∨ b = C) (compEnvC scope (clOf env.cells scope.names []) C env) h' G' := by
  simp only [compOk, Bool.and_eq_true, List.all_eq_true, Bool.or_eq_true, beq_iff_eq, decide_eq_true_eq] at ok
  obtain ⟨⟨⟨ok1, ok2⟩, ok3⟩, ok4⟩ := ok
  have hfree : ∀ x ∈ scope.names, x.2 = .free → (env.cells.lookup x.1).isSome = true := fun x hx e => by
    rcases ok2 x hx with (q | q) | q
    · rw [e] at q; cases q
    · exact F.celled x.1 q.2
    · rw [e] at q; cases q
  have old : ∀ b, (h.get? b).isSome = true → (X b ∨ b = acc ∨ b = C) → X b := fun b hb' q => by
    rcases q with q | rfl | rfl
    · exact q
    · rw [nA] at hb'; cases hb'
    · rw [nC] at hb'; cases hb'
  have sC : (h'.get? C).isSome = true := by obtain ⟨o, _, _, e, _⟩ := hC; rw [e]; rfl
  have cl_of : ∀ {x a}, (clOf env.cells scope.names []).lookup x = some a → env.cells.lookup x = some a := fun {x a} e => by
    rcases clOf_mem hfree (mem_of_lookup e) with q | q
    · cases q
    · exact q.2
  have keys := clOf_keys (cells := env.cells) (names := scope.names) (cs := []) ok3 List.nodup_nil (fun _ _ q => by cases q)
  have cl_to : ∀ {x}, (x, NameKind.free) ∈ scope.names → ((clOf env.cells scope.names []).lookup x).isSome = true := fun {x} hx => by
    obtain ⟨a, ha⟩ := clOf_has (cells := env.cells) (cs := []) (.inl hx)
    cases q : (clOf env.cells scope.names []).lookup x with
    | some _ => rfl
    | none => rw [List.lookup_eq_none_iff] at q; have := q _ ha; simp at this
  have kind : ∀ x, (compEnvC scope (clOf env.cells scope.names []) C env).kindOf x = c'.sc.names.lookup x := fun x => by
    show (relabel scope env).names.lookup x = _
    rw [relS_eq, F.sc, hc]
  have vars : ∀ x e, Has c'.ns G' x e → ∃ v a, VarIs env h x v ∧ RepV w X₀ X h e v ∧ env.cells.lookup x = some a ∧ h.IsCell a (some v) ∧ VarIs (compEnvC scope (clOf env.cells scope.names []) C env) h' x v := fun x e q => by
    obtain ⟨hx, hk⟩ := inh.has q
    obtain ⟨v, vx, r⟩ := F.var x e hx
    have hm := mem_of_lookup hk
    have kc : c.sc.names.lookup x = some .cell := by
      rcases ok2 _ hm with (q | q) | q
      · cases q
      · exact q.2
      · cases q
    rcases vx with ⟨kx, _⟩ | ⟨kx, a, la, cl⟩
    · rw [F.kindOf x, kc] at kx; cases kx
    · refine ⟨v, a, .inr ⟨kx, a, la, cl⟩, r, la, cl, .inr ⟨?_, a, ?_, cl.keeps g⟩⟩
      · rw [kind, hc, relS_names, lookup_map_kind, find_of_lookup hk]
        simp only [ok4, kc]; rfl
      · obtain ⟨a', ha'⟩ := Option.isSome_iff_exists.mp (cl_to hm)
        show (clOf env.cells scope.names []).lookup x = some a
        have := cl_of ha'; rw [la] at this; cases this; exact ha'
  refine ⟨closure_of hfree, ?_, ok', F.gl, F.bl, F.base.trans g, fun a x => .inl (F.sub a x), fun b q => ?_, ⟨⟨.inr (.inr rfl), (fun x => F.notX nC (F.sub _ x))⟩, m, hC⟩, fun x a e => ?_, ?_, fun x e => ?_, fun x e q => ?_, fun x y l1 m1 v ne p1 p2 v1 v2 => ?_, fun x d a q vx => ?_⟩
  · show relabel scope env = _
    rw [relS_eq, F.sc, hc]
  · rcases q with q | rfl | rfl
    · exact (F.grow g).fresh b q
    · exact ⟨sA, none_back F.base nA⟩
    · exact ⟨sC, none_back F.base nC⟩
  · obtain ⟨q, v, cl⟩ := F.cells x a (cl_of e)
    exact ⟨⟨.inl q.1, q.2⟩, v, cl.keeps g⟩
  · have pn : (clOf env.cells scope.names []).Pairwise fun p q => p.1 ≠ q.1 := List.pairwise_map.mp keys
    refine pn.imp_of_mem fun {p q} hp hq ne e => ne ?_
    have e1 := (clOf_mem hfree hp).elim (fun z => by cases z) fun z => z.2
    have e2 := (clOf_mem hfree hq).elim (fun z => by cases z) fun z => z.2
    exact name_of_addr F.apart (mem_of_lookup e1) (e ▸ mem_of_lookup e2)
  · rw [hc, relS_names, lookup_map_kind] at e
    cases q : scope.names.find? (fun p => p.1 == x) with
    | none => rw [q] at e; cases e
    | some p =>
      rw [q] at e
      have hp := List.mem_of_find?_eq_some q
      have hx : p.1 = x := by have := List.find?_some q; simpa using this
      obtain ⟨n, kk⟩ := p
      dsimp only at hx e
      subst hx
      have : kk = .free := by
        rcases ok2 _ hp with (z | z) | z
        · dsimp only at z; subst z; simp at e
        · exact z.1
        · dsimp only at z; subst z; simp at e
      subst this
      exact cl_to hp
  · obtain ⟨v, a, vx, r, _, _, vn⟩ := vars x e q
    refine ⟨v, vn, ?_⟩
    cases e with
    | imm d => exact Rep.pres g.pres d v (Rep.weak old d v r)
    | own d => obtain ⟨b, e, xb, x0, r⟩ := r; exact ⟨b, e, .inl xb, x0, (r.weak old).pres g.pres fun o e => g _ _ e⟩
  · obtain ⟨u1, _, w1, _, _, _, n1⟩ := vars x _ p1
    obtain ⟨u2, _, w2, _, _, _, n2⟩ := vars y _ p2
    have := VarIs.uniq v1 n1; subst this
    have := VarIs.uniq v2 n2; subst this
    exact F.owned x y l1 m1 _ ne (inh.has p1).1 (inh.has p2).1 w1 w2
  · obtain ⟨u, _, vu, r, _, _, vn⟩ := vars x _ q
    have := VarIs.uniq vx vn; subst this
    obtain ⟨b, e, _, _, hd⟩ := r
    cases e
    intro z
    have := hd.some
    rw [z] at this
    have e2 : (compEnvC scope (clOf env.cells scope.names []) C env).locals = C := rfl
    rw [e2, nC] at this; cases this
end
section
variable {c c' : SC} {k : Nat} {G G1 G' : Ctx}
noncomputable def ASL (c : SC) (k : Nat) (G : Ctx) (t : Expr) (d : D) (G' : Ctx) : Prop :=
  ∀ (w : World) (hb : Heap) (A : Around) (X₀ X : Addr → Prop) (env : Env) (s : Shared) (v : Value), Ok w hb A k → FS c w hb X₀ X env s.heap G → Rep w X s.heap d v →
    wpAny (model pw w) A (assign t env v) (fun _ s' => ∃ h' tk, s' = { s with heap := h', toks := tk } ∧ (∀ b o, b ≠ env.locals → s.heap.get? b = some o → h'.get? b = some o) ∧ FS c w hb X₀ X env h' G') (fun _ _ => False) s
theorem wp_storeL {w : World} {hb : Heap} {X₀ X : Addr → Prop} {env : Env} {A : Around} {s : Shared} {x : Str} {v : Value} {d : D} {E : Value → Shared → Prop} {Q : Unit → Shared → Prop} (F : FS c w hb X₀ X env s.heap G) (q : Put c.ns G x (.imm d) G')
    (kl : c.sc.names.lookup x = some .local) (r : Rep w X s.heap d v)
    (h : ∀ h' tk, FS c w hb X₀ X env h' G' → Heap.SameBut env.locals s.heap h' → Q () { s with heap := h', toks := tk }) : wpAny (model pw w) A (storeName env x v) Q E s := by
  have kf := SC.ok_kind F
  obtain ⟨xl, m, n⟩ := F.loc
  have k' := (F.kindOf x).trans kl
  refine wpAny_storeName_local k' n (fun h' n' hs => ?_) (by rw [kf]; rfl)
  have vx : VarIs env h' x v := .inl ⟨k', _, n', by simp⟩
  have vy : ∀ y u, y ≠ x → VarIs env s.heap y u → VarIs env h' y u := fun y u ne vy => by
    rcases vy with ⟨ky, m', n1, e1⟩ | ⟨ky, a, l, cl⟩
    · exact .inl ⟨ky, _, n', by simp only [ne, if_false]; rw [ns_fun n n1]; exact e1⟩
    · exact .inr ⟨ky, a, l, cl.sameBut hs (fun q => ns_ne_cell n cl q.symm)⟩
  refine h h' _ ?_ hs
  refine F.put q hs xl.1 (fun y d a hy' va => F.off y d a hy' va) (fun d a e e' => by cases e) vx vy ⟨_, n'⟩ (fun y a ea => ?_) ?_ r fun l e => by cases e
  · obtain ⟨v', cl⟩ := (F.cells y a ea).2
    exact ⟨v', cl.sameBut hs (fun q => ns_ne_cell n cl q.symm)⟩
  · obtain ⟨o, _, _, e', _⟩ := n'; rw [e']; rfl
theorem asl_name {x : Str} {p : Pos} {d : D} (q : Put c.ns G x (.imm d) G') (kl : c.sc.names.lookup x = some .local) : ASL c k G (.Name x p) d G' := fun w hb A X₀ X env s v O F r =>
  wpAny_assign_Name (wp_storeL F q kl r fun h' tk F' hs => ⟨h', tk, rfl, fun b o nb e => by rw [hs.2 b nb]; exact e, F'⟩)
inductive ASLS (c : SC) (k : Nat) : Ctx → List Expr → List D → Ctx → Prop
  | nil {G : Ctx} : ASLS c k G [] [] G
  | cons {G G1 G2 : Ctx} {x : Str} {p : Pos} {ts : List Expr} {d : D} {ds : List D} : Put c.ns G x (.imm d) G1 → c.sc.names.lookup x = some .local → ASLS c k G1 ts ds G2 → ASLS c k G (.Name x p :: ts) (d :: ds) G2
theorem asls_len {ts : List Expr} {ds : List D} {G2 : Ctx} (h : ASLS c k G ts ds G2) (env : Env) : (assignEach ts env).length = ds.length ∧ (assignEach ts env).findIdx? (·.1) = Option.none := by
  induction h with
  | nil => exact ⟨rfl, rfl⟩
  | @cons G G1 G2 x p ts d ds _ _ _ ih =>
    show ((false, assign (.Name x p) env) :: assignEach ts env).length = _ ∧ ((false, assign (.Name x p) env) :: assignEach ts env).findIdx? (·.1) = _
    exact ⟨by simp [ih.1], by simp [List.findIdx?_cons, ih.2]⟩
theorem asls_run {ts : List Expr} {ds : List D} {G2 : Ctx} (h : ASLS c k G ts ds G2) : ∀ (w : World) (hb : Heap) (A : Around) (X₀ X : Addr → Prop) (env : Env) (s : Shared) (vs : List Value), Ok w hb A k → FS c w hb X₀ X env s.heap G → RepL w X s.heap ds vs →
    wpAny (model pw w) A (assignInOrder ((assignEach ts env).map (·.2)) vs) (fun _ s' => ∃ h' tk, s' = { s with heap := h', toks := tk } ∧ (∀ b o, b ≠ env.locals → s.heap.get? b = some o → h'.get? b = some o) ∧ FS c w hb X₀ X env h' G2) (fun _ _ => False) s := by
  induction h with
  | nil =>
    intro w hb A X₀ X env s vs O F r
    simp only [RepL] at r; subst r
    show wpAny _ A (assignInOrder [] []) _ _ s
    unfold assignInOrder
    exact wpAny_pure ⟨_, _, rfl, fun _ _ _ e => e, F⟩
  | @cons G G1 G2 x p ts d ds a b _ ih =>
    intro w hb A X₀ X env s vs O F r
    simp only [RepL] at r
    obtain ⟨v, us, rfl, rv, ru⟩ := r
    show wpAny _ A (assignInOrder (assign (.Name x p) env :: (assignEach ts env).map (·.2)) (v :: us)) _ _ s
    unfold assignInOrder
    refine wpAny_bind (wpAny_holding (wpAny_mono (asl_name a b w hb A X₀ X env s v O F rv) (fun _ s' zp => ?_) fun _ _ x => x))
    obtain ⟨h', tk, e', pr, F'⟩ := zp
    subst e'
    have pX : Pres X s.heap h' := fun b o nx e => pr b o (fun q => nx (q ▸ F.loc.1.1)) e
    exact wpAny_mono (ih w hb A X₀ X env _ us O F' (RepL.pres pX _ _ ru)) (fun _ s'' ⟨h2, t2, e2, p2, F2⟩ => ⟨h2, t2, by rw [e2], fun b o nb e => p2 b o nb (pr b o nb e), F2⟩) fun _ _ x => x
theorem asl_tup {ts : List Expr} {n : Nat} {pos : Pos} {ds : List D} {G2 : Ctx} (h : ASLS c k G ts ds G2) : ASL c k G (.Tuple ts n pos) (.tup ds) G2 := fun w hb A X₀ X env s v O F r => by
  obtain ⟨a, vs, rfl, _, ht, rl⟩ := r.tup_of
  have l := asls_len h env
  refine wpAny_assign_Tuple O.handled ht (by rw [l.1, ← rl.length]; simp) l.2 fun h' ex => ?_
  have g := ext_grow ex
  refine wpAny_mono (asls_run h w hb A X₀ X env { s with heap := h' } vs O (F.grow g) (RepL.pres g.pres _ _ rl)) (fun _ s'' ⟨h2, t2, e2, p2, F2⟩ => ⟨h2, t2, by rw [e2], fun b o nb e => p2 b o nb (g b o e), F2⟩) fun _ _ x => x
inductive TS (c : SC) (k : Nat) (G : Ctx) : List Expr → Bool → Prop
  | nil : TS c k G [] true
  | one {t : Expr} {b : Bool} : IT c k G t b → TS c k G [t] b
theorem TS.run {ifs : List Expr} {b : Bool} (h : TS c k G ifs b) {w : World} {hb : Heap} {A : Around} {X₀ X : Addr → Prop} {env : Env} {s : Shared} (O : Ok w hb A k) (F : FS c w hb X₀ X env s.heap G) :
    wpAny (model pw w) A (forIn ifs true fun c r => if r = true then do let ok ← isTrue c env (eval c env); pure (ForInStep.yield ok) else pure (ForInStep.yield r)) (fun ok s' => ok = b ∧ Keeps s s') (fun _ _ => False) s := by
  cases h with
  | nil => exact wpAny_pure ⟨rfl, kR s⟩
  | one t =>
    rw [List.forIn_cons]
    rw [if_pos rfl]
    refine wpAny_bind (wpAny_bind (wpAny_mono (t w hb A X₀ X env s O F) (fun ok s' q => ?_) fun _ _ x => x))
    exact wpAny_pure (wpAny_pure ⟨q.2, q.1⟩)
theorem FS.poke {w : World} {hb : Heap} {X₀ X : Addr → Prop} {env : Env} {h h' : Heap} {p : Addr} (F : FS c w hb X₀ X env h G) (hs : ∀ b o, b ≠ p → h.get? b = some o → h'.get? b = some o) (sp : (h'.get? p).isSome = true) (xp : X p) (nl : p ≠ env.locals) (nc : ∀ x a, env.cells.lookup x = some a → a ≠ p)
    (no : ∀ x d, ¬ Has c.ns G x (.own d)) : FS c w hb X₀ X env h' G := by
  obtain ⟨xl, m, nl'⟩ := F.loc
  have n' : h'.Ns env.locals m := by obtain ⟨o, es, ep, e, r⟩ := nl'; exact ⟨o, es, ep, hs _ _ (Ne.symm nl) e, r⟩
  have cl' : ∀ x a v, env.cells.lookup x = some a → h.IsCell a v → h'.IsCell a v := fun x a v e q => let ⟨o, ho, r⟩ := q; ⟨o, hs _ _ (nc x a e) ho, r⟩
  refine ⟨F.sc, F.ok, F.gl, F.bl, fun b o eb => hs b o (fun q => ?_) (F.base b o eb), F.sub, fun a xa => ⟨?_, (F.fresh a xa).2⟩, ⟨xl, m, n'⟩, fun x a e => ⟨(F.cells x a e).1, let ⟨v, cl⟩ := (F.cells x a e).2; ⟨v, cl' x a v e cl⟩⟩, F.apart, F.celled, fun x e q => ?_, fun x y l m v ne a b => (no x l a).elim, fun x d a q => (no x d q).elim⟩
  · have := (F.fresh p xp).2; rw [← q, eb] at this; cases this
  · by_cases q : a = p
    · rw [q]; exact sp
    · obtain ⟨o, ho⟩ := Option.isSome_iff_exists.mp (F.fresh a xa).1
      rw [hs a o q ho]; rfl
  · obtain ⟨v, vx, r⟩ := F.var x e q
    refine ⟨v, ?_, ?_⟩
    · rcases vx with ⟨kx, m', n1, e1⟩ | ⟨kx, a, l, cl⟩
      · exact .inl ⟨kx, m, n', by rw [ns_fun nl' n1]; exact e1⟩
      · exact .inr ⟨kx, a, l, cl' x a _ l cl⟩
    · cases e with
      | imm d => exact Rep.pres (fun b o nx e => hs b o (fun q => nx (q ▸ xp)) e) d v r
      | own d => exact (no x d q).elim
theorem lookup_of_nodup {x : Str × NameKind} : ∀ {names : List (Str × NameKind)}, (names.map (·.1)).Nodup → x ∈ names → names.lookup x.1 = some x.2
  | [], _, m => by cases m
  | (n, k) :: r, hn, m => by
    have hn' := List.nodup_cons.mp hn
    rw [List.lookup_cons]
    rcases List.mem_cons.mp m with rfl | m
    · simp
    · have : x.1 ≠ n := fun q => hn'.1 (by rw [← q]; exact List.mem_map_of_mem (f := (·.1)) m)
      rw [show (x.1 == n) = false by simpa using this]
      exact lookup_of_nodup hn'.2 m
end
theorem vs1 {α : Type} {P : List α → Prop} {vs : List α} {n : Nat} (e : vs.length = n) (h : ∀ a, P [a]) (hn : n = 1 := by rfl) : P vs := by
  obtain ⟨a, rfl⟩ := List.length_eq_one_iff.mp (e.trans hn); exact h a
theorem vsC {α : Type} {P : List α → Prop} {vs : List α} {n m : Nat} (e : vs.length = n) (hn : n = m + 1) (h : ∀ a r, r.length = m → P (a :: r)) : P vs := by
  cases vs with
  | nil => rw [hn] at e; cases e
  | cons a r => exact h a r (Nat.succ.inj (e.trans hn))
theorem vs2 {α : Type} {P : List α → Prop} {vs : List α} {n : Nat} (e : vs.length = n) (h : ∀ a b, P [a, b]) (hn : n = 2 := by rfl) : P vs := vsC e hn fun a _ e => vs1 (P := fun r => P (a :: r)) e fun b => h a b
theorem vs3 {α : Type} {P : List α → Prop} {vs : List α} {n : Nat} (e : vs.length = n) (h : ∀ a b c, P [a, b, c]) (hn : n = 3 := by rfl) : P vs := vsC e hn fun a _ e => vs2 (P := fun r => P (a :: r)) e fun b c => h a b c
theorem vs4 {α : Type} {P : List α → Prop} {vs : List α} {n : Nat} (e : vs.length = n) (h : ∀ a b c d, P [a, b, c, d]) (hn : n = 4 := by rfl) : P vs := vsC e hn fun a _ e => vs3 (P := fun r => P (a :: r)) e fun b c d => h a b c d
theorem vs5 {α : Type} {P : List α → Prop} {vs : List α} {n : Nat} (e : vs.length = n) (h : ∀ a b c d f, P [a, b, c, d, f]) (hn : n = 5 := by rfl) : P vs := vsC e hn fun a _ e => vs4 (P := fun r => P (a :: r)) e fun b c d f => h a b c d f
theorem at_and1 {c : SC} {k : Nat} {G : Ctx} {e : Expr} {a : Bool} (h : IT c k G e a) : AT .And c k G [e] a := by
  have := at_and h (fun _ => at_and0 (c := c) (k := k) (G := G)); rwa [Bool.and_true] at this
theorem at_or1 {c : SC} {k : Nat} {G : Ctx} {e : Expr} {a : Bool} (h : IT c k G e a) : AT .Or c k G [e] a := by
  have := at_or h (fun _ => at_or0 (c := c) (k := k) (G := G)); rwa [Bool.or_false] at this
noncomputable def psOf (f : Str) : Arguments := ((pw.theDef f).getD (⟨[], [], none, [], [], none, []⟩, [], default)).1
noncomputable def bodyOf (f : Str) : List Stmt := ((pw.theDef f).getD (⟨[], [], none, [], [], none, []⟩, [], default)).2.1
noncomputable def scOf (f : Str) : Scope := ((pw.theDef f).getD (⟨[], [], none, [], [], none, []⟩, [], default)).2.2
theorem si_at {l : List D} {i : Int} {d : D} (h : (if i < 0 then l[(i + l.length).toNat]? else l[i.toNat]?) = some d) (h1 : -(l.length : Int) ≤ i) (hl : l.length ≤ 2 ^ 24) : SI (.list l) (.int i) d := by
  by_cases q : i < 0
  · rw [if_pos q] at h
    have e : i = -((-i).toNat : Int) := by lia
    rw [e]
    refine si_back ?_ (by lia) (by lia) (by lia)
    rw [show l.length - (-i).toNat = (i + l.length).toNat by lia]; exact h
  · rw [if_neg q] at h
    have e : i = (i.toNat : Int) := by lia
    have : i.toNat < l.length := by
      rcases Nat.lt_or_ge i.toNat l.length with z | z
      · exact z
      · rw [List.getElem?_eq_none z] at h; cases h
    rw [e]
    exact si_list h (by exact Nat.lt_trans this (Nat.lt_of_le_of_lt hl (by decide)))
open PySem.StrLaws
theorem range'_pre {lo n a : Nat} {pre post : List Nat} (h : List.range' lo n = pre ++ a :: post) : ∀ k, lo ≤ k → k < a → k ∈ pre := by
  intro k h1 hk
  have hL : n = pre.length + (post.length + 1) := by simpa using congrArg List.length h
  have hlen : lo + pre.length = a := by
    have h1 : (List.range' lo n)[pre.length]? = some a := by rw [h]; simp
    rw [List.getElem?_range' (by lia)] at h1
    simpa using h1
  have h2 : (List.range' lo n)[k - lo]? = pre[k - lo]? := by rw [h, List.getElem?_append_left (by lia)]
  rw [List.getElem?_range' (by lia)] at h2
  have h3 : pre[k - lo]? = some k := by rw [← h2]; simp; lia
  exact List.mem_of_getElem? h3
theorem range'_lo {lo n a : Nat} {pre post : List Nat} (h : List.range' lo n = pre ++ a :: post) : lo ≤ a := by
  have : a ∈ List.range' lo n := by rw [h]; simp
  rw [List.mem_range'] at this
  obtain ⟨i, _, e⟩ := this; exact Nat.le_trans (Nat.le_add_right _ _) (Nat.le_of_eq e.symm)
theorem findIn_spec (x y : Str) (lo hi : Nat) : (findIn x y lo hi = -1 ∧ ∀ i, lo ≤ i → ¬ At x y hi i) ∨ ∃ i : Nat, findIn x y lo hi = i ∧ lo ≤ i ∧ At x y hi i ∧ ∀ k, lo ≤ k → k < i → ¬ At x y hi k := by
  unfold findIn
  rw [occ_eq]
  rcases occ_first x y hi 1 (Nat.le_refl _) (List.range' lo (hi + 1 - lo)) lo (fun i m => by rw [List.mem_range'] at m; obtain ⟨i, _, e⟩ := m; exact Nat.le_trans (Nat.le_add_right _ _) (Nat.le_of_eq e.symm)) with ⟨h0, hn⟩ | ⟨pre, a, post, e, h0, ha, hn⟩
  · refine .inl ⟨by rw [h0], fun i hi' hA => hn i ?_ hA⟩
    have := hA.1; rw [List.mem_range']; exact ⟨i - lo, by lia, by lia⟩
  · refine .inr ⟨a, ?_, range'_lo e, ha, fun k h1 hk => hn k (range'_pre e k h1 hk)⟩
    generalize (forIn (List.range' lo (hi + 1 - lo)) ((#[] : Array Nat), lo) (occBody x y hi 1)).run.fst = arr at h0
    have h1 : arr.toList[0]? = some a := by simpa using h0
    cases hL : arr.toList with
    | nil => rw [hL] at h1; cases h1
    | cons b t => rw [hL] at h1; simp at h1; rw [h1]
theorem rfindIn_spec (x y : Str) (lo hi : Nat) : (rfindIn x y lo hi = -1 ∧ ∀ i, lo ≤ i → ¬ At x y hi i) ∨ ∃ i : Nat, rfindIn x y lo hi = i ∧ lo ≤ i ∧ At x y hi i ∧ ∀ k, i < k → ¬ At x y hi k := by
  unfold rfindIn
  rw [last_eq]
  have key := last_run x y hi (List.range' lo (hi + 1 - lo)) [] none (fun _ h => nomatch h) (fun _ h => nomatch h) (List.pairwise_lt_range' (s := lo) (n := hi + 1 - lo))
  have mem : ∀ i, lo ≤ i → At x y hi i → i ∈ [] ++ List.range' lo (hi + 1 - lo) := fun i h1 hi' => by
    have := hi'.1; rw [List.nil_append, List.mem_range']; exact ⟨i - lo, by lia, by lia⟩
  have fin : ∀ (l : List Nat) (st : Option Nat), (∀ i ∈ l, lo ≤ i) → (∀ a, st = some a → lo ≤ a) → ∀ a, (forIn l st (lastBody x y hi)).run = some a → lo ≤ a := by
    intro l
    induction l with
    | nil => intro st _ h a e; exact h a e
    | cons b l ih =>
      intro st hl hs a e
      rw [List.forIn_cons] at e
      unfold lastBody at e
      by_cases hc : b + y.length ≤ hi ∧ Builtin.Str.subAt x y b = true
      · rw [if_pos hc] at e
        exact ih (some b) (fun i m => hl i (List.mem_cons_of_mem _ m)) (fun a q => by cases q; exact hl b (List.mem_cons_self ..)) a e
      · rw [if_neg hc] at e
        exact ih st (fun i m => hl i (List.mem_cons_of_mem _ m)) hs a e
  cases hr : (forIn (List.range' lo (hi + 1 - lo)) none (lastBody x y hi)).run with
  | none => rw [hr] at key; exact .inl ⟨rfl, fun i h1 hi' => key i (mem i h1 hi') hi'⟩
  | some a =>
    rw [hr] at key
    have hlo := fin (List.range' lo (hi + 1 - lo)) none (fun i m => by rw [List.mem_range'] at m; obtain ⟨j, _, e⟩ := m; exact Nat.le_trans (Nat.le_add_right _ _) (Nat.le_of_eq e.symm)) (fun _ q => by cases q) a hr
    exact .inr ⟨a, rfl, hlo, key.1, fun k hk hA => key.2 k (mem k (by exact Nat.le_of_lt (Nat.lt_of_le_of_lt hlo hk)) hA) hk hA⟩
theorem at_one {x : Str} {c hi i : Nat} : At x ⟨#[c]⟩ hi i ↔ i + 1 ≤ hi ∧ x.cps.toList[i]? = some c := by
  unfold At
  have : (⟨#[c]⟩ : Str).length = 1 := rfl
  rw [this]
  refine and_congr_right fun _ => ?_
  unfold Builtin.Str.subAt
  rw [this, beq_iff_eq]
  constructor
  · intro e
    have := congrArg (fun a : Array Nat => a.toList) e
    simp only [Array.toList_extract, List.extract_eq_drop_take] at this
    have h2 : ((x.cps.toList.drop i).take 1)[0]? = some c := by
      rw [show i + 1 - i = 1 by exact Nat.add_sub_cancel_left _ _] at this
      rw [this]; rfl
    rw [List.getElem?_take_of_lt (by exact by decide), List.getElem?_drop] at h2
    exact h2
  · intro e
    apply Array.toList_inj.mp
    simp only [Array.toList_extract, List.extract_eq_drop_take]
    rw [show i + 1 - i = 1 by exact Nat.add_sub_cancel_left _ _]
    have hd : x.cps.toList.drop i = c :: x.cps.toList.drop (i + 1) := by
      have hi' : i < x.cps.toList.length := by
        rcases Nat.lt_or_ge i x.cps.toList.length with q | q
        · exact q
        · rw [List.getElem?_eq_none q] at e; cases e
      rw [List.drop_eq_getElem_cons hi']
      rw [List.getElem?_eq_getElem hi'] at e
      cases e; rfl
    rw [hd]; rfl
theorem find_is (x y : Str) : Txt.find x y = findIn x y 0 x.length := rfl
theorem bo_join {l m : List D} (h : l.length + m.length ≤ 2 ^ 24) : BO .Add (.list l) (.list m) (.list (l ++ m)) := fun w hb A X s u v n O live ru rv => by
  obtain ⟨a, us, rfl, na, ⟨n1, e1⟩, rl1⟩ := ru.plain_of
  obtain ⟨b, vs, rfl, nb, ⟨n2, e2⟩, rl2⟩ := rv.plain_of
  refine PySem.P.add_list e1 e2 ⟨kPush s _ _, ?_⟩ (by rw [List.size_toArray, List.size_toArray, rl1.length, rl2.length]; exact h)
  have gp : Grow s.heap (s.heap.push { cls := .type "list", data := .seq (us.toArray ++ vs.toArray) }) := fun _ _ e => Heap.get?_push_of_some _ e
  simp only [Rep]
  refine ⟨_, us ++ vs, rfl, fun x => ?_, ⟨_, by rw [← List.append_toArray]; exact Heap.get?_push_size _ rfl⟩, RepL.pres gp.pres _ _ (RepL.append rl1 rl2)⟩
  have := live _ x; rw [none_of_le (Nat.le_refl _)] at this; cases this
section
variable {c : SC} {k : Nat} {G : Ctx}
theorem RepL.mk {w : World} {X : Addr → Prop} {h : Heap} : ∀ {ds : List D} {vs : List Value}, vs.length = ds.length → (∀ (i : Nat) (d : D) (v : Value), ds[i]? = some d → vs[i]? = some v → Rep w X h d v) → RepL w X h ds vs
  | [], [], _, _ => RepL.nil
  | [], _ :: _, l, _ => by simp at l
  | _ :: _, [], l, _ => by simp at l
  | d :: ds, v :: vs, l, r => by
    simp only [RepL]
    exact ⟨v, vs, rfl, r 0 d v rfl rfl, RepL.mk (by simpa using l) fun i d' v' a b => r (i + 1) d' v' a b⟩
theorem RepL.of_items {w : World} {X : Addr → Prop} {h : Heap} {a c : Int} {n : Nat} {acc : Array Value} (r : ItemsOf (fun i v => ∃ t, v = .int (a + i * c) t) acc n) : RepL w X h (rangeL a c n) acc.toList := by
  obtain ⟨h1, h2⟩ := r
  refine RepL.mk (by rw [rangeL, List.length_map, List.length_range, Array.length_toList, h1]) fun i d v hd hv => ?_
  obtain ⟨t, rfl⟩ := h2 i v (by rw [← Array.getElem?_toList]; exact hv)
  simp only [rangeL, List.getElem?_map] at hd
  rcases Nat.lt_or_ge i n with q | q
  · rw [show (List.range n)[i]? = some i by simp [q]] at hd; simp only [Option.map_some, Option.some.injEq] at hd; subst hd; exact rep_int
  · rw [List.getElem?_eq_none (by rw [List.length_range]; exact q)] at hd; cases hd
theorem ev_listrange {p pos p2 pos2 : Pos} {e f : Expr} {a b : Int} {n : Nat} (ml : In c.gs "list") (m : In c.gs "range") (he : EV c k G e (.int a)) (hf : EV c k G f (.int b)) (hb' : b = a + n) (h1 : -(2 ^ 24) ≤ a) (h2 : b ≤ 2 ^ 24) (hn : n ≤ 2 ^ 24) (hp : Plain [e, f] := by intro _ _; rfl)
    (hev : ∀ env, eval (.Call (.Name "range" p) [e, f] [] pos) env = (do callWith pos (← eval (.Name "range" p) env) [] (backTo pos (starEach [e, f] env)) (backToKw pos (keywordEach [] env))) := by intro _; rfl) (hst : ∀ env, starEach [e, f] env = (false, eval e env) :: starEach [f] env := by intro _; rfl) (hst2 : ∀ env, starEach [f] env = (false, eval f env) :: starEach [] env := by intro _; rfl)
    (hev2 : ∀ env, eval (.Call (.Name "list" p2) [.Call (.Name "range" p) [e, f] [] pos] [] pos2) env = (do callWith pos2 (← eval (.Name "list" p2) env) [] (backTo pos2 (starEach [.Call (.Name "range" p) [e, f] [] pos] env)) (backToKw pos2 (keywordEach [] env))) := by intro _; rfl) (hp2 : Plain [.Call (.Name "range" p) [e, f] [] pos] := by intro _ _; rfl) :
    EV c k G (.Call (.Name "list" p2) [.Call (.Name "range" p) [e, f] [] pos] [] pos2) (.list (rangeL a 1 n)) := fun w hb A X₀ X env s O F => by
  obtain ⟨mg, mb, T⟩ := O.base.tops
  obtain ⟨t1, t2⟩ := T.blt ("list", .type "list") (by decide)
  refine Call_ (wp_blt F ml T.g t1 T.b t2 ?_) (hev2 env)
  refine PySem.callWith_type (any_of_all (hp2 env pos2)) (evalArgs_all (hp2 env pos2) (wpAny_items_cons ?_ (by rfl)))
  refine ev_type (id := "range") O F m (by decide) (evs_cons he (evs_cons hf evs_nil hst2) hst) hp hev (fun vs s₁ k1 r1 => ?_) fun _ _ x => x
  obtain ⟨v, u, rfl, rv, ru⟩ := r1.two_of
  obtain ⟨t, rfl⟩ := rv.int_of
  obtain ⟨t', rfl⟩ := ru.int_of
  have e1 : Builtin.Range.rangeSize a b 1 = n := by
    unfold Builtin.Range.rangeSize; simp only [Int.reduceGT, if_true]; split <;> lia
  refine call_range_2 (wpAny_items_nil ?_)
  have k2 : Keeps s { s₁ with heap := s₁.heap.push { cls := .type "range", data := .fields #[.int a t, .int b t', .int 1 s₁.toks] }, toks := s₁.toks + 1 } := kT k1 (kPush s₁ _ _)
  have F2 := F.grow (kH k2)
  refine call_list_range O.handled (Heap.get?_push_size _ rfl) (smallR e1 (by lia) (by lia) (by exact ⟨by decide, by decide⟩) (by exact ⟨Int.le_trans (by decide) (Int.natCast_nonneg _), Int.le_trans (Int.ofNat_le.mpr hn) (by decide)⟩)) e1 hn fun h' tk acc' c' hk ho hi => ?_
  refine ⟨kT k2 ⟨h', tk, rfl, hk⟩, ?_⟩
  simp only [Rep]
  refine ⟨_, acc'.toList, rfl, F2.notX (none_of_le (Nat.le_refl _)), ⟨c', by simpa using ho⟩, RepL.of_items hi⟩
noncomputable def intsOf : List Expr → Option (List Int)
  | [] => some []
  | e :: r => match intE e with
    | some i => (match intsOf r with | some l => some (i :: l) | Option.none => Option.none)
    | Option.none => Option.none
theorem intsOf_cons {e : Expr} {r : List Expr} {ns : List Int} (h : intsOf (e :: r) = some ns) : ∃ i l n p, e = .Constant (.int i) n p ∧ intsOf r = some l ∧ ns = i :: l := by
  unfold intsOf at h
  cases h1 : intE e with
  | none => rw [h1] at h; cases h
  | some i =>
    rw [h1] at h
    cases h2 : intsOf r with
    | none => rw [h2] at h; cases h
    | some l =>
      rw [h2] at h; cases h
      obtain ⟨n, p, e⟩ := intE_eq h1
      exact ⟨i, l, n, p, e, rfl, rfl⟩
theorem evs_ints {es : List Expr} : ∀ {ns : List Int}, intsOf es = some ns → EVS c k G es (ns.map D.int) := by
  induction es with
  | nil => intro ns h; cases h; exact evs_nil
  | cons e r ih =>
    intro ns h
    obtain ⟨i, l, n, p, rfl, h2, rfl⟩ := intsOf_cons h
    exact evs_cons ev_int (ih h2)
theorem es_assign_ints {G' : Ctx} {x : Str} {p lp pos : Pos} {es : List Expr} (ns : List Int) (h : intsOf es = some ns) (hl : ns.length ≤ 1000) (q : Put c.ns G x (.imm (.list (ns.map D.int))) G') : ES c k G (.Assign [.Name x p] (.List es lp) pos) (.next G') :=
  es_assign (evn_list (evs_ints h) (by rw [List.length_map]; exact Nat.le_trans hl (by decide))).ev q
end
noncomputable def GV (vs : List V) (n : Nat) : Ctx := vs.map some ++ List.replicate n Option.none
theorem has_GV {more : List Str} {n : Nat} {x : Str} {e : V} : ∀ {names : List Str} {ds : List V}, names.length = ds.length → Has (names ++ more) (GV ds n) x e → ∃ i : Nat, names[i]? = some x ∧ ds[i]? = some e
  | [], [], _, h => absurd h has_none
  | m :: names, d :: ds, l, h => by
    cases h with
    | head => exact ⟨0, rfl, rfl⟩
    | tail h =>
      obtain ⟨i, b, c⟩ := has_GV (by simpa using l) h
      exact ⟨i + 1, by simpa using b, by simpa using c⟩
  | [], _ :: _, l, _ => by simp at l
  | _ :: _, [], l, _ => by simp at l
theorem call_coreE {f : Str} {k : Nat} {vl : List V} {ps : Arguments} {b : List Stmt} {sc : Scope} {c : SC} {more : List Str} (hdef : pw.theDef f = some (ps, b, sc)) (hc : c.sc = sc) (ok : c.ok = true)
    (hns : c.ns = ps.args.map (·.arg) ++ more) (hlen : (ps.args.map (·.arg)).length = vl.length) (hnolim : ∀ w h, Base w h → h.NoLimit)
    (hbind : ∀ pm cd doc (vs : List Value), vs.length = vl.length → bindArgs (docDef f ps b sc pm cd doc) ⟨vs, []⟩ = pure ((ps.args.map (·.arg)).zip vs))
    (hco : sc.isCoroutine = false) (hgen : sc.isGenerator = false) {w : World} {hb : Heap} {A : Around} {X₀ X : Addr → Prop} {s : Shared} {vs : List Value} {a : Addr} {Q : Value → Shared → Prop} (O : Ok w hb A (k + 1)) (g : Grow hb s.heap)
    (fr : ∀ a, X a → (s.heap.get? a).isSome = true ∧ hb.get? a = Option.none) (sub : ∀ b, X₀ b → X b) (fn : IsFn hb f a) (rlen : vs.length = vl.length)
    (rl : ∀ (i : Nat) (v : V) (u : Value), vl[i]? = some v → vs[i]? = some u → RepV w X₀ X s.heap v u) (own1 : ∀ (i j : Nat) (d e : D) (u : Value), i ≠ j → vl[i]? = some (.own d) → vl[j]? = some (.own e) → vs[i]? = some u → vs[j]? ≠ some u)
    (h : ∀ (A' : Around) (X' : Addr → Prop) (env : Env) (H1 : Heap) (T1 : Nat), Ok w hb A' k → Grow s.heap H1 → (∀ b, (s.heap.get? b).isSome = true → X' b → X b) → FS c w hb X₀ X' env H1 (GV vl more.length) → ((∃ o pm doc, hb.get? a = some o ∧ o.data = .func (docDef f ps b sc pm env.code doc)) ∧ env.qual = f ++ ".<locals>.") →
      wpAny (model pw w) A' (execs b env) (fun fl s' => ∃ v, fl = .ret v ∧ Q v s') (fun _ _ => False) { s with heap := H1, toks := T1 }) : wpAny (model pw w) A (call (.ref a) vs) Q (fun _ _ => False) s := by
  obtain ⟨o, pm, cd, doc, ps', b', sc', h1, h2, h3, h4⟩ := fn
  rw [hdef] at h1; cases h1
  subst hc
  have nd : (ps.args.map (·.arg)).Nodup := by have := SC.ok_nodup ok; rw [hns] at this; exact (List.nodup_append.mp this).1
  have kf : c.sc.kind = .function := by
    have := ok
    simp only [SC.ok, Bool.and_eq_true, beq_iff_eq] at this
    exact this.1.1.1
  have kinds : ∀ x ∈ ps.args.map (·.arg), c.sc.names.lookup x = some .local ∨ c.sc.names.lookup x = some .cell := fun x hx => (SC.ok_var ok (by rw [hns]; exact List.mem_append_left _ hx)).1
  refine wpAny_call (codeAny_call_cells (body := b) (binds := (ps.args.map (·.arg)).zip vs) (by have := O.depth; exact Nat.lt_of_le_of_lt (Nat.le_add_right _ _) this) (g _ _ h2) h3 ((hnolim w hb O.base).keeps g) (h4.keeps g) rfl (hbind pm cd doc vs rlen) rfl (fun x hx => ?_) (fun s1 I => ?_) hco hgen kf)
  · rcases kinds x.1 (List.of_mem_zip hx).1 with q | q
    · exact .inl q
    · exact .inr ⟨q, cellsFrom_some _ _ _ (.inl q)⟩
  generalize hfd : docDef f ps b c.sc pm cd doc = fd at I h3
  have es : (callEnvC fd s.heap.objs.size a).scope = c.sc := by subst hfd; rfl
  have eg : (callEnvC fd s.heap.objs.size a).globals = mainGlobals := by subst hfd; rfl
  have eb : (callEnvC fd s.heap.objs.size a).builtins = builtinsNs := by subst hfd; rfl
  have el : (callEnvC fd s.heap.objs.size a).locals = s.heap.objs.size := rfl
  have eq : (callEnvC fd s.heap.objs.size a).qual = f ++ ".<locals>." := by subst hfd; rfl
  have ecd : (callEnvC fd s.heap.objs.size a).code = cd := by subst hfd; rfl
  have ec : (callEnvC fd s.heap.objs.size a).cells = cellsFrom (s.heap.objs.size + 1) c.sc.names [] := by subst hfd; rfl
  generalize hE : callEnvC fd s.heap.objs.size a = env at I es eg eb el ec eq ecd
  obtain ⟨H1, T1, rfl⟩ := I.toInCall.same
  have keep : Grow s.heap H1 := I.toInCall.keep
  have nl : s.heap.get? env.locals = Option.none := by rw [el]; exact none_of_le (Nat.le_refl _)
  have nc : ∀ x b, env.cells.lookup x = some b → s.heap.get? b = Option.none := fun x b e => by
    have hgt := I.above x b (mem_of_lookup e)
    rw [el] at hgt
    exact none_of_le (Nat.le_of_lt hgt)
  have nX : ∀ b, s.heap.get? b = Option.none → ¬ X b := fun b e x => by have := (fr b x).1; rw [e] at this; cases this
  have nb : ∀ b, s.heap.get? b = Option.none → hb.get? b = Option.none := fun b e => by
    cases q : hb.get? b with
    | none => rfl
    | some o => rw [g _ o q] at e; cases e
  have ko : ∀ x, env.kindOf x = c.sc.names.lookup x := fun x => by show env.scope.names.lookup x = _; rw [es]
  let X' : Addr → Prop := fun b => X b ∨ b = env.locals ∨ ∃ x, env.cells.lookup x = some b
  have X'old : ∀ b, (s.heap.get? b).isSome = true → X' b → X b := fun b hb x => by
    rcases x with x | rfl | ⟨x, hx⟩
    · exact x
    · rw [nl] at hb; cases hb
    · rw [nc x b hx] at hb; cases hb
  have vars : ∀ x e, Has c.ns (GV vl more.length) x e → ∃ (i : Nat) (v : Value), (ps.args.map (·.arg))[i]? = some x ∧ vl[i]? = some e ∧ vs[i]? = some v ∧ VarIs env H1 x v := fun x e q => by
    rw [hns] at q
    obtain ⟨i, hx, hd⟩ := has_GV hlen q
    obtain ⟨v, hv⟩ : ∃ v, vs[i]? = some v := by
      have hi : i < vs.length := by
        rw [rlen]
        rcases Nat.lt_or_ge i vl.length with z | z
        · exact z
        · rw [List.getElem?_eq_none z] at hd; cases hd
      exact ⟨vs[i], by simp [hi]⟩
    refine ⟨i, v, hx, hd, hv, ?_⟩
    rcases kinds x (List.mem_of_getElem? hx) with kx | kx
    · exact .inl ⟨(ko x).trans kx, _, I.toInCall.ns, bindL_at ((ko x).trans kx) _ _ i _ nd hx hv⟩
    · have kx' := (ko x).trans kx
      obtain ⟨b, hb'⟩ := Option.isSome_iff_exists.mp (show (env.cells.lookup x).isSome = true by rw [ec]; exact cellsFrom_some _ _ _ (.inl kx))
      refine .inr ⟨kx', b, hb', ?_⟩
      have := I.cell x b hb'
      rw [bindC_at (by rw [kx']; decide) _ _ i _ nd hx hv] at this
      exact this
  have F : FS c w hb X₀ X' env H1 (GV vl more.length) := by
    refine ⟨es, ok, eg, eb, g.trans keep, fun b x => .inl (sub b x), fun b x => ?_, ⟨⟨.inr (.inl rfl), fun x => nX _ nl (sub _ x)⟩, _, I.toInCall.ns⟩, fun x b e => ⟨⟨.inr (.inr ⟨x, e⟩), fun z => nX _ (nc x b e) (sub _ z)⟩, _, I.cell x b e⟩, I.apart, fun x e => ?_, fun x e q => ?_, fun x y l m v ne p q v1 => ?_, fun x d b p q => ?_⟩
    · rcases x with x | rfl | ⟨x, hx⟩
      · obtain ⟨o, ho⟩ := Option.isSome_iff_exists.mp (fr b x).1
        exact ⟨by rw [keep b o ho]; rfl, (fr b x).2⟩
      · exact ⟨by obtain ⟨o, _, _, e, _⟩ := I.toInCall.ns; rw [e]; rfl, nb _ nl⟩
      · exact ⟨by obtain ⟨o, e, _⟩ := I.cell x b hx; rw [e]; rfl, nb _ (nc x b hx)⟩
    · rw [ec]; exact cellsFrom_some _ _ _ (.inl e)
    · obtain ⟨i, v, hx, hd, hv, vx⟩ := vars x e q
      refine ⟨v, vx, ?_⟩
      have rv := rl i e v hd hv
      cases e with
      | imm d' => exact Rep.pres keep.pres d' v (Rep.weak X'old d' v rv)
      | own d' => obtain ⟨b, e, xb, x0, r⟩ := rv; exact ⟨b, e, .inl xb, x0, (r.weak X'old).pres keep.pres fun o e => keep _ _ e⟩
    · intro v2
      obtain ⟨i, u1, hx, hd, hv, vx⟩ := vars x _ p
      obtain ⟨j, u2, hy, hd2, hv2, vy⟩ := vars y _ q
      have := VarIs.uniq vx ‹VarIs env H1 x v›; subst this
      have := VarIs.uniq vy v2; subst this
      exact own1 i j l m _ (fun z => ne (by rw [← z, hx] at hy; exact Option.some.inj hy)) hd hd2 hv hv2
    · obtain ⟨i, u1, hx, hd, hv, vx⟩ := vars x _ p
      have := VarIs.uniq q vx; subst this
      obtain ⟨b', e, xb, _, r⟩ := rl i _ _ hd hv
      cases e
      intro z
      have := r.some
      rw [z, nl] at this; cases this
  have O' : Ok w hb (A.deeper env) k := ⟨O.handled, by have := O.depth; show A.depth + 1 + k < _; lia, by have := O.units; show A.units + 3 + 10 * k + 100 < _; lia, O.base⟩
  refine wpAny_mono (h (A.deeper env) X' env H1 T1 O' keep X'old F ⟨⟨o, pm, doc, h2, by rw [h3, ecd, ← hfd]⟩, eq⟩) (fun fl s' u => ?_) fun _ _ x => x.elim
  obtain ⟨v, rfl, q⟩ := u
  exact q
theorem call_core {f : Str} {k : Nat} {vl : List V} {ps : Arguments} {b : List Stmt} {sc : Scope} {c : SC} {more : List Str} (hdef : pw.theDef f = some (ps, b, sc)) (hc : c.sc = sc) (ok : c.ok = true)
    (hns : c.ns = ps.args.map (·.arg) ++ more) (hlen : (ps.args.map (·.arg)).length = vl.length) (hnolim : ∀ w h, Base w h → h.NoLimit)
    (hbind : ∀ pm cd doc (vs : List Value), vs.length = vl.length → bindArgs (docDef f ps b sc pm cd doc) ⟨vs, []⟩ = pure ((ps.args.map (·.arg)).zip vs))
    (hco : sc.isCoroutine = false) (hgen : sc.isGenerator = false) {w : World} {hb : Heap} {A : Around} {X₀ X : Addr → Prop} {s : Shared} {vs : List Value} {a : Addr} {Q : Value → Shared → Prop} (O : Ok w hb A (k + 1)) (g : Grow hb s.heap)
    (fr : ∀ a, X a → (s.heap.get? a).isSome = true ∧ hb.get? a = Option.none) (sub : ∀ b, X₀ b → X b) (fn : IsFn hb f a) (rlen : vs.length = vl.length)
    (rl : ∀ (i : Nat) (v : V) (u : Value), vl[i]? = some v → vs[i]? = some u → RepV w X₀ X s.heap v u) (own1 : ∀ (i j : Nat) (d e : D) (u : Value), i ≠ j → vl[i]? = some (.own d) → vl[j]? = some (.own e) → vs[i]? = some u → vs[j]? ≠ some u)
    (h : ∀ (A' : Around) (X' : Addr → Prop) (env : Env) (H1 : Heap) (T1 : Nat), Ok w hb A' k → Grow s.heap H1 → (∀ b, (s.heap.get? b).isSome = true → X' b → X b) → FS c w hb X₀ X' env H1 (GV vl more.length) →
      wpAny (model pw w) A' (execs b env) (fun fl s' => ∃ v, fl = .ret v ∧ Q v s') (fun _ _ => False) { s with heap := H1, toks := T1 }) : wpAny (model pw w) A (call (.ref a) vs) Q (fun _ _ => False) s :=
  call_coreE hdef hc ok hns hlen hnolim hbind hco hgen O g fr sub fn rlen rl own1 fun A' X' env H1 T1 a b c d _ => h A' X' env H1 T1 a b c d
noncomputable def FCO (f : Str) (k : Nat) (ds : List D) (d d' : D) : Prop :=
  ∀ (w : World) (hb : Heap) (A : Around) (X : Addr → Prop) (s : Shared) (us : List Value) (t a : Addr), Ok w hb A k → Grow hb s.heap → (∀ a, X a → (s.heap.get? a).isSome = true ∧ hb.get? a = Option.none) → IsFn hb f a → RepL w X s.heap ds us → X t → Held w X s.heap d t →
    wpAny (model pw w) A (call (.ref a) (us ++ [.ref t])) (fun v s' => ∃ t' h' tk, v = .ref t' ∧ s' = { s with heap := h', toks := tk } ∧ (∀ b o, b ≠ t → s.heap.get? b = some o → h'.get? b = some o) ∧ (t' = t ∨ s.heap.get? t' = Option.none) ∧ Held w (fun b => (X b ∧ b ≠ t) ∨ b = t') h' d' t') (fun _ _ => False) s
theorem fco_of_body {f : Str} {k : Nat} {ds : List D} {d d' : D} {ps : Arguments} {st : Stmt} {x : Str} {p pos : Pos} {sc : Scope} {c : SC} {more : List Str} {G2 : Ctx} (hdef : pw.theDef f = some (ps, [st, .Return (some (.Name x p)) pos], sc)) (hc : c.sc = sc) (ok : c.ok = true)
    (hns : c.ns = ps.args.map (·.arg) ++ more) (hlen : (ps.args.map (·.arg)).length = ds.length + 1)
    (hbind : ∀ pm cd doc (vs : List Value), vs.length = ds.length + 1 → bindArgs (docDef f ps [st, .Return (some (.Name x p)) pos] sc pm cd doc) ⟨vs, []⟩ = pure ((ps.args.map (·.arg)).zip vs))
    (hco : sc.isCoroutine = false) (hgen : sc.isGenerator = false) (hst : ES c k (GV (ds.map V.imm ++ [.own d]) more.length) st (.next G2)) (hx : Has c.ns G2 x (.own d')) : FCO f (k + 1) ds d d' := fun w hb A X s us t a O g fr fn rl xt hd => by
  have ul := rl.length
  refine call_core (vl := ds.map V.imm ++ [.own d]) (X₀ := fun b => X b ∧ b ≠ t) (X := X) hdef hc ok hns (by simp [hlen]) (fun _ _ b => b.nolimit) (fun pm cd doc vs e => hbind pm cd doc vs (by simpa using e)) hco hgen O g fr (fun b q => q.1) fn (by simp [ul]) (fun i v u hv hu => ?_) (fun i j d1 e1 u ne hi hj hu hj' => ?_) fun A' X' env H1 T1 O' keep X'old F => ?_
  · rcases Nat.lt_or_ge i ds.length with q | q
    · rw [List.getElem?_append_left (by simpa using q), List.getElem?_map] at hv
      rw [List.getElem?_append_left (by exact Nat.lt_of_lt_of_le q (Nat.le_of_eq ul.symm))] at hu
      obtain ⟨dd, hdd⟩ : ∃ dd, ds[i]? = some dd := ⟨ds[i], by simp [q]⟩
      rw [hdd] at hv; cases hv
      obtain ⟨v', e, r⟩ := rl.at i hdd
      rw [hu] at e; cases e
      exact r
    · rw [List.getElem?_append_right (by simpa using q)] at hv
      rw [List.getElem?_append_right (by exact Nat.le_trans (Nat.le_of_eq ul) q)] at hu
      simp only [List.length_map] at hv
      rw [ul] at hu
      obtain ⟨n, hn⟩ : ∃ n, i - ds.length = n := ⟨_, rfl⟩
      rw [hn] at hv hu
      cases n with
      | zero => cases hv; cases hu; exact ⟨t, rfl, xt, fun q => q.2 rfl, hd⟩
      | succ n => simp at hv
  · have one : ∀ (i : Nat) (e : D), (ds.map V.imm ++ [V.own d])[i]? = some (.own e) → i = ds.length := fun i e h => by
      rcases Nat.lt_or_ge i ds.length with q | q
      · rw [List.getElem?_append_left (by simpa using q), List.getElem?_map] at h
        obtain ⟨dd, hdd⟩ : ∃ dd, ds[i]? = some dd := ⟨ds[i], by simp [q]⟩
        rw [hdd] at h; cases h
      · rw [List.getElem?_append_right (by simpa using q)] at h
        simp only [List.length_map] at h
        obtain ⟨n, hn⟩ : ∃ n, i - ds.length = n := ⟨_, rfl⟩
        rw [hn] at h
        cases n with
        | zero => lia
        | succ n => simp at h
    exact ne ((one i d1 hi).trans (one j e1 hj).symm)
  · refine wpAny_execs_cons (wpAny_mono (hst w hb A' (fun b => X b ∧ b ≠ t) X' env { s with heap := H1, toks := T1 } O' F) (fun fl s' u => ?_) fun _ _ x => x)
    obtain ⟨h', tk, rfl, pr, rfl, X2, x2, F2⟩ := u
    dsimp only at pr x2 ⊢
    obtain ⟨v, vx, t', rfl, xt', x0, hd'⟩ := F2.var x _ hx
    refine wpAny_execs_cons (wpAny_Return_some (wp_var F2 hx.mem vx ⟨_, rfl, t', h', tk, rfl, rfl, fun b o nb e => ?_, ?_, hd'.weak fun b _ z => ?_⟩))
    · refine pr b o (fun q => ?_) (keep b o e)
      exact q.2 ⟨X'old b (by rw [e]; rfl) q.1, nb⟩
    · rcases x2 t' xt' with q | q
      · cases z : s.heap.get? t' with
        | none => exact .inr rfl
        | some o =>
          left
          apply Classical.byContradiction
          intro ne
          exact x0 ⟨X'old t' (by rw [z]; rfl) q, ne⟩
      · exact .inr (none_back keep q)
    · rcases z with z | rfl
      · exact F2.sub b z
      · exact xt'
section
variable {c : SC} {k : Nat} {G G1 G' : Ctx}
theorem FS.swap {w : World} {hb : Heap} {X₀ X : Addr → Prop} {env : Env} {h h' : Heap} {x : Str} {d : D} {t t' : Addr} (F : FS c w hb X₀ X env h G) (hx : Has c.ns G x (.own d)) (vx : VarIs env h x (.ref t)) (l : Less G1 G) (hno : ∀ e, ¬ Has c.ns G1 x e)
    (hs : ∀ b o, b ≠ t → h.get? b = some o → h'.get? b = some o) (ht : t' = t ∨ h.get? t' = Option.none) (st : (h'.get? t').isSome = true) : FS c w hb X₀ (fun b => (X b ∧ b ≠ t) ∨ b = t') env h' G1 := by
  obtain ⟨u, vu, t1, e, xt, x0, hd⟩ := F.var x _ hx
  have := VarIs.uniq vx vu; subst this; cases e
  have nl := F.off x d t hx vx
  have nc := fun y b => F.nocell (y := y) (b := b) hx vx
  obtain ⟨xl, m, n⟩ := F.loc
  have n' : h'.Ns env.locals m := by obtain ⟨o, es, ep, e, r⟩ := n; exact ⟨o, es, ep, hs _ _ (Ne.symm nl) e, r⟩
  have cl' : ∀ y a v, env.cells.lookup y = some a → h.IsCell a v → h'.IsCell a v := fun y a v e q => let ⟨o, ho, r⟩ := q; ⟨o, hs _ _ (Ne.symm (nc y a e)) ho, r⟩
  have vy : ∀ y u, VarIs env h y u → VarIs env h' y u := fun y u vy => by
    rcases vy with ⟨ky, m', n1, e1⟩ | ⟨ky, b, l, cl⟩
    · exact .inl ⟨ky, m, n', by rw [ns_fun n n1]; exact e1⟩
    · exact .inr ⟨ky, b, l, cl' y b _ l cl⟩
  have back : ∀ y u e, Has c.ns G1 y e → VarIs env h' y u → VarIs env h y u := fun y u e hy v1 => by
    obtain ⟨u', a', _⟩ := F.var y _ (hy.of_less l)
    have := VarIs.uniq v1 (vy y u' a'); subst this; exact a'
  have alive : ∀ b, (h.get? b).isSome = true → ((X b ∧ b ≠ t) ∨ b = t') → X b := fun b hb' z => by
    rcases z with z | rfl
    · exact z.1
    · rcases ht with rfl | q
      · exact xt
      · rw [q] at hb'; cases hb'
  have nX₀ : ¬ X₀ t' := fun z => by
    rcases ht with rfl | q
    · exact x0 z
    · exact F.notX q (F.sub _ z)
  have hbt : hb.get? t' = Option.none := by
    rcases ht with rfl | q
    · exact (F.fresh _ xt).2
    · exact none_back F.base q
  have ne_t : ∀ b, b ≠ t → X b → ((X b ∧ b ≠ t) ∨ b = t') := fun b nb xb => .inl ⟨xb, nb⟩
  have rep : ∀ dd v, Rep w X h dd v → Rep w (fun b => (X b ∧ b ≠ t) ∨ b = t') h' dd v := fun dd v r =>
    Rep.weak (X := fun b => X b ∨ b = t') (fun b _ z => z.imp (·.1) id) dd v (Rep.pres (fun b o nx e => hs b o (fun q => nx (.inl (q ▸ xt))) e) dd v (Rep.weak (fun b hb' z => z.elim id fun q => alive b hb' (.inr q)) dd v r))
  refine ⟨F.sc, F.ok, F.gl, F.bl, fun b o eb => hs b o (fun q => ?_) (F.base b o eb), fun b z => .inl ⟨F.sub b z, fun q => x0 (q ▸ z)⟩, fun b z => ?_, ⟨⟨ne_t _ (Ne.symm nl) xl.1, xl.2⟩, m, n'⟩, fun y b e => ⟨⟨ne_t _ (Ne.symm (nc y b e)) (F.cells y b e).1.1, (F.cells y b e).1.2⟩, let ⟨v, cl⟩ := (F.cells y b e).2; ⟨v, cl' y b v e cl⟩⟩, F.apart, F.celled, fun y e hy => ?_, fun y z l1 m1 v ne a b v1 v2 => ?_, fun y d1 b hy v1 => ?_⟩
  · have := (F.fresh t xt).2; rw [← q, eb] at this; cases this
  · rcases z with z | rfl
    · obtain ⟨o, ho⟩ := Option.isSome_iff_exists.mp (F.fresh b z.1).1
      exact ⟨by rw [hs b o z.2 ho]; rfl, (F.fresh b z.1).2⟩
    · exact ⟨st, hbt⟩
  · obtain ⟨v, vyy, r⟩ := F.var y e (hy.of_less l)
    refine ⟨v, vy y v vyy, ?_⟩
    cases e with
    | imm dd => exact rep dd v r
    | own dd =>
      obtain ⟨b, e, xb, b0, rb⟩ := r
      have nb : b ≠ t := fun q => by
        subst q; subst e
        exact F.owned y x _ _ _ (fun q => hno _ (q ▸ hy)) (hy.of_less l) hx vyy vx
      refine ⟨b, e, ne_t b nb xb, b0, ?_⟩
      exact Held.weak (X := fun b => X b ∨ b = t') (fun b _ z => z.imp (·.1) id) (Held.pres (fun b o nx e => hs b o (fun q => nx (.inl (q ▸ xt))) e) (fun o e => hs b o nb e) (rb.weak fun b hb' z => z.elim id fun q => alive b hb' (.inr q)))
  · exact F.owned y z l1 m1 v ne (a.of_less l) (b.of_less l) (back y v _ a v1) (back z v _ b v2)
  · exact F.off y d1 b (hy.of_less l) (back y _ _ hy v1)
theorem es_call_own {f x : Str} {p fp xp pos apos : Pos} {e1 e2 e3 : Expr} {d1 d2 d3 d d' : D} (m : In c.gs f) (mf : f ∈ Fns) (h1 : EV c k G e1 d1) (h2 : EV c k G e2 d2) (h3 : EV c k G e3 d3) (hx : Has c.ns G x (.own d)) (hc : FCO f k [d1, d2, d3] d d')
    (l : Less G1 G) (hno : ∀ e, ¬ Has c.ns G1 x e) (q : Put c.ns G1 x (.own d') G')
    (hp : Plain [e1, e2, e3, .Name x xp] := by intro _ _; rfl) (s1 : ∀ env, starEach [e1, e2, e3, .Name x xp] env = (false, eval e1 env) :: starEach [e2, e3, .Name x xp] env := by intro _; rfl) (s2 : ∀ env, starEach [e2, e3, .Name x xp] env = (false, eval e2 env) :: starEach [e3, .Name x xp] env := by intro _; rfl)
    (s3 : ∀ env, starEach [e3, .Name x xp] env = (false, eval e3 env) :: starEach [.Name x xp] env := by intro _; rfl)
    (he : ∀ env, eval (.Call (.Name f fp) [e1, e2, e3, .Name x xp] [] pos) env = (do callWith pos (← eval (.Name f fp) env) [] (backTo pos (starEach [e1, e2, e3, .Name x xp] env)) (backToKw pos (keywordEach [] env))) := by intro _; rfl) :
    ES c k G (.Assign [.Name x p] (.Call (.Name f fp) [e1, e2, e3, .Name x xp] [] pos) apos) (.next G') := fun w hb A X₀ X env s O F => by
  obtain ⟨mg, mb, T⟩ := ht0 w hb O.base
  obtain ⟨a, hv, fn⟩ := T.fn f mf
  obtain ⟨o, pm, cd, doc, ps, b, sc, g1, g2, g3, g4⟩ := id fn
  refine wpAny_Assign_Name (Call_ (wp_fn F m T.g hv ?_) (he env)) rfl
  refine callWith_function (o := o) (fd := docDef f ps b sc pm cd doc) (evalArgs_all (hp env pos) ?_)
  refine wpAny_items_cons (wpAny_mono (h1 w hb A X₀ X env s O F) (fun u1 z1 zp => ?_) fun _ _ x => x.elim) (s1 env)
  obtain ⟨k1, r1⟩ := zp
  have F1 := F.grow (kH k1)
  refine wpAny_items_cons (wpAny_mono (h2 w hb A X₀ X env z1 O F1) (fun u2 z2 zp => ?_) fun _ _ x => x.elim) (s2 env)
  obtain ⟨k2, r2⟩ := zp
  have F2 := F1.grow (kH k2)
  refine wpAny_items_cons (wpAny_mono (h3 w hb A X₀ X env z2 O F2) (fun u3 z3 zp => ?_) fun _ _ x => x.elim) (s3 env)
  obtain ⟨k3, r3⟩ := zp
  have F3 := F2.grow (kH k3)
  obtain ⟨v, vx, t, rfl, xt, x0, hd⟩ := F3.var x _ hx
  refine wpAny_items_cons (wp_var F3 hx.mem vx (wpAny_items_nil ?_)) rfl
  refine ⟨⟨F3.base _ _ g2, g3⟩, ?_⟩
  have rl : RepL w X z3.heap [d1, d2, d3] [u1, u2, u3] := by
    simp only [RepL]
    exact ⟨u1, _, rfl, Rep.pres (kH (kT k2 k3)).pres _ _ r1, u2, _, rfl, Rep.pres (kH k3).pres _ _ r2, u3, _, rfl, r3, rfl⟩
  refine wpAny_mono (hc w hb A X z3 [u1, u2, u3] t a O F3.base F3.fresh fn rl xt hd) (fun v z4 zp => ?_) fun _ _ x => x
  obtain ⟨t', h', tk, e1, e2, hs, ht, hd'⟩ := zp
  subst e1; subst e2
  have F4 := F3.swap (h' := h') hx vx l hno hs ht hd'.some
  have nX : ¬ X₀ t' := fun z => by
    rcases ht with rfl | q
    · exact x0 z
    · exact F3.notX q (F3.sub _ z)
  have nlt : t' ≠ env.locals := fun z => by
    rcases ht with rfl | q
    · exact F3.off x d _ hx vx z
    · obtain ⟨_, mm, nn⟩ := F3.loc
      obtain ⟨o, _, _, e, _⟩ := nn
      rw [← z, q] at e; cases e
  refine wp_store (e := .own d') F4 q ⟨t', rfl, .inr rfl, nX, hd'⟩ (fun l' _ => ⟨fun b e => by cases e; exact nlt, fun y m' hy vy => ?_⟩) fun h2 tk2 F' pr _ _ _ => ?_
  · obtain ⟨u', vu, b, e, _, _, hb'⟩ := F3.var y _ (hy.of_less l)
    rcases ht with rfl | q
    · have w1 : VarIs env h' y u' := by
        have := F4.var y _ hy
        obtain ⟨u2, v2, b2, e2, _⟩ := this
        have := VarIs.uniq vy v2
        have nl := F3.off x d t' hx vx
        have nc := fun y b => F3.nocell (y := y) (b := b) hx vx
        obtain ⟨_, mm, nn⟩ := F3.loc
        rcases vu with ⟨ky, m1, n1, e1⟩ | ⟨ky, b1, l1, cl⟩
        · refine .inl ⟨ky, m1, ?_, e1⟩
          obtain ⟨o, es, ep, e, r⟩ := n1; exact ⟨o, es, ep, hs _ _ (Ne.symm nl) e, r⟩
        · refine .inr ⟨ky, b1, l1, ?_⟩
          obtain ⟨o, ho, r⟩ := cl; exact ⟨o, hs _ _ (Ne.symm (nc y b1 l1)) ho, r⟩
      have := VarIs.uniq vy w1; subst this
      exact F3.owned y x _ _ _ (fun q => hno _ (q ▸ hy)) (hy.of_less l) hx vu vx
    · have w1 := F4.var y _ hy
      obtain ⟨u2, v2, b2, e2, xb2, _, hb2⟩ := w1
      have := VarIs.uniq vy v2; subst this
      cases e2
      have w1 : VarIs env h' y u' := by
        have nl := F3.off x d t hx vx
        have nc := fun y b => F3.nocell (y := y) (b := b) hx vx
        rcases vu with ⟨ky, m1, n1, e1⟩ | ⟨ky, b1, l1, cl⟩
        · refine .inl ⟨ky, m1, ?_, e1⟩
          obtain ⟨o, es, ep, e, r⟩ := n1; exact ⟨o, es, ep, hs _ _ (Ne.symm nl) e, r⟩
        · refine .inr ⟨ky, b1, l1, ?_⟩
          obtain ⟨o, ho, r⟩ := cl; exact ⟨o, hs _ _ (Ne.symm (nc y b1 l1)) ho, r⟩
      have := VarIs.uniq vy w1; subst this
      cases e
      have := hb'.some; rw [q] at this; cases this
  · obtain ⟨H3, T3, e3, g3'⟩ := kT k1 (kT k2 k3)
    subst e3
    have hs' : ∀ b o, s.heap.get? b = some o → b ≠ t → h'.get? b = some o := fun b o e nb => hs b o nb (g3' b o e)
    refine ⟨h2, tk2, rfl, ?_, rfl, _, fun b z => ?_, F'⟩
    · refine pres_trans (X := Mu X X₀) (X1 := Mu (fun b => (X b ∧ b ≠ t) ∨ b = t') X₀) (fun b o nx e => hs' b o e (fun q => nx (q ▸ ⟨xt, x0⟩))) (fun b z => ?_) pr
      rcases z.1 with q | rfl
      · exact .inl ⟨q.1, z.2⟩
      · rcases ht with rfl | q
        · exact .inl ⟨xt, x0⟩
        · exact .inr (none_back g3' q)
    · rcases z with q | rfl
      · exact .inl q.1
      · rcases ht with rfl | q
        · exact .inl xt
        · exact .inr (none_back g3' q)
end
theorem Held.rep {w : World} {X Y : Addr → Prop} {h : Heap} {d : D} {a : Addr} (r : Held w X h d a) (ny : ¬ Y a) (xy : ∀ b, Y b → X b) : Rep w Y h d (.ref a) := by
  cases d with
  | list l =>
    obtain ⟨vs, p, q⟩ := r
    simp only [Rep]
    exact ⟨a, vs, rfl, ny, p, RepL.weak (fun b _ y => xy b y) _ _ q⟩
  | dict l =>
    obtain ⟨kvs, n, p, q⟩ := r
    simp only [Rep]
    exact ⟨a, _, rfl, ny, n, p.mapOf, (q.map (Rep.weak fun b _ y => xy b y) l kvs).toM⟩
  | _ => exact r.elim
section
variable {c : SC} {k : Nat} {G G1 G2 : Ctx}
theorem FS.freezeD {w : World} {hb : Heap} {X₀ X : Addr → Prop} {env : Env} {h : Heap} {x : Str} {d : D} {G' : Ctx} (F : FS c w hb X₀ X env h G) (hx : Has c.ns G x (.own d)) (q : Put c.ns G x (.imm d) G') :
    ∃ X' : Addr → Prop, (∀ a, X' a → X a) ∧ FS c w hb X₀ X' env h G' := by
  obtain ⟨v, vx, a, rfl, xa, x0, hd⟩ := F.var x _ hx
  have nd := SC.ok_nodup F.ok
  have nl := F.off x d a hx vx
  have nc := fun y b => F.nocell (y := y) (b := b) hx vx
  obtain ⟨xl, m, n⟩ := F.loc
  refine ⟨fun b => X b ∧ b ≠ a, fun b q => q.1, F.sc, F.ok, F.gl, F.bl, F.base, fun b q => ⟨F.sub b q, fun e => x0 (e ▸ q)⟩, fun b q => F.fresh b q.1, ⟨⟨⟨xl.1, Ne.symm nl⟩, xl.2⟩, m, n⟩, fun y b e => ?_, F.apart, F.celled, fun y u hy => ?_, fun y z l m' u ne hy hz vy => ?_, fun y d b hy vy => ?_⟩
  · obtain ⟨xb, v', cl⟩ := F.cells y b e
    exact ⟨⟨⟨xb.1, Ne.symm (nc y b e)⟩, xb.2⟩, v', cl⟩
  · rcases Has.of_put q nd hy with ⟨rfl, rfl⟩ | ⟨ne, hh⟩
    · exact ⟨_, vx, hd.rep (fun z => z.2 rfl) fun b z => z.1⟩
    · obtain ⟨u', vu, r⟩ := F.var y u hh
      refine ⟨u', vu, ?_⟩
      cases u with
      | imm d => exact Rep.weak (fun _ _ z => z.1) d u' r
      | own l =>
        obtain ⟨b, e, xb, b0, r⟩ := r
        refine ⟨b, e, ⟨xb, fun q => ?_⟩, b0, r.weak (fun _ _ z => z.1)⟩
        subst q; subst e
        exact F.owned x y _ _ _ (Ne.symm ne) hx hh vx vu
  · rcases Has.of_put q nd hy with ⟨e1, e2⟩ | ⟨n1, h1⟩
    · cases e2
    · rcases Has.of_put q nd hz with ⟨e1, e2⟩ | ⟨n2, h2⟩
      · cases e2
      · exact F.owned y z l m' u ne h1 h2 vy
  · rcases Has.of_put q nd hy with ⟨e1, e2⟩ | ⟨n1, h1⟩
    · cases e2
    · exact F.off y d b h1 vy
theorem ev_viewD {x : Str} {dx d : D} {G' : Ctx} {e : Expr} (hx : Has c.ns G x (.own dx)) (q : Put c.ns G x (.imm dx) G') (h : EV c k G' e d) (fl : d.flat := by trivial) : EV c k G e d := fun w hb A X₀ X env s O F => by
  obtain ⟨X', sub, F'⟩ := F.freezeD hx q
  exact wpAny_mono (h w hb A X₀ X' env s O F') (fun _ _ ⟨k1, r⟩ => ⟨k1, Rep.flat fl r⟩) fun _ _ x => x
theorem it_viewD {x : Str} {dx : D} {G' : Ctx} {e : Expr} {b : Bool} (hx : Has c.ns G x (.own dx)) (q : Put c.ns G x (.imm dx) G') (h : IT c k G' e b) : IT c k G e b := fun w hb A X₀ X env s O F => by
  obtain ⟨X', sub, F'⟩ := F.freezeD hx q
  exact h w hb A X₀ X' env s O F'
theorem above3 {w : World} {hb : Heap} {A : Around} {X₀ X : Addr → Prop} {env : Env} {h : Heap} (O : Ok w hb A k) (F : FS c w hb X₀ X env h G) : mainGlobals < h.objs.size := by
  obtain ⟨mg, mb, T⟩ := O.base.tops
  obtain ⟨o, _, _, e, _⟩ := T.g
  exact Heap.lt_size (F.base _ _ e)
theorem dictOf_new {w : World} {h : Heap} {ep : Nat} : (h.push { cls := .type "dict", data := .dict #[] ep }).DictOf (PySem.strKind pw w) h.objs.size [] :=
  ⟨_, #[], ep, Heap.get?_push_size _ rfl, ⟨rfl, rfl, rfl⟩, rfl, fun e m => by simp at m, .nil, List.nodup_nil⟩
theorem evx_dict0 {pos : Pos} : EVX c k G (.Dict [] [] pos) (.own (.dict [])) := fun w hb A X₀ X env s O F =>
  wpAny_Dict_empty ⟨kPush s _ _, _, rfl, none_of_le (Nat.le_refl _), [], by
    have := above3 O F
    have e : mainGlobals = 3 := rfl
    have e2 : sysModules = 1 := rfl
    rw [beq_eq_false_iff_ne, e2]
    intro q
    have q : s.heap.objs.size = 1 := q
    rw [e, q] at this; exact absurd this (by decide), dictOf_new, rfl⟩
end
noncomputable abbrev testsOf (ifs : List Expr) (env : Env) : Sem Bool := forIn ifs true fun c r => if r = true then do let ok ← isTrue c env (eval c env); pure (ForInStep.yield ok) else pure (ForInStep.yield r)
noncomputable def CompLoop (e : Expr) (dep : Nat) (t : Expr) (ifs : List Expr) (act : Value → Env → Sem Unit) : Prop :=
  ∀ (w : World) (A : Around) (R : Result → Shared → Prop) (s : Shared) (it acc : Value) (env : Env) (I : Nat → Shared → Prop) (n : Nat),
    (∀ n s, I n s → wpAny (model pw w) A (pyNext it) (fun r s₁ => match r with
      | Option.none => R (.ok .next) s₁
      | some v => wpAny (model pw w) A (letOwnedTupleGo t it v) (fun _ s₁ => wpAny (model pw w) A (assign t env v) (fun _ s₂ =>
          wpAny (model pw w) A (testsOf ifs env) (fun ok s₃ =>
            if ok = true then wpAny (model pw w) A (act acc env) (fun _ s₅ => ∃ m, m < n ∧ I m s₅) (fun _ _ => False) s₃
            else ∃ m, m < n ∧ I m s₃) (fun _ _ => False) s₂) (fun _ _ => False) s₁) (fun _ _ => False) s₁) (fun _ _ => False) s) →
    I n s → codeAny (model pw w) A (.compLoop e dep it acc env) R s
noncomputable def CompStart (e : Expr) (dep : Nat) : Prop :=
  ∀ (w : World) (A : Around) (R : Result → Shared → Prop) (s : Shared) (it acc : Value) (env : Env), codeAny (model pw w) A (.compLoop e dep it acc env) R s →
    wpAny (model pw w) A (pyIter it) (fun it' s' => codeAny (model pw w) A (.compLoop e dep it' acc env) R s') (fun _ _ => False) s → codeAny (model pw w) A (.compStart e dep it acc env) R s
noncomputable def actList (elt : Expr) (acc : Value) (env : Env) : Sem Unit := do let _ ← call (.builtin "list.append") [acc, ← eval elt env]
noncomputable def actDict (kx vx : Expr) (acc : Value) (env : Env) : Sem Unit := do
  let kv ← eval kx env
  let vv ← holding [kv] (eval vx env)
  match acc with
  | .ref d => do
    standAt { kx.pos with endLine := vx.pos.endLine, endCol := vx.pos.endCol }
    holding [kv, vv] (dictSet d kv vv)
  | _ => unsupported "internal:dictcomp"
noncomputable def actNest (e iter : Expr) (acc : Value) (env : Env) : Sem Unit := do
  let x ← eval iter env
  standAt iter.pos
  let x ← foldedSetIterable iter env x
  let _ ← runOwn (.compStart e 1 (← holding [x] (pyIter x)) acc env) env
section
variable {elt kx vx t iter t2 iter2 : Expr} {ifs ifs2 : List Expr} {scope : Scope} {pos : Pos}
theorem loop_list1 : CompLoop (.ListComp elt [⟨t, iter, ifs, 0⟩] scope pos) 0 t ifs (actList elt) := by
  intro w A R s it acc env I n turn h
  refine codeAny_loop rfl I (fun n s hI => ?_) n h
  show wpAny _ A ((compTurn (.ListComp elt [⟨t, iter, ifs, 0⟩] scope pos) 0 it acc env).onRaise (fun x => do noteFrame x env; theTreesLotGoes x)) _ _ s
  refine wpAny_noted ?_
  have e : compTurn (.ListComp elt [⟨t, iter, ifs, 0⟩] scope pos) 0 it acc env = (do
      standAt iter.pos
      match ← pyNext it with
      | .none => pure (.done .next)
      | some v =>
        letOwnedTupleGo t it v
        assign t env v
        let mut ok := true
        for c in ifs do
          if ok then ok ← isTrue c env (eval c env)
        if ok then actList elt acc env
        again (.compLoop (.ListComp elt [⟨t, iter, ifs, 0⟩] scope pos) 0 it acc env)) := by rfl
  rw [e]
  refine wpAny_bind (wpAny_standAt (wpAny_bind (wpAny_mono (turn n s hI) (fun r s₁ h₁ => ?_) fun _ _ h' => h'.elim)))
  cases r with
  | none => exact wpAny_pure h₁
  | some v =>
    refine wpAny_bind (wpAny_mono h₁ (fun _ s₁ h₁ => ?_) fun _ _ h' => h'.elim)
    refine wpAny_bind (wpAny_mono h₁ (fun _ s₂ h₂ => wpAny_bind (wpAny_mono h₂ (fun ok s₃ h₃ => ?_) fun _ _ h' => h'.elim)) fun _ _ h' => h'.elim)
    cases ok with
    | false => exact wpAny_pure ⟨rfl, h₃⟩
    | true => exact wpAny_bind (wpAny_mono h₃ (fun _ s₅ h₅ => wpAny_pure ⟨rfl, h₅⟩) fun _ _ h' => h'.elim)
theorem loop_dict1 : CompLoop (.DictComp kx vx [⟨t, iter, ifs, 0⟩] scope pos) 0 t ifs (actDict kx vx) := by
  intro w A R s it acc env I n turn h
  refine codeAny_loop rfl I (fun n s hI => ?_) n h
  show wpAny _ A ((compTurn (.DictComp kx vx [⟨t, iter, ifs, 0⟩] scope pos) 0 it acc env).onRaise (fun x => do noteFrame x env; theTreesLotGoes x)) _ _ s
  refine wpAny_noted ?_
  have e : compTurn (.DictComp kx vx [⟨t, iter, ifs, 0⟩] scope pos) 0 it acc env = (do
      standAt iter.pos
      match ← pyNext it with
      | .none => pure (.done .next)
      | some v =>
        letOwnedTupleGo t it v
        assign t env v
        let mut ok := true
        for c in ifs do
          if ok then ok ← isTrue c env (eval c env)
        if ok then actDict kx vx acc env
        again (.compLoop (.DictComp kx vx [⟨t, iter, ifs, 0⟩] scope pos) 0 it acc env)) := by rfl
  rw [e]
  refine wpAny_bind (wpAny_standAt (wpAny_bind (wpAny_mono (turn n s hI) (fun r s₁ h₁ => ?_) fun _ _ h' => h'.elim)))
  cases r with
  | none => exact wpAny_pure h₁
  | some v =>
    refine wpAny_bind (wpAny_mono h₁ (fun _ s₁ h₁ => ?_) fun _ _ h' => h'.elim)
    refine wpAny_bind (wpAny_mono h₁ (fun _ s₂ h₂ => wpAny_bind (wpAny_mono h₂ (fun ok s₃ h₃ => ?_) fun _ _ h' => h'.elim)) fun _ _ h' => h'.elim)
    cases ok with
    | false => exact wpAny_pure ⟨rfl, h₃⟩
    | true => exact wpAny_bind (wpAny_mono h₃ (fun _ s₅ h₅ => wpAny_pure ⟨rfl, h₅⟩) fun _ _ h' => h'.elim)
theorem loop_list20 : CompLoop (.ListComp elt [⟨t, iter, ifs, 0⟩, ⟨t2, iter2, ifs2, 0⟩] scope pos) 0 t ifs (actNest (.ListComp elt [⟨t, iter, ifs, 0⟩, ⟨t2, iter2, ifs2, 0⟩] scope pos) iter2) := by
  intro w A R s it acc env I n turn h
  refine codeAny_loop rfl I (fun n s hI => ?_) n h
  show wpAny _ A ((compTurn (.ListComp elt [⟨t, iter, ifs, 0⟩, ⟨t2, iter2, ifs2, 0⟩] scope pos) 0 it acc env).onRaise (fun x => do noteFrame x env; theTreesLotGoes x)) _ _ s
  refine wpAny_noted ?_
  have e : compTurn (.ListComp elt [⟨t, iter, ifs, 0⟩, ⟨t2, iter2, ifs2, 0⟩] scope pos) 0 it acc env = (do
      standAt iter.pos
      match ← pyNext it with
      | .none => pure (.done .next)
      | some v =>
        letOwnedTupleGo t it v
        assign t env v
        let mut ok := true
        for c in ifs do
          if ok then ok ← isTrue c env (eval c env)
        if ok then actNest (.ListComp elt [⟨t, iter, ifs, 0⟩, ⟨t2, iter2, ifs2, 0⟩] scope pos) iter2 acc env
        again (.compLoop (.ListComp elt [⟨t, iter, ifs, 0⟩, ⟨t2, iter2, ifs2, 0⟩] scope pos) 0 it acc env)) := by
    unfold actNest
    simp only [bind_assoc, pure_bind]
    rfl
  rw [e]
  refine wpAny_bind (wpAny_standAt (wpAny_bind (wpAny_mono (turn n s hI) (fun r s₁ h₁ => ?_) fun _ _ h' => h'.elim)))
  cases r with
  | none => exact wpAny_pure h₁
  | some v =>
    refine wpAny_bind (wpAny_mono h₁ (fun _ s₁ h₁ => ?_) fun _ _ h' => h'.elim)
    refine wpAny_bind (wpAny_mono h₁ (fun _ s₂ h₂ => wpAny_bind (wpAny_mono h₂ (fun ok s₃ h₃ => ?_) fun _ _ h' => h'.elim)) fun _ _ h' => h'.elim)
    cases ok with
    | false => exact wpAny_pure ⟨rfl, h₃⟩
    | true => exact wpAny_bind (wpAny_mono h₃ (fun _ s₅ h₅ => wpAny_pure ⟨rfl, h₅⟩) fun _ _ h' => h'.elim)
theorem loop_list21 : CompLoop (.ListComp elt [⟨t, iter, ifs, 0⟩, ⟨t2, iter2, ifs2, 0⟩] scope pos) 1 t2 ifs2 (actList elt) := by
  intro w A R s it acc env I n turn h
  refine codeAny_loop rfl I (fun n s hI => ?_) n h
  show wpAny _ A ((compTurn (.ListComp elt [⟨t, iter, ifs, 0⟩, ⟨t2, iter2, ifs2, 0⟩] scope pos) 1 it acc env).onRaise (fun x => do noteFrame x env; theTreesLotGoes x)) _ _ s
  refine wpAny_noted ?_
  have e : compTurn (.ListComp elt [⟨t, iter, ifs, 0⟩, ⟨t2, iter2, ifs2, 0⟩] scope pos) 1 it acc env = (do
      standAt iter2.pos
      match ← pyNext it with
      | .none => pure (.done .next)
      | some v =>
        letOwnedTupleGo t2 it v
        assign t2 env v
        let mut ok := true
        for c in ifs2 do
          if ok then ok ← isTrue c env (eval c env)
        if ok then actList elt acc env
        again (.compLoop (.ListComp elt [⟨t, iter, ifs, 0⟩, ⟨t2, iter2, ifs2, 0⟩] scope pos) 1 it acc env)) := by rfl
  rw [e]
  refine wpAny_bind (wpAny_standAt (wpAny_bind (wpAny_mono (turn n s hI) (fun r s₁ h₁ => ?_) fun _ _ h' => h'.elim)))
  cases r with
  | none => exact wpAny_pure h₁
  | some v =>
    refine wpAny_bind (wpAny_mono h₁ (fun _ s₁ h₁ => ?_) fun _ _ h' => h'.elim)
    refine wpAny_bind (wpAny_mono h₁ (fun _ s₂ h₂ => wpAny_bind (wpAny_mono h₂ (fun ok s₃ h₃ => ?_) fun _ _ h' => h'.elim)) fun _ _ h' => h'.elim)
    cases ok with
    | false => exact wpAny_pure ⟨rfl, h₃⟩
    | true => exact wpAny_bind (wpAny_mono h₃ (fun _ s₅ h₅ => wpAny_pure ⟨rfl, h₅⟩) fun _ _ h' => h'.elim)
theorem start_list1 : CompStart (.ListComp elt [⟨t, iter, ifs, 0⟩] scope pos) 0 := fun w A R s it acc env h0 h => codeAny_compStart_list h0 (wpAny_mono h (fun _ _ x => x) fun _ _ x => x.elim)
theorem start_list20 : CompStart (.ListComp elt [⟨t, iter, ifs, 0⟩, ⟨t2, iter2, ifs2, 0⟩] scope pos) 0 := fun w A R s it acc env h0 h => codeAny_compStart_list h0 (wpAny_mono h (fun _ _ x => x) fun _ _ x => x.elim)
theorem start_dict1 : CompStart (.DictComp kx vx [⟨t, iter, ifs, 0⟩] scope pos) 0 := fun w A R s it acc env h0 h => codeAny_compStart_dict h0 (wpAny_mono h (fun _ _ x => x) fun _ _ x => x.elim)
theorem start_list21 : CompStart (.ListComp elt [⟨t, iter, ifs, 0⟩, ⟨t2, iter2, ifs2, 0⟩] scope pos) 1 := fun w A R s it acc env h0 h => by
  refine codeAny_of_tree ?_
  show wpAny _ A ((compStart (.ListComp elt [⟨t, iter, ifs, 0⟩, ⟨t2, iter2, ifs2, 0⟩] scope pos) 1 it acc env).onRaise (fun x => do noteFrame x env; standAt theWindowsPlace)) _ _ s
  refine wpAny_notedAt ?_
  unfold compStart
  show wpAny _ A (ask >>= _) _ _ s
  refine wpAny_bind (wpAny_askSetting (wpAny_ite ?_))
  split
  · first
      | exact wpAny_bind (wpAny_pure (wpAny_pure (And.intro rfl h0)))
      | exact wpAny_pure (And.intro rfl h0)
  · first
      | exact wpAny_bind (wpAny_rule (wpAny_bind (wpAny_standAt (wpAny_bind (wpAny_mono h (fun it' s' h' => wpAny_pure (And.intro rfl h')) fun _ _ x => x.elim)))))
      | (refine wpAny_bind (wpAny_rule ?_); show wpAny _ _ (standAt iter2.pos >>= _) _ _ s; exact wpAny_bind (wpAny_standAt (wpAny_bind (wpAny_mono h (fun it' s' h' => wpAny_pure (And.intro rfl h')) fun _ _ x => x.elim))))
end
noncomputable def NoOwn (ns : List Str) (G : Ctx) : Prop := ∀ x d, ¬ Has ns G x (.own d)
noncomputable def ACT (c : SC) (k : Nat) (G : Ctx) (act : Value → Env → Sem Unit) (d d' : D) : Prop :=
  ∀ (w : World) (hb : Heap) (A : Around) (X₀ X : Addr → Prop) (env : Env) (s : Shared) (acc : Addr), Ok w hb A k → FS c w hb X₀ X env s.heap G → X acc → acc ≠ env.locals → (∀ x a, env.cells.lookup x = some a → a ≠ acc) → Held w X s.heap d acc →
    wpAny (model pw w) A (act (.ref acc) env) (fun _ s' => ∃ h' tk, s' = { s with heap := h', toks := tk } ∧ (∀ b o, b ≠ acc → b ≠ env.locals → s.heap.get? b = some o → h'.get? b = some o) ∧ FS c w hb X₀ X env h' G ∧ Held w X h' d' acc) (fun _ _ => False) s
section
variable {c c' : SC} {k : Nat} {G G1 G' : Ctx}
theorem act_list {elt : Expr} {l : List D} {r : D} (he : EV c k G elt r) (no : NoOwn c.ns G) (hl : l.length ≤ 2 ^ 24) : ACT c k G (actList elt) (.list l) (.list (l ++ [r])) := fun w hb A X₀ X env s acc O F xa nl nc H => by
  show wpAny _ A (do let _ ← call (.builtin "list.append") [.ref acc, ← eval elt env]) _ _ s
  refine wpAny_bind (wpAny_mono (he w hb A X₀ X env s O F) (fun u s1 zp => ?_) fun _ _ x => x)
  obtain ⟨k1, ru⟩ := zp
  obtain ⟨h1, t1, rfl, g1⟩ := k1
  dsimp only at ru
  have F1 := F.grow g1
  have H1 := Held.pres (Grow.pres g1) (fun o e => g1 _ _ e) H
  refine wpAny_bind (wpAny_mono ((mo_append hl).call w hb A X { s with heap := h1, toks := t1 } acc [u] k O xa H1 (RepL.one ru)) (fun _ s2 zp => ?_) fun _ _ x => x)
  obtain ⟨_, h2, t2, e2, hs, hd⟩ := zp
  subst e2
  dsimp only at hs
  exact wpAny_pure ⟨h2, t2, rfl, fun b o nb _ e => by rw [hs.2 b nb]; exact g1 _ _ e, F1.poke (fun b o nb e => by rw [hs.2 b nb]; exact e) hd.some xa nl nc no, hd⟩
theorem repK_set {w : World} {X : Addr → Prop} {h : Heap} {y : Str} {d : D} {v : Value} (rv : Rep w X h d v) : ∀ {l : List (Str × D)} {kvs : List (Str × Value)}, (∀ d', (y, d') ∈ l → d' = d) → RepK w X h l kvs → RepK w X h l (kvs.map fun kv => if kv.1 = y then (kv.1, v) else kv)
  | [], kvs, _, r => by simp only [RepK] at r; subst r; rfl
  | (x, e) :: l, kvs, hn, ⟨u, r, e1, rd, rl⟩ => by
    subst e1
    have ih := repK_set rv (fun d' m => hn d' (List.mem_cons_of_mem _ m)) rl
    by_cases q : x = y
    · subst q
      have := hn e (List.mem_cons_self ..); subst this
      exact ⟨v, _, by simp, rv, ih⟩
    · exact ⟨u, _, by simp [q], rd, ih⟩
noncomputable def setD (l : List (Str × D)) (y : Str) (d : D) : List (Str × D) := if (l.lookup y).isSome = true then l else l ++ [(y, d)]
theorem act_dict {kx vx : Expr} {l : List (Str × D)} {y : Str} {d : D} (hk : EV c k G kx (.str y)) (hv : EV c k G vx d) (no : NoOwn c.ns G) (hl : l.length ≤ 2 ^ 24) (hs : ∀ d', (y, d') ∈ l → d' = d) : ACT c k G (actDict kx vx) (.dict l) (.dict (setD l y d)) := fun w hb A X₀ X env s acc O F xa nl nc H => by
  unfold actDict
  refine wpAny_bind (wpAny_mono (hk w hb A X₀ X env s O F) (fun u s1 zp => ?_) fun _ _ x => x)
  obtain ⟨k1, ru⟩ := zp
  obtain ⟨t, rfl⟩ := ru.str_of
  refine wpAny_bind (wpAny_holding (wpAny_mono (hv w hb A X₀ X env s1 O (F.grow (kH k1))) (fun u s2 zp => ?_) fun _ _ x => x))
  obtain ⟨k2, rv⟩ := zp
  obtain ⟨h2, t2, rfl, g2⟩ := kT k1 k2
  dsimp only at rv g2
  have F2 := F.grow g2
  obtain ⟨kvs, ns, dk, rk⟩ := Held.pres (Grow.pres g2) (fun o e => g2 _ _ e) H
  refine wpAny_bind (wpAny_standAt (wpAny_holding ?_))
  refine wpAny_dictSet_pairs (knd := PySem.strKind pw w) (k := y) (kvs := kvs) (by simp [PySem.strKind, Value.isStrOf]) dk (fun h' dk' hs' => ?_) (by rw [rk.length]; exact hl)
  dsimp only at dk' hs'
  have pr : Pres X h2 h' := fun b o nx eo => by rw [hs'.2 b (fun q => nx (q ▸ xa))]; exact eo
  have rk' := rk.map (Rep.pres pr) l kvs
  have rv' := Rep.pres pr d u rv
  have hd : Held w X h' (.dict (setD l y d)) acc := by
    refine ⟨_, ns, dk', ?_⟩
    unfold setD stored
    by_cases q : (l.lookup y).isSome = true
    · obtain ⟨d0, hd0⟩ := Option.isSome_iff_exists.mp q
      have hm := mem_of_lookup hd0
      have : kvs.any (fun kv => kv.1 = y) = true := by
        apply Classical.byContradiction
        intro n
        have n' : kvs.any (fun kv => kv.1 = y) = false := Bool.eq_false_iff.mpr n
        have key : ∀ {l : List (Str × D)} {kvs : List (Str × Value)}, RepK w X h' l kvs → kvs.any (fun kv => kv.1 = y) = false → (y, d0) ∉ l := by
          intro l
          induction l with
          | nil => intro kvs r _ m; cases m
          | cons p l ih =>
            intro kvs r hn m
            obtain ⟨x, e⟩ := p
            obtain ⟨u, r', e1, rd, rl⟩ := r
            subst e1
            simp only [List.any_cons, Bool.or_eq_false_iff] at hn
            rcases List.mem_cons.mp m with m | m
            · cases m; simp at hn
            · exact ih rl hn.2 m
        exact key rk' n' hm
      rw [if_pos q, if_pos this]
      exact repK_set rv' hs rk'
    · have hn : l.lookup y = Option.none := by cases h : l.lookup y with | none => rfl | some d => rw [h] at q; exact absurd rfl q
      rw [if_neg q, rk.noKey hn]
      exact RepK.app rv' rk'
  exact ⟨h', _, rfl, fun b o nb _ e => by rw [hs'.2 b nb]; exact g2 _ _ e, F2.poke (fun b o nb e => by rw [hs'.2 b nb]; exact e) hd.some xa nl nc no, hd⟩
noncomputable def CTurn (c' : SC) (k : Nat) (G' : Ctx) (t : Expr) (ifs : List Expr) (act : Value → Env → Sem Unit) (d : D) (a a' : D) : Prop :=
  ∃ G1, ASL c' k G' t d G1 ∧ Less G' G1 ∧ NoOwn c'.ns G1 ∧ ((TS c' k G1 ifs true ∧ ACT c' k G1 act a a') ∨ (TS c' k G1 ifs false ∧ a' = a))
structure Turns (w : World) (A : Around) (t : Expr) (X : Addr → Prop) (ds : List D) (I : Addr) (fp wr : List Addr) (St : Nat → Heap → Prop) (RI : Heap → Prop) : Prop where
  sub : ∀ b ∈ wr, b ∈ fp
  frame : ∀ i h h', St i h → (∀ b ∈ fp, ∀ o, h.get? b = some o → h'.get? b = some o) → St i h'
  box : ∀ i h, St i h → ∀ b ∈ wr, NotBox h b
  keep : ∀ h h', RI h → (∀ b o, b ∉ wr → ¬ X b → h.get? b = some o → h'.get? b = some o) → RI h'
  step : ∀ i (s : Shared) (N : Shared → Prop) (K : Value → Shared → Prop) (d : D), ds[i]? = some d → St i s.heap → RI s.heap → (∀ b, X b → (s.heap.get? b).isSome = true) →
    (∀ v h' tk, St (i + 1) h' → (∀ b o, b ∉ wr → s.heap.get? b = some o → h'.get? b = some o) → Rep w X h' d v → K v { s with heap := h', toks := tk }) →
    wpAny (model pw w) A (pyNext (.ref I)) (fun r s₁ => match r with
      | Option.none => N s₁
      | some v => wpAny (model pw w) A (letOwnedTupleGo t (.ref I) v) (fun _ s₂ => K v s₂) (fun _ _ => False) s₁) (fun _ _ => False) s
  done : ∀ (s : Shared) (Q : Option Value → Shared → Prop) (E : Value → Shared → Prop), St ds.length s.heap → (∀ h' tk, (∀ b o, b ∉ wr → s.heap.get? b = some o → h'.get? b = some o) → Q Option.none { s with heap := h', toks := tk }) → wpAny (model pw w) A (pyNext (.ref I)) Q E s
structure GoX (w : World) (A : Around) (t : Expr) (X : Addr → Prop) (h₀ h : Heap) (ds : List D) (I : Addr) (fp wr : List Addr) (St : Nat → Heap → Prop) : Prop where
  st : St 0 h
  new : ∀ b ∈ wr, h₀.get? b = Option.none
  off : ∀ b ∈ fp, ¬ X b
  alive : ∀ i h, St i h → ∀ b ∈ fp, (h.get? b).isSome = true
  self : ∀ i (s : Shared) (Q : Value → Shared → Prop) (E : Value → Shared → Prop), St i s.heap → Q (.ref I) s → wpAny (model pw w) A (pyIter (.ref I)) Q E s
  turns : ∀ X' : Addr → Prop, (∀ b, (h.get? b).isSome = true → X' b → X b) → ∃ RI, Turns w A t X' ds I fp wr St RI ∧ RI h
noncomputable def IterX (c : SC) (k : Nat) (G : Ctx) (t : Expr) (e : Expr) (ds : List D) : Prop :=
  ∀ (w : World) (hb : Heap) (A : Around) (X₀ X : Addr → Prop) (env : Env) (s : Shared), Ok w hb A k → FS c w hb X₀ X env s.heap G →
    wpAny (model pw w) A (eval e env) (fun x s₁ => wpAny (model pw w) A (pyIter x) (fun it s₂ => Keeps s s₂ ∧ ∃ I fp wr St, it = .ref I ∧ GoX w A t X s.heap s₂.heap ds I fp wr St) (fun _ _ => False) s₁) (fun _ _ => False) s
theorem Goes.x {w : World} {A : Around} {t : Expr} {X : Addr → Prop} {h₀ h : Heap} {ds : List D} {I : Addr} {fp wr : List Addr} {P : Nat → Value → Prop} {St : Nat → Heap → Prop} (g : Goes w A X h₀ h ds I fp wr P St) : GoX w A t X h₀ h ds I fp wr St := by
  refine ⟨g.st, g.new, g.off, g.alive, fun i s Q E st q => g.W.self i s Q E st q, fun X' hx => ⟨fun h => ∀ i d v, ds[i]? = some d → P i v → Rep w (fun a => X' a ∨ a ∈ wr) h d v, ⟨g.W.sub, g.W.frame, g.box, fun h h' r kp i d v hd pv => ?_, fun i s N K d hd st ri live kk => ?_, fun s Q E st kk => g.W.done s Q E st kk⟩, fun i d v hd pv => ?_⟩⟩
  · exact Rep.pres (fun b o nx e => kp b o (fun q => nx (.inr q)) (fun q => nx (.inl q)) e) _ v (r i d v hd pv)
  · have hi : i < ds.length := by
      rcases Nat.lt_or_ge i ds.length with q | q
      · exact q
      · rw [List.getElem?_eq_none q] at hd; cases hd
    refine g.W.item i _ _ _ hi st fun v h1 t1 pv st0 kp9 => ?_
    refine g.go i _ v t _ _ pv st0 fun h1 st1 kp8 => ?_
    have kp : ∀ b o, b ∉ wr → s.heap.get? b = some o → h1.get? b = some o := fun b o nb e => kp8 b o nb (kp9 b o nb e)
    exact kk v h1 t1 st1 kp (Rep.weak (X := fun a => X' a ∨ a ∈ wr) (fun _ _ x => .inl x) _ v (Rep.pres (fun b o nx e => kp b o (fun q => nx (.inr q)) e) _ v (ri i d v hd pv)))
  · have r := g.items i d v hd pv
    refine Rep.box (fun a y => ?_) _ v r
    rcases y with y | y
    · cases e : h.get? a with
      | none => exact .inr fun o e' => by rw [e] at e'; cases e'
      | some o => exact .inl (hx a (by rw [e]; rfl) y)
    · exact .inr (g.box 0 h g.st a y)
theorem iterX_of {t e : Expr} {ds : List D} (h : Iter c k G e ds) : IterX c k G t e ds := fun w hb A X₀ X env s O F =>
  wpAny_mono (h w hb A X₀ X env s O F) (fun x s1 h1 => wpAny_mono h1 (fun it s2 ⟨k2, I, fp, wr, P, St, e, g⟩ => ⟨k2, I, fp, wr, St, e, g.x⟩) fun _ _ x => x) fun _ _ x => x
theorem comp_loop {e : Expr} {dep : Nat} {t : Expr} {ifs : List Expr} {act : Value → Env → Sem Unit} (hL : CompLoop e dep t ifs act) {ds : List D} (accd : Nat → D) (turn : ∀ i d, ds[i]? = some d → CTurn c' k G' t ifs act d (accd i) (accd (i + 1)))
    {w : World} {hb : Heap} {A : Around} {X₀ X : Addr → Prop} {cenv : Env} {H1 : Heap} {T : Tok} {s : Shared} {I : Addr} {fp wr : List Addr} {St : Nat → Heap → Prop} {RI : Heap → Prop} {acc : Addr} {R : Result → Shared → Prop} (O : Ok w hb A k) (g : Turns w A t X ds I fp wr St RI) (ri : RI H1)
    (st0 : St 0 H1) (F0 : FS c' w hb X₀ X cenv H1 G') (xa : X acc) (nl : acc ≠ cenv.locals) (nc : ∀ x a, cenv.cells.lookup x = some a → a ≠ acc) (hH : Held w X H1 (accd 0) acc) (fpX : ∀ b ∈ fp, ¬ X b) (hwb : ∀ b ∈ wr, hb.get? b = Option.none)
    (post : ∀ h1 t1, (∀ b o, b ∉ wr → b ≠ cenv.locals → b ≠ acc → H1.get? b = some o → h1.get? b = some o) → FS c' w hb X₀ X cenv h1 G' → Held w X h1 (accd ds.length) acc → R (.ok .next) { s with heap := h1, toks := t1 }) :
    codeAny (model pw w) A (.compLoop e dep (.ref I) (.ref acc) cenv) R { s with heap := H1, toks := T } := by
  have lX : X cenv.locals := F0.loc.1.1
  let Inv : Nat → Shared → Prop := fun n s' => ∃ i, n = ds.length - i ∧ i ≤ ds.length ∧ ∃ h' tk, s' = { s with heap := h', toks := tk } ∧ (∀ b o, b ∉ wr → b ≠ cenv.locals → b ≠ acc → H1.get? b = some o → h'.get? b = some o) ∧ St i h' ∧ FS c' w hb X₀ X cenv h' G' ∧ Held w X h' (accd i) acc
  refine hL w A R _ (.ref I) (.ref acc) cenv Inv ds.length (fun n s' hI => ?_) ⟨0, by omega, by omega, H1, T, rfl, fun _ _ _ _ _ e => e, st0, F0, hH⟩
  obtain ⟨i, en, hij, h', tk, rfl, kp0, st, F', Hd⟩ := hI
  have wok : ∀ h', St i h' → ∀ b ∈ wr, ¬ X b ∧ NotBox h' b ∧ hb.get? b = Option.none := fun h' st b q => ⟨fpX b (g.sub b q), g.box i h' st b q, hwb b q⟩
  have accw : acc ∉ wr := fun q => fpX acc (g.sub acc q) xa
  have heldKeep : ∀ {h h2 : Heap} {d : D}, (∀ b o, b ∉ wr → h.get? b = some o → h2.get? b = some o) → (∀ b ∈ wr, NotBox h b) → Held w X h d acc → Held w X h2 d acc := fun {h h2 d} kp nb H => by
    have rp : ∀ d v, Rep w X h d v → Rep w X h2 d v := fun d v r => Rep.weak (X := fun a => X a ∨ a ∈ wr) (fun _ _ x => .inl x) d v (Rep.pres (fun b o nx e => kp b o (fun q => nx (.inr q)) e) d v (Rep.box (fun a y => y.imp id fun q => nb a q) d v r))
    have rpl : ∀ d v, RepL w X h d v → RepL w X h2 d v := fun d v r => RepL.weak (X := fun a => X a ∨ a ∈ wr) (fun _ _ x => .inl x) d v (RepL.pres (fun b o nx e => kp b o (fun q => nx (.inr q)) e) d v (RepL.box (fun a y => y.imp id fun q => nb a q) d v r))
    cases d with
    | list l => obtain ⟨vs, ⟨n, ho⟩, rl⟩ := H; exact ⟨vs, ⟨n, kp _ _ accw ho⟩, rpl l vs rl⟩
    | dict l => obtain ⟨f, n, ⟨o, es, ep, ho, t⟩, rl⟩ := H; exact ⟨f, n, ⟨o, es, ep, kp _ _ accw ho, t⟩, rl.map rp l f⟩
    | _ => exact H.elim
  by_cases hi : i < ds.length
  · have hd : ds[i]? = some ds[i] := by simp [hi]
    have ri' : RI h' := g.keep _ _ ri fun b o nw nx e => kp0 b o nw (fun q => nx (q ▸ lX)) (fun q => nx (q ▸ xa)) e
    refine g.step i _ _ _ _ hd st ri' (fun b xb => (F'.fresh b xb).1) fun v h1 t1 st1 kp rv => ?_
    dsimp only at kp
    have F2 : FS c' w hb X₀ X cenv h1 G' := F'.iter kp (wok h' st)
    have Hd1 : Held w X h1 (accd i) acc := heldKeep kp (fun b q => (wok h' st b q).2.1) Hd
    have kp1 : ∀ b o, b ∉ wr → b ≠ cenv.locals → b ≠ acc → H1.get? b = some o → h1.get? b = some o := fun b o a1 a2 a3 e => kp b o a1 (kp0 b o a1 a2 a3 e)
    obtain ⟨G1, ha, hless, no1, hres⟩ := turn i _ hd
    refine wpAny_mono (ha w hb A X₀ X cenv { s with heap := h1, toks := t1 } v O F2 rv) (fun _ s2 zp => ?_) fun _ _ x => x.elim
    obtain ⟨h2, t2, e2, p2, F3⟩ := zp
    subst e2
    dsimp only at p2
    have fpl : ∀ b ∈ fp, b ≠ cenv.locals := fun b m q => fpX b m (q ▸ lX)
    have fpa : ∀ b ∈ fp, b ≠ acc := fun b m q => fpX b m (q ▸ xa)
    have st2 : St (i + 1) h2 := g.frame _ h1 h2 st1 fun b m o e => p2 b o (fpl b m) e
    have Hd2 : Held w X h2 (accd i) acc := Held.pres (fun b o nx e => p2 b o (fun q => nx (q ▸ lX)) e) (fun o e => p2 _ _ nl e) Hd1
    have kp2 : ∀ b o, b ∉ wr → b ≠ cenv.locals → b ≠ acc → H1.get? b = some o → h2.get? b = some o := fun b o a1 a2 a3 e => p2 b o a2 (kp1 b o a1 a2 a3 e)
    rcases hres with ⟨hts, hact⟩ | ⟨hts, hsame⟩
    · refine wpAny_mono (hts.run (s := { s with heap := h2, toks := t2 }) O F3) (fun okv s3 zp => ?_) fun _ _ x => x.elim
      obtain ⟨e3, k3⟩ := zp
      subst e3
      obtain ⟨h4, t4, rfl, g4⟩ := k3
      dsimp only at g4
      simp only [if_true]
      refine wpAny_mono (hact w hb A X₀ X cenv { s with heap := h4, toks := t4 } acc O (F3.grow g4) xa nl nc (Held.pres (Grow.pres g4) (fun o e => g4 _ _ e) Hd2)) (fun _ s5 zp => ?_) fun _ _ x => x.elim
      obtain ⟨h5, t5, e5, p5, F5, Hd5⟩ := zp
      subst e5
      dsimp only at p5
      exact ⟨ds.length - (i + 1), by omega, i + 1, rfl, by omega, h5, t5, rfl, fun b o a1 a2 a3 e => p5 b o a3 a2 (g4 b o (kp2 b o a1 a2 a3 e)), g.frame _ h2 h5 st2 fun b m o e => p5 b o (fpa b m) (fpl b m) (g4 b o e), F5.less hless, Hd5⟩
    · refine wpAny_mono (hts.run (s := { s with heap := h2, toks := t2 }) O F3) (fun okv s3 zp => ?_) fun _ _ x => x.elim
      obtain ⟨e3, k3⟩ := zp
      subst e3
      obtain ⟨h4, t4, rfl, g4⟩ := k3
      dsimp only at g4
      simp only [Bool.false_eq_true, if_false]
      exact ⟨ds.length - (i + 1), by omega, i + 1, rfl, by omega, h4, t4, rfl, fun b o a1 a2 a3 e => g4 b o (kp2 b o a1 a2 a3 e), g.frame _ h2 h4 st2 fun b m o e => g4 b o e, (F3.grow g4).less hless, hsame ▸ Held.pres (Grow.pres g4) (fun o e => g4 _ _ e) Hd2⟩
  · have ei : i = ds.length := by omega
    subst ei
    refine g.done _ _ _ st fun h1 t1 kp => ?_
    exact post h1 t1 (fun b o a1 a2 a3 e => kp b o a1 (kp0 b o a1 a2 a3 e)) (F'.iter kp (wok h' st)) (heldKeep kp (fun b q => (wok h' st b q).2.1) Hd)
end
section
variable {c c' : SC} {k : Nat} {G G1 G' : Ctx}
theorem comp_core {e : Expr} {t iter : Expr} {ifs : List Expr} {gs : List Comprehension} {act : Value → Env → Sem Unit} {scope : Scope} {pos : Pos} {newAcc : Sem Value} {use : Option (Value → Sem Unit)} {ds : List D} (hcl : clausesOf e = ⟨t, iter, ifs, 0⟩ :: gs) (hL : CompLoop e 0 t ifs act) (hS : CompStart e 0)
    (it : IterX c k G t iter ds) (accd : Nat → D) {accO : Obj} (hnew : ∀ (w : World) (A : Around) (s : Shared) (Q : Value → Shared → Prop), Q (.ref s.heap.objs.size) { s with heap := s.heap.push accO } → wpAny (model pw w) A newAcc Q (fun _ _ => False) s)
    (hacc0 : ∀ (w : World) (h : Heap) (X : Addr → Prop), mainGlobals < h.objs.size → Held w X (h.push accO) (accd 0) h.objs.size) (ok : compOk scope c.sc = true) (hc : c'.sc = relS scope c.sc) (ok' : c'.ok = true) (inh : Inh c.ns G scope c'.ns G')
    (turn : ∀ i d, ds[i]? = some d → CTurn c' k G' t ifs act d (accd i) (accd (i + 1))) (hfs : ∀ env x, foldedSetIterable iter env x = pure x)
    {w : World} {hb : Heap} {A : Around} {X₀ X : Addr → Prop} {env : Env} {s : Shared} {Q : Value → Shared → Prop} (O : Ok w hb A k) (F : FS c w hb X₀ X env s.heap G)
    (K : ∀ h1 t1 acc C m, Grow s.heap h1 → s.heap.get? acc = Option.none → s.heap.get? C = Option.none → acc ≠ C → h1.Ns C m → Held w (fun b => X b ∨ b = acc ∨ b = C) h1 (accd ds.length) acc → compPost (model pw w) A (fun _ _ => False) use Q (.ref acc) C (.ok .next) { s with heap := h1, toks := t1 }) :
    wpAny (model pw w) A (comprehension e scope env pos newAcc false (eval iter env) use) Q (fun _ _ => False) s := by
  have okk := ok
  simp only [compOk, Bool.and_eq_true, List.all_eq_true, Bool.or_eq_true, beq_iff_eq, decide_eq_true_eq] at okk
  obtain ⟨⟨⟨ok1, ok2⟩, ok3⟩, ok4⟩ := okk
  have hclos : closureFor scope env = pure (clOf env.cells scope.names []) := closure_of fun x hx e => by
    rcases ok2 x hx with (q | q) | q
    · rw [e] at q; cases q
    · exact F.celled x.1 q.2
    · rw [e] at q; cases q
  refine wpAny_comprehension_free (g := ⟨t, iter, ifs, 0⟩) (gs := gs) hcl (hfs env) hclos ok1 (fun x hx e => ?_) ?_
  · rw [lookup_of_nodup ok3 hx, e]
  refine wpAny_mono (it w hb A X₀ X env s O F) (fun x s1 h1 => wpAny_mono h1 (fun itv s2 h2 => ?_) fun _ _ x => x.elim) fun _ _ x => x.elim
  obtain ⟨k2, I, fp, wr, St, rfl, g⟩ := h2
  obtain ⟨H0, T0, rfl, g0⟩ := id k2
  dsimp only at g
  have hcell : ∀ y ∈ scope.names, y.2 ≠ .cell := fun y hy e => by
    rcases ok2 y hy with (q | ⟨q, _⟩) | q <;> rw [e] at q <;> cases q
  refine hnew w A _ _ (wpAny_newFunctionEnv hcell (by intro y hy; simp at hy) (fun h₁ hns₁ hsb₁ => ?_) ok1)
  dsimp only at hns₁ hsb₁ ⊢
  have mgs : mainGlobals < H0.objs.size := above3 O (F.grow g0)
  have hH0 := hacc0 w H0 (fun b => X b ∨ b = H0.objs.size ∨ b = (H0.push accO).objs.size) mgs
  generalize hH2 : H0.push accO = H2 at hns₁ hsb₁ hH0 ⊢
  have hC : H2.objs.size = H0.objs.size + 1 := by rw [← hH2, Heap.size_push]
  have hDC : H0.objs.size ≠ H2.objs.size := by rw [hC]; exact Nat.ne_of_lt (Nat.lt_succ_self _)
  have below : ∀ b, b < H0.objs.size → b ≠ H2.objs.size ∧ b ≠ H0.objs.size := fun b hb => ⟨by rw [hC]; exact Nat.ne_of_lt (Nat.lt_succ_of_lt hb), Nat.ne_of_lt hb⟩
  have g2 : ∀ b o, b ≠ H2.objs.size → H2.get? b = some o → h₁.get? b = some o := fun b o nb e => hsb₁.extBut b o nb (Heap.get?_push_of_some _ e)
  have old : Grow H0 h₁ := fun b o e => g2 b o (below b (Heap.lt_size e)).1 (hH2 ▸ Heap.get?_push_of_some _ e)
  have hAcc : Held w (fun b => X b ∨ b = H0.objs.size ∨ b = H2.objs.size) h₁ (accd 0) H0.objs.size := Held.pres (fun b o nx e => g2 b o (fun q => nx (.inr (.inr q))) e) (fun o e => g2 _ _ hDC e) hH0
  have nA : H0.get? H0.objs.size = Option.none := none_of_le (Nat.le_refl _)
  have nC : H0.get? H2.objs.size = Option.none := none_of_le (by rw [hC]; exact Nat.le_succ _)
  have F0 : FS c w hb X₀ X env H0 G := F.grow g0
  obtain ⟨-, F1⟩ := F0.comp ok hc ok' inh old nC nA hns₁ hAcc.some
  generalize hacce : H0.objs.size = acc at *
  generalize hCe : H2.objs.size = C at *
  have live : ∀ b ∈ fp, (H0.get? b).isSome = true := fun b m => g.alive 0 H0 g.st b m
  have fpn : ∀ b ∈ fp, b ≠ acc ∧ b ≠ C := fun b m => ⟨fun q => (by have := live b m; rw [q, nA] at this; cases this), fun q => (by have := live b m; rw [q, nC] at this; cases this)⟩
  have fpX : ∀ b ∈ fp, ¬ (X b ∨ b = acc ∨ b = C) := fun b m x => x.elim (g.off b m) fun x => x.elim (fpn b m).1 (fpn b m).2
  have hwb : ∀ b ∈ wr, hb.get? b = Option.none := fun b q => none_back F.base (g.new b q)
  have cellsC : ∀ x a, (compEnvC scope (clOf env.cells scope.names []) C env).cells.lookup x = some a → a ≠ acc := fun x a e q => by
    obtain ⟨⟨xa, _⟩, v, o, ho, _⟩ := F0.cells x a (by
      have := clOf_mem (fun x hx e => by
        rcases ok2 x hx with (q | q) | q
        · rw [e] at q; cases q
        · exact F.celled x.1 q.2
        · rw [e] at q; cases q) (mem_of_lookup e)
      rcases this with z | z
      · cases z
      · exact z.2)
    rw [q, nA] at ho; cases ho
  obtain ⟨RI, gt, ri0⟩ := g.turns (fun b => X b ∨ b = acc ∨ b = C) (fun b hb' q => by
    rcases q with q | q | q
    · exact q
    · rw [q, nA] at hb'; cases hb'
    · rw [q, nC] at hb'; cases hb')
  have st₁ : St 0 h₁ := gt.frame _ _ _ g.st fun b _ o e => old b o e
  have ri₁ : RI h₁ := gt.keep _ _ ri0 fun b o _ _ e => old b o e
  have loop : codeAny (model pw w) A (.compLoop e 0 (.ref I) (.ref acc) (compEnvC scope (clOf env.cells scope.names []) C env)) (compPost (model pw w) A (fun _ _ => False) use Q (.ref acc) C) { s with heap := h₁, toks := T0 + ([] : List (Str × Value)).length } := by
    refine comp_loop hL accd turn O gt ri₁ st₁ F1 (.inr (.inl rfl)) hDC cellsC hAcc fpX hwb (fun h1 t1 kp F3 H3 => ?_)
    · obtain ⟨_, m, nm⟩ := F3.loc
      refine K h1 t1 acc C m (fun b o e => ?_) (none_back g0 nA) (none_back g0 nC) hDC nm H3
      have e0 := g0 b o e
      have nb : b ≠ C ∧ b ≠ acc := ⟨fun q => (by rw [q, nC] at e0; cases e0), fun q => (by rw [q, nA] at e0; cases e0)⟩
      have nw : b ∉ wr := fun q => by rw [g.new b q] at e; cases e
      exact kp b o nw nb.1 nb.2 (old b o e0)
  exact hS w A _ _ _ _ _ loop (g.self 0 _ _ _ st₁ loop)
theorem evx_core {e : Expr} {t iter : Expr} {ifs : List Expr} {gs : List Comprehension} {act : Value → Env → Sem Unit} {scope : Scope} {pos : Pos} {newAcc : Sem Value} {ds : List D} (hcl : clausesOf e = ⟨t, iter, ifs, 0⟩ :: gs) (hL : CompLoop e 0 t ifs act) (hS : CompStart e 0)
    (it : IterX c k G t iter ds) (accd : Nat → D) {accO : Obj} (hnew : ∀ (w : World) (A : Around) (s : Shared) (Q : Value → Shared → Prop), Q (.ref s.heap.objs.size) { s with heap := s.heap.push accO } → wpAny (model pw w) A newAcc Q (fun _ _ => False) s)
    (hacc0 : ∀ (w : World) (h : Heap) (X : Addr → Prop), mainGlobals < h.objs.size → Held w X (h.push accO) (accd 0) h.objs.size) (ok : compOk scope c.sc = true) (hc : c'.sc = relS scope c.sc) (ok' : c'.ok = true) (inh : Inh c.ns G scope c'.ns G')
    (turn : ∀ i d, ds[i]? = some d → CTurn c' k G' t ifs act d (accd i) (accd (i + 1))) (hfs : ∀ env x, foldedSetIterable iter env x = pure x)
    (hev : ∀ env, eval e env = comprehension e scope env pos newAcc false (eval iter env)) : EVX c k G e (.own (accd ds.length)) := fun w hb A X₀ X env s O F => by
  rw [hev env]
  refine comp_core hcl hL hS it accd hnew hacc0 ok hc ok' inh turn hfs O F (fun h1 t1 acc C m g na nc ne nm H => ?_)
  refine ⟨m, nm, fun h2 hs => ⟨⟨h2, t1, rfl, fun b o e => ?_⟩, acc, rfl, na, ?_⟩⟩
  · rw [hs.2 b (fun q => by rw [q, nc] at e; cases e)]; exact g b o e
  · have := Held.pres (h' := h2) (fun b o nx e => by rw [hs.2 b (fun q => nx (.inr (.inr q)))]; exact e) (fun o e => by rw [hs.2 acc ne]; exact e) H
    exact this.weak fun _ _ x => x.elim .inl fun x => .inr (.inl x)
theorem evx_new' {e : Expr} {ds : List D} (h : EVX c k G e (.own (.list ds))) : EVN c k G e ds := fun w hb A X₀ X env s O F =>
  wpAny_mono (h w hb A X₀ X env s O F) (fun u s' ⟨k1, a, e, n, vs, pl, rl⟩ => ⟨k1, a, vs, e, n, pl, rl⟩) fun _ _ x => x
theorem EVX.evd {e : Expr} {d : D} (h : EVX c k G e (.own d)) : EV c k G e d := fun w hb A X₀ X env s O F =>
  wpAny_mono (h w hb A X₀ X env s O F) (fun u s' ⟨k1, a, e, n, H⟩ => ⟨k1, by rw [e]; exact H.rep (F.notX n) fun b x => .inl x⟩) fun _ _ x => x
theorem newList_ok (w : World) (A : Around) (s : Shared) (Q : Value → Shared → Prop) (h : Q (.ref s.heap.objs.size) { s with heap := s.heap.push { cls := .type "list", dict := Option.none, data := .seq ([] : List Value).toArray } }) : wpAny (model pw w) A (newList []) Q (fun _ _ => False) s := wpAny_newObj_type (hd := by size_fits) h
theorem held_list0 (w : World) (h : Heap) (X : Addr → Prop) : Held w X (h.push { cls := .type "list", dict := Option.none, data := .seq ([] : List Value).toArray }) (.list []) h.objs.size := ⟨[], ⟨_, Heap.get?_push_size _ rfl⟩, by simp [RepL]⟩
theorem newDict_ok (w : World) (A : Around) (s : Shared) (Q : Value → Shared → Prop) (h : Q (.ref s.heap.objs.size) { s with heap := s.heap.push { cls := .type "dict", data := .dict #[] } }) : wpAny (model pw w) A newDict Q (fun _ _ => False) s := wpAny_newObj_type h
theorem held_dict0 (w : World) (h : Heap) (X : Addr → Prop) (hs : mainGlobals < h.objs.size) : Held w X (h.push { cls := .type "dict", data := .dict #[] }) (.dict []) h.objs.size := ⟨[], by
    have e : mainGlobals = 3 := rfl
    have e2 : sysModules = 1 := rfl
    rw [beq_eq_false_iff_ne, e2]
    intro q
    have q : h.objs.size = 1 := q
    rw [e, q] at hs; exact absurd hs (by decide), dictOf_new, rfl⟩
theorem evx_dict {kx vx t iter : Expr} {ifs : List Expr} {scope : Scope} {pos : Pos} {ds : List D} (accd : Nat → List (Str × D)) (h0 : accd 0 = []) (it : IterX c k G t iter ds) (ok : compOk scope c.sc = true) (hc : c'.sc = relS scope c.sc) (ok' : c'.ok = true) (inh : Inh c.ns G scope c'.ns G')
    (turn : ∀ i d, ds[i]? = some d → CTurn c' k G' t ifs (actDict kx vx) d (.dict (accd i)) (.dict (accd (i + 1)))) (hfs : ∀ env x, foldedSetIterable iter env x = pure x := by intro _ _; rfl) : EVX c k G (.DictComp kx vx [⟨t, iter, ifs, 0⟩] scope pos) (.own (.dict (accd ds.length))) :=
  evx_core (e := .DictComp kx vx [⟨t, iter, ifs, 0⟩] scope pos) (act := actDict kx vx) (pos := firstIterPos [⟨t, iter, ifs, 0⟩] pos) rfl loop_dict1 start_dict1 it (fun i => .dict (accd i)) newDict_ok (fun w h X hs => by rw [h0]; exact held_dict0 w h X hs) ok hc ok' inh turn hfs (fun env => rfl)
theorem FS.drop {w : World} {hb : Heap} {X₀ X : Addr → Prop} {env : Env} {h h' : Heap} {C : Addr} (F : FS c w hb X₀ X env h G) (xC : X C) (x0 : ¬ X₀ C) (hs : ∀ b o, b ≠ C → h.get? b = some o → h'.get? b = some o) (hl : C ≠ env.locals) (hcell : ∀ y, env.cells.lookup y ≠ some C)
    (hd : ∀ x d a, Has c.ns G x (.own d) → VarIs env h x (.ref a) → a ≠ C) : FS c w hb X₀ (fun b => X b ∧ b ≠ C) env h' G := by
  obtain ⟨xl, m, n⟩ := F.loc
  have n' : h'.Ns env.locals m := by obtain ⟨o, es, ep, e, r⟩ := n; exact ⟨o, es, ep, hs _ _ (Ne.symm hl) e, r⟩
  have nC : ∀ y b, env.cells.lookup y = some b → b ≠ C := fun y b e q => hcell y (q ▸ e)
  have vy : ∀ y u, VarIs env h y u → VarIs env h' y u := fun y u vy => by
    rcases vy with ⟨ky, m', n1, e1⟩ | ⟨ky, b, l, cl⟩
    · exact .inl ⟨ky, m, n', by rw [ns_fun n n1]; exact e1⟩
    · exact .inr ⟨ky, b, l, let ⟨o, ho, r⟩ := cl; ⟨o, hs _ _ (nC y b l) ho, r⟩⟩
  have back : ∀ y e u, Has c.ns G y e → VarIs env h' y u → VarIs env h y u := fun y e u hy v1 => by
    obtain ⟨u', a', _⟩ := F.var y _ hy
    have := VarIs.uniq v1 (vy y u' a'); subst this; exact a'
  have pr : Pres X h h' := fun b o nx e => hs b o (fun q => nx (q ▸ xC)) e
  refine ⟨F.sc, F.ok, F.gl, F.bl, fun b o eb => hs b o (fun q => ?_) (F.base b o eb), fun b q => ⟨F.sub b q, fun z => x0 (z ▸ q)⟩, fun b xb => ⟨?_, (F.fresh b xb.1).2⟩, ⟨⟨⟨xl.1, Ne.symm hl⟩, xl.2⟩, m, n'⟩, fun y b e => ⟨⟨⟨(F.cells y b e).1.1, nC y b e⟩, (F.cells y b e).1.2⟩, ?_⟩, F.apart, F.celled, fun y e hy => ?_, fun y z l m' v ne a b v1 v2 => F.owned y z l m' v ne a b (back y _ v a v1) (back z _ v b v2), fun y d b hy v1 => F.off y d b hy (back y _ _ hy v1)⟩
  · have := (F.fresh C xC).2; rw [← q, eb] at this; cases this
  · obtain ⟨o, ho⟩ := Option.isSome_iff_exists.mp (F.fresh b xb.1).1
    rw [hs b o xb.2 ho]; rfl
  · obtain ⟨v, o, ho, r⟩ := (F.cells y b e).2
    exact ⟨v, o, hs _ _ (nC y b e) ho, r⟩
  · obtain ⟨v, vv, r⟩ := F.var y e hy
    refine ⟨v, vy y v vv, ?_⟩
    cases e with
    | imm d => exact Rep.weak (fun _ _ x => x.1) d v (Rep.pres pr d v r)
    | own d =>
      obtain ⟨b, e, xb, b0, rb⟩ := r
      subst e
      have nb := hd y d b hy vv
      exact ⟨b, rfl, ⟨xb, nb⟩, b0, (rb.pres pr fun o e => hs _ _ nb e).weak fun _ _ x => x.1⟩
theorem es_use_core {e : Expr} {t iter : Expr} {ifs : List Expr} {gs : List Comprehension} {act : Value → Env → Sem Unit} {scope : Scope} {cpos : Pos} {newAcc : Sem Value} {ds : List D} (hcl : clausesOf e = ⟨t, iter, ifs, 0⟩ :: gs) (hL : CompLoop e 0 t ifs act) (hS : CompStart e 0)
    (it : IterX c k G t iter ds) (accd : Nat → D) {accO : Obj} (hnew : ∀ (w : World) (A : Around) (s : Shared) (Q : Value → Shared → Prop), Q (.ref s.heap.objs.size) { s with heap := s.heap.push accO } → wpAny (model pw w) A newAcc Q (fun _ _ => False) s)
    (hacc0 : ∀ (w : World) (h : Heap) (X : Addr → Prop), mainGlobals < h.objs.size → Held w X (h.push accO) (accd 0) h.objs.size) (ok : compOk scope c.sc = true) (hc : c'.sc = relS scope c.sc) (ok' : c'.ok = true) (inh : Inh c.ns G scope c'.ns G')
    (turn : ∀ i d, ds[i]? = some d → CTurn c' k G' t ifs act d (accd i) (accd (i + 1))) (hfs : ∀ env x, foldedSetIterable iter env x = pure x) {x : Str} {p pos : Pos} {G2 : Ctx} (q' : Put c.ns G x (.own (accd ds.length)) G2)
    (hsw : ∀ env, env.scope = c.sc → swapsWith e (some (.Name x p)) pos.line env = pure true) (hev : ∀ env use, evalThenUse e env use = (do let _ ← comprehension e scope env cpos newAcc false (eval iter env) (some use))) :
    ES c k G (.Assign [.Name x p] e pos) (.next G2) := fun w hb A X₀ X env s O F => by
  rw [exec_Assign_Name_used _ _ _ _ (hsw env F.sc), hev]
  refine wpAny_bind (wpAny_standAt (wpAny_bind (wpAny_bind (wpAny_mono (Q := fun _ s' => UP c w hb X₀ X env s (.next G2) .next s') (comp_core hcl hL hS it accd hnew hacc0 ok hc ok' inh turn hfs O F (fun h1 t1 acc C m g na nc ne nm H => ?_)) (fun _ s' hq => wpAny_pure (wpAny_pure hq)) fun _ _ x => x))))
  have sC : (h1.get? C).isSome = true := by obtain ⟨o, _, _, e, _⟩ := nm; rw [e]; rfl
  have F1 := F.take g na H.some
  have F2 : FS c w hb X₀ (fun b => (X b ∨ b = acc) ∨ b = C) env h1 G := by
    have Fa := F.take (Grow.refl s.heap |>.trans g) na H.some
    have nX : ∀ b, X b → b ≠ C := fun b xb e => by have := (F.fresh b xb).1; rw [e, nc] at this; cases this
    have hbC : hb.get? C = Option.none := none_back F.base nc
    refine ⟨Fa.sc, Fa.ok, Fa.gl, Fa.bl, Fa.base, fun b x => .inl (Fa.sub b x), fun b x => ?_, ⟨⟨.inl Fa.loc.1.1, Fa.loc.1.2⟩, Fa.loc.2⟩, fun x b e => ⟨⟨.inl (Fa.cells x b e).1.1, (Fa.cells x b e).1.2⟩, (Fa.cells x b e).2⟩, Fa.apart, Fa.celled, fun x e q => ?_, Fa.owned, Fa.off⟩
    · rcases x with x | rfl
      · exact Fa.fresh b x
      · exact ⟨sC, hbC⟩
    · obtain ⟨v0, p0, r0⟩ := F.var x e q
      have more : ∀ b, (s.heap.get? b).isSome = true → ((X b ∨ b = acc) ∨ b = C) → X b := fun b hb' q => by
        rcases q with (q | q) | q
        · exact q
        · rw [q, na] at hb'; cases hb'
        · rw [q, nc] at hb'; cases hb'
      refine ⟨v0, p0.grow g, ?_⟩
      cases e with
      | imm d => exact Rep.pres g.pres d v0 (Rep.weak more d v0 r0)
      | own d => obtain ⟨b, e, xb, x0, r⟩ := r0; exact ⟨b, e, .inl (.inl xb), x0, (r.weak more).pres g.pres fun o e => g _ _ e⟩
  have nx0 : ∀ a, s.heap.get? a = Option.none → ¬ X₀ a := fun a n z => F.notX n (F.sub _ z)
  have accl : acc ≠ env.locals := fun z => by obtain ⟨_, mm, o, _, _, e, _⟩ := F.loc; rw [← z, na] at e; cases e
  have Cl : C ≠ env.locals := fun z => by obtain ⟨_, mm, o, _, _, e, _⟩ := F.loc; rw [← z, nc] at e; cases e
  have Ccell : ∀ y, env.cells.lookup y ≠ some C := fun y e => by obtain ⟨_, v, o, ho, _⟩ := F.cells y C e; rw [nc] at ho; cases ho
  have H' : Held w (fun b => (X b ∨ b = acc) ∨ b = C) h1 (accd ds.length) acc := H.weak fun _ _ x => x.elim (fun x => x.elim .inl fun x => .inr (.inl x)) fun x => .inr (.inr x)
  refine wpAny_assign_Name (wp_store (e := .own (accd ds.length)) F2 q' ⟨acc, rfl, .inl (.inr rfl), nx0 acc na, H'⟩ (fun l' _ => ⟨fun b e => by cases e; exact accl, fun y m' hy vy => ?_⟩) fun h2 tk2 F3 pr vx2 vy2 kp => ?_)
  · obtain ⟨u, vu, b, e, _, _, hd⟩ := F.var y _ hy
    have := VarIs.uniq vy (vu.grow g); subst this
    cases e
    have := hd.some; rw [na] at this; cases this
  · obtain ⟨oC, es, ep, eC, rC⟩ := nm
    refine ⟨m, ⟨oC, es, ep, kp C oC Cl Ccell eC, rC⟩, fun h3 hs => ⟨h3, tk2, rfl, fun b o nb e => ?_, rfl, (fun b => ((X b ∨ b = acc) ∨ b = C) ∧ b ≠ C), fun b z => ?_, ?_⟩⟩
    · have nbC : b ≠ C := fun z => by rw [z, nc] at e; cases e
      rw [hs.2 b nbC]
      exact pr b o (fun z => by
        rcases z.1 with (z1 | z1) | z1
        · exact nb ⟨z1, z.2⟩
        · rw [z1, na] at e; cases e
        · exact nbC z1) (g b o e)
    · rcases z.1 with (z | rfl) | rfl
      · exact .inl z
      · exact .inr na
      · exact .inr nc
    · refine F3.drop (.inr rfl) (nx0 C nc) (fun b o nb e => by rw [hs.2 b nb]; exact e) Cl Ccell (fun y d a hy vy q => ?_)
      rcases Has.of_put q' (SC.ok_nodup F.ok) hy with ⟨e1, e2⟩ | ⟨ne1, h1'⟩
      · subst e1
        have := VarIs.uniq vy vx2; cases this
        exact ne q
      · obtain ⟨u, vu, b, e, _, _, hd⟩ := F.var y _ h1'
        have := VarIs.uniq vy (vy2 y u ne1 (vu.grow g)); subst this
        cases e
        have := hd.some; rw [q, nc] at this; cases this
end
section
variable {c c' : SC} {k : Nat} {G G1 G' : Ctx}
theorem act_nest {elt t iter t2 iter2 : Expr} {ifs ifs2 : List Expr} {scope : Scope} {pos : Pos} {ds2 : List D} {a a' : D} (accd2 : Nat → D) (e0 : accd2 0 = a) (e1 : accd2 ds2.length = a') (it2 : IterX c k G t2 iter2 ds2) (no : NoOwn c.ns G)
    (turn : ∀ i d, ds2[i]? = some d → CTurn c k G t2 ifs2 (actList elt) d (accd2 i) (accd2 (i + 1))) (hfs : ∀ env x, foldedSetIterable iter2 env x = pure x := by intro _ _; rfl) :
    ACT c k G (actNest (.ListComp elt [⟨t, iter, ifs, 0⟩, ⟨t2, iter2, ifs2, 0⟩] scope pos) iter2) a a' := fun w hb A X₀ X env s acc O F xa nl nc H => by
  unfold actNest
  refine wpAny_bind (wpAny_mono (it2 w hb A X₀ X env s O F) (fun x s1 h1 => ?_) fun _ _ x => x)
  refine wpAny_bind (wpAny_standAt (wpAny_bind (wpAny_of_eq (hfs env x) (wpAny_bind (wpAny_holding (wpAny_mono h1 (fun itv s2 h2 => ?_) fun _ _ x => x))))))
  obtain ⟨k2, I, fp, wr, St, rfl, g⟩ := h2
  obtain ⟨H0, T0, rfl, g0⟩ := id k2
  dsimp only at g g0
  obtain ⟨RI, gt, ri0⟩ := g.turns X (fun _ _ x => x)
  have F1 := F.grow g0
  have H1 := Held.pres (Grow.pres g0) (fun o e => g0 _ _ e) H
  rw [← e0] at H1
  have hwb : ∀ b ∈ wr, hb.get? b = Option.none := fun b q => none_back F.base (g.new b q)
  have loop : codeAny (model pw w) A (.compLoop (.ListComp elt [⟨t, iter, ifs, 0⟩, ⟨t2, iter2, ifs2, 0⟩] scope pos) 1 (.ref I) (.ref acc) env) (fun r s' => match r with
      | .ok f => ∃ h' tk, s' = { s with heap := h', toks := tk } ∧ (∀ b o, b ≠ acc → b ≠ env.locals → s.heap.get? b = some o → h'.get? b = some o) ∧ FS c w hb X₀ X env h' G ∧ Held w X h' a' acc
      | .error e => cameBackBy (model pw w) A env (fun _ _ => False) e s') { s with heap := H0, toks := T0 } := by
    refine comp_loop loop_list21 accd2 turn O gt ri0 g.st F1 xa nl nc H1 g.off hwb (fun h1 t1 kp F3 H3 => ?_)
    exact ⟨h1, t1, rfl, fun b o n1 n2 e => kp b o (fun q => by rw [g.new b q] at e; cases e) n2 n1 (g0 b o e), F3, e1 ▸ H3⟩
  have q := wpAny_runOwn (M := model pw w) (A := A) (env := env) (E := fun _ _ => False) (h := Option.none) (Q := fun _ s' => ∃ h' tk, s' = { s with heap := h', toks := tk } ∧ (∀ b o, b ≠ acc → b ≠ env.locals → s.heap.get? b = some o → h'.get? b = some o) ∧ FS c w hb X₀ X env h' G ∧ Held w X h' a' acc) (start_list21 w A _ _ _ _ _ loop (g.self 0 _ _ _ g.st loop))
  exact wpAny_bind (wpAny_mono q (fun _ s' h => wpAny_pure h) fun _ _ x => x)
theorem evx_list {elt t iter : Expr} {ifs : List Expr} {scope : Scope} {pos : Pos} {ds : List D} (accd : Nat → List D) (h0 : accd 0 = []) (it : IterX c k G t iter ds) (ok : compOk scope c.sc = true) (hc : c'.sc = relS scope c.sc) (ok' : c'.ok = true) (inh : Inh c.ns G scope c'.ns G')
    (turn : ∀ i d, ds[i]? = some d → CTurn c' k G' t ifs (actList elt) d (.list (accd i)) (.list (accd (i + 1)))) (hfs : ∀ env x, foldedSetIterable iter env x = pure x := by intro _ _; rfl) : EVX c k G (.ListComp elt [⟨t, iter, ifs, 0⟩] scope pos) (.own (.list (accd ds.length))) :=
  evx_core (e := .ListComp elt [⟨t, iter, ifs, 0⟩] scope pos) (act := actList elt) (pos := firstIterPos [⟨t, iter, ifs, 0⟩] pos) rfl loop_list1 start_list1 it (fun i => .list (accd i)) newList_ok (fun w h X hs => by rw [h0]; exact held_list0 w h X) ok hc ok' inh turn hfs (fun env => rfl)
theorem es_use_list {elt t iter : Expr} {ifs : List Expr} {scope : Scope} {cpos : Pos} {ds : List D} (accd : Nat → List D) (h0 : accd 0 = []) (it : IterX c k G t iter ds) (ok : compOk scope c.sc = true) (hc : c'.sc = relS scope c.sc) (ok' : c'.ok = true) (inh : Inh c.ns G scope c'.ns G')
    (turn : ∀ i d, ds[i]? = some d → CTurn c' k G' t ifs (actList elt) d (.list (accd i)) (.list (accd (i + 1)))) {x : Str} {p pos : Pos} {G2 : Ctx} (q' : Put c.ns G x (.own (.list (accd ds.length))) G2)
    (hsw : ∀ env, env.scope = c.sc → swapsWith (.ListComp elt [⟨t, iter, ifs, 0⟩] scope cpos) (some (.Name x p)) pos.line env = pure true) (hfs : ∀ env x, foldedSetIterable iter env x = pure x := by intro _ _; rfl) : ES c k G (.Assign [.Name x p] (.ListComp elt [⟨t, iter, ifs, 0⟩] scope cpos) pos) (.next G2) :=
  es_use_core (e := .ListComp elt [⟨t, iter, ifs, 0⟩] scope cpos) (act := actList elt) (cpos := firstIterPos [⟨t, iter, ifs, 0⟩] cpos) rfl loop_list1 start_list1 it (fun i => .list (accd i)) newList_ok (fun w h X hs => by rw [h0]; exact held_list0 w h X) ok hc ok' inh turn hfs q' hsw (fun env use => rfl)
theorem es_use_list2 {elt t iter t2 iter2 : Expr} {ifs ifs2 : List Expr} {scope : Scope} {cpos : Pos} {ds : List D} (accd : Nat → List D) (h0 : accd 0 = []) (it : IterX c k G t iter ds) (ok : compOk scope c.sc = true) (hc : c'.sc = relS scope c.sc) (ok' : c'.ok = true) (inh : Inh c.ns G scope c'.ns G')
    (turn : ∀ i d, ds[i]? = some d → CTurn c' k G' t ifs (actNest (.ListComp elt [⟨t, iter, ifs, 0⟩, ⟨t2, iter2, ifs2, 0⟩] scope cpos) iter2) d (.list (accd i)) (.list (accd (i + 1)))) {x : Str} {p pos : Pos} {G2 : Ctx} (q' : Put c.ns G x (.own (.list (accd ds.length))) G2)
    (hsw : ∀ env, env.scope = c.sc → swapsWith (.ListComp elt [⟨t, iter, ifs, 0⟩, ⟨t2, iter2, ifs2, 0⟩] scope cpos) (some (.Name x p)) pos.line env = pure true) (hfs : ∀ env x, foldedSetIterable iter env x = pure x := by intro _ _; rfl) : ES c k G (.Assign [.Name x p] (.ListComp elt [⟨t, iter, ifs, 0⟩, ⟨t2, iter2, ifs2, 0⟩] scope cpos) pos) (.next G2) :=
  es_use_core (e := .ListComp elt [⟨t, iter, ifs, 0⟩, ⟨t2, iter2, ifs2, 0⟩] scope cpos) (act := actNest (.ListComp elt [⟨t, iter, ifs, 0⟩, ⟨t2, iter2, ifs2, 0⟩] scope cpos) iter2) (gs := [⟨t2, iter2, ifs2, 0⟩]) (cpos := firstIterPos [⟨t, iter, ifs, 0⟩, ⟨t2, iter2, ifs2, 0⟩] cpos) rfl loop_list20 start_list20 it (fun i => .list (accd i)) newList_ok (fun w h X hs => by rw [h0]; exact held_list0 w h X) ok hc ok' inh turn hfs q' hsw (fun env use => rfl)
end
noncomputable def immOnly : Ctx → Bool
  | [] => true
  | some (.own _) :: _ => false
  | _ :: G => immOnly G
theorem noOwn_of : ∀ {G : Ctx} {ns : List Str}, immOnly G = true → NoOwn ns G
  | [], _, _, _, _, q => by cases q
  | some (.own _) :: _, _, h, _, _, _ => by cases h
  | none :: G, _, h, _, _, q => by cases q with | tail q => exact noOwn_of (G := G) h _ _ q
  | some (.imm _) :: G, _, h, _, _, q => by cases q with | tail q => exact noOwn_of (G := G) h _ _ q
section
variable {c c' : SC} {k : Nat} {G G' : Ctx}
theorem evn_comp {elt t iter : Expr} {ifs : List Expr} {scope : Scope} {pos : Pos} {ds : List D} (f : D → Option D) (it : Iter c k G iter ds) (hl : ds.length ≤ 2 ^ 24) (ok : compOk scope c.sc = true) (hc : c'.sc = relS scope c.sc) (ok' : c'.ok = true)
    (inh : Inh c.ns G scope c'.ns G')
    (turn : ∀ d ∈ ds, ∃ G1, ASL c' k G' t d G1 ∧ Less G' G1 ∧ NoOwn c'.ns G1 ∧ match f d with
      | some r => TS c' k G1 ifs true ∧ EV c' k G1 elt r
      | Option.none => TS c' k G1 ifs false)
    (hfs : ∀ env x, foldedSetIterable iter env x = pure x := by intro _ _; rfl) : EVN c k G (.ListComp elt [⟨t, iter, ifs, 0⟩] scope pos) (ds.filterMap f) := by
  have q := evx_list (c' := c') (G' := G') (elt := elt) (t := t) (ifs := ifs) (pos := pos) (fun i => (ds.take i).filterMap f) rfl (iterX_of it) ok hc ok' inh (fun i d hd => ?_) hfs
  · rw [List.take_length] at q
    exact evx_new' q
  · obtain ⟨G1, a, l, no, m⟩ := turn d (List.mem_of_getElem? hd)
    have e : ds.take (i + 1) = ds.take i ++ [d] := by rw [List.take_add_one, hd]; rfl
    have hlen : ((ds.take i).filterMap f).length ≤ 2 ^ 24 := Nat.le_trans (List.length_filterMap_le ..) (Nat.le_trans (by rw [List.length_take]; exact Nat.min_le_right ..) hl)
    refine ⟨G1, a, l, no, ?_⟩
    show _ ∨ _ ∧ D.list ((ds.take (i + 1)).filterMap f) = _
    rw [e, List.filterMap_append]
    cases hf : f d with
    | none =>
      rw [hf] at m
      exact .inr ⟨m, by simp [hf]⟩
    | some r =>
      rw [hf] at m
      refine .inl ⟨m.1, ?_⟩
      rw [show [d].filterMap f = [r] by simp [hf]]
      exact act_list m.2 no hlen
end
theorem repL_pairs {w : World} {X : Addr → Prop} {h : Heap} : ∀ {ns : List Int} {vs : List Value}, RepL w X h (ns.map D.int) vs → ∃ xs : List (Int × Tok), vs = xs.map (fun p => Value.int p.1 p.2) ∧ xs.map (·.1) = ns
  | [], vs, r => by simp only [List.map_nil, RepL] at r; exact ⟨[], r, rfl⟩
  | n :: ns, vs, r => by
    simp only [List.map_cons, RepL] at r
    obtain ⟨v, us, rfl, rv, ru⟩ := r
    obtain ⟨t, rfl⟩ := rv.int_of
    obtain ⟨xs, e1, e2⟩ := repL_pairs ru
    exact ⟨(n, t) :: xs, by simp [e1], by simp [e2]⟩
theorem repL_intsAre {w : World} {X : Addr → Prop} {h : Heap} : ∀ {ns : List Int} {vs : List Value}, RepL w X h (ns.map D.int) vs → IntsAre vs ns
  | [], vs, r => by simp only [List.map_nil, RepL] at r; subst r; exact .nil
  | n :: ns, vs, r => by
    simp only [List.map_cons, RepL] at r
    obtain ⟨v, us, rfl, rv, ru⟩ := r
    obtain ⟨t, rfl⟩ := rv.int_of
    exact .cons n t (repL_intsAre ru)
theorem bc_sum {ns : List Int} : BC "sum" [.list (ns.map D.int)] (.int ns.sum) := fun w hb A X s vs n O _ r => by
  obtain ⟨v, rfl, q⟩ := r.one_of
  obtain ⟨a, us, rfl, _, hl, rl⟩ := q.list_of
  obtain ⟨xs, e1, e2⟩ := repL_pairs rl
  have hl' : s.heap.IsList a (intItems xs.toArray) := by
    have : us.toArray = intItems xs.toArray := by rw [e1]; simp [intItems]
    rw [← this]; exact hl
  refine sum_intListG O.handled hl' fun h' tk t' hk => ⟨⟨h', tk, rfl, hk⟩, ?_⟩
  rw [preSum_eq, List.take_of_length_le (by simp), show xs.toArray.toList.map (·.1) = ns by simpa using e2]
  exact rep_int
theorem bc_max {ns : List Int} {m : Int} (hm : m ∈ ns) (hle : ∀ a ∈ ns, a ≤ m) : BC "max" [.list (ns.map D.int)] (.int m) := fun w hb A X s vs n O _ r => by
  obtain ⟨v, rfl, q⟩ := r.one_of
  obtain ⟨a, us, rfl, _, hl, rl⟩ := q.list_of
  obtain ⟨xs, e1, e2⟩ := repL_pairs rl
  have hl' : s.heap.IsList a (intItems xs.toArray) := by
    have : us.toArray = intItems xs.toArray := by rw [e1]; simp [intItems]
    rw [← this]; exact hl
  have hlen : 0 < xs.toArray.size := by
    rw [← e2] at hm
    obtain ⟨p, hp, _⟩ := List.mem_map.mp hm
    simpa using List.length_pos_of_mem hp
  refine max_intList O.handled hl' hlen fun v h' tk hv hk => ⟨⟨h', tk, rfl, hk⟩, ?_⟩
  obtain ⟨t, rfl⟩ := intItems_at hv
  obtain ⟨h1, h2⟩ := argBest_gt (numAt xs.toArray) (xs.toArray.size - 1)
  generalize argBest (fun i j => decide (numAt xs.toArray i > numAt xs.toArray j)) (xs.toArray.size - 1) = j at *
  have en : ∀ i, numAt xs.toArray i = ns.getD i 0 := fun i => by rw [numAt_eq]; simp [e2]
  have hsz : xs.toArray.size = ns.length := by rw [← e2]; simp
  have hin : ns.getD j 0 ∈ ns := by
    have hj : j < ns.length := by lia
    rw [List.getD_eq_getElem?_getD, List.getElem?_eq_getElem hj]; exact List.getElem_mem hj
  have e3 : numAt xs.toArray j = m := by
    rw [en]
    apply Int.le_antisymm (hle _ hin)
    obtain ⟨i, hi, e⟩ := List.getElem_of_mem hm
    have := h2 i (by lia)
    rw [en, en] at this
    rw [List.getD_eq_getElem?_getD, List.getElem?_eq_getElem hi] at this
    simpa [e] using this
  rw [e3]; exact rep_int
noncomputable def pickD {α : Type} (ds : List α) (lo hi st : Option Int) : List α := (sliceRange (sliceBounds lo hi st ds.length).1 (sliceBounds lo hi st ds.length).2.1 (sliceBounds lo hi st ds.length).2.2).filterMap (ds[·]?)
theorem pickD_map {α β : Type} (f : α → β) (ds : List α) (lo hi st : Option Int) : pickD (ds.map f) lo hi st = (pickD ds lo hi st).map f := by
  unfold pickD
  rw [List.length_map, List.map_filterMap]
  congr 1
  funext i
  rw [List.getElem?_map]
theorem RepL.places {w : World} {X : Addr → Prop} {h : Heap} {ds : List D} {vs : List Value} (r : RepL w X h ds vs) : ∀ js : List Nat, RepL w X h (js.filterMap (ds[·]?)) (js.filterMap (vs[·]?))
  | [] => RepL.nil
  | j :: js => by
    have ih := RepL.places r js
    cases hn : ds[j]? with
    | some d =>
      obtain ⟨v, hv, rv⟩ := r.at j hn
      simp only [List.filterMap_cons, hn, hv, RepL]
      exact ⟨v, _, rfl, rv, ih⟩
    | none =>
      have hv : vs[j]? = Option.none := by
        rw [List.getElem?_eq_none_iff] at hn ⊢
        rw [r.length]; exact hn
      simp only [List.filterMap_cons, hn, hv]
      exact ih
section
variable {c : SC} {k : Nat} {G : Ctx}
noncomputable def EPt (c : SC) (k : Nat) (G : Ctx) (e : Option Expr) (i : Option Int) : Prop :=
  ∀ (w : World) (hb : Heap) (A : Around) (X₀ X : Addr → Prop) (env : Env) (s : Shared), Ok w hb A k → FS c w hb X₀ X env s.heap G →
    wpAny (model pw w) A (evalPart e env) (fun v s' => Keeps s s' ∧ IsPart v i) (fun _ _ => False) s
theorem ept_none : EPt c k G Option.none Option.none := fun w hb A X₀ X env s O F => by rw [evalPart_none]; exact wpAny_pure ⟨kR s, .none⟩
theorem ept_some {e : Expr} {i : Int} (h : EV c k G e (.int i)) : EPt c k G (some e) (some i) := fun w hb A X₀ X env s O F => by
  rw [evalPart_some]
  exact wpAny_mono (h w hb A X₀ X env s O F) (fun v s' ⟨k1, r⟩ => by obtain ⟨t, rfl⟩ := r.int_of; exact ⟨k1, .int i t⟩) fun _ _ x => x
theorem ev_slice {e : Expr} {lo hi st : Option Expr} {p pos : Pos} {ds : List D} {a b z : Option Int} (he : EV c k G e (.list ds)) (hlo : EPt c k G lo a) (hhi : EPt c k G hi b) (hst : EPt c k G st z) (h0 : z ≠ some 0) (hl : ds.length ≤ 2 ^ 24)
    (hs : ∀ l sl : Addr, ∃ ops, subscripted (.Slice lo hi st p) false (.ref l) (.ref sl) = operate ops (getItem (.ref l) (.ref sl)) := by intro _ _; exact ⟨_, rfl⟩) (ht : ∀ o r, letTemporaryGo e o r = pure () := by intro _ _; rfl) :
    EV c k G (.Subscript e (.Slice lo hi st p) pos) (.list (pickD ds a b z)) := fun w hb A X₀ X env s O F =>
  Subscript_ (wpAny_mono (he w hb A X₀ X env s O F) (fun u s1 ⟨k1, r1⟩ => by
    obtain ⟨l, us, rfl, nl, hl1, rl⟩ := r1.list_of
    have F1 := F.grow (kH k1)
    refine wpAny_Slice (wpAny_mono (hlo w hb A X₀ X env s1 O F1) (fun vl s2 zp => ?_) fun _ _ x => x.elim)
    obtain ⟨k2, p2⟩ := zp
    have F2 := F1.grow (kH k2)
    refine wpAny_mono (hhi w hb A X₀ X env s2 O F2) (fun vh s3 zp => ?_) fun _ _ x => x.elim
    obtain ⟨k3, p3⟩ := zp
    have F3 := F2.grow (kH k3)
    refine wpAny_mono (hst w hb A X₀ X env s3 O F3) (fun vs s4 zp => ?_) fun _ _ x => x.elim
    obtain ⟨k4, p4⟩ := zp
    have k14 := kT k2 (kT k3 k4)
    have g14 := kH k14
    have hl4 : s4.heap.IsList l us.toArray := let ⟨o, e, r⟩ := hl1; ⟨o, g14 _ _ e, r⟩
    obtain ⟨ops, hso⟩ := hs l s4.heap.objs.size
    refine subscriptTail_ops (Heap.IsList.typeIs (s := { s4 with heap := s4.heap.push { cls := .type "slice", data := .fields #[vl, vh, vs] } }) (hl4.push _)) list_getitem_lookup
      (wpAny_getItem_list_slice (hl4.push _) (Heap.IsSliceOf.new ..) p2 p3 p4 h0 ?_ (by rw [List.size_toArray, rl.length]; exact hl)) hso (fun r => ht _ r)
    have gp : Grow s4.heap ((s4.heap.push { cls := .type "slice", data := .fields #[vl, vh, vs] }).push { cls := .type "list", data := .seq (slicePick us.toArray a b z) }) := fun _ _ e => Heap.get?_push_of_some _ (Heap.get?_push_of_some _ e)
    refine ⟨kT k1 (kT k14 ⟨_, s4.toks, rfl, gp⟩), ?_⟩
    simp only [Rep]
    have nX : ¬ X (s4.heap.push { cls := .type "slice", data := .fields #[vl, vh, vs] }).objs.size := (F1.grow g14).notX (none_of_le (by rw [Heap.size_push]; lia))
    refine ⟨_, (slicePick us.toArray a b z).toList, rfl, nX, ⟨_, Heap.get?_push_size _ rfl⟩, RepL.pres gp.pres _ _ (RepL.pres g14.pres _ _ ?_)⟩
    have e5 : (slicePick us.toArray a b z).toList = (sliceRange (sliceBounds a b z ds.length).1 (sliceBounds a b z ds.length).2.1 (sliceBounds a b z ds.length).2.2).filterMap (us[·]?) := by
      simp [slicePick, rl.length]
    rw [e5]
    exact RepL.places rl _) fun _ _ x => x.elim)
end
theorem co_ne_ints {ns ms : List Int} : CO .NotEq (.list (ns.map D.int)) (.list (ms.map D.int)) (!decide (ns = ms)) := fun w hb A X s u v n O ru rv => by
  obtain ⟨a, xs, rfl, _, hl1, r1⟩ := ru.list_of
  obtain ⟨b, ys, rfl, _, hl2, r2⟩ := rv.list_of
  exact ke_ne_ints hl1 hl2 (repL_intsAre r1) (repL_intsAre r2) (by have := O.units; lia) ⟨kR s, rfl⟩
theorem co_ne_tup {a b a' b' : Int} : CO .NotEq (.tup [.int a, .int b]) (.tup [.int a', .int b']) (!decide (a = a' ∧ b = b')) := fun w hb A X s u v n O ru rv => by
  obtain ⟨x, xs, rfl, _, ⟨o1, e1, c1, n1, d1⟩, r1⟩ := ru.tup_of
  obtain ⟨y, ys, rfl, _, ⟨o2, e2, c2, n2, d2⟩, r2⟩ := rv.tup_of
  obtain ⟨p1, p2, rfl, q1, q2⟩ := r1.two_of
  obtain ⟨p3, p4, rfl, q3, q4⟩ := r2.two_of
  obtain ⟨t1, rfl⟩ := q1.int_of
  obtain ⟨t2, rfl⟩ := q2.int_of
  obtain ⟨t3, rfl⟩ := q3.int_of
  obtain ⟨t4, rfl⟩ := q4.int_of
  refine ne_dataH (da := .tuple [.int a, .int b]) (db := .tuple [.int a', .int b']) (reads_tuple_at e1 c1 d1 (.cons (.int _ _) (.cons (.int _ _) .nil))) (reads_tuple_at e2 c2 d2 (.cons (.int _ _) (.cons (.int _ _) .nil))) (by rfl) (by rfl) (by have := O.units; lia) ⟨kR s, ?_⟩
  congr 1
  by_cases h1 : a = a' <;> by_cases h2 : b = b' <;> simp [PyData.eqv, PyData.eqvAll, h1, h2]
section
variable {c : SC} {k : Nat} {G : Ctx}
noncomputable def enumD (ns : List Int) : List D := ns.mapIdx fun i n => .tup [.int i, .int n]
theorem iterX_enum {e : Expr} {p pos tpos : Pos} {elts : List Expr} {n : Nat} {ns : List Int} (m : In c.gs "enumerate") (he : EV c k G e (.list (ns.map D.int))) (hp : Plain [e] := by intro _ _; rfl)
    (hev : ∀ env, eval (.Call (.Name "enumerate" p) [e] [] pos) env = (do callWith pos (← eval (.Name "enumerate" p) env) [] (backTo pos (starEach [e] env)) (backToKw pos (keywordEach [] env))) := by intro _; rfl) (hst : ∀ env, starEach [e] env = (false, eval e env) :: starEach [] env := by intro _; rfl) :
    IterX c k G (.Tuple elts n tpos) (.Call (.Name "enumerate" p) [e] [] pos) (enumD ns) := fun w hb A X₀ X env s O F =>
  ev_type (id := "enumerate") O F m (by decide) (evs_cons he evs_nil hst) hp hev (fun vs s₁ k1 r1 => by
    obtain ⟨v, rfl, rv⟩ := r1.one_of
    obtain ⟨l, us, rfl, nl, hl, rl⟩ := rv.list_of
    have F1 := F.grow (kH k1)
    have lu := rl.length
    rw [List.length_map] at lu
    refine call_enumerate_list hl fun h' he' hit' hz hk => ?_
    have ne1 : s₁.heap.objs.size + 1 ≠ s₁.heap.objs.size := Nat.succ_ne_self _
    have lold : l < s₁.heap.objs.size := by obtain ⟨o, e, _⟩ := hl; exact Heap.lt_size e
    have hle : l ≠ s₁.heap.objs.size + 1 := Nat.ne_of_lt (Nat.lt_succ_of_lt lold)
    have hli : l ≠ s₁.heap.objs.size := Nat.ne_of_lt lold
    have W := WalksT.enumerate (prog := pw) (w := w) (A := A) O.handled (s₁.heap.objs.size + 1) s₁.heap.objs.size l ne1 hle hli us.toArray
    have hl' : h'.IsList l us.toArray := let ⟨o, e, r⟩ := hl; ⟨o, hk _ _ e, r⟩
    have st0 : (∃ old, IsEnum h' (s₁.heap.objs.size + 1) s₁.heap.objs.size (0 : Nat) old) ∧ h'.IsListIter s₁.heap.objs.size l 0 ∧ h'.IsList l us.toArray := ⟨⟨_, he'⟩, hit', hl'⟩
    refine W.self 0 _ _ _ st0 ?_
    have nI : s₁.heap.get? s₁.heap.objs.size = Option.none := none_of_le (Nat.le_refl _)
    have nE : s₁.heap.get? (s₁.heap.objs.size + 1) = Option.none := none_of_le (Nat.le_succ _)
    refine ⟨kT k1 ⟨h', s₁.toks, rfl, hk⟩, s₁.heap.objs.size + 1, [s₁.heap.objs.size + 1, s₁.heap.objs.size, l], [s₁.heap.objs.size + 1, s₁.heap.objs.size], _, rfl, ⟨st0, ?_, ?_, ?_, fun i s Q E st q => W.self i s Q E st q, fun X' hx => ⟨fun _ => True, ⟨W.sub, W.frame, ?_, fun _ _ _ _ => trivial, ?_, ?_⟩, trivial⟩⟩⟩
    · intro b mb
      rcases List.mem_cons.mp mb with rfl | mb
      · exact none_back (kH k1) nE
      · rw [List.mem_singleton.mp mb]; exact none_back (kH k1) nI
    · intro b mb
      rcases List.mem_cons.mp mb with rfl | mb
      · exact F1.notX nE
      · rcases List.mem_cons.mp mb with rfl | mb
        · exact F1.notX nI
        · rw [List.mem_singleton.mp mb]; exact nl
    · intro i h st b mb
      obtain ⟨⟨old, e1⟩, ⟨o, e2, _⟩, o', e3, _⟩ := st
      rcases List.mem_cons.mp mb with rfl | mb
      · rw [e1]; rfl
      · rcases List.mem_cons.mp mb with rfl | mb
        · rw [e2]; rfl
        · rw [List.mem_singleton.mp mb, e3]; rfl
    · intro i h st b mb
      obtain ⟨⟨old, e1⟩, ⟨o, e2, cl, _⟩, _⟩ := st
      rcases List.mem_cons.mp mb with rfl | mb
      · exact notBox_of e1 rfl ⟨by decide, by decide, by decide⟩
      · rw [List.mem_singleton.mp mb]; exact notBox_of e2 cl ⟨by decide, by decide, by decide⟩
    · intro i s2 N K d hd st _ live kk
      have hi : i < us.toArray.size := by
        rcases Nat.lt_or_ge i ns.length with q | q
        · simpa [lu] using q
        · rw [List.getElem?_eq_none (by simpa [enumD] using q)] at hd; cases hd
      refine W.item i s2 _ _ hi st fun T vals h2 tk2 pt hT ht mid kp => ?_
      refine W.go elts n tpos i T _ _ _ mid fun h3 st3 kp3 => ?_
      have ap := W.apart i T h2 mid
      obtain ⟨t, x, hx, hvals⟩ := pt
      have hxx : us[i]? = some x := by simpa using hx
      obtain ⟨nv, hnv⟩ : ∃ nv, ns[i]? = some nv := ⟨ns[i]'(by simpa [lu] using hi), by simp⟩
      obtain ⟨x', hx', rx⟩ := rl.at i (d := .int nv) (by rw [List.getElem?_map, hnv]; rfl)
      rw [hxx] at hx'; cases hx'
      obtain ⟨tx, rfl⟩ := rx.int_of
      have hde : d = .tup [.int i, .int nv] := by
        simp only [enumD, List.getElem?_mapIdx, hnv, Option.map_some, Option.some.injEq] at hd
        exact hd.symm
      subst hde
      refine kk (.ref T) h3 tk2 st3 (fun b o nb e => kp3 b o nb (kp b o nb e)) ?_
      obtain ⟨o, eo, cls, nn, hd2⟩ := ht
      simp only [Rep, RepL]
      refine ⟨T, [.int i t, .int nv tx], rfl, fun xT => ?_, ⟨o, kp3 _ _ ap eo, cls, nn, by rw [hd2, hvals]⟩, _, _, rfl, ⟨_, rfl⟩, _, _, rfl, ⟨_, rfl⟩, rfl⟩
      have := live T xT
      rw [none_of_le hT] at this; cases this
    · intro s2 Q E st kk
      exact W.done s2 Q E (by simpa [enumD, lu] using st) kk) fun _ _ x => x
end
theorem def_grown : pw.theDef "_law_grown" = some (psOf "_law_grown", bodyOf "_law_grown", scOf "_law_grown") := by rfl
noncomputable abbrev c_grown : SC := ⟨scOf "_law_grown", ["row", "sign", "moves", "line", "name", "found", "still"], []⟩
theorem c_grown_ok : c_grown.ok = true := by decide +kernel
theorem ex_grown {line name sign : Str} {found : Int} {still : Bool} {mv : List (Str × D)} {r : D} (l1 : line.length ≤ 1000) (l2 : name.length ≤ 1000) (l3 : sign.length ≤ 1000)
    (h1 : (!still || Txt.contains ":\n" sign) = true → r = .tup [.str (line ++ sign), .str name, .int found, .bool false])
    (h2 : (!still || Txt.contains ":\n" sign) = false → sign = "." → r = .tup [.str (line ++ sign), .str "", .int 0, .bool true])
    (h3 : (!still || Txt.contains ":\n" sign) = false → sign ≠ "." → ∃ l m, mv.lookup sign = some (.list l) ∧ l.length ≤ 1000 ∧ -(l.length : Int) ≤ found ∧ (if found < 0 then l[(found + l.length).toNat]? else l[found.toNat]?) = some (.int m) ∧
      r = .tup [.str (line ++ sign), .str (name ++ sign), .int m, .bool true]) :
    EX c_grown 0 (G0 [.tup [.str line, .str name, .int found, .bool still], .str sign, .dict mv] 4) (bodyOf "_law_grown") (.ret r) := by
  conv => arg 4; whnf
  show EX c_grown 0 [some (.imm (.tup [.str line, .str name, .int found, .bool still])), some (.imm (.str sign)), some (.imm (.dict mv)), none, none, none, none] _ _
  refine ex_cons (es_assign_tup (ev_name .head) (ass_name (.tail (.tail (.tail .head))) (ass_name (.tail (.tail (.tail (.tail .head)))) (ass_name (.tail (.tail (.tail (.tail (.tail .head))))) (ass_name (.tail (.tail (.tail (.tail (.tail (.tail .head)))))) ASS.nil)))) (hw := fun env h => rfl)) ?_
  cases e1 : (!still || Txt.contains ":\n" sign) with
  | true =>
    rw [h1 e1]
    refine ex_ret (es_if (v := true) (by rw [← e1]; exact (it_bool (at_or (it_not (it_val (ev_name (.tail (.tail (.tail (.tail (.tail (.tail .head))))))) tr_bool)) (fun _ => (at_or1 (it_cmp (ev_name (.tail .head)) ev_str co_in_str)))))) (fun _ => ex_ret (es_return ?_)) (fun e => by cases e))
    refine (ev_tup (evs_cons (ev_bin (ev_name (.tail (.tail (.tail .head)))) (ev_name (.tail .head)) (bo_cat ?_)) (evs_cons (ev_name (.tail (.tail (.tail (.tail .head))))) (evs_cons (ev_name (.tail (.tail (.tail (.tail (.tail .head)))))) (evs_cons ev_bool evs_nil)))) (Nat.le_of_ble_eq_true rfl)) <;> lia
  | false =>
    refine ex_cons (es_if (v := false) (by rw [← e1]; exact (it_bool (at_or (it_not (it_val (ev_name (.tail (.tail (.tail (.tail (.tail (.tail .head))))))) tr_bool)) (fun _ => (at_or1 (it_cmp (ev_name (.tail .head)) ev_str co_in_str)))))) (fun e => by cases e) (fun _ => ex_nil)) ?_
    by_cases e2 : sign = "."
    · rw [h2 e1 e2]
      refine ex_ret (es_if (v := true) (by rw [← decide_eq_true e2]; exact (it_cmp (ev_name (.tail .head)) ev_str co_eqs)) (fun _ => ex_ret (es_return ?_)) (fun e => by cases e))
      refine (ev_tup (evs_cons (ev_bin (ev_name (.tail (.tail (.tail .head)))) (ev_name (.tail .head)) (bo_cat ?_)) (evs_cons ev_str (evs_cons ev_int (evs_cons ev_bool evs_nil)))) (Nat.le_of_ble_eq_true rfl)) <;> lia
    · obtain ⟨l, m, hl, hlen, hlo, hm, rfl⟩ := h3 e1 e2
      refine ex_cons (es_if (v := false) (by rw [← decide_eq_false e2]; exact (it_cmp (ev_name (.tail .head)) ev_str co_eqs)) (fun e => by cases e) (fun _ => ex_nil)) ?_
      refine ex_ret (es_return ?_)
      refine (ev_tup (evs_cons (ev_bin (ev_name (.tail (.tail (.tail .head)))) (ev_name (.tail .head)) (bo_cat ?_)) (evs_cons (ev_bin (ev_name (.tail (.tail (.tail (.tail .head))))) (ev_name (.tail .head)) (bo_cat ?_)) (evs_cons (ev_sub (ev_sub (ev_name (.tail (.tail .head))) (ev_name (.tail .head)) (si_dict hl)) (ev_name (.tail (.tail (.tail (.tail (.tail .head)))))) ?_) (evs_cons ev_bool evs_nil)))) (Nat.le_of_ble_eq_true rfl))
      · lia
      · lia
      · exact si_at hm hlo (by exact Nat.le_trans hlen (by decide))
theorem fc_grown {line name sign : Str} {found : Int} {still : Bool} {mv : List (Str × D)} {r : D} {k : Nat} (l1 : line.length ≤ 1000) (l2 : name.length ≤ 1000) (l3 : sign.length ≤ 1000)
    (h1 : (!still || Txt.contains ":\n" sign) = true → r = .tup [.str (line ++ sign), .str name, .int found, .bool false])
    (h2 : (!still || Txt.contains ":\n" sign) = false → sign = "." → r = .tup [.str (line ++ sign), .str "", .int 0, .bool true])
    (h3 : (!still || Txt.contains ":\n" sign) = false → sign ≠ "." → ∃ l m, mv.lookup sign = some (.list l) ∧ l.length ≤ 1000 ∧ -(l.length : Int) ≤ found ∧ (if found < 0 then l[(found + l.length).toNat]? else l[found.toNat]?) = some (.int m) ∧
      r = .tup [.str (line ++ sign), .str (name ++ sign), .int m, .bool true]) : FC "_law_grown" 1 [.tup [.str line, .str name, .int found, .bool still], .str sign, .dict mv] r :=
  fc_of_body (k := 0) (more := ["line", "name", "found", "still"]) def_grown rfl c_grown_ok rfl rfl (fun _ _ b => b.nolimit) (fun pm cd doc vs e => by apply vs3 e; intros; rfl) rfl rfl (ex_grown l1 l2 l3 h1 h2 h3)
noncomputable def endAt (i : Int) (e : Nat) : Nat := if 0 ≤ i then i.toNat else e
noncomputable def stripEnd (msg : Str) : Nat := endAt (findIn msg ":" 0 (endAt (Txt.find msg "\n") msg.length)) (endAt (Txt.find msg "\n") msg.length)
noncomputable def stripStart (msg : Str) : Nat := if 0 ≤ rfindIn msg "." 0 (stripEnd msg) then (rfindIn msg "." 0 (stripEnd msg)).toNat + 1 else 0
noncomputable def stripOf (msg : Str) : Str := cut msg (stripStart msg) (stripEnd msg)
theorem endAt_le {x y : Str} {lo e : Nat} (hy : y.length = 1) : endAt (findIn x y lo e) e ≤ e := by
  unfold endAt
  rcases findIn_spec x y lo e with ⟨h, _⟩ | ⟨i, h, _, hA, _⟩
  · rw [h]; simp
  · rw [h, if_pos (by exact Int.natCast_nonneg _)]; have := hA.1; lia
theorem stripEnd_le (msg : Str) : endAt (Txt.find msg "\n") msg.length ≤ msg.length ∧ stripEnd msg ≤ endAt (Txt.find msg "\n") msg.length :=
  ⟨endAt_le rfl, endAt_le rfl⟩
theorem stripStart_le (msg : Str) : stripStart msg ≤ stripEnd msg := by
  unfold stripStart
  rcases rfindIn_spec msg "." 0 (stripEnd msg) with ⟨h, _⟩ | ⟨i, h, _, hA, _⟩
  · rw [h]; simp
  · rw [h, if_pos (by exact Int.natCast_nonneg _)]; have := hA.1; rw [show (Str.ofString ".").length = 1 from rfl] at this; lia
theorem def_strip : pw.theDef "_strip_exception_details" = some (psOf "_strip_exception_details", bodyOf "_strip_exception_details", scOf "_strip_exception_details") := by rfl
noncomputable abbrev c_strip : SC := ⟨scOf "_strip_exception_details", ["msg", "start", "end", "i"], ["len"]⟩
theorem c_strip_ok : c_strip.ok = true := by decide +kernel
theorem ex_strip {msg : Str} (l : msg.length ≤ 2 ^ 24) : EX c_strip 0 (G0 [.str msg] 3) (bodyOf "_strip_exception_details") (.ret (.str (stripOf msg))) := by
  conv => arg 4; whnf
  show EX c_strip 0 [some (.imm (.str msg)), none, none, none] _ _
  have le1 := (stripEnd_le msg).1
  have le2 := (stripEnd_le msg).2
  have le3 := stripStart_le msg
  refine ex_cons (es_assign_swap (xs := ["start", "end"]) (vs := [.imm (.int 0), .imm (.int msg.length)]) (evxs_cons (evx_imm ev_int) (evxs_cons (evx_imm (ev_blt ht0 .head (by decide) (evs_cons (ev_name .head) evs_nil) (bc_len_str l))) evxs_nil)) (.cons (.tail (.tail .head)) (.cons (.tail .head) .nil)) (Nat.le_of_ble_eq_true rfl) rfl (fun env h => by cases env; cases h; rfl)) ?_
  refine ex_cons (es_assign (ev_meth (ev_name .head) (evs_cons ev_str evs_nil) mc_find) (.tail (.tail (.tail .head)))) ?_
  refine ex_cons (G1 := [some (.imm (.str msg)), some (.imm (.int 0)), some (.imm (.int (endAt (Txt.find msg "\n") msg.length))), none]) (es_if (it_cmp (ev_name (.tail (.tail (.tail .head)))) ev_int co_ge) (fun q => ?_) (fun q => ?_)) ?_
  · unfold endAt; rw [if_pos (of_decide_eq_true q)]
    have := of_decide_eq_true q
    refine ex_cons (es_assign (ev_name (.tail (.tail (.tail .head)))) (.tail (.tail .head))) (ex_less ?_ ex_nil)
    rw [Int.toNat_of_nonneg this]
    exact .same (.same (.same (.drop .nil)))
  · unfold endAt; rw [if_neg (of_decide_eq_false q)]
    exact ex_less (.same (.same (.same (.drop .nil)))) ex_nil
  refine ex_cons (es_assign (ev_meth (ev_name .head) (evs_cons ev_str (evs_cons ev_int (evs_cons (ev_name (.tail (.tail .head))) evs_nil))) (mc_find4 (Nat.zero_le _) (le1))) (.tail (.tail (.tail .head)))) ?_
  refine ex_cons (G1 := [some (.imm (.str msg)), some (.imm (.int 0)), some (.imm (.int (stripEnd msg))), none]) (es_if (it_cmp (ev_name (.tail (.tail (.tail .head)))) ev_int co_ge) (fun q => ?_) (fun q => ?_)) ?_
  · unfold stripEnd; generalize endAt (Txt.find msg "\n") msg.length = e at *
    unfold endAt; rw [if_pos (of_decide_eq_true q)]
    have := of_decide_eq_true q
    refine ex_cons (es_assign (ev_name (.tail (.tail (.tail .head)))) (.tail (.tail .head))) (ex_less ?_ ex_nil)
    rw [Int.toNat_of_nonneg this]
    exact .same (.same (.same (.drop .nil)))
  · unfold stripEnd; generalize endAt (Txt.find msg "\n") msg.length = e at *
    unfold endAt; rw [if_neg (of_decide_eq_false q)]
    exact ex_less (.same (.same (.same (.drop .nil)))) ex_nil
  refine ex_cons (es_assign (ev_meth (ev_name .head) (evs_cons ev_str (evs_cons ev_int (evs_cons (ev_name (.tail (.tail .head))) evs_nil))) (mc_rfind4 (Nat.zero_le _) (Nat.le_trans le2 le1))) (.tail (.tail (.tail .head)))) ?_
  refine ex_cons (G1 := [some (.imm (.str msg)), some (.imm (.int (stripStart msg))), some (.imm (.int (stripEnd msg))), none]) (es_if (it_cmp (ev_name (.tail (.tail (.tail .head)))) ev_int co_ge) (fun q => ?_) (fun q => ?_)) ?_
  · unfold stripStart; rw [if_pos (of_decide_eq_true q)]
    have := of_decide_eq_true q
    refine ex_cons (es_assign (ev_bin (ev_name (.tail (.tail (.tail .head)))) ev_int bo_add) (.tail .head)) (ex_less ?_ ex_nil)
    rw [Int.natCast_add, Int.toNat_of_nonneg this]
    exact .same (.same (.same (.drop .nil)))
  · unfold stripStart; rw [if_neg (of_decide_eq_false q)]
    exact ex_less (.same (.same (.same (.drop .nil)))) ex_nil
  exact ex_ret (es_return (ev_cut (ev_name .head) (ev_name (.tail .head)) (ev_name (.tail (.tail .head))) (le3) (Nat.le_trans le2 le1) (l)))
theorem fc_strip {msg : Str} {k : Nat} (l : msg.length ≤ 2 ^ 24) : FC "_strip_exception_details" 1 [.str msg] (.str (stripOf msg)) :=
  fc_of_body (k := 0) (more := ["start", "end", "i"]) def_strip rfl c_strip_ok rfl rfl (fun _ _ b => b.nolimit) (fun pm cd doc vs e => by apply vs1 e; intros; rfl) rfl rfl (ex_strip l)
noncomputable def ellPos (got : Str) (ws : List Str) (start : Nat) : Nat → Nat
  | 0 => start
  | i + 1 => (findIn got (ws.getD i "") (ellPos got ws start i) got.length).toNat + (ws.getD i "").length
noncomputable def ellHit (got : Str) (ws : List Str) (start : Nat) (i : Nat) : Bool := decide (0 ≤ findIn got (ws.getD i "") (ellPos got ws start i) got.length)
noncomputable def ellAll (got : Str) (ws : List Str) (start : Nat) : Bool := (List.range ws.length).all (ellHit got ws start)
noncomputable def ellRes (got : Str) (ws : List Str) : Bool :=
  if (ws.getD 0 "").length = 0 then ellAll got ws 0 else if Txt.startswith got (ws.getD 0 "") = true then ellAll got (ws.drop 1) (ws.getD 0 "").length else false
theorem ellPos_le {got : Str} {ws : List Str} {start : Nat} (h : start ≤ got.length) : ∀ i, (∀ k, k < i → ellHit got ws start k = true) → ellPos got ws start i ≤ got.length
  | 0, _ => h
  | i + 1, hk => by
    have h1 := of_decide_eq_true (hk i (Nat.lt_succ_self _))
    rcases findIn_spec got (ws.getD i "") (ellPos got ws start i) got.length with ⟨e, _⟩ | ⟨j, e, _, hA, _⟩
    · lia
    · show (findIn got (ws.getD i "") (ellPos got ws start i) got.length).toNat + (ws.getD i "").length ≤ _
      rw [e]; have := hA.1; lia
theorem ell_split {got : Str} {ws : List Str} {start : Nat} : (ellAll got ws start = true ∧ ∀ k, k < ws.length → ellHit got ws start k = true) ∨ (ellAll got ws start = false ∧ ∃ j, j < ws.length ∧ (∀ k, k < j → ellHit got ws start k = true) ∧ ellHit got ws start j = false) := by
  unfold ellAll
  generalize ellHit got ws start = f
  generalize ws.length = n
  induction n with
  | zero => exact .inl ⟨rfl, fun k h => by lia⟩
  | succ n ih =>
    rw [List.range_succ, List.all_append]
    rcases ih with ⟨h, hk⟩ | ⟨h, j, hj, hk, hf⟩
    · rw [h]
      cases hn : f n with
      | true => exact .inl ⟨by simp [hn], fun k q => by rcases Nat.lt_succ_iff_lt_or_eq.mp q with z | z; exact hk k z; rw [z]; exact hn⟩
      | false => exact .inr ⟨by simp [hn], n, Nat.lt_succ_self _, hk, hn⟩
    · exact .inr ⟨by simp [h], j, by exact Nat.lt_succ_of_le (Nat.le_of_lt hj), hk, hf⟩
theorem ellPos_next {got : Str} {ws : List Str} {start i : Nat} (h : 0 ≤ findIn got (ws.getD i "") (ellPos got ws start i) got.length) : findIn got (ws.getD i "") (ellPos got ws start i) got.length + ((ws.getD i "").length : Int) = ((ellPos got ws start (i + 1) : Nat) : Int) := by
  show _ = (((findIn got (ws.getD i "") (ellPos got ws start i) got.length).toNat + (ws.getD i "").length : Nat) : Int)
  lia
theorem def_ell : pw.theDef "_ellipsis_match" = some (psOf "_ellipsis_match", bodyOf "_ellipsis_match", scOf "_ellipsis_match") := by rfl
noncomputable abbrev c_ell : SC := ⟨scOf "_ellipsis_match", ["want", "got", "ws", "startpos", "endpos", "w"], ["ELLIPSIS_MARKER", "len"]⟩
theorem c_ell_ok : c_ell.ok = true := by decide +kernel
noncomputable def ellTail : List Stmt := (bodyOf "_ellipsis_match").drop 9
theorem ex_ell_loop {want got w : Str} {ws : List Str} {start : Nat} (l : got.length ≤ 2 ^ 24) (hl : ∀ i, (ws.getD i "").length ≤ 2 ^ 24) (hs : start ≤ got.length) (hn : ws.length ≤ 1000) :
    EX c_ell 0 [some (.imm (.str want)), some (.imm (.str got)), some (.own (.list (ws.map D.str))), some (.imm (.int start)), some (.imm (.int got.length)), some (.imm (.str w))] ellTail (.ret (.bool (ellAll got ws start))) := by
  conv => arg 4; whnf
  refine ex_freeze (.tail (.tail .head)) (.tail (.tail .head)) ?_
  have get : ∀ i, i < ws.length → (ws.map D.str)[i]? = some (.str (ws.getD i "")) := fun i h => by simp [List.getElem?_map, h, List.getD]
  rcases ell_split (got := got) (ws := ws) (start := start) with ⟨h, hk⟩ | ⟨h, j, hj, hk, hf⟩
  · rw [h]
    refine ex_cons (G1 := [some (.imm (.str want)), some (.imm (.str got)), some (.imm (.list (ws.map D.str))), some (.imm (.int (ellPos got ws start ws.length))), some (.imm (.int got.length)), none]) (es_for (iter_list (ev_name (.tail (.tail .head)))) (fun i => [some (.imm (.str want)), some (.imm (.str got)), some (.imm (.list (ws.map D.str))), some (.imm (.int (ellPos got ws start i))), some (.imm (.int got.length)), none]) (.same (.same (.same (.same (.same (.drop .nil)))))) ws.length (by simp) (fun i d hi hd => ?_) (.inl ⟨by simp, rfl⟩)) (ex_ret (es_return ev_bool))
    rw [get i hi] at hd; cases hd
    refine ⟨_, as_name (.tail (.tail (.tail (.tail (.tail .head))))), ?_⟩
    have hp := ellPos_le hs i (fun k q => hk k (by exact Nat.lt_trans q hi))
    have hh := of_decide_eq_true (hk i hi)
    refine ex_cons (es_assign (ev_meth (ev_name (.tail .head)) (evs_cons (ev_name (.tail (.tail (.tail (.tail (.tail .head)))))) (evs_cons (ev_name (.tail (.tail (.tail .head)))) (evs_cons (ev_name (.tail (.tail (.tail (.tail .head))))) evs_nil))) (mc_find4 (hp) (Nat.le_refl _))) (.tail (.tail (.tail .head)))) ?_
    refine ex_cons (es_if (v := false) (by rw [← decide_eq_false (Int.not_lt.mpr hh)]; exact (it_cmp (ev_name (.tail (.tail (.tail .head)))) ev_int co_lt)) (fun e => by cases e) (fun _ => ex_nil)) ?_
    refine ex_cons (es_aug (.tail (.tail (.tail .head))) (ev_blt ht0 (.tail .head) (by decide) (evs_cons (ev_name (.tail (.tail (.tail (.tail (.tail .head)))))) evs_nil) (bc_len_str (hl i))) bi_add (.tail (.tail (.tail .head)))) (ex_less ?_ ex_nil)
    show Less _ [_, _, _, some (.imm (.int (findIn got (ws.getD i "") (ellPos got ws start i) got.length + ((ws.getD i "").length : Int)))), _, _]
    rw [ellPos_next hh]
    exact .same (.same (.same (.same (.same (.drop .nil)))))
  · rw [h]
    refine ex_ret (es_for (iter_list (ev_name (.tail (.tail .head)))) (fun i => [some (.imm (.str want)), some (.imm (.str got)), some (.imm (.list (ws.map D.str))), some (.imm (.int (ellPos got ws start i))), some (.imm (.int got.length)), none]) (.same (.same (.same (.same (.same (.drop .nil)))))) j (by simp; exact Nat.le_of_lt hj) (fun i d hi hd => ?_) (.inr ⟨_, _, _, get j hj, as_name (.tail (.tail (.tail (.tail (.tail .head))))), ?_, rfl⟩))
    · rw [get i (by exact Nat.lt_trans hi hj)] at hd; cases hd
      refine ⟨_, as_name (.tail (.tail (.tail (.tail (.tail .head))))), ?_⟩
      have hp := ellPos_le hs i (fun k q => hk k (by exact Nat.lt_trans q hi))
      have hh := of_decide_eq_true (hk i hi)
      refine ex_cons (es_assign (ev_meth (ev_name (.tail .head)) (evs_cons (ev_name (.tail (.tail (.tail (.tail (.tail .head)))))) (evs_cons (ev_name (.tail (.tail (.tail .head)))) (evs_cons (ev_name (.tail (.tail (.tail (.tail .head))))) evs_nil))) (mc_find4 (hp) (Nat.le_refl _))) (.tail (.tail (.tail .head)))) ?_
      refine ex_cons (es_if (v := false) (by rw [← decide_eq_false (Int.not_lt.mpr hh)]; exact (it_cmp (ev_name (.tail (.tail (.tail .head)))) ev_int co_lt)) (fun e => by cases e) (fun _ => ex_nil)) ?_
      refine ex_cons (es_aug (.tail (.tail (.tail .head))) (ev_blt ht0 (.tail .head) (by decide) (evs_cons (ev_name (.tail (.tail (.tail (.tail (.tail .head)))))) evs_nil) (bc_len_str (hl i))) bi_add (.tail (.tail (.tail .head)))) (ex_less ?_ ex_nil)
      show Less _ [_, _, _, some (.imm (.int (findIn got (ws.getD i "") (ellPos got ws start i) got.length + ((ws.getD i "").length : Int)))), _, _]
      rw [ellPos_next hh]
      exact .same (.same (.same (.same (.same (.drop .nil)))))
    · have hp := ellPos_le hs j hk
      have hh := of_decide_eq_false hf
      refine ex_cons (es_assign (ev_meth (ev_name (.tail .head)) (evs_cons (ev_name (.tail (.tail (.tail (.tail (.tail .head)))))) (evs_cons (ev_name (.tail (.tail (.tail .head)))) (evs_cons (ev_name (.tail (.tail (.tail (.tail .head))))) evs_nil))) (mc_find4 (hp) (Nat.le_refl _))) (.tail (.tail (.tail .head)))) ?_
      exact ex_ret (es_if (v := true) (by rw [← decide_eq_true (show findIn got (ws.getD j "") (ellPos got ws start j) got.length < 0 by exact Int.not_le.mp hh)]; exact (it_cmp (ev_name (.tail (.tail (.tail .head)))) ev_int co_lt)) (fun _ => ex_ret (es_return ev_bool)) (fun e => by cases e))
theorem ex_ell {want got : Str} {ws : List Str} (l : got.length ≤ 2 ^ 24) (lw : want.length + 2 ≤ 2 ^ 24) (hl : ∀ i, (ws.getD i "").length ≤ 2 ^ 24) (hn : ws.length ≤ 1000) (hw : Txt.contains want "..." = true) (hsp : Txt.split want "..." = ws) (h2 : 2 ≤ ws.length) (hlast : ws.getD (ws.length - 1) "" = "") :
    EX c_ell 0 (G0 [.str want, .str got] 4) (bodyOf "_ellipsis_match") (.ret (.bool (ellRes got ws))) := by
  conv => arg 4; whnf
  show EX c_ell 0 [some (.imm (.str want)), some (.imm (.str got)), none, none, none, none] _ _
  have get : ∀ i, i < ws.length → (ws.map D.str)[i]? = some (.str (ws.getD i "")) := fun i h => by simp [List.getElem?_map, h, List.getD]
  refine ex_cons (es_if (v := false) (by have : false = !Txt.contains want "..." := by rw [hw]; rfl
                                         rw [this]; exact (it_cmp (ev_ell ht0 .head) (ev_name .head) co_notin_str)) (fun e => by cases e) (fun _ => ex_nil)) ?_
  refine ex_cons (es_assign_new (by have := mn_split (x := want) (y := "...") rfl lw; rw [hsp] at this; exact evn_meth (ev_name .head) (evs_cons (ev_ell ht0 .head) evs_nil) this) (.tail (.tail .head))) ?_
  refine ex_cons (es_assert (by rw [← decide_eq_true (show (2 : Int) ≤ ((ws.map D.str).length : Int) by simp; exact Int.ofNat_le.mpr h2)]; exact (it_view (.tail (.tail .head)) (.tail (.tail .head)) (it_cmp (ev_blt ht0 (.tail .head) (by decide) (evs_cons (ev_name (.tail (.tail .head))) evs_nil) (bc_len_list (by simp; exact Nat.le_trans hn (by decide)))) ev_int co_ge)))) ?_
  refine ex_cons (es_assign_swap (xs := ["startpos", "endpos"]) (vs := [.imm (.int 0), .imm (.int got.length)]) (evxs_cons (evx_imm ev_int) (evxs_cons (evx_imm (ev_blt ht0 (.tail .head) (by decide) (evs_cons (ev_name (.tail .head)) evs_nil) (bc_len_str l))) evxs_nil)) (.cons (.tail (.tail (.tail (.tail .head)))) (.cons (.tail (.tail (.tail .head))) .nil)) (Nat.le_of_ble_eq_true rfl) rfl (fun env h => by cases env; cases h; rfl)) ?_
  obtain ⟨w0, r, rfl⟩ : ∃ w0 r, ws = w0 :: r := by cases ws with | nil => simp at h2 | cons a r => exact ⟨a, r, rfl⟩
  have hr : 1 ≤ r.length := by simp at h2; exact h2
  have l0 : w0.length ≤ 2 ^ 24 := hl 0
  refine ex_cons (es_assign (ev_view (.tail (.tail .head)) (.tail (.tail .head)) (ev_sub (ev_name (.tail (.tail .head))) ev_int (si_list (d := .str w0) rfl (by decide)))) (.tail (.tail (.tail (.tail (.tail .head)))))) ?_
  have e1 : (w0 :: r).getD ((w0 :: r).length - 1) "" = r.getD (r.length - 1) "" := by
    obtain ⟨n, hn'⟩ : ∃ n, r.length = n + 1 := ⟨r.length - 1, by lia⟩
    simp [hn', List.getD]
  rw [e1] at hlast
  have lastr : (r.map D.str)[r.length - 1]? = some (.str "") := by
    rw [← hlast]; simp [List.getD, show r.length - 1 < r.length by omega]
  have lastw : ((w0 :: r).map D.str)[((w0 :: r).map D.str).length - 1]? = some (.str "") := by
    rw [← lastr]
    obtain ⟨n, hn'⟩ : ∃ n, r.length = n + 1 := ⟨r.length - 1, by lia⟩
    simp [hn']
  unfold ellRes
  show EX c_ell 0 _ _ (.ret (.bool (if w0.length = 0 then ellAll got (w0 :: r) 0 else if Txt.startswith got w0 = true then ellAll got r w0.length else false)))
  have fin : ∀ (ws' : List Str) (st : Nat), (∀ i, (ws'.getD i "").length ≤ 2 ^ 24) → st ≤ got.length → ws'.length ≤ 1000 → 1 ≤ ws'.length → (ws'.map D.str)[(ws'.map D.str).length - 1]? = some (.str "") →
      EX c_ell 0 [some (.imm (.str want)), some (.imm (.str got)), some (.own (.list (ws'.map D.str))), some (.imm (.int st)), some (.imm (.int got.length)), some (.imm (.str w0))] ((bodyOf "_ellipsis_match").drop 6) (.ret (.bool (ellAll got ws' st))) := fun ws' st h1 hs' hn' hl' hla => by
    conv => arg 4; whnf
    refine ex_cons (es_assign (ev_view (.tail (.tail .head)) (.tail (.tail .head)) (ev_sub (ev_name (.tail (.tail .head))) (ev_un ev_int uo_neg) (si_back (i := 1) hla (by exact by decide) (by simp; omega) (by decide)))) (.tail (.tail (.tail (.tail (.tail .head)))))) ?_
    refine ex_cons (es_if (v := false) (it_val (ev_name (.tail (.tail (.tail (.tail (.tail .head)))))) (tr_str (Nat.zero_le _))) (fun e => by cases e) (fun _ => ex_nil)) ?_
    refine ex_cons (es_if (v := false) (by rw [← decide_eq_false (show ¬ ((got.length : Int) < st) by exact Int.not_lt.mpr (Int.ofNat_le.mpr hs'))]; exact (it_cmp (ev_name (.tail (.tail (.tail .head)))) (ev_name (.tail (.tail (.tail (.tail .head))))) co_gt)) (fun e => by cases e) (fun _ => ex_nil)) ?_
    exact ex_ell_loop l h1 hs' hn'
  by_cases z : w0.length = 0
  · rw [if_pos z]
    refine ex_cons (es_if (v := false) (by rw [show false = !decide (w0.length = 0) by rw [decide_eq_true z]; rfl]; exact (it_val (ev_name (.tail (.tail (.tail (.tail (.tail .head)))))) (tr_str (l0)))) (fun e => by cases e) (fun _ => ex_nil)) ?_
    exact fin (w0 :: r) 0 hl (Nat.zero_le _) hn (by simp) lastw
  · rw [if_neg z]
    by_cases q : Txt.startswith got w0 = true
    · rw [if_pos q]
      refine ex_cons (G1 := [some (.imm (.str want)), some (.imm (.str got)), some (.own (.list (r.map D.str))), some (.imm (.int w0.length)), some (.imm (.int got.length)), some (.imm (.str w0))]) (es_if (v := true) (by rw [show true = !decide (w0.length = 0) by rw [decide_eq_false z]; rfl]; exact (it_val (ev_name (.tail (.tail (.tail (.tail (.tail .head)))))) (tr_str (l0)))) (fun _ => ?_) (fun e => by cases e)) ?_
      · refine ex_cons (es_if (v := true) (by rw [← q]; exact (it_val (ev_meth (ev_name (.tail .head)) (evs_cons (ev_name (.tail (.tail (.tail (.tail (.tail .head)))))) evs_nil) mc_startswith) tr_bool)) (fun _ => ?_) (fun e => by cases e)) ex_nil
        refine ex_cons (es_assign (ev_blt ht0 (.tail .head) (by decide) (evs_cons (ev_name (.tail (.tail (.tail (.tail (.tail .head)))))) evs_nil) (bc_len_str l0)) (.tail (.tail (.tail .head)))) (ex_cons (es_del (m := 0) (.tail (.tail .head)) ev_int (by simp [seqIndex?]) rfl (by simp at hn ⊢; exact Nat.le_trans hn (by decide)) (.tail (.tail .head))) ex_nil)
      · refine fin r w0.length (fun i => hl (i + 1)) ?_ (by simp at hn; exact Nat.le_trans hn (by decide)) hr (by rw [List.length_map]; exact lastr)
        unfold Txt.startswith at q
        simp only [Bool.and_eq_true, decide_eq_true_eq] at q
        exact Nat.le_trans (Nat.le_add_left _ _) q.1
    · rw [if_neg q]
      refine ex_ret (es_if (v := true) (by rw [show true = !decide (w0.length = 0) by rw [decide_eq_false z]; rfl]; exact (it_val (ev_name (.tail (.tail (.tail (.tail (.tail .head)))))) (tr_str (l0)))) (fun _ => ?_) (fun e => by cases e))
      exact ex_ret (es_if (v := false) (by rw [← Bool.eq_false_iff.mpr q]; exact (it_val (ev_meth (ev_name (.tail .head)) (evs_cons (ev_name (.tail (.tail (.tail (.tail (.tail .head)))))) evs_nil) mc_startswith) tr_bool)) (fun e => by cases e) (fun _ => ex_ret (es_return ev_bool)))
theorem fc_ell {want got : Str} {ws : List Str} {k : Nat} (l : got.length ≤ 2 ^ 24) (lw : want.length + 2 ≤ 2 ^ 24) (hl : ∀ i, (ws.getD i "").length ≤ 2 ^ 24) (hn : ws.length ≤ 1000) (hw : Txt.contains want "..." = true) (hsp : Txt.split want "..." = ws) (h2 : 2 ≤ ws.length) (hlast : ws.getD (ws.length - 1) "" = "") :
    FC "_ellipsis_match" 1 [.str want, .str got] (.bool (ellRes got ws)) := fc_of_body (k := 0) (more := ["ws", "startpos", "endpos", "w"]) def_ell rfl c_ell_ok rfl rfl (fun _ _ b => b.nolimit) (fun pm cd doc vs e => by apply vs2 e; intros; rfl) rfl rfl (ex_ell l lw hl hn hw hsp h2 hlast)
noncomputable def movAt (word : Str) (m : List Nat) (found : Nat) : Nat := m.foldl (fun at' c => if word.cps[at']? = some c then at' + 1 else at') found
noncomputable def movOf (meaning word : Str) (front : Bool) (found : Nat) : Int :=
  if (front && (decide (found = 0) && (!decide (meaning = "") && !decide (meaning.cps[0]? = word.cps[0]?)))) = true then -1 else (movAt word meaning.cps.toList found : Nat)
noncomputable def movesOf (meaning word : Str) (front : Bool) : List D := ((List.range word.length).map fun f => D.int (movOf meaning word front f)) ++ [.int word.length, .int (-1)]
theorem def_moves : pw.theDef "_law_moves" = some (psOf "_law_moves", bodyOf "_law_moves", scOf "_law_moves") := by rfl
noncomputable abbrev c_moves : SC := ⟨scOf "_law_moves", ["meaning", "word", "front", "moves", "found", "at", "letter"], ["range", "len"]⟩
theorem c_moves_ok : c_moves.ok = true := by decide +kernel
theorem movAt_next {word : Str} {m : List Nat} {found i c : Nat} (h : m[i]? = some c) : movAt word (m.take (i + 1)) found = if word.cps[movAt word (m.take i) found]? = some c then movAt word (m.take i) found + 1 else movAt word (m.take i) found := by
  unfold movAt
  rw [List.take_add_one, h, List.foldl_append]; rfl
theorem str_len {x : Str} {i : Nat} (h : i < x.length) : ∃ c, x.cps[i]? = some c := ⟨_, Array.getElem?_eq_getElem (show i < x.cps.size from h)⟩
theorem one_eq {a b : Nat} : ((⟨#[a]⟩ : Str) = ⟨#[b]⟩) ↔ a = b := by simp
theorem str_empty {x : Str} : x = "" ↔ x.length = 0 := by
  constructor
  · rintro rfl; rfl
  · intro h
    have : x.cps = #[] := Array.eq_empty_of_size_eq_zero h
    obtain ⟨c⟩ := x; dsimp only at this; rw [this]; rfl
theorem ex_moves {meaning word : Str} {front : Bool} (l1 : meaning.length ≤ 1000) (l2 : word.length ≤ 1000) : EX c_moves 0 (G0 [.str meaning, .str word, .bool front] 4) (bodyOf "_law_moves") (.ret (.list (movesOf meaning word front))) := by
  conv => arg 4; whnf
  show EX c_moves 0 [some (.imm (.str meaning)), some (.imm (.str word)), some (.imm (.bool front)), none, none, none, none] _ _
  refine ex_cons (es_assign_new (evn_list evs_nil (Nat.zero_le _)) (.tail (.tail (.tail .head)))) ?_
  refine ex_cons (G1 := [some (.imm (.str meaning)), some (.imm (.str word)), some (.imm (.bool front)), some (.own (.list (((List.range word.length).map fun f => D.int (movOf meaning word front f))))), none, none, none])
    (es_for (iter_range1 .head (ev_blt ht0 (.tail .head) (by decide) (evs_cons (ev_name (.tail .head)) evs_nil) (bc_len_str (by exact Nat.le_trans l2 (by decide)))) (by exact Nat.le_trans l2 (by decide))) (fun j => [some (.imm (.str meaning)), some (.imm (.str word)), some (.imm (.bool front)), some (.own (.list (((List.range j).map fun f => D.int (movOf meaning word front f))))), none, none, none]) (.same (.same (.same (.same (.drop (.drop (.drop .nil))))))) word.length (by simp [rangeL]) (fun found d hi hd => ?_) (.inl ⟨by simp [rangeL], rfl⟩)) ?_
  · have : d = .int found := by simp [rangeL, hi] at hd; exact hd.symm
    subst this
    refine ⟨_, as_name (.tail (.tail (.tail (.tail .head)))), ?_⟩
    refine ex_cons (es_assign (ev_name (.tail (.tail (.tail (.tail .head))))) (.tail (.tail (.tail (.tail (.tail .head)))))) ?_
    have lm : meaning.cps.toList.length = meaning.length := by simp [Str.length]
    refine ex_cons (G1 := [some (.imm (.str meaning)), some (.imm (.str word)), some (.imm (.bool front)), some (.own (.list (((List.range found).map fun f => D.int (movOf meaning word front f))))), some (.imm (.int found)), some (.imm (.int (movAt word meaning.cps.toList found : Nat))), none])
      (es_for (iter_str (ev_name .head)) (fun j => [some (.imm (.str meaning)), some (.imm (.str word)), some (.imm (.bool front)), some (.own (.list (((List.range found).map fun f => D.int (movOf meaning word front f))))), some (.imm (.int found)), some (.imm (.int (movAt word (meaning.cps.toList.take j) found : Nat))), none]) (.same (.same (.same (.same (.same (.same (.drop .nil))))))) meaning.length (by simp [charsOf, lm]) (fun j d hj hd => ?_) (.inl ⟨by simp [charsOf, lm], by rw [show meaning.cps.toList.take meaning.length = meaning.cps.toList by rw [← lm, List.take_length]]⟩)) ?_
    · obtain ⟨ch, hc⟩ : ∃ ch, meaning.cps.toList[j]? = some ch := ⟨meaning.cps.toList[j]'(by exact Nat.lt_of_lt_of_le hj (Nat.le_of_eq lm.symm)), by simp [lm, hj]⟩
      have : d = .str ⟨#[ch]⟩ := by simp only [charsOf, List.getElem?_map, hc] at hd; cases hd; rfl
      subst this
      refine ⟨_, as_name (.tail (.tail (.tail (.tail (.tail (.tail .head)))))), ?_⟩
      rw [movAt_next hc]
      generalize movAt word (meaning.cps.toList.take j) found = q
      by_cases hq : q < word.length
      · obtain ⟨cw, hw⟩ := str_len hq
        refine ex_cons (es_if (v := decide (word.cps[q]? = some ch)) (by
          rw [show decide (word.cps[q]? = some ch) = (decide ((q : Int) < word.length) && decide ((⟨#[ch]⟩ : Str) = ⟨#[cw]⟩)) by
            rw [decide_eq_true (show (q : Int) < word.length by exact Int.ofNat_lt.mpr hq), Bool.true_and, hw]; simp only [Option.some.injEq, one_eq]; congr 1; exact propext ⟨Eq.symm, Eq.symm⟩]
          exact (it_bool (at_and (it_cmp (ev_name (.tail (.tail (.tail (.tail (.tail .head)))))) (ev_blt ht0 (.tail .head) (by decide) (evs_cons (ev_name (.tail .head)) evs_nil) (bc_len_str (by exact Nat.le_trans l2 (by decide)))) co_lt) (fun _ => (at_and1 (it_cmp (ev_name (.tail (.tail (.tail (.tail (.tail (.tail .head))))))) (ev_sub (ev_name (.tail .head)) (ev_name (.tail (.tail (.tail (.tail (.tail .head)))))) (si_str hw (by exact Nat.lt_trans hq (Nat.lt_of_le_of_lt l2 (by decide))))) co_eqs)))))) (fun e => ?_) (fun e => ?_)) ex_nil
        · rw [if_pos (of_decide_eq_true e)]
          exact ex_cons (es_assign (ev_bin (ev_name (.tail (.tail (.tail (.tail (.tail .head)))))) ev_int bo_add) (.tail (.tail (.tail (.tail (.tail .head)))))) (ex_less (.same (.same (.same (.same (.same (.same (.drop .nil))))))) ex_nil)
        · rw [if_neg (of_decide_eq_false e)]
          exact ex_less (.same (.same (.same (.same (.same (.same (.drop .nil))))))) ex_nil
      · have hw : word.cps[q]? = none := Array.getElem?_eq_none (by exact Nat.le_of_not_lt hq)
        rw [hw, if_neg (by simp)]
        refine ex_cons (es_if (v := false) (by
          rw [show false = (decide ((q : Int) < word.length) && false) by rw [Bool.and_false]]
          exact it_bool (at_and (it_cmp (ev_name (.tail (.tail (.tail (.tail (.tail .head)))))) (ev_blt ht0 (.tail .head) (by decide) (evs_cons (ev_name (.tail .head)) evs_nil) (bc_len_str (by exact Nat.le_trans l2 (by decide)))) co_lt) fun e => absurd (of_decide_eq_true e) (by exact Int.not_lt.mpr (Int.ofNat_le.mpr (Nat.le_of_not_lt hq))))) (fun e => by cases e) (fun _ => ex_less (.same (.same (.same (.same (.same (.same (.drop .nil))))))) ex_nil)) ex_nil
    · obtain ⟨w0, hw0⟩ := str_len (show 0 < word.length by exact Nat.lt_of_le_of_lt (Nat.zero_le _) hi)
      refine ex_cons (es_mut (.tail (.tail (.tail .head))) (evs_cons (ev_if (v := (front && (decide ((found : Int) = 0) && (!decide (meaning = "") && !decide (meaning.cps[0]? = word.cps[0]?))))) (d := .int (movOf meaning word front found)) ?_ (fun e => ?_) (fun e => ?_)) evs_nil) (mo_append (by simp; exact Nat.le_of_lt (Nat.lt_trans hi (Nat.lt_of_le_of_lt l2 (by decide))))) (.tail (.tail (.tail .head)))) (ex_less ?_ ex_nil)
      · refine it_bool (at_and (it_val (ev_name (.tail (.tail .head))) tr_bool) fun _ => at_and (it_cmp (ev_name (.tail (.tail (.tail (.tail .head))))) ev_int co_eq) fun _ => at_and (it_cmp (ev_name .head) ev_str co_nes) fun e => at_and1 ?_)
        have ne : ¬ meaning.length = 0 := fun q => by rw [str_empty.mpr q] at e; simp at e
        obtain ⟨m0, hm0⟩ := str_len (show 0 < meaning.length by lia)
        rw [hm0, hw0, show decide (some m0 = some w0) = decide ((⟨#[m0]⟩ : Str) = ⟨#[w0]⟩) by congr 1; exact propext (by rw [one_eq]; simp)]
        exact (it_cmp (ev_sub (ev_name .head) ev_int (si_str hm0 (by decide))) (ev_sub (ev_name (.tail .head)) ev_int (si_str hw0 (by decide))) co_nes)
      · unfold movOf
        rw [if_pos (by rw [← e]; congr 2; exact decide_eq_decide.mpr (by lia))]
        exact (ev_un ev_int uo_neg)
      · unfold movOf
        rw [if_neg (by rw [Bool.not_eq_true, ← e]; congr 2; exact decide_eq_decide.mpr (by lia))]
        exact (ev_name (.tail (.tail (.tail (.tail (.tail .head))))))
      · rw [show (List.range (found + 1)).map (fun f => D.int (movOf meaning word front f)) = (List.range found).map (fun f => D.int (movOf meaning word front f)) ++ [D.int (movOf meaning word front found)] by rw [List.range_succ, List.map_append]; rfl]
        exact .same (.same (.same (.same (.drop (.drop (.drop .nil))))))
  refine ex_freeze (.tail (.tail (.tail .head))) (.tail (.tail (.tail .head))) ?_
  exact ex_ret (es_return (ev_bin (ev_name (.tail (.tail (.tail .head)))) (evn_list (evs_cons (ev_blt ht0 (.tail .head) (by decide) (evs_cons (ev_name (.tail .head)) evs_nil) (bc_len_str (by exact Nat.le_trans l2 (by decide)))) (evs_cons (ev_un ev_int uo_neg) evs_nil)) (Nat.le_of_ble_eq_true rfl)).ev (bo_join (by simp; exact Nat.le_trans l2 (by decide)))))
theorem fc_moves {meaning word : Str} {front : Bool} {k : Nat} (l1 : meaning.length ≤ 1000) (l2 : word.length ≤ 1000) : FC "_law_moves" 1 [.str meaning, .str word, .bool front] (.list (movesOf meaning word front)) :=
  fc_of_body (k := 0) (more := ["moves", "found", "at", "letter"]) def_moves rfl c_moves_ok rfl rfl (fun _ _ b => b.nolimit) (fun pm cd doc vs e => by apply vs3 e; intros; rfl) rfl rfl (ex_moves l1 l2)
theorem si_cast {d r : D} {i j : Int} (e : i = j) (h : SI d (.int j) r) : SI d (.int i) r := e ▸ h
noncomputable def rowsL : List Int := [97, 65, 119808, 119860, 119912, 120016, 120172, 120224, 120276, 120328, 120380, 120432]
noncomputable def unseenL : List Int := [173, 847, 6150, 6155, 6156, 6157, 8203, 8204, 8205, 8288, 65279]
noncomputable def unseenAll : List Int := unseenL ++ (List.range 16).map fun (i : Nat) => 65024 + (i : Int)
noncomputable def doublesD (dl : List (Int × Str)) : D := .list (dl.map fun p => .tup [.int p.1, .str p.2])
theorem def_sign : pw.theDef "_law_sign" = some (psOf "_law_sign", bodyOf "_law_sign", scOf "_law_sign") := by rfl
noncomputable abbrev c_sign : SC := ⟨scOf "_law_sign", ["kind", "which", "letters", "doubles", "rows", "unseen"], ["chr", "ord", "len", "list", "range"]⟩
theorem c_sign_ok : c_sign.ok = true := by decide +kernel
theorem rangeL_un : rangeL 65024 1 16 = ((List.range 16).map fun (i : Nat) => 65024 + (i : Int)).map D.int := by
  unfold rangeL; rw [List.map_map]; apply List.map_congr_left; intro i _; simp
theorem ex_sign {kind which : Nat} {letters : Str} {dl : List (Int × Str)} {r : D} (hk : kind < 4) (hdl : dl.length ≤ 1000)
    (h1 : kind < 2 → ∃ c q, letters.cps[kind]? = some c ∧ rowsL[which % 12]? = some q ∧ 0 ≤ q + c - 97 ∧ q + c - 97 ≤ 1114111 ∧ r = .tup [.str ⟨#[(q + c - 97).toNat]⟩, .str ⟨#[c]⟩])
    (h2 : kind = 2 → 0 < dl.length ∧ ∃ p, dl[which % dl.length]? = some p ∧ 0 ≤ p.1 ∧ p.1 ≤ 1114111 ∧ r = .tup [.str ⟨#[p.1.toNat]⟩, .str p.2])
    (h3 : kind = 3 → which % 30 < 27 → ∃ q, unseenAll[which % 30]? = some q ∧ 0 ≤ q ∧ q ≤ 1114111 ∧ r = .tup [.str ⟨#[q.toNat]⟩, .str ""])
    (h4 : kind = 3 → ¬ which % 30 < 27 → ∃ c, (" \t\r" : Str).cps[which % 30 - 27]? = some c ∧ r = .tup [.str ⟨#[c]⟩, .str ⟨#[c]⟩]) :
    EX c_sign 1 (G0 [.int kind, .int which, .str letters, doublesD dl] 2) (bodyOf "_law_sign") (.ret r) := by
  conv => arg 4; whnf
  show EX c_sign 1 [some (.imm (.int kind)), some (.imm (.int which)), some (.imm (.str letters)), some (.imm (doublesD dl)), none, none] _ _
  generalize h97 : List.cons (Expr.Constant (Const.int 97) _ _) _ = es
  refine ex_cons (es_assign_ints rowsL (by rw [← h97]; decide +kernel) (by decide) (.tail (.tail (.tail (.tail .head))))) ?_
  generalize h173 : List.cons (Expr.Constant (Const.int 173) _ _) _ = es'
  refine ex_cons (es_assign_ints unseenL (by rw [← h173]; decide +kernel) (by decide) (.tail (.tail (.tail (.tail (.tail .head)))))) ?_
  clear h97 h173
  by_cases k2 : kind < 2
  · obtain ⟨c, q, hc, hq, a1, a2, rfl⟩ := h1 k2
    refine ex_ret (es_if (v := true) (by rw [← decide_eq_true (show (kind : Int) < 2 by exact Int.ofNat_lt.mpr k2)]; exact (it_cmp (ev_name .head) ev_int co_lt)) (fun _ => ex_ret (es_return ?_)) (fun e => by cases e))
    have gq : (rowsL.map D.int)[which % 12]? = some (.int q) := by rw [List.getElem?_map, hq]; rfl
    exact (ev_tup (evs_cons (ev_blt ht0 .head (by decide) (evs_cons (ev_bin (ev_bin (ev_sub (ev_name (.tail (.tail (.tail (.tail .head))))) (ev_bin (ev_name (.tail .head)) ev_int (bo_mod (by decide))) (si_cast (j := ((which % 12 : Nat) : Int)) (by exact rfl) (si_list gq (by exact Nat.lt_trans (Nat.mod_lt _ (by decide)) (by decide))))) (ev_blt ht0 (.tail .head) (by decide) (evs_cons (ev_sub (ev_name (.tail (.tail .head))) (ev_name .head) (si_str hc (by exact Nat.lt_of_lt_of_le k2 (by decide)))) evs_nil) (bc_ord)) bo_add) ev_int bo_sub) evs_nil) (bc_chr a1 a2)) (evs_cons (ev_sub (ev_name (.tail (.tail .head))) (ev_name .head) (si_str hc (by exact Nat.lt_of_lt_of_le k2 (by decide)))) evs_nil)) (Nat.le_of_ble_eq_true rfl))
  refine ex_cons (es_if (v := false) (by rw [← decide_eq_false (show ¬ (kind : Int) < 2 by exact Int.not_lt.mpr (Int.ofNat_le.mpr (Nat.le_of_not_lt k2)))]; exact (it_cmp (ev_name .head) ev_int co_lt)) (fun e => by cases e) (fun _ => ex_nil)) ?_
  by_cases k3 : kind = 2
  · obtain ⟨hp, p, hq, a1, a2, rfl⟩ := h2 k3
    refine ex_ret (es_if (v := true) (by rw [← decide_eq_true (show (kind : Int) = 2 by lia)]; exact (it_cmp (ev_name .head) ev_int co_eq)) (fun _ => ex_ret (es_return ?_)) (fun e => by cases e))
    have gq : (dl.map fun p => D.tup [.int p.1, .str p.2])[which % dl.length]? = some (.tup [.int p.1, .str p.2]) := by rw [List.getElem?_map, hq]; rfl
    have hlt : which % dl.length < dl.length := Nat.mod_lt _ hp
    have bl : BC "len" [doublesD dl] (.int dl.length) := by
      have := bc_len_list (l := dl.map fun p => D.tup [.int p.1, .str p.2]) (by simp; exact Nat.le_trans hdl (by decide))
      rwa [List.length_map] at this
    exact (ev_tup (evs_cons (ev_blt ht0 .head (by decide) (evs_cons (ev_sub (ev_sub (ev_name (.tail (.tail (.tail .head)))) (ev_bin (ev_name (.tail .head)) (ev_blt ht0 (.tail (.tail .head)) (by decide) (evs_cons (ev_name (.tail (.tail (.tail .head)))) evs_nil) (bl)) (bo_mod (by exact Int.ofNat_lt.mpr hp))) (si_cast (j := ((which % dl.length : Nat) : Int)) (Int.natCast_emod _ _).symm (si_list gq (by exact Nat.lt_trans hlt (Nat.lt_of_le_of_lt hdl (by decide)))))) ev_int (si_tup (d := .int p.1) rfl (by decide))) evs_nil) (bc_chr a1 a2)) (evs_cons (ev_sub (ev_sub (ev_name (.tail (.tail (.tail .head)))) (ev_bin (ev_name (.tail .head)) (ev_blt ht0 (.tail (.tail .head)) (by decide) (evs_cons (ev_name (.tail (.tail (.tail .head)))) evs_nil) (bl)) (bo_mod (by exact Int.ofNat_lt.mpr hp))) (si_cast (j := ((which % dl.length : Nat) : Int)) (Int.natCast_emod _ _).symm (si_list gq (by exact Nat.lt_trans hlt (Nat.lt_of_le_of_lt hdl (by decide)))))) ev_int (si_tup (i := 1) (d := .str p.2) rfl (by decide))) evs_nil)) (Nat.le_of_ble_eq_true rfl))
  refine ex_cons (es_if (v := false) (by rw [← decide_eq_false (show ¬ (kind : Int) = 2 by lia)]; exact (it_cmp (ev_name .head) ev_int co_eq)) (fun e => by cases e) (fun _ => ex_nil)) ?_
  have k4 : kind = 3 := by lia
  by_cases q27 : which % 30 < 27
  · obtain ⟨q, hq, a1, a2, rfl⟩ := h3 k4 q27
    refine ex_ret (es_if (v := true) (by rw [← decide_eq_true (show (which : Int) % 30 < 27 by lia)]; exact (it_cmp (ev_bin (ev_name (.tail .head)) ev_int (bo_mod (by decide))) ev_int co_lt)) (fun _ => ex_ret (es_return ?_)) (fun e => by cases e))
    have gq : (unseenL.map D.int ++ rangeL 65024 1 16)[which % 30]? = some (.int q) := by
      rw [rangeL_un, ← List.map_append, List.getElem?_map]
      show Option.map D.int unseenAll[which % 30]? = _
      rw [hq]; rfl
    exact (ev_tup (evs_cons (ev_blt ht0 .head (by decide) (evs_cons (ev_sub (ev_bin (ev_name (.tail (.tail (.tail (.tail (.tail .head)))))) (ev_listrange (.tail (.tail (.tail .head))) (.tail (.tail (.tail (.tail .head)))) ev_int ev_int (n := 16) (by decide) (by decide) (by decide) (by decide)) (bo_join (by simp [unseenL, rangeL]))) (ev_bin (ev_name (.tail .head)) ev_int (bo_mod (by decide))) (si_cast (j := ((which % 30 : Nat) : Int)) (by exact rfl) (si_list gq (by exact Nat.lt_of_lt_of_le q27 (by decide))))) evs_nil) (bc_chr a1 a2)) (evs_cons ev_str evs_nil)) (Nat.le_of_ble_eq_true rfl))
  · obtain ⟨c, hc, rfl⟩ := h4 k4 q27
    refine ex_cons (es_if (v := false) (by rw [← decide_eq_false (show ¬ (which : Int) % 30 < 27 by lia)]; exact (it_cmp (ev_bin (ev_name (.tail .head)) ev_int (bo_mod (by decide))) ev_int co_lt)) (fun e => by cases e) (fun _ => ex_nil)) ?_
    exact ex_ret (es_return (ev_tup (evs_cons (ev_sub ev_str (ev_bin (ev_bin (ev_name (.tail .head)) ev_int (bo_mod (by decide))) ev_int bo_sub) (si_cast (j := ((which % 30 - 27 : Nat) : Int)) (by omega) (si_str hc (by exact Nat.lt_of_le_of_lt (Nat.sub_le _ _) (Nat.lt_trans (Nat.mod_lt _ (by decide)) (by decide)))))) (evs_cons (ev_sub ev_str (ev_bin (ev_bin (ev_name (.tail .head)) ev_int (bo_mod (by decide))) ev_int bo_sub) (si_cast (j := ((which % 30 - 27 : Nat) : Int)) (by omega) (si_str hc (by exact Nat.lt_of_le_of_lt (Nat.sub_le _ _) (Nat.lt_trans (Nat.mod_lt _ (by decide)) (by decide)))))) evs_nil)) (Nat.le_of_ble_eq_true rfl)))
theorem fc_sign {kind which : Nat} {letters : Str} {dl : List (Int × Str)} {r : D} {k : Nat} (hk : kind < 4) (hdl : dl.length ≤ 1000)
    (h1 : kind < 2 → ∃ c q, letters.cps[kind]? = some c ∧ rowsL[which % 12]? = some q ∧ 0 ≤ q + c - 97 ∧ q + c - 97 ≤ 1114111 ∧ r = .tup [.str ⟨#[(q + c - 97).toNat]⟩, .str ⟨#[c]⟩])
    (h2 : kind = 2 → 0 < dl.length ∧ ∃ p, dl[which % dl.length]? = some p ∧ 0 ≤ p.1 ∧ p.1 ≤ 1114111 ∧ r = .tup [.str ⟨#[p.1.toNat]⟩, .str p.2])
    (h3 : kind = 3 → which % 30 < 27 → ∃ q, unseenAll[which % 30]? = some q ∧ 0 ≤ q ∧ q ≤ 1114111 ∧ r = .tup [.str ⟨#[q.toNat]⟩, .str ""])
    (h4 : kind = 3 → ¬ which % 30 < 27 → ∃ c, (" \t\r" : Str).cps[which % 30 - 27]? = some c ∧ r = .tup [.str ⟨#[c]⟩, .str ⟨#[c]⟩]) :
    FC "_law_sign" 2 [.int kind, .int which, .str letters, doublesD dl] r := by
  have h := @ex_sign kind which letters dl r hk hdl h1 h2 h3 h4
  have hd := def_sign
  generalize bodyOf "_law_sign" = b at h hd
  exact fc_of_body (k := 1) (more := ["rows", "unseen"]) hd rfl c_sign_ok rfl rfl (fun _ _ b => b.nolimit) (fun pm cd doc vs e => by apply vs4 e; intros; rfl) rfl rfl h
section
variable {c : SC} {k : Nat} {G : Ctx}
theorem ev_inset {l : Expr} {p pos : Pos} {i : Int} (hl : EV c k G l (.int i)) (m : In c.gs "b1_set") : EV c k G (.Compare l [.In] [.Name "b1_set" p] pos) (.bool (b1Has i)) := fun w hb A X₀ X env s O F =>
  wpAny_Compare1 (wpAny_mono (hl w hb A X₀ X env s O F) (fun u s1 ⟨k1, r1⟩ => by
    obtain ⟨t, rfl⟩ := r1.int_of
    obtain ⟨mg, mb, T⟩ := O.base.tops
    obtain ⟨a, n, h1, o, es, ep, tt, h2, h3⟩ := T.set
    have F1 := F.grow (kH k1)
    refine wp_fn F1 m T.g h1 (wpAny_inSet_of (knd := PySem.intKind pw w) (k := i) (by simp [PySem.intKind, Value.isInt]) rfl ⟨o, es, ep, tt, F1.base _ _ h2, h3⟩ ⟨kT k1 (kTok s1 _), rep_bool⟩)) fun _ _ x => x.elim) rfl
noncomputable def b3Get (i : Int) : D := match b3Pairs.lookup i with | some x => .str x | Option.none => .none
theorem ev_b3get {p apos pos : Pos} {e : Expr} {i : Int} (he : EV c k G e (.int i)) (m : In c.gs "b3_exceptions") (hp : Plain [e] := by intro _ _; rfl) (hst : ∀ env, starEach [e] env = (false, eval e env) :: starEach [] env := by intro _; rfl)
    (hbase : ∀ env, attributeBase (.Name "b3_exceptions" p) "get" env (eval (.Name "b3_exceptions" p) env) = eval (.Name "b3_exceptions" p) env := by intro _; rfl) (hline : (apos.endLine == pos.line) = true := by rfl) :
    EV c k G (.Call (.Attribute (.Name "b3_exceptions" p) "get" apos) [e] [] pos) (b3Get i) := fun w hb A X₀ X env s O F => by
  obtain ⟨mg, mb, T⟩ := O.base.tops
  obtain ⟨a, f, h1, hs, ⟨o, es, ep, h2, h3⟩, hf⟩ := T.map
  refine wpAny_Call_method_late (hbase env) ?_ hline rfl (wp_fn F m T.g h1 ?_)
  · rw [hp env pos]; simp [backToKw, keywordEach]
  · have hm : s.heap.MapOf (PySem.intKind pw w) a f := ⟨o, es, ep, F.base _ _ h2, h3⟩
    refine ⟨"dict", "dict.get", PySem.F.plainAttrs_dict, PySem.F.slot_dict_get, PySem.F.type_dict_get, hm.typeIs, hm.noDict, ?_⟩
    rw [hst env]
    show wpAny _ A (callWith pos (.builtin "dict.get") [.ref a] [(false, eval e env)] []) _ _ s
    refine wpAny_dict_get1 (knd := PySem.intKind pw w) hs (wpAny_mono (he w hb A X₀ X env s O F) (fun u s1 zp => ?_) fun _ _ x => x.elim)
    obtain ⟨k1, r1⟩ := zp
    obtain ⟨t, rfl⟩ := r1.int_of
    refine ⟨i, f, by simp [PySem.intKind, Value.isInt], ⟨o, es, ep, kH k1 _ _ (F.base _ _ h2), h3⟩, kT k1 (kTok s1 _), ?_⟩
    have := hf i
    unfold b3Get
    cases hl : b3Pairs.lookup i with
    | none => rw [hl] at this; rw [this]; exact rep_none
    | some x => rw [hl] at this; obtain ⟨t', e⟩ := this; rw [e]; exact rep_str
end
theorem def_b1 : pw.theDef "in_table_b1" = some (psOf "in_table_b1", bodyOf "in_table_b1", scOf "in_table_b1") := by rfl
noncomputable abbrev c_b1 : SC := ⟨scOf "in_table_b1", ["code"], ["ord", "b1_set"]⟩
theorem c_b1_ok : c_b1.ok = true := by decide +kernel
theorem ex_b1 {ch : Nat} : EX c_b1 0 (G0 [.str ⟨#[ch]⟩] 0) (bodyOf "in_table_b1") (.ret (.bool (b1Has ch))) := by
  conv => arg 4; whnf
  show EX c_b1 0 [some (.imm (.str ⟨#[ch]⟩))] _ _
  exact ex_ret (es_return (ev_inset (ev_blt ht0 .head (by decide) (evs_cons (ev_name .head) evs_nil) (bc_ord)) (.tail .head)))
theorem fc_b1 {ch k : Nat} : FC "in_table_b1" 1 [.str ⟨#[ch]⟩] (.bool (b1Has ch)) := fc_of_body (k := 0) (more := []) def_b1 rfl c_b1_ok rfl rfl (fun _ _ b => b.nolimit) (fun pm cd doc vs e => by apply vs1 e; intros; rfl) rfl rfl ex_b1
theorem def_b3 : pw.theDef "map_table_b3" = some (psOf "map_table_b3", bodyOf "map_table_b3", scOf "map_table_b3") := by rfl
noncomputable abbrev c_b3 : SC := ⟨scOf "map_table_b3", ["code", "r"], ["ord", "b3_exceptions"]⟩
theorem c_b3_ok : c_b3.ok = true := by decide +kernel
noncomputable def b3Of (ch : Nat) : Str := match b3Pairs.lookup (ch : Int) with | some x => x | Option.none => Txt.lower ⟨#[ch]⟩
theorem ex_b3 {ch : Nat} (hlow : Builtin.Str.tooLong (Txt.lower ⟨#[ch]⟩).length = false) : EX c_b3 0 (G0 [.str ⟨#[ch]⟩] 1) (bodyOf "map_table_b3") (.ret (.str (b3Of ch))) := by
  conv => arg 4; whnf
  show EX c_b3 0 [some (.imm (.str ⟨#[ch]⟩)), none] _ _
  refine ex_cons (es_assign (ev_b3get (ev_blt ht0 .head (by decide) (evs_cons (ev_name .head) evs_nil) (bc_ord)) (.tail .head)) (.tail .head)) ?_
  unfold b3Get b3Of
  cases hl : b3Pairs.lookup (ch : Int) with
  | some x =>
    exact ex_ret (es_if (v := true) (it_cmp (ev_name (.tail .head)) ev_none (co_isnone (rfl))) (fun _ => ex_ret (es_return (ev_name (.tail .head)))) (fun e => by cases e))
  | none =>
    refine ex_cons (es_if (v := false) (it_cmp (ev_name (.tail .head)) ev_none (co_isnone (rfl))) (fun e => by cases e) (fun _ => ex_nil)) ?_
    exact ex_ret (es_return (ev_meth (ev_name .head) evs_nil (mc_lower (hlow))))
theorem fc_b3 {ch k : Nat} (hlow : Builtin.Str.tooLong (Txt.lower ⟨#[ch]⟩).length = false) : FC "map_table_b3" 1 [.str ⟨#[ch]⟩] (.str (b3Of ch)) := fc_of_body (k := 0) (more := ["r"]) def_b3 rfl c_b3_ok rfl rfl (fun _ _ b => b.nolimit) (fun pm cd doc vs e => by apply vs1 e; intros; rfl) rfl rfl (ex_b3 hlow)
structure Row where
  line : Str
  name : Str
  found : Int
  still : Bool
noncomputable def Row.d (r : Row) : D := .tup [.str r.line, .str r.name, .int r.found, .bool r.still]
noncomputable def ansStep (g : Str → Bool) (l : List (Str × D)) (name : Str) : List (Str × D) := if (l.lookup name).isSome = true then l else l ++ [(name, .bool (g name))]
noncomputable def answersOf (g : Str → Bool) (names : List Str) (l : List (Str × D)) : List (Str × D) := names.foldl (ansStep g) l
theorem answersOf_len (g : Str → Bool) (names : List Str) (l : List (Str × D)) : (answersOf g names l).length ≤ l.length + names.length := by
  unfold answersOf
  induction names generalizing l with
  | nil => simp
  | cons n r ih =>
    rw [List.foldl_cons]
    refine Nat.le_trans (ih _) ?_
    unfold ansStep; split <;> simp <;> lia
theorem def_ans : pw.theDef "_law_answers" = some (psOf "_law_answers", bodyOf "_law_answers", scOf "_law_answers") := by rfl
noncomputable abbrev c_ans : SC := ⟨scOf "_law_answers", ["rows", "folds", "pattern", "taken", "line", "name", "found", "still"], ["_ellipsis_match"]⟩
theorem c_ans_ok : c_ans.ok = true := by decide +kernel
noncomputable def nameFold (fs : Nat → Str) (name : Str) : Str := Txt.join "" (name.cps.toList.map fs)
theorem fco_answers {rows : List Row} {fd : List (Str × D)} {pattern : Str} {l0 : List (Str × D)} {g : Str → Bool} {fs : Nat → Str} (hf : ∀ r ∈ rows, ∀ ch ∈ r.name.cps.toList, fd.lookup ⟨#[ch]⟩ = some (.str (fs ch)))
    (hn : ∀ r ∈ rows, r.name.length ≤ 1000) (hj : ∀ r ∈ rows, JoinOk "" (r.name.cps.toList.map fs) = true) (hell : ∀ r ∈ rows, FC "_ellipsis_match" 1 [.str pattern, .str (nameFold fs r.name)] (.bool (g r.name))) (hl : l0.length + rows.length ≤ 2 ^ 24) :
    FCO "_law_answers" 2 [.list (rows.map Row.d), .dict fd, .str pattern] (.dict l0) (.dict (answersOf g (rows.map Row.name) l0)) := by
  have hb : ∃ st p pos, bodyOf "_law_answers" = [st, .Return (some (.Name "taken" p)) pos] ∧ ES c_ans 1 (GV ([D.list (rows.map Row.d), .dict fd, .str pattern].map V.imm ++ [.own (.dict l0)]) 4) st (.next [some (.imm (.list (rows.map Row.d))), some (.imm (.dict fd)), some (.imm (.str pattern)), some (.own (.dict (answersOf g (rows.map Row.name) l0))), none, none, none, none]) := by
    refine ⟨_, _, _, by rfl, ?_⟩
    conv => arg 4; whnf
    show ES c_ans 1 [some (.imm (.list (rows.map Row.d))), some (.imm (.dict fd)), some (.imm (.str pattern)), some (.own (.dict l0)), none, none, none, none] _ _
    refine es_for (iter_list (ev_name .head)) (fun i => [some (.imm (.list (rows.map Row.d))), some (.imm (.dict fd)), some (.imm (.str pattern)), some (.own (.dict (answersOf g ((rows.take i).map Row.name) l0))), none, none, none, none]) (.same (.same (.same (.same (.drop (.drop (.drop (.drop .nil)))))))) rows.length (by simp) (fun i d hi hd => ?_) (.inl ⟨by simp, by rw [List.take_length]⟩)
    obtain ⟨r, hr⟩ : ∃ r, rows[i]? = some r := ⟨rows[i], by simp [hi]⟩
    have : d = r.d := by rw [List.getElem?_map, hr] at hd; cases hd; rfl
    subst this
    have hm := List.mem_of_getElem? hr
    refine ⟨[some (.imm (.list (rows.map Row.d))), some (.imm (.dict fd)), some (.imm (.str pattern)), some (.own (.dict (answersOf g ((rows.take i).map Row.name) l0))), some (.imm (.str r.line)), some (.imm (.str r.name)), some (.imm (.int r.found)), some (.imm (.bool r.still))], as_tup (ass_name (.tail (.tail (.tail (.tail .head)))) (ass_name (.tail (.tail (.tail (.tail (.tail .head))))) (ass_name (.tail (.tail (.tail (.tail (.tail (.tail .head)))))) (ass_name (.tail (.tail (.tail (.tail (.tail (.tail (.tail .head))))))) ASS.nil)))), ?_⟩
    have en : answersOf g ((rows.take (i + 1)).map Row.name) l0 = ansStep g (answersOf g ((rows.take i).map Row.name) l0) r.name := by
      unfold answersOf
      rw [List.take_add_one, hr, List.map_append, List.foldl_append]; rfl
    have hlen : (answersOf g ((rows.take i).map Row.name) l0).length ≤ 2 ^ 24 := by
      refine Nat.le_trans (answersOf_len _ _ _) ?_
      simp; lia
    rw [en]
    generalize answersOf g ((rows.take i).map Row.name) l0 = l at hlen ⊢
    refine ex_cons (G1 := [some (.imm (.list (rows.map Row.d))), some (.imm (.dict fd)), some (.imm (.str pattern)), some (.own (.dict (ansStep g l r.name))), some (.imm (.str r.line)), some (.imm (.str r.name)), some (.imm (.int r.found)), some (.imm (.bool r.still))]) (es_if (v := !(l.lookup r.name).isSome) (it_viewD (.tail (.tail (.tail .head))) (.tail (.tail (.tail .head))) (it_cmp (ev_name (.tail (.tail (.tail (.tail (.tail .head)))))) (ev_name (.tail (.tail (.tail .head)))) co_notin_dict)) (fun e => ?_) (fun e => ?_)) (ex_less (.same (.same (.same (.same (.drop (.drop (.drop (.drop .nil)))))))) ex_nil)
    · have e' : (l.lookup r.name).isSome = false := by simpa using e
      have hnone : l.lookup r.name = none := by simpa using e'
      unfold ansStep
      rw [if_neg (by rw [e']; decide)]
      refine ex_cons (es_setkey (.tail (.tail (.tail .head))) (ev_call ht0 .head (by decide) (evs_cons (ev_name (.tail (.tail .head))) (evs_cons (ev_meth ev_str (evs_cons ?_ evs_nil) (mc_join (hj r hm))) evs_nil)) (hell r hm)) (ev_name (.tail (.tail (.tail (.tail (.tail .head)))))) hnone hlen (.tail (.tail (.tail .head)))) ex_nil
      have e2 : (charsOf r.name).filterMap (fun d => match d with | .str x => some (.str (fs (x.cps.getD 0 0))) | _ => none) = (r.name.cps.toList.map fs).map D.str := by
        unfold charsOf
        rw [List.filterMap_map, List.map_map]
        rw [← List.filterMap_eq_map]
        rfl
      refine EVN.ev ?_
      rw [← e2]
      refine evn_comp (c' := ⟨relS _ c_ans.sc, ["sign", "folds"], []⟩) (G' := [none, some (.imm (.dict fd))]) _ (iter_str (ev_name (.tail (.tail (.tail (.tail (.tail .head))))))) (by simp [charsOf]; have := hn r hm; exact Nat.le_trans this (by decide)) (by decide +kernel) rfl (by decide +kernel) (.non (.var (.tail .head) (by decide +kernel) .nil)) (fun d hd => ?_)
      obtain ⟨ch, hc, rfl⟩ := List.mem_map.mp hd
      exact ⟨[some (.imm (.str ⟨#[ch]⟩)), some (.imm (.dict fd))], asl_name .head (by decide +kernel), .drop (.same .nil), noOwn_of rfl, .nil, ev_sub (ev_name (.tail .head)) (ev_name .head) (si_dict (hf r hm ch hc))⟩
    · have e' : (l.lookup r.name).isSome = true := by simpa using e
      unfold ansStep
      rw [if_pos e']
      exact ex_nil
  obtain ⟨st, p, pos, e, hst⟩ := hb
  have hd := def_ans
  rw [e] at hd
  exact fco_of_body (k := 1) (more := ["line", "name", "found", "still"]) hd rfl c_ans_ok rfl rfl (fun pm cd doc vs e => by apply vs4 e; intros; rfl) rfl rfl hst (.tail (.tail (.tail .head)))
theorem si_cast8 {d r : D} {i j : Int} (e : i = j) (h : SI d (.int j) r) : SI d (.int i) r := e ▸ h
noncomputable def fracRow (parts stays : List Int) (steps : Nat → Int) : Nat → Int × Int
  | 0 => (0, 1)
  | m + 1 => ((fracRow parts stays steps m).1 + steps (m + 1) * parts.getD m 0 * (fracRow parts stays steps m).2, if m + 1 ≤ stays.length then (fracRow parts stays steps m).2 * stays.getD m 0 else (fracRow parts stays steps m).2)
noncomputable def fracState (K : Nat → Int → Int) (base : Int) (n : Nat) : Nat → List Int × List Int
  | 0 => ([1], [])
  | j + 1 => ((fracRow (fracState K base n j).1 (fracState K base n j).2 (fun a => K (n - 1 - j) ((n - 1 - j : Nat) + a)) (j + 1)).1 :: (fracState K base n j).1, (base - K (n - 1 - j) ((n - 1 - j : Nat) : Int)) :: (fracState K base n j).2)
theorem fracState_len (K : Nat → Int → Int) (base : Int) (n : Nat) : ∀ j, (fracState K base n j).1.length = j + 1 ∧ (fracState K base n j).2.length = j
  | 0 => ⟨rfl, rfl⟩
  | j + 1 => by
    have := fracState_len K base n j
    exact ⟨by show (_ :: _).length = _; simp [this.1], by show (_ :: _).length = _; simp [this.2]⟩
noncomputable def cntOf (signs : List Str) (mv : Str → Nat → Int) (found : Nat) (target : Int) : Int := (signs.filter fun s => decide (mv s found = target)).length
noncomputable def keepIf (p : Str → Bool) : D → Option D
  | .str s => if p s = true then some (.str s) else none
  | _ => none
theorem filt (p : Str → Bool) : ∀ l : List Str, (l.map D.str).filterMap (keepIf p) = (l.filter p).map D.str
  | [] => rfl
  | s :: r => by
    have e : keepIf p (.str s) = if p s = true then some (.str s) else none := rfl
    have ih := filt p r
    rw [List.map_cons, List.filterMap_cons, List.filter_cons, e]
    cases p s <;> simp [ih]
theorem def_frac : pw.theDef "_law_fraction" = some (psOf "_law_fraction", bodyOf "_law_fraction", scOf "_law_fraction") := by rfl
noncomputable abbrev c_frac : SC := ⟨scOf "_law_fraction", ["signs", "moves", "count", "base", "every", "parts", "stays", "found", "total", "between", "ahead", "steps", "lower", "stay"], ["range", "len"]⟩
theorem c_frac_ok : c_frac.ok = true := by decide +kernel
theorem ex_frac {signs : List Str} {md : List (Str × D)} {n : Nat} {base every : Int} {mv : Str → Nat → Int} (hn : n ≤ 1000) (hs : signs.length ≤ 1000)
    (hmd : ∀ s ∈ signs, ∃ l, md.lookup s = some (.list l) ∧ ∀ f, f < n → l[f]? = some (.int (mv s f)))
    (sm1 : ∀ j m, j < n → m ≤ j + 1 → Sm (fracRow (fracState (cntOf signs mv) base n j).1 (fracState (cntOf signs mv) base n j).2 (fun a => cntOf signs mv (n - 1 - j) ((n - 1 - j : Nat) + a)) m).2)
    (sm2 : ∀ j m, j < n → Sm ((fracState (cntOf signs mv) base n j).1.getD m 0) ∧ Sm ((fracState (cntOf signs mv) base n j).2.getD m 0))
    (sm3 : ∀ f t, Sm (cntOf signs mv f t)) (sm4 : ∀ j m f t, j < n → Sm (cntOf signs mv f t * (fracState (cntOf signs mv) base n j).1.getD m 0))
    (sm5 : ∀ m, Sm (((fracState (cntOf signs mv) base n n).2.take m).foldl (· * ·) (base - every))) (sm6 : ∀ m, Sm ((fracState (cntOf signs mv) base n n).2.getD m 0)) :
    EX c_frac 0 (G0 [.list (signs.map D.str), .dict md, .int n, .int base, .int every] 9) (bodyOf "_law_fraction") (.ret (.tup [.int ((fracState (cntOf signs mv) base n n).1.getD 0 0), .int ((fracState (cntOf signs mv) base n n).2.foldl (· * ·) (base - every))])) := by
  conv => arg 4; whnf
  show EX c_frac 0 [some (.imm (.list (signs.map D.str))), some (.imm (.dict md)), some (.imm (.int n)), some (.imm (.int base)), some (.imm (.int every)), none, none, none, none, none, none, none, none, none] _ _
  refine ex_cons (es_assign_swap (xs := ["parts", "stays"]) (vs := [.own (.list [.int 1]), .own (.list [])]) (evxs_cons (evx_new (evn_list (evs_cons ev_int evs_nil) (Nat.le_of_ble_eq_true rfl))) (evxs_cons (evx_new (evn_list evs_nil (Nat.zero_le _))) evxs_nil)) (.cons (.tail (.tail (.tail (.tail (.tail (.tail .head)))))) (.cons (.tail (.tail (.tail (.tail (.tail .head))))) .nil)) (Nat.le_of_ble_eq_true rfl) rfl (fun env h => by cases env; cases h; rfl)) ?_
  have st : ∀ j, (fracState (cntOf signs mv) base n j).1.length = j + 1 ∧ (fracState (cntOf signs mv) base n j).2.length = j := fracState_len _ _ _
  let Gt : Nat → Ctx := fun j => [some (.imm (.list (signs.map D.str))), some (.imm (.dict md)), some (.imm (.int n)), some (.imm (.int base)), some (.imm (.int every)), some (.own (.list ((fracState (cntOf signs mv) base n j).1.map D.int))), some (.own (.list ((fracState (cntOf signs mv) base n j).2.map D.int))), none, none, none, none, none, none, none]
  have bl : ∀ f t, BC "len" [.list ((signs.filter fun s => decide (mv s f = t)).map D.str)] (.int (cntOf signs mv f t)) := fun f t => by
    have := bc_len_list (l := (signs.filter fun s => decide (mv s f = t)).map D.str) (by rw [List.length_map]; have := List.length_filter_le (fun s => decide (mv s f = t)) signs; exact Nat.le_trans this (Nat.le_trans hs (by decide)))
    rwa [List.length_map] at this
  refine ex_cons (G1 := Gt n) (es_for (iter_range3 (n := n) .head (ev_bin (ev_name (.tail (.tail .head))) ev_int bo_sub) (ev_un ev_int uo_neg) (ev_un ev_int uo_neg) rfl (by exact Nat.le_trans hn (by decide))) Gt (.same (.same (.same (.same (.same (.same (.same (.drop (.drop (.drop (.drop (.drop (.drop (.drop .nil)))))))))))))) n (by simp [rangeL]) (fun j d hj hd => ?_) (.inl ⟨by simp [rangeL], rfl⟩)) ?_
  · have : d = .int ((n - 1 - j : Nat) : Int) := by
      simp [rangeL, hj] at hd; rw [← hd]; congr 1; omega
    subst this
    refine ⟨_, as_name (.tail (.tail (.tail (.tail (.tail (.tail (.tail .head))))))), ?_⟩
    generalize hf : n - 1 - j = f
    have hfn : f < n := by omega
    refine ex_cons (es_assign_tup (ev_tup (evs_cons ev_int (evs_cons ev_int evs_nil)) (Nat.le_of_ble_eq_true rfl)) (ass_name (.tail (.tail (.tail (.tail (.tail (.tail (.tail (.tail .head)))))))) (ass_name (.tail (.tail (.tail (.tail (.tail (.tail (.tail (.tail (.tail .head))))))))) ASS.nil)) (hw := fun env h => by cases env; cases h; rfl)) ?_
    have it1 : Gt j = [some (.imm (.list (signs.map D.str))), some (.imm (.dict md)), some (.imm (.int n)), some (.imm (.int base)), some (.imm (.int every)), some (.own (.list ((fracState (cntOf signs mv) base n j).1.map D.int))), some (.own (.list ((fracState (cntOf signs mv) base n j).2.map D.int))), none, none, none, none, none, none, none] := rfl
    have hst := st j
    have hs1 := sm1 j
    have hs2 := sm2 j
    rw [hf] at hs1
    have en : fracState (cntOf signs mv) base n (j + 1) = ((fracRow (fracState (cntOf signs mv) base n j).1 (fracState (cntOf signs mv) base n j).2 (fun a => cntOf signs mv f ((f : Nat) + a)) (j + 1)).1 :: (fracState (cntOf signs mv) base n j).1, (base - cntOf signs mv f (f : Int)) :: (fracState (cntOf signs mv) base n j).2) := by
      rw [← hf]; rfl
    show EX c_frac 0 _ _ (.next (Gt (j + 1)))
    -- the loop over ahead
    let Ga : Nat → Ctx := fun m => [some (.imm (.list (signs.map D.str))), some (.imm (.dict md)), some (.imm (.int n)), some (.imm (.int base)), some (.imm (.int every)), some (.own (.list ((fracState (cntOf signs mv) base n j).1.map D.int))), some (.own (.list ((fracState (cntOf signs mv) base n j).2.map D.int))), some (.imm (.int f)),
      some (.imm (.int (fracRow (fracState (cntOf signs mv) base n j).1 (fracState (cntOf signs mv) base n j).2 (fun a => cntOf signs mv f ((f : Nat) + a)) m).1)), some (.imm (.int (fracRow (fracState (cntOf signs mv) base n j).1 (fracState (cntOf signs mv) base n j).2 (fun a => cntOf signs mv f ((f : Nat) + a)) m).2)), none, none, none, none]
    refine ex_cons (G1 := Ga (j + 1)) (es_for (iter_range2 (a := 1) (b := n - f + 1) (n := j + 1) .head ev_int (ev_bin (ev_bin (ev_name (.tail (.tail .head))) (ev_name (.tail (.tail (.tail (.tail (.tail (.tail (.tail .head)))))))) bo_sub) ev_int bo_add) (by omega) (by decide) (by lia)) Ga (.same (.same (.same (.same (.same (.same (.same (.same (.same (.same (.drop (.drop (.drop (.drop .nil)))))))))))))) (j + 1) (by simp [rangeL]) (fun m d hm hd => ?_) (.inl ⟨by simp [rangeL], rfl⟩)) ?_
    · have : d = .int ((m + 1 : Nat) : Int) := by
        simp [rangeL, hm] at hd; rw [← hd]; congr 1; exact Int.add_comm _ _
      subst this
      refine ⟨_, as_name (.tail (.tail (.tail (.tail (.tail (.tail (.tail (.tail (.tail (.tail .head)))))))))), ?_⟩
      refine ex_cons (es_assign (ev_blt ht0 (.tail .head) (by decide) (evs_cons (EVN.ev (ds := (signs.filter fun s => decide (mv s f = (f : Int) + ((m + 1 : Nat) : Int))).map D.str) ?_) evs_nil) (bl f _)) (.tail (.tail (.tail (.tail (.tail (.tail (.tail (.tail (.tail (.tail (.tail .head)))))))))))) ?_
      · rw [← filt]
        refine evn_comp (c' := ⟨relS _ c_frac.sc, ["sign", "moves", "found", "ahead"], []⟩) (G' := [none, some (.imm (.dict md)), some (.imm (.int f)), some (.imm (.int ((m + 1 : Nat) : Int)))]) _ (iter_list (ev_name .head)) (by simp; exact Nat.le_trans hs (by decide)) (by decide +kernel) rfl (by decide +kernel) (.non (.var (.tail .head) (by decide +kernel) (.var (.tail (.tail (.tail (.tail (.tail (.tail (.tail .head))))))) (by decide +kernel) (.var (.tail (.tail (.tail (.tail (.tail (.tail (.tail (.tail (.tail (.tail .head)))))))))) (by decide +kernel) .nil)))) (fun d hd => ?_)
        obtain ⟨s, hs', rfl⟩ := List.mem_map.mp hd
        obtain ⟨l, hl1, hl2⟩ := hmd s hs'
        refine ⟨[some (.imm (.str s)), some (.imm (.dict md)), some (.imm (.int f)), some (.imm (.int ((m + 1 : Nat) : Int)))], asl_name .head (by decide +kernel), .drop (.same (.same (.same .nil))), noOwn_of rfl, ?_⟩
        cases hb : decide (mv s f = (f : Int) + ((m + 1 : Nat) : Int)) with
        | true =>
          have e : keepIf (fun s => decide (mv s f = (f : Int) + ((m + 1 : Nat) : Int))) (.str s) = some (.str s) := by unfold keepIf; simp only [hb]; rfl
          rw [e]
          exact ⟨.one (by rw [← hb]; exact (it_cmp (ev_sub (ev_sub (ev_name (.tail .head)) (ev_name .head) (si_dict hl1)) (ev_name (.tail (.tail .head))) (si_list (hl2 f hfn) (by exact Nat.lt_trans hfn (Nat.lt_of_le_of_lt hn (by decide))))) (ev_bin (ev_name (.tail (.tail .head))) (ev_name (.tail (.tail (.tail .head)))) bo_add) (co_eq))), (ev_name .head)⟩
        | false =>
          have e : keepIf (fun s => decide (mv s f = (f : Int) + ((m + 1 : Nat) : Int))) (.str s) = none := by unfold keepIf; simp only [hb]; rfl
          rw [e]
          exact .one (by rw [← hb]; exact (it_cmp (ev_sub (ev_sub (ev_name (.tail .head)) (ev_name .head) (si_dict hl1)) (ev_name (.tail (.tail .head))) (si_list (hl2 f hfn) (by exact Nat.lt_trans hfn (Nat.lt_of_le_of_lt hn (by decide))))) (ev_bin (ev_name (.tail (.tail .head))) (ev_name (.tail (.tail (.tail .head)))) bo_add) (co_eq)))
      have gp : ∀ i, i ≤ j → ((fracState (cntOf signs mv) base n j).1.map D.int)[i]? = some (.int ((fracState (cntOf signs mv) base n j).1.getD i 0)) := fun i hi => by
        have := hst.1
        simp [List.getD, show i < (fracState (cntOf signs mv) base n j).1.length by exact Nat.lt_of_le_of_lt hi (Nat.le_of_eq this.symm)]
      have gs : ∀ i, i < j → ((fracState (cntOf signs mv) base n j).2.map D.int)[i]? = some (.int ((fracState (cntOf signs mv) base n j).2.getD i 0)) := fun i hi => by
        have := hst.2
        simp [List.getD, show i < (fracState (cntOf signs mv) base n j).2.length by exact Nat.lt_of_lt_of_le hi (Nat.le_of_eq this.symm)]
      refine ex_cons (es_assign (ev_bin (ev_name (.tail (.tail (.tail (.tail (.tail (.tail (.tail (.tail .head))))))))) (ev_bin (ev_bin (ev_name (.tail (.tail (.tail (.tail (.tail (.tail (.tail (.tail (.tail (.tail (.tail .head)))))))))))) (ev_view (.tail (.tail (.tail (.tail (.tail .head))))) (.tail (.tail (.tail (.tail (.tail .head))))) (ev_sub (ev_name (.tail (.tail (.tail (.tail (.tail .head)))))) (ev_bin (ev_name (.tail (.tail (.tail (.tail (.tail (.tail (.tail (.tail (.tail (.tail .head))))))))))) ev_int bo_sub) (si_cast8 (j := ((m : Nat) : Int)) (by exact by simp) (si_list (gp m (by exact Nat.le_of_lt_succ hm)) (by exact Nat.lt_of_le_of_lt (Nat.le_of_lt_succ hm) (Nat.lt_trans hj (Nat.lt_of_le_of_lt hn (by decide)))))))) (bo_mul (sm3 _ _) ((hs2 m hj).1))) (ev_name (.tail (.tail (.tail (.tail (.tail (.tail (.tail (.tail (.tail .head)))))))))) (bo_mul (sm4 j m _ _ hj) (hs1 m hj (by exact Nat.le_of_lt hm)))) bo_add) (.tail (.tail (.tail (.tail (.tail (.tail (.tail (.tail .head))))))))) ?_
      have len2 : ((fracState (cntOf signs mv) base n j).2.map D.int).length = j := by rw [List.length_map]; exact hst.2
      refine ex_cons (G1 := Ga (m + 1)) (es_if (v := decide (((m + 1 : Nat) : Int) ≤ (((fracState (cntOf signs mv) base n j).2.map D.int).length : Int))) (it_view (.tail (.tail (.tail (.tail (.tail (.tail .head)))))) (.tail (.tail (.tail (.tail (.tail (.tail .head)))))) (it_cmp (ev_name (.tail (.tail (.tail (.tail (.tail (.tail (.tail (.tail (.tail (.tail .head))))))))))) (ev_blt ht0 (.tail .head) (by decide) (evs_cons (ev_name (.tail (.tail (.tail (.tail (.tail (.tail .head))))))) evs_nil) (bc_len_list (by rw [len2]; exact Nat.le_of_lt (Nat.lt_trans hj (Nat.lt_of_le_of_lt hn (by decide)))))) co_le)) (fun e => ?_) (fun e => ?_)) ex_nil
      · have q := of_decide_eq_true e
        rw [len2] at q
        refine ex_cons (es_assign (ev_bin (ev_name (.tail (.tail (.tail (.tail (.tail (.tail (.tail (.tail (.tail .head)))))))))) (ev_view (.tail (.tail (.tail (.tail (.tail (.tail .head)))))) (.tail (.tail (.tail (.tail (.tail (.tail .head)))))) (ev_sub (ev_name (.tail (.tail (.tail (.tail (.tail (.tail .head))))))) (ev_bin (ev_name (.tail (.tail (.tail (.tail (.tail (.tail (.tail (.tail (.tail (.tail .head))))))))))) ev_int bo_sub) (si_cast8 (j := ((m : Nat) : Int)) (by exact by simp) (si_list (gs m (by lia)) (by exact Nat.lt_of_le_of_lt (Nat.le_of_lt_succ hm) (Nat.lt_trans hj (Nat.lt_of_le_of_lt hn (by decide)))))))) (bo_mul (hs1 m hj (by exact Nat.le_of_lt hm)) ((hs2 m hj).2))) (.tail (.tail (.tail (.tail (.tail (.tail (.tail (.tail (.tail .head)))))))))) (ex_less ?_ ex_nil)
        show Less [_, _, _, _, _, _, _, _, some (.imm (.int (_ + _ * _ * _))), some (.imm (.int (if _ then _ else _))), _, _, _, _] _
        rw [if_pos (by rw [hst.2]; lia)]
        exact .same (.same (.same (.same (.same (.same (.same (.same (.same (.same (.drop (.drop (.drop (.drop .nil)))))))))))))
      · have q := of_decide_eq_false e
        rw [len2] at q
        refine ex_less ?_ ex_nil
        show Less [_, _, _, _, _, _, _, _, some (.imm (.int (_ + _ * _ * _))), some (.imm (.int (if _ then _ else _))), _, _, _, _] _
        rw [if_neg (by rw [hst.2]; lia)]
        exact .same (.same (.same (.same (.same (.same (.same (.same (.same (.same (.drop (.drop (.drop (.drop .nil)))))))))))))
    · refine ex_cons (es_mut (.tail (.tail (.tail (.tail (.tail .head))))) (evs_cons ev_int (evs_cons (ev_name (.tail (.tail (.tail (.tail (.tail (.tail (.tail (.tail .head))))))))) evs_nil)) (mo_insert (by rw [List.length_map, hst.1]; exact Nat.lt_trans hj (Nat.lt_of_le_of_lt hn (by decide)))) (.tail (.tail (.tail (.tail (.tail .head)))))) ?_
      refine ex_cons (es_mut (.tail (.tail (.tail (.tail (.tail (.tail .head)))))) (evs_cons ev_int (evs_cons (ev_bin (ev_name (.tail (.tail (.tail .head)))) (ev_blt ht0 (.tail .head) (by decide) (evs_cons (EVN.ev (ds := (signs.filter fun s => decide (mv s f = (f : Int))).map D.str) ?_) evs_nil) (bl f _)) bo_sub) evs_nil)) (mo_insert (by rw [List.length_map, hst.2]; exact Nat.le_of_lt (Nat.lt_trans hj (Nat.lt_of_le_of_lt hn (by decide))))) (.tail (.tail (.tail (.tail (.tail (.tail .head))))))) (ex_less ?_ ex_nil)
      · rw [← filt]
        refine evn_comp (c' := ⟨relS _ c_frac.sc, ["sign", "moves", "found"], []⟩) (G' := [none, some (.imm (.dict md)), some (.imm (.int f))]) _ (iter_list (ev_name .head)) (by simp; exact Nat.le_trans hs (by decide)) (by decide +kernel) rfl (by decide +kernel) (.non (.var (.tail .head) (by decide +kernel) (.var (.tail (.tail (.tail (.tail (.tail (.tail (.tail .head))))))) (by decide +kernel) .nil))) (fun d hd => ?_)
        obtain ⟨s, hs', rfl⟩ := List.mem_map.mp hd
        obtain ⟨l, hl1, hl2⟩ := hmd s hs'
        refine ⟨[some (.imm (.str s)), some (.imm (.dict md)), some (.imm (.int f))], asl_name .head (by decide +kernel), .drop (.same (.same .nil)), noOwn_of rfl, ?_⟩
        cases hb : decide (mv s f = (f : Int)) with
        | true =>
          have e : keepIf (fun s => decide (mv s f = (f : Int))) (.str s) = some (.str s) := by unfold keepIf; simp only [hb]; rfl
          rw [e]
          exact ⟨.one (by rw [← hb]; exact (it_cmp (ev_sub (ev_sub (ev_name (.tail .head)) (ev_name .head) (si_dict hl1)) (ev_name (.tail (.tail .head))) (si_list (hl2 f hfn) (by exact Nat.lt_trans hfn (Nat.lt_of_le_of_lt hn (by decide))))) (ev_name (.tail (.tail .head))) (co_eq))), (ev_name .head)⟩
        | false =>
          have e : keepIf (fun s => decide (mv s f = (f : Int))) (.str s) = none := by unfold keepIf; simp only [hb]; rfl
          rw [e]
          exact .one (by rw [← hb]; exact (it_cmp (ev_sub (ev_sub (ev_name (.tail .head)) (ev_name .head) (si_dict hl1)) (ev_name (.tail (.tail .head))) (si_list (hl2 f hfn) (by exact Nat.lt_trans hfn (Nat.lt_of_le_of_lt hn (by decide))))) (ev_name (.tail (.tail .head))) (co_eq)))
      ·
        show Less [_, _, _, _, _, some (.own (.list ((fracState (cntOf signs mv) base n (j + 1)).1.map D.int))), some (.own (.list ((fracState (cntOf signs mv) base n (j + 1)).2.map D.int))), _, _, _, _, _, _, _] _
        rw [en]
        exact .same (.same (.same (.same (.same (.same (.same (.drop (.drop (.drop (.drop (.drop (.drop (.drop .nil)))))))))))))
  · have hst := st n
    refine ex_cons (es_assign (ev_bin (ev_name (.tail (.tail (.tail .head)))) (ev_name (.tail (.tail (.tail (.tail .head))))) bo_sub) (.tail (.tail (.tail (.tail (.tail (.tail (.tail (.tail (.tail (.tail (.tail (.tail .head))))))))))))) ?_
    refine ex_freeze (.tail (.tail (.tail (.tail (.tail (.tail .head)))))) (.tail (.tail (.tail (.tail (.tail (.tail .head)))))) ?_
    let Gl : Nat → Ctx := fun m => [some (.imm (.list (signs.map D.str))), some (.imm (.dict md)), some (.imm (.int n)), some (.imm (.int base)), some (.imm (.int every)), some (.own (.list ((fracState (cntOf signs mv) base n n).1.map D.int))), some (.imm (.list ((fracState (cntOf signs mv) base n n).2.map D.int))), none, none, none, none, none, some (.imm (.int (((fracState (cntOf signs mv) base n n).2.take m).foldl (· * ·) (base - every)))), none]
    refine ex_cons (G1 := Gl n) (es_for (iter_list (ev_name (.tail (.tail (.tail (.tail (.tail (.tail .head)))))))) Gl (.same (.same (.same (.same (.same (.same (.same (.same (.same (.same (.same (.same (.same (.drop .nil)))))))))))))) n (Nat.le_of_eq (by rw [List.length_map, hst.2])) (fun m d hm hd => ?_) (.inl ⟨by rw [List.length_map, hst.2], rfl⟩)) ?_
    · have gm : (fracState (cntOf signs mv) base n n).2[m]? = some ((fracState (cntOf signs mv) base n n).2.getD m 0) := by
        simp [List.getD, show m < (fracState (cntOf signs mv) base n n).2.length by exact Nat.lt_of_lt_of_le hm (Nat.le_of_eq hst.2.symm)]
      have : d = .int ((fracState (cntOf signs mv) base n n).2.getD m 0) := by
        rw [List.getElem?_map, gm] at hd; cases hd; rfl
      subst this
      refine ⟨_, as_name (.tail (.tail (.tail (.tail (.tail (.tail (.tail (.tail (.tail (.tail (.tail (.tail (.tail .head))))))))))))), ?_⟩
      refine ex_cons (es_assign (ev_bin (ev_name (.tail (.tail (.tail (.tail (.tail (.tail (.tail (.tail (.tail (.tail (.tail (.tail .head))))))))))))) (ev_name (.tail (.tail (.tail (.tail (.tail (.tail (.tail (.tail (.tail (.tail (.tail (.tail (.tail .head)))))))))))))) (bo_mul (sm5 m) (sm6 m))) (.tail (.tail (.tail (.tail (.tail (.tail (.tail (.tail (.tail (.tail (.tail (.tail .head))))))))))))) (ex_less ?_ ex_nil)
      show Less [_, _, _, _, _, _, _, _, _, _, _, _, some (.imm (.int (((fracState (cntOf signs mv) base n n).2.take (m + 1)).foldl (· * ·) (base - every)))), _] _
      rw [List.take_add_one, gm, List.foldl_append]
      exact .same (.same (.same (.same (.same (.same (.same (.same (.same (.same (.same (.same (.same (.drop .nil)))))))))))))
    · show EX c_frac 0 [_, _, _, _, _, _, _, _, _, _, _, _, some (.imm (.int (((fracState (cntOf signs mv) base n n).2.take n).foldl (· * ·) (base - every)))), _] _ _
      rw [List.take_of_length_le (by exact Nat.le_of_eq hst.2)]
      have g0 : ((fracState (cntOf signs mv) base n n).1.map D.int)[0]? = some (.int ((fracState (cntOf signs mv) base n n).1.getD 0 0)) := by
        cases hq : (fracState (cntOf signs mv) base n n).1 with
        | nil => rw [hq] at hst; simp at hst
        | cons a r => rfl
      exact ex_ret (es_return (ev_tup (evs_cons (ev_view (.tail (.tail (.tail (.tail (.tail .head))))) (.tail (.tail (.tail (.tail (.tail .head))))) (ev_sub (ev_name (.tail (.tail (.tail (.tail (.tail .head)))))) ev_int (si_list g0 (by decide)))) (evs_cons (ev_name (.tail (.tail (.tail (.tail (.tail (.tail (.tail (.tail (.tail (.tail (.tail (.tail .head))))))))))))) evs_nil)) (Nat.le_of_ble_eq_true rfl)))
theorem fc_frac {signs : List Str} {md : List (Str × D)} {n : Nat} {base every : Int} {mv : Str → Nat → Int} {k : Nat} (hn : n ≤ 1000) (hs : signs.length ≤ 1000)
    (hmd : ∀ s ∈ signs, ∃ l, md.lookup s = some (.list l) ∧ ∀ f, f < n → l[f]? = some (.int (mv s f)))
    (sm1 : ∀ j m, j < n → m ≤ j + 1 → Sm (fracRow (fracState (cntOf signs mv) base n j).1 (fracState (cntOf signs mv) base n j).2 (fun a => cntOf signs mv (n - 1 - j) ((n - 1 - j : Nat) + a)) m).2)
    (sm2 : ∀ j m, j < n → Sm ((fracState (cntOf signs mv) base n j).1.getD m 0) ∧ Sm ((fracState (cntOf signs mv) base n j).2.getD m 0))
    (sm3 : ∀ f t, Sm (cntOf signs mv f t)) (sm4 : ∀ j m f t, j < n → Sm (cntOf signs mv f t * (fracState (cntOf signs mv) base n j).1.getD m 0))
    (sm5 : ∀ m, Sm (((fracState (cntOf signs mv) base n n).2.take m).foldl (· * ·) (base - every))) (sm6 : ∀ m, Sm ((fracState (cntOf signs mv) base n n).2.getD m 0)) :
    FC "_law_fraction" 1 [.list (signs.map D.str), .dict md, .int n, .int base, .int every] (.tup [.int ((fracState (cntOf signs mv) base n n).1.getD 0 0), .int ((fracState (cntOf signs mv) base n n).2.foldl (· * ·) (base - every))]) :=
  fc_of_body (k := 0) (more := ["parts", "stays", "found", "total", "between", "ahead", "steps", "lower", "stay"]) def_frac rfl c_frac_ok rfl rfl (fun _ _ b => b.nolimit) (fun pm cd doc vs e => by apply vs5 e; intros; rfl) rfl rfl (ex_frac hn hs hmd sm1 sm2 sm3 sm4 sm5 sm6)
theorem def_div2 : pw.theDef "_div2n1n" = some (psOf "_div2n1n", bodyOf "_div2n1n", scOf "_div2n1n") := by rfl
noncomputable abbrev c_div2 : SC := ⟨scOf "_div2n1n", ["a", "b", "n", "pad", "half_n", "mask", "b1", "b2", "q1", "r", "q2"], ["_DIV_LIMIT", "divmod"]⟩
theorem c_div2_ok : c_div2.ok = true := by decide +kernel
theorem ex_div2 {a b n : Int} (h : (Builtin.Int.intBits a : Int) - n ≤ 4000) (hb : 0 < b) (hs : b < 2 ^ 8000) : EX c_div2 0 (G0 [.int a, .int b, .int n] 8) (bodyOf "_div2n1n") (.ret (.tup [.int (a / b), .int (a % b)])) := by
  conv => arg 4; whnf
  show EX c_div2 0 [some (.imm (.int a)), some (.imm (.int b)), some (.imm (.int n)), none, none, none, none, none, none, none, none] _ _
  exact ex_ret (es_if (v := true) (by rw [← decide_eq_true h]; exact (it_cmp (ev_bin (ev_meth (ev_name .head) evs_nil mc_bits) (ev_name (.tail (.tail .head))) bo_sub) (ev_lim ht0 .head) co_le)) (fun _ => ex_ret (es_return (ev_blt ht0 (.tail .head) (by decide) (evs_cons (ev_name .head) (evs_cons (ev_name (.tail .head)) evs_nil)) (bc_divmod hb hs)))) (fun e => by cases e))
theorem fc_div2 {a b n : Int} {k : Nat} (h : (Builtin.Int.intBits a : Int) - n ≤ 4000) (hb : 0 < b) (hs : b < 2 ^ 8000) : FC "_div2n1n" 1 [.int a, .int b, .int n] (.tup [.int (a / b), .int (a % b)]) :=
  fc_of_body (k := 0) (more := ["pad", "half_n", "mask", "b1", "b2", "q1", "r", "q2"]) def_div2 rfl c_div2_ok rfl rfl (fun _ _ b => b.nolimit) (fun pm cd doc vs e => by apply vs3 e; intros; rfl) rfl rfl (ex_div2 h hb hs)
noncomputable def innerOf (f : Str) : Option (Arguments × List Stmt × Scope × Pos) :=
  (bodyOf f).findSome? fun st => match st with | .FunctionDef _ ps b _ _ _ sc _ _ pos => some (ps, b, sc, pos) | _ => Option.none
noncomputable def innPs (f : Str) : Arguments := ((innerOf f).getD (⟨[], [], none, [], [], none, []⟩, [], default, default)).1
noncomputable def innB (f : Str) : List Stmt := ((innerOf f).getD (⟨[], [], none, [], [], none, []⟩, [], default, default)).2.1
noncomputable def innSc (f : Str) : Scope := ((innerOf f).getD (⟨[], [], none, [], [], none, []⟩, [], default, default)).2.2.1
noncomputable def innPos (f : Str) : Pos := ((innerOf f).getD (⟨[], [], none, [], [], none, []⟩, [], default, default)).2.2.2
structure IF (env : Env) (h0 : Heap) (vals fr : List (Str × Int)) (h : Heap) : Prop where
  kind : env.scope.kind = .function
  base : Grow h0 h
  new : h0.get? env.locals = Option.none
  loc : ∃ m, h.Ns env.locals m ∧ ∀ p ∈ vals, env.kindOf p.1 = some .local ∧ ∃ t, m p.1 = some (.int p.2 t)
  free : ∀ p ∈ fr, env.kindOf p.1 = some .free ∧ ∃ c t, env.cells.lookup p.1 = some c ∧ h.IsCell c (some (.int p.2 t))
section
variable {env : Env} {h0 h h' : Heap} {vals fr : List (Str × Int)}
theorem IF.grow (F : IF env h0 vals fr h) (g : Grow h h') : IF env h0 vals fr h' :=
  ⟨F.kind, F.base.trans g, F.new, let ⟨m, n, q⟩ := F.loc; ⟨m, n.keeps g, q⟩, fun p hp => let ⟨a, c, t, e, cl⟩ := F.free p hp; ⟨a, c, t, e, cl.keeps g⟩⟩
noncomputable def EP (env : Env) (h0 : Heap) (vals fr : List (Str × Int)) (e : Expr) (i : Int) : Prop :=
  ∀ (w : World) (hb : Heap) (A : Around) (k : Nat) (s : Shared), Ok w hb A k → IF env h0 vals fr s.heap →
    wpAny (model pw w) A (eval e env) (fun v s' => Keeps s s' ∧ ∃ t, v = .int i t) (fun _ _ => False) s
theorem ep_int {i : Int} {n : Nat} {pos : Pos} : EP env h0 vals fr (.Constant (.int i) n pos) i := fun _ _ _ _ s _ _ => wpAny_Constant_int ⟨kTok s _, _, rfl⟩
theorem ep_name {x : Str} {i : Int} {pos : Pos} (h : (x, i) ∈ vals) (hd : (x == ("__debug__" : Str)) = false := by decide +kernel) : EP env h0 vals fr (.Name x pos) i := fun w hb A k s O F => by
  obtain ⟨m, n, q⟩ := F.loc
  obtain ⟨kd, t, e⟩ := q _ h
  exact wpAny_Name (wpAny_loadName_local F.kind kd n e ⟨kR s, t, rfl⟩) hd
theorem ep_free {x : Str} {i : Int} {pos : Pos} (h : (x, i) ∈ fr) (hd : (x == ("__debug__" : Str)) = false := by decide +kernel) (hc : (x == ("__classdict__" : Str)) = false := by decide +kernel) : EP env h0 vals fr (.Name x pos) i := fun w hb A k s O F => by
  obtain ⟨kd, c, t, e, cl⟩ := F.free _ h
  exact wpAny_Name (wpAny_loadName_free F.kind kd e cl ⟨kR s, t, rfl⟩ hc) hd
theorem ep_bin {l r : Expr} {op : Operator} {pos : Pos} {a b c : Int} (hl : EP env h0 vals fr l a) (hr : EP env h0 vals fr r b) (bo : BO op (.int a) (.int b) (.int c)) : EP env h0 vals fr (.BinOp l op r pos) c := fun w hb A k s O F =>
  wpAny_BinOp (wpAny_mono (hl w hb A k s O F) (fun u s1 ⟨k1, t1, e1⟩ => wpAny_mono (hr w hb A k s1 O (F.grow (kH k1))) (fun v s2 ⟨k2, t2, e2⟩ => by
    subst e1; subst e2
    exact wpAny_mono (bo w hb A (fun _ => False) s2 _ _ k O (fun _ x => x.elim) rep_int rep_int) (fun v s3 ⟨k3, r3⟩ => ⟨kT k1 (kT k2 k3), r3.int_of⟩) fun _ _ x => x) fun _ _ x => x.elim) fun _ _ x => x.elim)
theorem ep_eq {w : World} {hb : Heap} {A : Around} {k : Nat} {s : Shared} {l r : Expr} {pos : Pos} {whole : Sem Value} {a b : Int} {Q : Bool → Shared → Prop} (O : Ok w hb A k) (F : IF env h0 vals fr s.heap) (hl : EP env h0 vals fr l a) (hr : EP env h0 vals fr r b)
    (h : ∀ s', Keeps s s' → Q (decide (a = b)) s') (hm : behindInMarks .Eq r = false := by rfl) : wpAny (model pw w) A (isTrue (.Compare l [.Eq] [r] pos) env whole) Q (fun _ _ => False) s :=
  wpAny_isTrue_Compare1 (wpAny_mono (hl w hb A k s O F) (fun u s1 ⟨k1, t1, e1⟩ => wpAny_mono (hr w hb A k s1 O (F.grow (kH k1))) (fun v s2 ⟨k2, t2, e2⟩ => by
    subst e1; subst e2
    exact eq_int (wpAny_truthy_bool (by rw [Bool.beq_eq_decide_eq]; exact h s2 (kT k1 k2)))) fun _ _ x => x.elim) fun _ _ x => x.elim) hm
theorem ip_assign {w : World} {hb : Heap} {A : Around} {k : Nat} {s : Shared} {x : Str} {e : Expr} {p pos : Pos} {i : Int} {Q : Flow → Shared → Prop} (O : Ok w hb A k) (F : IF env h0 vals fr s.heap) (he : EP env h0 vals fr e i)
    (hk : env.kindOf x = some .local) (hx : x ∉ vals.map (·.1)) (h : ∀ h' tk, IF env h0 ((x, i) :: vals) fr h' → (∀ b o, b ≠ env.locals → s.heap.get? b = some o → h'.get? b = some o) → Q .next { s with heap := h', toks := tk })
    (hs : swapsWith e (some (.Name x p)) pos.line env = pure false := by rfl) : wpAny (model pw w) A (exec (.Assign [.Name x p] e pos) env) Q (fun _ _ => False) s := by
  refine wpAny_Assign_Name (wpAny_mono (he w hb A k s O F) (fun v s1 zp => ?_) fun _ _ x => x.elim) hs
  obtain ⟨k1, t1, e1⟩ := zp
  subst e1
  obtain ⟨h1, tk1, rfl, g1⟩ := k1
  have F1 := F.grow g1
  obtain ⟨m, n, q⟩ := F1.loc
  refine wpAny_storeName_local hk n (fun h' n' hsb => ?_) (by rw [F.kind]; rfl)
  refine h h' _ ⟨F.kind, fun b o e => ?_, F.new, ⟨_, n', fun p hp => ?_⟩, fun p hp => ?_⟩ fun b o nb e => by rw [hsb.2 b nb]; exact g1 b o e
  · have nb : b ≠ env.locals := fun z => by rw [z, F.new] at e; cases e
    rw [hsb.2 b nb]; exact F1.base b o e
  · rcases List.mem_cons.mp hp with rfl | hp
    · exact ⟨hk, t1, by simp⟩
    · obtain ⟨a, t, e⟩ := q p hp
      refine ⟨a, t, ?_⟩
      have : p.1 ≠ x := fun z => hx (z ▸ List.mem_map_of_mem hp)
      simp only [this, if_false]; exact e
  · obtain ⟨a, c, t, e, cl⟩ := F1.free p hp
    exact ⟨a, c, t, e, cl.sameBut hsb (fun z => ns_ne_cell n cl z.symm)⟩
end
theorem lookup_of_nodupV {α : Type} {x : Str} {v : α} : ∀ {l : List (Str × α)}, (l.map (·.1)).Nodup → (x, v) ∈ l → l.lookup x = some v
  | [], _, m => by cases m
  | (n, k) :: r, hn, m => by
    have hn' := List.nodup_cons.mp hn
    rw [List.lookup_cons]
    rcases List.mem_cons.mp m with e | m2
    · cases e; simp
    · have : (x == n) = false := by
        rw [beq_eq_false_iff_ne]; rintro rfl
        have q := List.mem_map_of_mem (f := fun p : Str × α => p.1) m2
        exact hn'.1 q
      rw [this]; exact lookup_of_nodupV hn'.2 m2
inductive InnAt (f qual : Str) (clos : List (Str × Addr)) (fa : Addr) (h : Heap) : Prop
  | mk (doc pm cv ctv : Value) (o : Obj) (h1 : h.get? fa = some o) (h2 : o.data = .func (fnX "inner" qual (innPs f) (innB f) (innSc f) clos .none .none doc pm none cv ctv)) (h3 : h.CodeRec cv qual)
theorem InnAt.grow {f qual : Str} {clos : List (Str × Addr)} {fa : Addr} {h h' : Heap} (x : InnAt f qual clos fa h) (g : Grow h h') : InnAt f qual clos fa h' :=
  let ⟨doc, pm, cv, ctv, o, a, b, c⟩ := x; ⟨doc, pm, cv, ctv, o, g _ _ a, b, c.keeps g⟩
theorem call_inner {f qual : Str} {clos : List (Str × Addr)} {fa : Addr} {w : World} {hb : Heap} {A : Around} {k : Nat} {s : Shared} {names : List Str} {is : List (Int × Tok)} {fr : List (Str × Int)} {Q : Value → Shared → Prop} (O : Ok w hb A (k + 1)) (N : s.heap.NoLimit) (I : InnAt f qual clos fa s.heap)
    (hcell : (innSc f).names.all (fun x => !(x.2 == .cell)) = true) (hps : (innPs f).args.map (·.arg) = names) (hlen : is.length = names.length) (hnd : names.Nodup) (hloc : names.all (fun x => (innSc f).names.lookup x == some .local) = true)
    (hbind : ∀ doc pm cv ctv (vs : List Value), vs.length = names.length → bindArgs (fnX "inner" qual (innPs f) (innB f) (innSc f) clos .none .none doc pm none cv ctv) ⟨vs, []⟩ = pure (names.zip vs))
    (hco : (innSc f).isCoroutine = false) (hgen : (innSc f).isGenerator = false) (hk : (innSc f).kind = .function)
    (hfr : ∀ p ∈ fr, (innSc f).names.lookup p.1 = some .free ∧ ∃ c t, clos.lookup p.1 = some c ∧ s.heap.IsCell c (some (.int p.2 t)))
    (h : ∀ (A' : Around) (env : Env) (H1 : Heap) (T1 : Nat), Ok w hb A' k → env.scope = innSc f → env.cells = clos → IF env s.heap (names.zip (is.map (·.1))) fr H1 →
      wpAny (model pw w) A' (execs (innB f) env) (fun fl s' => Q (match fl with | .ret v => v | _ => .none) s') (fun _ _ => False) { s with heap := H1, toks := T1 }) :
    wpAny (model pw w) A (call (.ref fa) (is.map fun p => .int p.1 p.2)) Q (fun _ _ => False) s := by
  obtain ⟨doc, pm, cv, ctv, o, h1, h2, h3⟩ := I
  generalize hvs : (is.map fun p => Value.int p.1 p.2) = vs
  have lvs : vs.length = names.length := by rw [← hvs, List.length_map, hlen]
  have hb' := hbind doc pm cv ctv vs lvs
  refine wpAny_call (codeAny_call_def (body := innB f) (binds := names.zip vs) (by have := O.depth; exact Nat.lt_of_le_of_lt (Nat.le_add_right _ _) this) h1 h2 N h3 rfl (BindsTo.of_eq hb') (fun x hx => ?_) (fun x hx => ?_) (fun h₀ hns hkeep => ?_) hco hgen hk)
  · have := List.all_eq_true.mp hcell x hx; simpa using this
  · have := List.all_eq_true.mp hloc x.1 (List.of_mem_zip hx).1; simpa using this
  · generalize hfd : fnX "inner" qual (innPs f) (innB f) (innSc f) clos .none .none doc pm none cv ctv = fd at *
    have es : (callEnv fd s.heap.objs.size fa).scope = innSc f := by subst hfd; rfl
    have ec : (callEnv fd s.heap.objs.size fa).cells = clos := by subst hfd; rfl
    have el : (callEnv fd s.heap.objs.size fa).locals = s.heap.objs.size := rfl
    generalize callEnv fd s.heap.objs.size fa = env at *
    have ko : ∀ x, env.kindOf x = (innSc f).names.lookup x := fun x => by show env.scope.names.lookup x = _; rw [es]
    have O' : Ok w hb (A.deeper env) k := ⟨O.handled, by have := O.depth; show A.depth + 1 + k < _; lia, by have := O.units; show A.units + 3 + 10 * k + 100 < _; lia, O.base⟩
    refine wpAny_mono (h (A.deeper env) env h₀ _ O' es ec ⟨by rw [es]; exact hk, hkeep, by rw [el]; exact none_of_le (Nat.le_refl _), ⟨_, el ▸ hns, fun p hp => ?_⟩, fun p hp => ?_⟩) (fun fl s' q => q) fun _ _ x => x.elim
    · obtain ⟨j, hj⟩ := List.getElem?_of_mem hp
      have h4 := List.getElem?_zip_eq_some.mp hj
      obtain ⟨hn, hi⟩ := h4
      rw [List.getElem?_map] at hi
      obtain ⟨q, hq, e⟩ := Option.map_eq_some_iff.mp hi
      refine ⟨?_, q.2, ?_⟩
      · rw [ko]; have := List.all_eq_true.mp hloc p.1 (List.mem_of_getElem? hn); simpa using this
      · have hv : vs[j]? = some (.int p.2 q.2) := by rw [← hvs, List.getElem?_map, hq, ← e]; rfl
        have hm : (p.1, Value.int p.2 q.2) ∈ names.zip vs := List.mem_of_getElem? (List.getElem?_zip_eq_some.mpr ⟨hn, hv⟩)
        have hnd2 : (((names.zip vs).reverse).map (·.1)).Nodup := by
          rw [List.map_reverse, List.map_fst_zip (by exact Nat.le_of_eq lvs.symm)]
          exact List.pairwise_reverse.mpr (hnd.imp fun a => Ne.symm a)
        exact lookup_of_nodupV hnd2 (List.mem_reverse.mpr hm)
    · obtain ⟨a, c, t, e, cl⟩ := hfr p hp
      exact ⟨by rw [ko]; exact a, c, t, by rw [ec]; exact e, cl.keeps hkeep⟩
noncomputable def dv (n : Nat) : List Int → Int
  | [] => 0
  | d :: r => d + 2 ^ n * dv n r
theorem dv_append (n : Nat) : ∀ l m : List Int, dv n (l ++ m) = dv n l + 2 ^ (n * l.length) * dv n m
  | [], m => by simp [dv]
  | d :: l, m => by
    have := dv_append n l m
    simp only [List.cons_append, dv, this, List.length_cons]
    rw [Nat.mul_add, Nat.mul_one, Int.pow_add, Int.mul_add, ← Int.mul_assoc, Int.mul_comm ((2:Int) ^ n) (2 ^ (n * l.length)), ← Int.add_assoc]
theorem dv_bound (n : Nat) : ∀ l : List Int, (∀ d ∈ l, 0 ≤ d ∧ d < 2 ^ n) → 0 ≤ dv n l ∧ dv n l < 2 ^ (n * l.length)
  | [], _ => by simp [dv]
  | d :: l, h => by
    obtain ⟨a, b⟩ := h d (List.mem_cons_self ..)
    obtain ⟨c, e⟩ := dv_bound n l fun x m => h x (List.mem_cons_of_mem _ m)
    have p : (0 : Int) < 2 ^ n := Int.pow_pos (by decide)
    simp only [dv, List.length_cons]
    refine ⟨Int.add_nonneg a (Int.mul_nonneg (Int.le_of_lt p) c), ?_⟩
    have q : dv n l ≤ 2 ^ (n * l.length) - 1 := by lia
    have q2 := Int.mul_le_mul_of_nonneg_left q (Int.le_of_lt p)
    rw [Int.mul_sub, Int.mul_one] at q2
    rw [Nat.mul_add, Nat.mul_one, Int.pow_add, Int.mul_comm ((2:Int) ^ (n * l.length))]
    lia
theorem bits_lt {a : Int} {m : Nat} (h0 : 0 ≤ a) (h : a < 2 ^ m) : Builtin.Int.intBits a ≤ m := by
  rw [intBits_le_iff]
  have : (a.natAbs : Int) < ((2 ^ m : Nat) : Int) := by rw [Int.natAbs_of_nonneg h0]; simpa using h
  exact_mod_cast this
theorem pow2_le {a b : Nat} (h : a ≤ b) : (2 : Int) ^ a ≤ 2 ^ b := by
  have := Nat.pow_le_pow_right (n := 2) (by decide) h
  exact_mod_cast this
section
variable {env : Env} {h0 h h' : Heap} {vals fr : List (Str × Int)}
noncomputable def EPS (env : Env) (h0 : Heap) (vals fr : List (Str × Int)) (es : List Expr) (is : List Int) : Prop :=
  ∀ (w : World) (hb : Heap) (A : Around) (k : Nat) (s : Shared) (pos : Pos), Ok w hb A k → IF env h0 vals fr s.heap →
    wpAny (model pw w) A (spliced (backTo pos (starEach es env))) (fun vs s' => Keeps s s' ∧ ∃ l : List (Int × Tok), l.map (·.1) = is ∧ vs = l.map fun p => .int p.1 p.2) (fun _ _ => False) s
theorem eps_nil : EPS env h0 vals fr [] [] := fun w hb A k s pos O F => wpAny_items_nil ⟨kR s, [], rfl, rfl⟩
theorem eps_cons {e : Expr} {es : List Expr} {i : Int} {is : List Int} (h : EP env h0 vals fr e i) (hs : EPS env h0 vals fr es is) (he : starEach (e :: es) env = (false, eval e env) :: starEach es env := by rfl) : EPS env h0 vals fr (e :: es) (i :: is) := fun w hb A k s pos O F =>
  wpAny_items_cons (wpAny_mono (h w hb A k s O F) (fun v s1 ⟨k1, t, e1⟩ => wpAny_mono (hs w hb A k s1 pos O (F.grow (kH k1))) (fun vs s2 ⟨k2, l, e2, e3⟩ => ⟨kT k1 k2, (i, t) :: l, by simp [e2], by rw [e1, e3]; rfl⟩) fun _ _ x => x) fun _ _ x => x.elim) he
theorem ip_call {w : World} {hb : Heap} {A : Around} {k : Nat} {s : Shared} {x : Str} {p pos : Pos} {es : List Expr} {is : List Int} {fa : Addr} {o : Obj} {fd : FuncData} {Q : Value → Shared → Prop} (O : Ok w hb A k) (F : IF env h0 vals fr s.heap) (hk : env.kindOf x = some .free) (hc : ∃ c, env.cells.lookup x = some c ∧ s.heap.IsCell c (some (.ref fa)))
    (ho : s.heap.get? fa = some o) (hd : o.data = .func fd) (ha : EPS env h0 vals fr es is) (h : ∀ (s' : Shared) (l : List (Int × Tok)), Keeps s s' → l.map (·.1) = is → wpAny (model pw w) A (call (.ref fa) (l.map fun p : Int × Tok => .int p.1 p.2)) Q (fun _ _ => False) s')
    (hp : (backTo pos (starEach es env)).all (fun x => !x.1) = true := by rfl) (he : eval (.Call (.Name x p) es [] pos) env = (do callWith pos (← eval (.Name x p) env) [] (backTo pos (starEach es env)) (backToKw pos (keywordEach [] env))) := by rfl)
    (hd1 : (x == ("__debug__" : Str)) = false := by decide +kernel) (hc1 : (x == ("__classdict__" : Str)) = false := by decide +kernel) : wpAny (model pw w) A (eval (.Call (.Name x p) es [] pos) env) Q (fun _ _ => False) s := by
  obtain ⟨c, e, cl⟩ := hc
  refine Call_ (wpAny_Name (wpAny_loadName_free F.kind hk e cl ?_ hc1) hd1) he
  refine callWith_function (o := o) (fd := fd) (evalArgs_all hp (wpAny_mono (ha w hb A k s pos O F) (fun vs s1 zp => ?_) fun _ _ x => x))
  obtain ⟨k1, l, e1, e2⟩ := zp
  subst e2
  exact ⟨⟨kH k1 _ _ ho, hd⟩, h s1 l k1 e1⟩
end
theorem EP.run {env : Env} {h0 : Heap} {vals fr : List (Str × Int)} {e : Expr} {i : Int} (h : EP env h0 vals fr e i) (w : World) (hb : Heap) (A : Around) (k : Nat) (s : Shared) (O : Ok w hb A k) (F : IF env h0 vals fr s.heap) :
    wpAny (model pw w) A (eval e env) (fun v s' => Keeps s s' ∧ ∃ t, v = .int i t) (fun _ _ => False) s := h w hb A k s O F
structure St2 (w : World) (qual : Str) (clos : List (Str × Addr)) (fa : Addr) (ns : List Int) (n : Nat) (h : Heap) : Prop where
  lim : h.NoLimit
  inn : InnAt "_digits2int" qual clos fa h
  dig : ∃ c v, clos.lookup ("digits" : Str) = some c ∧ h.IsCell c (some v) ∧ Rep w (fun _ => False) h (.list (ns.map D.int)) v
  self : ∃ c, clos.lookup ("inner" : Str) = some c ∧ h.IsCell c (some (.ref fa))
  n : ∃ c t, clos.lookup ("n" : Str) = some c ∧ h.IsCell c (some (.int n t))
theorem St2.grow {w : World} {qual : Str} {clos : List (Str × Addr)} {fa : Addr} {ns : List Int} {n : Nat} {h h' : Heap} (x : St2 w qual clos fa ns n h) (g : Grow h h') : St2 w qual clos fa ns n h' :=
  ⟨x.lim.keeps g, x.inn.grow g, let ⟨c, v, a, b, d⟩ := x.dig; ⟨c, v, a, b.keeps g, Rep.pres g.pres _ _ d⟩, let ⟨c, a, b⟩ := x.self; ⟨c, a, b.keeps g⟩, let ⟨c, t, a, b⟩ := x.n; ⟨c, t, a, b.keeps g⟩⟩
theorem slice_split {ns : List Int} {L M R : Nat} (h1 : L ≤ M) (h2 : M ≤ R) (h3 : R ≤ ns.length) : (ns.drop L).take (R - L) = (ns.drop L).take (M - L) ++ (ns.drop M).take (R - M) := by
  rw [show R - L = (M - L) + (R - M) by lia, List.take_add, List.drop_drop, show L + (M - L) = M by lia]
theorem keeps_pre {s : Shared} {H1 : Heap} {T1 : Nat} {s' : Shared} (g : Grow s.heap H1) (k : Keeps { s with heap := H1, toks := T1 } s') : Keeps s s' := by
  obtain ⟨h, t, rfl, g2⟩ := k
  exact ⟨h, t, rfl, fun b o e => g2 b o (g b o e)⟩
noncomputable def In2 (w : World) (hb : Heap) (qual : Str) (clos : List (Str × Addr)) (fa : Addr) (ns : List Int) (n m : Nat) : Prop :=
  ∀ (L R : Nat) (l : List (Int × Tok)) (A : Around) (s : Shared), l.map (·.1) = [(L : Int), (R : Int)] → L < R → R ≤ ns.length → R - L ≤ m → Ok w hb A m → St2 w qual clos fa ns n s.heap →
    wpAny (model pw w) A (call (.ref fa) (l.map fun p => .int p.1 p.2)) (fun v s' => Keeps s s' ∧ ∃ t, v = .int (dv n ((ns.drop L).take (R - L))) t) (fun _ _ => False) s
theorem inner2_step {w : World} {hb : Heap} {qual : Str} {clos : List (Str × Addr)} {fa : Addr} {ns : List Int} {n : Nat} (hn : n ≤ 10000) (hl : ns.length ≤ 1000) (hds : ∀ d ∈ ns, 0 ≤ d ∧ d < 2 ^ n) {m : Nat} (ih : In2 w hb qual clos fa ns n m) : In2 w hb qual clos fa ns n (m + 1) := by
    intro L R l A s el h1 h2 h3 O S
    refine call_inner (names := ["L", "R"]) (fr := [("n", (n : Int))]) O S.lim S.inn (by decide +kernel) (by decide +kernel) (by have := congrArg List.length el; simpa using this) (by decide) (by decide +kernel) (fun doc pm cv ctv vs e => by apply vs2 e; intros; rfl) (by decide +kernel) (by decide +kernel) (by decide +kernel) (fun p hp => ?_) (fun A' env H1 T1 O' es ec F0 => wpQ fun Q hQ => ?_)
    · rw [List.mem_singleton.mp hp]
      exact ⟨show (innSc "_digits2int").names.lookup ("n" : Str) = some NameKind.free by decide +kernel, S.n⟩
    rw [el] at F0
    have F : IF env s.heap [("L", (L : Int)), ("R", (R : Int))] [("n", (n : Int))] H1 := F0
    have ko : ∀ x, env.kindOf x = (innSc "_digits2int").names.lookup x := fun x => by show env.scope.names.lookup x = _; rw [es]
    have nl : s.heap.get? env.locals = Option.none := F.new
    conv => arg 3; arg 1; whnf
    refine wpAny_execs_cons (wpAny_If (ep_eq O' F (ep_bin (ep_name (i := L) (.head _)) ep_int bo_add) (ep_name (i := R) (.tail _ (.head _))) (fun s1 k1 => ?_)))
    by_cases c : L + 1 = R
    · rw [decide_eq_true (show (L : Int) + 1 = R by lia)]
      simp only [if_true]
      have F1 := F.grow (kH k1)
      have S1 := S.grow F1.base
      refine wpAny_execs_cons (wpAny_Return_some (Subscript_ ?_))
      obtain ⟨cd, v, e1, cl, rv⟩ := S1.dig
      refine wpAny_Name (wpAny_loadName_free F1.kind (by rw [ko]; decide +kernel) (by rw [ec]; exact e1) cl ?_) (by decide +kernel)
      refine wpAny_mono (EP.run (ep_name (i := L) (.head _)) w hb A' m s1 O' F1) (fun u s2 zp => ?_) fun _ _ x => x
      obtain ⟨k2, t2, e2⟩ := zp
      subst e2
      obtain ⟨d, hd⟩ : ∃ d, ns[L]? = some d := ⟨ns[L], by simp [show L < ns.length by exact Nat.lt_of_lt_of_le (Nat.le_of_eq c) h2]⟩
      obtain ⟨T, id, hT, hl', hg⟩ := si_list (l := ns.map D.int) (i := L) (d := .int d) (by rw [List.getElem?_map, hd]; rfl) (by exact Nat.lt_of_lt_of_le h1 (Nat.le_trans h2 (Nat.le_trans hl (by decide)))) w hb A' (fun _ => False) s2 v _ m O' (fun _ x => x.elim) (Rep.pres (kH k2).pres _ _ rv) rep_int
      refine tail_any hT hl' (wpAny_mono hg (fun r s3 zp => ?_) fun _ _ x => x) rfl
      obtain ⟨k3, r3⟩ := zp
      refine hQ _ _ ⟨keeps_pre F.base (kT k1 (kT k2 k3)), ?_⟩
      have e3 : (ns.drop L).take (R - L) = [d] := by
        rw [show R - L = 1 by lia]
        have hlt : L < ns.length := by exact Nat.lt_of_lt_of_le (Nat.le_of_eq c) h2
        rw [List.drop_eq_getElem_cons hlt, List.take_succ_cons, List.take_zero]
        rw [List.getElem?_eq_getElem hlt] at hd; cases hd; rfl
      rw [e3, show dv n [d] = d by simp [dv]]
      exact r3.int_of
    · rw [decide_eq_false (show ¬ (L : Int) + 1 = R by lia)]
      simp only [Bool.false_eq_true, if_false]
      refine wpAny_execs_nil ?_
      have F1 := F.grow (kH k1)
      obtain ⟨H2, T2, rfl, g2⟩ := k1
      have hmid : ((L : Int) + R) / 2 ^ 1 = ((L + R) / 2 : Nat) := by exact by simp
      obtain ⟨M, hM⟩ : ∃ M, M = (L + R) / 2 := ⟨_, rfl⟩
      rw [← hM] at hmid
      have m1 : L < M := by lia
      have m2 : M < R := by lia
      refine wpAny_execs_cons (ip_assign (i := (M : Int)) O' F1 (hmid ▸ ep_bin (ep_bin (ep_name (i := L) (.head _)) (ep_name (i := R) (.tail _ (.head _))) bo_add) ep_int (bo_shr (m := 1))) (by rw [ko]; decide +kernel) (show ("mid" : Str) ∉ (["L", "R"] : List Str) by decide +kernel) (fun h3 t3 F3 p3 => ?_))
      have sm1 : Sm ((M : Int) - L) := Nat.le_trans (bits_lt (m := 1000) (by lia) (by
        have : (M : Int) - L < 1000 := by lia
        exact Int.lt_trans this (by decide))) (by decide)
      have sm2 : Sm (n : Int) := Nat.le_trans (bits_lt (m := 1000) (by exact Int.natCast_nonneg _) (by
        have : (n : Int) < 10001 := by exact Int.lt_of_le_of_lt (Int.ofNat_le.mpr hn) (by decide)
        exact Int.lt_trans this (by decide))) (by decide)
      have hsh : ((M : Int) - L) * n = ((M - L) * n : Nat) := by rw [Int.natCast_mul]; congr 1; lia
      refine wpAny_execs_cons (ip_assign (i := (((M - L) * n : Nat) : Int)) O' F3 (hsh ▸ ep_bin (ep_bin (ep_name (i := M) (.head _)) (ep_name (i := L) (.tail _ (.head _))) bo_sub) (ep_free (i := n) (.head _)) (bo_mul sm1 sm2)) (by rw [ko]; decide +kernel) (show ("shift" : Str) ∉ (["mid", "L", "R"] : List Str) by decide +kernel) (fun h4 t4 F4 p4 => ?_))
      have S4 := S.grow F4.base
      obtain ⟨doc, pm, cv, ctv, o, i1, i2, i3⟩ := id S4.inn
      have cself : ∀ (h : Heap), Grow s.heap h → ∃ c, env.cells.lookup ("inner" : Str) = some c ∧ h.IsCell c (some (.ref fa)) := fun h g => by rw [ec]; exact (S.grow g).self
      refine wpAny_execs_cons (wpAny_Return_some (wpAny_BinOp (wpAny_BinOp (ip_call (is := [(M : Int), (R : Int)]) O' F4 (by rw [ko]; decide +kernel) (cself _ F4.base) i1 i2 (eps_cons (ep_name (.tail _ (.head _))) (eps_cons (ep_name (.tail _ (.tail _ (.tail _ (.head _))))) eps_nil)) (fun s5 l5 k5 e5 => ?_)))))
      refine wpAny_mono (ih M R l5 A' s5 e5 m2 h2 (by lia) O' (S4.grow (kH k5))) (fun v s6 zp => ?_) fun _ _ x => x.elim
      obtain ⟨k6, t6, e6⟩ := zp
      subst e6
      have k56 := kT k5 k6
      have F6 := F4.grow (kH k56)
      refine wpAny_mono (EP.run (ep_name (i := (((M - L) * n : Nat) : Int)) (.head _)) w hb A' m s6 O' F6) (fun u s7 zp => ?_) fun _ _ x => x.elim
      obtain ⟨k7, t7, e7⟩ := zp
      subst e7
      have bd : ∀ a b : Nat, 0 ≤ dv n ((ns.drop a).take b) ∧ dv n ((ns.drop a).take b) < 2 ^ (n * ns.length) := fun a b => by
        have q := dv_bound n ((ns.drop a).take b) fun d hd => hds d (List.mem_of_mem_drop (List.mem_of_mem_take hd))
        refine ⟨q.1, Int.lt_of_lt_of_le q.2 ?_⟩
        exact pow2_le (Nat.mul_le_mul_left _ (by simp; omega))
      have b27 : n * ns.length ≤ 10000 * 1000 := Nat.mul_le_mul hn hl
      have b28 : (M - L) * n ≤ 1000 * 10000 := Nat.mul_le_mul (by exact Nat.le_of_lt (Nat.lt_of_le_of_lt (Nat.sub_le _ _) (Nat.lt_of_lt_of_le m2 (Nat.le_trans h2 hl)))) hn
      have hbits := bits_lt (bd M (R - M)).1 (bd M (R - M)).2
      refine wpAny_mono (bo_shl (a := dv n ((ns.drop M).take (R - M))) (m := (M - L) * n) (by lia) w hb A' (fun _ => False) s7 _ _ m O' (fun _ x => x.elim) rep_int rep_int) (fun v s8 zp => ?_) fun _ _ x => x.elim
      obtain ⟨k8, r8⟩ := zp
      obtain ⟨t8, rfl⟩ := r8.int_of
      have k58 := kT k56 (kT k7 k8)
      have F8 := F4.grow (kH k58)
      refine ip_call (is := [(L : Int), (M : Int)]) O' F8 (by rw [ko]; decide +kernel) (cself _ F8.base) (kH k58 _ _ i1) i2 (eps_cons (ep_name (.tail _ (.tail _ (.head _)))) (eps_cons (ep_name (.tail _ (.head _))) eps_nil)) (fun s9 l9 k9 e9 => ?_)
      refine wpAny_mono (ih L M l9 A' s9 e9 m1 (by exact Nat.le_of_lt (Nat.lt_of_lt_of_le m2 h2)) (by lia) O' (S4.grow (kH (kT k58 k9)))) (fun v sA zp => ?_) fun _ _ x => x.elim
      obtain ⟨kA, tA, eA⟩ := zp
      subst eA
      refine wpAny_mono (bo_add w hb A' (fun _ => False) sA _ _ m O' (fun _ x => x.elim) rep_int rep_int) (fun v sB zp => ?_) fun _ _ x => x
      obtain ⟨kB, rB⟩ := zp
      refine hQ _ _ ⟨keeps_pre F4.base (kT k58 (kT k9 (kT kA kB))), ?_⟩
      rw [slice_split (Nat.le_of_lt m1) (Nat.le_of_lt m2) h2, dv_append]
      have e10 : ((ns.drop L).take (M - L)).length = M - L := by simp; lia
      rw [e10, Int.add_comm, Int.mul_comm ((2 : Int) ^ (n * (M - L))), Nat.mul_comm n]
      exact rB.int_of
theorem inner2 {w : World} {hb : Heap} {qual : Str} {clos : List (Str × Addr)} {fa : Addr} {ns : List Int} {n : Nat} (hn : n ≤ 10000) (hl : ns.length ≤ 1000) (hds : ∀ d ∈ ns, 0 ≤ d ∧ d < 2 ^ n) : ∀ m : Nat, In2 w hb qual clos fa ns n m
  | 0 => fun L R l A s el h1 h2 h3 O S => by lia
  | m + 1 => inner2_step hn hl hds (inner2 hn hl hds m)
theorem wp_setItem_plain {w : World} {A : Around} {s : Shared} {E : Value → Shared → Prop} {l : Addr} {items : Array Value} {k : Int} {t : Tok} {v : Value} {Q : Unit → Shared → Prop} (hl : s.heap.PlainList l items)
    (h0 : 0 ≤ k) (hfit : k < 2 ^ 63) (hn : k < items.size)
    (hQ : ∀ h', h'.PlainList l (items.setIfInBounds k.toNat v) → Heap.SameBut l s.heap h' → Q () { s with heap := h' }) :
    wpAny (model pw w) A (setItem (.ref l) (.int k t) v) Q E s := by
  obtain ⟨n0, ho⟩ := hl
  have hl : s.heap.IsList l items := plain_list ⟨n0, ho⟩
  unfold setItem
  try with_reducible refine wpAny_holding ?_
  first | refine wpAny_bind (wpAny_pure ?_) | skip
  refine wpAny_bind (wpAny_sequenceKey hl.typeIs (by decide) ?_)
  refine wpAny_bind (wpAny_callSpecial?_slot (name := Str.ofString "__setitem__") hl.typeIs slot_list_setitem
    (wpAny_call_entry slot_list_setitem hl.typeIs entry_list_setitem ?_ (args_list_setitem _ _ _)))
  show wpAny _ _ (Builtin.List.listSubscript? (.int k t) >>= _) _ _ s
  refine wpAny_bind (wpAny_listSubscript_int (fitsIndex_of h0 hfit) ?_)
  clear hfit
  obtain ⟨j, rfl⟩ := Int.eq_ofNat_of_zero_le h0
  have hj : j < items.size := by lia
  have hx' : items[j]? = some items[j] := Array.getElem?_eq_getElem hj
  show wpAny _ _ ((seqItemAt l j >>= fun r => pure (r.map (j, ·))) >>= _) _ _ s
  refine wpAny_bind (wpAny_bind (wpAny_seqItemAt ho rfl (wpAny_pure ?_)))
  rw [hx']
  show wpAny _ _ (setSeqItemAt l j v >>= _) _ _ s
  have hfin : (s.heap.update l (Obj.mapSeq (·.setIfInBounds j v))).PlainList l (items.setIfInBounds j v) := ⟨_, IsL.update (n := n0) ho _⟩
  refine wpAny_bind (wpAny_setSeqItemAt ho rfl ?_)
  first
    | exact wpAny_bind (wpAny_pure (wpAny_pure ⟨.none, rfl, wpAny_pure (hQ _ hfin (Heap.SameBut.update ..))⟩))
    | exact wpAny_pure ⟨.none, rfl, wpAny_pure (hQ _ hfin (Heap.SameBut.update ..))⟩
theorem wp_mul_plain {w : World} {A : Around} {s : Shared} {E : Value → Shared → Prop} {l : Addr} {items : Array Value} {x : Int} {u : Tok} {Q : Value → Shared → Prop} (hl : s.heap.PlainList l items)
    (hlo : -(2 ^ 63 : Int) ≤ x) (hhi : x < 2 ^ 63) (hsz : items.size * x.toNat ≤ 2 ^ 24)
    (h : Q (.ref s.heap.objs.size) { s with heap := s.heap.push { cls := .type "list", data := .seq (List.foldl (fun x1 x2 => x1 ++ x2) #[] (List.replicate (if items.isEmpty = true then 0 else x.toNat) items)) } }) :
    wpAny (model pw w) A (binaryOp .Mult (.ref l) (.int x u)) Q E s := by
  obtain ⟨k, hl⟩ := hl
  exact wpAny_binaryOp_repeat_ref (T := "list") (U := "int") (by decide) ⟨_, hl, rfl⟩ (fun s' => typeIs_int s' x u) noFill_list_mul F.fills_int_mul F.slot_int_rmul repeat_list F.slot_int_index.lookup
    (call_meets F.slot_int_rmul (typeIs_int s x u) F.entry_int_rmul (F.args_int_rmul_2 _ _) (int___rmul___int_list x u l items k)
      ⟨hl, rfl, ⟨_, hl, rfl⟩, call_meets F.slot_list_mul ⟨_, hl, rfl⟩ F.entry_list_mul (F.args_list_mul_2 _ _)
        (AutoListH.list___mul___list_int_3 l items k x u (by simp [Builtin.List.listFitsIndex]; exact ⟨Int.le_trans (by decide) hlo, Int.lt_of_lt_of_le hhi (by decide)⟩) (by exact Nat.not_lt.mpr (Nat.le_trans hsz (by decide))) (by simp [Builtin.List.listTooLong, sizeLine]; omega))
        ⟨hl, h⟩⟩)
theorem xor_shift {x : Int} {k : Nat} (h : 0 ≤ x) : Builtin.bitXor x (x / 2 ^ k * 2 ^ k) = x % 2 ^ k := by
  obtain ⟨n, rfl⟩ := Int.eq_ofNat_of_zero_le h
  have e : (n : Int) / 2 ^ k * 2 ^ k = ((n / 2 ^ k * 2 ^ k : Nat) : Int) := by norm_cast
  rw [e, bitXor_and, bitAnd_pp (by omega) (by exact Int.natCast_nonneg _)]
  have e2 : (Int.toNat (n : Int)) &&& (Int.toNat ((n / 2 ^ k * 2 ^ k : Nat) : Int)) = n / 2 ^ k * 2 ^ k := by
    rw [Int.toNat_natCast, Int.toNat_natCast]
    apply Nat.eq_of_testBit_eq
    intro i
    rw [Nat.testBit_and, Nat.testBit_mul_two_pow]
    by_cases q : k ≤ i
    · have : Nat.testBit (n / 2 ^ k) (i - k) = Nat.testBit n i := by rw [Nat.testBit_div_two_pow]; congr 1; lia
      simp [q, this]
    · simp [q]
  rw [e2]
  have e3 := Int.emod_add_mul_ediv (n : Int) (2 ^ k)
  have e4 : ((n / 2 ^ k * 2 ^ k : Nat) : Int) = 2 ^ k * ((n : Int) / 2 ^ k) := by rw [Int.mul_comm]; norm_cast
  rw [e4]; lia
noncomputable def dgs (n : Nat) (x : Int) : Nat → List Int
  | 0 => []
  | m + 1 => x % 2 ^ n :: dgs n (x / 2 ^ n) m
theorem dgs_length (n : Nat) : ∀ (m : Nat) (x : Int), (dgs n x m).length = m
  | 0, _ => rfl
  | m + 1, x => by simp [dgs, dgs_length n m]
theorem ediv2 {x a b : Int} (h : 0 ≤ a) : x / a / b = x / (a * b) := by
  rw [Int.ediv_ediv, if_neg (by lia)]; simp
theorem dgs_add (n : Nat) : ∀ (a b : Nat) (x : Int), 0 ≤ x → dgs n x (a + b) = dgs n x a ++ dgs n (x / 2 ^ (n * a)) b
  | 0, b, x, _ => by simp [dgs]
  | a + 1, b, x, h => by
    have p : (0 : Int) ≤ 2 ^ n := Int.pow_nonneg (by decide)
    rw [show a + 1 + b = (a + b) + 1 by exact Nat.add_right_comm _ _ _]
    simp only [dgs, List.cons_append]
    rw [dgs_add n a b _ (Int.ediv_nonneg h p), ediv2 p]
    congr 4
    rw [← Int.pow_add]; congr 1; rw [Nat.mul_add, Nat.mul_one, Nat.add_comm]
theorem dgs_mod (n : Nat) : ∀ (a b : Nat) (x : Int), 0 ≤ x → a ≤ b → dgs n (x % 2 ^ (n * b)) a = dgs n x a
  | 0, b, x, _, _ => rfl
  | a + 1, 0, x, _, h => by lia
  | a + 1, b + 1, x, h, hab => by
    have p : (0 : Int) < 2 ^ n := Int.pow_pos (by decide)
    have e : (2 : Int) ^ (n * (b + 1)) = 2 ^ n * 2 ^ (n * b) := by rw [← Int.pow_add]; congr 1; rw [Nat.mul_add, Nat.mul_one, Nat.add_comm]
    simp only [dgs]
    congr 1
    · rw [e, Int.emod_emod_of_dvd _ (Int.dvd_mul_right ..)]
    · have : x % 2 ^ (n * (b + 1)) / 2 ^ n = (x / 2 ^ n) % 2 ^ (n * b) := by
        have e1 := Int.emod_add_mul_ediv x (2 ^ (n * (b + 1)))
        rw [e] at e1 ⊢
        have e2 : x / (2 ^ n * 2 ^ (n * b)) = x / 2 ^ n / 2 ^ (n * b) := by rw [ediv2 (Int.le_of_lt p)]
        have e3 : x % (2 ^ n * 2 ^ (n * b)) = x - 2 ^ n * (2 ^ (n * b) * (x / 2 ^ n / 2 ^ (n * b))) := by rw [← Int.mul_assoc, ← e2]; lia
        rw [e3, Int.sub_mul_ediv_left _ _ (by exact Int.ne_of_gt p)]
        have e4 := Int.emod_add_mul_ediv (x / 2 ^ n) (2 ^ (n * b))
        lia
      rw [this]
      exact dgs_mod n a b _ (Int.ediv_nonneg h (Int.le_of_lt p)) (by lia)
theorem IF.weak {env : Env} {h0 h1 h : Heap} {vals fr : List (Str × Int)} (F : IF env h0 vals fr h) (g : Grow h1 h0) : IF env h1 vals fr h :=
  ⟨F.kind, g.trans F.base, none_back g F.new, F.loc, F.free⟩
theorem grow_hide {h : Heap} {l : List Addr} : Grow (hideAll h l) h := fun _ _ e => of_hideAll _ e
noncomputable def But (D : Addr) (h h' : Heap) : Prop := ∀ b o, b ≠ D → h.get? b = some o → h'.get? b = some o
theorem IF.but {env : Env} {h0 h h' : Heap} {vals fr : List (Str × Int)} {D : Addr} {vs : Array Value} (F : IF env h0 vals fr h) (hD : h.PlainList D vs) (n0 : h0.get? D = Option.none) (hL : env.locals ≠ D) (b : But D h h') : IF env h0 vals fr h' :=
  ⟨F.kind, fun a o e => b a o (fun q => by rw [q, n0] at e; cases e) (F.base a o e), F.new, let ⟨m, ⟨o, es, ep, e, r⟩, q⟩ := F.loc; ⟨m, ⟨o, es, ep, b _ _ hL e, r⟩, q⟩,
    fun p hp => let ⟨a, c, t, e, cl⟩ := F.free p hp; ⟨a, c, t, e, let ⟨o, e1, e2⟩ := cl; ⟨o, b _ _ (fun q => seq_ne_cell hD cl q.symm) e1, e2⟩⟩⟩
theorem repL_ints {w : World} {X Y : Addr → Prop} {h h' : Heap} : ∀ {ds : List Int} {us : List Value}, RepL w X h (ds.map D.int) us → RepL w Y h' (ds.map D.int) us
  | [], us, r => by simp only [List.map_nil, RepL] at r ⊢; exact r
  | d :: ds, us, r => by
    simp only [List.map_cons, RepL] at r ⊢
    obtain ⟨v, vs, e, rd, rl⟩ := r
    obtain ⟨t, rfl⟩ := rd.int_of
    exact ⟨_, vs, e, rep_int, repL_ints rl⟩
structure St1 (w : World) (qual : Str) (clos : List (Str × Addr)) (fa Dg : Addr) (n : Nat) (h : Heap) : Prop where
  lim : h.NoLimit
  inn : InnAt "_int2digits" qual clos fa h
  dig : ∃ c, clos.lookup ("a_digits" : Str) = some c ∧ h.IsCell c (some (.ref Dg))
  self : ∃ c, clos.lookup ("inner" : Str) = some c ∧ h.IsCell c (some (.ref fa))
  n : ∃ c t, clos.lookup ("n" : Str) = some c ∧ h.IsCell c (some (.int n t))
theorem St1.but {w : World} {qual : Str} {clos : List (Str × Addr)} {fa Dg : Addr} {n : Nat} {h h' : Heap} {vs : Array Value} (x : St1 w qual clos fa Dg n h) (hD : h.PlainList Dg vs) (g : But Dg h h') : St1 w qual clos fa Dg n h' := by
  have cl : ∀ {c v}, h.IsCell c v → h'.IsCell c v := fun q => let ⟨o, e1, e2⟩ := q; ⟨o, g _ _ (fun z => seq_ne_cell hD q z.symm) e1, e2⟩
  obtain ⟨k, eD⟩ := id hD
  refine ⟨?_, ?_, let ⟨c, a, b⟩ := x.dig; ⟨c, a, cl b⟩, let ⟨c, a, b⟩ := x.self; ⟨c, a, cl b⟩, let ⟨c, t, a, b⟩ := x.n; ⟨c, t, a, cl b⟩⟩
  · obtain ⟨mc, ⟨o, es, ep, e, hd, r⟩, q⟩ := x.lim
    exact ⟨mc, ⟨o, es, ep, g _ _ (fun z => by rw [z, eD] at e; cases e; cases hd) e, hd, r⟩, q⟩
  · obtain ⟨doc, pm, cv, ctv, o, e, hd, c, o2, vs2, t, e2, e3, e4, e5⟩ := x.inn
    exact ⟨doc, pm, cv, ctv, o, g _ _ (fun z => by rw [z, eD] at e; cases e; cases hd) e, hd, c, o2, vs2, t, e2, g _ _ (fun z => by rw [z, eD] at e3; cases e3; cases e4) e3, e4, e5⟩
theorem St1.grow {w : World} {qual : Str} {clos : List (Str × Addr)} {fa Dg : Addr} {n : Nat} {h h' : Heap} (x : St1 w qual clos fa Dg n h) (g : Grow h h') : St1 w qual clos fa Dg n h' :=
  ⟨x.lim.keeps g, x.inn.grow g, let ⟨c, a, b⟩ := x.dig; ⟨c, a, b.keeps g⟩, let ⟨c, a, b⟩ := x.self; ⟨c, a, b.keeps g⟩, let ⟨c, t, a, b⟩ := x.n; ⟨c, t, a, b.keeps g⟩⟩
theorem EP.val {env : Env} {h0 : Heap} {vals fr : List (Str × Int)} {e : Expr} {i j : Int} (h : EP env h0 vals fr e i) (q : i = j) : EP env h0 vals fr e j := q ▸ h
noncomputable def In1 (w : World) (hb : Heap) (qual : Str) (clos : List (Str × Addr)) (fa Dg : Addr) (n m : Nat) : Prop :=
  ∀ (x : Int) (L R : Nat) (l : List (Int × Tok)) (ds : List Int) (A : Around) (s : Shared), l.map (·.1) = [x, (L : Int), (R : Int)] → L < R → R ≤ ds.length → ds.length ≤ 1000 → R - L ≤ m → 0 ≤ x → x < 2 ^ (n * (R - L)) → Ok w hb A m → St1 w qual clos fa Dg n s.heap →
    Held w (fun _ => False) s.heap (.list (ds.map D.int)) Dg →
    wpAny (model pw w) A (call (.ref fa) (l.map fun p => .int p.1 p.2)) (fun v s' => v = .none ∧ ∃ h' tk, s' = { s with heap := h', toks := tk } ∧ But Dg s.heap h' ∧ Held w (fun _ => False) h' (.list ((ds.take L ++ dgs n x (R - L) ++ ds.drop R).map D.int)) Dg) (fun _ _ => False) s
theorem inner1_step {w : World} {hb : Heap} {qual : Str} {clos : List (Str × Addr)} {fa Dg : Addr} {n : Nat} (hn : n ≤ 10000) {m : Nat} (ih : In1 w hb qual clos fa Dg n m) : In1 w hb qual clos fa Dg n (m + 1) := by
    intro x L R l ds A s el h1 h2 hl h3 hx0 hx1 O S H
    refine call_inner (names := ["x", "L", "R"]) (fr := [("n", (n : Int))]) O S.lim S.inn (by decide +kernel) (by decide +kernel) (by have := congrArg List.length el; simpa using this) (by decide) (by decide +kernel) (fun doc pm cv ctv vs e => by apply vs3 e; intros; rfl) (by decide +kernel) (by decide +kernel) (by decide +kernel) (fun p hp => ?_) (fun A' env H1 T1 O' es ec F0 => wpQ fun Q hQ => ?_)
    · rw [List.mem_singleton.mp hp]
      exact ⟨show (innSc "_int2digits").names.lookup ("n" : Str) = some NameKind.free by decide +kernel, S.n⟩
    rw [el] at F0
    have F0 : IF env s.heap [("x", x), ("L", (L : Int)), ("R", (R : Int))] [("n", (n : Int))] H1 := F0
    have gB : Grow s.heap H1 := F0.base
    have nl : s.heap.get? env.locals = Option.none := F0.new
    obtain ⟨us, hD, ru⟩ := id H
    have hLD : env.locals ≠ Dg := fun q => by obtain ⟨k, e⟩ := hD; rw [← q, nl] at e; cases e
    have nD : (hideAll s.heap [Dg]).get? Dg = Option.none := hideAll_none _ (.head _)
    have F := F0.weak (grow_hide (l := [Dg]))
    have ko : ∀ x, env.kindOf x = (innSc "_int2digits").names.lookup x := fun x => by show env.scope.names.lookup x = _; rw [es]
    conv => arg 3; arg 1; whnf
    refine wpAny_execs_cons (wpAny_If (ep_eq O' F (ep_bin (ep_name (i := L) (.tail _ (.head _))) ep_int bo_add) (ep_name (i := R) (.tail _ (.tail _ (.head _)))) (fun s1 k1 => ?_)))
    have F1 := F.grow (kH k1)
    obtain ⟨H2, T2, rfl, g2⟩ := k1
    dsimp only at g2 F1
    have g12 : Grow s.heap H2 := gB.trans g2
    by_cases c : L + 1 = R
    · rw [decide_eq_true (show (L : Int) + 1 = R by lia)]
      simp only [if_true]
      have S1 := S.grow g12
      obtain ⟨cd, e1, cl⟩ := S1.dig
      refine wpAny_execs_cons (wpAny_Assign_Subscript (wpAny_mono (EP.run (ep_name (i := x) (.head _)) w hb A' m _ O' F1) (fun u s2 zp => ?_) fun _ _ x => x.elim))
      obtain ⟨k2, t2, e2⟩ := zp
      subst e2
      refine wpAny_Name (wpAny_loadName_free F1.kind (by rw [ko]; decide +kernel) (by rw [ec]; exact e1) (cl.keeps (kH k2)) ?_) (by decide +kernel)
      have F2 := F1.grow (kH k2)
      refine wpAny_mono (EP.run (ep_name (i := L) (.tail _ (.head _))) w hb A' m _ O' F2) (fun u s3 zp => ?_) fun _ _ x => x.elim
      obtain ⟨k3, t3, e3⟩ := zp
      subst e3
      obtain ⟨H3, T3, rfl, g3⟩ := kT k2 k3
      have g13 : Grow s.heap H3 := g12.trans g3
      have hD3 : H3.PlainList Dg us.toArray := let ⟨n, e⟩ := hD; ⟨n, g13 _ _ e⟩
      have lus := ru.length
      rw [List.length_map] at lus
      refine wp_setItem_plain hD3 (by exact Int.natCast_nonneg _) (by exact Int.lt_of_lt_of_le (Int.ofNat_lt.mpr h1) (Int.le_trans (Int.ofNat_le.mpr h2) (Int.le_trans (Int.ofNat_le.mpr hl) (by decide)))) (by simp; exact Nat.lt_of_lt_of_le h1 (Nat.le_trans h2 (Nat.le_of_eq lus.symm))) (fun h' pl hs => ?_)
      refine wpAny_execs_cons (wpAny_Return_none (hQ _ _ ⟨rfl, h', _, rfl, fun b o nb e => by rw [hs.2 b nb]; exact g13 _ _ e, us.set L (.int x t2), ?_, ?_⟩))
      · have e5 : us.toArray.setIfInBounds (Int.toNat (L : Int)) (.int x t2) = (us.set L (.int x t2)).toArray := by simp
        rw [e5] at pl; exact pl
      · have e6 : ds.take L ++ dgs n x (R - L) ++ ds.drop R = ds.set L x := by
          rw [show R - L = 1 by lia]
          have q : x % 2 ^ n = x := Int.emod_eq_of_lt hx0 (by rw [show n = n * (R - L) by rw [show R - L = 1 by lia, Nat.mul_one]]; exact hx1)
          simp only [dgs, q]
          rw [List.set_eq_take_append_cons_drop, if_pos (by exact Nat.lt_of_lt_of_le (Nat.le_of_eq c) h2), ← c, List.append_assoc]; rfl
        rw [e6, show (ds.set L x).map D.int = (ds.map D.int).set L (.int x) by rw [List.map_set]]
        exact RepL.put rep_int L (repL_ints ru)
    · rw [decide_eq_false (show ¬ (L : Int) + 1 = R by lia)]
      simp only [Bool.false_eq_true, if_false]
      refine wpAny_execs_nil ?_
      have hmid : ((L : Int) + R) / 2 ^ 1 = ((L + R) / 2 : Nat) := by exact by simp
      obtain ⟨M, hM⟩ : ∃ M, M = (L + R) / 2 := ⟨_, rfl⟩
      rw [← hM] at hmid
      have m1 : L < M := by lia
      have m2 : M < R := by lia
      refine wpAny_execs_cons (ip_assign (i := (M : Int)) O' F1 (EP.val (ep_bin (ep_bin (ep_name (i := L) (.tail _ (.head _))) (ep_name (i := R) (.tail _ (.tail _ (.head _)))) bo_add) ep_int (bo_shr (m := 1))) hmid) (by rw [ko]; decide +kernel) (show ("mid" : Str) ∉ (["x", "L", "R"] : List Str) by decide +kernel) (fun h3 t3 F3 p3 => ?_))
      have sm1 : Sm ((M : Int) - L) := Nat.le_trans (bits_lt (m := 1000) (by lia) (by
        have : (M : Int) - L < 1000 := by lia
        exact Int.lt_trans this (by decide))) (by decide)
      have sm2 : Sm (n : Int) := Nat.le_trans (bits_lt (m := 1000) (by exact Int.natCast_nonneg _) (by
        have : (n : Int) < 10001 := by exact Int.lt_of_le_of_lt (Int.ofNat_le.mpr hn) (by decide)
        exact Int.lt_trans this (by decide))) (by decide)
      have hsh : ((M : Int) - L) * n = ((M - L) * n : Nat) := by rw [Int.natCast_mul]; congr 1; lia
      refine wpAny_execs_cons (ip_assign (i := (((M - L) * n : Nat) : Int)) O' F3 (EP.val (ep_bin (ep_bin (ep_name (i := M) (.head _)) (ep_name (i := L) (.tail _ (.tail _ (.head _)))) bo_sub) (ep_free (i := n) (.head _)) (bo_mul sm1 sm2)) hsh) (by rw [ko]; decide +kernel) (show ("shift" : Str) ∉ (["mid", "x", "L", "R"] : List Str) by decide +kernel) (fun h4 t4 F4 p4 => ?_))
      refine wpAny_execs_cons (ip_assign (i := x / 2 ^ ((M - L) * n)) O' F4 (ep_bin (ep_name (i := x) (.tail _ (.tail _ (.head _)))) (ep_name (.head _)) (bo_shr (m := (M - L) * n))) (by rw [ko]; decide +kernel) (show ("upper" : Str) ∉ (["shift", "mid", "x", "L", "R"] : List Str) by decide +kernel) (fun h5 t5 F5 p5 => ?_))
      have px : (0 : Int) < 2 ^ ((M - L) * n) := Int.pow_pos (by decide)
      have b27 : n * (R - L) ≤ 10000 * 1000 := Nat.mul_le_mul hn (by exact Nat.le_trans (Nat.sub_le _ _) (Nat.le_trans h2 hl))
      have b28 : (M - L) * n ≤ 1000 * 10000 := Nat.mul_le_mul (by exact Nat.le_of_lt (Nat.lt_of_le_of_lt (Nat.sub_le _ _) (Nat.lt_of_lt_of_le m2 (Nat.le_trans h2 hl)))) hn
      have up0 : 0 ≤ x / 2 ^ ((M - L) * n) := Int.ediv_nonneg hx0 (Int.le_of_lt px)
      have upx : x / 2 ^ ((M - L) * n) ≤ x := Int.ediv_le_self _ hx0
      have hbits : Builtin.Int.intBits (x / 2 ^ ((M - L) * n)) ≤ n * (R - L) := bits_lt up0 (by exact Int.lt_of_le_of_lt upx hx1)
      refine wpAny_execs_cons (ip_assign (i := x % 2 ^ ((M - L) * n)) O' F5 (EP.val (ep_bin (ep_name (i := x) (.tail _ (.tail _ (.tail _ (.head _))))) (ep_bin (ep_name (i := x / 2 ^ ((M - L) * n)) (.head _)) (ep_name (.tail _ (.head _))) (bo_shl (m := (M - L) * n) (by lia))) bo_xor) (xor_shift hx0)) (by rw [ko]; decide +kernel) (show ("lower" : Str) ∉ (["upper", "shift", "mid", "x", "L", "R"] : List Str) by decide +kernel) (fun h6 t6 F6 p6 => ?_))
      have old : Grow s.heap h6 := fun b o e => by
        have nb : b ≠ env.locals := fun z => by rw [z, nl] at e; cases e
        exact p6 b o nb (p5 b o nb (p4 b o nb (p3 b o nb (g12 b o e))))
      have S6 := S.grow old
      have hD6 : h6.PlainList Dg us.toArray := let ⟨n, e⟩ := hD; ⟨n, old _ _ e⟩
      have int0 : interactive env = false := by unfold interactive; rw [F6.kind]; rfl
      obtain ⟨doc, pm, cv, ctv, o, i1, i2, i3⟩ := id S6.inn
      refine wpAny_execs_cons (wpAny_Expr (ip_call (is := [x % 2 ^ ((M - L) * n), (L : Int), (M : Int)]) O' F6 (by rw [ko]; decide +kernel) (by rw [ec]; exact S6.self) i1 i2 (eps_cons (ep_name (.head _)) (eps_cons (ep_name (.tail _ (.tail _ (.tail _ (.tail _ (.tail _ (.head _))))))) (eps_cons (ep_name (.tail _ (.tail _ (.tail _ (.head _))))) eps_nil))) (fun s7 l7 k7 e7 => ?_)) int0)
      have ru0 : RepL w (fun _ => False) s.heap (ds.map D.int) us := ru
      obtain ⟨H7, T7, rfl, g7⟩ := id k7
      dsimp only at g7
      have hH7 : Held w (fun _ => False) H7 (.list (ds.map D.int)) Dg := ⟨us, let ⟨n, e⟩ := hD6; ⟨n, g7 _ _ e⟩, RepL.pres (Grow.pres (old.trans g7)) _ _ ru⟩
      refine wpAny_mono (ih (x % 2 ^ ((M - L) * n)) L M l7 ds A' _ e7 m1 (by exact Nat.le_of_lt (Nat.lt_of_lt_of_le m2 h2)) hl (by lia) (Int.emod_nonneg _ (by exact Int.ne_of_gt px)) (by rw [Nat.mul_comm n]; exact Int.emod_lt_of_pos _ px) O' (S6.grow g7) hH7) (fun v s8 zp => ?_) fun _ _ x => x.elim
      obtain ⟨ev, h8, t8, e8, b8, H8⟩ := zp
      subst ev; subst e8
      dsimp only at b8
      have hD7 : H7.PlainList Dg us.toArray := let ⟨n, e⟩ := hD6; ⟨n, g7 _ _ e⟩
      have F8 := (F6.grow g7).but hD7 nD hLD b8
      have S8 := (S6.grow g7).but hD7 b8
      obtain ⟨doc', pm', cv', ctv', o', j1, j2, j3⟩ := id S8.inn
      refine wpAny_execs_cons (wpAny_Expr (ip_call (is := [x / 2 ^ ((M - L) * n), (M : Int), (R : Int)]) O' F8 (by rw [ko]; decide +kernel) (by rw [ec]; exact S8.self) j1 j2 (eps_cons (ep_name (.tail _ (.head _))) (eps_cons (ep_name (.tail _ (.tail _ (.tail _ (.head _))))) (eps_cons (ep_name (.tail _ (.tail _ (.tail _ (.tail _ (.tail _ (.tail _ (.head _)))))))) eps_nil))) (fun s9 l9 k9 e9 => ?_)) int0)
      obtain ⟨us8, hD8, ru8⟩ := id H8
      obtain ⟨H9, T9, rfl, g9⟩ := id k9
      dsimp only at g9
      have hH9 : Held w (fun _ => False) H9 (.list ((ds.take L ++ dgs n (x % 2 ^ ((M - L) * n)) (M - L) ++ ds.drop M).map D.int)) Dg := ⟨us8, let ⟨n, e⟩ := hD8; ⟨n, g9 _ _ e⟩, RepL.pres (Grow.pres g9) _ _ ru8⟩
      have len9 : (ds.take L ++ dgs n (x % 2 ^ ((M - L) * n)) (M - L) ++ ds.drop M).length = ds.length := by simp [dgs_length]; lia
      have hup : x / 2 ^ ((M - L) * n) < 2 ^ (n * (R - M)) := by
        apply Int.ediv_lt_of_lt_mul px
        rw [← Int.pow_add, show n * (R - M) + (M - L) * n = n * (R - L) by rw [Nat.mul_comm (M - L), ← Nat.mul_add]; congr 1; lia]
        exact hx1
      refine wpAny_mono (ih (x / 2 ^ ((M - L) * n)) M R l9 _ A' _ e9 m2 (by exact Nat.le_trans h2 (Nat.le_of_eq len9.symm)) (by exact Nat.le_trans (Nat.le_of_eq len9) hl) (by lia) up0 hup O' (S8.grow g9) hH9) (fun v sA zp => ?_) fun _ _ x => x.elim
      obtain ⟨ev, hA, tA, eA, bA, HA⟩ := zp
      subst ev; subst eA
      dsimp only at bA
      refine wpAny_execs_nil (hQ _ _ ⟨rfl, hA, tA, rfl, fun b o nb e => bA b o nb (g9 _ _ (b8 b o nb (g7 _ _ (old _ _ e)))), ?_⟩)
      have fin : (ds.take L ++ dgs n (x % 2 ^ ((M - L) * n)) (M - L) ++ ds.drop M).take M ++ dgs n (x / 2 ^ ((M - L) * n)) (R - M) ++ (ds.take L ++ dgs n (x % 2 ^ ((M - L) * n)) (M - L) ++ ds.drop M).drop R = ds.take L ++ dgs n x (R - L) ++ ds.drop R := by
        have l1 : (ds.take L ++ dgs n (x % 2 ^ ((M - L) * n)) (M - L)).length = M := by simp [dgs_length]; lia
        rw [List.take_append_of_le_length (by exact Nat.le_of_eq l1.symm), List.take_of_length_le (by exact Nat.le_of_eq l1), List.drop_append, List.drop_of_length_le (by exact Nat.le_of_lt (Nat.lt_of_le_of_lt (Nat.le_of_eq l1) m2)), l1, List.nil_append, List.drop_drop, show M + (R - M) = R by lia]
        rw [Nat.mul_comm (M - L) n, dgs_mod n (M - L) (M - L) x hx0 (Nat.le_refl _), show R - L = (M - L) + (R - M) by lia, dgs_add n (M - L) (R - M) x hx0]
        simp only [List.append_assoc]
      rw [← fin]; exact HA
theorem inner1 {w : World} {hb : Heap} {qual : Str} {clos : List (Str × Addr)} {fa Dg : Addr} {n : Nat} (hn : n ≤ 10000) : ∀ m : Nat, In1 w hb qual clos fa Dg n m
  | 0 => fun x L R l ds A s el h1 h2 hl h3 hx0 hx1 O S H => by omega
  | m + 1 => inner1_step hn (inner1 hn m)
noncomputable def qualI (f : Str) : Str := (f ++ ".<locals>.") ++ "inner"
noncomputable def TabOk (Z : Addr → Prop) (f : Str) (h : Heap) (ps : Array Value) : Prop :=
  ps = #[] ∨ ∃ c', ps = #[rawInt (innPos f).line, rawInt (innPos f).col, .ref c'] ∧ h.CodeRec (.ref c') (qualI f) ∧ ¬ Z c' ∧ (h.get? c').isSome = true
structure TabFor (P : Addr) (hb : Heap) (Z : Addr → Prop) (f : Str) (h : Heap) : Prop where
  fn : ∃ mg a o pm c doc ps b sc, hb.Ns mainGlobals mg ∧ mg f = some (.ref a) ∧ pw.theDef f = some (ps, b, sc) ∧ hb.get? a = some o ∧ o.data = .func (docDef f ps b sc pm (.ref c) doc) ∧ CodeHd hb c P
  tab : ∃ ps, h.get? P = some (tabObj ps) ∧ TabOk Z f h ps
structure TI (P1 P2 : Addr) (hb : Heap) (Z : Addr → Prop) (h : Heap) : Prop where
  t1 : TabFor P1 hb Z "_int2digits" h
  t2 : TabFor P2 hb Z "_digits2int" h
  ne : P1 ≠ P2
  bu : ∃ mg, hb.Ns mainGlobals mg ∧ hb.BuiltinsAt mg P1 ∧ hb.BuiltinsAt mg P2
  no : hb.get? P1 = Option.none ∧ hb.get? P2 = Option.none
noncomputable def BT (Z : Addr → Prop) (P1 P2 : Addr) (h h' : Heap) : Prop := ∀ b o, ¬ Z b → b ≠ P1 → b ≠ P2 → h.get? b = some o → h'.get? b = some o
theorem codeRec_notab {h : Heap} {c' P : Addr} {q : Str} {ps : Array Value} (x : h.CodeRec (.ref c') q) (hP : h.get? P = some (tabObj ps)) (hq : ps.size < 2 ∨ ∀ x t, ps[1]? ≠ some (.str x t)) : c' ≠ P := fun e => by
  obtain ⟨c, o, vs, t, e1, e2, e3, e4⟩ := x
  cases e1
  rw [e, hP] at e2; cases e2; cases e3
  rcases hq with q | q
  · rw [Array.getElem?_eq_none (by lia)] at e4; cases e4
  · exact q _ _ e4
theorem TabOk.noStr {Z : Addr → Prop} {f : Str} {h : Heap} {ps : Array Value} (x : TabOk Z f h ps) : ps.size < 2 ∨ ∀ x t, ps[1]? ≠ some (.str x t) := by
  rcases x with rfl | ⟨c', rfl, _⟩
  · left; decide
  · right; intro x t q; simp [rawInt] at q
theorem TabFor.move {P Q1 Q2 : Addr} {hb h h' : Heap} {Z Z' : Addr → Prop} {f : Str} (x : TabFor P hb Z f h) (tq1 : ∃ ps, h.get? Q1 = some (tabObj ps) ∧ (ps.size < 2 ∨ ∀ x t, ps[1]? ≠ some (.str x t))) (tq2 : ∃ ps, h.get? Q2 = some (tabObj ps) ∧ (ps.size < 2 ∨ ∀ x t, ps[1]? ≠ some (.str x t)))
    (b : BT Z Q1 Q2 h h') (hz : ∀ b, (h.get? b).isSome = true → Z' b → Z b) (hP : h'.get? P = h.get? P) : TabFor P hb Z' f h' := by
  refine ⟨x.fn, ?_⟩
  obtain ⟨ps, e, t⟩ := x.tab
  refine ⟨ps, hP.trans e, ?_⟩
  rcases t with t | ⟨c', e1, cr, nz, ex⟩
  · exact .inl t
  · obtain ⟨p1, a1, a2⟩ := tq1
    obtain ⟨p2, b1, b2⟩ := tq2
    have n1 := codeRec_notab cr a1 a2
    have n2 := codeRec_notab cr b1 b2
    refine .inr ⟨c', e1, ?_, fun z => nz (hz c' ex z), ?_⟩
    · obtain ⟨c, o, vs, t, e2, e3, r⟩ := cr
      cases e2
      exact ⟨c', o, vs, t, rfl, b _ _ nz n1 n2 e3, r⟩
    · obtain ⟨o, ho⟩ := Option.isSome_iff_exists.mp ex
      rw [b _ _ nz n1 n2 ho]; rfl
section
variable {P1 P2 : Addr} {hb h h' : Heap} {Z Z' : Addr → Prop}
theorem TI.q1 (x : TI P1 P2 hb Z h) : ∃ ps, h.get? P1 = some (tabObj ps) ∧ (ps.size < 2 ∨ ∀ x t, ps[1]? ≠ some (.str x t)) := let ⟨ps, a, b⟩ := x.t1.tab; ⟨ps, a, b.noStr⟩
theorem TI.q2 (x : TI P1 P2 hb Z h) : ∃ ps, h.get? P2 = some (tabObj ps) ∧ (ps.size < 2 ∨ ∀ x t, ps[1]? ≠ some (.str x t)) := let ⟨ps, a, b⟩ := x.t2.tab; ⟨ps, a, b.noStr⟩
theorem TI.move (x : TI P1 P2 hb Z h) (p : Pres Z h h') (hz : ∀ b, (h.get? b).isSome = true → Z' b → Z b) (h1 : ¬ Z P1) (h2 : ¬ Z P2) : TI P1 P2 hb Z' h' := by
  obtain ⟨ps1, a1, _⟩ := x.q1
  obtain ⟨ps2, a2, _⟩ := x.q2
  have bt : BT Z P1 P2 h h' := fun b o nz _ _ e => p b o nz e
  exact ⟨x.t1.move x.q1 x.q2 bt hz ((p _ _ h1 a1).trans a1.symm), x.t2.move x.q1 x.q2 bt hz ((p _ _ h2 a2).trans a2.symm), x.ne, x.bu, x.no⟩
theorem TI.weak (x : TI P1 P2 hb Z h) (hz : ∀ b, (h.get? b).isSome = true → Z' b → Z b) (h1 : ¬ Z P1) (h2 : ¬ Z P2) : TI P1 P2 hb Z' h := x.move (fun _ _ _ e => e) hz h1 h2
theorem TI.grow (x : TI P1 P2 hb Z h) (g : Grow h h') (h1 : ¬ Z P1) (h2 : ¬ Z P2) : TI P1 P2 hb Z h' := x.move (fun b o _ e => g b o e) (fun _ _ z => z) h1 h2
end
theorem nest_step {f : Str} {w : World} {A : Around} {env : Env} {s : Shared} {mg : Str → Option Value} {clos : List (Str × Addr)} {c P ci : Addr} {ps : Array Value} {v0 : Option Value} {Z : Addr → Prop} {Q : Flow → Shared → Prop} (hk : env.scope.kind = .function) (hi : env.kindOf "inner" = some .cell)
    (hci : env.cells.lookup ("inner" : Str) = some ci) (hcell : s.heap.IsCell ci v0) (hcl : closureFor (innSc f) env = pure clos) (hge0 : env.globals = mainGlobals) (hg : s.heap.Ns mainGlobals mg) (hcode : env.code = .ref c) (C : CodeHd s.heap c P)
    (hP : s.heap.get? P = some (tabObj ps)) (ht : TabOk Z f s.heap ps) (hb : s.heap.BuiltinsAt mg P) (hq : env.qual = f ++ ".<locals>.") (hz : ∀ b, Z b → (s.heap.get? b).isSome = true)
    (hd0 : (innPs f).defaults = []) (hk0 : (innPs f).kw_defaults = []) (ha : annTrees (innPs f) none env = [])
    (h : ∀ h' tk fa, (∀ b o, b ≠ P → b ≠ ci → s.heap.get? b = some o → h'.get? b = some o) → InnAt f (qualI f) clos fa h' → h'.IsCell ci (some (.ref fa)) → (∃ ps', h'.get? P = some (tabObj ps') ∧ TabOk Z f h' ps') → Q .next { s with heap := h', toks := tk }) :
    wpAny (model pw w) A (exec (.FunctionDef "inner" (innPs f) (innB f) [] none [] (innSc f) none "inner" (innPos f)) env) Q (fun _ _ => False) s := by
  have hqual : qualnameIn env "inner" "inner" = qualI f := by
    unfold qualnameIn qualI; rw [hi, hq]; rfl
  have hgP : mainGlobals ≠ P := fun q => by
    obtain ⟨o, es, ep, e, hd, _⟩ := hg
    rw [q, hP] at e; cases e; cases hd
  have hciP : ci ≠ P := fun q => by
    obtain ⟨o, e, d⟩ := hcell
    rw [q, hP] at e; cases e; cases d
  have tri : TriplesOk ps.toList := by
    rcases ht with rfl | ⟨c', rfl, _⟩
    · trivial
    · exact trivial
  refine nestDef_K hd0 hk0 ha ?_
  rw [hqual]
  have fin : ∀ (s1 : Shared) (fa : Addr), (∃ h1 t1, s1 = { s with heap := h1, toks := t1 } ∧ (∀ b o, b ≠ P → s.heap.get? b = some o → h1.get? b = some o) ∧ InnAt f (qualI f) clos fa h1 ∧ ∃ ps', h1.get? P = some (tabObj ps') ∧ TabOk Z f h1 ps') →
      wpAny (model pw w) A (storeName env "inner" (.ref fa)) (fun _ s'' => Q .next s'') (fun _ _ => False) s1 := fun s1 fa ⟨h1, t1, e, keep, I, ps', e1, e2⟩ => by
    subst e
    obtain ⟨o0, ho0, hd0'⟩ := hcell
    have cell1 : h1.IsCell ci v0 := ⟨o0, keep _ _ hciP ho0, hd0'⟩
    refine wpAny_storeName_cell hk hi hci cell1 fun h' hv hs => ?_
    obtain ⟨doc, pm, cv, ctv, o, i1, i2, cc, oc, vs, t, i3, i4, i5, i6⟩ := I
    have c1 := keep _ _ hciP ho0
    refine h h' t1 fa (fun b o n1 n2 e => by rw [hs.2 b n2]; exact keep b o n1 e) ⟨doc, pm, cv, ctv, o, ?_, i2, cc, oc, vs, t, i3, ?_, i5, i6⟩ hv ⟨ps', ?_, ?_⟩
    · rw [hs.2 _ (fun q => by rw [q, c1] at i1; cases i1; rw [hd0'] at i2; cases i2)]; exact i1
    · rw [hs.2 _ (fun q => by rw [q, c1] at i4; cases i4; rw [hd0'] at i5; cases i5)]; exact i4
    · rw [hs.2 _ (Ne.symm hciP)]; exact e1
    · rcases e2 with e2 | ⟨c', a1, ⟨c2, o2, vs2, t2, a2, a3, a4, a5⟩, nz, ex⟩
      · exact .inl e2
      · have nc : c' ≠ ci := fun q => by cases a2; rw [q, c1] at a3; cases a3; rw [hd0'] at a4; cases a4
        refine .inr ⟨c', a1, ⟨c2, o2, vs2, t2, a2, ?_, a4, a5⟩, nz, ?_⟩
        · cases a2; rw [hs.2 _ nc]; exact a3
        · rw [hs.2 _ nc]; exact ex
  rcases id ht with rfl | ⟨c', rfl, cr, nz, ex⟩
  · refine makeFunction_K (ps := #[]) hcl hge0 hg hcode C hP tri rfl hgP hb fun c' ctv doc h' tk hx hge hlt hrec htb => fin _ _ ⟨_, _, rfl, fun b o nb e => Heap.get?_push_of_some _ (hx b o nb e), ?_, ?_⟩
    · exact ⟨doc, _, _, ctv, _, Heap.get?_push_size _ rfl, rfl, hrec.push _⟩
    · obtain ⟨oc, hoc⟩ : ∃ oc, h'.get? c' = some oc := by obtain ⟨_, o, _, _, e, e2, _⟩ := hrec; cases e; exact ⟨o, e2⟩
      refine ⟨_, Heap.get?_push_of_some _ htb, .inr ⟨c', rfl, hrec.push _, fun z => ?_, by rw [Heap.get?_push_of_some _ hoc]; rfl⟩⟩
      have := hz _ z; rw [none_of_le hge] at this; cases this
  · refine makeFunction_hit (cv := .ref c') hcl hge0 hg hcode C hP tri (by simp [codeAmong, rawInt]) hb fun ctv doc h' tk hkp hsz => fin _ _ ⟨_, _, rfl, fun b o nb e => Heap.get?_push_of_some _ (hkp b o e), ?_, ?_⟩
    · exact ⟨doc, _, _, ctv, _, Heap.get?_push_size _ rfl, rfl, (cr.keeps hkp).push _⟩
    · refine ⟨_, Heap.get?_push_of_some _ (hkp _ _ hP), .inr ⟨c', rfl, (cr.keeps hkp).push _, nz, ?_⟩⟩
      obtain ⟨o, ho⟩ := Option.isSome_iff_exists.mp ex
      rw [Heap.get?_push_of_some _ (hkp _ _ ho)]; rfl
section
variable {c : SC} {k : Nat} {G G1 G' : Ctx}
theorem FS.alter {w : World} {hb : Heap} {X₀ X : Addr → Prop} {env : Env} {h h' : Heap} (F : FS c w hb X₀ X env h G) (W : Addr → Prop) (hs : ∀ b o, ¬ W b → h.get? b = some o → h'.get? b = some o) (hX : ∀ b, W b → X b) (sW : ∀ b, W b → (h'.get? b).isSome = true)
    (hl : ¬ W env.locals) (hcell : ∀ y a, env.cells.lookup y = some a → W a → ∃ v, h'.IsCell a v) (hv : ∀ x e, Has c.ns G x e → ∀ a, env.cells.lookup x = some a → ¬ W a)
    (hd : ∀ x d a, Has c.ns G x (.own d) → VarIs env h x (.ref a) → ¬ W a) : FS c w hb X₀ X env h' G := by
  obtain ⟨xl, m, n⟩ := F.loc
  have n' : h'.Ns env.locals m := by obtain ⟨o, es, ep, e, r⟩ := n; exact ⟨o, es, ep, hs _ _ hl e, r⟩
  have vy : ∀ y e u, Has c.ns G y e → VarIs env h y u → VarIs env h' y u := fun y e u hy vy => by
    rcases vy with ⟨ky, m', n1, e1⟩ | ⟨ky, b, l, cl⟩
    · exact .inl ⟨ky, m, n', by rw [ns_fun n n1]; exact e1⟩
    · exact .inr ⟨ky, b, l, let ⟨o, ho, r⟩ := cl; ⟨o, hs _ _ (hv y e hy b l) ho, r⟩⟩
  have back : ∀ y e u, Has c.ns G y e → VarIs env h' y u → VarIs env h y u := fun y e u hy v1 => by
    obtain ⟨u', a', _⟩ := F.var y _ hy
    have := VarIs.uniq v1 (vy y e u' hy a'); subst this; exact a'
  have pr : Pres X h h' := fun b o nx e => hs b o (fun q => nx (hX b q)) e
  refine ⟨F.sc, F.ok, F.gl, F.bl, fun b o eb => hs b o (fun q => ?_) (F.base b o eb), F.sub, fun b xb => ⟨?_, (F.fresh b xb).2⟩, ⟨xl, m, n'⟩, fun y b e => ⟨(F.cells y b e).1, ?_⟩, F.apart, F.celled, fun y e hy => ?_, fun y z l m' v ne a b v1 v2 => F.owned y z l m' v ne a b (back y _ v a v1) (back z _ v b v2), fun y d b hy v1 => F.off y d b hy (back y _ _ hy v1)⟩
  · have := (F.fresh b (hX b q)).2; rw [eb] at this; cases this
  · by_cases q : W b
    · exact sW b q
    · obtain ⟨o, ho⟩ := Option.isSome_iff_exists.mp (F.fresh b xb).1
      rw [hs b o q ho]; rfl
  · by_cases q : W b
    · exact hcell y b e q
    · obtain ⟨v, o, ho, r⟩ := (F.cells y b e).2
      exact ⟨v, o, hs _ _ q ho, r⟩
  · obtain ⟨v, vv, r⟩ := F.var y e hy
    refine ⟨v, vy y e v hy vv, ?_⟩
    cases e with
    | imm d => exact Rep.pres pr d v r
    | own d =>
      obtain ⟨b, e, xb, b0, rb⟩ := r
      subst e
      exact ⟨b, rfl, xb, b0, rb.pres pr fun o e => hs _ _ (hd y d b hy vv) e⟩
theorem evn_repeat {l e : Expr} {pos : Pos} {ds : List D} {m : Int} (hl : EVN c k G l ds) (he : EV c k G e (.int m)) (h0 : 0 ≤ m) (hm : ds.length * m.toNat ≤ 2 ^ 24) (hm2 : m < 2 ^ 63) : EVN c k G (.BinOp l .Mult e pos) ((List.replicate m.toNat ds).flatten) := fun w hb A X₀ X env s O F =>
  wpAny_BinOp (wpAny_mono (hl w hb A X₀ X env s O F) (fun u s1 ⟨k1, a, vs, e1, na, pl, rl⟩ => by
    subst e1
    refine wpAny_mono (he w hb A X₀ X env s1 O (F.grow (kH k1))) (fun v s2 zp => ?_) fun _ _ x => x.elim
    obtain ⟨k2, r2⟩ := zp
    obtain ⟨t, rfl⟩ := r2.int_of
    have g2 := kH k2
    have pl2 : s2.heap.PlainList a vs.toArray := let ⟨n, e⟩ := pl; ⟨n, g2 _ _ e⟩
    have lv := rl.length
    refine wp_mul_plain pl2 (by exact Int.le_trans (by decide) h0) hm2 (by simp; rw [lv]; exact hm) ?_
    have rl2 := RepL.pres g2.pres _ _ rl
    have e4 : List.foldl (fun x1 x2 => x1 ++ x2) #[] (List.replicate (if vs.toArray.isEmpty = true then 0 else m.toNat) vs.toArray) = (List.replicate m.toNat vs).flatten.toArray := by rw [listMul_foldl_if]
    rw [e4]
    have gp : Grow s2.heap (s2.heap.push { cls := .type "list", data := .seq (List.replicate m.toNat vs).flatten.toArray }) := fun _ _ e => Heap.get?_push_of_some _ e
    refine ⟨kT (kT k1 k2) (kPush s2 _ s2.toks), _, _, rfl, ?_, ⟨_, Heap.get?_push_size _ rfl⟩, RepL.pres gp.pres _ _ ?_⟩
    · exact none_back ((kH k1).trans g2) (none_of_le (Nat.le_refl _))
    · have key : ∀ n : Nat, RepL w (fun b => X b ∨ b = s2.heap.objs.size) s2.heap (List.replicate n ds).flatten (List.replicate n vs).flatten := fun n => by
        induction n with
        | zero => simp [RepL]
        | succ n ih =>
          rw [List.replicate_succ, List.replicate_succ, List.flatten_cons, List.flatten_cons]
          refine RepL.append (RepL.weak (fun b hb' q => ?_) _ _ rl2) ih
          rcases q with q | rfl
          · exact .inl q
          · rw [none_of_le (Nat.le_refl _)] at hb'; cases hb'
      exact key _) fun _ _ x => x.elim)
end
theorem Ok.le {w : World} {hb : Heap} {A : Around} {k m : Nat} (O : Ok w hb A k) (h : m ≤ k) : Ok w hb A m := ⟨O.handled, by have := O.depth; lia, by have := O.units; lia, O.base⟩
noncomputable def FCT (f : Str) (k : Nat) (ds : List D) (d : D) : Prop :=
  ∀ (w : World) (hb : Heap) (A : Around) (X : Addr → Prop) (P1 P2 : Addr) (Z : Addr → Prop) (s : Shared) (vs : List Value) (a : Addr), Ok w hb A k → Grow hb s.heap → (∀ a, X a → (s.heap.get? a).isSome = true ∧ hb.get? a = Option.none) → X P1 → X P2 →
    (∀ b, Z b → (s.heap.get? b).isSome = true) → ¬ Z P1 → ¬ Z P2 → TI P1 P2 hb Z s.heap → (∃ mg, hb.Ns mainGlobals mg ∧ mg f = some (.ref a)) → IsFn hb f a → RepL w X s.heap ds vs →
    wpAny (model pw w) A (call (.ref a) vs) (fun v s' => (∃ h' tk, s' = { s with heap := h', toks := tk } ∧ BT (fun _ => False) P1 P2 s.heap h') ∧ TI P1 P2 hb Z s'.heap ∧ Rep w X s'.heap d v) (fun _ _ => False) s
theorem tab_ne_cell {h : Heap} {P b : Addr} {ps : Array Value} {v : Option Value} (e : h.get? P = some (tabObj ps)) (c : h.IsCell b v) : b ≠ P := fun q => by
  obtain ⟨o, e', d⟩ := c; rw [q, e] at e'; cases e'; cases d
theorem TabOk.but {Z : Addr → Prop} {f : Str} {h h' : Heap} {ps : Array Value} (x : TabOk Z f h ps) (k : ∀ c' o vs x t, h.get? c' = some o → o.data = .fields vs → vs[1]? = some (.str x t) → h'.get? c' = some o) : TabOk Z f h' ps := by
  rcases x with x | ⟨c', e, ⟨c2, o, vs, t, a1, a2, a3, a4⟩, nz, ex⟩
  · exact .inl x
  · cases a1
    have := k _ _ _ _ _ a2 a3 a4
    exact .inr ⟨c', e, ⟨c', o, vs, t, rfl, this, a3, a4⟩, nz, by rw [this]; rfl⟩
theorem builtinsAt_grow {h h' : Heap} {mg : Str → Option Value} {P : Addr} (x : h.BuiltinsAt mg P) (g : Grow h h') : h'.BuiltinsAt mg P :=
  let ⟨bm, o, a, b, c, d, e, r⟩ := x; ⟨bm, o, a, b, c, d, g _ _ e, r⟩
theorem held_ne_tab {w : World} {X : Addr → Prop} {h : Heap} {d : D} {a P : Addr} {ps : Array Value} (r : Held w X h d a) (e : h.get? P = some (tabObj ps)) : a ≠ P := fun q => by
  subst q
  cases d with
  | list l => obtain ⟨vs, ⟨n, p⟩, q⟩ := r; rw [e] at p; cases p
  | dict l => obtain ⟨f, n, ⟨o, es, ep, p, _, t, _⟩, q⟩ := r; rw [e] at p; cases p; cases t
  | _ => exact r.elim
theorem cl_lookup {cells : List (Str × Addr)} {names : List (Str × NameKind)} {x : Str} {a : Addr} (hn : (names.map (·.1)).Nodup) (hf : ∀ y ∈ names, y.2 = .free → (cells.lookup y.1).isSome = true) (hx : (x, NameKind.free) ∈ names) (ha : cells.lookup x = some a) : (clOf cells names []).lookup x = some a := by
  obtain ⟨b, hb⟩ := clOf_has (cells := cells) (cs := []) (.inl hx)
  have keys := clOf_keys (cells := cells) (names := names) (cs := []) hn List.nodup_nil (fun _ _ q => by cases q)
  have e := (clOf_mem hf hb).elim (fun z => by cases z) fun z => z.2
  rw [ha] at e; cases e
  exact lookup_of_nodupV keys hb
theorem nest_fs {f : Str} {c : SC} {w : World} {hb : Heap} {X₀ X : Addr → Prop} {env : Env} {A : Around} {s : Shared} {G : Ctx} {P : Addr} {Z : Addr → Prop} {a : Addr} {Q : Flow → Shared → Prop} (F : FS c w hb X₀ X env s.heap G) (hno : ∀ e, ¬ Has c.ns G "inner" e) (xP : X P)
    (tf : TabFor P hb Z f s.heap) (bu : ∃ mg, hb.Ns mainGlobals mg ∧ hb.BuiltinsAt mg P) (hz : ∀ b, Z b → (s.heap.get? b).isSome = true)
    {ps : Arguments} {bd : List Stmt} {sc : Scope} (hdef : pw.theDef f = some (ps, bd, sc)) (hcode : (∃ o pm doc, hb.get? a = some o ∧ o.data = .func (docDef f ps bd sc pm env.code doc)) ∧ env.qual = f ++ ".<locals>.") (hmg : ∃ mg, hb.Ns mainGlobals mg ∧ mg f = some (.ref a))
    (hk : c.sc.names.lookup ("inner" : Str) = some NameKind.cell) (hfree : ((innSc f).names.all fun x => !(x.2 == .free) || (c.sc.names.lookup x.1 == some .cell)) = true) (hd0 : (innPs f).defaults = []) (hk0 : (innPs f).kw_defaults = []) (ha : annTrees (innPs f) none env = [])
    (h : ∀ h' tk fa ci, env.cells.lookup ("inner" : Str) = some ci → (∀ b o, b ≠ P → b ≠ ci → s.heap.get? b = some o → h'.get? b = some o) → FS c w hb X₀ X env h' G → InnAt f (qualI f) (clOf env.cells (innSc f).names []) fa h' → h'.IsCell ci (some (.ref fa)) → TabFor P hb Z f h' → (∃ v, s.heap.IsCell ci v) → Q .next { s with heap := h', toks := tk }) :
    wpAny (model pw w) A (exec (.FunctionDef "inner" (innPs f) (innB f) [] none [] (innSc f) none "inner" (innPos f)) env) Q (fun _ _ => False) s := by
  obtain ⟨ci, hci⟩ := Option.isSome_iff_exists.mp (F.celled "inner" hk)
  obtain ⟨⟨xci, x0ci⟩, v0, hcell⟩ := F.cells _ _ hci
  obtain ⟨tb, hP, ht⟩ := tf.tab
  obtain ⟨mg, hg, hbu⟩ := bu
  obtain ⟨mg1, a1, o1, pm1, c1, doc1, ps1, b1, sc1, g1, g2, g3, g4, g5, C⟩ := tf.fn
  obtain ⟨⟨o, pm, doc, q1, q2⟩, hq⟩ := hcode
  obtain ⟨mg2, g6, g7⟩ := hmg
  have em := ns_fun g1 g6; subst em
  rw [g2] at g7; cases g7
  rw [g4] at q1; cases q1
  rw [hdef] at g3; cases g3
  have hcd : env.code = .ref c1 := by rw [g5] at q2; exact (congrArg (fun d => match d with | Data.func fd => fd.code | _ => Value.none) q2).symm
  have hfr : ∀ x ∈ (innSc f).names, x.2 = .free → (env.cells.lookup x.1).isSome = true := fun x hx e => by
    have := List.all_eq_true.mp hfree x hx
    rw [e] at this
    refine F.celled x.1 ?_
    simpa using this
  refine nest_step (f := f) (SC.ok_kind F) ((F.kindOf "inner").trans hk) hci hcell (closure_of hfr) F.gl (hg.keeps F.base) hcd (C.keeps F.base) hP ht (builtinsAt_grow hbu F.base) hq hz hd0 hk0 ha fun h' tk fa hs I hc ht' => ?_
  have sP : (h'.get? P).isSome = true := by obtain ⟨ps', e, _⟩ := ht'; rw [e]; rfl
  have sci : (h'.get? ci).isSome = true := by obtain ⟨o, e, _⟩ := hc; rw [e]; rfl
  refine h h' tk fa ci hci hs ?_ I hc ⟨tf.fn, ht'⟩ ⟨v0, hcell⟩
  obtain ⟨xl, m, n⟩ := F.loc
  refine F.alter (fun b => b = P ∨ b = ci) (fun b o nb e => hs b o (fun q => nb (.inl q)) (fun q => nb (.inr q)) e) (fun b q => ?_) (fun b q => ?_) (fun q => ?_) (fun y b e q => ?_) (fun x e hx b eb q => ?_) (fun x d b hx vx q => ?_)
  · rcases q with rfl | rfl
    · exact xP
    · exact xci
  · rcases q with rfl | rfl
    · exact sP
    · exact sci
  · rcases q with q | q
    · obtain ⟨o, es, ep, e, hd, _⟩ := n
      rw [q, hP] at e; cases e; cases hd
    · exact ns_ne_cell n hcell q
  · rcases q with rfl | rfl
    · obtain ⟨v, cl⟩ := (F.cells y b e).2
      exact absurd rfl (tab_ne_cell hP cl)
    · exact ⟨_, hc⟩
  · rcases q with rfl | rfl
    · obtain ⟨v, cl⟩ := (F.cells x b eb).2
      exact absurd rfl (tab_ne_cell hP cl)
    · have := name_of_addr F.apart (mem_of_lookup eb) (mem_of_lookup hci)
      subst this
      exact hno e hx
  · rcases q with rfl | rfl
    · obtain ⟨v, vv, b', e, _, _, hd⟩ := F.var x _ hx
      have := VarIs.uniq vx vv; rw [e] at this; cases this
      exact held_ne_tab hd hP rfl
    · exact F.nocell hx vx hci rfl
theorem TabFor.other {P Q : Addr} {hb h h' : Heap} {Z : Addr → Prop} {f : Str} {ci : Addr} {ps : Array Value} (x : TabFor Q hb Z f h) (hP : h.get? P = some (tabObj ps)) (hp : ps.size < 2 ∨ ∀ x t, ps[1]? ≠ some (.str x t)) (hc : ∃ v, h.IsCell ci v) (ne : Q ≠ P) (hs : ∀ b o, b ≠ P → b ≠ ci → h.get? b = some o → h'.get? b = some o) : TabFor Q hb Z f h' := by
  obtain ⟨v, cl⟩ := hc
  refine ⟨x.fn, ?_⟩
  obtain ⟨qs, e, t⟩ := x.tab
  refine ⟨qs, hs _ _ ne (Ne.symm (tab_ne_cell e cl)) e, t.but fun c' o vs y tk e1 e2 e3 => hs _ _ (fun q => ?_) (fun q => ?_) e1⟩
  · rw [q, hP] at e1; cases e1; cases e2
    rcases hp with hp | hp
    · rw [Array.getElem?_eq_none (by lia)] at e3; cases e3
    · exact hp _ _ e3
  · obtain ⟨o', e', d⟩ := cl
    rw [q, e'] at e1; cases e1; rw [d] at e2; cases e2
theorem def_d2i : pw.theDef "_digits2int" = some (psOf "_digits2int", bodyOf "_digits2int", scOf "_digits2int") := by rfl
noncomputable abbrev c_d2i : SC := ⟨scOf "_digits2int", ["digits", "n", "inner"], ["len"]⟩
theorem c_d2i_ok : c_d2i.ok = true := by decide +kernel
theorem fct_d2i {ns : List Int} {n k : Nat} (hn : n ≤ 10000) (hl : ns.length ≤ k) (hk : k ≤ 1000) (hds : ∀ d ∈ ns, 0 ≤ d ∧ d < 2 ^ n) : FCT "_digits2int" (k + 1) [.list (ns.map D.int), .int n] (.int (dv n ns)) := by
  intro w hb A X P1 P2 Z s vs a O g fr x1 x2 hz z1 z2 ti hmg fn rl
  obtain ⟨u1, u2, rfl, r1, r2⟩ := rl.two_of
  refine call_coreE (f := "_digits2int") (k := k) (vl := [.imm (.list (ns.map D.int)), .imm (.int n)]) (c := c_d2i) (more := ["inner"]) (X₀ := X) def_d2i rfl c_d2i_ok rfl rfl (fun _ _ b => b.nolimit) (fun pm cd doc vs e => by apply vs2 e; intros; rfl) rfl rfl O g fr (fun _ x => x) fn rfl (fun i v u e1 e2 => ?_) (fun i j d e u ne e1 => ?_) (fun A' X' env H1 T1 O' g1 X'old F hcode => wpQ fun Q hQ => ?_)
  · match i with
    | 0 => simp at e1 e2; subst e1; subst e2; exact r1
    | 1 => simp at e1 e2; subst e1; subst e2; exact r2
    | i + 2 => simp at e1
  · match i with
    | 0 => simp at e1
    | 1 => simp at e1
    | i + 2 => simp at e1
  have F : FS c_d2i w hb X X' env H1 [some (.imm (.list (ns.map D.int))), some (.imm (.int n)), none] := F
  have ti1 : TI P1 P2 hb Z H1 := ti.grow g1 z1 z2
  obtain ⟨mgb, hbn, bu1, bu2⟩ := ti1.bu
  have hz1 : ∀ b, Z b → (H1.get? b).isSome = true := fun b z => by obtain ⟨o, ho⟩ := Option.isSome_iff_exists.mp (hz b z); rw [g1 _ _ ho]; rfl
  have hfr : ∀ x ∈ (innSc "_digits2int").names, x.2 = .free → (env.cells.lookup x.1).isSome = true := fun x hx e => by
    have := List.all_eq_true.mp (show ((innSc "_digits2int").names.all fun x => !(x.2 == .free) || ((scOf "_digits2int").names.lookup x.1 == some .cell)) = true by decide +kernel) x hx
    rw [e] at this
    refine F.celled x.1 ?_
    simpa using this
  conv => arg 3; arg 1; whnf
  refine wpAny_execs_cons (nest_fs (f := "_digits2int") (P := P2) (Z := Z) (a := a) F (fun e q => ?_) (F.sub _ x2) ti1.t2 ⟨mgb, hbn, bu2⟩ hz1 def_d2i hcode hmg (by decide +kernel) (by decide +kernel) (by decide +kernel) (by decide +kernel) (by rfl) fun h' tk fa ci hci hs F2 I hc tf hcold => ?_)
  · exact Has.no rfl q
  obtain ⟨ps2, hP2, ht2⟩ := ti1.t2.tab
  have ti2 : TI P1 P2 hb Z h' := ⟨ti1.t1.other hP2 ht2.noStr hcold ti1.ne hs, tf, ti1.ne, ti1.bu, ti1.no⟩
  have keyn : ((innSc "_digits2int").names.map (·.1)).Nodup := by decide +kernel
  have cellOf : ∀ x e, Has c_d2i.ns [some (.imm (.list (ns.map D.int))), some (.imm (.int n)), none] x (.imm e) → c_d2i.sc.names.lookup x = some .cell → ∃ c v, env.cells.lookup x = some c ∧ h'.IsCell c (some v) ∧ Rep w X' h' e v := fun x e hx hk => by
    obtain ⟨v, vx, r⟩ := F2.var x _ hx
    rcases vx with ⟨kx, _⟩ | ⟨kx, b, la, cl⟩
    · rw [F2.kindOf x, hk] at kx; cases kx
    · exact ⟨b, v, la, cl, r⟩
  obtain ⟨cd, vd, ld, cld, rd⟩ := cellOf "digits" _ .head (by decide +kernel)
  obtain ⟨cn, vn, ln, cln, rn⟩ := cellOf "n" _ (.tail .head) (by decide +kernel)
  obtain ⟨tn, rfl⟩ := rn.int_of
  have S : St2 w (qualI "_digits2int") (clOf env.cells (innSc "_digits2int").names []) fa ns n h' := ⟨O'.base.nolimit.keeps F2.base, I,
    ⟨cd, vd, cl_lookup keyn hfr (by decide +kernel) ld, cld, Rep.weak (fun _ _ x => x.elim) _ _ rd⟩, ⟨ci, cl_lookup keyn hfr (by decide +kernel) hci, hc⟩, ⟨cn, tn, cl_lookup keyn hfr (by decide +kernel) ln, cln⟩⟩
  have hlen : (ns.map D.int).length ≤ 2 ^ 24 := by rw [List.length_map]; exact Nat.le_trans hl (Nat.le_trans hk (by decide))
  have old : ∀ b o, b ≠ P1 → b ≠ P2 → s.heap.get? b = some o → h'.get? b = some o := fun b o n1 n2 e => hs b o n2 (fun q => by
    have := (F.cells _ _ hci).1
    rw [← q] at this
    exact this.2 (X'old b (by rw [e]; rfl) this.1)) (g1 _ _ e)
  have fin : ∀ s1 : Shared, ∀ v, Keeps { s with heap := h', toks := tk } s1 → (∃ t, v = .int (dv n ns) t) → (∃ h1 t1, s1 = { s with heap := h1, toks := t1 } ∧ BT (fun _ => False) P1 P2 s.heap h1) ∧ TI P1 P2 hb Z s1.heap ∧ Rep w X s1.heap (.int (dv n ns)) v := fun s1 v k1 ⟨t, e⟩ => by
    obtain ⟨h1, t1, rfl, g3⟩ := k1
    exact ⟨⟨h1, t1, rfl, fun b o _ n1 n2 e => g3 _ _ (old b o n1 n2 e)⟩, ti2.grow g3 z1 z2, e ▸ rep_int⟩
  refine wpAny_execs_cons (wpAny_Return_some (wpAny_IfExp (wpAny_mono ((it_val (c := c_d2i) (ev_name (d := .list (ns.map D.int)) .head) (tr_list hlen)) w hb A' X X' env _ O' F2) (fun b s1 zp => ?_) fun _ _ x => x.elim)))
  obtain ⟨k1, e1⟩ := zp
  subst e1
  cases hns : ns with
  | nil =>
    simp only [List.map_nil, List.isEmpty_nil, Bool.not_true, Bool.false_eq_true, if_false]
    refine wpAny_Constant_int (hQ _ _ ⟨_, rfl, ?_⟩)
    exact fin _ _ (kT k1 (kTok s1 _)) ⟨_, by rw [hns]; rfl⟩
  | cons d0 dr =>
    have e2 : (!(ns.map D.int).isEmpty) = true := by rw [hns]; rfl
    rw [← hns]
    rw [e2]
    simp only [if_true]
    have F3 := F2.grow (kH k1)
    obtain ⟨doc, pm, cv, ctv, o, i1, i2', i3⟩ := id I
    obtain ⟨fd, i2⟩ : ∃ fd, o.data = .func fd := ⟨_, i2'⟩
    refine Call_ (wpAny_Name (wpAny_loadName_cell (SC.ok_kind F3) ((F3.kindOf "inner").trans (by decide +kernel)) hci (hc.keeps (kH k1)) ?_) (by decide +kernel)) (by rfl)
    refine callWith_function (o := o) (fd := fd) (evalArgs_all (by rfl) (wpAny_mono ((evs_cons (c := c_d2i) (k := k) ev_int (evs_cons (ev_blt ht0 .head (by decide) (evs_cons (ev_name .head) evs_nil) (bc_len_list hlen)) evs_nil)) w hb A' X X' env s1 _ O' F3) (fun vs s2 zp => ?_) fun _ _ x => x))
    obtain ⟨k2, r2⟩ := zp
    refine ⟨⟨kH (kT k1 k2) _ _ i1, i2⟩, ?_⟩
    obtain ⟨v1, v2, rfl, q1, q2⟩ := r2.two_of
    obtain ⟨t1, rfl⟩ := q1.int_of
    obtain ⟨t2, rfl⟩ := q2.int_of
    have k12 := kT k1 k2
    refine wpAny_mono (inner2 (w := w) (hb := hb) hn (by exact Nat.le_trans hl hk) hds k 0 ns.length [(0, t1), (((ns.map D.int).length : Int), t2)] A' s2 (by simp) (by rw [hns]; simp) (Nat.le_refl _) (by omega) O' (S.grow (kH k12))) (fun v s3 zp => ?_) fun _ _ x => x
    obtain ⟨k3, e3⟩ := zp
    refine hQ _ _ ⟨v, rfl, fin s3 v (kT k12 k3) ?_⟩
    rw [List.drop_zero, Nat.sub_zero, List.take_length] at e3
    exact e3
theorem TabFor.list {P Dg : Addr} {hb h h' : Heap} {Z : Addr → Prop} {f : Str} {vs : Array Value} (x : TabFor P hb Z f h) (hD : h.PlainList Dg vs) (b : But Dg h h') : TabFor P hb Z f h' := by
  obtain ⟨k, e⟩ := hD
  refine ⟨x.fn, ?_⟩
  obtain ⟨ps, ep, t⟩ := x.tab
  refine ⟨ps, b _ _ (fun q => by rw [q, e] at ep; cases ep) ep, t.but fun c' o vs y tk e1 e2 e3 => b _ _ (fun q => ?_) e1⟩
  rw [q, e] at e1; cases e1; cases e2
theorem TI.list {P1 P2 Dg : Addr} {hb h h' : Heap} {Z : Addr → Prop} {vs : Array Value} (x : TI P1 P2 hb Z h) (hD : h.PlainList Dg vs) (b : But Dg h h') : TI P1 P2 hb Z h' := ⟨x.t1.list hD b, x.t2.list hD b, x.ne, x.bu, x.no⟩
theorem lt_bits {x : Int} (h : 0 ≤ x) : x < 2 ^ (Builtin.Int.intBits x) := by
  have := (intBits_le_iff (x := x) (m := Builtin.Int.intBits x)).mp (Nat.le_refl _)
  have q : (x.natAbs : Int) < ((2 ^ Builtin.Int.intBits x : Nat) : Int) := by exact_mod_cast this
  rw [Int.natAbs_of_nonneg h] at q
  exact_mod_cast q
noncomputable def nDig (n : Nat) (x : Int) : Nat := (Builtin.Int.intBits x + n - 1) / n
theorem nDig_int {n : Nat} {x : Int} (h : 1 ≤ n) : ((Builtin.Int.intBits x : Int) + n - 1) / n = (nDig n x : Int) := by
  unfold nDig
  rw [Int.natCast_ediv]; congr 1; lia
theorem nDig_bits {n : Nat} {x : Int} (h : 1 ≤ n) : Builtin.Int.intBits x ≤ n * nDig n x := by
  unfold nDig
  have := Nat.div_add_mod (Builtin.Int.intBits x + n - 1) n
  have := Nat.mod_lt (Builtin.Int.intBits x + n - 1) (show n > 0 by lia)
  omega
theorem def_i2d : pw.theDef "_int2digits" = some (psOf "_int2digits", bodyOf "_int2digits", scOf "_int2digits") := by rfl
noncomputable abbrev c_i2d : SC := ⟨scOf "_int2digits", ["a", "n", "a_digits", "inner"], ["len"]⟩
theorem c_i2d_ok : c_i2d.ok = true := by decide +kernel
theorem fct_i2d {x : Int} {n k : Nat} (hn1 : 1 ≤ n) (hn : n ≤ 10000) (hx : 0 ≤ x) (hm : nDig n x ≤ k) (hk : k ≤ 1000) : FCT "_int2digits" (k + 1) [.int x, .int n] (.list ((dgs n x (nDig n x)).map D.int)) := by
  intro w hb A X P1 P2 Z s vs a O g fr x1 x2 hz z1 z2 ti hmg fn rl
  obtain ⟨u1, u2, rfl, r1, r2⟩ := rl.two_of
  refine call_coreE (f := "_int2digits") (k := k) (vl := [.imm (.int x), .imm (.int n)]) (c := c_i2d) (more := ["a_digits", "inner"]) (X₀ := X) def_i2d rfl c_i2d_ok rfl rfl (fun _ _ b => b.nolimit) (fun pm cd doc vs e => by apply vs2 e; intros; rfl) rfl rfl O g fr (fun _ x => x) fn rfl (fun i v u e1 e2 => ?_) (fun i j d e u ne e1 => ?_) (fun A' X' env H1 T1 O' g1 X'old F hcode => wpQ fun Q hQ => ?_)
  · match i with
    | 0 => simp at e1 e2; subst e1; subst e2; exact r1
    | 1 => simp at e1 e2; subst e1; subst e2; exact r2
    | i + 2 => simp at e1
  · match i with
    | 0 => simp at e1
    | 1 => simp at e1
    | i + 2 => simp at e1
  obtain ⟨m, em⟩ : ∃ m, m = nDig n x := ⟨_, rfl⟩
  have hdiv : ((Builtin.Int.intBits x : Int) + n - 1) / n = (m : Int) := by rw [em]; exact nDig_int hn1
  rw [← em] at hm hQ
  have F : FS c_i2d w hb X X' env H1 [some (.imm (.int x)), some (.imm (.int n)), none, none] := F
  have hfr : ∀ x ∈ (innSc "_int2digits").names, x.2 = .free → (env.cells.lookup x.1).isSome = true := fun x hx e => by
    have := List.all_eq_true.mp (show ((innSc "_int2digits").names.all fun x => !(x.2 == .free) || ((scOf "_int2digits").names.lookup x.1 == some .cell)) = true by decide +kernel) x hx
    rw [e] at this
    refine F.celled x.1 ?_
    simpa using this
  have keyn : ((innSc "_int2digits").names.map (·.1)).Nodup := by decide +kernel
  conv => arg 3; arg 1; whnf
  have hn8 : (n : Int) < 2 ^ 8000 := by
    have : (n : Int) < 2 ^ 14 := by exact Int.lt_of_le_of_lt (Int.ofNat_le.mpr hn) (by decide)
    exact Int.lt_of_lt_of_le this (pow2_le (by decide))
  have e0 : (List.replicate ((m : Int)).toNat [D.int 0]).flatten = (List.replicate m (0 : Int)).map D.int := by
    rw [Int.toNat_natCast, lm_rep_flat_one, List.map_replicate]
  refine wpAny_execs_cons (wpAny_mono ((es_assign_new (c := c_i2d) (k := k) (ds := (List.replicate m (0 : Int)).map D.int) (G' := [some (.imm (.int x)), some (.imm (.int n)), some (.own (.list ((List.replicate m (0 : Int)).map D.int))), none]) (e0 ▸ evn_repeat (m := (m : Int)) (evn_list (evs_cons ev_int evs_nil) (by decide)) (hdiv ▸ ev_bin (ev_bin (ev_bin (ev_meth (ev_name .head) evs_nil mc_bits) (ev_name (.tail .head)) bo_add) ev_int bo_sub) (ev_name (.tail .head)) (bo_div (by lia) hn8)) (by exact Int.natCast_nonneg _) (by simp; exact Nat.le_trans hm (Nat.le_trans hk (by decide))) (by exact Int.lt_of_le_of_lt (Int.ofNat_le.mpr hm) (Int.lt_of_le_of_lt (Int.ofNat_le.mpr hk) (by decide)))) (.tail (.tail .head))) w hb A' X X' env _ O' F) (fun fl s1 u => ?_) fun _ _ x => x.elim)
  obtain ⟨H2, T2, rfl, p2, rfl, X2, x2', F2⟩ := u
  dsimp only at p2 x2' F2 ⊢
  have muNew : ∀ b, (s.heap.get? b).isSome = true → ¬ Mu X' X b := fun b hb q => q.2 (X'old b hb q.1)
  have tiM : TI P1 P2 hb (fun b => Z b ∨ Mu X' X b) H1 := ti.move g1.pres (fun b hb z => z.elim id fun q => absurd q (muNew b hb)) z1 z2
  have ti1 : TI P1 P2 hb Z H2 := tiM.move (fun b o nz e => p2 b o (fun q => nz (.inr q)) e) (fun b _ z => .inl z) (fun z => z.elim z1 fun q => q.2 x1) (fun z => z.elim z2 fun q => q.2 x2)
  have old2 : ∀ b o, s.heap.get? b = some o → H2.get? b = some o := fun b o e => p2 b o (muNew b (by rw [e]; rfl)) (g1 _ _ e)
  obtain ⟨mgb, hbn, bu1, bu2⟩ := ti1.bu
  have hz1 : ∀ b, Z b → (H2.get? b).isSome = true := fun b z => by obtain ⟨o, ho⟩ := Option.isSome_iff_exists.mp (hz b z); rw [old2 _ _ ho]; rfl
  refine wpAny_execs_cons (nest_fs (f := "_int2digits") (P := P1) (Z := Z) (a := a) F2 (fun e q => ?_) (F2.sub _ x1) ti1.t1 ⟨mgb, hbn, bu1⟩ hz1 def_i2d hcode hmg (by decide +kernel) (by decide +kernel) (by decide +kernel) (by decide +kernel) (by rfl) fun h' tk fa ci hci hs F3 I hc tf hcold => ?_)
  · exact Has.no rfl q
  obtain ⟨ps1, hP1, ht1⟩ := ti1.t1.tab
  have ti3 : TI P1 P2 hb Z h' := ⟨tf, ti1.t2.other hP1 ht1.noStr hcold (Ne.symm ti1.ne) hs, ti1.ne, ti1.bu, ti1.no⟩
  have oldX : ∀ b, (s.heap.get? b).isSome = true → X2 b → X b := fun b hb q => by
    rcases x2' b q with z | z
    · exact X'old b hb z
    · obtain ⟨o, ho⟩ := Option.isSome_iff_exists.mp hb
      rw [g1 _ _ ho] at z; cases z
  obtain ⟨vD, vx, Dg, rfl, xD, x0D, hD⟩ := F3.var "a_digits" _ (.tail (.tail .head))
  have nDg : s.heap.get? Dg = Option.none := by
    cases q : s.heap.get? Dg with
    | none => rfl
    | some o => exact absurd (oldX Dg (by rw [q]; rfl) xD) x0D
  have old3 : ∀ b o, b ≠ P1 → b ≠ P2 → s.heap.get? b = some o → h'.get? b = some o := fun b o n1 n2 e => hs b o n1 (fun q => by
    have := (F2.cells _ _ hci).1
    rw [← q] at this
    exact this.2 (oldX b (by rw [e]; rfl) this.1)) (old2 _ _ e)
  have kAd : c_i2d.sc.names.lookup ("a_digits" : Str) = some NameKind.cell := by decide +kernel
  obtain ⟨ca, lca, cla⟩ : ∃ ca, env.cells.lookup ("a_digits" : Str) = some ca ∧ h'.IsCell ca (some (.ref Dg)) := by
    rcases vx with ⟨kx, _⟩ | ⟨kx, b, la, cl⟩
    · rw [F3.kindOf, kAd] at kx; cases kx
    · exact ⟨b, la, cl⟩
  have kN : c_i2d.sc.names.lookup ("n" : Str) = some NameKind.cell := by decide +kernel
  obtain ⟨cn, tn, lcn, cln⟩ : ∃ cn t, env.cells.lookup ("n" : Str) = some cn ∧ h'.IsCell cn (some (.int n t)) := by
    obtain ⟨vn, vxn, rn⟩ := F3.var "n" _ (.tail .head)
    obtain ⟨t, rfl⟩ := (show Rep w X2 h' (.int n) vn from rn).int_of
    rcases vxn with ⟨kx, _⟩ | ⟨kx, b, la, cl⟩
    · rw [F3.kindOf, kN] at kx; cases kx
    · exact ⟨b, t, la, cl⟩
  have S : St1 w (qualI "_int2digits") (clOf env.cells (innSc "_int2digits").names []) fa Dg n h' := ⟨O'.base.nolimit.keeps F3.base, I, ⟨ca, cl_lookup keyn hfr (by decide +kernel) lca, cla⟩, ⟨ci, cl_lookup keyn hfr (by decide +kernel) hci, hc⟩, ⟨cn, tn, cl_lookup keyn hfr (by decide +kernel) lcn, cln⟩⟩
  have fin : ∀ (h9 : Heap) (t9 : Tok) (ds : List Int), (∀ b o, b ≠ P1 → b ≠ P2 → s.heap.get? b = some o → h9.get? b = some o) → TI P1 P2 hb Z h9 → Held w (fun _ => False) h9 (.list (ds.map D.int)) Dg →
      (∃ h1 t1, ({ s with heap := h9, toks := t9 } : Shared) = { s with heap := h1, toks := t1 } ∧ BT (fun _ => False) P1 P2 s.heap h1) ∧ TI P1 P2 hb Z h9 ∧ Rep w X h9 (.list (ds.map D.int)) (.ref Dg) := fun h9 t9 ds o9 ti9 H => by
    obtain ⟨us, pl, rl⟩ := H
    refine ⟨⟨h9, t9, rfl, fun b o _ n1 n2 e => o9 b o n1 n2 e⟩, ti9, ?_⟩
    simp only [Rep]
    exact ⟨Dg, us, rfl, x0D, pl, repL_ints rl⟩
  obtain ⟨us0, pl0, rl0⟩ := id hD
  have H0 : Held w (fun _ => False) h' (.list ((List.replicate m (0 : Int)).map D.int)) Dg := ⟨us0, pl0, repL_ints rl0⟩
  have int0 : interactive env = false := SC.ok_inter F3
  refine wpAny_execs_cons (wpAny_If (wpAny_mono ((it_val (c := c_i2d) (ev_name (d := .int x) .head) tr_int) w hb A' X X2 env _ O' F3) (fun b s4 zp => ?_) fun _ _ x => x.elim))
  obtain ⟨k4, e4⟩ := zp
  subst e4
  obtain ⟨H4, T4, rfl, g4⟩ := id k4
  dsimp only at g4
  have F4 := F3.grow g4
  by_cases hx0 : x = 0
  · subst hx0
    simp only [decide_true, Bool.not_true, Bool.false_eq_true, if_false]
    refine wpAny_execs_nil ?_
    refine wpAny_execs_cons (wpAny_Return_some (wpAny_Name (wpAny_loadName_cell (SC.ok_kind F4) ((F4.kindOf "a_digits").trans kAd) lca (cla.keeps g4) (hQ _ _ ⟨_, rfl, ?_⟩)) (by decide +kernel)))
    have hm0 : m = 0 := by
      rw [em]; unfold nDig
      rw [show Builtin.Int.intBits 0 = 0 by decide]
      exact Nat.div_eq_of_lt (by omega)
    rw [show dgs n 0 m = List.replicate m (0 : Int) by rw [hm0]; rfl]
    exact fin H4 T4 _ (fun b o n1 n2 e => g4 _ _ (old3 b o n1 n2 e)) (ti3.grow g4 z1 z2) ⟨us0, let ⟨n, e⟩ := pl0; ⟨n, g4 _ _ e⟩, repL_ints rl0⟩
  · rw [decide_eq_false hx0]
    simp only [Bool.not_false, if_true]
    obtain ⟨doc, pm, cv, ctv, o, i1, i2', i3⟩ := id I
    obtain ⟨fd, i2⟩ : ∃ fd, o.data = .func fd := ⟨_, i2'⟩
    have hlen : ((List.replicate m (0 : Int)).map D.int).length ≤ 2 ^ 24 := by simp; exact Nat.le_trans hm (Nat.le_trans hk (by decide))
    refine wpAny_execs_cons (wpAny_Expr (Call_ (wpAny_Name (wpAny_loadName_cell (SC.ok_kind F4) ((F4.kindOf "inner").trans (by decide +kernel)) hci (hc.keeps g4) ?_) (by decide +kernel)) (by rfl)) int0 (by rfl))
    refine callWith_function (o := o) (fd := fd) (evalArgs_all (by rfl) (wpAny_mono ((evs_cons (c := c_i2d) (k := k) (ev_name .head) (evs_cons ev_int (evs_cons (ev_view (.tail (.tail .head)) (.tail (.tail .head)) (ev_blt ht0 .head (by decide) (evs_cons (ev_name (.tail (.tail .head))) evs_nil) (bc_len_list hlen))) evs_nil))) w hb A' X X2 env _ _ O' F4) (fun vs s5 zp => ?_) fun _ _ x => x))
    obtain ⟨k5, r5⟩ := zp
    obtain ⟨H5, T5, rfl, g5⟩ := id k5
    dsimp only at g5 r5
    have g45 : Grow h' H5 := fun b o e => g5 _ _ (g4 _ _ e)
    refine ⟨⟨g45 _ _ i1, i2⟩, ?_⟩
    obtain ⟨v1, v2, v3, rfl, q1, q2, q3⟩ := r5.three_of
    obtain ⟨t1, rfl⟩ := q1.int_of
    obtain ⟨t2, rfl⟩ := q2.int_of
    obtain ⟨t3, rfl⟩ := q3.int_of
    have H5' : Held w (fun _ => False) H5 (.list ((List.replicate m (0 : Int)).map D.int)) Dg := ⟨us0, let ⟨n, e⟩ := pl0; ⟨n, g45 _ _ e⟩, repL_ints rl0⟩
    have pl5 : H5.PlainList Dg us0.toArray := let ⟨n, e⟩ := pl0; ⟨n, g45 _ _ e⟩
    have hxb : x < 2 ^ (n * m) := Int.lt_of_lt_of_le (lt_bits hx) (pow2_le (by rw [em]; exact nDig_bits hn1))
    have hm1 : 0 < m := by
      rcases Nat.eq_zero_or_pos m with q | q
      · rw [q, Nat.mul_zero] at hxb; simp at hxb; lia
      · exact q
    refine wpAny_mono (inner1 (w := w) (hb := hb) hn k x 0 m [(x, t1), (0, t2), ((((List.replicate m (0 : Int)).map D.int).length : Int), t3)] (List.replicate m 0) A' _ (by simp) hm1 (by simp) (by simp; exact Nat.le_trans hm hk) (by omega) hx (by rw [Nat.sub_zero]; exact hxb) O' (S.grow g45) H5') (fun v s6 zp => ?_) fun _ _ x => x.elim
    obtain ⟨ev, h6, t6, e6, b6, H6⟩ := zp
    subst ev; subst e6
    dsimp only at b6 ⊢
    refine wpAny_execs_nil ?_
    have cl6 : h6.IsCell ca (some (.ref Dg)) := by
      obtain ⟨o, e1, e2⟩ := cla.keeps g45
      exact ⟨o, b6 _ _ (fun q => seq_ne_cell pl5 ⟨o, e1, e2⟩ q.symm) e1, e2⟩
    refine wpAny_execs_cons (wpAny_Return_some (wpAny_Name (wpAny_loadName_cell (SC.ok_kind F4) ((F4.kindOf "a_digits").trans kAd) lca cl6 (hQ _ _ ⟨_, rfl, ?_⟩)) (by decide +kernel)))
    have e7 : (List.replicate m (0 : Int)).take 0 ++ dgs n x (m - 0) ++ (List.replicate m (0 : Int)).drop m = dgs n x m := by simp
    rw [e7] at H6
    exact fin h6 t6 _ (fun b o n1 n2 e => b6 b o (fun q => by rw [q, nDg] at e; cases e) (g45 _ _ (old3 b o n1 n2 e))) ((ti3.grow g45 z1 z2).list pl5 b6) H6
structure TP (P1 P2 : Addr) (Z : Addr → Prop) (hb : Heap) (X₀ X : Addr → Prop) (h : Heap) : Prop where
  x1 : X₀ P1
  x2 : X₀ P2
  z : ∀ b, Z b → (h.get? b).isSome = true ∧ ¬ Mu X X₀ b
  z1 : ¬ Z P1
  z2 : ¬ Z P2
  ti : TI P1 P2 hb (fun b => Z b ∨ Mu X X₀ b) h
noncomputable abbrev BT0 (P1 P2 : Addr) (h h' : Heap) : Prop := BT (fun _ => False) P1 P2 h h'
section
variable {c : SC} {k : Nat} {G G1 G2 G' : Ctx} {w : World} {hb h h' h'' : Heap} {X₀ X X' : Addr → Prop} {env : Env} {P1 P2 : Addr} {Z : Addr → Prop}
theorem TP.n1 (t : TP P1 P2 Z hb X₀ X h) : ¬ (Z P1 ∨ Mu X X₀ P1) := fun q => q.elim t.z1 fun q => q.2 t.x1
theorem TP.n2 (t : TP P1 P2 Z hb X₀ X h) : ¬ (Z P2 ∨ Mu X X₀ P2) := fun q => q.elim t.z2 fun q => q.2 t.x2
theorem TP.grow (t : TP P1 P2 Z hb X₀ X h) (g : Grow h h') : TP P1 P2 Z hb X₀ X h' :=
  ⟨t.x1, t.x2, fun b q => ⟨by obtain ⟨o, ho⟩ := Option.isSome_iff_exists.mp (t.z b q).1; rw [g _ _ ho]; rfl, (t.z b q).2⟩, t.z1, t.z2, t.ti.grow g t.n1 t.n2⟩
theorem TP.pres (t : TP P1 P2 Z hb X₀ X h) (p : Pres (Mu X X₀) h h') (a : ∀ a, X' a → X a ∨ h.get? a = Option.none) : TP P1 P2 Z hb X₀ X' h' := by
  refine ⟨t.x1, t.x2, fun b q => ⟨?_, fun m => ?_⟩, t.z1, t.z2, t.ti.move (fun b o nz e => p b o (fun q => nz (.inr q)) e) (fun b hb' q => ?_) t.n1 t.n2⟩
  · obtain ⟨o, ho⟩ := Option.isSome_iff_exists.mp (t.z b q).1
    rw [p b o (t.z b q).2 ho]; rfl
  · rcases a b m.1 with q' | q'
    · exact (t.z b q).2 ⟨q', m.2⟩
    · have := (t.z b q).1; rw [q'] at this; cases this
  · rcases q with q | q
    · exact .inl q
    · rcases a b q.1 with q' | q'
      · exact .inr ⟨q', q.2⟩
      · rw [q'] at hb'; cases hb'
theorem TP.bt (t : TP P1 P2 Z hb X₀ X h) (ti : TI P1 P2 hb (fun b => Z b ∨ Mu X X₀ b) h') (b : BT0 P1 P2 h h') : TP P1 P2 Z hb X₀ X h' := by
  refine ⟨t.x1, t.x2, fun a q => ⟨?_, (t.z a q).2⟩, t.z1, t.z2, ti⟩
  obtain ⟨o, ho⟩ := Option.isSome_iff_exists.mp (t.z a q).1
  have n1 : a ≠ P1 := fun e => t.z1 (e ▸ q)
  have n2 : a ≠ P2 := fun e => t.z2 (e ▸ q)
  rw [b a o (fun x => x) n1 n2 ho]; rfl
theorem TI.some1 {Z : Addr → Prop} (t : TI P1 P2 hb Z h) : (h.get? P1).isSome = true ∧ (h.get? P2).isSome = true := by
  obtain ⟨p, a, _⟩ := t.t1.tab
  obtain ⟨q, b, _⟩ := t.t2.tab
  exact ⟨by rw [a]; rfl, by rw [b]; rfl⟩
theorem FS.bt (F : FS c w hb X₀ X env h G) (t : TP P1 P2 Z hb X₀ X h) (ti : TI P1 P2 hb Z' h') (b : BT0 P1 P2 h h') : FS c w hb X₀ X env h' G := by
  have in0 : ∀ a, (a = P1 ∨ a = P2) → X₀ a := fun a q => q.elim (fun e => e ▸ t.x1) (fun e => e ▸ t.x2)
  refine F.alter (fun a => a = P1 ∨ a = P2) (fun a o n e => b a o (fun x => x) (fun q => n (.inl q)) (fun q => n (.inr q)) e) (fun a q => F.sub a (in0 a q)) (fun a q => ?_) (fun q => F.loc.1.2 (in0 _ q)) (fun y a e q => absurd (in0 a q) (F.cells y a e).1.2) (fun x e hx a ea q => (F.cells x a ea).1.2 (in0 a q)) (fun x d a hx vx q => ?_)
  · rcases q with rfl | rfl
    · exact ti.some1.1
    · exact ti.some1.2
  · obtain ⟨v, vv, a', e, _, x0, _⟩ := F.var x _ hx
    have := VarIs.uniq vx vv; rw [e] at this; cases this
    exact x0 (in0 _ q)
theorem BT0.pres (b : BT0 P1 P2 h h') (x1 : X P1) (x2 : X P2) : Pres X h h' := fun a o nx e => b a o (fun x => x) (fun q => nx (q ▸ x1)) (fun q => nx (q ▸ x2)) e
theorem BT0.of (g : Grow h h') : BT0 P1 P2 h h' := fun b o _ _ _ e => g b o e
theorem BT0.trans (a : BT0 P1 P2 h h') (b : BT0 P1 P2 h' h'') : BT0 P1 P2 h h'' := fun x o _ n1 n2 e => b x o (fun q => q) n1 n2 (a x o (fun q => q) n1 n2 e)
end
noncomputable def KT (P1 P2 : Addr) (Z : Addr → Prop) (hb : Heap) (X₀ X : Addr → Prop) (s s' : Shared) : Prop := (∃ h' tk, s' = { s with heap := h', toks := tk } ∧ BT0 P1 P2 s.heap h') ∧ TP P1 P2 Z hb X₀ X s'.heap
noncomputable def EVT (c : SC) (k : Nat) (G : Ctx) (e : Expr) (d : D) : Prop :=
  ∀ (w : World) (hb : Heap) (A : Around) (X₀ X : Addr → Prop) (env : Env) (s : Shared) (P1 P2 : Addr) (Z : Addr → Prop), Ok w hb A k → FS c w hb X₀ X env s.heap G → TP P1 P2 Z hb X₀ X s.heap →
    wpAny (model pw w) A (eval e env) (fun v s' => KT P1 P2 Z hb X₀ X s s' ∧ Rep w X s'.heap d v) (fun _ _ => False) s
noncomputable def UPTR (c : SC) (w : World) (hb : Heap) (X₀ X : Addr → Prop) (env : Env) (P1 P2 : Addr) (Z : Addr → Prop) (h : Heap) (fl : Flow) (h' : Heap) : Out → Prop
  | .next G' => fl = .next ∧ ∃ X' : Addr → Prop, (∀ a, X' a → X a ∨ h.get? a = Option.none) ∧ FS c w hb X₀ X' env h' G' ∧ TP P1 P2 Z hb X₀ X' h'
  | .ret d => ∃ v, fl = .ret v ∧ Rep w X₀ h' d v ∧ TI P1 P2 hb Z h'
inductive UPT (c : SC) (w : World) (hb : Heap) (X₀ X : Addr → Prop) (env : Env) (P1 P2 : Addr) (Z : Addr → Prop) (s : Shared) (o : Out) (fl : Flow) (s' : Shared) : Prop
  | mk (h' : Heap) (tk : Tok) (e : s' = { s with heap := h', toks := tk }) (p : BT (Mu X X₀) P1 P2 s.heap h') (r : UPTR c w hb X₀ X env P1 P2 Z s.heap fl h' o)
noncomputable def EST (c : SC) (k : Nat) (G : Ctx) (st : Stmt) (o : Out) : Prop :=
  ∀ (w : World) (hb : Heap) (A : Around) (X₀ X : Addr → Prop) (env : Env) (s : Shared) (P1 P2 : Addr) (Z : Addr → Prop), Ok w hb A k → FS c w hb X₀ X env s.heap G → TP P1 P2 Z hb X₀ X s.heap →
    wpAny (model pw w) A (exec st env) (UPT c w hb X₀ X env P1 P2 Z s o) (fun _ _ => False) s
noncomputable def EXT (c : SC) (k : Nat) (G : Ctx) (ss : List Stmt) (o : Out) : Prop :=
  ∀ (w : World) (hb : Heap) (A : Around) (X₀ X : Addr → Prop) (env : Env) (s : Shared) (P1 P2 : Addr) (Z : Addr → Prop), Ok w hb A k → FS c w hb X₀ X env s.heap G → TP P1 P2 Z hb X₀ X s.heap →
    wpAny (model pw w) A (execs ss env) (UPT c w hb X₀ X env P1 P2 Z s o) (fun _ _ => False) s
section
variable {c : SC} {k : Nat} {G G1 G2 G' : Ctx}
theorem KT.refl {P1 P2 : Addr} {Z : Addr → Prop} {hb : Heap} {X₀ X : Addr → Prop} {s s' : Shared} (t : TP P1 P2 Z hb X₀ X s.heap) (kp : Keeps s s') : KT P1 P2 Z hb X₀ X s s' := by
  obtain ⟨h, tk, rfl, g⟩ := kp
  exact ⟨⟨h, tk, rfl, BT0.of g⟩, t.grow g⟩
theorem KT.trans {P1 P2 : Addr} {Z : Addr → Prop} {hb : Heap} {X₀ X : Addr → Prop} {s s' s'' : Shared} (a : KT P1 P2 Z hb X₀ X s s') (b : KT P1 P2 Z hb X₀ X s' s'') : KT P1 P2 Z hb X₀ X s s'' := by
  obtain ⟨⟨h, tk, rfl, g⟩, t⟩ := a
  obtain ⟨⟨h', tk', rfl, g'⟩, t'⟩ := b
  exact ⟨⟨h', tk', rfl, g.trans g'⟩, t'⟩
theorem KT.fs {w : World} {hb : Heap} {X₀ X : Addr → Prop} {env : Env} {P1 P2 : Addr} {Z : Addr → Prop} {s s' : Shared} (a : KT P1 P2 Z hb X₀ X s s') (F : FS c w hb X₀ X env s.heap G) (t : TP P1 P2 Z hb X₀ X s.heap) : FS c w hb X₀ X env s'.heap G := by
  obtain ⟨⟨h, tk, rfl, g⟩, t'⟩ := a
  exact F.bt t t'.ti g
theorem KT.pres {w : World} {hb : Heap} {X₀ X : Addr → Prop} {env : Env} {P1 P2 : Addr} {Z : Addr → Prop} {s s' : Shared} (a : KT P1 P2 Z hb X₀ X s s') (F : FS c w hb X₀ X env s.heap G) (t : TP P1 P2 Z hb X₀ X s.heap) : Pres X s.heap s'.heap := by
  obtain ⟨⟨h, tk, rfl, g⟩, t'⟩ := a
  exact g.pres (F.sub _ t.x1) (F.sub _ t.x2)
theorem evt_of {e : Expr} {d : D} (h : EV c k G e d) : EVT c k G e d := fun w hb A X₀ X env s P1 P2 Z O F t =>
  wpAny_mono (h w hb A X₀ X env s O F) (fun v s' ⟨k1, r⟩ => ⟨KT.refl t k1, r⟩) fun _ _ x => x
theorem UPT.of {w : World} {hb : Heap} {X₀ X : Addr → Prop} {env : Env} {P1 P2 : Addr} {Z : Addr → Prop} {s s' : Shared} {o : Out} {fl : Flow} (t : TP P1 P2 Z hb X₀ X s.heap) (u : UP c w hb X₀ X env s o fl s') : UPT c w hb X₀ X env P1 P2 Z s o fl s' := by
  obtain ⟨h', tk, rfl, p, r⟩ := u
  refine ⟨h', tk, rfl, fun b o nz _ _ e => p b o nz e, ?_⟩
  cases o with
  | next G' =>
    obtain ⟨e, X', a, F⟩ := r
    exact ⟨e, X', a, F, t.pres p a⟩
  | ret d =>
    obtain ⟨v, e, r⟩ := r
    exact ⟨v, e, r, t.ti.move (fun b o nz e => p b o (fun q => nz (.inr q)) e) (fun b _ q => .inl q) t.n1 t.n2⟩
theorem est_of {st : Stmt} {o : Out} (h : ES c k G st o) : EST c k G st o := fun w hb A X₀ X env s P1 P2 Z O F t => wpAny_mono (h w hb A X₀ X env s O F) (fun _ _ u => UPT.of t u) fun _ _ x => x
theorem ext_of {ss : List Stmt} {o : Out} (h : EX c k G ss o) : EXT c k G ss o := fun w hb A X₀ X env s P1 P2 Z O F t => wpAny_mono (h w hb A X₀ X env s O F) (fun _ _ u => UPT.of t u) fun _ _ x => x
theorem UPT.trans {w : World} {hb : Heap} {X₀ X X1 : Addr → Prop} {env : Env} {P1 P2 : Addr} {Z : Addr → Prop} {s : Shared} {h1 : Heap} {tk : Nat} {o : Out} {fl : Flow} {s' : Shared} (p : BT (Mu X X₀) P1 P2 s.heap h1) (a : ∀ a, X1 a → X a ∨ s.heap.get? a = Option.none)
    (u : UPT c w hb X₀ X1 env P1 P2 Z { s with heap := h1, toks := tk } o fl s') (s1 : (s.heap.get? P1).isSome = true) (s2 : (s.heap.get? P2).isSome = true) (x1 : X₀ P1) (x2 : X₀ P2) (t1 : (h1.get? P1).isSome = true) (t2 : (h1.get? P2).isSome = true) : UPT c w hb X₀ X env P1 P2 Z s o fl s' := by
  obtain ⟨h', t', rfl, pr, r⟩ := u
  refine ⟨h', t', rfl, fun b o nm n1 n2 e => pr b o (fun q => ?_) n1 n2 (p b o nm n1 n2 e), ?_⟩
  · rcases a b q.1 with z | z
    · exact nm ⟨z, q.2⟩
    · rw [z] at e; cases e
  · cases o with
    | next G' =>
      obtain ⟨e, X', b, F, t⟩ := r
      refine ⟨e, X', fun x hx => ?_, F, t⟩
      rcases b x hx with q | q
      · exact a x q
      · cases e : s.heap.get? x with
        | none => exact .inr rfl
        | some o =>
          by_cases xx : X x
          · exact .inl xx
          · dsimp only at q
            by_cases e1 : x = P1
            · subst e1; rw [q] at t1; cases t1
            · by_cases e2 : x = P2
              · subst e2; rw [q] at t2; cases t2
              · rw [p x o (fun z => xx z.1) e1 e2 e] at q; cases q
    | ret d => exact r
theorem ext_nil : EXT c k G [] (.next G) := ext_of ex_nil
theorem ext_cons {st : Stmt} {rest : List Stmt} {o : Out} (h1 : EST c k G st (.next G1)) (h2 : EXT c k G1 rest o) : EXT c k G (st :: rest) o := fun w hb A X₀ X env s P1 P2 Z O F t =>
  wpAny_execs_cons (wpAny_mono (h1 w hb A X₀ X env s P1 P2 Z O F t) (fun fl s' u => by
    obtain ⟨h', tk, rfl, pr, rfl, X', a, F', t'⟩ := u
    exact wpAny_mono (h2 w hb A X₀ X' env _ P1 P2 Z O F' t') (fun fl s'' u => UPT.trans pr a u t.ti.some1.1 t.ti.some1.2 t.x1 t.x2 t'.ti.some1.1 t'.ti.some1.2) fun _ _ x => x) fun _ _ x => x.elim)
theorem ext_conse {st : Stmt} {rest : List Stmt} {o : Out} (h1 : ES c k G st (.next G1)) (h2 : EXT c k G1 rest o) : EXT c k G (st :: rest) o := ext_cons (est_of h1) h2
theorem ext_ret {st : Stmt} {rest : List Stmt} {d : D} (h1 : EST c k G st (.ret d)) : EXT c k G (st :: rest) (.ret d) := fun w hb A X₀ X env s P1 P2 Z O F t =>
  wpAny_execs_cons (wpAny_mono (h1 w hb A X₀ X env s P1 P2 Z O F t) (fun fl s' u => by
    obtain ⟨h', tk, rfl, pr, v, rfl, r⟩ := u
    exact ⟨h', tk, rfl, pr, v, rfl, r⟩) fun _ _ x => x.elim)
theorem ext_less {ss : List Stmt} {o : Out} (l : Less G1 G) (h : EXT c k G1 ss o) : EXT c k G ss o := fun w hb A X₀ X env s P1 P2 Z O F t => h w hb A X₀ X env s P1 P2 Z O (F.less l) t
theorem Rep.down {w : World} {X Y : Addr → Prop} {h : Heap} {d : D} {v : Value} (r : Rep w X h d v) (s : ∀ a, Y a → X a) : Rep w Y h d v := Rep.weak (fun a _ y => s a y) d v r
theorem KT.up {w : World} {hb : Heap} {X₀ X : Addr → Prop} {P1 P2 : Addr} {Z : Addr → Prop} {s s' : Shared} (a : KT P1 P2 Z hb X₀ X s s') : ∃ h' tk, s' = { s with heap := h', toks := tk } ∧ BT (Mu X X₀) P1 P2 s.heap h' ∧ TP P1 P2 Z hb X₀ X h' := by
  obtain ⟨⟨h, tk, rfl, g⟩, t⟩ := a
  exact ⟨h, tk, rfl, fun b o _ n1 n2 e => g b o (fun x => x) n1 n2 e, t⟩
theorem est_return {e : Expr} {pos : Pos} {d : D} (h : EVT c k G e d) : EST c k G (.Return (some e) pos) (.ret d) := fun w hb A X₀ X env s P1 P2 Z O F t =>
  wpAny_Return_some (wpAny_mono (h w hb A X₀ X env s P1 P2 Z O F t) (fun v s' ⟨k1, r⟩ => by
    obtain ⟨h', tk, rfl, g, t'⟩ := k1.up (w := w)
    exact ⟨h', tk, rfl, g, v, rfl, r.down F.sub, t'.ti.weak (fun b _ q => .inl q) t'.n1 t'.n2⟩) fun _ _ x => x)
theorem est_assign {x : Str} {e : Expr} {p pos : Pos} {d : D} {G' : Ctx} (h : EVT c k G e d) (q : Put c.ns G x (.imm d) G') (hs : NoSwap e := by intro _ _ _; rfl) : EST c k G (.Assign [.Name x p] e pos) (.next G') := fun w hb A X₀ X env s P1 P2 Z O F t =>
  wpAny_Assign_Name (wpAny_mono (h w hb A X₀ X env s P1 P2 Z O F t) (fun v s1 ⟨k1, r⟩ => by
    have F1 := k1.fs F t
    obtain ⟨h1, tk, rfl, g, t1⟩ := k1.up (w := w)
    refine wp_store F1 q r (fun l e => by cases e) fun h' tk' F' pr _ _ _ => ⟨h', tk', rfl, fun b o nm n1 n2 e => pr b o nm (g b o nm n1 n2 e), rfl, X, fun _ x => .inl x, F', t1.pres pr fun _ x => .inl x⟩) fun _ _ x => x.elim) (hs _ _ _)
theorem est_assign_tup {ts : List Expr} {n : Nat} {tp pos : Pos} {e : Expr} {ds : List D} {G2 : Ctx} (he : EVT c k G e (.tup ds)) (h : ASS c k G ts ds G2) (hs : NoSwap e := by intro _ _ _; rfl)
    (hw : ∀ env, env.scope = c.sc → swappedStores [.Tuple ts n tp] e env = pure Option.none) : EST c k G (.Assign [.Tuple ts n tp] e pos) (.next G2) := fun w hb A X₀ X env s P1 P2 Z O F t =>
  Assign_Tuple (wpAny_mono (he w hb A X₀ X env s P1 P2 Z O F t) (fun v s1 ⟨k1, r⟩ => by
    have F1 := k1.fs F t
    obtain ⟨h1, tk, rfl, g, t1⟩ := k1.up (w := w)
    exact wpAny_mono (as_tup h w hb A X₀ X env _ v O F1 r) (fun _ s' ⟨h', tk', e, pr, F'⟩ => ⟨h', tk', by rw [e], fun b o nm n1 n2 e => pr b o nm (g b o nm n1 n2 e), rfl, X, fun _ x => .inl x, F', t1.pres pr fun _ x => .inl x⟩) fun _ _ x => x) fun _ _ x => x.elim) (hs (some (.Tuple ts n tp)) pos.line env) (hw env F.sc)
theorem evt_call {f : Str} {p pos : Pos} {args : List Expr} {ds : List D} {d : D} (m : In c.gs f) (mf : f ∈ Fns) (ha : EVS c k G args ds) (hc : FCT f k ds d) (hp : Plain args := by intro _ _; rfl)
    (he : ∀ env, eval (.Call (.Name f p) args [] pos) env = (do callWith pos (← eval (.Name f p) env) [] (backTo pos (starEach args env)) (backToKw pos (keywordEach [] env))) := by intro _; rfl) :
    EVT c k G (.Call (.Name f p) args [] pos) d := fun w hb A X₀ X env s P1 P2 Z O F t => by
  obtain ⟨mg, mb, T⟩ := O.base.tops
  obtain ⟨a, hv, fn⟩ := T.fn f mf
  obtain ⟨o, pm, cd, doc, ps, b, sc, h1, h2, h3, h4⟩ := id fn
  refine Call_ (wp_fn F m T.g hv ?_) (he env)
  refine callWith_function (o := o) (fd := docDef f ps b sc pm cd doc) (evalArgs_all (hp env pos) (wpAny_mono (ha w hb A X₀ X env s pos O F) (fun vs s₁ zp => ?_) fun _ _ x => x))
  obtain ⟨k1, r1⟩ := zp
  have F1 := F.grow (kH k1)
  have t1 := t.grow (kH k1)
  refine ⟨⟨F1.base _ _ h2, h3⟩, wpAny_mono (hc w hb A X P1 P2 (fun b => Z b ∨ Mu X X₀ b) s₁ vs a O F1.base F1.fresh (F1.sub _ t1.x1) (F1.sub _ t1.x2) (fun b q => q.elim (fun q => (t1.z b q).1) fun q => (F1.fresh b q.1).1) t1.n1 t1.n2 t1.ti ⟨mg, T.g, hv⟩ fn r1) (fun v s₂ zp => ?_) fun _ _ x => x⟩
  obtain ⟨k2, ti2, r2⟩ := zp
  obtain ⟨h2', tk2, rfl, b2⟩ := k2
  exact ⟨(KT.refl t k1).trans ⟨⟨h2', tk2, rfl, b2⟩, t1.bt ti2 b2⟩, r2⟩
theorem evt_two {w : World} {hb : Heap} {A : Around} {X₀ X : Addr → Prop} {env : Env} {s : Shared} {P1 P2 : Addr} {Z : Addr → Prop} {l r : Expr} {d e : D} {Q : Value → Shared → Prop} {E : Value → Shared → Prop} (O : Ok w hb A k) (F : FS c w hb X₀ X env s.heap G) (t : TP P1 P2 Z hb X₀ X s.heap)
    (hl : EVT c k G l d) (hr : EVT c k G r e) {f : Value → Value → Sem Value}
    (h : ∀ u v s', KT P1 P2 Z hb X₀ X s s' → Rep w X s'.heap d u → Rep w X s'.heap e v → wpAny (model pw w) A (f u v) Q E s') :
    wpAny (model pw w) A (eval l env) (fun a s₁ => wpAny (model pw w) A (eval r env) (fun b s₂ => wpAny (model pw w) A (f a b) Q E s₂) E s₁) E s :=
  wpAny_mono (hl w hb A X₀ X env s P1 P2 Z O F t) (fun u s₁ ⟨k1, r1⟩ => wpAny_mono (hr w hb A X₀ X env s₁ P1 P2 Z O (k1.fs F t) k1.2) (fun v s₂ ⟨k2, r2⟩ =>
    h u v s₂ (k1.trans k2) (Rep.pres (k2.pres (k1.fs F t) k1.2) _ _ r1) r2) fun _ _ x => x.elim) fun _ _ x => x.elim
noncomputable def ITT (c : SC) (k : Nat) (G : Ctx) (e : Expr) (b : Bool) : Prop :=
  ∀ (w : World) (hb : Heap) (A : Around) (X₀ X : Addr → Prop) (env : Env) (s : Shared) (P1 P2 : Addr) (Z : Addr → Prop), Ok w hb A k → FS c w hb X₀ X env s.heap G → TP P1 P2 Z hb X₀ X s.heap →
    wpAny (model pw w) A (isTrue e env (eval e env)) (fun v s' => KT P1 P2 Z hb X₀ X s s' ∧ v = b) (fun _ _ => False) s
theorem itt_of {e : Expr} {b : Bool} (h : IT c k G e b) : ITT c k G e b := fun w hb A X₀ X env s P1 P2 Z O F t =>
  wpAny_mono (h w hb A X₀ X env s O F) (fun v s' ⟨k1, r⟩ => ⟨KT.refl t k1, r⟩) fun _ _ x => x
theorem itt_cmp {l r : Expr} {op : CmpOp} {pos : Pos} {d e : D} {b : Bool} (hl : EVT c k G l d) (hr : EVT c k G r e) (co : CO op d e b) (hm : behindInMarks op r = false := by with_unfolding_all rfl) : ITT c k G (.Compare l [op] [r] pos) b :=
  fun w hb A X₀ X env s P1 P2 Z O F t => wpAny_isTrue_Compare1 (evt_two O F t hl hr fun u v s' kp ru rv => wpAny_mono (co w hb A X s' u v k O ru rv) (fun _ _ ⟨k2, r2⟩ => by
    subst r2; exact wpAny_truthy_bool ⟨kp.trans (KT.refl kp.2 k2), rfl⟩) fun _ _ x => x) hm
theorem itt_or2 {x y : Expr} {pos : Pos} {a b : Bool} (hx : ITT c k G x a) (hy : a = false → ITT c k G y b) : ITT c k G (.BoolOp .Or [x, y] pos) (a || b) := fun w hb A X₀ X env s P1 P2 Z O F t =>
  wpAny_isTrue_BoolOp (wpAny_allTrue_Or_cons (wpAny_mono (hx w hb A X₀ X env s P1 P2 Z O F t) (fun v s₁ ⟨k1, r1⟩ => by
    subst r1
    cases v
    · refine wpAny_allTrue_Or_cons (wpAny_mono (hy rfl w hb A X₀ X env s₁ P1 P2 Z O (k1.fs F t) k1.2) (fun v s₂ zp => ?_) fun _ _ x => x.elim)
      obtain ⟨k2, r2⟩ := zp
      subst r2
      cases v
      · exact wpAny_allTrue_Or_nil ⟨k1.trans k2, rfl⟩
      · exact ⟨k1.trans k2, rfl⟩
    · exact ⟨k1, rfl⟩) fun _ _ x => x.elim))
theorem est_if {t : Expr} {a b : List Stmt} {pos : Pos} {v : Bool} {o : Out} (ht : ITT c k G t v) (ha : v = true → EXT c k G a o) (hb : v = false → EXT c k G b o) : EST c k G (.If t a b pos) o := fun w hb' A X₀ X env s P1 P2 Z O F t =>
  wpAny_If (wpAny_mono (ht w hb' A X₀ X env s P1 P2 Z O F t) (fun u s1 ⟨k1, e⟩ => by
    subst e
    have F1 := k1.fs F t
    obtain ⟨h', tk, rfl, g, t'⟩ := k1.up (w := w)
    cases u
    · exact wpAny_mono (hb rfl w hb' A X₀ X env _ P1 P2 Z O F1 t') (fun fl s'' u => UPT.trans g (fun _ x => .inl x) u t.ti.some1.1 t.ti.some1.2 t.x1 t.x2 t'.ti.some1.1 t'.ti.some1.2) fun _ _ x => x
    · exact wpAny_mono (ha rfl w hb' A X₀ X env _ P1 P2 Z O F1 t') (fun fl s'' u => UPT.trans g (fun _ x => .inl x) u t.ti.some1.1 t.ti.some1.2 t.x1 t.x2 t'.ti.some1.1 t'.ti.some1.2) fun _ _ x => x) fun _ _ x => x.elim)
end
theorem fct_of_body {f : Str} {k : Nat} {ds : List D} {d : D} {ps : Arguments} {b : List Stmt} {sc : Scope} {c : SC} {more : List Str} (hdef : pw.theDef f = some (ps, b, sc)) (hc : c.sc = sc) (ok : c.ok = true)
    (hns : c.ns = ps.args.map (·.arg) ++ more) (hlen : (ps.args.map (·.arg)).length = ds.length)
    (hbind : ∀ pm cd doc (vs : List Value), vs.length = ds.length → bindArgs (docDef f ps b sc pm cd doc) ⟨vs, []⟩ = pure ((ps.args.map (·.arg)).zip vs))
    (hco : sc.isCoroutine = false) (hgen : sc.isGenerator = false) (h : EXT c k (G0 ds more.length) b (.ret d)) : FCT f (k + 1) ds d := by
  intro w hb A X P1 P2 Z s vs a O g fr x1 x2 hz z1 z2 ti hmg fn rl
  refine call_core (f := f) (k := k) (vl := ds.map V.imm) (c := c) (more := more) (X₀ := X) hdef hc ok hns (by rw [hlen, List.length_map]) (fun _ _ b => b.nolimit) (fun pm cd doc vs e => hbind pm cd doc vs (by rw [e, List.length_map])) hco hgen O g fr (fun _ x => x) fn (by rw [rl.length, List.length_map]) (fun i v u e1 e2 => ?_) (fun i j d e u ne e1 => ?_) (fun A' X' env H1 T1 O' g1 X'old F => ?_)
  · rw [List.getElem?_map] at e1
    obtain ⟨d', hd, rfl⟩ := Option.map_eq_some_iff.mp e1
    obtain ⟨u', hu, r⟩ := rl.at i hd
    rw [e2] at hu; cases hu; exact r
  · rw [List.getElem?_map] at e1
    obtain ⟨d', hd, e⟩ := Option.map_eq_some_iff.mp e1
    cases e
  · have eG : GV (ds.map V.imm) more.length = G0 ds more.length := by unfold GV G0; rw [List.map_map]; rfl
    rw [eG] at F
    have muNew : ∀ b, (s.heap.get? b).isSome = true → ¬ Mu X' X b := fun b hb q => q.2 (X'old b hb q.1)
    have tp : TP P1 P2 Z hb X X' H1 := ⟨x1, x2, fun b q => ⟨by obtain ⟨o, ho⟩ := Option.isSome_iff_exists.mp (hz b q); rw [g1 _ _ ho]; rfl, muNew b (hz b q)⟩, z1, z2, ti.move (Grow.pres g1) (fun b hb z => z.elim id fun q => absurd q (muNew b hb)) z1 z2⟩
    refine wpAny_mono (h w hb A' X X' env _ P1 P2 Z O' F tp) (fun fl s' u => ?_) fun _ _ x => x
    obtain ⟨h', tk, rfl, pr, v, rfl, r, ti'⟩ := u
    exact ⟨v, rfl, ⟨h', tk, rfl, fun b o _ n1 n2 e => pr b o (muNew b (by rw [e]; rfl)) n1 n2 (g1 _ _ e)⟩, ti', r⟩
section
variable {c : SC} {k : Nat} {G G1 G2 G' : Ctx}
theorem ext_freeze {x : Str} {ds : List D} {G' : Ctx} {ss : List Stmt} {o : Out} (hx : Has c.ns G x (.own (.list ds))) (q : Put c.ns G x (.imm (.list ds)) G') (h : EXT c k G' ss o) : EXT c k G ss o := fun w hb A X₀ X env s P1 P2 Z O F t => by
  obtain ⟨X', sub, F'⟩ := F.freeze hx q
  have t' : TP P1 P2 Z hb X₀ X' s.heap := t.pres (fun _ _ _ e => e) fun a x => .inl (sub a x)
  exact wpAny_mono (h w hb A X₀ X' env s P1 P2 Z O F' t') (fun fl s' u => UPT.trans (tk := s.toks) (h1 := s.heap) (fun _ _ _ _ _ e => e) (fun a x => .inl (sub a x)) u t.ti.some1.1 t.ti.some1.2 t.x1 t.x2 t.ti.some1.1 t.ti.some1.2) fun _ _ x => x
theorem FC.le {f : Str} {m : Nat} {ds : List D} {d : D} (h : FC f m ds d) (hm : m ≤ k) : FC f k ds d := fun w hb A X s vs a O => h w hb A X s vs a (O.le hm)
theorem FCT.le {f : Str} {m : Nat} {ds : List D} {d : D} (h : FCT f m ds d) (hm : m ≤ k) : FCT f k ds d := fun w hb A X P1 P2 Z s vs a O => h w hb A X P1 P2 Z s vs a (O.le hm)
theorem iter_rev {e : Expr} {p pos : Pos} {ds : List D} (m : In c.gs "reversed") (he : EV c k G e (.list ds)) (hp : Plain [e] := by intro _ _; rfl)
    (hev : ∀ env, eval (.Call (.Name "reversed" p) [e] [] pos) env = (do callWith pos (← eval (.Name "reversed" p) env) [] (backTo pos (starEach [e] env)) (backToKw pos (keywordEach [] env))) := by intro _; rfl) (hst : ∀ env, starEach [e] env = (false, eval e env) :: starEach [] env := by intro _; rfl) : Iter c k G (.Call (.Name "reversed" p) [e] [] pos) ds.reverse := fun w hb A X₀ X env s O F =>
  ev_type (id := "reversed") O F m (by decide) (evs_cons he evs_nil hst) hp hev (fun vs s₁ k1 r1 => by
    obtain ⟨v, rfl, rv⟩ := r1.one_of
    obtain ⟨a, us, rfl, na, hl, rl⟩ := rv.list_of
    have F1 := F.grow (kH k1)
    refine call_reversed_list hl ?_
    have gp : Grow s₁.heap (s₁.heap.push (revObj a ((us.toArray.size : Int) - 1))) := fun _ _ e => Heap.get?_push_of_some _ e
    have nI : s₁.heap.get? s₁.heap.objs.size = Option.none := none_of_le (Nat.le_refl _)
    have ne : a ≠ s₁.heap.objs.size := fun q => by obtain ⟨o, e, _⟩ := hl; rw [q, nI] at e; cases e
    have hit : (s₁.heap.push (revObj a ((us.toArray.size : Int) - 1))).IsRevIter s₁.heap.objs.size a ((us.toArray.size : Int) - 1) := ⟨_, Heap.get?_push_size _ rfl, rfl, rfl⟩
    refine wpAny_pyIter_revIter hit ?_
    have lu := rl.length
    refine ⟨kT k1 (kPush s₁ _ s₁.toks), s₁.heap.objs.size, [s₁.heap.objs.size, a], [s₁.heap.objs.size], (fun i v => us.toArray[us.toArray.size - 1 - i]? = some v), (fun i h => i ≤ us.toArray.size ∧ h.IsRevIter s₁.heap.objs.size a ((us.toArray.size : Int) - 1 - (i : Int)) ∧ h.IsList a us.toArray), rfl, ⟨?_, ⟨Nat.zero_le _, by simpa using hit, let ⟨o, e, r⟩ := hl; ⟨o, gp _ _ e, r⟩⟩, ?_, ?_, ?_, ?_, ?_, ?_⟩⟩
    · have := Walks.listRev (prog := pw) (w := w) O.handled s₁.heap.objs.size a ne us.toArray
      rw [List.length_reverse, ← lu]; simpa using this
    · intro b m; rw [List.mem_singleton.mp m]; exact none_back (kH k1) nI
    · intro b m
      rcases List.mem_cons.mp m with rfl | m
      · exact F1.notX nI
      · rw [List.mem_singleton.mp m]; exact na
    · intro i h st b m
      obtain ⟨_, ⟨o, e, _⟩, o', e', _⟩ := st
      rcases List.mem_cons.mp m with rfl | m
      · rw [e]; rfl
      · rw [List.mem_singleton.mp m, e']; rfl
    · intro i h st b m
      rw [List.mem_singleton.mp m]
      obtain ⟨_, ⟨o, e, cl, _⟩, _⟩ := st
      exact notBox_of e cl ⟨by decide, by decide, by decide⟩
    · intro i d v hd hv
      have hi : i < ds.length := by
        rcases Nat.lt_or_ge i ds.length with q | q
        · exact q
        · rw [List.getElem?_eq_none (by simpa using q)] at hd; cases hd
      rw [List.getElem?_reverse hi] at hd
      obtain ⟨v', e, r⟩ := rl.at _ hd
      have : v = v' := by
        have hv' : us[us.length - 1 - i]? = some v := by simpa using hv
        rw [lu, e] at hv'; cases hv'; rfl
      subst this
      exact Rep.pres gp.pres d v r
    · intro i s v t Q E _ st k
      obtain ⟨_, ⟨o, e, cl, _⟩, _⟩ := id st
      exact letGo_plain e cl (by decide) (k s.heap st fun _ _ _ e => e)) fun _ _ x => x
end
noncomputable def ldiv (n : Nat) (b : Int) : List Int → List Int × Int
  | [] => ([], 0)
  | d :: ds => (((ldiv n b ds).2 * 2 ^ n + d) / b :: (ldiv n b ds).1, ((ldiv n b ds).2 * 2 ^ n + d) % b)
theorem ldiv_len (n : Nat) (b : Int) : ∀ ds, (ldiv n b ds).1.length = ds.length
  | [] => rfl
  | d :: ds => by simp [ldiv, ldiv_len n b ds]
theorem ldiv_r (n : Nat) {b : Int} (hb : 0 < b) : ∀ ds, 0 ≤ (ldiv n b ds).2 ∧ (ldiv n b ds).2 < b
  | [] => ⟨Int.le_refl _, hb⟩
  | d :: ds => ⟨Int.emod_nonneg _ (by exact Int.ne_of_gt hb), Int.emod_lt_of_pos _ hb⟩
theorem ldiv_step {n : Nat} {b r d : Int} (h0 : 0 ≤ r) (h1 : r < b) (d0 : 0 ≤ d) (d1 : d < 2 ^ n) : 0 ≤ r * 2 ^ n + d ∧ r * 2 ^ n + d < b * 2 ^ n := by
  have p : (0 : Int) < 2 ^ n := Int.pow_pos (by decide)
  have q := Int.mul_le_mul_of_nonneg_right (show r ≤ b - 1 by lia) (Int.le_of_lt p)
  rw [Int.sub_mul, Int.one_mul] at q
  have := Int.mul_nonneg h0 (Int.le_of_lt p)
  lia
theorem ldiv_dig (n : Nat) {b : Int} (hb : 0 < b) : ∀ ds, (∀ d ∈ ds, 0 ≤ d ∧ d < 2 ^ n) → ∀ q ∈ (ldiv n b ds).1, 0 ≤ q ∧ q < 2 ^ n
  | [], _, q, h => by simp [ldiv] at h
  | d :: ds, hd, q, h => by
    rcases List.mem_cons.mp h with rfl | h
    · obtain ⟨a1, a2⟩ := ldiv_r n hb ds
      obtain ⟨b1, b2⟩ := hd d (List.mem_cons_self ..)
      obtain ⟨c1, c2⟩ := ldiv_step a1 a2 b1 b2
      exact ⟨Int.ediv_nonneg c1 (Int.le_of_lt hb), Int.ediv_lt_of_lt_mul hb (by rw [Int.mul_comm ((2:Int) ^ n) b]; exact c2)⟩
    · exact ldiv_dig n hb ds (fun x m => hd x (List.mem_cons_of_mem _ m)) q h
theorem ldiv_eq (n : Nat) {b : Int} (hb : 0 < b) : ∀ ds, dv n (ldiv n b ds).1 * b + (ldiv n b ds).2 = dv n ds
  | [] => by simp [ldiv, dv]
  | d :: ds => by
    have ih := ldiv_eq n hb ds
    simp only [ldiv, dv]
    have e := Int.emod_add_mul_ediv ((ldiv n b ds).2 * 2 ^ n + d) b
    rw [Int.add_mul, Int.mul_assoc, ← ih, Int.mul_add, Int.mul_comm (2 ^ n) (ldiv n b ds).2]
    rw [Int.mul_comm b] at e
    lia
theorem dgs_lt (n : Nat) : ∀ (m : Nat) (x : Int), ∀ d ∈ dgs n x m, 0 ≤ d ∧ d < 2 ^ n
  | 0, _, _, h => by simp [dgs] at h
  | m + 1, x, d, h => by
    have p : (0 : Int) < 2 ^ n := Int.pow_pos (by decide)
    rcases List.mem_cons.mp h with rfl | h
    · exact ⟨Int.emod_nonneg _ (by exact Int.ne_of_gt p), Int.emod_lt_of_pos _ p⟩
    · exact dgs_lt n m _ d h
theorem dv_dgs (n : Nat) : ∀ (m : Nat) (x : Int), 0 ≤ x → x < 2 ^ (n * m) → dv n (dgs n x m) = x
  | 0, x, h, h1 => by simp at h1; simp [dgs, dv]; lia
  | m + 1, x, h, h1 => by
    have p : (0 : Int) < 2 ^ n := Int.pow_pos (by decide)
    simp only [dgs, dv]
    rw [dv_dgs n m _ (Int.ediv_nonneg h (Int.le_of_lt p)) (Int.ediv_lt_of_lt_mul p (by rw [← Int.pow_add, show n * m + n = n * (m + 1) by rw [Nat.mul_add, Nat.mul_one]]; exact h1))]
    exact Int.emod_add_mul_ediv x (2 ^ n)
theorem ldiv_is {n : Nat} {a b : Int} (ha : 0 ≤ a) (hb : 0 < b) (hn : 1 ≤ n) : dv n (ldiv n b (dgs n a (nDig n a))).1 = a / b ∧ (ldiv n b (dgs n a (nDig n a))).2 = a % b := by
  have e := ldiv_eq n hb (dgs n a (nDig n a))
  rw [dv_dgs n _ a ha (Int.lt_of_lt_of_le (lt_bits ha) (pow2_le (nDig_bits hn)))] at e
  obtain ⟨r0, r1⟩ := ldiv_r n hb (dgs n a (nDig n a))
  have e1 := Int.emod_add_mul_ediv a b
  have s0 := Int.emod_nonneg a (show b ≠ 0 by exact Int.ne_of_gt hb)
  have s1 := Int.emod_lt_of_pos a hb
  generalize dv n (ldiv n b (dgs n a (nDig n a))).1 = Q at *
  generalize (ldiv n b (dgs n a (nDig n a))).2 = R at *
  have key : Q = a / b := by
    have h2 : a / b = Q := by
      rw [← e, Int.add_comm, Int.add_mul_ediv_right _ _ (by exact Int.ne_of_gt hb), Int.ediv_eq_zero_of_lt r0 r1, Int.zero_add]
    exact h2.symm
  refine ⟨key, ?_⟩
  rw [key, Int.mul_comm] at e
  lia
theorem def_dmp : pw.theDef "_divmod_pos" = some (psOf "_divmod_pos", bodyOf "_divmod_pos", scOf "_divmod_pos") := by rfl
noncomputable abbrev c_dmp : SC := ⟨scOf "_divmod_pos", ["a", "b", "n", "a_digits", "r", "q_digits", "a_digit", "q_digit", "q"], ["_int2digits", "reversed", "_div2n1n", "_digits2int"]⟩
theorem c_dmp_ok : c_dmp.ok = true := by decide +kernel
noncomputable def ldT (n : Nat) (b : Int) (ds : List Int) (j : Nat) : List Int × Int := let x := ldiv n b (ds.drop (ds.length - j)); (x.1.reverse, x.2)
theorem ldT_succ {n : Nat} {b : Int} {ds : List Int} {j : Nat} {d : Int} (hd : ds.reverse[j]? = some d) : ldT n b ds (j + 1) = ((ldT n b ds j).1 ++ [((ldT n b ds j).2 * 2 ^ n + d) / b], ((ldT n b ds j).2 * 2 ^ n + d) % b) := by
  have hj : j < ds.length := by
    rcases Nat.lt_or_ge j ds.length with q | q
    · exact q
    · rw [List.getElem?_eq_none (by simpa using q)] at hd; cases hd
  rw [List.getElem?_reverse hj] at hd
  have e : ds.drop (ds.length - (j + 1)) = d :: ds.drop (ds.length - j) := by
    have hlt : ds.length - 1 - j < ds.length := by omega
    rw [show ds.length - (j + 1) = ds.length - 1 - j by lia, List.drop_eq_getElem_cons hlt]
    rw [List.getElem?_eq_getElem hlt] at hd
    cases hd
    congr 2; lia
  unfold ldT
  rw [e]
  simp [ldiv]
theorem fct_dmp {a b : Int} {k : Nat} (ha : 0 ≤ a) (hb : 0 < b) (hs : Builtin.Int.intBits b ≤ 4000) (hm : nDig (Builtin.Int.intBits b) a ≤ k) (hk : k ≤ 900) : FCT "_divmod_pos" (k + 2) [.int a, .int b] (.tup [.int (a / b), .int (a % b)]) := by
  obtain ⟨n, hn⟩ : ∃ n, n = Builtin.Int.intBits b := ⟨_, rfl⟩
  rw [← hn] at hs hm
  have hbn : b < 2 ^ n := by rw [hn]; exact lt_bits (Int.le_of_lt hb)
  have hn1 : 1 ≤ n := by
    rcases Nat.eq_zero_or_pos n with q | q
    · rw [q] at hbn; simp at hbn; lia
    · exact q
  obtain ⟨m, em⟩ : ∃ m, m = nDig n a := ⟨_, rfl⟩
  rw [← em] at hm
  have hb8 : b < 2 ^ 8000 := Int.lt_of_lt_of_le hbn (pow2_le (by exact Nat.le_trans hs (by decide)))
  obtain ⟨ds, eds⟩ : ∃ ds, ds = dgs n a m := ⟨_, rfl⟩
  have lds : ds.length = m := by rw [eds, dgs_length]
  have dlt : ∀ d ∈ ds, 0 ≤ d ∧ d < 2 ^ n := by rw [eds]; exact dgs_lt n m a
  have hres : dv n (ldT n b ds m).1.reverse = a / b ∧ (ldT n b ds m).2 = a % b := by
    unfold ldT
    rw [lds, Nat.sub_self, List.drop_zero, List.reverse_reverse, eds, em]
    exact ldiv_is ha hb hn1
  have hlen : ∀ j, j ≤ m → (ldT n b ds j).1.length = j := fun j hj => by
    unfold ldT; simp [ldiv_len, lds]; lia
  have hr : ∀ j, 0 ≤ (ldT n b ds j).2 ∧ (ldT n b ds j).2 < b := fun j => ldiv_r n hb _
  have hq : ∀ q ∈ (ldT n b ds m).1.reverse, 0 ≤ q ∧ q < 2 ^ n := by
    unfold ldT
    rw [lds, Nat.sub_self, List.drop_zero, List.reverse_reverse]
    exact ldiv_dig n hb ds dlt
  have hb' : EXT c_dmp (k + 1) (G0 [.int a, .int b] 7) (bodyOf "_divmod_pos") (.ret (.tup [.int (a / b), .int (a % b)])) := by
    conv => arg 4; whnf
    show EXT c_dmp (k + 1) [some (.imm (.int a)), some (.imm (.int b)), none, none, none, none, none, none, none] _ _
    refine ext_conse (es_assign (d := .int n) (by rw [hn]; exact (ev_meth (ev_name (.tail .head)) evs_nil mc_bits)) (.tail (.tail .head))) ?_
    refine ext_cons (est_assign (evt_call .head (by decide) (evs_cons (ev_name .head) (evs_cons (ev_name (.tail (.tail .head))) evs_nil)) (fct_i2d hn1 (by exact Nat.le_trans hs (by decide)) ha (by rw [← em]; exact hm) (by exact Nat.le_trans hk (by decide)))) (.tail (.tail (.tail .head)))) ?_
    rw [← em, ← eds]
    refine ext_conse (es_assign ev_int (.tail (.tail (.tail (.tail .head))))) ?_
    refine ext_conse (es_assign_new (evn_list evs_nil (Nat.zero_le _)) (.tail (.tail (.tail (.tail (.tail .head)))))) ?_
    let Gs : Nat → Ctx := fun j => [some (.imm (.int a)), some (.imm (.int b)), some (.imm (.int n)), some (.imm (.list (ds.map D.int))), some (.imm (.int (ldT n b ds j).2)), some (.own (.list ((ldT n b ds j).1.map D.int))), none, none, none]
    have e0 : ldT n b ds 0 = ([], 0) := by unfold ldT; simp [ldiv]
    refine ext_conse (G1 := Gs m) (es_for (iter_rev (.tail .head) (ev_name (.tail (.tail (.tail .head))))) Gs ?_ m (by simp [lds]) (fun j d hj hd => ?_) (.inl ⟨by simp [lds], rfl⟩)) ?_
    · show Less [_, _, _, _, some (.imm (.int (ldT n b ds 0).2)), some (.own (.list ((ldT n b ds 0).1.map D.int))), _, _, _] _
      rw [e0]
      exact Less.refl _
    · rw [← List.map_reverse, List.getElem?_map] at hd
      obtain ⟨x, hx, e⟩ := Option.map_eq_some_iff.mp hd
      subst e
      obtain ⟨x0, x1⟩ := dlt x (List.mem_reverse.mp (List.mem_of_getElem? hx))
      obtain ⟨r0, r1⟩ := hr j
      obtain ⟨c0, c1⟩ := ldiv_step r0 r1 x0 x1
      have hl := hlen j (Nat.le_of_lt hj)
      refine ⟨_, as_name (.tail (.tail (.tail (.tail (.tail (.tail .head)))))), ?_⟩
      have hbit : Builtin.Int.intBits ((ldT n b ds j).2 * 2 ^ n + x) ≤ 2 * n := by
        refine bits_lt c0 (Int.lt_of_lt_of_le c1 ?_)
        rw [show 2 * n = n + n by lia, Int.pow_add]
        exact Int.mul_le_mul_of_nonneg_right (Int.le_of_lt hbn) (Int.pow_nonneg (by decide))
      have hb1 := bits_lt r0 (Int.lt_trans r1 hbn)
      refine ex_cons (es_assign_tup (ev_call ht0 (.tail (.tail .head)) (by decide) (evs_cons (ev_bin (ev_bin (ev_name (.tail (.tail (.tail (.tail .head))))) (ev_name (.tail (.tail .head))) (bo_shl (by lia))) (ev_name (.tail (.tail (.tail (.tail (.tail (.tail .head))))))) bo_add) (evs_cons (ev_name (.tail .head)) (evs_cons (ev_name (.tail (.tail .head))) evs_nil))) (FC.le (fc_div2 (k := 0) (by lia) hb hb8) (by exact Nat.le_add_left _ _))) (ass_name (.tail (.tail (.tail (.tail (.tail (.tail (.tail .head))))))) (ass_name (.tail (.tail (.tail (.tail .head)))) ASS.nil)) (hw := fun env h => by cases env; cases h; rfl)) ?_
      refine ex_cons (es_mut (.tail (.tail (.tail (.tail (.tail .head))))) (evs_cons (ev_name (.tail (.tail (.tail (.tail (.tail (.tail (.tail .head)))))))) evs_nil) (mo_append (by rw [List.length_map, hl]; exact Nat.le_of_lt (Nat.lt_of_lt_of_le hj (Nat.le_trans hm (Nat.le_trans hk (by decide)))))) (.tail (.tail (.tail (.tail (.tail .head)))))) (ex_less ?_ ex_nil)
      show Less [_, _, _, _, some (.imm (.int (ldT n b ds (j + 1)).2)), some (.own (.list ((ldT n b ds (j + 1)).1.map D.int))), _, _, _] _
      rw [ldT_succ hx, List.map_append]
      exact .same (.same (.same (.same (.same (.same (.drop (.drop (.drop .nil))))))))
    · refine ext_conse (es_mut (.tail (.tail (.tail (.tail (.tail .head))))) evs_nil (mo_reverse (by rw [List.length_map, hlen m (Nat.le_refl _)]; exact Nat.le_trans hm (Nat.le_trans hk (by decide)))) (.tail (.tail (.tail (.tail (.tail .head)))))) ?_
      refine ext_freeze (.tail (.tail (.tail (.tail (.tail .head))))) (.tail (.tail (.tail (.tail (.tail .head))))) ?_
      rw [← List.map_reverse]
      refine ext_cons (est_assign (evt_call (.tail (.tail (.tail .head))) (by decide) (evs_cons (ev_name (.tail (.tail (.tail (.tail (.tail .head)))))) (evs_cons (ev_name (.tail (.tail .head))) evs_nil)) (fct_d2i (by exact Nat.le_trans hs (by decide)) (by rw [List.length_reverse, hlen m (Nat.le_refl _)]; exact hm) (by exact Nat.le_trans hk (by decide)) hq)) (.tail (.tail (.tail (.tail (.tail (.tail (.tail (.tail .head))))))))) ?_
      rw [hres.1, hres.2]
      exact ext_of (ex_ret (es_return (ev_tup (evs_cons (ev_name (.tail (.tail (.tail (.tail (.tail (.tail (.tail (.tail .head))))))))) (evs_cons (ev_name (.tail (.tail (.tail (.tail .head))))) evs_nil)) (Nat.le_of_ble_eq_true rfl))))
  exact fct_of_body (k := k + 1) (more := ["n", "a_digits", "r", "q_digits", "a_digit", "q_digit", "q"]) def_dmp rfl c_dmp_ok rfl rfl (fun pm cd doc vs e => by apply vs2 e; intros; rfl) rfl rfl hb'
theorem def_idm : pw.theDef "int_divmod" = some (psOf "int_divmod", bodyOf "int_divmod", scOf "int_divmod") := by rfl
noncomputable abbrev c_idm : SC := ⟨scOf "int_divmod", ["a", "b", "q", "r"], ["int_divmod", "_divmod_pos"]⟩
theorem c_idm_ok : c_idm.ok = true := by decide +kernel
theorem fct_idm0 {a b : Int} {k : Nat} (ha : 0 ≤ a) (hb : 0 < b) (hs : Builtin.Int.intBits b ≤ 4000) (hm : nDig (Builtin.Int.intBits b) a ≤ k) (hk : k ≤ 900) : FCT "int_divmod" (k + 3) [.int a, .int b] (.tup [.int (a / b), .int (a % b)]) := by
  have hb' : EXT c_idm (k + 2) (G0 [.int a, .int b] 2) (bodyOf "int_divmod") (.ret (.tup [.int (a / b), .int (a % b)])) := by
    conv => arg 4; whnf
    show EXT c_idm (k + 2) [some (.imm (.int a)), some (.imm (.int b)), none, none] _ _
    refine ext_ret (est_if (v := false) (by rw [← decide_eq_false (show ¬ b = 0 by lia)]; exact itt_of (it_cmp (ev_name (.tail .head)) ev_int co_eq)) (fun e => by cases e) (fun _ => ?_))
    refine ext_ret (est_if (v := false) (by rw [← decide_eq_false (show ¬ b < 0 by exact Int.not_lt.mpr (Int.le_of_lt hb))]; exact itt_of (it_cmp (ev_name (.tail .head)) ev_int co_lt)) (fun e => by cases e) (fun _ => ?_))
    refine ext_ret (est_if (v := false) (by rw [← decide_eq_false (show ¬ a < 0 by exact Int.not_lt.mpr ha)]; exact itt_of (it_cmp (ev_name .head) ev_int co_lt)) (fun e => by cases e) (fun _ => ?_))
    exact ext_ret (est_return (evt_call (.tail .head) (by decide) (evs_cons (ev_name .head) (evs_cons (ev_name (.tail .head)) evs_nil)) (fct_dmp ha hb hs hm hk)))
  exact fct_of_body (k := k + 2) (more := ["q", "r"]) def_idm rfl c_idm_ok rfl rfl (fun pm cd doc vs e => by apply vs2 e; intros; rfl) rfl rfl hb'
theorem ediv_not {a b : Int} (hb : 0 < b) : -((-a - 1) / b) - 1 = a / b ∧ b + (-((-a - 1) % b) - 1) = a % b := by
  have e := Int.emod_add_mul_ediv (-a - 1) b
  have r0 := Int.emod_nonneg (-a - 1) (show b ≠ 0 by exact Int.ne_of_gt hb)
  have r1 := Int.emod_lt_of_pos (-a - 1) hb
  generalize (-a - 1) / b = Q at *
  generalize (-a - 1) % b = R at *
  have ea : a = (b - 1 - R) + (-Q - 1) * b := by
    rw [Int.sub_mul, Int.neg_mul, Int.one_mul, Int.mul_comm Q]; lia
  have h1 : a / b = -Q - 1 := by
    rw [ea, Int.add_mul_ediv_right _ _ (by exact Int.ne_of_gt hb), Int.ediv_eq_zero_of_lt (by lia) (by lia), Int.zero_add]
  have h2 : a % b = b - 1 - R := by
    rw [ea, Int.add_mul_emod_self_right]
    exact Int.emod_eq_of_lt (by lia) (by lia)
  lia
theorem fct_idm1 {a b : Int} {k : Nat} (ha : a < 0) (hb : 0 < b) (hs : Builtin.Int.intBits b ≤ 4000) (hm : nDig (Builtin.Int.intBits b) (-a - 1) ≤ k) (hk : k ≤ 900) : FCT "int_divmod" (k + 4) [.int a, .int b] (.tup [.int (a / b), .int (a % b)]) := by
  have hb' : EXT c_idm (k + 3) (G0 [.int a, .int b] 2) (bodyOf "int_divmod") (.ret (.tup [.int (a / b), .int (a % b)])) := by
    conv => arg 4; whnf
    show EXT c_idm (k + 3) [some (.imm (.int a)), some (.imm (.int b)), none, none] _ _
    refine ext_ret (est_if (v := false) (by rw [← decide_eq_false (show ¬ b = 0 by lia)]; exact itt_of (it_cmp (ev_name (.tail .head)) ev_int co_eq)) (fun e => by cases e) (fun _ => ?_))
    refine ext_ret (est_if (v := false) (by rw [← decide_eq_false (show ¬ b < 0 by exact Int.not_lt.mpr (Int.le_of_lt hb))]; exact itt_of (it_cmp (ev_name (.tail .head)) ev_int co_lt)) (fun e => by cases e) (fun _ => ?_))
    refine ext_ret (est_if (v := true) (by rw [← decide_eq_true (show a < 0 by omega)]; exact itt_of (it_cmp (ev_name .head) ev_int co_lt)) (fun _ => ?_) (fun e => by cases e))
    refine ext_cons (est_assign_tup (evt_call .head (by decide) (evs_cons (ev_un (ev_name .head) uo_inv) (evs_cons (ev_name (.tail .head)) evs_nil)) (fct_idm0 (by lia) hb hs hm hk)) (ass_name (.tail (.tail .head)) (ass_name (.tail (.tail (.tail .head))) ASS.nil)) (hw := fun env h => by cases env; cases h; rfl)) ?_
    obtain ⟨e1, e2⟩ := ediv_not (a := a) hb
    rw [← e1, ← e2]
    exact ext_of (ex_ret (es_return (ev_tup (evs_cons (ev_un (ev_name (.tail (.tail .head))) uo_inv) (evs_cons (ev_bin (ev_name (.tail .head)) (ev_un (ev_name (.tail (.tail (.tail .head)))) uo_inv) bo_add) evs_nil)) (Nat.le_of_ble_eq_true rfl))))
  exact fct_of_body (k := k + 3) (more := ["q", "r"]) def_idm rfl c_idm_ok rfl rfl (fun pm cd doc vs e => by apply vs2 e; intros; rfl) rfl rfl hb'
theorem fct_idm2 {a b : Int} {k m : Nat} {Q R : Int} (hb : b < 0) (h : FCT "int_divmod" k [.int (-a), .int (-b)] (.tup [.int Q, .int R])) : FCT "int_divmod" (k + 1) [.int a, .int b] (.tup [.int Q, .int (-R)]) := by
  have hb' : EXT c_idm k (G0 [.int a, .int b] 2) (bodyOf "int_divmod") (.ret (.tup [.int Q, .int (-R)])) := by
    conv => arg 4; whnf
    show EXT c_idm k [some (.imm (.int a)), some (.imm (.int b)), none, none] _ _
    refine ext_ret (est_if (v := false) (by rw [← decide_eq_false (show ¬ b = 0 by lia)]; exact itt_of (it_cmp (ev_name (.tail .head)) ev_int co_eq)) (fun e => by cases e) (fun _ => ?_))
    refine ext_ret (est_if (v := true) (by rw [← decide_eq_true (show b < 0 by omega)]; exact itt_of (it_cmp (ev_name (.tail .head)) ev_int co_lt)) (fun _ => ?_) (fun e => by cases e))
    refine ext_cons (est_assign_tup (evt_call .head (by decide) (evs_cons (ev_un (ev_name .head) uo_neg) (evs_cons (ev_un (ev_name (.tail .head)) uo_neg) evs_nil)) h) (ass_name (.tail (.tail .head)) (ass_name (.tail (.tail (.tail .head))) ASS.nil)) (hw := fun env h => by cases env; cases h; rfl)) ?_
    exact ext_of (ex_ret (es_return (ev_tup (evs_cons (ev_name (.tail (.tail .head))) (evs_cons (ev_un (ev_name (.tail (.tail (.tail .head)))) uo_neg) evs_nil)) (Nat.le_of_ble_eq_true rfl))))
  exact fct_of_body (k := k) (more := ["q", "r"]) def_idm rfl c_idm_ok rfl rfl (fun pm cd doc vs e => by apply vs2 e; intros; rfl) rfl rfl hb'
theorem fct_idm {a b : Int} {k : Nat} (hb : 0 < b) (hs : Builtin.Int.intBits b ≤ 4000) (hm : a < 0 → nDig (Builtin.Int.intBits b) (-a - 1) ≤ k) (hm' : 0 ≤ a → nDig (Builtin.Int.intBits b) a ≤ k) (hk : k ≤ 900) : FCT "int_divmod" (k + 4) [.int a, .int b] (.tup [.int (a / b), .int (a % b)]) := by
  by_cases q : a < 0
  · exact fct_idm1 q hb hs (hm q) hk
  · exact FCT.le (fct_idm0 (by exact Int.not_lt.mp q) hb hs (hm' (by exact Int.not_lt.mp q)) hk) (by lia)
section
variable {c : SC} {k : Nat} {G G1 G' : Ctx}
theorem est_for {t iter : Expr} {body : List Stmt} {pos : Pos} {ds : List D} (it : Iter c k G iter ds) (Gs : Nat → Ctx) (h0 : Less (Gs 0) G)
    (turn : ∀ i d, ds[i]? = some d → ∃ G', AS c k (Gs i) t d G' ∧ EXT c k G' body (.next (Gs (i + 1))))
    (hfs : ∀ env x, foldedSetIterable iter env x = pure x := by intro _ _; rfl) : EST c k G (.For t iter body [] pos) (.next (Gs ds.length)) := fun w hb A X₀ X env s P1 P2 Z O F tp => by
  refine wpAny_For (wpAny_mono (it w hb A X₀ X env s O F) (fun x s1 h1 => wpAny_mono h1 (fun itv s2 h2 => ?_) fun _ _ x => x.elim) fun _ _ x => x.elim) (hfs env)
  obtain ⟨k2, I, fp, wr, P, St, rfl, g⟩ := h2
  obtain ⟨H2, T2, rfl, g2⟩ := id k2
  dsimp only at g
  have hwb : ∀ b ∈ wr, hb.get? b = Option.none := fun b q => none_back F.base (g.new b q)
  -- the addresses of the iterator count as barred
  let Zw : Addr → Prop := fun b => Z b ∨ b ∈ wr
  have nP1 : P1 ∉ wr := fun q => by have := tp.ti.some1.1; rw [g.new P1 q] at this; cases this
  have nP2 : P2 ∉ wr := fun q => by have := tp.ti.some1.2; rw [g.new P2 q] at this; cases this
  have tp2 : TP P1 P2 Zw hb X₀ X H2 := by
    have t2 := tp.grow g2
    refine ⟨tp.x1, tp.x2, fun b q => ?_, fun q => q.elim tp.z1 nP1, fun q => q.elim tp.z2 nP2, ?_⟩
    · rcases q with q | q
      · exact t2.z b q
      · exact ⟨g.alive 0 H2 g.st b (g.W.sub b q), fun m => g.off b (g.W.sub b q) m.1⟩
    · refine tp.ti.move (Grow.pres g2) (fun b hb' q => ?_) tp.n1 tp.n2
      rcases q with (q | q) | q
      · exact .inl q
      · rw [g.new b q] at hb'; cases hb'
      · exact .inr q
  obtain ⟨Inv, mk, un⟩ := hideP fun (n : Nat) (s' : Shared) => ∃ i, n = ds.length - i ∧ i ≤ ds.length ∧ ∃ h' tk X', s' = { s with heap := h', toks := tk } ∧ (∀ b o, ¬ (X b ∧ ¬ X₀ b) → b ∉ wr → b ≠ P1 → b ≠ P2 → H2.get? b = some o → h'.get? b = some o) ∧ St i h' ∧ (∀ a, X' a → X a ∨ H2.get? a = Option.none) ∧ (∀ b ∈ fp, ¬ X' b) ∧ FS c w hb X₀ X' env h' (Gs i) ∧ TP P1 P2 Zw hb X₀ X' h'
  refine codeQ fun R hR => codeAny_forLoop_any Inv (fun n s' hI => wpQ fun Q hQ => ?_) ds.length (mk _ _ ⟨0, by exact rfl, by exact Nat.zero_le _, H2, T2, X, rfl, fun b o _ _ _ _ e => e, g.st, fun a x => .inl x, g.off, (F.grow g2).less h0, tp2⟩)
  replace hI := un _ _ hI
  obtain ⟨i, en, hij, h', tk, X', rfl, pr, st, xx, fpx, F', tp'⟩ := hI
  have wok : ∀ b ∈ wr, ¬ X' b ∧ NotBox h' b ∧ hb.get? b = Option.none := fun b q => ⟨fpx b (g.W.sub b q), g.box i h' st b q, hwb b q⟩
  have ztp : ∀ h1, (∀ b o, b ∉ wr → h'.get? b = some o → h1.get? b = some o) → (∀ b ∈ wr, (h1.get? b).isSome = true) → TP P1 P2 Zw hb X₀ X' h1 := fun h1 kp sw => by
    refine ⟨tp'.x1, tp'.x2, fun b q => ⟨?_, (tp'.z b q).2⟩, tp'.z1, tp'.z2, tp'.ti.move (fun b o nz e => kp b o (fun q => nz (.inl (.inr q))) e) (fun _ _ q => q) tp'.n1 tp'.n2⟩
    by_cases z : b ∈ wr
    · exact sw b z
    · obtain ⟨o, ho⟩ := Option.isSome_iff_exists.mp (tp'.z b q).1
      rw [kp b o z ho]; rfl
  by_cases hi : i < ds.length
  · refine g.W.item i _ _ _ hi st fun v h1 t1 pv st0 kp0 => hQ _ _ ?_
    show wpAny (model pw w) A (letOwnedTupleGo t (.ref I) v) _ _ _
    refine g.go i _ v t _ _ pv st0 fun h1 st1 kp1 => ?_
    have kp : ∀ b o, b ∉ wr → h'.get? b = some o → h1.get? b = some o := fun b o nb e => kp1 b o nb (kp0 b o nb e)
    have hd : ds[i]? = some ds[i] := by simp [hi]
    have F1 : FS c w hb X₀ X' env h1 (Gs i) := F'.iter kp wok
    have tp1 := ztp h1 kp fun b q => g.alive (i + 1) h1 st1 b (g.W.sub b q)
    have rv : Rep w X' h1 ds[i] v := by
      have r := g.items i _ v hd pv
      have r2 : Rep w (fun a => X' a ∨ a ∈ wr) h' ds[i] v := by
        have r3 : Rep w (fun a => (X a ∨ X' a) ∨ a ∈ wr) H2 ds[i] v := Rep.box (fun a y => by
          rcases y with (x | x) | x
          · exact .inl x
          · exact (xx a x).imp id fun q o e => by rw [q] at e; cases e
          · exact .inr (g.box 0 H2 g.st a x)) _ v r
        refine Rep.weak (X := fun a => (X a ∨ X' a) ∨ a ∈ wr) (fun a _ x => x.elim (fun x => .inl (.inr x)) .inr) _ v (Rep.pres (fun b o nx e => pr b o (fun q => nx (.inl (.inl q.1))) (fun q => nx (.inr q)) (fun q => nx (.inl (.inr (q ▸ F'.sub _ tp'.x1)))) (fun q => nx (.inl (.inr (q ▸ F'.sub _ tp'.x2)))) e) _ v r3)
      exact Rep.weak (X := fun a => X' a ∨ a ∈ wr) (fun _ _ x => .inl x) _ v (Rep.pres (fun b o nx e => kp b o (fun q => nx (.inr q)) e) _ v r2)
    obtain ⟨G2, ha, hx⟩ := turn i _ hd
    have live : ∀ b ∈ fp, h'.get? b ≠ Option.none := fun b hb e => by have := g.alive i h' st b hb; rw [e] at this; cases this
    refine wpAny_mono (ha w hb A X₀ X' env { s with heap := h1, toks := t1 } v O F1 rv) (fun _ s2 zp => ?_) fun _ _ x => x.elim
    obtain ⟨h2, t2, e2, p2, F2⟩ := zp
    subst e2
    dsimp only at p2
    have tp2' := tp1.pres p2 fun a x => .inl x
    refine wpAny_mono (hx w hb A X₀ X' env _ P1 P2 Zw O F2 tp2') (fun fl s3 u => ?_) fun _ _ x => x.elim
    obtain ⟨h3, t3, rfl, p3, rfl, X3, x3, F3, tp3⟩ := u
    dsimp only at p3 x3
    have fpP : ∀ b ∈ fp, b ≠ P1 ∧ b ≠ P2 := fun b m => ⟨fun q => fpx b m (q ▸ F'.sub _ tp'.x1), fun q => fpx b m (q ▸ F'.sub _ tp'.x2)⟩
    have all1 : ∀ b o, ¬ (X b ∧ ¬ X₀ b) → b ∉ wr → b ≠ P1 → b ≠ P2 → H2.get? b = some o → h1.get? b = some o := fun b o nx nw n1 n2 e => kp b o nw (pr b o nx nw n1 n2 e)
    have mux : ∀ b o, H2.get? b = some o → Mu X' X₀ b → (X b ∧ ¬ X₀ b) := fun b o e q => (xx b q.1).elim (fun z => ⟨z, q.2⟩) fun z => by rw [z] at e; cases e
    refine ⟨ds.length - (i + 1), by omega, mk _ _ ⟨i + 1, rfl, by exact hi, h3, t3, X3, rfl, fun b o nx nw n1 n2 e => ?_, ?_, fun a xa => ?_, fun b hbf xb => ?_, F3, tp3⟩⟩
    · exact p3 b o (fun q => nx (mux b o e q)) n1 n2 (p2 b o (fun q => nx (mux b o e q)) (all1 b o nx nw n1 n2 e))
    · exact g.W.frame _ h1 h3 st1 fun b m o e => p3 b o (fun q => fpx b m q.1) (fpP b m).1 (fpP b m).2 (p2 b o (fun q => fpx b m q.1) e)
    · rcases x3 a xa with q | q
      · exact xx a q
      · cases e : H2.get? a with
        | none => exact .inr rfl
        | some o =>
          by_cases xa' : X a
          · exact .inl xa'
          · exfalso
            by_cases e1 : a = P1
            · have := tp2'.ti.some1.1; rw [← e1, q] at this; cases this
            · by_cases e2 : a = P2
              · have := tp2'.ti.some1.2; rw [← e2, q] at this; cases this
              · by_cases wa : a ∈ wr
                · have s1 := g.alive (i + 1) h1 st1 a (g.W.sub a wa)
                  obtain ⟨o1, ho1⟩ := Option.isSome_iff_exists.mp s1
                  rw [p2 a o1 (fun z => fpx a (g.W.sub a wa) z.1) ho1] at q; cases q
                · rw [p2 a o (fun z => xa' (mux a o e z).1) (all1 a o (fun z => xa' z.1) wa e1 e2 e)] at q; cases q
    · rcases x3 b xb with q | q
      · exact fpx b hbf q
      · have s1 := g.alive (i + 1) h1 st1 b hbf
        obtain ⟨o1, ho1⟩ := Option.isSome_iff_exists.mp s1
        rw [p2 b o1 (fun z => fpx b hbf z.1) ho1] at q; cases q
  · have ei : i = ds.length := by lia
    subst ei
    refine g.W.done _ _ _ st fun h1 t1 kp => hQ _ _ ?_
    show wpAny (model pw w) A (execs [] env) _ _ _
    have F1 : FS c w hb X₀ X' env h1 (Gs ds.length) := F'.iter kp wok
    refine wpAny_execs_nil (hR _ _ ⟨h1, t1, rfl, fun b o nx n1 n2 e => ?_, rfl, X', fun a xa => ?_, F1, ?_⟩)
    · have nw : b ∉ wr := fun q => by rw [g.new b q] at e; cases e
      exact kp b o nw (pr b o nx nw n1 n2 (g2 b o e))
    · exact (xx a xa).imp id fun q => none_back g2 q
    · have tz : TP P1 P2 Z hb X₀ X' h' := ⟨tp'.x1, tp'.x2, fun b q => tp'.z b (.inl q), tp.z1, tp.z2, tp'.ti.weak (fun b _ q => q.elim (fun q => .inl (.inl q)) .inr) tp'.n1 tp'.n2⟩
      refine ⟨tz.x1, tz.x2, fun b q => ⟨?_, (tz.z b q).2⟩, tz.z1, tz.z2, ?_⟩
      · have nw : b ∉ wr := fun m => by
          have sb := (tp.z b q).1
          rw [g.new b m] at sb; cases sb
        obtain ⟨o, ho⟩ := Option.isSome_iff_exists.mp (tz.z b q).1
        rw [kp b o nw ho]; rfl
      · exact tp'.ti.move (fun b o nz e => kp b o (fun q => nz (.inl (.inr q))) e) (fun b _ q => q.elim (fun q => .inl (.inl q)) .inr) tp'.n1 tp'.n2
end
structure Cs where
  c0 : Nat
  c1 : Nat
  c2 : Nat
  c3 : Nat
  c4 : Nat
  c5 : Nat
noncomputable def ownL : List Int := [12, 7, 56, 43211, 18, 6]
noncomputable def cellOf (script : List Int) (k : Nat) : Int := (ownL.getD k 0 + (pickD script (some k) (some 60) (some 6)).sum) % 1000000
noncomputable def Cs.at (c : Cs) : Nat → Nat
  | 0 => c.c0
  | 1 => c.c1
  | 2 => c.c2
  | 3 => c.c3
  | 4 => c.c4
  | _ => c.c5
noncomputable def csOf (script : List Int) : Cs := ⟨(cellOf script 0).toNat, (cellOf script 1).toNat, (cellOf script 2).toNat, (cellOf script 3).toNat, (cellOf script 4).toNat, (cellOf script 5).toNat⟩
noncomputable def famT : List (Str × List (Int × Str)) := [("hp", [(13259, "hp"), (13271, "ph")]), ("st", [(64262, "st"), (223, "ss")]), ("fi", [(64257, "fi"), (64256, "ff"), (64259, "ffi")]), ("co", [(13255, "co."), (8470, "no")])]
namespace Cs
variable (c : Cs)
noncomputable def letters : Str := (famT.getD (c.c0 % 4) ("", [])).1
noncomputable def doubles : List (Int × Str) := (famT.getD (c.c0 % 4) ("", [])).2
noncomputable def many : Nat := 1 + c.c1 % 3
end Cs
noncomputable def signP (letters : Str) (dl : List (Int × Str)) (kind which : Nat) : Nat × Str :=
  if kind < 2 then ((rowsL.getD (which % 12) 0 + (letters.cps.getD kind 0 : Nat) - 97).toNat, ⟨#[letters.cps.getD kind 0]⟩)
  else if kind = 2 then ((dl.getD (which % dl.length) (0, "")).1.toNat, (dl.getD (which % dl.length) (0, "")).2)
  else if which % 30 < 27 then ((unseenAll.getD (which % 30) 0).toNat, "")
  else ((" \t\r" : Str).cps.getD (which % 30 - 27) 0, ⟨#[(" \t\r" : Str).cps.getD (which % 30 - 27) 0]⟩)
namespace Cs
variable (c : Cs)
noncomputable def pair (k : Nat) : Nat × Str := signP c.letters c.doubles (c.c2 / 4 ^ k % 4) (c.c3 / 40 ^ k)
noncomputable def prs : List (Str × Str) := (List.range c.many).map fun k => (⟨#[(c.pair k).1]⟩, (c.pair k).2)
noncomputable def nOthers : Nat := c.c1 / 3 % (5 - c.many)
noncomputable def others : List Str := (List.range c.nOthers).map fun k => ⟨#[(".:\n" : Str).cps.getD (c.c0 / 4 / 3 ^ k % 3) 0]⟩
noncomputable def wordL : List Nat := (List.range (c.c4 / 8 % 4)).map fun k => c.letters.cps.getD (c.c4 / 2 ^ k % 2) 0
noncomputable def word : Str := ⟨c.wordL.toArray⟩
noncomputable def front : Bool := decide (c.c5 % 2 = 1) && !decide (c.word = "")
noncomputable def signs : List Str := c.prs.map (·.1)
noncomputable def all : List Str := c.signs ++ c.others
noncomputable def pattern : Str := (if c.front then "" else "...") ++ Txt.join "" (c.wordL.map fun l => (⟨#[l]⟩ : Str) ++ "...")
noncomputable def longest : Nat := [5, 5, 3, 3].getD (c.many + c.nOthers - 1) 0
noncomputable def width : Nat := 10 + c.c5 / 2 % 50
end Cs
noncomputable def dictOf (prs : List (Str × Str)) (F : Str × Str → D) : List (Str × D) := prs.foldl (fun l p => setD l p.1 (F p)) []
theorem setD_lookup {l : List (Str × D)} {y z : Str} {d : D} : (setD l y d).lookup z = if z = y then (match l.lookup y with | some e => some e | Option.none => some d) else l.lookup z := by
  unfold setD
  by_cases h : (l.lookup y).isSome = true
  · rw [if_pos h]
    by_cases q : z = y
    · subst q; rw [if_pos rfl]; obtain ⟨e, he⟩ := Option.isSome_iff_exists.mp h; rw [he]
    · rw [if_neg q]
  · rw [if_neg h]
    have hn : l.lookup y = Option.none := by cases e : l.lookup y with | none => rfl | some d => rw [e] at h; exact absurd rfl h
    have app : ∀ (l : List (Str × D)), (l ++ [(y, d)]).lookup z = match l.lookup z with | some e => some e | Option.none => if z = y then some d else Option.none := by
      intro l
      induction l with
      | nil =>
        simp only [List.nil_append, List.lookup_cons, List.lookup_nil]
        by_cases q : z = y
        · subst q; simp
        · have : (z == y) = false := by simpa using q
          rw [this]; simp [q]
      | cons p l ih =>
        obtain ⟨x, e⟩ := p
        simp only [List.cons_append, List.lookup_cons]
        by_cases q : z = x
        · subst q; simp
        · have : (z == x) = false := by simpa using q
          rw [this]; exact ih
    rw [app]
    by_cases q : z = y
    · subst q; rw [hn]
    · simp only [q, if_false]; cases l.lookup z <;> simp
theorem dictFold_mem {F : Str × Str → D} : ∀ (prs : List (Str × Str)) (l : List (Str × D)) (x : Str) (d : D), (prs.foldl (fun l p => setD l p.1 (F p)) l).lookup x = some d → l.lookup x = some d ∨ ∃ p ∈ prs, p.1 = x ∧ F p = d
  | [], l, x, d, h => .inl h
  | p :: prs, l, x, d, h => by
    rcases dictFold_mem prs _ x d h with q | ⟨q, m, e⟩
    · rw [setD_lookup] at q
      by_cases z : x = p.1
      · rw [if_pos z] at q
        cases e : l.lookup p.1 with
        | none => rw [e] at q; cases q; exact .inr ⟨p, List.mem_cons_self .., z.symm, rfl⟩
        | some e' => rw [e] at q; cases q; left; rw [z]; exact e
      · rw [if_neg z] at q; exact .inl q
    · exact .inr ⟨q, List.mem_cons_of_mem _ m, e⟩
theorem dictFold_keep {F : Str × Str → D} : ∀ (prs : List (Str × Str)) (l : List (Str × D)) (x : Str) (d : D), l.lookup x = some d → (prs.foldl (fun l p => setD l p.1 (F p)) l).lookup x = some d
  | [], l, x, d, h => h
  | p :: prs, l, x, d, h => by
    refine dictFold_keep prs _ x d ?_
    rw [setD_lookup]
    by_cases z : x = p.1
    · rw [if_pos z, ← z, h]
    · rw [if_neg z]; exact h
theorem dictFold_has {F : Str × Str → D} : ∀ (prs : List (Str × Str)) (l : List (Str × D)) (p : Str × Str), p ∈ prs → ((prs.foldl (fun l p => setD l p.1 (F p)) l).lookup p.1).isSome = true
  | q :: prs, l, p, m => by
    rcases List.mem_cons.mp m with rfl | m
    · have : ∃ d, (setD l p.1 (F p)).lookup p.1 = some d := by
        rw [setD_lookup, if_pos rfl]
        cases l.lookup p.1 <;> exact ⟨_, rfl⟩
      obtain ⟨d, hd⟩ := this
      rw [List.foldl_cons, dictFold_keep prs _ _ _ hd]; rfl
    · exact dictFold_has prs _ p m
theorem dictOf_lookup {prs : List (Str × Str)} {F : Str × Str → D} (hF : ∀ p ∈ prs, ∀ q ∈ prs, p.1 = q.1 → F p = F q) {p : Str × Str} (h : p ∈ prs) : (dictOf prs F).lookup p.1 = some (F p) := by
  obtain ⟨d, hd⟩ := Option.isSome_iff_exists.mp (dictFold_has (F := F) prs [] p h)
  rcases dictFold_mem prs [] p.1 d hd with q | ⟨q, m, e, e2⟩
  · cases q
  · show (prs.foldl _ []).lookup p.1 = _
    rw [hd, ← e2, hF q m p h e]
theorem dictOf_len (prs : List (Str × Str)) (F : Str × Str → D) : ∀ l : List (Str × D), (prs.foldl (fun l p => setD l p.1 (F p)) l).length ≤ l.length + prs.length := by
  induction prs with
  | nil => intro l; simp
  | cons p prs ih =>
    intro l
    rw [List.foldl_cons]
    refine Nat.le_trans (ih _) ?_
    unfold setD; split <;> simp <;> lia
theorem dictFold_in {F : Str × Str → D} : ∀ (prs : List (Str × Str)) (l : List (Str × D)) (x : Str × D), x ∈ prs.foldl (fun l p => setD l p.1 (F p)) l → x ∈ l ∨ ∃ p ∈ prs, x = (p.1, F p)
  | [], l, x, h => .inl h
  | p :: prs, l, x, h => by
    rcases dictFold_in prs _ x h with q | ⟨q, m, e⟩
    · have q : x ∈ setD l p.1 (F p) := q
      unfold setD at q
      split at q
      · exact .inl q
      · rcases List.mem_append.mp q with q | q
        · exact .inl q
        · exact .inr ⟨p, List.mem_cons_self .., List.mem_singleton.mp q⟩
    · exact .inr ⟨q, List.mem_cons_of_mem _ m, e⟩
noncomputable def growRow (mvf : Str → Int → Int) (r : Row) (sign : Str) : Row :=
  if (!r.still || Txt.contains ":\n" sign) = true then ⟨r.line ++ sign, r.name, r.found, false⟩
  else if sign = "." then ⟨r.line ++ sign, "", 0, true⟩
  else ⟨r.line ++ sign, r.name ++ sign, mvf sign r.found, true⟩
noncomputable def growAll (mvf : Str → Int → Int) (all : List Str) (rows : List Row) : List Row := rows.flatMap fun r => all.map (growRow mvf r)
noncomputable def rowsAt (mvf : Str → Int → Int) (all : List Str) : Nat → List Row
  | 0 => [⟨"", "", 0, true⟩]
  | s + 1 => growAll mvf all (rowsAt mvf all s)
theorem rowsAt_len (mvf : Str → Int → Int) (all : List Str) : ∀ s, (rowsAt mvf all s).length = all.length ^ s
  | 0 => rfl
  | s + 1 => by
    unfold rowsAt growAll
    rw [List.length_flatMap]
    have : ∀ rows : List Row, (rows.map fun r => (all.map (growRow mvf r)).length).sum = rows.length * all.length := by
      intro rows
      induction rows with
      | nil => simp
      | cons r rows ih => rw [List.map_cons, List.sum_cons, ih, List.length_map, List.length_cons, Nat.add_mul, Nat.one_mul]; exact Nat.add_comm _ _
    rw [this, rowsAt_len mvf all s, Nat.pow_succ]
noncomputable def mvAt (mean : Str) (word : Str) (front : Bool) (found : Int) : Int :=
  if found < 0 then -1 else if found.toNat < word.length then movOf mean word front found.toNat else if found.toNat = word.length then (word.length : Int) else -1
noncomputable def meanIn (prs : List (Str × Str)) (sign : Str) : Str := (prs.lookup sign).getD ""
noncomputable def Cs.mvf (c : Cs) (sign : Str) (found : Int) : Int := mvAt (meanIn c.prs sign) c.word c.front found
noncomputable def Cs.rows (c : Cs) (s : Nat) : List Row := rowsAt c.mvf c.all s
noncomputable def Cs.ok (c : Cs) (name : Str) : Bool := ellRes (nameFold (fun ch => meanIn c.prs ⟨#[ch]⟩) name) (Txt.split c.pattern "...")
noncomputable def Cs.taken (c : Cs) : Nat → List (Str × D)
  | 0 => []
  | s + 1 => answersOf c.ok ((c.rows s).map Row.name) (c.taken s)
noncomputable def Cs.count (c : Cs) (s : Nat) : Nat := ((c.rows s).filter fun r => c.ok r.name).length
noncomputable def Cs.counts (c : Cs) : Nat → List Int
  | 0 => []
  | s + 1 => (c.count s : Int) :: c.counts s
theorem Cs.counts_len (c : Cs) : ∀ s, (c.counts s).length = s
  | 0 => rfl
  | s + 1 => by simp [Cs.counts, Cs.counts_len c s]
noncomputable def Cs.mvN (c : Cs) (s : Str) (f : Nat) : Int := movOf (meanIn c.prs s) c.word c.front f
noncomputable def Cs.every (c : Cs) : Nat := c.many + c.nOthers
noncomputable def Cs.fs (c : Cs) (j : Nat) : List Int × List Int := fracState (cntOf c.signs c.mvN) (2 ^ c.width) c.word.length j
noncomputable def Cs.upper0 (c : Cs) : Int := (c.fs c.word.length).1.getD 0 0
noncomputable def Cs.lower (c : Cs) : Int := (c.fs c.word.length).2.foldl (· * ·) (2 ^ c.width - (c.every : Int))
noncomputable def Cs.upper (c : Cs) : Int := c.upper0 * 2 ^ (c.width * (c.longest + 1))
noncomputable def Cs.final (c : Cs) : List Int := c.counts (c.longest + 1)
noncomputable def keptOf (l : List Int) : Nat := ((l.mapIdx fun i n => if n = 0 then 0 else i + 1).foldl max 0)
noncomputable def lawSt (i : Nat) : Stmt := (bodyOf "law").getD i (.Pass default)
theorem def_law : pw.theDef "law" = some (psOf "law", bodyOf "law", scOf "law") := by rfl
noncomputable abbrev lawNs : List Str := ["script", "own", "cells", "families", "letters", "doubles", "many", "pairs", "others", "word", "front", "folds", "moves", "signs", "pattern", "longest", "rows", "counts", "taken", "size", "line", "name", "found", "still", "width", "upper", "lower", "quotient", "rest", "kept", "side"]
noncomputable abbrev c_law : SC := ⟨scOf "law", lawNs, ["range", "len", "_law_answers", "_strip_exception_details", "_law_fraction", "int_divmod", "max", "enumerate", "_digits2int", "_int2digits"]⟩
theorem c_law_ok : c_law.ok = true := by decide +kernel
noncomputable def famD : D := .list (famT.map fun p => .tup [.str p.1, doublesD p.2])
noncomputable def cellsD (script : List Int) : List D := (List.range 6).map fun k => .int (cellOf script k)
theorem cell_lo (script : List Int) (k : Nat) : 0 ≤ cellOf script k ∧ cellOf script k < 1000000 := ⟨Int.emod_nonneg _ (by decide), Int.emod_lt_of_pos _ (by decide)⟩
theorem cells_at (script : List Int) {k : Nat} (h : k < 6) : (cellsD script)[k]? = some (.int ((csOf script).at k : Int)) := by
  unfold cellsD
  rw [List.getElem?_map, List.getElem?_range h]
  have : ∀ k, k < 6 → ((csOf script).at k : Int) = cellOf script k := lt6 (Int.toNat_of_nonneg (cell_lo script 0).1) (Int.toNat_of_nonneg (cell_lo script 1).1) (Int.toNat_of_nonneg (cell_lo script 2).1) (Int.toNat_of_nonneg (cell_lo script 3).1) (Int.toNat_of_nonneg (cell_lo script 4).1) (Int.toNat_of_nonneg (cell_lo script 5).1)
  show some _ = _
  rw [this k h]
theorem es_assignS {c : SC} {k : Nat} {G G' : Ctx} {x : Str} {e : Expr} {p pos : Pos} {d : D} (h : EV c k G e d) (q : Put c.ns G x (.imm d) G') (hs : ∀ env, env.scope = c.sc → swapsWith e (some (.Name x p)) pos.line env = pure false) : ES c k G (.Assign [.Name x p] e pos) (.next G') := fun w hb A X₀ X env s O F =>
  wpAny_Assign_Name (wpAny_mono (h w hb A X₀ X env s O F) (fun v s1 ⟨k1, r⟩ => by
    obtain ⟨h1, tk, rfl, g⟩ := id k1
    refine wp_store (F.grow g) q r (fun l e => by cases e) fun h' tk' F' pr _ _ _ => ⟨h', tk', rfl, pres_trans (Grow.pres g) (fun _ x => .inl x) pr, rfl, X, fun _ x => .inl x, F'⟩) fun _ _ x => x.elim) (hs env F.sc)
section
variable {script : List Int}
theorem law0 : ES c_law 30 [some (.imm (.list (script.map D.int))), none, none, none, none, none, none, none, none, none, none, none, none, none, none, none, none, none, none, none, none, none, none, none, none, none, none, none, none, none, none] (lawSt 0) (.next [some (.imm (.list (script.map D.int))), some (.imm (.list (ownL.map D.int))), none, none, none, none, none, none, none, none, none, none, none, none, none, none, none, none, none, none, none, none, none, none, none, none, none, none, none, none, none]) := by
  conv => arg 4; whnf
  exact es_assign_ints ownL (by decide +kernel) (by decide) (.tail .head)
theorem law1 (hlen : script.length ≤ 1000) : ES c_law 30 [some (.imm (.list (script.map D.int))), some (.imm (.list (ownL.map D.int))), none, none, none, none, none, none, none, none, none, none, none, none, none, none, none, none, none, none, none, none, none, none, none, none, none, none, none, none, none] (lawSt 1) (.next [some (.imm (.list (script.map D.int))), some (.imm (.list (ownL.map D.int))), some (.imm (.list (cellsD script))), none, none, none, none, none, none, none, none, none, none, none, none, none, none, none, none, none, none, none, none, none, none, none, none, none, none, none, none]) := by
  conv => arg 4; whnf
  have e : cellsD script = (rangeL 0 1 6).filterMap (fun d => match d with | .int i => some (.int (cellOf script i.toNat)) | _ => none) := by
    unfold cellsD rangeL
    rw [List.filterMap_map, ← List.filterMap_eq_map]
    congr 1
    funext k
    simp
  refine es_assignS (EVN.ev (by
    rw [e]
    refine evn_comp (c' := ⟨relS _ c_law.sc, ["k", "own", "script"], ["sum"]⟩) (G' := [none, some (.imm (.list (ownL.map D.int))), some (.imm (.list (script.map D.int)))]) _ (iter_range1 .head ev_int (by decide)) (by decide) (by decide +kernel) rfl (by decide +kernel) (.non (.var (.tail .head) (by decide +kernel) (.var .head (by decide +kernel) .nil))) (fun d hd => ?_)
    obtain ⟨k, hk, rfl⟩ := List.mem_map.mp hd
    have hk6 := List.mem_range.mp hk
    have ek : (0 : Int) + (k : Int) * 1 = (k : Int) := by exact by simp
    rw [ek]
    refine ⟨[some (.imm (.int k)), some (.imm (.list (ownL.map D.int))), some (.imm (.list (script.map D.int)))], asl_name .head (by decide +kernel), .drop (.same (.same .nil)), noOwn_of rfl, .nil, ?_⟩
    have ho : (ownL.map D.int)[k]? = some (.int (ownL.getD k 0)) := by
      match k, hk6 with
      | 0, _ => rfl
      | 1, _ => rfl
      | 2, _ => rfl
      | 3, _ => rfl
      | 4, _ => rfl
      | 5, _ => rfl
    show EV _ _ _ _ (.int ((ownL.getD k 0 + (pickD script (some (k : Int)) (some 60) (some 6)).sum) % 10 ^ 6))
    refine ev_bin (ev_bin (ev_sub (ev_name (.tail .head)) (ev_name .head) (si_list ho (by exact Nat.lt_of_lt_of_le hk6 (by decide)))) (ev_blt ht0 .head (by decide) (evs_cons ?_ evs_nil) bc_sum) bo_add) (ev_bin ev_int ev_int (bo_pow (a := 10) (m := 6) (by decide))) (bo_mod (by decide))
    rw [← pickD_map]
    exact ev_slice (ev_name (.tail (.tail .head))) (ept_some (ev_name .head)) (ept_some ev_int) (ept_some ev_int) (by decide) (by rw [List.length_map]; exact Nat.le_trans hlen (by decide)))) (.tail (.tail .head)) (fun env h => by cases env; cases h; rfl)
end
theorem si_castW {d r : D} {i j : Int} (e : i = j) (h : SI d (.int j) r) : SI d (.int i) r := e ▸ h
theorem ev_cast {c : SC} {k : Nat} {G : Ctx} {e : Expr} {d d' : D} (h : EV c k G e d) (q : d = d') : EV c k G e d' := q ▸ h
theorem ev_pair {c : SC} {k : Nat} {G : Ctx} {i : Int} {x : Str} {m1 m2 n : Nat} {p q r : Pos} : EV c k G (.Tuple [.Constant (.int i) m1 p, .Constant (.str x) m2 q] n r) (.tup [.int i, .str x]) := ev_tup (evs_cons ev_int (evs_cons ev_str evs_nil)) (Nat.le_of_ble_eq_true rfl)
theorem star_list {es es' : List Expr} {p : Pos} : ∀ env, starEach (.List es p :: es') env = (false, eval (.List es p) env) :: starEach es' env := fun _ => rfl
theorem star_const {q : Const} {es' : List Expr} {n : Nat} {p : Pos} : ∀ env, starEach (.Constant q n p :: es') env = (false, eval (.Constant q n p) env) :: starEach es' env := fun _ => rfl
theorem noswap_list {es : List Expr} {p : Pos} : NoSwap (.List es p) := by intro _ _ _; rfl
structure FTup (e : Expr) (d : D) : Prop where
  tup : ∃ es n p, e = .Tuple es n p
  ev : ∀ c k G, EV c k G e d
theorem FTup.star {e : Expr} {d : D} (h : FTup e d) {es : List Expr} : ∀ env, starEach (e :: es) env = (false, eval e env) :: starEach es env := by
  obtain ⟨_, _, _, rfl⟩ := h.tup; intro _; rfl
structure FTups (es : List Expr) (ds : List D) : Prop where
  ev : ∀ c k G, EVS c k G es ds
theorem FTups.nil : FTups [] [] := ⟨fun _ _ _ => evs_nil⟩
theorem FTups.cons {e : Expr} {d : D} {es : List Expr} {ds : List D} (h : FTup e d) (t : FTups es ds) : FTups (e :: es) (d :: ds) := ⟨fun c k G => evs_cons (h.ev c k G) (t.ev c k G) h.star⟩
theorem FTup.pair {i : Int} {x : Str} {m1 m2 n : Nat} {p q r : Pos} : FTup (.Tuple [.Constant (.int i) m1 p, .Constant (.str x) m2 q] n r) (.tup [.int i, .str x]) := ⟨⟨_, _, _, rfl⟩, fun _ _ _ => ev_pair⟩
theorem FTup.fam {x : Str} {n m : Nat} {es : List Expr} {ds : List D} {p q r : Pos} (h : FTups es ds) (hl : Nat.ble ds.length 16777216 = true) : FTup (.Tuple [.Constant (.str x) n p, .List es q] m r) (.tup [.str x, .list ds]) :=
  ⟨⟨_, _, _, rfl⟩, fun c k G => ev_tup (evs_cons ev_str (evs_cons (EVN.ev (evn_list (h.ev c k G) (Nat.le_of_ble_eq_true hl))) evs_nil star_list) star_const) (Nat.le_of_ble_eq_true rfl)⟩
noncomputable def pairD (p : Str × Str) : D := .tup [.str p.1, .str p.2]
theorem Cs.prs_len (c : Cs) : c.prs.length = c.many := by unfold Cs.prs; rw [List.length_map, List.length_range]
theorem Cs.many_le (c : Cs) : 1 ≤ c.many ∧ c.many ≤ 3 := by unfold Cs.many; lia
theorem Cs.prs_at (c : Cs) {k : Nat} (h : k < c.many) : c.prs[k]? = some (⟨#[(c.pair k).1]⟩, (c.pair k).2) := by
  unfold Cs.prs; rw [List.getElem?_map, List.getElem?_range h]; rfl
noncomputable def famsD : List D := [.tup [.str "hp", .list [.tup [.int 13259, .str "hp"], .tup [.int 13271, .str "ph"]]], .tup [.str "st", .list [.tup [.int 64262, .str "st"], .tup [.int 223, .str "ss"]]], .tup [.str "fi", .list [.tup [.int 64257, .str "fi"], .tup [.int 64256, .str "ff"], .tup [.int 64259, .str "ffi"]]], .tup [.str "co", .list [.tup [.int 13255, .str "co."], .tup [.int 8470, .str "no"]]]]
theorem law2_shape : ∃ (es : List Expr) (p q pos : Pos), lawSt 2 = .Assign [.Name "families" p] (.List es q) pos ∧ ∀ c k G, EVN c k G (.List es q) famsD := by
  obtain ⟨es, p, q, pos, h, t⟩ : ∃ (es : List Expr) (p q pos : Pos), lawSt 2 = .Assign [.Name "families" p] (.List es q) pos ∧ FTups es famsD :=
    ⟨_, _, _, _, rfl, .cons (.fam (.cons .pair (.cons .pair .nil)) rfl) (.cons (.fam (.cons .pair (.cons .pair .nil)) rfl) (.cons (.fam (.cons .pair (.cons .pair (.cons .pair .nil))) rfl) (.cons (.fam (.cons .pair (.cons .pair .nil)) rfl) .nil)))⟩
  exact ⟨es, p, q, pos, h, fun c k G => evn_list (t.ev c k G) (Nat.le_of_ble_eq_true rfl)⟩
theorem famD_eq : famD = D.list [.tup [.str "hp", .list [.tup [.int 13259, .str "hp"], .tup [.int 13271, .str "ph"]]], .tup [.str "st", .list [.tup [.int 64262, .str "st"], .tup [.int 223, .str "ss"]]], .tup [.str "fi", .list [.tup [.int 64257, .str "fi"], .tup [.int 64256, .str "ff"], .tup [.int 64259, .str "ffi"]]], .tup [.str "co", .list [.tup [.int 13255, .str "co."], .tup [.int 8470, .str "no"]]]] := by
  simp only [famD, famT, doublesD, List.map_cons, List.map_nil]
theorem fam_at (c : Cs) : (famT.map fun p => D.tup [.str p.1, doublesD p.2])[c.c0 % 4]? = some (.tup [.str c.letters, doublesD c.doubles]) := by
  have h : c.c0 % 4 < 4 := Nat.mod_lt _ (by decide)
  unfold Cs.letters Cs.doubles
  revert h
  generalize c.c0 % 4 = f
  revert f
  refine lt4 ?_ ?_ ?_ ?_ <;> rfl
theorem letters_len (c : Cs) : c.letters.cps.size = 2 := by
  have h : c.c0 % 4 < 4 := Nat.mod_lt _ (by decide)
  unfold Cs.letters
  match c.c0 % 4, h with
  | 0, _ => decide +kernel
  | 1, _ => decide +kernel
  | 2, _ => decide +kernel
  | 3, _ => decide +kernel
theorem getD_some {a : Array Nat} {i : Nat} (h : i < a.size) : a[i]? = some (a.getD i 0) := by simp [h]
section
variable {c : Cs} {sl cs : List D} (hc : ∀ k, k < 6 → cs[k]? = some (.int (c.at k : Int)))
theorem law2 : ES c_law 30 [some (.imm (.list sl)), some (.imm (.list (ownL.map D.int))), some (.imm (.list cs)), none, none, none, none, none, none, none, none, none, none, none, none, none, none, none, none, none, none, none, none, none, none, none, none, none, none, none, none] (lawSt 2) (.next [some (.imm (.list sl)), some (.imm (.list (ownL.map D.int))), some (.imm (.list cs)), some (.imm famD), none, none, none, none, none, none, none, none, none, none, none, none, none, none, none, none, none, none, none, none, none, none, none, none, none, none, none]) := by
  obtain ⟨es, p, q, pos, h, he⟩ := law2_shape
  have e : famD = .list famsD := famD_eq
  rw [h, e]
  exact es_assign (EVN.ev (he c_law 30 _)) (.tail (.tail (.tail .head))) noswap_list
include hc
theorem law3 : ES c_law 30 [some (.imm (.list sl)), some (.imm (.list (ownL.map D.int))), some (.imm (.list cs)), some (.imm famD), none, none, none, none, none, none, none, none, none, none, none, none, none, none, none, none, none, none, none, none, none, none, none, none, none, none, none] (lawSt 3) (.next [some (.imm (.list sl)), some (.imm (.list (ownL.map D.int))), some (.imm (.list cs)), some (.imm famD), some (.imm (.str c.letters)), some (.imm (doublesD c.doubles)), none, none, none, none, none, none, none, none, none, none, none, none, none, none, none, none, none, none, none, none, none, none, none, none, none]) := by
  conv => arg 4; whnf
  exact es_assign_tup (ev_sub (ev_name (.tail (.tail (.tail .head)))) (ev_bin (ev_sub (ev_name (.tail (.tail .head))) ev_int (si_list (i := 0) (hc 0 (by decide)) (by decide))) ev_int (bo_mod (by decide))) (si_castW (j := ((c.c0 % 4 : Nat) : Int)) (by show ((c.c0 : Nat) : Int) % 4 = _; rfl) (si_list (fam_at c) (by exact Nat.lt_trans (Nat.mod_lt _ (by decide)) (by decide))))) (ass_name (.tail (.tail (.tail (.tail .head)))) (ass_name (.tail (.tail (.tail (.tail (.tail .head))))) ASS.nil)) (hw := fun env h => rfl)
theorem law4 : ES c_law 30 [some (.imm (.list sl)), some (.imm (.list (ownL.map D.int))), some (.imm (.list cs)), some (.imm famD), some (.imm (.str c.letters)), some (.imm (doublesD c.doubles)), none, none, none, none, none, none, none, none, none, none, none, none, none, none, none, none, none, none, none, none, none, none, none, none, none] (lawSt 4) (.next [some (.imm (.list sl)), some (.imm (.list (ownL.map D.int))), some (.imm (.list cs)), some (.imm famD), some (.imm (.str c.letters)), some (.imm (doublesD c.doubles)), some (.imm (.int c.many)), none, none, none, none, none, none, none, none, none, none, none, none, none, none, none, none, none, none, none, none, none, none, none, none]) := by
  conv => arg 4; whnf
  exact es_assign (ev_cast (ev_bin ev_int (ev_bin (ev_sub (ev_name (.tail (.tail .head))) ev_int (si_list (i := 1) (hc 1 (by decide)) (by decide))) ev_int (bo_mod (by decide))) bo_add) (by show D.int (1 + ((c.c1 : Nat) : Int) % 3) = _; unfold Cs.many; rfl)) (.tail (.tail (.tail (.tail (.tail (.tail .head))))))
theorem law5 (hsg : ∀ k, k < c.many → FC "_law_sign" 30 [.int ((c.c2 / 4 ^ k % 4 : Nat) : Int), .int ((c.c3 / 40 ^ k : Nat) : Int), .str c.letters, doublesD c.doubles] (pairD (⟨#[(c.pair k).1]⟩, (c.pair k).2))) : ES c_law 30 [some (.imm (.list sl)), some (.imm (.list (ownL.map D.int))), some (.imm (.list cs)), some (.imm famD), some (.imm (.str c.letters)), some (.imm (doublesD c.doubles)), some (.imm (.int c.many)), none, none, none, none, none, none, none, none, none, none, none, none, none, none, none, none, none, none, none, none, none, none, none, none] (lawSt 5) (.next [some (.imm (.list sl)), some (.imm (.list (ownL.map D.int))), some (.imm (.list cs)), some (.imm famD), some (.imm (.str c.letters)), some (.imm (doublesD c.doubles)), some (.imm (.int c.many)), some (.own (.list (c.prs.map pairD))), none, none, none, none, none, none, none, none, none, none, none, none, none, none, none, none, none, none, none, none, none, none, none]) := by
  conv => arg 4; whnf
  have hm := c.many_le
  have efin : (c.prs.map pairD) = (fun i => (c.prs.take i).map pairD) (rangeL 0 1 c.many).length := by
    simp only [rangeL, List.length_map, List.length_range]
    rw [List.take_of_length_le (by rw [c.prs_len]; exact Nat.le_refl _)]
  rw [efin]
  refine es_use_list (c' := ⟨relS _ c_law.sc, ["k", "cells", "letters", "doubles"], ["_law_sign"]⟩) (G' := [none, some (.imm (.list cs)), some (.imm (.str c.letters)), some (.imm (doublesD c.doubles))]) (fun i => (c.prs.take i).map pairD) rfl (iterX_of (iter_range1 (n := c.many) .head (ev_name (.tail (.tail (.tail (.tail (.tail (.tail .head))))))) (by exact Nat.le_trans hm.2 (by decide)))) (by decide +kernel) rfl (by decide +kernel) (.non (.var (.tail (.tail .head)) (by decide +kernel) (.var (.tail (.tail (.tail (.tail .head)))) (by decide +kernel) (.var (.tail (.tail (.tail (.tail (.tail .head))))) (by decide +kernel) .nil)))) (fun i d hd => ?_) (.tail (.tail (.tail (.tail (.tail (.tail (.tail .head))))))) (fun env h => by cases env; cases h; rfl)
  have hi : i < c.many := by
    rcases Nat.lt_or_ge i c.many with q | q
    · exact q
    · rw [List.getElem?_eq_none (by simpa [rangeL] using q)] at hd; cases hd
  have : d = .int (i : Int) := by simp [rangeL, hi] at hd; exact hd.symm
  subst this
  refine ⟨[some (.imm (.int i)), some (.imm (.list cs)), some (.imm (.str c.letters)), some (.imm (doublesD c.doubles))], asl_name .head (by decide +kernel), .drop (.same (.same (.same .nil))), ?_, .inl ⟨.nil, ?_⟩⟩
  · intro x d q
    exact noOwn_of rfl x d q
  · rw [List.take_add_one, c.prs_at hi, List.map_append]
    refine act_list ?_ (noOwn_of rfl) (by simp; lia)
    have h4 : (4 : Int) ^ i < 2 ^ 8000 := by
      have : (4 : Int) ^ i ≤ 4 ^ 3 := by
        have := Nat.pow_le_pow_right (n := 4) (by decide) (show i ≤ 3 by exact Nat.le_of_lt (Nat.lt_of_lt_of_le hi hm.2))
        exact_mod_cast this
      exact Int.lt_of_le_of_lt this (by decide)
    have b4 : (Builtin.Int.intBits 4 : Int) * (i : Nat) ≤ 2 ^ 27 := by
      have : Builtin.Int.intBits 4 = 3 := by decide
      rw [this]; lia
    have b40 : (Builtin.Int.intBits 40 : Int) * (i : Nat) ≤ 2 ^ 27 := by
      have : Builtin.Int.intBits 40 = 6 := by decide
      rw [this]; lia
    have h40 : (40 : Int) ^ i < 2 ^ 8000 := by
      have : (40 : Int) ^ i ≤ 40 ^ 3 := by
        have := Nat.pow_le_pow_right (n := 40) (by decide) (show i ≤ 3 by exact Nat.le_of_lt (Nat.lt_of_lt_of_le hi hm.2))
        exact_mod_cast this
      exact Int.lt_of_le_of_lt this (by decide)
    refine ev_call ht0 .head (by decide) (evs_cons (ev_cast (ev_bin (ev_bin (ev_sub (ev_name (.tail .head)) ev_int (si_list (i := 2) (hc 2 (by decide)) (by decide))) (ev_bin ev_int (ev_name .head) (bo_pow (b4))) (bo_div (Int.pow_pos (by decide)) (h4))) ev_int (bo_mod (by decide))) ?_) (evs_cons (ev_cast (ev_bin (ev_sub (ev_name (.tail .head)) ev_int (si_list (i := 3) (hc 3 (by decide)) (by decide))) (ev_bin ev_int (ev_name .head) (bo_pow (b40))) (bo_div (Int.pow_pos (by decide)) (h40))) ?_) (evs_cons (ev_name (.tail (.tail .head))) (evs_cons (ev_name (.tail (.tail (.tail .head)))) evs_nil)))) (hsg i hi)
    · show D.int (((c.c2 : Nat) : Int) / 4 ^ i % 4) = _
      congr 1
    · show D.int (((c.c3 : Nat) : Int) / 40 ^ i) = _
      congr 1
end
theorem str_ext {x y : Str} (h : x.cps.toList = y.cps.toList) : x = y := by
  cases x; cases y; simpa using h
theorem app_list {x y : Str} : (x ++ y).cps.toList = x.cps.toList ++ y.cps.toList := by
  show (x.cps ++ y.cps).toList = _; simp
theorem join_list : ∀ l : List Str, (Txt.join "" l).cps.toList = (l.map fun s => s.cps.toList).flatten := by
  intro l
  have e : Txt.join "" l = Str.join "" l := by unfold Txt.join; rw [StrLaws.glued_eq_join]
  rw [e]
  induction l with
  | nil => rfl
  | cons x l ih =>
    cases l with
    | nil => show x.cps.toList = _; simp
    | cons y l =>
      show (x ++ "" ++ Str.join "" (y :: l)).cps.toList = _
      rw [app_list, app_list, ih (by unfold Txt.join; rw [StrLaws.glued_eq_join])]
      have : ("" : Str).cps.toList = [] := by decide +kernel
      simp [this]
theorem join_ones {l : List Nat} : Txt.join "" (l.map fun n => (⟨#[n]⟩ : Str)) = ⟨l.toArray⟩ := by
  apply str_ext
  rw [join_list]
  simp only [List.map_map]
  induction l with
  | nil => rfl
  | cons a l ih => simp at ih ⊢; exact ih
theorem joinOk_ones {l : List Nat} (h : l.length ≤ 500000) : JoinOk "" (l.map fun n => (⟨#[n]⟩ : Str)) = true := by
  refine joinOk_of_weight ?_ (by decide)
  have : ((l.map fun n => (⟨#[n]⟩ : Str)).map (·.length)).sum = l.length := by
    rw [List.map_map]
    clear h
    induction l with
    | nil => rfl
    | cons a l ih => rw [List.map_cons, List.sum_cons, ih, List.length_cons]; show 1 + _ = _; exact Nat.add_comm _ _
  rw [this, List.length_map]; lia
theorem Cs.letters_get (c : Cs) {i : Nat} (h : i < 2) : c.letters.cps[i]? = some (c.letters.cps.getD i 0) := getD_some (by rw [letters_len]; exact h)
theorem stops_get {i : Nat} (h : i < 3) : (".:\n" : Str).cps[i]? = some ((".:\n" : Str).cps.getD i 0) := getD_some (by
  have : (".:\n" : Str).cps.size = 3 := by decide +kernel
  exact Nat.lt_of_lt_of_le h (Nat.le_of_eq this.symm))
theorem Cs.nOthers_le (c : Cs) : c.nOthers ≤ 3 := by
  have := c.many_le
  unfold Cs.nOthers
  have : c.c1 / 3 % (5 - c.many) < 5 - c.many := Nat.mod_lt _ (by omega)
  omega
section
variable {c : Cs} {sl cs : List D} (hc : ∀ k, k < 6 → cs[k]? = some (.int (c.at k : Int)))
include hc
theorem law6 : ES c_law 30 [some (.imm (.list sl)), some (.imm (.list (ownL.map D.int))), some (.imm (.list cs)), some (.imm famD), some (.imm (.str c.letters)), some (.imm (doublesD c.doubles)), some (.imm (.int c.many)), some (.imm (.list (c.prs.map pairD))), none, none, none, none, none, none, none, none, none, none, none, none, none, none, none, none, none, none, none, none, none, none, none] (lawSt 6) (.next [some (.imm (.list sl)), some (.imm (.list (ownL.map D.int))), some (.imm (.list cs)), some (.imm famD), some (.imm (.str c.letters)), some (.imm (doublesD c.doubles)), some (.imm (.int c.many)), some (.imm (.list (c.prs.map pairD))), some (.imm (.list (c.others.map D.str))), none, none, none, none, none, none, none, none, none, none, none, none, none, none, none, none, none, none, none, none, none, none]) := by
  conv => arg 4; whnf
  have e : c.others.map D.str = (rangeL 0 1 c.nOthers).filterMap (fun d => match d with | .int i => some (.str ⟨#[(".:\n" : Str).cps.getD (c.c0 / 4 / 3 ^ i.toNat % 3) 0]⟩) | _ => none) := by
    unfold Cs.others rangeL
    rw [List.filterMap_map, List.map_map, ← List.filterMap_eq_map]
    congr 1
    funext k
    simp
  have hn := c.nOthers_le
  have hm := c.many_le
  refine es_assignS (EVN.ev (by
    rw [e]
    refine evn_comp (c' := ⟨relS _ c_law.sc, ["k", "cells"], []⟩) (G' := [none, some (.imm (.list cs))]) _ (iter_range1 (n := c.nOthers) .head (ev_cast (ev_bin (ev_bin (ev_sub (ev_name (.tail (.tail .head))) ev_int (si_list (i := 1) (hc 1 (by decide)) (by decide))) ev_int (bo_div (by decide) (by decide))) (ev_bin ev_int (ev_name (.tail (.tail (.tail (.tail (.tail (.tail .head))))))) bo_sub) (bo_mod (by lia))) ?_) (by exact Nat.le_trans hn (by decide))) (by simp [rangeL]; exact Nat.le_trans hn (by decide)) (by decide +kernel) rfl (by decide +kernel) (.non (.var (.tail (.tail .head)) (by decide +kernel) .nil)) (fun d hd => ?_)
    · show D.int (((c.c1 : Nat) : Int) / 3 % (5 - ((c.many : Nat) : Int))) = _
      congr 1
      have : (5 - ((c.many : Nat) : Int)) = ((5 - c.many : Nat) : Int) := by lia
      rw [this]; unfold Cs.nOthers; rfl
    obtain ⟨k, hk, rfl⟩ := List.mem_map.mp hd
    have hk3 := List.mem_range.mp hk
    have ek : (0 : Int) + (k : Int) * 1 = (k : Int) := by exact by simp
    rw [ek]
    refine ⟨[some (.imm (.int k)), some (.imm (.list cs))], asl_name .head (by decide +kernel), .drop (.same .nil), noOwn_of rfl, .nil, ?_⟩
    show EV _ _ _ _ (.str ⟨#[(".:\n" : Str).cps.getD (c.c0 / 4 / 3 ^ k % 3) 0]⟩)
    have h3 : (3 : Int) ^ k < 2 ^ 8000 := by
      have : (3 : Int) ^ k ≤ 3 ^ 3 := by
        have := Nat.pow_le_pow_right (n := 3) (by decide) (show k ≤ 3 by exact Nat.le_of_lt (Nat.lt_of_lt_of_le hk3 hn))
        exact_mod_cast this
      exact Int.lt_of_le_of_lt this (by decide)
    have b3 : (Builtin.Int.intBits 3 : Int) * (k : Nat) ≤ 2 ^ 27 := by
      have : Builtin.Int.intBits 3 = 2 := by decide
      rw [this]; lia
    refine ev_sub ev_str (ev_cast (d' := .int ((c.c0 / 4 / 3 ^ k % 3 : Nat) : Int)) (ev_bin (ev_bin (ev_bin (ev_sub (ev_name (.tail .head)) ev_int (si_list (i := 0) (hc 0 (by decide)) (by decide))) ev_int (bo_div (by decide) (by decide))) (ev_bin ev_int (ev_name .head) (bo_pow (b3))) (bo_div (Int.pow_pos (by decide)) (h3))) ev_int (bo_mod (by decide))) ?_) (si_str (stops_get (Nat.mod_lt _ (by decide))) (Nat.lt_of_lt_of_le (Nat.mod_lt _ (by decide)) (by decide)))
    show D.int (((c.c0 : Nat) : Int) / 4 / 3 ^ k % 3) = _
    congr 1)) (.tail (.tail (.tail (.tail (.tail (.tail (.tail (.tail .head)))))))) (fun env h => by cases env; cases h; rfl)
theorem law7 : ES c_law 30 [some (.imm (.list sl)), some (.imm (.list (ownL.map D.int))), some (.imm (.list cs)), some (.imm famD), some (.imm (.str c.letters)), some (.imm (doublesD c.doubles)), some (.imm (.int c.many)), some (.imm (.list (c.prs.map pairD))), some (.imm (.list (c.others.map D.str))), none, none, none, none, none, none, none, none, none, none, none, none, none, none, none, none, none, none, none, none, none, none] (lawSt 7) (.next [some (.imm (.list sl)), some (.imm (.list (ownL.map D.int))), some (.imm (.list cs)), some (.imm famD), some (.imm (.str c.letters)), some (.imm (doublesD c.doubles)), some (.imm (.int c.many)), some (.imm (.list (c.prs.map pairD))), some (.imm (.list (c.others.map D.str))), some (.imm (.str c.word)), none, none, none, none, none, none, none, none, none, none, none, none, none, none, none, none, none, none, none, none, none]) := by
  conv => arg 4; whnf
  have e : (c.wordL.map fun n => (⟨#[n]⟩ : Str)).map D.str = (rangeL 0 1 (c.c4 / 8 % 4)).filterMap (fun d => match d with | .int i => some (.str ⟨#[c.letters.cps.getD (c.c4 / 2 ^ i.toNat % 2) 0]⟩) | _ => none) := by
    unfold Cs.wordL rangeL
    rw [List.filterMap_map, List.map_map, List.map_map, ← List.filterMap_eq_map]
    congr 1
    funext k
    simp
  have hw : c.wordL.length = c.c4 / 8 % 4 := by unfold Cs.wordL; simp
  have h4 : c.c4 / 8 % 4 < 4 := Nat.mod_lt _ (by decide)
  have ew : c.word = Txt.join "" (c.wordL.map fun n => (⟨#[n]⟩ : Str)) := join_ones.symm
  rw [ew]
  refine es_assignS (ev_meth ev_str (evs_cons (EVN.ev (by
    rw [e]
    refine evn_comp (c' := ⟨relS _ c_law.sc, ["k", "cells", "letters"], []⟩) (G' := [none, some (.imm (.list cs)), some (.imm (.str c.letters))]) _ (iter_range1 (n := c.c4 / 8 % 4) .head (ev_cast (ev_bin (ev_bin (ev_sub (ev_name (.tail (.tail .head))) ev_int (si_list (i := 4) (hc 4 (by decide)) (by decide))) ev_int (bo_div (by decide) (by decide))) ev_int (bo_mod (by decide))) ?_) (by exact Nat.le_of_lt (Nat.lt_of_lt_of_le h4 (by decide)))) (by simp [rangeL]; exact Nat.le_of_lt (Nat.lt_of_lt_of_le h4 (by decide))) (by decide +kernel) rfl (by decide +kernel) (.non (.var (.tail (.tail .head)) (by decide +kernel) (.var (.tail (.tail (.tail (.tail .head)))) (by decide +kernel) .nil))) (fun d hd => ?_)
    · show D.int (((c.c4 : Nat) : Int) / 8 % 4) = _
      congr 1
    obtain ⟨k, hk, rfl⟩ := List.mem_map.mp hd
    have hk3 := List.mem_range.mp hk
    have ek : (0 : Int) + (k : Int) * 1 = (k : Int) := by exact by simp
    rw [ek]
    refine ⟨[some (.imm (.int k)), some (.imm (.list cs)), some (.imm (.str c.letters))], asl_name .head (by decide +kernel), .drop (.same (.same .nil)), noOwn_of rfl, .nil, ?_⟩
    show EV _ _ _ _ (.str ⟨#[c.letters.cps.getD (c.c4 / 2 ^ k % 2) 0]⟩)
    have h3 : (2 : Int) ^ k < 2 ^ 8000 := by
      have : (2 : Int) ^ k ≤ 2 ^ 3 := by
        have := Nat.pow_le_pow_right (n := 2) (by decide) (show k ≤ 3 by lia)
        exact_mod_cast this
      exact Int.lt_of_le_of_lt this (by decide)
    have b3 : (Builtin.Int.intBits 2 : Int) * (k : Nat) ≤ 2 ^ 27 := by
      have : Builtin.Int.intBits 2 = 2 := by decide
      rw [this]; lia
    refine ev_sub (ev_name (.tail (.tail .head))) (ev_cast (d' := .int ((c.c4 / 2 ^ k % 2 : Nat) : Int)) (ev_bin (ev_bin (ev_sub (ev_name (.tail .head)) ev_int (si_list (i := 4) (hc 4 (by decide)) (by decide))) (ev_bin ev_int (ev_name .head) (bo_pow (b3))) (bo_div (Int.pow_pos (by decide)) (h3))) ev_int (bo_mod (by decide))) ?_) (si_str (c.letters_get (Nat.mod_lt _ (by decide))) (Nat.lt_of_lt_of_le (Nat.mod_lt _ (by decide)) (by decide)))
    show D.int (((c.c4 : Nat) : Int) / 2 ^ k % 2) = _
    congr 1)) evs_nil) (mc_join (joinOk_ones (by exact Nat.le_of_lt (Nat.lt_of_le_of_lt (Nat.le_of_eq hw) (Nat.lt_trans h4 (by decide))))))) (.tail (.tail (.tail (.tail (.tail (.tail (.tail (.tail (.tail .head))))))))) (fun env h => by cases env; cases h; rfl)
end
structure SignF (c : Cs) : Prop where
  one : ∀ p ∈ c.prs, ∃ ch : Nat, p.1 = ⟨#[ch]⟩ ∧ b1Has ch = decide (p.2 = "") ∧ (p.2 ≠ "" → b3Of ch = p.2) ∧ Builtin.Str.tooLong (Txt.lower ⟨#[ch]⟩).length = false ∧ p.2.length ≤ 3
  uniq : ∀ p ∈ c.prs, ∀ q ∈ c.prs, p.1 = q.1 → p.2 = q.2
noncomputable def Cs.foldsL (c : Cs) : List (Str × D) := dictOf c.prs fun p => .str p.2
noncomputable def Cs.movesL (c : Cs) : List (Str × D) := dictOf c.prs fun p => .list (movesOf p.2 c.word c.front)
theorem dictOf_next {prs : List (Str × Str)} {F : Str × Str → D} {i : Nat} {p : Str × Str} (h : prs[i]? = some p) : dictOf (prs.take (i + 1)) F = setD (dictOf (prs.take i) F) p.1 (F p) := by
  unfold dictOf
  rw [List.take_add_one, h, List.foldl_append]; rfl
theorem dictOf_hs {prs : List (Str × Str)} {F : Str × Str → D} {i : Nat} {p : Str × Str} (hF : ∀ p ∈ prs, ∀ q ∈ prs, p.1 = q.1 → F p = F q) (h : p ∈ prs) : ∀ d', (p.1, d') ∈ dictOf (prs.take i) F → d' = F p := by
  intro d' m
  rcases dictFold_in (prs.take i) [] _ m with q | ⟨q, m, e⟩
  · cases q
  · have e1 : p.1 = q.1 := congrArg (·.1) e
    have e2 : d' = F q := congrArg (·.2) e
    rw [e2]; exact (hF p h q (List.mem_of_mem_take m) e1).symm
theorem prs_ix {c : Cs} {i : Nat} {d : D} (h : (c.prs.map pairD)[i]? = some d) : ∃ p, c.prs[i]? = some p ∧ p ∈ c.prs ∧ d = pairD p := by
  rw [List.getElem?_map] at h
  cases e : c.prs[i]? with
  | none => rw [e] at h; cases h
  | some p => rw [e] at h; cases h; exact ⟨p, rfl, List.mem_of_getElem? e, rfl⟩
theorem it_cast {c : SC} {k : Nat} {G : Ctx} {e : Expr} {b b' : Bool} (h : IT c k G e b) (q : b = b') : IT c k G e b' := q ▸ h
theorem word_len (c : Cs) : c.word.length ≤ 3 := by
  show c.wordL.toArray.size ≤ 3
  unfold Cs.wordL; simp; omega
section
variable {c : Cs} {sl cs : List D} (hc : ∀ k, k < 6 → cs[k]? = some (.int (c.at k : Int))) (S : SignF c)
include hc in
theorem law8 : ES c_law 30 [some (.imm (.list sl)), some (.imm (.list (ownL.map D.int))), some (.imm (.list cs)), some (.imm famD), some (.imm (.str c.letters)), some (.imm (doublesD c.doubles)), some (.imm (.int c.many)), some (.imm (.list (c.prs.map pairD))), some (.imm (.list (c.others.map D.str))), some (.imm (.str c.word)), none, none, none, none, none, none, none, none, none, none, none, none, none, none, none, none, none, none, none, none, none] (lawSt 8) (.next [some (.imm (.list sl)), some (.imm (.list (ownL.map D.int))), some (.imm (.list cs)), some (.imm famD), some (.imm (.str c.letters)), some (.imm (doublesD c.doubles)), some (.imm (.int c.many)), some (.imm (.list (c.prs.map pairD))), some (.imm (.list (c.others.map D.str))), some (.imm (.str c.word)), some (.imm (.bool c.front)), none, none, none, none, none, none, none, none, none, none, none, none, none, none, none, none, none, none, none, none]) := by
  conv => arg 4; whnf
  refine es_assign (ev_and (a := decide (c.c5 % 2 = 1)) (ev_cast (ev_cmp (ev_bin (ev_sub (ev_name (.tail (.tail .head))) ev_int (si_list (i := 5) (hc 5 (by decide)) (by decide))) ev_int (bo_mod (by decide))) ev_int co_eq) ?_) (fun e => ev_cast (ev_cmp (ev_name (.tail (.tail (.tail (.tail (.tail (.tail (.tail (.tail (.tail .head)))))))))) ev_str co_nes) ?_) (fun e => ?_)) (.tail (.tail (.tail (.tail (.tail (.tail (.tail (.tail (.tail (.tail .head))))))))))
  · show D.bool (decide (((c.c5 : Nat) : Int) % 2 = 1)) = _
    congr 1
    apply decide_eq_decide.mpr
    omega
  · unfold Cs.front; rw [e]; rfl
  · unfold Cs.front; rw [e]; rfl
include S
theorem law9 : ES c_law 30 [some (.imm (.list sl)), some (.imm (.list (ownL.map D.int))), some (.imm (.list cs)), some (.imm famD), some (.imm (.str c.letters)), some (.imm (doublesD c.doubles)), some (.imm (.int c.many)), some (.imm (.list (c.prs.map pairD))), some (.imm (.list (c.others.map D.str))), some (.imm (.str c.word)), some (.imm (.bool c.front)), none, none, none, none, none, none, none, none, none, none, none, none, none, none, none, none, none, none, none, none] (lawSt 9) (.next [some (.imm (.list sl)), some (.imm (.list (ownL.map D.int))), some (.imm (.list cs)), some (.imm famD), some (.imm (.str c.letters)), some (.imm (doublesD c.doubles)), some (.imm (.int c.many)), some (.imm (.list (c.prs.map pairD))), some (.imm (.list (c.others.map D.str))), some (.imm (.str c.word)), some (.imm (.bool c.front)), some (.imm (.dict c.foldsL)), none, none, none, none, none, none, none, none, none, none, none, none, none, none, none, none, none, none, none]) := by
  conv => arg 4; whnf
  have efin : c.foldsL = (fun i => dictOf (c.prs.take i) fun p => .str p.2) (c.prs.map pairD).length := by
    simp only [List.length_map, List.take_length]; rfl
  rw [efin]
  refine es_assignS (EVX.evd (evx_dict (c' := ⟨relS _ c_law.sc, ["sign", "meaning"], ["in_table_b1", "map_table_b3"]⟩) (G' := [none, none]) (fun i => dictOf (c.prs.take i) fun p => .str p.2) rfl (iterX_of (iter_list (ev_name (.tail (.tail (.tail (.tail (.tail (.tail (.tail .head)))))))))) (by decide +kernel) rfl (by decide +kernel) (.non (.non .nil)) (fun i d hd => ?_))) (.tail (.tail (.tail (.tail (.tail (.tail (.tail (.tail (.tail (.tail (.tail .head))))))))))) (fun env h => by cases env; cases h; rfl)
  obtain ⟨p, hp, hm, rfl⟩ := prs_ix hd
  obtain ⟨ch, e1, e2, e3, e4, e5⟩ := S.one p hm
  refine ⟨[some (.imm (.str p.1)), some (.imm (.str p.2))], asl_tup (.cons .head (by decide +kernel) (.cons (.tail .head) (by decide +kernel) .nil)), .drop (.drop .nil), noOwn_of rfl, .inl ⟨.nil, ?_⟩⟩
  rw [dictOf_next hp]
  refine act_dict (ev_name .head) (ev_if (v := decide (p.2 = "")) (by rw [← e2]; rw [e1]; exact it_val (ev_call ht0 .head (by decide) (evs_cons (ev_name .head) evs_nil) (FC.le (k := 30) (fc_b1 (k := 0)) (by decide))) tr_bool) (fun v => ?_) (fun v => ?_)) (noOwn_of rfl) (by have := dictOf_len (c.prs.take i) (fun p => .str p.2) []; have := c.prs_len; have := c.many_le; unfold dictOf; simp at *; omega) (dictOf_hs (fun p hp q hq e => by rw [S.uniq p hp q hq e]) hm)
  · have : p.2 = "" := of_decide_eq_true v
    rw [this]; exact ev_str
  · have ne : p.2 ≠ "" := of_decide_eq_false v
    rw [e1]
    exact ev_cast (ev_call ht0 (.tail .head) (by decide) (evs_cons (ev_name .head) evs_nil) (FC.le (k := 30) (fc_b3 (k := 0) e4) (by decide))) (by rw [e3 ne])
theorem law10 : ES c_law 30 [some (.imm (.list sl)), some (.imm (.list (ownL.map D.int))), some (.imm (.list cs)), some (.imm famD), some (.imm (.str c.letters)), some (.imm (doublesD c.doubles)), some (.imm (.int c.many)), some (.imm (.list (c.prs.map pairD))), some (.imm (.list (c.others.map D.str))), some (.imm (.str c.word)), some (.imm (.bool c.front)), some (.imm (.dict c.foldsL)), none, none, none, none, none, none, none, none, none, none, none, none, none, none, none, none, none, none, none] (lawSt 10) (.next [some (.imm (.list sl)), some (.imm (.list (ownL.map D.int))), some (.imm (.list cs)), some (.imm famD), some (.imm (.str c.letters)), some (.imm (doublesD c.doubles)), some (.imm (.int c.many)), some (.imm (.list (c.prs.map pairD))), some (.imm (.list (c.others.map D.str))), some (.imm (.str c.word)), some (.imm (.bool c.front)), some (.imm (.dict c.foldsL)), none, none, none, none, none, none, none, none, none, none, none, none, none, none, none, none, none, none, none]) := by
  conv => arg 4; whnf
  refine es_if (v := false) (it_cmp (EVN.ev (by
    have e : (([] : List Int).map D.int) = (c.prs.map pairD).filterMap (fun _ => none) := by simp
    rw [e]
    refine evn_comp (c' := ⟨relS _ c_law.sc, ["sign", "meaning", "folds"], ["in_table_b1"]⟩) (G' := [none, none, some (.imm (.dict c.foldsL))]) _ (iter_list (ev_name (.tail (.tail (.tail (.tail (.tail (.tail (.tail .head))))))))) (by have := c.prs_len; have := c.many_le; simp; omega) (by decide +kernel) rfl (by decide +kernel) (.non (.non (.var (.tail (.tail (.tail (.tail (.tail (.tail (.tail (.tail (.tail (.tail (.tail .head))))))))))) (by decide +kernel) .nil))) (fun d hd => ?_)
    obtain ⟨p, hm, rfl⟩ := List.mem_map.mp hd
    obtain ⟨ch, e1, e2, e3, e4, e5⟩ := S.one p hm
    refine ⟨[some (.imm (.str p.1)), some (.imm (.str p.2)), some (.imm (.dict c.foldsL))], asl_tup (.cons .head (by decide +kernel) (.cons (.tail .head) (by decide +kernel) .nil)), .drop (.drop (.same .nil)), noOwn_of rfl, .one (it_cast (b := (b1Has ch != decide (p.2 = "")) || !decide (p.2 = p.2)) ?_ (by rw [e2]; simp))⟩
    refine it_bool (at_or (it_cmp (ev_call ht0 .head (by decide) (evs_cons (ev_name .head) evs_nil) (by rw [e1]; exact FC.le (k := 30) (fc_b1 (k := 0)) (by decide))) (ev_cmp (ev_name (.tail .head)) ev_str co_eqs) co_isb) (fun _ => at_or1 (it_cmp (ev_sub (ev_name (.tail (.tail .head))) (ev_name .head) (si_dict (dictOf_lookup (fun p hp q hq e => by rw [S.uniq p hp q hq e]) hm))) (ev_name (.tail .head)) co_nes))))) (EVN.ev (evn_list evs_nil (by decide))) (co_ne_ints (ns := []) (ms := []))) (fun e => by cases e) (fun _ => ex_nil)
theorem law11 : ES c_law 30 [some (.imm (.list sl)), some (.imm (.list (ownL.map D.int))), some (.imm (.list cs)), some (.imm famD), some (.imm (.str c.letters)), some (.imm (doublesD c.doubles)), some (.imm (.int c.many)), some (.imm (.list (c.prs.map pairD))), some (.imm (.list (c.others.map D.str))), some (.imm (.str c.word)), some (.imm (.bool c.front)), some (.imm (.dict c.foldsL)), none, none, none, none, none, none, none, none, none, none, none, none, none, none, none, none, none, none, none] (lawSt 11) (.next [some (.imm (.list sl)), some (.imm (.list (ownL.map D.int))), some (.imm (.list cs)), some (.imm famD), some (.imm (.str c.letters)), some (.imm (doublesD c.doubles)), some (.imm (.int c.many)), some (.imm (.list (c.prs.map pairD))), some (.imm (.list (c.others.map D.str))), some (.imm (.str c.word)), some (.imm (.bool c.front)), some (.imm (.dict c.foldsL)), some (.imm (.dict c.movesL)), none, none, none, none, none, none, none, none, none, none, none, none, none, none, none, none, none, none]) := by
  conv => arg 4; whnf
  have efin : c.movesL = (fun i => dictOf (c.prs.take i) fun p => .list (movesOf p.2 c.word c.front)) (c.prs.map pairD).length := by
    simp only [List.length_map, List.take_length]; rfl
  rw [efin]
  refine es_assignS (EVX.evd (evx_dict (c' := ⟨relS _ c_law.sc, ["sign", "meaning", "word", "front"], ["_law_moves"]⟩) (G' := [none, none, some (.imm (.str c.word)), some (.imm (.bool c.front))]) (fun i => dictOf (c.prs.take i) fun p => .list (movesOf p.2 c.word c.front)) rfl (iterX_of (iter_list (ev_name (.tail (.tail (.tail (.tail (.tail (.tail (.tail .head)))))))))) (by decide +kernel) rfl (by decide +kernel) (.non (.non (.var (.tail (.tail (.tail (.tail (.tail (.tail (.tail (.tail (.tail .head))))))))) (by decide +kernel) (.var (.tail (.tail (.tail (.tail (.tail (.tail (.tail (.tail (.tail (.tail .head)))))))))) (by decide +kernel) .nil)))) (fun i d hd => ?_))) (.tail (.tail (.tail (.tail (.tail (.tail (.tail (.tail (.tail (.tail (.tail (.tail .head)))))))))))) (fun env h => by cases env; cases h; rfl)
  obtain ⟨p, hp, hm, rfl⟩ := prs_ix hd
  obtain ⟨ch, e1, e2, e3, e4, e5⟩ := S.one p hm
  refine ⟨[some (.imm (.str p.1)), some (.imm (.str p.2)), some (.imm (.str c.word)), some (.imm (.bool c.front))], asl_tup (.cons .head (by decide +kernel) (.cons (.tail .head) (by decide +kernel) .nil)), .drop (.drop (.same (.same .nil))), noOwn_of rfl, .inl ⟨.nil, ?_⟩⟩
  rw [dictOf_next hp]
  refine act_dict (ev_name .head) (ev_call ht0 .head (by decide) (evs_cons (ev_name (.tail .head)) (evs_cons (ev_name (.tail (.tail .head))) (evs_cons (ev_name (.tail (.tail (.tail .head)))) evs_nil))) (FC.le (k := 30) (fc_moves (k := 0) (by omega) (by have := word_len c; omega)) (by decide))) (noOwn_of rfl) (by have := dictOf_len (c.prs.take i) (fun p => .list (movesOf p.2 c.word c.front)) []; have := c.prs_len; have := c.many_le; unfold dictOf; simp at *; omega) (dictOf_hs (F := fun p => .list (movesOf p.2 c.word c.front)) (fun p hp q hq e => by rw [S.uniq p hp q hq e]) hm)
omit S in
theorem law12 : ES c_law 30 [some (.imm (.list sl)), some (.imm (.list (ownL.map D.int))), some (.imm (.list cs)), some (.imm famD), some (.imm (.str c.letters)), some (.imm (doublesD c.doubles)), some (.imm (.int c.many)), some (.imm (.list (c.prs.map pairD))), some (.imm (.list (c.others.map D.str))), some (.imm (.str c.word)), some (.imm (.bool c.front)), some (.imm (.dict c.foldsL)), some (.imm (.dict c.movesL)), none, none, none, none, none, none, none, none, none, none, none, none, none, none, none, none, none, none] (lawSt 12) (.next [some (.imm (.list sl)), some (.imm (.list (ownL.map D.int))), some (.imm (.list cs)), some (.imm famD), some (.imm (.str c.letters)), some (.imm (doublesD c.doubles)), some (.imm (.int c.many)), some (.imm (.list (c.prs.map pairD))), some (.imm (.list (c.others.map D.str))), some (.imm (.str c.word)), some (.imm (.bool c.front)), some (.imm (.dict c.foldsL)), some (.imm (.dict c.movesL)), some (.imm (.list (c.signs.map D.str))), none, none, none, none, none, none, none, none, none, none, none, none, none, none, none, none, none]) := by
  conv => arg 4; whnf
  have e : c.signs.map D.str = (c.prs.map pairD).filterMap (fun d => match d with | .tup (a :: _) => some a | _ => none) := by
    unfold Cs.signs
    rw [List.filterMap_map, List.map_map, ← List.filterMap_eq_map]; rfl
  refine es_assignS (EVN.ev (by
    rw [e]
    refine evn_comp (c' := ⟨relS _ c_law.sc, ["sign", "meaning"], []⟩) (G' := [none, none]) _ (iter_list (ev_name (.tail (.tail (.tail (.tail (.tail (.tail (.tail .head))))))))) (by have := c.prs_len; have := c.many_le; simp; omega) (by decide +kernel) rfl (by decide +kernel) (.non (.non .nil)) (fun d hd => ?_)
    obtain ⟨p, hm, rfl⟩ := List.mem_map.mp hd
    exact ⟨[some (.imm (.str p.1)), some (.imm (.str p.2))], asl_tup (.cons .head (by decide +kernel) (.cons (.tail .head) (by decide +kernel) .nil)), .drop (.drop .nil), noOwn_of rfl, .nil, ev_name .head⟩)) (.tail (.tail (.tail (.tail (.tail (.tail (.tail (.tail (.tail (.tail (.tail (.tail (.tail .head))))))))))))) (fun env h => by cases env; cases h; rfl)
end
inductive Acts (env : Env) : List (Value → Sem Unit) → List Str → Prop
  | nil : Acts env [] []
  | cons {f : Value → Sem Unit} {fs : List (Value → Sem Unit)} {x : Str} {xs : List Str} : (∀ (w : World) (A : Around) (v : Value) (Q : Unit → Shared → Prop) (E : Value → Shared → Prop) (s : Shared), wpAny (model pw w) A (bindName env x v) Q E s → wpAny (model pw w) A (f v) Q E s) → Acts env fs xs → Acts env (f :: fs) (x :: xs)
theorem acts_cons {env : Env} {x : Str} {p : Pos} {fs : List (Value → Sem Unit)} {xs : List Str} (h : Acts env fs xs) : Acts env (assign (.Name x p) env :: fs) (x :: xs) := .cons (fun w A v Q E s q => by rw [PySem.assign_Name]; exact wpAny_bind (wpAny_standAt q)) h
section
variable {c : SC} {k : Nat} {G G2 : Ctx}
theorem store_allA {w : World} {hb : Heap} {A : Around} {X₀ X : Addr → Prop} {env : Env} (O : Ok w hb A k) : ∀ {xs : List Str} {ps : List (V × Value)} {ts : List (Value → Sem Unit)} {G G2 : Ctx} (s : Shared), Acts env ts xs → PUTS c.ns G xs (ps.map (·.1)) G2 → FS c w hb X₀ X env s.heap G →
    (∀ p ∈ ps, RepV w X₀ X s.heap p.1 p.2 ∧ ∀ d, p.1 = .own d → (∀ a, p.2 = .ref a → a ≠ env.locals) ∧ ∀ y m, Has c.ns G y (.own m) → ¬ VarIs env s.heap y p.2) → ps.Pairwise (fun p q => ∀ d e, p.1 = .own d → q.1 = .own e → p.2 ≠ q.2) →
    wpAny (model pw w) A (assignInOrder ts (ps.map (·.2))) (fun _ s' => ∃ h' tk, s' = { s with heap := h', toks := tk } ∧ Pres (Mu X X₀) s.heap h' ∧ FS c w hb X₀ X env h' G2) (fun _ _ => False) s
  | [], [], _, _, _, s, Ac, P, F, _, _ => by
    cases P; cases Ac
    show wpAny _ A (assignInOrder [] []) _ _ s
    unfold assignInOrder
    exact wpAny_pure ⟨_, _, rfl, fun _ _ _ e => e, F⟩
  | [], _ :: _, _, _, _, s, Ac, P, F, _, _ => by cases P
  | _ :: _, [], _, _, _, s, Ac, P, F, _, _ => by cases P
  | x :: xs, p :: ps, _, G, G2, s, Ac, P, F, hp, pw' => by
    obtain ⟨v, u⟩ := p
    cases P with
    | cons p1 P1 =>
    cases Ac with
    | cons a1 A1 =>
    rename_i f fs
    show wpAny _ A (assignInOrder (f :: _) (u :: _)) _ _ s
    unfold assignInOrder
    obtain ⟨r0, o0⟩ := hp _ (List.mem_cons_self ..)
    refine wpAny_bind (wpAny_holding (a1 _ _ _ _ _ _ (wpAny_bindName (wp_store F p1 r0 o0 fun h' tk F' pr vx vy kp => ?_))))
    have w2 := List.pairwise_cons.mp pw'
    refine wpAny_mono (store_allA O { s with heap := h', toks := tk } A1 P1 F' (fun q m => ?_) w2.2) (fun _ s'' ⟨h2, t2, e2, p2, F2⟩ => ⟨h2, t2, by rw [e2], pres_trans pr (fun _ x => .inl x) p2, F2⟩) fun _ _ x => x
    obtain ⟨rq, oq⟩ := hp q (List.mem_cons_of_mem _ m)
    refine ⟨?_, fun d e => ⟨(oq d e).1, fun y m' hy vq => ?_⟩⟩
    · obtain ⟨qv, qu⟩ := q
      cases qv with
      | imm d => exact Rep.pres pr.mu d qu rq
      | own d =>
        obtain ⟨a, e, xa, x0, r⟩ := rq
        refine ⟨a, e, xa, x0, r.pres pr.mu fun o eo => kp a o ((oq d rfl).1 a e) (fun y ey => ?_) eo⟩
        exact r.not_cell (F.cells y a ey).2.choose_spec rfl
    · rcases Has.of_put p1 (SC.ok_nodup F.ok) hy with ⟨e1, e2⟩ | ⟨ne, hh⟩
      · subst e1
        have := VarIs.uniq vq vx
        exact w2.1 q m m' d e2.symm e this.symm
      · obtain ⟨u', vu, _⟩ := F.var y _ hh
        have := VarIs.uniq vq (vy y u' ne vu); subst this
        exact (oq d e).2 y m' hh vu
theorem es_assign_ownN {ts es : List Expr} {n m : Nat} {tp ep pos : Pos} {xs : List Str} {vs : List V} (h : EVXS c k G es vs) (P : PUTS c.ns G xs vs G2) (hl : vs.length ≤ 2 ^ 24) (hx : xs.length = vs.length)
    (hn : ∀ env, (assignEach ts env).length = xs.length ∧ (assignEach ts env).findIdx? (·.1) = Option.none ∧ Acts env ((assignEach ts env).map (·.2)) xs) (hs : NoSwap (.Tuple es m ep) := by intro _ _ _; rfl)
    (hw : ∀ env, env.scope = c.sc → swappedStores [.Tuple ts n tp] (.Tuple es m ep) env = pure Option.none) : ES c k G (.Assign [.Tuple ts n tp] (.Tuple es m ep) pos) (.next G2) := fun w hb A X₀ X env s O F =>
  Assign_Tuple (wpAny_Tuple (wpAny_mono (h w hb A X₀ X env s ep O F) (fun us s₁ ⟨k1, X', ps, x0, x1, F1, nv, e1, e2⟩ => ⟨by rw [← e2, List.length_map, ← List.length_map (f := (·.1)), e1]; exact hl, by
    have hlen : us.length = xs.length := by rw [hx, ← e1, ← e2]; simp
    have gp : Grow s₁.heap (s₁.heap.push { cls := .type "tuple", data := .seq us.toArray }) := fun _ _ e => Heap.get?_push_of_some _ e
    refine wpAny_assign_Tuple (items := us.toArray) O.handled ⟨_, Heap.get?_push_size _ rfl, rfl, _, rfl⟩ (by rw [(hn env).1]; simp [hlen]) (hn env).2.1 fun h' ex => ?_
    have g' : Grow s₁.heap h' := fun b o e => ex b o (Nat.ne_of_lt (Heap.lt_size (gp b o e))) (gp b o e)
    have F2 := F1.grow g'
    have old : ∀ b, s₁.heap.get? b = Option.none → s.heap.get? b = Option.none := fun b q => by
      cases z : s.heap.get? b with
      | none => rfl
      | some o => rw [kH k1 b o z] at q; cases q
    have := store_allA O (xs := xs) (ps := ps) (G2 := G2) { s₁ with heap := h' } (hn env).2.2 (by rw [e1]; exact P) F2 (fun p m => ?_) (nv.2)
    · rw [e2] at this
      refine wpAny_mono this (fun _ s3 zp => ?_) fun _ _ x => x
      obtain ⟨h3, t3, e3, p3, F3⟩ := zp
      obtain ⟨h1, t1, rfl, g1⟩ := k1
      refine ⟨h3, t3, by rw [e3], pres_trans (Grow.pres (fun b o e => g' b o (g1 b o e))) (mu_old x1) p3, rfl, X', x1, F3⟩
    · obtain ⟨r, b⟩ := nv.1 p m
      refine ⟨r.grow g', fun d e => ?_⟩
      obtain ⟨ad, e3, q, z⟩ := b d e
      refine ⟨fun a e4 => ?_, fun y m' hy vy => ?_⟩
      · rw [e3] at e4; cases e4
        intro e5; subst e5
        obtain ⟨mm, nl⟩ := F.loc.2
        obtain ⟨o, _, _, e', _⟩ := nl
        rw [q] at e'; cases e'
      · obtain ⟨u', vu, a', e5, _, _, hd⟩ := F.var y _ hy
        have := VarIs.uniq vy ((vu.grow (kH k1)).grow g'); rw [e3, e5] at this; cases this
        have := hd.some; rw [q] at this; cases this⟩) fun _ _ x => x.elim)) (hs (some (.Tuple ts n tp)) pos.line env) (hw env F.sc)
end
theorem len_list (x : Str) : x.length = x.cps.toList.length := by unfold Str.length; simp
theorem word_list (c : Cs) : c.word.cps.toList = c.wordL := by unfold Cs.word; simp
theorem wordL_len (c : Cs) : c.wordL.length ≤ 3 := by unfold Cs.wordL; simp; lia
theorem dots_list : ("..." : Str).cps.toList = [46, 46, 46] := by decide +kernel
noncomputable def Cs.parts (c : Cs) : List Str := c.wordL.map fun l => (⟨#[l]⟩ : Str) ++ "..."
theorem parts_one (c : Cs) : ∀ s ∈ c.parts, s.length = 4 := by
  intro s h
  obtain ⟨l, _, rfl⟩ := List.mem_map.mp h
  rw [len_list, app_list, dots_list]; rfl
theorem sum_const (n : Nat) : ∀ l : List Nat, (∀ a ∈ l, a = n) → l.sum = n * l.length
  | [], _ => rfl
  | a :: l, h => by rw [List.sum_cons, sum_const n l fun b m => h b (List.mem_cons_of_mem _ m), h a (List.mem_cons_self ..), List.length_cons, Nat.mul_add]; lia
theorem parts_sum (c : Cs) : (c.parts.map (·.length)).sum ≤ 12 := by
  rw [sum_const 4 _ (fun a h => by obtain ⟨s, m, rfl⟩ := List.mem_map.mp h; exact parts_one c s m)]
  have := wordL_len c
  unfold Cs.parts; simp; lia
theorem joined_len : ∀ l : List Str, (Txt.join "" l).length = (l.map (·.length)).sum := by
  intro l
  rw [len_list, join_list, List.length_flatten, List.map_map]
  congr 1
section
variable {c : Cs} {sl cs : List D} (hc : ∀ k, k < 6 → cs[k]? = some (.int (c.at k : Int)))
theorem law13 : ES c_law 30 [some (.imm (.list sl)), some (.imm (.list (ownL.map D.int))), some (.imm (.list cs)), some (.imm famD), some (.imm (.str c.letters)), some (.imm (doublesD c.doubles)), some (.imm (.int c.many)), some (.imm (.list (c.prs.map pairD))), some (.imm (.list (c.others.map D.str))), some (.imm (.str c.word)), some (.imm (.bool c.front)), some (.imm (.dict c.foldsL)), some (.imm (.dict c.movesL)), some (.imm (.list (c.signs.map D.str))), none, none, none, none, none, none, none, none, none, none, none, none, none, none, none, none, none] (lawSt 13) (.next [some (.imm (.list sl)), some (.imm (.list (ownL.map D.int))), some (.imm (.list cs)), some (.imm famD), some (.imm (.str c.letters)), some (.imm (doublesD c.doubles)), some (.imm (.int c.many)), some (.imm (.list (c.prs.map pairD))), some (.imm (.list (c.others.map D.str))), some (.imm (.str c.word)), some (.imm (.bool c.front)), some (.imm (.dict c.foldsL)), some (.imm (.dict c.movesL)), some (.imm (.list (c.signs.map D.str))), some (.imm (.str c.pattern)), none, none, none, none, none, none, none, none, none, none, none, none, none, none, none, none]) := by
  conv => arg 4; whnf
  have ep : c.pattern = (if c.front then ("" : Str) else ("..." : Str)) ++ Txt.join "" c.parts := by unfold Cs.pattern; cases c.front <;> rfl
  rw [ep]
  have e : c.parts.map D.str = (charsOf c.word).filterMap (fun d => match d with | .str x => some (.str (x ++ "...")) | _ => none) := by
    unfold charsOf Cs.parts
    rw [List.filterMap_map, List.map_map, word_list, ← List.filterMap_eq_map]; rfl
  have hl1 : (if c.front then ("" : Str) else "...").length ≤ 3 := by cases c.front <;> decide +kernel
  have hl2 := parts_sum c
  refine es_assign (ev_bin (d := .str (if c.front then ("" : Str) else ("..." : Str))) (e := .str (Txt.join "" c.parts)) (ev_if (v := c.front) (it_val (ev_name (.tail (.tail (.tail (.tail (.tail (.tail (.tail (.tail (.tail (.tail .head))))))))))) tr_bool) (fun e => by rw [e]; exact ev_str) (fun e => by rw [e]; exact ev_str)) (ev_meth ev_str (evs_cons (EVN.ev (by
    rw [e]
    refine evn_comp (c' := ⟨relS _ c_law.sc, ["letter"], []⟩) (G' := [none]) _ (iter_str (ev_name (.tail (.tail (.tail (.tail (.tail (.tail (.tail (.tail (.tail .head))))))))))) (by have := word_len c; rw [len_list] at this; unfold charsOf; rw [List.length_map]; exact Nat.le_trans this (by decide)) (by decide +kernel) rfl (by decide +kernel) (.non .nil) (fun d hd => ?_)
    obtain ⟨ch, hm, rfl⟩ := List.mem_map.mp hd
    refine ⟨[some (.imm (.str ⟨#[ch]⟩))], asl_name .head (by decide +kernel), .drop .nil, noOwn_of rfl, .nil, ev_bin (ev_name .head) ev_str (bo_cat ?_)⟩
    have : ("..." : Str).length = 3 := by decide +kernel
    rw [this]; show 1 + 3 ≤ _; decide)) evs_nil) (mc_join (joinOk_of_weight (by unfold Cs.parts at hl2 ⊢; have := wordL_len c; rw [List.length_map]; lia) (by decide)))) (bo_cat (by rw [joined_len]; lia))) (.tail (.tail (.tail (.tail (.tail (.tail (.tail (.tail (.tail (.tail (.tail (.tail (.tail (.tail .head))))))))))))))
theorem longest_at (c : Cs) : ([5, 5, 3, 3].map D.int)[c.many + c.nOthers - 1]? = some (.int c.longest) := by
  have h1 := c.many_le
  have : c.nOthers < 5 - c.many := Nat.mod_lt _ (by omega)
  have h : c.many + c.nOthers - 1 < 4 := by omega
  unfold Cs.longest
  match c.many + c.nOthers - 1, h with
  | 0, _ => rfl
  | 1, _ => rfl
  | 2, _ => rfl
  | 3, _ => rfl
theorem law14 : ES c_law 30 [some (.imm (.list sl)), some (.imm (.list (ownL.map D.int))), some (.imm (.list cs)), some (.imm famD), some (.imm (.str c.letters)), some (.imm (doublesD c.doubles)), some (.imm (.int c.many)), some (.imm (.list (c.prs.map pairD))), some (.imm (.list (c.others.map D.str))), some (.imm (.str c.word)), some (.imm (.bool c.front)), some (.imm (.dict c.foldsL)), some (.imm (.dict c.movesL)), some (.imm (.list (c.signs.map D.str))), some (.imm (.str c.pattern)), none, none, none, none, none, none, none, none, none, none, none, none, none, none, none, none] (lawSt 14) (.next [some (.imm (.list sl)), some (.imm (.list (ownL.map D.int))), some (.imm (.list cs)), some (.imm famD), some (.imm (.str c.letters)), some (.imm (doublesD c.doubles)), some (.imm (.int c.many)), some (.imm (.list (c.prs.map pairD))), some (.imm (.list (c.others.map D.str))), some (.imm (.str c.word)), some (.imm (.bool c.front)), some (.imm (.dict c.foldsL)), some (.imm (.dict c.movesL)), some (.imm (.list (c.signs.map D.str))), some (.imm (.str c.pattern)), some (.imm (.int c.longest)), none, none, none, none, none, none, none, none, none, none, none, none, none, none, none]) := by
  conv => arg 4; whnf
  have h1 := c.many_le
  have h2 := c.nOthers_le
  have ho : (c.others.map D.str).length = c.nOthers := by unfold Cs.others; simp
  exact es_assign (ev_sub (EVN.ev (evn_list (evs_cons ev_int (evs_cons ev_int (evs_cons ev_int (evs_cons ev_int evs_nil)))) (Nat.le_of_ble_eq_true rfl))) (ev_bin (ev_bin (ev_name (.tail (.tail (.tail (.tail (.tail (.tail .head))))))) (ev_blt ht0 (.tail .head) (by decide) (evs_cons (ev_name (.tail (.tail (.tail (.tail (.tail (.tail (.tail (.tail .head))))))))) evs_nil) (bc_len_list (by rw [ho]; exact Nat.le_trans h2 (by decide)))) bo_add) ev_int bo_sub) (si_castW (j := ((c.many + c.nOthers - 1 : Nat) : Int)) (by rw [ho]; lia) (si_list (longest_at c) (by omega)))) (.tail (.tail (.tail (.tail (.tail (.tail (.tail (.tail (.tail (.tail (.tail (.tail (.tail (.tail (.tail .head)))))))))))))))
noncomputable def row0 : Row := ⟨"", "", 0, true⟩
theorem law15 : ES c_law 30 [some (.imm (.list sl)), some (.imm (.list (ownL.map D.int))), some (.imm (.list cs)), some (.imm famD), some (.imm (.str c.letters)), some (.imm (doublesD c.doubles)), some (.imm (.int c.many)), some (.imm (.list (c.prs.map pairD))), some (.imm (.list (c.others.map D.str))), some (.imm (.str c.word)), some (.imm (.bool c.front)), some (.imm (.dict c.foldsL)), some (.imm (.dict c.movesL)), some (.imm (.list (c.signs.map D.str))), some (.imm (.str c.pattern)), some (.imm (.int c.longest)), none, none, none, none, none, none, none, none, none, none, none, none, none, none, none] (lawSt 15) (.next [some (.imm (.list sl)), some (.imm (.list (ownL.map D.int))), some (.imm (.list cs)), some (.imm famD), some (.imm (.str c.letters)), some (.imm (doublesD c.doubles)), some (.imm (.int c.many)), some (.imm (.list (c.prs.map pairD))), some (.imm (.list (c.others.map D.str))), some (.imm (.str c.word)), some (.imm (.bool c.front)), some (.imm (.dict c.foldsL)), some (.imm (.dict c.movesL)), some (.imm (.list (c.signs.map D.str))), some (.imm (.str c.pattern)), some (.imm (.int c.longest)), some (.own (.list ([row0].map Row.d))), some (.own (.list [])), some (.own (.dict [])), none, none, none, none, none, none, none, none, none, none, none, none]) := by
  conv => arg 4; whnf
  exact es_assign_ownN (xs := ["rows", "counts", "taken"]) (vs := [.own (.list ([row0].map Row.d)), .own (.list []), .own (.dict [])]) (evxs_cons (evx_new (evn_list (evs_cons (ev_tup (evs_cons ev_str (evs_cons ev_str (evs_cons ev_int (evs_cons ev_bool evs_nil)))) (Nat.le_of_ble_eq_true rfl)) evs_nil) (Nat.le_of_ble_eq_true rfl))) (evxs_cons (evx_new (evn_list evs_nil (Nat.zero_le _))) (evxs_cons evx_dict0 evxs_nil))) (.cons (.tail (.tail (.tail (.tail (.tail (.tail (.tail (.tail (.tail (.tail (.tail (.tail (.tail (.tail (.tail (.tail .head)))))))))))))))) (.cons (.tail (.tail (.tail (.tail (.tail (.tail (.tail (.tail (.tail (.tail (.tail (.tail (.tail (.tail (.tail (.tail (.tail .head))))))))))))))))) (.cons (.tail (.tail (.tail (.tail (.tail (.tail (.tail (.tail (.tail (.tail (.tail (.tail (.tail (.tail (.tail (.tail (.tail (.tail .head)))))))))))))))))) .nil))) (Nat.le_of_ble_eq_true rfl) rfl (fun env => ⟨rfl, rfl, acts_cons (acts_cons (acts_cons .nil))⟩) (hw := fun env h => by cases env; cases h; rfl)
end
structure RowF (c : Cs) : Prop where
  fold : ∀ s, s ≤ c.longest → ∀ r ∈ c.rows s, ∀ ch ∈ r.name.cps.toList, c.foldsL.lookup ⟨#[ch]⟩ = some (.str (meanIn c.prs ⟨#[ch]⟩))
  nlen : ∀ s, s ≤ c.longest → ∀ r ∈ c.rows s, r.name.length ≤ 1000
  llen : ∀ s, s ≤ c.longest → ∀ r ∈ c.rows s, r.line.length ≤ 1000
  join : ∀ s, s ≤ c.longest → ∀ r ∈ c.rows s, JoinOk "" (r.name.cps.toList.map fun ch => meanIn c.prs ⟨#[ch]⟩) = true
  ell : ∀ s, s ≤ c.longest → ∀ r ∈ c.rows s, FC "_ellipsis_match" 1 [.str c.pattern, .str (nameFold (fun ch => meanIn c.prs ⟨#[ch]⟩) r.name)] (.bool (c.ok r.name))
  strip : ∀ s, s ≤ c.longest → ∀ r ∈ c.rows s, stripOf r.line = r.name
  ok : ∀ s, s ≤ c.longest → ∀ r ∈ c.rows s, c.ok r.name = decide (r.found = (c.word.length : Int))
  grow : ∀ s, s < c.longest → ∀ r ∈ c.rows s, ∀ sg ∈ c.all, FC "_law_grown" 1 [r.d, .str sg, .dict c.movesL] (growRow c.mvf r sg).d
theorem Cs.all_len (c : Cs) : c.all.length = c.many + c.nOthers := by
  unfold Cs.all Cs.signs Cs.others; simp [c.prs_len]
theorem Cs.rows_len (c : Cs) {s : Nat} (h : s ≤ c.longest) : (c.rows s).length ≤ 64 := by
  unfold Cs.rows
  rw [rowsAt_len, c.all_len]
  have h1 := c.many_le
  have : c.nOthers < 5 - c.many := Nat.mod_lt _ (by lia)
  have h4 : c.many + c.nOthers - 1 < 4 := by lia
  unfold Cs.longest at h
  obtain ⟨e, he⟩ : ∃ e, e = c.many + c.nOthers := ⟨_, rfl⟩
  rw [← he] at h h4 ⊢
  have h5 : 1 ≤ e := by lia
  match e, h5, h4, h with
  | 1, _, _, h => rw [Nat.one_pow]; decide
  | 2, _, _, h => exact Nat.le_trans (Nat.pow_le_pow_right (by decide) (show s ≤ 5 from h)) (by decide)
  | 3, _, _, h => exact Nat.le_trans (Nat.pow_le_pow_right (by decide) (show s ≤ 3 from h)) (by decide)
  | 4, _, _, h => exact Nat.le_trans (Nat.pow_le_pow_right (by decide) (show s ≤ 3 from h)) (by decide)
theorem Cs.longest_le (c : Cs) : c.longest ≤ 5 := by
  unfold Cs.longest
  have h1 := c.many_le
  have : c.nOthers < 5 - c.many := Nat.mod_lt _ (by lia)
  have h4 : c.many + c.nOthers - 1 < 4 := by lia
  match c.many + c.nOthers - 1, h4 with
  | 0, _ => decide
  | 1, _ => decide
  | 2, _ => decide
  | 3, _ => decide
theorem Cs.taken_len (c : Cs) : ∀ {s : Nat}, s ≤ c.longest + 1 → (c.taken s).length ≤ 64 * s
  | 0, _ => Nat.le_refl _
  | s + 1, h => by
    have := c.taken_len (s := s) (by lia)
    have h2 := c.rows_len (s := s) (by lia)
    have h3 := answersOf_len c.ok ((c.rows s).map Row.name) (c.taken s)
    rw [List.length_map] at h3
    show (answersOf _ _ _).length ≤ _
    lia
noncomputable def GoodT (g : Str → Bool) (l : List (Str × D)) : Prop := ∀ x d, l.lookup x = some d → d = .bool (g x)
theorem lookup_app {l : List (Str × D)} {y z : Str} {d : D} : (l ++ [(y, d)]).lookup z = match l.lookup z with | some e => some e | Option.none => if z = y then some d else Option.none := by
  induction l with
  | nil =>
    simp only [List.nil_append, List.lookup_cons, List.lookup_nil]
    by_cases q : z = y
    · subst q; simp
    · have : (z == y) = false := by simpa using q
      rw [this]; simp [q]
  | cons p l ih =>
    obtain ⟨x, e⟩ := p
    simp only [List.cons_append, List.lookup_cons]
    by_cases q : z = x
    · subst q; simp
    · have : (z == x) = false := by simpa using q
      rw [this]; exact ih
theorem ansStep_lookup {g : Str → Bool} {l : List (Str × D)} {y z : Str} : (ansStep g l y).lookup z = match l.lookup z with | some e => some e | Option.none => if z = y then some (.bool (g y)) else Option.none := by
  unfold ansStep
  by_cases h : (l.lookup y).isSome = true
  · rw [if_pos h]
    by_cases q : z = y
    · subst q; obtain ⟨e, he⟩ := Option.isSome_iff_exists.mp h; rw [he]
    · cases l.lookup z <;> simp [q]
  · rw [if_neg h]; exact lookup_app
theorem answers_good {g : Str → Bool} : ∀ (names : List Str) {l : List (Str × D)}, GoodT g l → GoodT g (answersOf g names l)
  | [], _, h => h
  | n :: names, l, h => answers_good names (l := ansStep g l n) (fun x d e => by
    rw [ansStep_lookup] at e
    cases q : l.lookup x with
    | some d' => rw [q] at e; cases e; exact h x _ q
    | none =>
      rw [q] at e
      by_cases z : x = n
      · subst z; simp at e; exact e.symm
      · simp [z] at e)
theorem answers_keep {g : Str → Bool} : ∀ (names : List Str) {l : List (Str × D)} {x : Str}, (l.lookup x).isSome = true → ((answersOf g names l).lookup x).isSome = true
  | [], _, _, h => h
  | n :: names, l, x, h => answers_keep names (l := ansStep g l n) (by
    rw [ansStep_lookup]
    obtain ⟨e, he⟩ := Option.isSome_iff_exists.mp h
    rw [he]; rfl)
theorem answers_has {g : Str → Bool} : ∀ (names : List Str) {l : List (Str × D)} {x : Str}, x ∈ names → ((answersOf g names l).lookup x).isSome = true
  | n :: names, l, x, h => by
    rcases List.mem_cons.mp h with rfl | m
    · refine answers_keep names (l := ansStep g l x) ?_
      rw [ansStep_lookup]
      cases l.lookup x <;> simp
    · exact answers_has names (l := ansStep g l n) m
theorem Cs.taken_good (c : Cs) : ∀ s, GoodT c.ok (c.taken s)
  | 0 => fun x d e => by cases e
  | s + 1 => answers_good _ (c.taken_good s)
theorem Cs.taken_at (c : Cs) {s : Nat} {r : Row} (h : r ∈ c.rows s) : (c.taken (s + 1)).lookup r.name = some (.bool (c.ok r.name)) := by
  obtain ⟨d, hd⟩ := Option.isSome_iff_exists.mp (answers_has (g := c.ok) ((c.rows s).map Row.name) (l := c.taken s) (List.mem_map_of_mem h))
  have := c.taken_good (s + 1) _ _ hd
  rw [this] at hd
  exact hd
theorem rows_ix {rows : List Row} {i : Nat} {d : D} (h : (rows.map Row.d)[i]? = some d) : ∃ r, rows[i]? = some r ∧ r ∈ rows ∧ d = r.d := by
  rw [List.getElem?_map] at h
  cases e : rows[i]? with
  | none => rw [e] at h; cases h
  | some p => rw [e] at h; cases h; exact ⟨p, rfl, List.mem_of_getElem? e, rfl⟩
theorem strs_ix {rows : List Str} {i : Nat} {d : D} (h : (rows.map D.str)[i]? = some d) : ∃ r, rows[i]? = some r ∧ r ∈ rows ∧ d = .str r := by
  rw [List.getElem?_map] at h
  cases e : rows[i]? with
  | none => rw [e] at h; cases h
  | some p => rw [e] at h; cases h; exact ⟨p, rfl, List.mem_of_getElem? e, rfl⟩
theorem FCO.le {f : Str} {k m : Nat} {ds : List D} {d d' : D} (h : FCO f m ds d d') (hm : m ≤ k) : FCO f k ds d d' := fun w hb A X s vs a b O => h w hb A X s vs a b (O.le hm)
noncomputable def maskAt : List Str → List Bool → Str → Bool
  | n :: ns, b :: bs, x => (!(decide (n = x) && b)) && maskAt ns bs x
  | _, _, _ => true
theorem Has.not {ns : List Str} {G : Ctx} {mask : List Bool} {x : Str} (hm : G.map Option.isSome = mask) (h : maskAt ns mask x = true) (e : V) : ¬ Has ns G x e := fun q => by
  subst hm
  induction q with
  | @head x ns v G =>
    have h : (!(decide (x = x) && true) && maskAt ns (G.map Option.isSome) x) = true := h
    rw [decide_eq_true rfl] at h; cases h
  | @tail x y ns v o G _ ih =>
    have h : (!(decide (y = x) && o.isSome) && maskAt ns (G.map Option.isSome) x) = true := h
    exact ih (Bool.and_eq_true _ _ ▸ h).2
theorem flat_next {α β : Type} {f : α → List β} {l : List α} {i : Nat} {a : α} (h : l[i]? = some a) : (l.take (i + 1)).flatMap f = (l.take i).flatMap f ++ f a := by
  rw [List.take_add_one, h, List.flatMap_append]; simp
theorem Cs.signs_others (c : Cs) : c.signs.map D.str ++ c.others.map D.str = c.all.map D.str := by unfold Cs.all; rw [List.map_append]
noncomputable def keepRow (g : Str → Bool) : D → Option D
  | .tup [a, .str n, b, z] => if g n = true then some (.tup [a, .str n, b, z]) else none
  | _ => none
theorem keepRow_d (g : Str → Bool) (r : Row) : keepRow g r.d = if g r.name = true then some r.d else none := rfl
theorem keepRow_all (g : Str → Bool) : ∀ rows : List Row, (rows.filter fun r => g r.name).map Row.d = (rows.map Row.d).filterMap (keepRow g)
  | [] => rfl
  | r :: rows => by
    rw [List.map_cons, List.filter_cons, List.filterMap_cons, keepRow_d]
    cases e : g r.name with
    | true => simp [keepRow_all g rows]
    | false => simp [keepRow_all g rows]
section
variable {c : Cs} {sl cs : List D} (S : SignF c) (R : RowF c)
noncomputable def lawLoop (i : Nat) : Stmt := (match lawSt 16 with | .For _ _ b _ _ => b | _ => []).getD i (.Pass default)
include R
theorem loop0 {s : Nat} (hs : s ≤ c.longest) : ES c_law 30 [some (.imm (.list sl)), some (.imm (.list (ownL.map D.int))), some (.imm (.list cs)), some (.imm famD), some (.imm (.str c.letters)), some (.imm (doublesD c.doubles)), some (.imm (.int c.many)), some (.imm (.list (c.prs.map pairD))), some (.imm (.list (c.others.map D.str))), some (.imm (.str c.word)), some (.imm (.bool c.front)), some (.imm (.dict c.foldsL)), some (.imm (.dict c.movesL)), some (.imm (.list (c.signs.map D.str))), some (.imm (.str c.pattern)), some (.imm (.int c.longest)), some (.imm (.list ((c.rows s).map Row.d))), some (.own (.list ((c.counts s).map D.int))), some (.own (.dict (c.taken s))), some (.imm (.int s)), none, none, none, none, none, none, none, none, none, none, none] (lawLoop 0) (.next [some (.imm (.list sl)), some (.imm (.list (ownL.map D.int))), some (.imm (.list cs)), some (.imm famD), some (.imm (.str c.letters)), some (.imm (doublesD c.doubles)), some (.imm (.int c.many)), some (.imm (.list (c.prs.map pairD))), some (.imm (.list (c.others.map D.str))), some (.imm (.str c.word)), some (.imm (.bool c.front)), some (.imm (.dict c.foldsL)), some (.imm (.dict c.movesL)), some (.imm (.list (c.signs.map D.str))), some (.imm (.str c.pattern)), some (.imm (.int c.longest)), some (.imm (.list ((c.rows s).map Row.d))), some (.own (.list ((c.counts s).map D.int))), some (.own (.dict (c.taken (s + 1)))), some (.imm (.int s)), none, none, none, none, none, none, none, none, none, none, none]) := by
  conv => arg 4; whnf
  have hl := c.longest_le
  refine es_call_own (G1 := [some (.imm (.list sl)), some (.imm (.list (ownL.map D.int))), some (.imm (.list cs)), some (.imm famD), some (.imm (.str c.letters)), some (.imm (doublesD c.doubles)), some (.imm (.int c.many)), some (.imm (.list (c.prs.map pairD))), some (.imm (.list (c.others.map D.str))), some (.imm (.str c.word)), some (.imm (.bool c.front)), some (.imm (.dict c.foldsL)), some (.imm (.dict c.movesL)), some (.imm (.list (c.signs.map D.str))), some (.imm (.str c.pattern)), some (.imm (.int c.longest)), some (.imm (.list ((c.rows s).map Row.d))), some (.own (.list ((c.counts s).map D.int))), none, some (.imm (.int s)), none, none, none, none, none, none, none, none, none, none, none]) (.tail (.tail .head)) (by decide) (ev_name (.tail (.tail (.tail (.tail (.tail (.tail (.tail (.tail (.tail (.tail (.tail (.tail (.tail (.tail (.tail (.tail .head))))))))))))))))) (ev_name (.tail (.tail (.tail (.tail (.tail (.tail (.tail (.tail (.tail (.tail (.tail .head)))))))))))) (ev_name (.tail (.tail (.tail (.tail (.tail (.tail (.tail (.tail (.tail (.tail (.tail (.tail (.tail (.tail .head))))))))))))))) (.tail (.tail (.tail (.tail (.tail (.tail (.tail (.tail (.tail (.tail (.tail (.tail (.tail (.tail (.tail (.tail (.tail (.tail .head)))))))))))))))))) (FCO.le (m := 2) (fco_answers (fs := fun ch => meanIn c.prs ⟨#[ch]⟩) (R.fold s hs) (R.nlen s hs) (R.join s hs) (R.ell s hs) (by have := c.taken_len (s := s) (by lia); have := c.rows_len hs; lia)) (by decide)) (by (repeat (first | exact Less.nil | refine Less.drop ?_ | refine Less.same ?_))) (Has.not (mask := [true, true, true, true, true, true, true, true, true, true, true, true, true, true, true, true, true, true, false, true, false, false, false, false, false, false, false, false, false, false, false]) rfl (by decide +kernel)) (.tail (.tail (.tail (.tail (.tail (.tail (.tail (.tail (.tail (.tail (.tail (.tail (.tail (.tail (.tail (.tail (.tail (.tail .head))))))))))))))))))
theorem loop1 {s : Nat} (hs : s ≤ c.longest) : ES c_law 30 [some (.imm (.list sl)), some (.imm (.list (ownL.map D.int))), some (.imm (.list cs)), some (.imm famD), some (.imm (.str c.letters)), some (.imm (doublesD c.doubles)), some (.imm (.int c.many)), some (.imm (.list (c.prs.map pairD))), some (.imm (.list (c.others.map D.str))), some (.imm (.str c.word)), some (.imm (.bool c.front)), some (.imm (.dict c.foldsL)), some (.imm (.dict c.movesL)), some (.imm (.list (c.signs.map D.str))), some (.imm (.str c.pattern)), some (.imm (.int c.longest)), some (.imm (.list ((c.rows s).map Row.d))), some (.own (.list ((c.counts s).map D.int))), some (.own (.dict (c.taken (s + 1)))), some (.imm (.int s)), none, none, none, none, none, none, none, none, none, none, none] (lawLoop 1) (.next [some (.imm (.list sl)), some (.imm (.list (ownL.map D.int))), some (.imm (.list cs)), some (.imm famD), some (.imm (.str c.letters)), some (.imm (doublesD c.doubles)), some (.imm (.int c.many)), some (.imm (.list (c.prs.map pairD))), some (.imm (.list (c.others.map D.str))), some (.imm (.str c.word)), some (.imm (.bool c.front)), some (.imm (.dict c.foldsL)), some (.imm (.dict c.movesL)), some (.imm (.list (c.signs.map D.str))), some (.imm (.str c.pattern)), some (.imm (.int c.longest)), some (.imm (.list ((c.rows s).map Row.d))), some (.own (.list ((c.counts s).map D.int))), some (.own (.dict (c.taken (s + 1)))), some (.imm (.int s)), none, none, none, none, none, none, none, none, none, none, none]) := by
  conv => arg 4; whnf
  refine es_for (iter_list (ev_name (.tail (.tail (.tail (.tail (.tail (.tail (.tail (.tail (.tail (.tail (.tail (.tail (.tail (.tail (.tail (.tail .head)))))))))))))))))) (fun _ => [some (.imm (.list sl)), some (.imm (.list (ownL.map D.int))), some (.imm (.list cs)), some (.imm famD), some (.imm (.str c.letters)), some (.imm (doublesD c.doubles)), some (.imm (.int c.many)), some (.imm (.list (c.prs.map pairD))), some (.imm (.list (c.others.map D.str))), some (.imm (.str c.word)), some (.imm (.bool c.front)), some (.imm (.dict c.foldsL)), some (.imm (.dict c.movesL)), some (.imm (.list (c.signs.map D.str))), some (.imm (.str c.pattern)), some (.imm (.int c.longest)), some (.imm (.list ((c.rows s).map Row.d))), some (.own (.list ((c.counts s).map D.int))), some (.own (.dict (c.taken (s + 1)))), some (.imm (.int s)), none, none, none, none, none, none, none, none, none, none, none]) (by (repeat (first | exact Less.nil | refine Less.drop ?_ | refine Less.same ?_))) ((c.rows s).map Row.d).length (Nat.le_refl _) (fun i d hi hd => ?_) (.inl ⟨rfl, rfl⟩)
  obtain ⟨r, hr, hm, rfl⟩ := rows_ix hd
  refine ⟨[some (.imm (.list sl)), some (.imm (.list (ownL.map D.int))), some (.imm (.list cs)), some (.imm famD), some (.imm (.str c.letters)), some (.imm (doublesD c.doubles)), some (.imm (.int c.many)), some (.imm (.list (c.prs.map pairD))), some (.imm (.list (c.others.map D.str))), some (.imm (.str c.word)), some (.imm (.bool c.front)), some (.imm (.dict c.foldsL)), some (.imm (.dict c.movesL)), some (.imm (.list (c.signs.map D.str))), some (.imm (.str c.pattern)), some (.imm (.int c.longest)), some (.imm (.list ((c.rows s).map Row.d))), some (.own (.list ((c.counts s).map D.int))), some (.own (.dict (c.taken (s + 1)))), some (.imm (.int s)), some (.imm (.str r.line)), some (.imm (.str r.name)), some (.imm (.int r.found)), some (.imm (.bool r.still)), none, none, none, none, none, none, none], as_tup (ass_name (.tail (.tail (.tail (.tail (.tail (.tail (.tail (.tail (.tail (.tail (.tail (.tail (.tail (.tail (.tail (.tail (.tail (.tail (.tail (.tail .head)))))))))))))))))))) (ass_name (.tail (.tail (.tail (.tail (.tail (.tail (.tail (.tail (.tail (.tail (.tail (.tail (.tail (.tail (.tail (.tail (.tail (.tail (.tail (.tail (.tail .head))))))))))))))))))))) (ass_name (.tail (.tail (.tail (.tail (.tail (.tail (.tail (.tail (.tail (.tail (.tail (.tail (.tail (.tail (.tail (.tail (.tail (.tail (.tail (.tail (.tail (.tail .head)))))))))))))))))))))) (ass_name (.tail (.tail (.tail (.tail (.tail (.tail (.tail (.tail (.tail (.tail (.tail (.tail (.tail (.tail (.tail (.tail (.tail (.tail (.tail (.tail (.tail (.tail (.tail .head))))))))))))))))))))))) ASS.nil)))), ?_⟩
  refine ex_cons (G1 := [some (.imm (.list sl)), some (.imm (.list (ownL.map D.int))), some (.imm (.list cs)), some (.imm famD), some (.imm (.str c.letters)), some (.imm (doublesD c.doubles)), some (.imm (.int c.many)), some (.imm (.list (c.prs.map pairD))), some (.imm (.list (c.others.map D.str))), some (.imm (.str c.word)), some (.imm (.bool c.front)), some (.imm (.dict c.foldsL)), some (.imm (.dict c.movesL)), some (.imm (.list (c.signs.map D.str))), some (.imm (.str c.pattern)), some (.imm (.int c.longest)), some (.imm (.list ((c.rows s).map Row.d))), some (.own (.list ((c.counts s).map D.int))), some (.own (.dict (c.taken (s + 1)))), some (.imm (.int s)), some (.imm (.str r.line)), some (.imm (.str r.name)), some (.imm (.int r.found)), some (.imm (.bool r.still)), none, none, none, none, none, none, none]) (es_if (v := false) (it_cast (b := (!decide (stripOf r.line = r.name)) || (c.ok r.name != decide (r.found = (c.word.length : Int)))) ?_ (by rw [R.strip s hs r hm, R.ok s hs r hm]; simp)) (fun e => by cases e) (fun _ => ex_nil)) (ex_less (by (repeat (first | exact Less.nil | refine Less.drop ?_ | refine Less.same ?_))) ex_nil)
  have hll := R.llen s hs r hm
  have hw := word_len c
  refine it_viewD (.tail (.tail (.tail (.tail (.tail (.tail (.tail (.tail (.tail (.tail (.tail (.tail (.tail (.tail (.tail (.tail (.tail (.tail .head)))))))))))))))))) (.tail (.tail (.tail (.tail (.tail (.tail (.tail (.tail (.tail (.tail (.tail (.tail (.tail (.tail (.tail (.tail (.tail (.tail .head)))))))))))))))))) (it_bool (at_or (it_cmp (ev_call ht0 (.tail (.tail (.tail .head))) (by decide) (evs_cons (ev_name (.tail (.tail (.tail (.tail (.tail (.tail (.tail (.tail (.tail (.tail (.tail (.tail (.tail (.tail (.tail (.tail (.tail (.tail (.tail (.tail .head))))))))))))))))))))) evs_nil) (FC.le (k := 30) (fc_strip (k := 0) (by lia)) (by decide))) (ev_name (.tail (.tail (.tail (.tail (.tail (.tail (.tail (.tail (.tail (.tail (.tail (.tail (.tail (.tail (.tail (.tail (.tail (.tail (.tail (.tail (.tail .head)))))))))))))))))))))) co_nes) (fun _ => at_or1 (it_cmp (ev_sub (ev_name (.tail (.tail (.tail (.tail (.tail (.tail (.tail (.tail (.tail (.tail (.tail (.tail (.tail (.tail (.tail (.tail (.tail (.tail .head))))))))))))))))))) (ev_name (.tail (.tail (.tail (.tail (.tail (.tail (.tail (.tail (.tail (.tail (.tail (.tail (.tail (.tail (.tail (.tail (.tail (.tail (.tail (.tail (.tail .head)))))))))))))))))))))) (si_dict (c.taken_at hm))) (ev_cmp (ev_name (.tail (.tail (.tail (.tail (.tail (.tail (.tail (.tail (.tail (.tail (.tail (.tail (.tail (.tail (.tail (.tail (.tail (.tail (.tail (.tail (.tail (.tail .head))))))))))))))))))))))) (ev_blt ht0 (.tail .head) (by decide) (evs_cons (ev_name (.tail (.tail (.tail (.tail (.tail (.tail (.tail (.tail (.tail .head)))))))))) evs_nil) (bc_len_str (by lia))) co_eq) co_isb))))
omit R in
theorem loop2 {s : Nat} (hs : s ≤ c.longest) : ES c_law 30 [some (.imm (.list sl)), some (.imm (.list (ownL.map D.int))), some (.imm (.list cs)), some (.imm famD), some (.imm (.str c.letters)), some (.imm (doublesD c.doubles)), some (.imm (.int c.many)), some (.imm (.list (c.prs.map pairD))), some (.imm (.list (c.others.map D.str))), some (.imm (.str c.word)), some (.imm (.bool c.front)), some (.imm (.dict c.foldsL)), some (.imm (.dict c.movesL)), some (.imm (.list (c.signs.map D.str))), some (.imm (.str c.pattern)), some (.imm (.int c.longest)), some (.imm (.list ((c.rows s).map Row.d))), some (.own (.list ((c.counts s).map D.int))), some (.own (.dict (c.taken (s + 1)))), some (.imm (.int s)), none, none, none, none, none, none, none, none, none, none, none] (lawLoop 2) (.next [some (.imm (.list sl)), some (.imm (.list (ownL.map D.int))), some (.imm (.list cs)), some (.imm famD), some (.imm (.str c.letters)), some (.imm (doublesD c.doubles)), some (.imm (.int c.many)), some (.imm (.list (c.prs.map pairD))), some (.imm (.list (c.others.map D.str))), some (.imm (.str c.word)), some (.imm (.bool c.front)), some (.imm (.dict c.foldsL)), some (.imm (.dict c.movesL)), some (.imm (.list (c.signs.map D.str))), some (.imm (.str c.pattern)), some (.imm (.int c.longest)), some (.imm (.list ((c.rows s).map Row.d))), some (.own (.list ((c.counts (s + 1)).map D.int))), some (.own (.dict (c.taken (s + 1)))), some (.imm (.int s)), none, none, none, none, none, none, none, none, none, none, none]) := by
  conv => arg 4; whnf
  have hr := c.rows_len hs
  have hl := c.longest_le
  refine es_mut (.tail (.tail (.tail (.tail (.tail (.tail (.tail (.tail (.tail (.tail (.tail (.tail (.tail (.tail (.tail (.tail (.tail .head))))))))))))))))) (evs_cons ev_int (evs_cons (d := .int (c.count s)) (ev_viewD (.tail (.tail (.tail (.tail (.tail (.tail (.tail (.tail (.tail (.tail (.tail (.tail (.tail (.tail (.tail (.tail (.tail (.tail .head)))))))))))))))))) (.tail (.tail (.tail (.tail (.tail (.tail (.tail (.tail (.tail (.tail (.tail (.tail (.tail (.tail (.tail (.tail (.tail (.tail .head)))))))))))))))))) (ev_blt (id := "len") ht0 (.tail .head) (by decide) (evs_cons (EVN.ev (ds := ((c.rows s).filter fun r => c.ok r.name).map Row.d) ?_) evs_nil) ?_)) evs_nil)) (mo_insert (by rw [List.length_map, Cs.counts_len]; lia)) (.tail (.tail (.tail (.tail (.tail (.tail (.tail (.tail (.tail (.tail (.tail (.tail (.tail (.tail (.tail (.tail (.tail .head)))))))))))))))))
  · rw [keepRow_all]
    refine evn_comp (c' := ⟨relS _ c_law.sc, ["row", "taken"], []⟩) (G' := [none, some (.imm (.dict (c.taken (s + 1))))]) _ (iter_list (ev_name (.tail (.tail (.tail (.tail (.tail (.tail (.tail (.tail (.tail (.tail (.tail (.tail (.tail (.tail (.tail (.tail .head)))))))))))))))))) (by rw [List.length_map]; lia) (by decide +kernel) rfl (by decide +kernel) (.non (.var (.tail (.tail (.tail (.tail (.tail (.tail (.tail (.tail (.tail (.tail (.tail (.tail (.tail (.tail (.tail (.tail (.tail (.tail .head)))))))))))))))))) (by decide +kernel) .nil)) (fun d hd => ?_)
    obtain ⟨r, hm, rfl⟩ := List.mem_map.mp hd
    refine ⟨[some (.imm r.d), some (.imm (.dict (c.taken (s + 1))))], asl_name .head (by decide +kernel), .drop (.same .nil), noOwn_of rfl, ?_⟩
    rw [keepRow_d]
    cases e : c.ok r.name with
    | true => exact ⟨.one (it_cast (it_val (ev_sub (ev_name (.tail .head)) (ev_sub (ev_name .head) ev_int (si_tup (i := 1) (d := .str r.name) rfl (by decide))) (si_dict (c.taken_at hm))) tr_bool) e), ev_name .head⟩
    | false => exact .one (it_cast (it_val (ev_sub (ev_name (.tail .head)) (ev_sub (ev_name .head) ev_int (si_tup (i := 1) (d := .str r.name) rfl (by decide))) (si_dict (c.taken_at hm))) tr_bool) e)
  · have : ((((c.rows s).filter fun r => c.ok r.name).map Row.d).length : Int) = (c.count s : Int) := by rw [List.length_map]; rfl
    rw [← this]
    refine bc_len_list ?_
    rw [List.length_map]
    exact Nat.le_trans (List.length_filter_le _ _) (by lia)
theorem loop3 {s : Nat} (hs : s < c.longest) : ES c_law 30 [some (.imm (.list sl)), some (.imm (.list (ownL.map D.int))), some (.imm (.list cs)), some (.imm famD), some (.imm (.str c.letters)), some (.imm (doublesD c.doubles)), some (.imm (.int c.many)), some (.imm (.list (c.prs.map pairD))), some (.imm (.list (c.others.map D.str))), some (.imm (.str c.word)), some (.imm (.bool c.front)), some (.imm (.dict c.foldsL)), some (.imm (.dict c.movesL)), some (.imm (.list (c.signs.map D.str))), some (.imm (.str c.pattern)), some (.imm (.int c.longest)), some (.imm (.list ((c.rows s).map Row.d))), some (.own (.list ((c.counts (s + 1)).map D.int))), some (.own (.dict (c.taken (s + 1)))), some (.imm (.int s)), none, none, none, none, none, none, none, none, none, none, none] (match lawLoop 3 with | .If _ b _ _ => b.getD 0 (.Pass default) | _ => .Pass default) (.next [some (.imm (.list sl)), some (.imm (.list (ownL.map D.int))), some (.imm (.list cs)), some (.imm famD), some (.imm (.str c.letters)), some (.imm (doublesD c.doubles)), some (.imm (.int c.many)), some (.imm (.list (c.prs.map pairD))), some (.imm (.list (c.others.map D.str))), some (.imm (.str c.word)), some (.imm (.bool c.front)), some (.imm (.dict c.foldsL)), some (.imm (.dict c.movesL)), some (.imm (.list (c.signs.map D.str))), some (.imm (.str c.pattern)), some (.imm (.int c.longest)), some (.own (.list ((c.rows (s + 1)).map Row.d))), some (.own (.list ((c.counts (s + 1)).map D.int))), some (.own (.dict (c.taken (s + 1)))), some (.imm (.int s)), none, none, none, none, none, none, none, none, none, none, none]) := by
  conv => arg 4; whnf
  have hr := c.rows_len (Nat.le_of_lt hs)
  have hr2 := c.rows_len (s := s + 1) hs
  have hal := c.all_len
  have hm := c.many_le
  have ho := c.nOthers_le
  have efin : (c.rows (s + 1)).map Row.d = (fun i => (((c.rows s).take i).flatMap fun r => c.all.map (growRow c.mvf r)).map Row.d) ((c.rows s).map Row.d).length := by
    simp only [List.length_map, List.take_length]; rfl
  rw [efin]
  refine es_use_list2 (c' := ⟨relS _ c_law.sc, ["row", "sign", "signs", "others", "moves"], ["_law_grown"]⟩) (G' := [none, none, some (.imm (.list (c.signs.map D.str))), some (.imm (.list (c.others.map D.str))), some (.imm (.dict c.movesL))]) (fun i => (((c.rows s).take i).flatMap fun r => c.all.map (growRow c.mvf r)).map Row.d) rfl (iterX_of (iter_list (ev_name (.tail (.tail (.tail (.tail (.tail (.tail (.tail (.tail (.tail (.tail (.tail (.tail (.tail (.tail (.tail (.tail .head))))))))))))))))))) (by decide +kernel) rfl (by decide +kernel) (.non (.non (.var (.tail (.tail (.tail (.tail (.tail (.tail (.tail (.tail (.tail (.tail (.tail (.tail (.tail .head))))))))))))) (by decide +kernel) (.var (.tail (.tail (.tail (.tail (.tail (.tail (.tail (.tail .head)))))))) (by decide +kernel) (.var (.tail (.tail (.tail (.tail (.tail (.tail (.tail (.tail (.tail (.tail (.tail (.tail .head)))))))))))) (by decide +kernel) .nil))))) (fun i d hd => ?_) (.tail (.tail (.tail (.tail (.tail (.tail (.tail (.tail (.tail (.tail (.tail (.tail (.tail (.tail (.tail (.tail .head)))))))))))))))) (fun env h => by cases env; cases h; rfl)
  obtain ⟨r, hri, hrm, rfl⟩ := rows_ix hd
  refine ⟨[some (.imm r.d), none, some (.imm (.list (c.signs.map D.str))), some (.imm (.list (c.others.map D.str))), some (.imm (.dict c.movesL))], asl_name .head (by decide +kernel), by (repeat (first | exact Less.nil | refine Less.drop ?_ | refine Less.same ?_)), noOwn_of rfl, .inl ⟨.nil, ?_⟩⟩
  rw [flat_next hri]
  have hso := c.signs_others
  refine act_nest (ds2 := c.all.map D.str) (fun j => .list ((((c.rows s).take i).flatMap fun r => c.all.map (growRow c.mvf r)).map Row.d ++ ((c.all.take j).map (growRow c.mvf r)).map Row.d)) (by simp) (by rw [List.length_map, List.take_length, List.map_append]) (iterX_of (iter_list (by rw [← hso]; exact ev_bin (ev_name (.tail (.tail .head))) (ev_name (.tail (.tail (.tail .head)))) (bo_join (by rw [← List.length_append, hso, List.length_map]; lia))))) (noOwn_of rfl) (fun j d2 hd2 => ?_)
  obtain ⟨sg, hsj, hsm, rfl⟩ := strs_ix hd2
  refine ⟨[some (.imm r.d), some (.imm (.str sg)), some (.imm (.list (c.signs.map D.str))), some (.imm (.list (c.others.map D.str))), some (.imm (.dict c.movesL))], asl_name (.tail .head) (by decide +kernel), by (repeat (first | exact Less.nil | refine Less.drop ?_ | refine Less.same ?_)), noOwn_of rfl, .inl ⟨.nil, ?_⟩⟩
  rw [List.take_add_one, hsj, List.map_append, List.map_append, ← List.append_assoc]
  refine act_list (ev_call ht0 .head (by decide) (evs_cons (ev_name .head) (evs_cons (ev_name (.tail .head)) (evs_cons (ev_name (.tail (.tail (.tail (.tail .head))))) evs_nil))) (FC.le (k := 30) (R.grow s hs r hrm sg hsm) (by decide))) (noOwn_of rfl) ?_
  have hlen : (((c.rows s).take i).flatMap fun r => c.all.map (growRow c.mvf r)).length ≤ 64 * 6 := by
    rw [List.length_flatMap]
    have : ∀ l : List Row, (l.map fun r => (c.all.map (growRow c.mvf r)).length).sum = l.length * c.all.length := by
      intro l
      induction l with
      | nil => simp
      | cons r l ih => rw [List.map_cons, List.sum_cons, ih, List.length_map, List.length_cons, Nat.add_mul, Nat.one_mul]; lia
    rw [this, List.length_take]
    exact Nat.mul_le_mul (by lia) (by lia)
  simp only [List.length_append, List.length_map, List.length_take]
  lia
end
noncomputable def rowsV (c : Cs) (i : Nat) : Option V := if i ≤ c.longest then some (.own (.list ((c.rows i).map Row.d))) else none
section
variable {c : Cs} {sl cs : List D} (S : SignF c) (R : RowF c)
noncomputable def GL (c : Cs) (sl cs : List D) (i : Nat) : Ctx := [some (.imm (.list sl)), some (.imm (.list (ownL.map D.int))), some (.imm (.list cs)), some (.imm famD), some (.imm (.str c.letters)), some (.imm (doublesD c.doubles)), some (.imm (.int c.many)), some (.imm (.list (c.prs.map pairD))), some (.imm (.list (c.others.map D.str))), some (.imm (.str c.word)), some (.imm (.bool c.front)), some (.imm (.dict c.foldsL)), some (.imm (.dict c.movesL)), some (.imm (.list (c.signs.map D.str))), some (.imm (.str c.pattern)), some (.imm (.int c.longest)), rowsV c i, some (.own (.list ((c.counts i).map D.int))), some (.own (.dict (c.taken i))), none, none, none, none, none, none, none, none, none, none, none, none]
include R
theorem law16 : ES c_law 30 [some (.imm (.list sl)), some (.imm (.list (ownL.map D.int))), some (.imm (.list cs)), some (.imm famD), some (.imm (.str c.letters)), some (.imm (doublesD c.doubles)), some (.imm (.int c.many)), some (.imm (.list (c.prs.map pairD))), some (.imm (.list (c.others.map D.str))), some (.imm (.str c.word)), some (.imm (.bool c.front)), some (.imm (.dict c.foldsL)), some (.imm (.dict c.movesL)), some (.imm (.list (c.signs.map D.str))), some (.imm (.str c.pattern)), some (.imm (.int c.longest)), some (.own (.list ([row0].map Row.d))), some (.own (.list [])), some (.own (.dict [])), none, none, none, none, none, none, none, none, none, none, none, none] (lawSt 16) (.next [some (.imm (.list sl)), some (.imm (.list (ownL.map D.int))), some (.imm (.list cs)), some (.imm famD), some (.imm (.str c.letters)), some (.imm (doublesD c.doubles)), some (.imm (.int c.many)), some (.imm (.list (c.prs.map pairD))), some (.imm (.list (c.others.map D.str))), some (.imm (.str c.word)), some (.imm (.bool c.front)), some (.imm (.dict c.foldsL)), some (.imm (.dict c.movesL)), some (.imm (.list (c.signs.map D.str))), some (.imm (.str c.pattern)), some (.imm (.int c.longest)), none, some (.own (.list (c.final.map D.int))), some (.own (.dict (c.taken (c.longest + 1)))), none, none, none, none, none, none, none, none, none, none, none, none]) := by
  conv => arg 4; whnf
  have hl := c.longest_le
  refine es_for (o := .next (GL c sl cs (rangeL 0 1 (c.longest + 1)).length)) (iter_range1 (n := c.longest + 1) .head (ev_cast (ev_bin (ev_name (.tail (.tail (.tail (.tail (.tail (.tail (.tail (.tail (.tail (.tail (.tail (.tail (.tail (.tail (.tail .head)))))))))))))))) ev_int bo_add) (by congr 1)) (by exact Nat.lt_of_le_of_lt hl (by decide))) (GL c sl cs) ?_ (rangeL 0 1 (c.longest + 1)).length (Nat.le_refl _) (fun i d hi hd => ?_) (.inl ⟨rfl, rfl⟩) |> es_less ?_
  · have e : (rangeL 0 1 (c.longest + 1)).length = c.longest + 1 := by simp [rangeL]
    rw [e]
    unfold GL Cs.final
    (repeat (first | exact Less.nil | refine Less.drop ?_ | refine Less.same ?_))
  · unfold GL
    have e : rowsV c 0 = some (.own (.list ([row0].map Row.d))) := by unfold rowsV; rw [if_pos (Nat.zero_le _)]; rfl
    rw [e]
    (repeat (first | exact Less.nil | refine Less.drop ?_ | refine Less.same ?_))
  · have hi : i < c.longest + 1 := by simpa [rangeL] using hi
    have hil : i ≤ c.longest := by exact Nat.le_of_lt_succ hi
    have : d = .int (i : Int) := by simp [rangeL, hi] at hd; exact hd.symm
    subst this
    refine ⟨[some (.imm (.list sl)), some (.imm (.list (ownL.map D.int))), some (.imm (.list cs)), some (.imm famD), some (.imm (.str c.letters)), some (.imm (doublesD c.doubles)), some (.imm (.int c.many)), some (.imm (.list (c.prs.map pairD))), some (.imm (.list (c.others.map D.str))), some (.imm (.str c.word)), some (.imm (.bool c.front)), some (.imm (.dict c.foldsL)), some (.imm (.dict c.movesL)), some (.imm (.list (c.signs.map D.str))), some (.imm (.str c.pattern)), some (.imm (.int c.longest)), some (.own (.list ((c.rows i).map Row.d))), some (.own (.list ((c.counts i).map D.int))), some (.own (.dict (c.taken i))), some (.imm (.int i)), none, none, none, none, none, none, none, none, none, none, none], as_name ?_, ?_⟩
    · unfold GL
      have e : rowsV c i = some (.own (.list ((c.rows i).map Row.d))) := by unfold rowsV; rw [if_pos hil]
      rw [e]
      exact (.tail (.tail (.tail (.tail (.tail (.tail (.tail (.tail (.tail (.tail (.tail (.tail (.tail (.tail (.tail (.tail (.tail (.tail (.tail .head)))))))))))))))))))
    ·
      refine ex_freeze (.tail (.tail (.tail (.tail (.tail (.tail (.tail (.tail (.tail (.tail (.tail (.tail (.tail (.tail (.tail (.tail .head)))))))))))))))) (.tail (.tail (.tail (.tail (.tail (.tail (.tail (.tail (.tail (.tail (.tail (.tail (.tail (.tail (.tail (.tail .head)))))))))))))))) ?_
      show EX c_law 30 [some (.imm (.list sl)), some (.imm (.list (ownL.map D.int))), some (.imm (.list cs)), some (.imm famD), some (.imm (.str c.letters)), some (.imm (doublesD c.doubles)), some (.imm (.int c.many)), some (.imm (.list (c.prs.map pairD))), some (.imm (.list (c.others.map D.str))), some (.imm (.str c.word)), some (.imm (.bool c.front)), some (.imm (.dict c.foldsL)), some (.imm (.dict c.movesL)), some (.imm (.list (c.signs.map D.str))), some (.imm (.str c.pattern)), some (.imm (.int c.longest)), some (.imm (.list ((c.rows i).map Row.d))), some (.own (.list ((c.counts i).map D.int))), some (.own (.dict (c.taken i))), some (.imm (.int i)), none, none, none, none, none, none, none, none, none, none, none] [lawLoop 0, lawLoop 1, lawLoop 2, lawLoop 3] _
      refine ex_cons (loop0 R hil) (ex_cons (loop1 R hil) (ex_cons (loop2 hil) (ex_cons (G1 := GL c sl cs (i + 1)) ?_ ex_nil)))
      conv => arg 4; whnf
      refine es_if (v := decide (i < c.longest)) (it_cast (it_cmp (ev_name (.tail (.tail (.tail (.tail (.tail (.tail (.tail (.tail (.tail (.tail (.tail (.tail (.tail (.tail (.tail (.tail (.tail (.tail (.tail .head)))))))))))))))))))) (ev_name (.tail (.tail (.tail (.tail (.tail (.tail (.tail (.tail (.tail (.tail (.tail (.tail (.tail (.tail (.tail .head)))))))))))))))) co_lt) (decide_eq_decide.mpr (by omega))) (fun e => ?_) (fun e => ?_)
      · have hlt : i < c.longest := of_decide_eq_true e
        refine ex_cons (loop3 R hlt) (ex_less ?_ ex_nil)
        unfold GL
        have e : rowsV c (i + 1) = some (.own (.list ((c.rows (i + 1)).map Row.d))) := by unfold rowsV; rw [if_pos (show i + 1 ≤ c.longest from hlt)]
        rw [e]
        (repeat (first | exact Less.nil | refine Less.drop ?_ | refine Less.same ?_))
      · have hlt : ¬ i < c.longest := of_decide_eq_false e
        refine ex_less ?_ ex_nil
        unfold GL
        have e : rowsV c (i + 1) = none := by unfold rowsV; rw [if_neg (by exact Nat.not_le.mpr (Nat.lt_succ_of_le (Nat.le_of_not_lt hlt)))]
        rw [e]
        (repeat (first | exact Less.nil | refine Less.drop ?_ | refine Less.same ?_))
end
theorem pickD_take {α : Type} (l : List α) {k : Nat} (h : k ≤ l.length) : pickD l none (some (k : Int)) none = l.take k := by
  unfold pickD
  rw [sliceBounds_plain]
  have e : clipAt l.length (k : Int) = k := by unfold clipAt; rw [if_neg (by exact Int.not_lt.mpr (Int.natCast_nonneg _))]; omega
  show (sliceRange ((0 : Nat) : Int) ((clipAt l.length (k : Int) : Nat) : Int) 1).filterMap (l[·]?) = _
  rw [e, sliceRange_one, List.filterMap_map]
  clear e
  have : ∀ k, k ≤ l.length → (List.range (k - 0)).filterMap ((fun x => l[x]?) ∘ (fun x => 0 + x)) = l.take k := by
    intro k hk
    simp only [Nat.sub_zero, Nat.zero_add]
    induction k with
    | zero => rfl
    | succ k ih =>
      rw [List.range_succ, List.filterMap_append, List.take_add_one]
      show (List.range k).filterMap (fun x => l[x]?) ++ _ = _
      have ih' : (List.range k).filterMap (fun x => l[x]?) = l.take k := ih (by exact Nat.le_of_lt hk)
      rw [ih']
      congr 1
  exact this k h
theorem sm_abs {a : Int} {n : Nat} (hn : n ≤ 1000000) (h1 : -(2 ^ n) < a) (h2 : a < 2 ^ n) : Sm a := by
  unfold Sm
  refine Nat.le_trans ?_ (show 1000000 ≤ 2 ^ 20 by decide)
  refine Nat.le_trans ?_ hn
  rw [intBits_le_iff]
  have : (a.natAbs : Int) < ((2 ^ n : Nat) : Int) := by
    have e : ((2 ^ n : Nat) : Int) = (2 : Int) ^ n := by push_cast; rfl
    rw [e]; lia
  exact_mod_cast this
theorem foldl_max : ∀ (xs : List Nat) (a : Nat), a ≤ xs.foldl max a ∧ (∀ x ∈ xs, x ≤ xs.foldl max a) ∧ (xs.foldl max a = a ∨ xs.foldl max a ∈ xs)
  | [], a => ⟨Nat.le_refl _, (fun x h => by cases h), .inl rfl⟩
  | y :: xs, a => by
    obtain ⟨h1, h2, h3⟩ := foldl_max xs (max a y)
    rw [List.foldl_cons]
    refine ⟨by lia, fun x m => ?_, ?_⟩
    · rcases List.mem_cons.mp m with rfl | m
      · lia
      · exact h2 x m
    · rcases h3 with h3 | h3
      · rw [h3]
        rcases Nat.le_total a y with q | q
        · right; rw [Nat.max_eq_right q]; exact List.mem_cons_self ..
        · left; exact Nat.max_eq_left q
      · exact .inr (List.mem_cons_of_mem _ h3)
noncomputable def placesOf (l : List Int) : List Int := (l.mapIdx fun i n => (i, n)).filterMap fun p => if p.2 = 0 then none else some ((p.1 : Int) + 1)
theorem kept_mem (l : List Int) : (keptOf l : Int) ∈ 0 :: placesOf l := by
  unfold keptOf
  obtain ⟨_, _, h⟩ := foldl_max (l.mapIdx fun i n => if n = 0 then 0 else i + 1) 0
  rcases h with h | h
  · rw [h]; exact List.mem_cons_self ..
  · obtain ⟨i, hi, e⟩ := List.mem_mapIdx.mp h
    by_cases q : l[i] = 0
    · rw [if_pos q] at e
      rw [← e]; exact List.mem_cons_self ..
    · rw [if_neg q] at e
      refine List.mem_cons_of_mem _ ?_
      unfold placesOf
      rw [List.mem_filterMap]
      refine ⟨(i, l[i]), List.mem_mapIdx.mpr ⟨i, hi, rfl⟩, ?_⟩
      rw [if_neg q, ← e]; simp
theorem kept_le (l : List Int) : ∀ a ∈ 0 :: placesOf l, a ≤ (keptOf l : Int) := by
  intro a m
  unfold keptOf
  obtain ⟨_, h, _⟩ := foldl_max (l.mapIdx fun i n => if n = 0 then 0 else i + 1) 0
  rcases List.mem_cons.mp m with rfl | m
  · exact Int.natCast_nonneg _
  · unfold placesOf at m
    obtain ⟨p, mp, e⟩ := List.mem_filterMap.mp m
    obtain ⟨i, hi, rfl⟩ := List.mem_mapIdx.mp mp
    by_cases q : l[i] = 0
    · simp [q] at e
    · simp only [if_neg q] at e
      have e : (i : Int) + 1 = a := by simpa using e
      have := h (i + 1) (List.mem_mapIdx.mpr ⟨i, hi, by rw [if_neg q]⟩)
      rw [← e]; exact Int.add_one_le_of_lt (Int.ofNat_lt.mpr this)
theorem kept_len (l : List Int) : keptOf l ≤ l.length := by
  have := kept_mem l
  rcases List.mem_cons.mp this with h | m
  · lia
  · unfold placesOf at m
    obtain ⟨p, mp, e⟩ := List.mem_filterMap.mp m
    obtain ⟨i, hi, rfl⟩ := List.mem_mapIdx.mp mp
    by_cases q : l[i] = 0
    · simp [q] at e
    · simp only [if_neg q] at e
      have e : (i : Int) + 1 = (keptOf l : Int) := by simpa using e
      lia
structure NumF (c : Cs) : Prop where
  frac : FC "_law_fraction" 1 [.list (c.signs.map D.str), .dict c.movesL, .int c.word.length, .int (2 ^ c.width), .int c.every] (.tup [.int c.upper0, .int c.lower])
  lpos : 0 < c.lower
  upos : 0 ≤ c.upper
  u0 : -(2 ^ 3000) < c.upper0 ∧ c.upper0 < 2 ^ 3000
  ub : c.upper < 2 ^ 3000
  lb : c.lower < 2 ^ 3000
  dig : ∀ a, 0 ≤ a → a ≤ c.upper → nDig (Builtin.Int.intBits c.lower) a ≤ 20
  nd : nDig c.width (c.upper / c.lower) ≤ 20
  qd : c.upper / c.lower = dv c.width c.final
  qg : dgs c.width (c.upper / c.lower) (nDig c.width (c.upper / c.lower)) = c.final.take (keptOf c.final)
  cb : ∀ d ∈ c.final, 0 ≤ d ∧ d < 2 ^ c.width
theorem Cs.width_le (c : Cs) : 10 ≤ c.width ∧ c.width ≤ 59 := by unfold Cs.width; lia
theorem Cs.final_len (c : Cs) : c.final.length = c.longest + 1 := Cs.counts_len c _
section
variable {c : Cs} {sl cs : List D} (hc : ∀ k, k < 6 → cs[k]? = some (.int (c.at k : Int))) (N : NumF c)
include hc in
theorem law17 : ES c_law 30 [some (.imm (.list sl)), some (.imm (.list (ownL.map D.int))), some (.imm (.list cs)), some (.imm famD), some (.imm (.str c.letters)), some (.imm (doublesD c.doubles)), some (.imm (.int c.many)), some (.imm (.list (c.prs.map pairD))), some (.imm (.list (c.others.map D.str))), some (.imm (.str c.word)), some (.imm (.bool c.front)), some (.imm (.dict c.foldsL)), some (.imm (.dict c.movesL)), some (.imm (.list (c.signs.map D.str))), some (.imm (.str c.pattern)), some (.imm (.int c.longest)), none, some (.imm (.list (c.final.map D.int))), none, none, none, none, none, none, none, none, none, none, none, none, none] (lawSt 17) (.next [some (.imm (.list sl)), some (.imm (.list (ownL.map D.int))), some (.imm (.list cs)), some (.imm famD), some (.imm (.str c.letters)), some (.imm (doublesD c.doubles)), some (.imm (.int c.many)), some (.imm (.list (c.prs.map pairD))), some (.imm (.list (c.others.map D.str))), some (.imm (.str c.word)), some (.imm (.bool c.front)), some (.imm (.dict c.foldsL)), some (.imm (.dict c.movesL)), some (.imm (.list (c.signs.map D.str))), some (.imm (.str c.pattern)), some (.imm (.int c.longest)), none, some (.imm (.list (c.final.map D.int))), none, none, none, none, none, none, some (.imm (.int c.width)), none, none, none, none, none, none]) := by
  conv => arg 4; whnf
  exact es_assign (ev_cast (ev_bin ev_int (ev_bin (ev_bin (ev_sub (ev_name (.tail (.tail .head))) ev_int (si_list (i := 5) (hc 5 (by decide)) (by decide))) ev_int (bo_div (by decide) (by decide))) ev_int (bo_mod (by decide))) bo_add) (by show D.int (10 + ((c.c5 : Nat) : Int) / 2 % 50) = _; unfold Cs.width; congr 1)) (.tail (.tail (.tail (.tail (.tail (.tail (.tail (.tail (.tail (.tail (.tail (.tail (.tail (.tail (.tail (.tail (.tail (.tail (.tail (.tail (.tail (.tail (.tail (.tail .head))))))))))))))))))))))))
include N
theorem law18 : ES c_law 30 [some (.imm (.list sl)), some (.imm (.list (ownL.map D.int))), some (.imm (.list cs)), some (.imm famD), some (.imm (.str c.letters)), some (.imm (doublesD c.doubles)), some (.imm (.int c.many)), some (.imm (.list (c.prs.map pairD))), some (.imm (.list (c.others.map D.str))), some (.imm (.str c.word)), some (.imm (.bool c.front)), some (.imm (.dict c.foldsL)), some (.imm (.dict c.movesL)), some (.imm (.list (c.signs.map D.str))), some (.imm (.str c.pattern)), some (.imm (.int c.longest)), none, some (.imm (.list (c.final.map D.int))), none, none, none, none, none, none, some (.imm (.int c.width)), none, none, none, none, none, none] (lawSt 18) (.next [some (.imm (.list sl)), some (.imm (.list (ownL.map D.int))), some (.imm (.list cs)), some (.imm famD), some (.imm (.str c.letters)), some (.imm (doublesD c.doubles)), some (.imm (.int c.many)), some (.imm (.list (c.prs.map pairD))), some (.imm (.list (c.others.map D.str))), some (.imm (.str c.word)), some (.imm (.bool c.front)), some (.imm (.dict c.foldsL)), some (.imm (.dict c.movesL)), some (.imm (.list (c.signs.map D.str))), some (.imm (.str c.pattern)), some (.imm (.int c.longest)), none, some (.imm (.list (c.final.map D.int))), none, none, none, none, none, none, some (.imm (.int c.width)), some (.imm (.int c.upper0)), some (.imm (.int c.lower)), none, none, none, none]) := by
  conv => arg 4; whnf
  have hw := word_len c
  have hw2 := c.width_le
  have ho : (c.others.map D.str).length = c.nOthers := by unfold Cs.others; simp
  have := c.nOthers_le
  have i2 : Builtin.Int.intBits 2 = 2 := by decide
  exact es_assign_tup (ev_call ht0 (.tail (.tail (.tail (.tail .head)))) (by decide) (evs_cons (ev_name (.tail (.tail (.tail (.tail (.tail (.tail (.tail (.tail (.tail (.tail (.tail (.tail (.tail .head)))))))))))))) (evs_cons (ev_name (.tail (.tail (.tail (.tail (.tail (.tail (.tail (.tail (.tail (.tail (.tail (.tail .head))))))))))))) (evs_cons (ev_blt ht0 (.tail .head) (by decide) (evs_cons (ev_name (.tail (.tail (.tail (.tail (.tail (.tail (.tail (.tail (.tail .head)))))))))) evs_nil) (bc_len_str (by exact Nat.le_trans hw (by decide)))) (evs_cons (ev_bin ev_int (ev_name (.tail (.tail (.tail (.tail (.tail (.tail (.tail (.tail (.tail (.tail (.tail (.tail (.tail (.tail (.tail (.tail (.tail (.tail (.tail (.tail (.tail (.tail (.tail (.tail .head))))))))))))))))))))))))) (bo_pow (by rw [i2]; lia))) (evs_cons (ev_cast (ev_bin (ev_name (.tail (.tail (.tail (.tail (.tail (.tail .head))))))) (ev_blt ht0 (.tail .head) (by decide) (evs_cons (ev_name (.tail (.tail (.tail (.tail (.tail (.tail (.tail (.tail .head))))))))) evs_nil) (bc_len_list (by rw [ho]; exact Nat.le_trans this (by decide)))) bo_add) (by rw [ho]; unfold Cs.every; congr 1)) evs_nil))))) (FC.le (k := 30) N.frac (by decide))) (ass_name (.tail (.tail (.tail (.tail (.tail (.tail (.tail (.tail (.tail (.tail (.tail (.tail (.tail (.tail (.tail (.tail (.tail (.tail (.tail (.tail (.tail (.tail (.tail (.tail (.tail .head))))))))))))))))))))))))) (ass_name (.tail (.tail (.tail (.tail (.tail (.tail (.tail (.tail (.tail (.tail (.tail (.tail (.tail (.tail (.tail (.tail (.tail (.tail (.tail (.tail (.tail (.tail (.tail (.tail (.tail (.tail .head)))))))))))))))))))))))))) ASS.nil)) (hw := fun env h => by cases env; cases h; rfl)
theorem law19 : ES c_law 30 [some (.imm (.list sl)), some (.imm (.list (ownL.map D.int))), some (.imm (.list cs)), some (.imm famD), some (.imm (.str c.letters)), some (.imm (doublesD c.doubles)), some (.imm (.int c.many)), some (.imm (.list (c.prs.map pairD))), some (.imm (.list (c.others.map D.str))), some (.imm (.str c.word)), some (.imm (.bool c.front)), some (.imm (.dict c.foldsL)), some (.imm (.dict c.movesL)), some (.imm (.list (c.signs.map D.str))), some (.imm (.str c.pattern)), some (.imm (.int c.longest)), none, some (.imm (.list (c.final.map D.int))), none, none, none, none, none, none, some (.imm (.int c.width)), some (.imm (.int c.upper0)), some (.imm (.int c.lower)), none, none, none, none] (lawSt 19) (.next [some (.imm (.list sl)), some (.imm (.list (ownL.map D.int))), some (.imm (.list cs)), some (.imm famD), some (.imm (.str c.letters)), some (.imm (doublesD c.doubles)), some (.imm (.int c.many)), some (.imm (.list (c.prs.map pairD))), some (.imm (.list (c.others.map D.str))), some (.imm (.str c.word)), some (.imm (.bool c.front)), some (.imm (.dict c.foldsL)), some (.imm (.dict c.movesL)), some (.imm (.list (c.signs.map D.str))), some (.imm (.str c.pattern)), some (.imm (.int c.longest)), none, some (.imm (.list (c.final.map D.int))), none, none, none, none, none, none, some (.imm (.int c.width)), some (.imm (.int c.upper)), some (.imm (.int c.lower)), none, none, none, none]) := by
  conv => arg 4; whnf
  have hw2 := c.width_le
  have hl := c.longest_le
  have i2 : Builtin.Int.intBits 2 = 2 := by decide
  have hm : c.width * (c.longest + 1) ≤ 59 * 6 := Nat.mul_le_mul hw2.2 (by exact Nat.lt_of_le_of_lt hl (by decide))
  have s1 : ∀ n : Nat, n ≤ 60 → Sm (n : Int) := fun n h => sm_abs (n := 6) (by decide) (by lia) (by exact Int.lt_of_le_of_lt (Int.ofNat_le.mpr h) (by decide))
  have s2 : Sm ((2 : Int) ^ (c.width * (c.longest + 1))) := sm_abs (n := 355) (by decide) (Int.lt_of_lt_of_le (by decide) (Int.le_of_lt (Int.pow_pos (by decide)))) (Int.lt_of_le_of_lt (pow2_le hm) (by decide))
  refine es_assign (ev_bin (f := .int c.upper) (ev_name (.tail (.tail (.tail (.tail (.tail (.tail (.tail (.tail (.tail (.tail (.tail (.tail (.tail (.tail (.tail (.tail (.tail (.tail (.tail (.tail (.tail (.tail (.tail (.tail (.tail .head)))))))))))))))))))))))))) (ev_bin (f := .int (2 ^ (c.width * (c.longest + 1)))) ev_int (ev_cast (d' := .int ((c.width * (c.longest + 1) : Nat) : Int)) (ev_bin (ev_name (.tail (.tail (.tail (.tail (.tail (.tail (.tail (.tail (.tail (.tail (.tail (.tail (.tail (.tail (.tail (.tail (.tail (.tail (.tail (.tail (.tail (.tail (.tail (.tail .head))))))))))))))))))))))))) (ev_bin (ev_name (.tail (.tail (.tail (.tail (.tail (.tail (.tail (.tail (.tail (.tail (.tail (.tail (.tail (.tail (.tail .head)))))))))))))))) ev_int bo_add) (bo_mul (s1 _ (by exact Nat.le_trans hw2.2 (by decide))) (by have := s1 (c.longest + 1) (by exact Nat.lt_of_le_of_lt hl (by decide)); exact this))) (by push_cast; rfl)) (bo_pow (by rw [i2]; lia))) (bo_mul (sm_abs (n := 3000) (by decide) N.u0.1 N.u0.2) s2)) (.tail (.tail (.tail (.tail (.tail (.tail (.tail (.tail (.tail (.tail (.tail (.tail (.tail (.tail (.tail (.tail (.tail (.tail (.tail (.tail (.tail (.tail (.tail (.tail (.tail .head)))))))))))))))))))))))))
theorem idm_l {a : Int} (h : -c.upper - 1 ≤ a) (h2 : a ≤ c.upper) : FCT "int_divmod" 25 [.int a, .int c.lower] (.tup [.int (a / c.lower), .int (a % c.lower)]) :=
  FCT.le (fct_idm (k := 20) N.lpos (Nat.le_trans (bits_lt (Int.le_of_lt N.lpos) N.lb) (by decide)) (fun q => N.dig _ (by lia) (by lia)) (fun q => N.dig _ q h2) (by decide)) (by decide)
theorem law20 : EST c_law 30 [some (.imm (.list sl)), some (.imm (.list (ownL.map D.int))), some (.imm (.list cs)), some (.imm famD), some (.imm (.str c.letters)), some (.imm (doublesD c.doubles)), some (.imm (.int c.many)), some (.imm (.list (c.prs.map pairD))), some (.imm (.list (c.others.map D.str))), some (.imm (.str c.word)), some (.imm (.bool c.front)), some (.imm (.dict c.foldsL)), some (.imm (.dict c.movesL)), some (.imm (.list (c.signs.map D.str))), some (.imm (.str c.pattern)), some (.imm (.int c.longest)), none, some (.imm (.list (c.final.map D.int))), none, none, none, none, none, none, some (.imm (.int c.width)), some (.imm (.int c.upper)), some (.imm (.int c.lower)), none, none, none, none] (lawSt 20) (.next [some (.imm (.list sl)), some (.imm (.list (ownL.map D.int))), some (.imm (.list cs)), some (.imm famD), some (.imm (.str c.letters)), some (.imm (doublesD c.doubles)), some (.imm (.int c.many)), some (.imm (.list (c.prs.map pairD))), some (.imm (.list (c.others.map D.str))), some (.imm (.str c.word)), some (.imm (.bool c.front)), some (.imm (.dict c.foldsL)), some (.imm (.dict c.movesL)), some (.imm (.list (c.signs.map D.str))), some (.imm (.str c.pattern)), some (.imm (.int c.longest)), none, some (.imm (.list (c.final.map D.int))), none, none, none, none, none, none, some (.imm (.int c.width)), some (.imm (.int c.upper)), some (.imm (.int c.lower)), some (.imm (.int (c.upper / c.lower))), some (.imm (.int (c.upper % c.lower))), none, none]) := by
  conv => arg 4; whnf
  have := N.upos
  exact est_assign_tup (evt_call (.tail (.tail (.tail (.tail (.tail .head))))) (by decide) (evs_cons (ev_name (.tail (.tail (.tail (.tail (.tail (.tail (.tail (.tail (.tail (.tail (.tail (.tail (.tail (.tail (.tail (.tail (.tail (.tail (.tail (.tail (.tail (.tail (.tail (.tail (.tail .head)))))))))))))))))))))))))) (evs_cons (ev_name (.tail (.tail (.tail (.tail (.tail (.tail (.tail (.tail (.tail (.tail (.tail (.tail (.tail (.tail (.tail (.tail (.tail (.tail (.tail (.tail (.tail (.tail (.tail (.tail (.tail (.tail .head))))))))))))))))))))))))))) evs_nil)) (FCT.le (idm_l N (by lia) (Int.le_refl _)) (by decide))) (ass_name (.tail (.tail (.tail (.tail (.tail (.tail (.tail (.tail (.tail (.tail (.tail (.tail (.tail (.tail (.tail (.tail (.tail (.tail (.tail (.tail (.tail (.tail (.tail (.tail (.tail (.tail (.tail .head))))))))))))))))))))))))))) (ass_name (.tail (.tail (.tail (.tail (.tail (.tail (.tail (.tail (.tail (.tail (.tail (.tail (.tail (.tail (.tail (.tail (.tail (.tail (.tail (.tail (.tail (.tail (.tail (.tail (.tail (.tail (.tail (.tail .head)))))))))))))))))))))))))))) ASS.nil)) (hw := fun env h => by cases env; cases h; rfl)
theorem law21 : ES c_law 30 [some (.imm (.list sl)), some (.imm (.list (ownL.map D.int))), some (.imm (.list cs)), some (.imm famD), some (.imm (.str c.letters)), some (.imm (doublesD c.doubles)), some (.imm (.int c.many)), some (.imm (.list (c.prs.map pairD))), some (.imm (.list (c.others.map D.str))), some (.imm (.str c.word)), some (.imm (.bool c.front)), some (.imm (.dict c.foldsL)), some (.imm (.dict c.movesL)), some (.imm (.list (c.signs.map D.str))), some (.imm (.str c.pattern)), some (.imm (.int c.longest)), none, some (.imm (.list (c.final.map D.int))), none, none, none, none, none, none, some (.imm (.int c.width)), some (.imm (.int c.upper)), some (.imm (.int c.lower)), some (.imm (.int (c.upper / c.lower))), some (.imm (.int (c.upper % c.lower))), none, none] (lawSt 21) (.next [some (.imm (.list sl)), some (.imm (.list (ownL.map D.int))), some (.imm (.list cs)), some (.imm famD), some (.imm (.str c.letters)), some (.imm (doublesD c.doubles)), some (.imm (.int c.many)), some (.imm (.list (c.prs.map pairD))), some (.imm (.list (c.others.map D.str))), some (.imm (.str c.word)), some (.imm (.bool c.front)), some (.imm (.dict c.foldsL)), some (.imm (.dict c.movesL)), some (.imm (.list (c.signs.map D.str))), some (.imm (.str c.pattern)), some (.imm (.int c.longest)), none, some (.imm (.list (c.final.map D.int))), none, none, none, none, none, none, some (.imm (.int c.width)), some (.imm (.int c.upper)), some (.imm (.int c.lower)), some (.imm (.int (c.upper / c.lower))), some (.imm (.int (c.upper % c.lower))), some (.imm (.int (keptOf c.final : Nat))), none]) := by
  conv => arg 4; whnf
  have hfl := c.final_len
  have hl := c.longest_le
  have el : (enumD c.final).length = c.final.length := by unfold enumD; simp
  have ep : ∀ (i : Nat) (d : D), (enumD c.final)[i]? = some d → ∃ n, c.final[i]? = some n ∧ d = .tup [.int i, .int n] := by
    intro i d h
    unfold enumD at h
    rw [List.getElem?_mapIdx] at h
    cases q : c.final[i]? with
    | none => rw [q] at h; cases h
    | some n => rw [q] at h; cases h; exact ⟨n, rfl, rfl⟩
  let acc : Nat → List D := fun i => (placesOf (c.final.take i)).map D.int
  have efin : .list ((placesOf c.final).map D.int) = D.list (acc (enumD c.final).length) := by
    show _ = D.list ((placesOf (c.final.take _)).map D.int)
    rw [el, List.take_length]
  have hpl : (placesOf c.final).length ≤ 6 := by
    unfold placesOf
    refine Nat.le_trans (List.length_filterMap_le _ _) ?_
    rw [List.length_mapIdx]; lia
  have hnext : ∀ (i : Nat) (n : Int), c.final[i]? = some n → placesOf (c.final.take (i + 1)) = placesOf (c.final.take i) ++ (if n = 0 then [] else [(i : Int) + 1]) := by
    intro i n h
    unfold placesOf
    have hi : i < c.final.length := by
      rcases Nat.lt_or_ge i c.final.length with q | q
      · exact q
      · rw [List.getElem?_eq_none q] at h; cases h
    have hti : (c.final.take i).length = i := by rw [List.length_take]; lia
    rw [List.take_add_one, h]
    show List.filterMap _ (List.mapIdx _ (_ ++ [n])) = _
    rw [List.mapIdx_append, List.filterMap_append, hti]
    congr 1
    by_cases q : n = 0 <;> simp [q]
  refine es_assign (ev_blt (id := "max") ht0 (.tail (.tail (.tail (.tail (.tail (.tail .head)))))) (by decide) (evs_cons (d := .list ((0 :: placesOf c.final).map D.int)) (ev_bin (d := .list [.int 0]) (e := .list ((placesOf c.final).map D.int)) (EVN.ev (evn_list (evs_cons ev_int evs_nil) (Nat.le_of_ble_eq_true rfl))) (EVX.evd (by
    rw [efin]
    refine evx_list (c' := ⟨relS _ c_law.sc, ["place", "one"], []⟩) (G' := [none, none]) acc rfl (iterX_enum (.tail (.tail (.tail (.tail (.tail (.tail (.tail .head))))))) (ev_name (.tail (.tail (.tail (.tail (.tail (.tail (.tail (.tail (.tail (.tail (.tail (.tail (.tail (.tail (.tail (.tail (.tail .head))))))))))))))))))) (by decide +kernel) rfl (by decide +kernel) (.non (.non .nil)) (fun i d hd => ?_)
    obtain ⟨n, hn, rfl⟩ := ep i d hd
    refine ⟨[some (.imm (.int i)), some (.imm (.int n))], asl_tup (.cons .head (by decide +kernel) (.cons (.tail .head) (by decide +kernel) .nil)), .drop (.drop .nil), noOwn_of rfl, ?_⟩
    by_cases q : n = 0
    · right
      refine ⟨.one (it_cast (it_cmp (ev_name (.tail .head)) ev_int co_ne) (by simp [q])), ?_⟩
      show D.list ((placesOf (c.final.take (i + 1))).map D.int) = D.list ((placesOf (c.final.take i)).map D.int)
      rw [hnext i n hn, if_pos q, List.append_nil]
    · left
      refine ⟨.one (it_cast (it_cmp (ev_name (.tail .head)) ev_int co_ne) (by simp [q])), ?_⟩
      show ACT _ _ _ _ (D.list ((placesOf (c.final.take i)).map D.int)) (D.list ((placesOf (c.final.take (i + 1))).map D.int))
      rw [hnext i n hn, if_neg q, List.map_append]
      refine act_list (ev_bin (ev_name .head) ev_int bo_add) (noOwn_of rfl) ?_
      rw [List.length_map]
      unfold placesOf
      refine Nat.le_trans (List.length_filterMap_le _ _) ?_
      rw [List.length_mapIdx, List.length_take]; lia
    )) (bo_join (by rw [List.length_map]; show 1 + _ ≤ _; lia))) evs_nil) (bc_max (kept_mem c.final) (kept_le c.final))) (.tail (.tail (.tail (.tail (.tail (.tail (.tail (.tail (.tail (.tail (.tail (.tail (.tail (.tail (.tail (.tail (.tail (.tail (.tail (.tail (.tail (.tail (.tail (.tail (.tail (.tail (.tail (.tail (.tail .head)))))))))))))))))))))))))))))
end
theorem itt_cast {c : SC} {k : Nat} {G : Ctx} {e : Expr} {b b' : Bool} (h : ITT c k G e b) (q : b = b') : ITT c k G e b' := q ▸ h
theorem fct_cast {f : Str} {k : Nat} {ds ds' : List D} {d d' : D} (h : FCT f k ds d) (e1 : ds = ds') (e2 : d = d') : FCT f k ds' d' := e1 ▸ e2 ▸ h
section
variable {c : Cs} {sl cs : List D} (hc : ∀ k, k < 6 → cs[k]? = some (.int (c.at k : Int))) (N : NumF c)
include N
theorem n_mod : 0 ≤ c.upper % c.lower ∧ c.upper % c.lower < c.lower := ⟨Int.emod_nonneg _ (Int.ne_of_gt N.lpos), Int.emod_lt_of_pos _ N.lpos⟩
theorem n_eq : c.lower * (c.upper / c.lower) + c.upper % c.lower = c.upper := Int.mul_ediv_add_emod _ _
theorem n_quo : 0 ≤ c.upper / c.lower ∧ c.upper / c.lower ≤ c.upper := by
  have h1 : 0 ≤ c.upper / c.lower := Int.ediv_nonneg N.upos (Int.le_of_lt N.lpos)
  refine ⟨h1, ?_⟩
  exact Int.ediv_le_self _ N.upos
theorem sm_u {a : Int} (h1 : -(c.upper + c.lower + 5) ≤ a) (h2 : a ≤ c.upper + c.lower + 5) : Sm a := by
  have := N.ub
  have := N.lb
  have e : (2 : Int) ^ 3002 = 2 ^ 3000 * 4 := by rw [show 3002 = 3000 + 2 from rfl, Int.pow_add]; rfl
  have p : (5 : Int) < 2 ^ 3000 := Int.lt_of_lt_of_le (show (5 : Int) < 2 ^ 3 by decide) (pow2_le (by decide))
  generalize (2 : Int) ^ 3000 = B at *
  exact sm_abs (n := 3002) (by decide) (by rw [e]; lia) (by rw [e]; lia)
theorem law22 : EST c_law 30 [some (.imm (.list sl)), some (.imm (.list (ownL.map D.int))), some (.imm (.list cs)), some (.imm famD), some (.imm (.str c.letters)), some (.imm (doublesD c.doubles)), some (.imm (.int c.many)), some (.imm (.list (c.prs.map pairD))), some (.imm (.list (c.others.map D.str))), some (.imm (.str c.word)), some (.imm (.bool c.front)), some (.imm (.dict c.foldsL)), some (.imm (.dict c.movesL)), some (.imm (.list (c.signs.map D.str))), some (.imm (.str c.pattern)), some (.imm (.int c.longest)), none, some (.imm (.list (c.final.map D.int))), none, none, none, none, none, none, some (.imm (.int c.width)), some (.imm (.int c.upper)), some (.imm (.int c.lower)), some (.imm (.int (c.upper / c.lower))), some (.imm (.int (c.upper % c.lower))), some (.imm (.int (keptOf c.final : Nat))), none] (lawSt 22) (.next [some (.imm (.list sl)), some (.imm (.list (ownL.map D.int))), some (.imm (.list cs)), some (.imm famD), some (.imm (.str c.letters)), some (.imm (doublesD c.doubles)), some (.imm (.int c.many)), some (.imm (.list (c.prs.map pairD))), some (.imm (.list (c.others.map D.str))), some (.imm (.str c.word)), some (.imm (.bool c.front)), some (.imm (.dict c.foldsL)), some (.imm (.dict c.movesL)), some (.imm (.list (c.signs.map D.str))), some (.imm (.str c.pattern)), some (.imm (.int c.longest)), none, some (.imm (.list (c.final.map D.int))), none, none, none, none, none, none, some (.imm (.int c.width)), some (.imm (.int c.upper)), some (.imm (.int c.lower)), some (.imm (.int (c.upper / c.lower))), some (.imm (.int (c.upper % c.lower))), some (.imm (.int (keptOf c.final : Nat))), none]) := by
  conv => arg 4; whnf
  have hw := c.width_le
  have hl := c.longest_le
  have hf := c.final_len
  have hq := n_quo N
  refine est_if (v := false) (itt_cast (b := !decide (c.upper / c.lower = dv c.width c.final) || !decide (dgs c.width (c.upper / c.lower) (nDig c.width (c.upper / c.lower)) = c.final.take (keptOf c.final))) ?_ (by rw [N.qd, ← N.qg, N.qd]; simp)) (fun e => by cases e) (fun _ => ext_nil)
  refine itt_or2 (itt_cmp (evt_of (ev_name (.tail (.tail (.tail (.tail (.tail (.tail (.tail (.tail (.tail (.tail (.tail (.tail (.tail (.tail (.tail (.tail (.tail (.tail (.tail (.tail (.tail (.tail (.tail (.tail (.tail (.tail (.tail .head))))))))))))))))))))))))))))) (evt_call (.tail (.tail (.tail (.tail (.tail (.tail (.tail (.tail .head)))))))) (by decide) (evs_cons (ev_name (.tail (.tail (.tail (.tail (.tail (.tail (.tail (.tail (.tail (.tail (.tail (.tail (.tail (.tail (.tail (.tail (.tail .head)))))))))))))))))) (evs_cons (ev_name (.tail (.tail (.tail (.tail (.tail (.tail (.tail (.tail (.tail (.tail (.tail (.tail (.tail (.tail (.tail (.tail (.tail (.tail (.tail (.tail (.tail (.tail (.tail (.tail .head))))))))))))))))))))))))) evs_nil)) (FCT.le (fct_d2i (k := 6) (by exact Nat.le_trans hw.2 (by decide)) (by lia) (by decide) N.cb) (by decide))) co_ne) (fun _ => itt_cmp (evt_call (.tail (.tail (.tail (.tail (.tail (.tail (.tail (.tail (.tail .head))))))))) (by decide) (evs_cons (ev_name (.tail (.tail (.tail (.tail (.tail (.tail (.tail (.tail (.tail (.tail (.tail (.tail (.tail (.tail (.tail (.tail (.tail (.tail (.tail (.tail (.tail (.tail (.tail (.tail (.tail (.tail (.tail .head)))))))))))))))))))))))))))) (evs_cons (ev_name (.tail (.tail (.tail (.tail (.tail (.tail (.tail (.tail (.tail (.tail (.tail (.tail (.tail (.tail (.tail (.tail (.tail (.tail (.tail (.tail (.tail (.tail (.tail (.tail .head))))))))))))))))))))))))) evs_nil)) (FCT.le (fct_i2d (k := 20) (by exact Nat.le_trans (by decide) hw.1) (by exact Nat.le_trans hw.2 (by decide)) hq.1 N.nd (by decide)) (by decide))) (evt_of (d := .list ((c.final.take (keptOf c.final)).map D.int)) ?_) co_ne_ints)
  rw [← pickD_take c.final (kept_len _), ← pickD_map]
  exact ev_slice (ev_name (.tail (.tail (.tail (.tail (.tail (.tail (.tail (.tail (.tail (.tail (.tail (.tail (.tail (.tail (.tail (.tail (.tail .head)))))))))))))))))) ept_none (ept_some (ev_name (.tail (.tail (.tail (.tail (.tail (.tail (.tail (.tail (.tail (.tail (.tail (.tail (.tail (.tail (.tail (.tail (.tail (.tail (.tail (.tail (.tail (.tail (.tail (.tail (.tail (.tail (.tail (.tail (.tail .head))))))))))))))))))))))))))))))) ept_none (by decide) (by rw [List.length_map]; lia)
theorem law23 : EST c_law 30 [some (.imm (.list sl)), some (.imm (.list (ownL.map D.int))), some (.imm (.list cs)), some (.imm famD), some (.imm (.str c.letters)), some (.imm (doublesD c.doubles)), some (.imm (.int c.many)), some (.imm (.list (c.prs.map pairD))), some (.imm (.list (c.others.map D.str))), some (.imm (.str c.word)), some (.imm (.bool c.front)), some (.imm (.dict c.foldsL)), some (.imm (.dict c.movesL)), some (.imm (.list (c.signs.map D.str))), some (.imm (.str c.pattern)), some (.imm (.int c.longest)), none, some (.imm (.list (c.final.map D.int))), none, none, none, none, none, none, some (.imm (.int c.width)), some (.imm (.int c.upper)), some (.imm (.int c.lower)), some (.imm (.int (c.upper / c.lower))), some (.imm (.int (c.upper % c.lower))), some (.imm (.int (keptOf c.final : Nat))), none] (lawSt 23) (.next [some (.imm (.list sl)), some (.imm (.list (ownL.map D.int))), some (.imm (.list cs)), some (.imm famD), some (.imm (.str c.letters)), some (.imm (doublesD c.doubles)), some (.imm (.int c.many)), some (.imm (.list (c.prs.map pairD))), some (.imm (.list (c.others.map D.str))), some (.imm (.str c.word)), some (.imm (.bool c.front)), some (.imm (.dict c.foldsL)), some (.imm (.dict c.movesL)), some (.imm (.list (c.signs.map D.str))), some (.imm (.str c.pattern)), some (.imm (.int c.longest)), none, some (.imm (.list (c.final.map D.int))), none, none, none, none, none, none, some (.imm (.int c.width)), some (.imm (.int c.upper)), some (.imm (.int c.lower)), some (.imm (.int (c.upper / c.lower))), some (.imm (.int (c.upper % c.lower))), some (.imm (.int (keptOf c.final : Nat))), none]) := by
  conv => arg 4; whnf
  have hq := n_quo N
  have he := n_eq N
  have hp := N.lpos
  have hu := N.upos
  have he' : c.upper / c.lower * c.lower + c.upper % c.lower = c.upper := by rw [Int.mul_comm]; exact he
  refine est_if (v := false) (itt_cast (b := !decide (c.upper / c.lower * c.lower + c.upper % c.lower = c.upper) || !decide (c.upper / c.lower = c.upper / c.lower ∧ -(c.upper % c.lower) = -(c.upper % c.lower))) ?_ (by rw [he']; simp)) (fun e => by cases e) (fun _ => ext_nil)
  refine itt_or2 (itt_cmp (evt_of (ev_bin (ev_bin (ev_name (.tail (.tail (.tail (.tail (.tail (.tail (.tail (.tail (.tail (.tail (.tail (.tail (.tail (.tail (.tail (.tail (.tail (.tail (.tail (.tail (.tail (.tail (.tail (.tail (.tail (.tail (.tail .head)))))))))))))))))))))))))))) (ev_name (.tail (.tail (.tail (.tail (.tail (.tail (.tail (.tail (.tail (.tail (.tail (.tail (.tail (.tail (.tail (.tail (.tail (.tail (.tail (.tail (.tail (.tail (.tail (.tail (.tail (.tail .head))))))))))))))))))))))))))) (bo_mul (sm_u N (by lia) (by lia)) (sm_u N (by lia) (by lia)))) (ev_name (.tail (.tail (.tail (.tail (.tail (.tail (.tail (.tail (.tail (.tail (.tail (.tail (.tail (.tail (.tail (.tail (.tail (.tail (.tail (.tail (.tail (.tail (.tail (.tail (.tail (.tail (.tail (.tail .head))))))))))))))))))))))))))))) bo_add)) (evt_of (ev_name (.tail (.tail (.tail (.tail (.tail (.tail (.tail (.tail (.tail (.tail (.tail (.tail (.tail (.tail (.tail (.tail (.tail (.tail (.tail (.tail (.tail (.tail (.tail (.tail (.tail .head))))))))))))))))))))))))))) co_ne) (fun _ => itt_cmp (evt_call (.tail (.tail (.tail (.tail (.tail .head))))) (by decide) (evs_cons (ev_un (ev_name (.tail (.tail (.tail (.tail (.tail (.tail (.tail (.tail (.tail (.tail (.tail (.tail (.tail (.tail (.tail (.tail (.tail (.tail (.tail (.tail (.tail (.tail (.tail (.tail (.tail .head)))))))))))))))))))))))))) uo_neg) (evs_cons (ev_un (ev_name (.tail (.tail (.tail (.tail (.tail (.tail (.tail (.tail (.tail (.tail (.tail (.tail (.tail (.tail (.tail (.tail (.tail (.tail (.tail (.tail (.tail (.tail (.tail (.tail (.tail (.tail .head))))))))))))))))))))))))))) uo_neg) evs_nil)) (FCT.le (m := 26) (fct_idm2 (k := 25) (m := 0) (by lia) (fct_cast (idm_l N (a := c.upper) (by lia) (Int.le_refl _)) (by rw [Int.neg_neg, Int.neg_neg]) rfl)) (by decide))) (evt_of (ev_tup (evs_cons (ev_name (.tail (.tail (.tail (.tail (.tail (.tail (.tail (.tail (.tail (.tail (.tail (.tail (.tail (.tail (.tail (.tail (.tail (.tail (.tail (.tail (.tail (.tail (.tail (.tail (.tail (.tail (.tail .head)))))))))))))))))))))))))))) (evs_cons (ev_un (ev_name (.tail (.tail (.tail (.tail (.tail (.tail (.tail (.tail (.tail (.tail (.tail (.tail (.tail (.tail (.tail (.tail (.tail (.tail (.tail (.tail (.tail (.tail (.tail (.tail (.tail (.tail (.tail (.tail .head))))))))))))))))))))))))))))) uo_neg) evs_nil)) (Nat.le_of_ble_eq_true rfl))) co_ne_tup)
theorem div_neg1 : (-c.upper - 1) / c.lower = -(c.upper / c.lower) - 1 ∧ (-c.upper - 1) % c.lower = c.lower - 1 - c.upper % c.lower := by
  have h1 := n_mod N
  have h2 := n_eq N
  have e : -c.upper - 1 = (c.lower - 1 - c.upper % c.lower) + c.lower * (-(c.upper / c.lower) - 1) := by
    rw [Int.mul_sub, Int.mul_neg]; lia
  have hne := Int.ne_of_gt N.lpos
  rw [e]
  constructor
  · rw [Int.add_mul_ediv_left _ _ hne, Int.ediv_eq_zero_of_lt (by lia) (by lia), Int.zero_add]
  · rw [Int.add_mul_emod_self_left, Int.emod_eq_of_lt (by lia) (by lia)]
theorem div_neg2 : (c.upper % c.lower - c.upper) / c.lower = -(c.upper / c.lower) ∧ (c.upper % c.lower - c.upper) % c.lower = 0 := by
  have h2 := n_eq N
  have e : c.upper % c.lower - c.upper = 0 + c.lower * (-(c.upper / c.lower)) := by
    rw [Int.mul_neg]; lia
  have hne := Int.ne_of_gt N.lpos
  rw [e]
  constructor
  · rw [Int.add_mul_ediv_left _ _ hne, Int.zero_ediv, Int.zero_add]
  · rw [Int.add_mul_emod_self_left, Int.zero_emod]
theorem idm_side {side a q r : Int} (hs : side = 1 ∨ side = -1) (h : -c.upper - 1 ≤ a) (h2 : a ≤ c.upper) (e1 : a / c.lower = q) (e2 : a % c.lower = r) : FCT "int_divmod" 30 [.int (side * a), .int (side * c.lower)] (.tup [.int q, .int (side * r)]) := by
  have h0 := N.lpos
  rcases hs with rfl | rfl
  · exact FCT.le (m := 25) (fct_cast (idm_l N h h2) (by rw [Int.one_mul, Int.one_mul]) (by rw [e1, e2, Int.one_mul])) (by decide)
  · refine FCT.le (m := 26) (fct_cast (fct_idm2 (a := -1 * a) (b := -1 * c.lower) (k := 25) (m := 0) (Q := q) (R := r) (by lia) (fct_cast (idm_l N h h2) (by rw [show -(-1 * a) = a by exact by simp, show -(-1 * c.lower) = c.lower by exact by simp]) (by rw [e1, e2]))) rfl (by rw [show -r = -1 * r by exact by simp])) (by decide)
theorem law24 : EST c_law 30 [some (.imm (.list sl)), some (.imm (.list (ownL.map D.int))), some (.imm (.list cs)), some (.imm famD), some (.imm (.str c.letters)), some (.imm (doublesD c.doubles)), some (.imm (.int c.many)), some (.imm (.list (c.prs.map pairD))), some (.imm (.list (c.others.map D.str))), some (.imm (.str c.word)), some (.imm (.bool c.front)), some (.imm (.dict c.foldsL)), some (.imm (.dict c.movesL)), some (.imm (.list (c.signs.map D.str))), some (.imm (.str c.pattern)), some (.imm (.int c.longest)), none, some (.imm (.list (c.final.map D.int))), none, none, none, none, none, none, some (.imm (.int c.width)), some (.imm (.int c.upper)), some (.imm (.int c.lower)), some (.imm (.int (c.upper / c.lower))), some (.imm (.int (c.upper % c.lower))), some (.imm (.int (keptOf c.final : Nat))), none] (lawSt 24) (.next [some (.imm (.list sl)), some (.imm (.list (ownL.map D.int))), some (.imm (.list cs)), some (.imm famD), some (.imm (.str c.letters)), some (.imm (doublesD c.doubles)), some (.imm (.int c.many)), some (.imm (.list (c.prs.map pairD))), some (.imm (.list (c.others.map D.str))), some (.imm (.str c.word)), some (.imm (.bool c.front)), some (.imm (.dict c.foldsL)), some (.imm (.dict c.movesL)), some (.imm (.list (c.signs.map D.str))), some (.imm (.str c.pattern)), some (.imm (.int c.longest)), none, some (.imm (.list (c.final.map D.int))), none, none, none, none, none, none, some (.imm (.int c.width)), some (.imm (.int c.upper)), some (.imm (.int c.lower)), some (.imm (.int (c.upper / c.lower))), some (.imm (.int (c.upper % c.lower))), some (.imm (.int (keptOf c.final : Nat))), none]) := by
  conv => arg 4; whnf
  have hq := n_quo N
  have he := n_eq N
  have hp := N.lpos
  have hu := N.upos
  have hm := n_mod N
  have hlq := Int.mul_nonneg (Int.le_of_lt hp) hq.1
  refine est_for (ds := [.int 1, .int (-1)]) (iter_tup (ev_tup (evs_cons ev_int (evs_cons (ev_un ev_int uo_neg) evs_nil)) (Nat.le_of_ble_eq_true rfl))) (fun _ => [some (.imm (.list sl)), some (.imm (.list (ownL.map D.int))), some (.imm (.list cs)), some (.imm famD), some (.imm (.str c.letters)), some (.imm (doublesD c.doubles)), some (.imm (.int c.many)), some (.imm (.list (c.prs.map pairD))), some (.imm (.list (c.others.map D.str))), some (.imm (.str c.word)), some (.imm (.bool c.front)), some (.imm (.dict c.foldsL)), some (.imm (.dict c.movesL)), some (.imm (.list (c.signs.map D.str))), some (.imm (.str c.pattern)), some (.imm (.int c.longest)), none, some (.imm (.list (c.final.map D.int))), none, none, none, none, none, none, some (.imm (.int c.width)), some (.imm (.int c.upper)), some (.imm (.int c.lower)), some (.imm (.int (c.upper / c.lower))), some (.imm (.int (c.upper % c.lower))), some (.imm (.int (keptOf c.final : Nat))), none]) (by (repeat (first | exact Less.nil | refine Less.drop ?_ | refine Less.same ?_))) (fun i d hd => ?_)
  obtain ⟨side, hs, rfl⟩ : ∃ side : Int, (side = 1 ∨ side = -1) ∧ d = .int side := by
    match i, hd with
    | 0, hd => cases hd; exact ⟨1, .inl rfl, rfl⟩
    | 1, hd => cases hd; exact ⟨-1, .inr rfl, rfl⟩
  refine ⟨[some (.imm (.list sl)), some (.imm (.list (ownL.map D.int))), some (.imm (.list cs)), some (.imm famD), some (.imm (.str c.letters)), some (.imm (doublesD c.doubles)), some (.imm (.int c.many)), some (.imm (.list (c.prs.map pairD))), some (.imm (.list (c.others.map D.str))), some (.imm (.str c.word)), some (.imm (.bool c.front)), some (.imm (.dict c.foldsL)), some (.imm (.dict c.movesL)), some (.imm (.list (c.signs.map D.str))), some (.imm (.str c.pattern)), some (.imm (.int c.longest)), none, some (.imm (.list (c.final.map D.int))), none, none, none, none, none, none, some (.imm (.int c.width)), some (.imm (.int c.upper)), some (.imm (.int c.lower)), some (.imm (.int (c.upper / c.lower))), some (.imm (.int (c.upper % c.lower))), some (.imm (.int (keptOf c.final : Nat))), some (.imm (.int side))], as_name (.tail (.tail (.tail (.tail (.tail (.tail (.tail (.tail (.tail (.tail (.tail (.tail (.tail (.tail (.tail (.tail (.tail (.tail (.tail (.tail (.tail (.tail (.tail (.tail (.tail (.tail (.tail (.tail (.tail (.tail .head)))))))))))))))))))))))))))))), ?_⟩
  have sms : Sm side := sm_u N (by lia) (by lia)
  refine ext_cons (G1 := [some (.imm (.list sl)), some (.imm (.list (ownL.map D.int))), some (.imm (.list cs)), some (.imm famD), some (.imm (.str c.letters)), some (.imm (doublesD c.doubles)), some (.imm (.int c.many)), some (.imm (.list (c.prs.map pairD))), some (.imm (.list (c.others.map D.str))), some (.imm (.str c.word)), some (.imm (.bool c.front)), some (.imm (.dict c.foldsL)), some (.imm (.dict c.movesL)), some (.imm (.list (c.signs.map D.str))), some (.imm (.str c.pattern)), some (.imm (.int c.longest)), none, some (.imm (.list (c.final.map D.int))), none, none, none, none, none, none, some (.imm (.int c.width)), some (.imm (.int c.upper)), some (.imm (.int c.lower)), some (.imm (.int (c.upper / c.lower))), some (.imm (.int (c.upper % c.lower))), some (.imm (.int (keptOf c.final : Nat))), some (.imm (.int side))]) (est_if (v := false) (itt_cast (b := !decide (-(c.upper / c.lower) - 1 = -(c.upper / c.lower) - 1 ∧ side * (c.lower - 1 - c.upper % c.lower) = side * (c.lower - 1 - c.upper % c.lower))) ?_ (by simp)) (fun e => by cases e) (fun _ => ext_nil)) (ext_cons (G1 := [some (.imm (.list sl)), some (.imm (.list (ownL.map D.int))), some (.imm (.list cs)), some (.imm famD), some (.imm (.str c.letters)), some (.imm (doublesD c.doubles)), some (.imm (.int c.many)), some (.imm (.list (c.prs.map pairD))), some (.imm (.list (c.others.map D.str))), some (.imm (.str c.word)), some (.imm (.bool c.front)), some (.imm (.dict c.foldsL)), some (.imm (.dict c.movesL)), some (.imm (.list (c.signs.map D.str))), some (.imm (.str c.pattern)), some (.imm (.int c.longest)), none, some (.imm (.list (c.final.map D.int))), none, none, none, none, none, none, some (.imm (.int c.width)), some (.imm (.int c.upper)), some (.imm (.int c.lower)), some (.imm (.int (c.upper / c.lower))), some (.imm (.int (c.upper % c.lower))), some (.imm (.int (keptOf c.final : Nat))), some (.imm (.int side))]) (est_if (v := false) (itt_cast (b := !decide (-(c.upper / c.lower) = -(c.upper / c.lower) ∧ (0 : Int) = 0)) ?_ (by simp)) (fun e => by cases e) (fun _ => ext_nil)) (ext_less (by (repeat (first | exact Less.nil | refine Less.drop ?_ | refine Less.same ?_))) ext_nil))
  · exact itt_cmp (evt_call (.tail (.tail (.tail (.tail (.tail .head))))) (by decide) (evs_cons (ev_bin (ev_name (.tail (.tail (.tail (.tail (.tail (.tail (.tail (.tail (.tail (.tail (.tail (.tail (.tail (.tail (.tail (.tail (.tail (.tail (.tail (.tail (.tail (.tail (.tail (.tail (.tail (.tail (.tail (.tail (.tail (.tail .head))))))))))))))))))))))))))))))) (ev_bin (ev_un (ev_name (.tail (.tail (.tail (.tail (.tail (.tail (.tail (.tail (.tail (.tail (.tail (.tail (.tail (.tail (.tail (.tail (.tail (.tail (.tail (.tail (.tail (.tail (.tail (.tail (.tail .head)))))))))))))))))))))))))) uo_neg) ev_int bo_sub) (bo_mul (sms) (sm_u N (by lia) (by lia)))) (evs_cons (ev_bin (ev_name (.tail (.tail (.tail (.tail (.tail (.tail (.tail (.tail (.tail (.tail (.tail (.tail (.tail (.tail (.tail (.tail (.tail (.tail (.tail (.tail (.tail (.tail (.tail (.tail (.tail (.tail (.tail (.tail (.tail (.tail .head))))))))))))))))))))))))))))))) (ev_name (.tail (.tail (.tail (.tail (.tail (.tail (.tail (.tail (.tail (.tail (.tail (.tail (.tail (.tail (.tail (.tail (.tail (.tail (.tail (.tail (.tail (.tail (.tail (.tail (.tail (.tail .head))))))))))))))))))))))))))) (bo_mul (sms) (sm_u N (by lia) (by lia)))) evs_nil)) (idm_side N hs (by lia) (by lia) (div_neg1 N).1 (div_neg1 N).2)) (evt_of (ev_tup (evs_cons (ev_bin (ev_un (ev_name (.tail (.tail (.tail (.tail (.tail (.tail (.tail (.tail (.tail (.tail (.tail (.tail (.tail (.tail (.tail (.tail (.tail (.tail (.tail (.tail (.tail (.tail (.tail (.tail (.tail (.tail (.tail .head)))))))))))))))))))))))))))) uo_neg) ev_int bo_sub) (evs_cons (ev_bin (ev_name (.tail (.tail (.tail (.tail (.tail (.tail (.tail (.tail (.tail (.tail (.tail (.tail (.tail (.tail (.tail (.tail (.tail (.tail (.tail (.tail (.tail (.tail (.tail (.tail (.tail (.tail (.tail (.tail (.tail (.tail .head))))))))))))))))))))))))))))))) (ev_bin (ev_bin (ev_name (.tail (.tail (.tail (.tail (.tail (.tail (.tail (.tail (.tail (.tail (.tail (.tail (.tail (.tail (.tail (.tail (.tail (.tail (.tail (.tail (.tail (.tail (.tail (.tail (.tail (.tail .head))))))))))))))))))))))))))) ev_int bo_sub) (ev_name (.tail (.tail (.tail (.tail (.tail (.tail (.tail (.tail (.tail (.tail (.tail (.tail (.tail (.tail (.tail (.tail (.tail (.tail (.tail (.tail (.tail (.tail (.tail (.tail (.tail (.tail (.tail (.tail .head))))))))))))))))))))))))))))) bo_sub) (bo_mul (sms) (sm_u N (by lia) (by lia)))) evs_nil)) (Nat.le_of_ble_eq_true rfl))) co_ne_tup
  · exact itt_cmp (evt_call (.tail (.tail (.tail (.tail (.tail .head))))) (by decide) (evs_cons (ev_bin (ev_name (.tail (.tail (.tail (.tail (.tail (.tail (.tail (.tail (.tail (.tail (.tail (.tail (.tail (.tail (.tail (.tail (.tail (.tail (.tail (.tail (.tail (.tail (.tail (.tail (.tail (.tail (.tail (.tail (.tail (.tail .head))))))))))))))))))))))))))))))) (ev_bin (ev_name (.tail (.tail (.tail (.tail (.tail (.tail (.tail (.tail (.tail (.tail (.tail (.tail (.tail (.tail (.tail (.tail (.tail (.tail (.tail (.tail (.tail (.tail (.tail (.tail (.tail (.tail (.tail (.tail .head))))))))))))))))))))))))))))) (ev_name (.tail (.tail (.tail (.tail (.tail (.tail (.tail (.tail (.tail (.tail (.tail (.tail (.tail (.tail (.tail (.tail (.tail (.tail (.tail (.tail (.tail (.tail (.tail (.tail (.tail .head)))))))))))))))))))))))))) bo_sub) (bo_mul (sms) (sm_u N (by lia) (by lia)))) (evs_cons (ev_bin (ev_name (.tail (.tail (.tail (.tail (.tail (.tail (.tail (.tail (.tail (.tail (.tail (.tail (.tail (.tail (.tail (.tail (.tail (.tail (.tail (.tail (.tail (.tail (.tail (.tail (.tail (.tail (.tail (.tail (.tail (.tail .head))))))))))))))))))))))))))))))) (ev_name (.tail (.tail (.tail (.tail (.tail (.tail (.tail (.tail (.tail (.tail (.tail (.tail (.tail (.tail (.tail (.tail (.tail (.tail (.tail (.tail (.tail (.tail (.tail (.tail (.tail (.tail .head))))))))))))))))))))))))))) (bo_mul (sms) (sm_u N (by lia) (by lia)))) evs_nil)) (fct_cast (idm_side N hs (by lia) (by omega) (div_neg2 N).1 (div_neg2 N).2) rfl (by rw [Int.mul_zero]))) (evt_of (ev_tup (evs_cons (ev_un (ev_name (.tail (.tail (.tail (.tail (.tail (.tail (.tail (.tail (.tail (.tail (.tail (.tail (.tail (.tail (.tail (.tail (.tail (.tail (.tail (.tail (.tail (.tail (.tail (.tail (.tail (.tail (.tail .head)))))))))))))))))))))))))))) uo_neg) (evs_cons ev_int evs_nil)) (Nat.le_of_ble_eq_true rfl))) co_ne_tup
end
structure LawF (c : Cs) : Prop where
  sg : ∀ k, k < c.many → FC "_law_sign" 30 [.int ((c.c2 / 4 ^ k % 4 : Nat) : Int), .int ((c.c3 / 40 ^ k : Nat) : Int), .str c.letters, doublesD c.doubles] (pairD (⟨#[(c.pair k).1]⟩, (c.pair k).2))
  S : SignF c
  R : RowF c
  N : NumF c
theorem law_body : bodyOf "law" = [lawSt 0, lawSt 1, lawSt 2, lawSt 3, lawSt 4, lawSt 5, lawSt 6, lawSt 7, lawSt 8, lawSt 9, lawSt 10, lawSt 11, lawSt 12, lawSt 13, lawSt 14, lawSt 15, lawSt 16, lawSt 17, lawSt 18, lawSt 19, lawSt 20, lawSt 21, lawSt 22, lawSt 23, lawSt 24, lawSt 25] := by rfl
theorem law25 {G : Ctx} : ES c_law 30 G (lawSt 25) (.ret (.bool true)) := by
  conv => arg 4; whnf
  exact es_return ev_bool
section
theorem ext_law {script : List Int} (hl : script.length ≤ 1000) (F : LawF (csOf script)) : EXT c_law 30 (G0 [.list (script.map D.int)] 30) (bodyOf "law") (.ret (.bool true)) := by
  have hc : ∀ k, k < 6 → (cellsD script)[k]? = some (.int ((csOf script).at k : Int)) := fun k hk => cells_at script hk
  rw [law_body]
  show EXT c_law 30 [some (.imm (.list (script.map D.int))), none, none, none, none, none, none, none, none, none, none, none, none, none, none, none, none, none, none, none, none, none, none, none, none, none, none, none, none, none, none] _ _
  generalize hcs : csOf script = c at *
  with_reducible refine ext_conse law0 (ext_conse (law1 hl) (ext_conse law2 (ext_conse (law3 hc) (ext_conse (law4 hc) (ext_conse (law5 hc F.sg) ?_)))))
  refine ext_freeze (.tail (.tail (.tail (.tail (.tail (.tail (.tail .head))))))) (.tail (.tail (.tail (.tail (.tail (.tail (.tail .head))))))) ?_
  with_reducible refine ext_conse (law6 hc) (ext_conse (law7 hc) (ext_conse (law8 hc) (ext_conse (law9 F.S) (ext_conse (law10 F.S) (ext_conse (law11 F.S) (ext_conse law12 (ext_conse law13 (ext_conse law14 (ext_conse law15 (ext_conse (law16 F.R) ?_))))))))))
  refine ext_freeze (.tail (.tail (.tail (.tail (.tail (.tail (.tail (.tail (.tail (.tail (.tail (.tail (.tail (.tail (.tail (.tail (.tail .head))))))))))))))))) (.tail (.tail (.tail (.tail (.tail (.tail (.tail (.tail (.tail (.tail (.tail (.tail (.tail (.tail (.tail (.tail (.tail .head))))))))))))))))) (ext_less (G1 := [some (.imm (.list (script.map D.int))), some (.imm (.list (ownL.map D.int))), some (.imm (.list (cellsD script))), some (.imm famD), some (.imm (.str c.letters)), some (.imm (doublesD c.doubles)), some (.imm (.int c.many)), some (.imm (.list (c.prs.map pairD))), some (.imm (.list (c.others.map D.str))), some (.imm (.str c.word)), some (.imm (.bool c.front)), some (.imm (.dict c.foldsL)), some (.imm (.dict c.movesL)), some (.imm (.list (c.signs.map D.str))), some (.imm (.str c.pattern)), some (.imm (.int c.longest)), none, some (.imm (.list (c.final.map D.int))), none, none, none, none, none, none, none, none, none, none, none, none, none]) (by (repeat (first | exact Less.nil | refine Less.drop ?_ | refine Less.same ?_))) ?_)
  with_reducible exact ext_conse (law17 hc) (ext_conse (law18 F.N) (ext_conse (law19 F.N) (ext_cons (law20 F.N) (ext_conse (law21 F.N) (ext_cons (law22 F.N) (ext_cons (law23 F.N) (ext_cons (law24 F.N) (ext_ret (est_of law25)))))))))
theorem fct_law {script : List Int} (hl : script.length ≤ 1000) (F : LawF (csOf script)) : FCT "law" 31 [.list (script.map D.int)] (.bool true) :=
  fct_of_body (k := 30) (more := lawNs.drop 1) def_law rfl c_law_ok rfl rfl (fun pm cd doc vs e => by apply vs1 e; intros; rfl) rfl rfl (ext_law hl F)
end
noncomputable def famL (i : Nat) : Str := (famT.getD i ("", [])).1
noncomputable def famDl (i : Nat) : List (Int × Str) := (famT.getD i ("", [])).2
noncomputable def okSign (p : Nat × Str) : Bool := (b1Has p.1 == decide (p.2 = "")) && (decide (p.2 = "") || decide (b3Of p.1 = p.2)) && !Builtin.Str.tooLong (Txt.lower ⟨#[p.1]⟩).length && decide (p.2.length ≤ 3) && !decide (p.1 = 46) && !decide (p.1 = 58) && !decide (p.1 = 10)
noncomputable def okFam (i : Nat) : Bool := ((List.range 2).all fun k => (List.range 12).all fun w => okSign (signP (famL i) (famDl i) k w)) && ((List.range (famDl i).length).all fun w => okSign (signP (famL i) (famDl i) 2 w)) && (List.range 30).all fun w => okSign (signP (famL i) (famDl i) 3 w)
theorem okFam0 : okFam 0 = true := by decide +kernel
theorem okFam1 : okFam 1 = true := by decide +kernel
theorem okFam2 : okFam 2 = true := by decide +kernel
theorem okFam3 : okFam 3 = true := by decide +kernel
theorem okFam_all {i : Nat} (h : i < 4) : okFam i = true := lt4 (P := fun i => okFam i = true) okFam0 okFam1 okFam2 okFam3 i h
theorem famDl_len {i : Nat} (h : i < 4) : 2 ≤ (famDl i).length ∧ (famDl i).length ≤ 3 := lt4 (P := fun i => 2 ≤ (famDl i).length ∧ (famDl i).length ≤ 3) (by decide +kernel) (by decide +kernel) (by decide +kernel) (by decide +kernel) i h
theorem okSign_all {i k w : Nat} (hi : i < 4) (hk : k < 4) : okSign (signP (famL i) (famDl i) k w) = true := by
  have h := okFam_all hi
  unfold okFam at h
  simp only [Bool.and_eq_true, List.all_eq_true, List.mem_range] at h
  obtain ⟨⟨h1, h2⟩, h3⟩ := h
  have hl := famDl_len hi
  by_cases q : k < 2
  · have e : signP (famL i) (famDl i) k w = signP (famL i) (famDl i) k (w % 12) := by
      unfold signP; rw [if_pos q, if_pos q, Nat.mod_mod]
    rw [e]; exact h1 k q _ (Nat.mod_lt _ (by decide))
  · by_cases q2 : k = 2
    · subst q2
      have e : signP (famL i) (famDl i) 2 w = signP (famL i) (famDl i) 2 (w % (famDl i).length) := by
        unfold signP; simp [Nat.mod_mod]
      rw [e]; exact h2 _ (Nat.mod_lt _ (by lia))
    · have : k = 3 := by lia
      subst this
      have e : signP (famL i) (famDl i) 3 w = signP (famL i) (famDl i) 3 (w % 30) := by
        unfold signP; simp [Nat.mod_mod]
      rw [e]; exact h3 _ (Nat.mod_lt _ (by decide))
structure PairOk (p : Nat × Str) : Prop where
  b1 : b1Has p.1 = decide (p.2 = "")
  b3 : p.2 ≠ "" → b3Of p.1 = p.2
  low : Builtin.Str.tooLong (Txt.lower ⟨#[p.1]⟩).length = false
  len : p.2.length ≤ 3
  dot : p.1 ≠ 46
  colon : p.1 ≠ 58
  line : p.1 ≠ 10
theorem okSign_ok {p : Nat × Str} (h : okSign p = true) : PairOk p := by
  unfold okSign at h
  simp only [Bool.and_eq_true, Bool.or_eq_true, Bool.not_eq_true', decide_eq_true_eq, decide_eq_false_iff_not, beq_iff_eq] at h
  obtain ⟨⟨⟨⟨⟨⟨h1, h2⟩, h3⟩, h4⟩, h5⟩, h6⟩, h7⟩ := h
  exact ⟨h1, fun ne => h2.resolve_left ne, h3, h4, h5, h6, h7⟩
theorem Cs.pair_ok (c : Cs) (k : Nat) : PairOk (c.pair k) := okSign_ok (okSign_all (i := c.c0 % 4) (Nat.mod_lt _ (by decide)) (Nat.mod_lt _ (by decide)))
theorem prs_mem {c : Cs} {p : Str × Str} (h : p ∈ c.prs) : ∃ k, k < c.many ∧ p = (⟨#[(c.pair k).1]⟩, (c.pair k).2) := by
  unfold Cs.prs at h
  obtain ⟨k, hk, rfl⟩ := List.mem_map.mp h
  exact ⟨k, List.mem_range.mp hk, rfl⟩
theorem signF (c : Cs) : SignF c where
  one p h := by
    obtain ⟨k, _, rfl⟩ := prs_mem h
    have o := c.pair_ok k
    exact ⟨(c.pair k).1, rfl, o.b1, o.b3, o.low, o.len⟩
  uniq p h q h' e := by
    obtain ⟨k, _, rfl⟩ := prs_mem h
    obtain ⟨j, _, rfl⟩ := prs_mem h'
    have o := c.pair_ok k
    have o' := c.pair_ok j
    have e : (c.pair k).1 = (c.pair j).1 := by
      have := congrArg (fun s : Str => s.cps.toList) e
      simpa using this
    show (c.pair k).2 = (c.pair j).2
    by_cases z : (c.pair k).2 = ""
    · have b := o.b1
      rw [e, o'.b1] at b
      rw [decide_eq_decide] at b
      rw [z, b.mpr z]
    · have b := o.b1
      rw [e, o'.b1] at b
      rw [decide_eq_decide] at b
      rw [← o.b3 z, ← o'.b3 (fun y => z (b.mp y)), e]
theorem c_letters (c : Cs) : c.letters = famL (c.c0 % 4) := rfl
theorem c_doubles (c : Cs) : c.doubles = famDl (c.c0 % 4) := rfl
theorem letters_in (c : Cs) {i : Nat} (h : i < 2) : 97 ≤ c.letters.cps.getD i 0 ∧ c.letters.cps.getD i 0 ≤ 122 := by
  have h4 : c.c0 % 4 < 4 := Nat.mod_lt _ (by decide)
  rw [c_letters]
  have all : ((List.range 4).all fun f => (List.range 2).all fun i => decide (97 ≤ (famL f).cps.getD i 0 ∧ (famL f).cps.getD i 0 ≤ 122)) = true := by decide +kernel
  simp only [List.all_eq_true, List.mem_range, decide_eq_true_eq] at all
  exact all _ h4 _ h
theorem rowsL_at {w : Nat} (h : w < 12) : rowsL[w]? = some (rowsL.getD w 0) ∧ 65 ≤ rowsL.getD w 0 ∧ rowsL.getD w 0 ≤ 120432 := by
  have all : ((List.range 12).all fun w => decide (rowsL[w]? = some (rowsL.getD w 0) ∧ 65 ≤ rowsL.getD w 0 ∧ rowsL.getD w 0 ≤ 120432)) = true := by decide +kernel
  simp only [List.all_eq_true, List.mem_range, decide_eq_true_eq] at all
  exact all _ h
theorem unseen_at {w : Nat} (h : w < 27) : unseenAll[w]? = some (unseenAll.getD w 0) ∧ 0 ≤ unseenAll.getD w 0 ∧ unseenAll.getD w 0 ≤ 1114111 := by
  have all : ((List.range 27).all fun w => decide (unseenAll[w]? = some (unseenAll.getD w 0) ∧ 0 ≤ unseenAll.getD w 0 ∧ unseenAll.getD w 0 ≤ 1114111)) = true := by decide +kernel
  simp only [List.all_eq_true, List.mem_range, decide_eq_true_eq] at all
  exact all _ h
theorem famDl_at {f w : Nat} (hf : f < 4) (h : w < (famDl f).length) : ∃ p, (famDl f)[w]? = some p ∧ p = (famDl f).getD w (0, "") ∧ 0 ≤ p.1 ∧ p.1 ≤ 1114111 := by
  have all : ((List.range 4).all fun f => (famDl f).all fun p => decide (0 ≤ p.1 ∧ p.1 ≤ 1114111)) = true := by decide +kernel
  simp only [List.all_eq_true, List.mem_range, decide_eq_true_eq] at all
  refine ⟨(famDl f)[w], by simp [h], by simp [List.getD, h], ?_⟩
  exact all _ hf _ (List.getElem_mem h)
theorem blanks_at {w : Nat} (h : w < 3) : (" \t\r" : Str).cps[w]? = some ((" \t\r" : Str).cps.getD w 0) := by
  have all : ((List.range 3).all fun w => decide ((" \t\r" : Str).cps[w]? = some ((" \t\r" : Str).cps.getD w 0))) = true := by decide +kernel
  simp only [List.all_eq_true, List.mem_range, decide_eq_true_eq] at all
  exact all _ h
theorem signC (c : Cs) (k : Nat) : FC "_law_sign" 30 [.int ((c.c2 / 4 ^ k % 4 : Nat) : Int), .int ((c.c3 / 40 ^ k : Nat) : Int), .str c.letters, doublesD c.doubles] (pairD (⟨#[(c.pair k).1]⟩, (c.pair k).2)) := by
  have h4 : c.c0 % 4 < 4 := Nat.mod_lt _ (by decide)
  have hdl := famDl_len h4
  have ep : c.pair k = signP c.letters c.doubles (c.c2 / 4 ^ k % 4) (c.c3 / 40 ^ k) := rfl
  rw [ep]
  generalize hkind : c.c2 / 4 ^ k % 4 = kind
  generalize c.c3 / 40 ^ k = which
  have hk : kind < 4 := by rw [← hkind]; exact Nat.mod_lt _ (by decide)
  refine FC.le (m := 2) (fc_sign (k := 0) hk (by rw [c_doubles]; exact Nat.le_trans hdl.2 (by decide)) (fun q => ?_) (fun q => ?_) (fun q q2 => ?_) (fun q q2 => ?_)) (by decide)
  · have r := rowsL_at (w := which % 12) (Nat.mod_lt _ (by decide))
    have l := letters_in c q
    refine ⟨c.letters.cps.getD kind 0, rowsL.getD (which % 12) 0, c.letters_get q, r.1, by lia, by lia, ?_⟩
    unfold signP pairD; rw [if_pos q]
  · rw [c_doubles]
    obtain ⟨p, h1, h2, h3, h5⟩ := famDl_at h4 (w := which % (famDl (c.c0 % 4)).length) (Nat.mod_lt _ (by lia))
    refine ⟨by lia, p, h1, h3, h5, ?_⟩
    unfold signP pairD; rw [if_neg (by exact Nat.not_lt.mpr (Nat.le_of_eq q.symm)), if_pos q, ← h2]
  · obtain ⟨u1, u2, u3⟩ := unseen_at q2
    refine ⟨_, u1, u2, u3, ?_⟩
    unfold signP pairD; rw [if_neg (by exact Nat.not_lt.mpr (Nat.le_trans (by decide) (Nat.le_of_eq q.symm))), if_neg (by lia), if_pos q2]
  · refine ⟨_, blanks_at (w := which % 30 - 27) (by omega), ?_⟩
    unfold signP pairD; rw [if_neg (by exact Nat.not_lt.mpr (Nat.le_trans (by decide) (Nat.le_of_eq q.symm))), if_neg (by lia), if_neg q2]
noncomputable def isStop (ch : Nat) : Bool := decide (ch = 58) || decide (ch = 10)
noncomputable def scanStep (st : List Nat × Bool) (ch : Nat) : List Nat × Bool := if (!st.2 || isStop ch) = true then (st.1, false) else if ch = 46 then ([], true) else (st.1 ++ [ch], true)
noncomputable def scan (l : List Nat) : List Nat × Bool := l.foldl scanStep ([], true)
theorem scan_dead {n : List Nat} : ∀ l : List Nat, l.foldl scanStep (n, false) = (n, false)
  | [] => rfl
  | a :: l => by rw [List.foldl_cons]; exact scan_dead l
theorem scan_plain : ∀ (l n : List Nat), (∀ a ∈ l, isStop a = false) → (∀ a ∈ l, a ≠ 46) → l.foldl scanStep (n, true) = (n ++ l, true)
  | [], n, _, _ => by simp
  | a :: l, n, h1, h2 => by
    rw [List.foldl_cons]
    have e : scanStep (n, true) a = (n ++ [a], true) := by
      unfold scanStep
      rw [if_neg (by rw [h1 a (List.mem_cons_self ..)]; simp), if_neg (h2 a (List.mem_cons_self ..))]
    rw [e, scan_plain l _ (fun b m => h1 b (List.mem_cons_of_mem _ m)) (fun b m => h2 b (List.mem_cons_of_mem _ m))]
    simp
theorem scan_live : ∀ (l n : List Nat), (∀ a ∈ l, isStop a = false) → (l.foldl scanStep (n, true)).2 = true
  | [], n, _ => rfl
  | a :: l, n, h1 => by
    rw [List.foldl_cons]
    have : ∃ m, scanStep (n, true) a = (m, true) := by
      unfold scanStep
      rw [if_neg (by rw [h1 a (List.mem_cons_self ..)]; simp)]
      split <;> exact ⟨_, rfl⟩
    obtain ⟨m, e⟩ := this
    rw [e]; exact scan_live l m fun b mm => h1 b (List.mem_cons_of_mem _ mm)
theorem scan_eq {l : List Nat} {e st : Nat} (he : e ≤ l.length) (h1 : ∀ i a, i < e → l[i]? = some a → isStop a = false) (h2 : e = l.length ∨ ∃ a, l[e]? = some a ∧ isStop a = true)
    (hs : st ≤ e) (h3 : ∀ i a, st ≤ i → i < e → l[i]? = some a → a ≠ 46) (h4 : st = 0 ∨ l[st - 1]? = some 46) : (scan l).1 = (l.drop st).take (e - st) := by
  obtain ⟨A, hA⟩ : ∃ A, A = l.take st := ⟨_, rfl⟩
  obtain ⟨M, hM⟩ : ∃ M, M = (l.drop st).take (e - st) := ⟨_, rfl⟩
  obtain ⟨Z, hZ⟩ : ∃ Z, Z = l.drop e := ⟨_, rfl⟩
  have eMZ : M ++ Z = l.drop st := by
    rw [hM, hZ]
    have : l.drop e = (l.drop st).drop (e - st) := by rw [List.drop_drop]; congr 1; lia
    rw [this, List.take_append_drop]
  have el : l = A ++ (M ++ Z) := by rw [eMZ, hA, List.take_append_drop]
  have sA : A.foldl scanStep ([], true) = ([], true) := by
    rcases h4 with h4 | h4
    · subst h4; rw [hA]; rfl
    · rcases Nat.eq_zero_or_pos st with z | z
      · subst z; rw [hA]; rfl
      · have e2 : A = l.take (st - 1) ++ [46] := by
          rw [hA]
          have : st = (st - 1) + 1 := by lia
          conv => lhs; rw [this]
          rw [List.take_add_one, h4]; rfl
        rw [e2, List.foldl_append]
        have lv := scan_live (l.take (st - 1)) [] (fun a m => by
          obtain ⟨i, hi⟩ := List.getElem?_of_mem m
          rw [List.getElem?_take] at hi
          split at hi
          · exact h1 i a (by lia) hi
          · cases hi)
        generalize (l.take (st - 1)).foldl scanStep ([], true) = z at lv
        obtain ⟨z1, z2⟩ := z
        simp only at lv
        subst lv
        rfl
  have sM : M.foldl scanStep ([], true) = (M, true) := by
    have mem : ∀ a ∈ M, ∃ i, st ≤ i ∧ i < e ∧ l[i]? = some a := fun a m => by
      rw [hM] at m
      obtain ⟨i, hi⟩ := List.getElem?_of_mem m
      rw [List.getElem?_take] at hi
      split at hi
      · rw [List.getElem?_drop] at hi; exact ⟨st + i, by exact Nat.le_add_right _ _, by omega, hi⟩
      · cases hi
    have := scan_plain M [] (fun a m => by obtain ⟨i, _, b, c⟩ := mem a m; exact h1 i a b c) (fun a m => by obtain ⟨i, x, b, c⟩ := mem a m; exact h3 i a x b c)
    simpa using this
  have sZ : (Z.foldl scanStep (M, true)).1 = M := by
    rcases h2 with h2 | ⟨a, ha, hst⟩
    · have : Z = [] := by rw [hZ, h2]; simp
      rw [this]; rfl
    · have hlt : e < l.length := by
        rcases Nat.lt_or_ge e l.length with q | q
        · exact q
        · rw [List.getElem?_eq_none q] at ha; cases ha
      have : Z = a :: l.drop (e + 1) := by
        rw [hZ, List.drop_eq_getElem_cons hlt]
        rw [List.getElem?_eq_getElem hlt] at ha
        cases ha; rfl
      rw [this, List.foldl_cons]
      have e3 : scanStep (M, true) a = (M, false) := by unfold scanStep; rw [if_pos (by rw [hst]; rfl)]
      rw [e3, scan_dead]
  show (l.foldl scanStep ([], true)).1 = _
  rw [← hM]
  have : l.foldl scanStep ([], true) = (A ++ (M ++ Z)).foldl scanStep ([], true) := by rw [← el]
  rw [this, List.foldl_append, List.foldl_append, sA, sM, sZ]
open PySem.StrLaws
theorem nl_is : ("\n" : Str) = ⟨#[10]⟩ := by decide +kernel
theorem colon_is : (":" : Str) = ⟨#[58]⟩ := by decide +kernel
theorem dot_is : ("." : Str) = ⟨#[46]⟩ := by decide +kernel
theorem endAt_one {x : Str} {ch e : Nat} (he : e ≤ x.length) : endAt (findIn x ⟨#[ch]⟩ 0 e) e ≤ e ∧ (∀ i, i < endAt (findIn x ⟨#[ch]⟩ 0 e) e → x.cps.toList[i]? ≠ some ch) ∧ (endAt (findIn x ⟨#[ch]⟩ 0 e) e = e ∨ x.cps.toList[endAt (findIn x ⟨#[ch]⟩ 0 e) e]? = some ch) := by
  refine ⟨endAt_le rfl, ?_⟩
  unfold endAt
  rcases findIn_spec x ⟨#[ch]⟩ 0 e with ⟨h, hn⟩ | ⟨i, h, _, hA, hm⟩
  · rw [h, if_neg (by decide)]
    exact ⟨fun i hi q => hn i (Nat.zero_le _) (at_one.mpr ⟨hi, q⟩), .inl rfl⟩
  · rw [h, if_pos (Int.natCast_nonneg _), Int.toNat_natCast]
    have hA := at_one.mp hA
    exact ⟨fun k hk q => hm k (Nat.zero_le _) hk (at_one.mpr ⟨by exact Nat.lt_trans hk hA.1, q⟩), .inr hA.2⟩
theorem strip_scan (x : Str) : stripOf x = ⟨(scan x.cps.toList).1.toArray⟩ := by
  have hl := len_list x
  obtain ⟨e1, he1⟩ : ∃ e1, e1 = endAt (Txt.find x "\n") x.length := ⟨_, rfl⟩
  have a := endAt_one (x := x) (ch := 10) (Nat.le_refl x.length)
  have f1 : Txt.find x "\n" = findIn x ⟨#[10]⟩ 0 x.length := by rw [nl_is]; exact find_is x _
  rw [f1] at he1
  rw [← he1] at a
  obtain ⟨a1, a2, a3⟩ := a
  have b := endAt_one (x := x) (ch := 58) a1
  have es : stripEnd x = endAt (findIn x ⟨#[58]⟩ 0 e1) e1 := by unfold stripEnd; rw [f1, ← he1, colon_is]
  rw [← es] at b
  obtain ⟨b1, b2, b3⟩ := b
  have hst : ∃ st, st = stripStart x := ⟨_, rfl⟩
  obtain ⟨st, hst⟩ := hst
  have c : st ≤ stripEnd x ∧ (∀ i, st ≤ i → i < stripEnd x → x.cps.toList[i]? ≠ some 46) ∧ (st = 0 ∨ x.cps.toList[st - 1]? = some 46) := by
    refine ⟨by rw [hst]; exact stripStart_le x, ?_⟩
    unfold stripStart at hst
    rw [dot_is] at hst
    rcases rfindIn_spec x ⟨#[46]⟩ 0 (stripEnd x) with ⟨h, hn⟩ | ⟨i, h, _, hA, hm⟩
    · rw [h, if_neg (by decide)] at hst
      exact ⟨fun i hi hie q => hn i (Nat.zero_le _) (at_one.mpr ⟨hie, q⟩), .inl hst⟩
    · rw [h, if_pos (Int.natCast_nonneg _), Int.toNat_natCast] at hst
      exact ⟨fun k hk hie q => hm k (by exact Nat.lt_of_lt_of_le (Nat.le_of_eq hst.symm) hk) (at_one.mpr ⟨hie, q⟩), .inr (by rw [hst]; exact (at_one.mp hA).2)⟩
  obtain ⟨c1, c2, c3⟩ := c
  unfold stripOf cut
  rw [← hst]
  congr 2
  refine (scan_eq (by exact Nat.le_trans b1 (Nat.le_trans a1 (Nat.le_of_eq hl))) (fun i a hi ha => ?_) ?_ c1 (fun i a h1 h2 h3 q => c2 i h1 h2 (by rw [h3, q])) c3).symm
  · unfold isStop
    have n1 : a ≠ 58 := fun q => b2 i hi (by rw [ha, q])
    have n2 : a ≠ 10 := fun q => a2 i (by exact Nat.lt_of_lt_of_le hi b1) (by rw [ha, q])
    simp [n1, n2]
  · rcases b3 with b3 | b3
    · rcases a3 with a3 | a3
      · left; lia
      · right; exact ⟨10, by rw [b3]; exact a3, rfl⟩
    · right; exact ⟨58, b3, rfl⟩
theorem contains_one {x : Str} {ch : Nat} : Txt.contains x ⟨#[ch]⟩ = decide (ch ∈ x.cps.toList) := by
  have := in_closes (x := x) (y := ⟨#[ch]⟩) (y' := ⟨#[ch]⟩) rfl rfl
  rw [beq_iff_eq] at this
  show (!(Builtin.Str.occurrences x ⟨#[ch]⟩ 0 x.length 1).isEmpty) = _
  rw [this]
  exact decide_eq_decide.mpr (countIn_signs ch x.cps.toList)
theorem stops_list : (":\n" : Str).cps.toList = [58, 10] := by decide +kernel
theorem contains_stop {ch : Nat} : Txt.contains ":\n" ⟨#[ch]⟩ = isStop ch := by
  rw [contains_one, stops_list]
  unfold isStop
  simp [Bool.decide_or]
theorem one_inj {a b : Nat} (h : (⟨#[a]⟩ : Str) = ⟨#[b]⟩) : a = b := by
  have := congrArg (fun s : Str => s.cps.toList) h
  simpa using this
theorem others_mem {c : Cs} {s : Str} (h : s ∈ c.others) : s = ⟨#[46]⟩ ∨ s = ⟨#[58]⟩ ∨ s = ⟨#[10]⟩ := by
  unfold Cs.others at h
  obtain ⟨k, _, rfl⟩ := List.mem_map.mp h
  have h3 : c.c0 / 4 / 3 ^ k % 3 < 3 := Nat.mod_lt _ (by decide)
  match c.c0 / 4 / 3 ^ k % 3, h3 with
  | 0, _ => left; decide +kernel
  | 1, _ => right; left; decide +kernel
  | 2, _ => right; right; decide +kernel
theorem signs_mem {c : Cs} {s : Str} (h : s ∈ c.signs) : ∃ k, k < c.many ∧ s = ⟨#[(c.pair k).1]⟩ := by
  unfold Cs.signs at h
  obtain ⟨p, hp, rfl⟩ := List.mem_map.mp h
  obtain ⟨k, hk, rfl⟩ := prs_mem hp
  exact ⟨k, hk, rfl⟩
theorem pair_stop (c : Cs) (k : Nat) : isStop (c.pair k).1 = false := by
  have o := c.pair_ok k
  unfold isStop
  simp [o.colon, o.line]
theorem pair_mem {c : Cs} {k : Nat} (h : k < c.many) : ((⟨#[(c.pair k).1]⟩ : Str), (c.pair k).2) ∈ c.prs := List.mem_of_getElem? (c.prs_at h)
theorem lookup_first : ∀ {l : List (Str × Str)} {x y : Str}, (x, y) ∈ l → (∀ p ∈ l, p.1 = x → p.2 = y) → l.lookup x = some y
  | (a, b) :: l, x, y, m, u => by
    rw [List.lookup_cons]
    by_cases q : x = a
    · subst q
      simp
      exact u _ (List.mem_cons_self ..) rfl
    · have : (x == a) = false := by simpa using q
      rw [this]
      rcases List.mem_cons.mp m with e | m
      · cases e; exact absurd rfl q
      · exact lookup_first m fun p hp => u p (List.mem_cons_of_mem _ hp)
theorem mean_pair {c : Cs} {k : Nat} (h : k < c.many) : meanIn c.prs ⟨#[(c.pair k).1]⟩ = (c.pair k).2 := by
  unfold meanIn
  rw [lookup_first (pair_mem h) (fun p hp e => (signF c).uniq p hp _ (pair_mem h) e)]
  rfl
theorem folds_at {c : Cs} {k : Nat} (h : k < c.many) : c.foldsL.lookup ⟨#[(c.pair k).1]⟩ = some (.str (meanIn c.prs ⟨#[(c.pair k).1]⟩)) := by
  rw [mean_pair h]
  exact dictOf_lookup (F := fun p => .str p.2) (p := (⟨#[(c.pair k).1]⟩, (c.pair k).2)) (fun p hp q hq e => by rw [(signF c).uniq p hp q hq e]) (pair_mem h)
theorem moves_at {c : Cs} {k : Nat} (h : k < c.many) : c.movesL.lookup ⟨#[(c.pair k).1]⟩ = some (.list (movesOf (meanIn c.prs ⟨#[(c.pair k).1]⟩) c.word c.front)) := by
  rw [mean_pair h]
  exact dictOf_lookup (F := fun p => .list (movesOf p.2 c.word c.front)) (p := (⟨#[(c.pair k).1]⟩, (c.pair k).2)) (fun p hp q hq e => by rw [(signF c).uniq p hp q hq e]) (pair_mem h)
structure RowI (c : Cs) (s : Nat) (r : Row) : Prop where
  len : r.line.cps.toList.length = s
  scan : scan r.line.cps.toList = (r.name.cps.toList, r.still)
  chars : ∀ ch ∈ r.name.cps.toList, ∃ k, k < c.many ∧ ch = (c.pair k).1
  found : r.found = r.name.cps.toList.foldl (fun f ch => c.mvf ⟨#[ch]⟩ f) 0
  nlen : r.name.cps.toList.length ≤ s
theorem empty_list : ("" : Str).cps.toList = [] := by decide +kernel
theorem rowI0 (c : Cs) : RowI c 0 row0 where
  len := by show ("" : Str).cps.toList.length = 0; rw [empty_list]; rfl
  scan := by show scan ("" : Str).cps.toList = (("" : Str).cps.toList, true); rw [empty_list]; rfl
  chars ch h := by
    have h : ch ∈ ("" : Str).cps.toList := h
    rw [empty_list] at h; cases h
  found := by show (0 : Int) = ("" : Str).cps.toList.foldl _ 0; rw [empty_list]; rfl
  nlen := by show ("" : Str).cps.toList.length ≤ 0; rw [empty_list]; exact Nat.le_refl _
theorem scan_snoc {l n : List Nat} {b : Bool} {ch : Nat} (h : scan l = (n, b)) : scan (l ++ [ch]) = scanStep (n, b) ch := by
  unfold scan at h ⊢
  rw [List.foldl_append, h]; rfl
theorem grow_inv {c : Cs} {s : Nat} {r : Row} {sg : Str} (h : RowI c s r) (m : sg ∈ c.all) : RowI c (s + 1) (growRow c.mvf r sg) := by
  have hh : ∃ ch, sg = ⟨#[ch]⟩ ∧ ((∃ k, k < c.many ∧ ch = (c.pair k).1) ∨ ch = 46 ∨ isStop ch = true) := by
    unfold Cs.all at m
    rcases List.mem_append.mp m with m | m
    · obtain ⟨k, hk, rfl⟩ := signs_mem m; exact ⟨_, rfl, .inl ⟨k, hk, rfl⟩⟩
    · rcases others_mem m with rfl | rfl | rfl
      · exact ⟨_, rfl, .inr (.inl rfl)⟩
      · exact ⟨_, rfl, .inr (.inr rfl)⟩
      · exact ⟨_, rfl, .inr (.inr rfl)⟩
  obtain ⟨ch, rfl, hc⟩ := hh
  have el : (r.line ++ (⟨#[ch]⟩ : Str)).cps.toList = r.line.cps.toList ++ [ch] := app_list
  have ll : (r.line.cps.toList ++ [ch]).length = s + 1 := by rw [List.length_append, h.len]; rfl
  have es := scan_snoc (ch := ch) h.scan
  unfold growRow
  rw [contains_stop]
  by_cases q : (!r.still || isStop ch) = true
  · rw [if_pos q]
    refine ⟨by rw [el, ll], ?_, h.chars, h.found, Nat.le_succ_of_le h.nlen⟩
    rw [el, es]
    unfold scanStep
    rw [if_pos q]
  · rw [if_neg q]
    have ns : isStop ch = false := by cases e : isStop ch <;> simp_all
    have hs : r.still = true := by cases e : r.still <;> simp_all
    by_cases z : ch = 46
    · subst z
      rw [if_pos (by rw [dot_is])]
      refine ⟨by rw [el, ll], ?_, fun ch hch => ?_, ?_, ?_⟩
      · rw [el, es]
        unfold scanStep
        rw [if_neg q, if_pos rfl, empty_list]
      · have hch : ch ∈ ("" : Str).cps.toList := hch
        rw [empty_list] at hch; cases hch
      · show (0 : Int) = ("" : Str).cps.toList.foldl _ 0; rw [empty_list]; rfl
      · show ("" : Str).cps.toList.length ≤ _; rw [empty_list]; exact Nat.zero_le _
    · rw [if_neg (by rw [dot_is]; exact fun e => z (one_inj e))]
      have en : (r.name ++ (⟨#[ch]⟩ : Str)).cps.toList = r.name.cps.toList ++ [ch] := app_list
      refine ⟨by rw [el, ll], ?_, fun x hx => ?_, ?_, ?_⟩
      · rw [el, es, en]
        unfold scanStep
        rw [if_neg q, if_neg z]
      · have hx : x ∈ (r.name ++ (⟨#[ch]⟩ : Str)).cps.toList := hx
        rw [en] at hx
        rcases List.mem_append.mp hx with hx | hx
        · exact h.chars x hx
        · rw [List.mem_singleton.mp hx]
          rcases hc with hc | hc | hc
          · exact hc
          · exact absurd hc z
          · rw [hc] at ns; cases ns
      · show c.mvf ⟨#[ch]⟩ r.found = (r.name ++ (⟨#[ch]⟩ : Str)).cps.toList.foldl _ 0
        rw [en, List.foldl_append, ← h.found]; rfl
      · show (r.name ++ (⟨#[ch]⟩ : Str)).cps.toList.length ≤ _
        rw [en, List.length_append]; have := h.nlen; simp; omega
theorem rowI {c : Cs} : ∀ {s : Nat} {r : Row}, r ∈ c.rows s → RowI c s r
  | 0, r, h => by
    have h : r ∈ [row0] := h
    rw [List.mem_singleton.mp h]; exact rowI0 c
  | s + 1, r, h => by
    have h : r ∈ growAll c.mvf c.all (c.rows s) := h
    unfold growAll at h
    obtain ⟨r0, h0, h1⟩ := List.mem_flatMap.mp h
    obtain ⟨sg, hs, rfl⟩ := List.mem_map.mp h1
    exact grow_inv (rowI h0) hs
theorem movAt_cons (word : Str) (a : Nat) (m : List Nat) (f : Nat) : movAt word (a :: m) f = movAt word m (if word.cps[f]? = some a then f + 1 else f) := rfl
theorem movAt_app (word : Str) (a b : List Nat) (f : Nat) : movAt word (a ++ b) f = movAt word b (movAt word a f) := by unfold movAt; rw [List.foldl_append]
theorem movAt_range (word : Str) : ∀ (m : List Nat) (f : Nat), f ≤ word.length → f ≤ movAt word m f ∧ movAt word m f ≤ word.length
  | [], f, h => ⟨Nat.le_refl _, h⟩
  | a :: m, f, h => by
    rw [movAt_cons]
    by_cases q : word.cps[f]? = some a
    · rw [if_pos q]
      have : f < word.length := by
        unfold Str.length
        rcases Nat.lt_or_ge f word.cps.size with z | z
        · exact z
        · rw [Array.getElem?_eq_none z] at q; cases q
      have := movAt_range word m (f + 1) this
      exact ⟨Nat.le_of_lt this.1, this.2⟩
    · rw [if_neg q]; exact movAt_range word m f h
theorem movAt_end (word : Str) : ∀ (m : List Nat), movAt word m word.length = word.length := fun m => by
  have := movAt_range word m word.length (Nat.le_refl _); lia
theorem mvAt_range {mean word : Str} {front : Bool} {f : Int} (h : -1 ≤ f ∧ f ≤ word.length) : -1 ≤ mvAt mean word front f ∧ mvAt mean word front f ≤ word.length := by
  unfold mvAt
  split
  · exact ⟨by decide, Int.le_trans h.1 h.2⟩
  · split
    · unfold movOf
      split
      · exact ⟨by decide, Int.le_trans h.1 h.2⟩
      · have := movAt_range word mean.cps.toList f.toNat (by lia)
        exact ⟨Int.le_trans (by decide) (Int.natCast_nonneg _), Int.ofNat_le.mpr this.2⟩
    · split <;> lia
theorem found_range (c : Cs) : ∀ (l : List Nat) (f : Int), -1 ≤ f ∧ f ≤ c.word.length → -1 ≤ l.foldl (fun f ch => c.mvf ⟨#[ch]⟩ f) f ∧ l.foldl (fun f ch => c.mvf ⟨#[ch]⟩ f) f ≤ c.word.length
  | [], f, h => h
  | a :: l, f, h => by rw [List.foldl_cons]; exact found_range c l _ (mvAt_range h)
theorem RowI.range {c : Cs} {s : Nat} {r : Row} (h : RowI c s r) : -1 ≤ r.found ∧ r.found ≤ c.word.length := by
  rw [h.found]; exact found_range c _ _ (by exact ⟨by decide, Int.natCast_nonneg _⟩)
theorem moves_len (mean word : Str) (front : Bool) : (movesOf mean word front).length = word.length + 2 := by unfold movesOf; simp
theorem moves_ix (mean word : Str) (front : Bool) {f : Int} (h : -1 ≤ f ∧ f ≤ word.length) :
    (if f < 0 then (movesOf mean word front)[(f + ((movesOf mean word front).length : Nat)).toNat]? else (movesOf mean word front)[f.toNat]?) = some (.int (mvAt mean word front f)) := by
  rw [moves_len]
  have hl : ((List.range word.length).map fun f => D.int (movOf mean word front f)).length = word.length := by simp
  by_cases q : f < 0
  · rw [if_pos q]
    have e : (f + ((word.length + 2 : Nat) : Int)).toNat = word.length + 1 := by lia
    rw [e]
    unfold movesOf mvAt
    rw [if_pos q, List.getElem?_append_right (by exact Nat.le_trans (Nat.le_of_eq hl) (Nat.le_add_right _ _)), hl]
    have : word.length + 1 - word.length = 1 := by exact Nat.add_sub_cancel_left _ _
    rw [this]; rfl
  · rw [if_neg q]
    unfold movesOf mvAt
    rw [if_neg q]
    by_cases z : f.toNat < word.length
    · rw [if_pos z, List.getElem?_append_left (by exact Nat.lt_of_lt_of_le z (Nat.le_of_eq hl.symm)), List.getElem?_map, List.getElem?_range z]; rfl
    · have e : f.toNat = word.length := by lia
      rw [if_neg z, if_pos e, List.getElem?_append_right (by exact Nat.le_trans (Nat.le_of_eq hl) (Nat.le_of_not_lt z)), hl, e, Nat.sub_self]; rfl
theorem growC {c : Cs} {s : Nat} {r : Row} {sg : Str} (hs : s ≤ 5) (h : RowI c s r) (m : sg ∈ c.all) : FC "_law_grown" 1 [r.d, .str sg, .dict c.movesL] (growRow c.mvf r sg).d := by
  have l1 : r.line.length ≤ 1000 := by rw [len_list, h.len]; exact Nat.le_trans hs (by decide)
  have l2 : r.name.length ≤ 1000 := by rw [len_list]; have := h.nlen; exact Nat.le_trans this (Nat.le_trans hs (by decide))
  have hone : ∃ ch, sg = ⟨#[ch]⟩ ∧ (isStop ch = false → ch ≠ 46 → ∃ k, k < c.many ∧ ch = (c.pair k).1) := by
    unfold Cs.all at m
    rcases List.mem_append.mp m with m | m
    · obtain ⟨k, hk, rfl⟩ := signs_mem m; exact ⟨_, rfl, fun _ _ => ⟨k, hk, rfl⟩⟩
    · rcases others_mem m with rfl | rfl | rfl
      · exact ⟨_, rfl, fun _ z => absurd rfl z⟩
      · exact ⟨_, rfl, fun z => by cases z⟩
      · exact ⟨_, rfl, fun z => by cases z⟩
  obtain ⟨ch, rfl, hch⟩ := hone
  refine fc_grown (k := 0) l1 l2 (by show 1 ≤ 1000; decide) (fun q => ?_) (fun q z => ?_) (fun q z => ?_)
  · unfold growRow; rw [if_pos q]; rfl
  · unfold growRow; rw [if_neg (by rw [q]; decide), if_pos z]; rfl
  · have hr := h.range
    have hst : isStop ch = false := by
      rw [contains_stop] at q
      cases e : isStop ch with
      | false => rfl
      | true => rw [e] at q; simp at q
    obtain ⟨k, hk, rfl⟩ := hch hst (fun e => z (by rw [e, dot_is]))
    have hw := word_len c
    refine ⟨_, c.mvf ⟨#[(c.pair k).1]⟩ r.found, moves_at hk, by rw [moves_len]; lia, by rw [moves_len]; lia, moves_ix _ _ _ hr, ?_⟩
    unfold growRow; rw [if_neg (by rw [q]; decide), if_neg z]; rfl
open PySem.StrLaws
noncomputable def sub : List Nat → List Nat → Bool
  | [], _ => true
  | _ :: _, [] => false
  | a :: w, x :: g => if x = a then sub w g else sub (a :: w) g
theorem sub_nil (g : List Nat) : sub [] g = true := by cases g <;> rfl
theorem sub_hit {a i : Nat} {w g : List Nat} (h : g[i]? = some a) : sub (a :: w) (g.drop i) = sub w (g.drop (i + 1)) := by
  have hi : i < g.length := by
    rcases Nat.lt_or_ge i g.length with q | q
    · exact q
    · rw [List.getElem?_eq_none q] at h; cases h
  rw [List.drop_eq_getElem_cons hi]
  rw [List.getElem?_eq_getElem hi] at h
  cases h
  show (if _ then _ else _) = _
  rw [if_pos rfl]
theorem sub_skip {a st : Nat} {w g : List Nat} : ∀ n, (∀ k, st ≤ k → k < st + n → g[k]? ≠ some a) → sub (a :: w) (g.drop st) = sub (a :: w) (g.drop (st + n))
  | 0, _ => rfl
  | n + 1, h => by
    rw [sub_skip n fun k h1 h2 => h k h1 (by lia)]
    rcases Nat.lt_or_ge (st + n) g.length with q | q
    · rw [List.drop_eq_getElem_cons q]
      have ne : g[st + n] ≠ a := fun e => h (st + n) (by exact Nat.le_add_right _ _) (by lia) (by rw [List.getElem?_eq_getElem q, e])
      show (if _ then _ else _) = _
      rw [if_neg ne]; rfl
    · rw [List.drop_eq_nil_of_le q, List.drop_eq_nil_of_le (by lia)]
theorem sub_none {a st : Nat} {w g : List Nat} (h : ∀ k, st ≤ k → g[k]? ≠ some a) : sub (a :: w) (g.drop st) = false := by
  rw [sub_skip g.length fun k h1 _ => h k h1, List.drop_eq_nil_of_le (by exact Nat.le_add_left _ _)]; rfl
theorem sub_mov (word : Str) : ∀ (g : List Nat) (f : Nat), f ≤ word.length → (decide (movAt word g f = word.length) = sub (word.cps.toList.drop f) g)
  | [], f, h => by
    have e : movAt word [] f = f := rfl
    rw [e]
    rw [len_list] at h ⊢
    rcases Nat.lt_or_ge f word.cps.toList.length with q | q
    · rw [List.drop_eq_getElem_cons q]
      exact decide_eq_false (by lia)
    · rw [List.drop_eq_nil_of_le q]
      exact decide_eq_true (by lia)
  | x :: g, f, h => by
    rw [movAt_cons]
    have hl := len_list word
    have hx : word.cps[f]? = word.cps.toList[f]? := by simp
    rw [hx]
    rcases Nat.lt_or_ge f word.cps.toList.length with q | q
    · rw [List.drop_eq_getElem_cons q, List.getElem?_eq_getElem q]
      by_cases z : word.cps.toList[f] = x
      · rw [if_pos (by rw [z]), sub_mov word g (f + 1) (by exact Nat.lt_of_lt_of_le q (Nat.le_of_eq hl.symm))]
        show _ = if _ then _ else _
        rw [if_pos z.symm]
      · rw [if_neg (by simpa using z), sub_mov word g f h, List.drop_eq_getElem_cons q]
        show _ = if _ then _ else _
        rw [if_neg (fun e => z e.symm)]
    · rw [List.getElem?_eq_none q, if_neg (by simp), sub_mov word g f h, List.drop_eq_nil_of_le q, sub_nil, sub_nil]
theorem ellPos_cons (got w : Str) (ws : List Str) (start : Nat) : ∀ i, ellPos got (w :: ws) start (i + 1) = ellPos got ws ((findIn got w start got.length).toNat + w.length) i
  | 0 => rfl
  | i + 1 => by
    have ih := ellPos_cons got w ws start i
    show (findIn got ((w :: ws).getD (i + 1) "") (ellPos got (w :: ws) start (i + 1)) got.length).toNat + _ = _
    rw [ih]; rfl
theorem ellAll_cons (got w : Str) (ws : List Str) (start : Nat) : ellAll got (w :: ws) start = (decide (0 ≤ findIn got w start got.length) && ellAll got ws ((findIn got w start got.length).toNat + w.length)) := by
  unfold ellAll
  rw [List.length_cons, List.range_succ_eq_map, List.all_cons, List.all_map]
  congr 1
  congr 1
  funext i
  show ellHit got (w :: ws) start (i + 1) = _
  unfold ellHit
  rw [ellPos_cons]; rfl
theorem find_empty (x : Str) {st : Nat} (h : st ≤ x.length) : 0 ≤ findIn x "" st x.length := by
  rcases findIn_spec x "" st x.length with ⟨_, hn⟩ | ⟨i, h, _⟩
  · refine absurd ?_ (hn st (Nat.le_refl _))
    have e : ("" : Str) = ⟨#[]⟩ := by decide +kernel
    rw [e]
    refine ⟨h, ?_⟩
    unfold Builtin.Str.subAt
    rw [beq_iff_eq]
    apply Array.toList_inj.mp
    have : (⟨#[]⟩ : Str).length = 0 := rfl
    simp [this]
  · rw [h]; exact Int.natCast_nonneg _
noncomputable def oneS (n : Nat) : Str := ⟨#[n]⟩
theorem ellAll_sub (got : Str) : ∀ (w : List Nat) (start : Nat), start ≤ got.length → ellAll got (w.map oneS ++ [("" : Str)]) start = sub w (got.cps.toList.drop start)
  | [], start, h => by
    rw [sub_nil]
    show ellAll got [("" : Str)] start = true
    rw [ellAll_cons]
    simp only [find_empty got h, decide_true, Bool.true_and]
    rfl
  | a :: w, start, h => by
    show ellAll got (oneS a :: (w.map oneS ++ [("" : Str)])) start = _
    rw [ellAll_cons]
    have hl := len_list got
    rcases findIn_spec got (oneS a) start got.length with ⟨e, hn⟩ | ⟨i, e, h1, hA, hm⟩
    · rw [e]
      rw [sub_none fun k hk q => hn k hk (at_one.mpr ⟨by
        have : k < got.cps.toList.length := by
          rcases Nat.lt_or_ge k got.cps.toList.length with z | z
          · exact z
          · rw [List.getElem?_eq_none z] at q; cases q
        exact Nat.lt_of_lt_of_le this (Nat.le_of_eq hl.symm), q⟩)]
      rfl
    · have hA := at_one.mp hA
      rw [e]
      have p : decide (0 ≤ (i : Int)) = true := decide_eq_true (Int.natCast_nonneg _)
      rw [p, Bool.true_and, Int.toNat_natCast]
      show ellAll got (w.map oneS ++ [("" : Str)]) (i + 1) = _
      rw [ellAll_sub got w (i + 1) (by exact hA.1)]
      have hk := sub_skip (a := a) (st := start) (w := w) (g := got.cps.toList) (i - start) fun k h1 h2 q => hm k h1 (by lia) (at_one.mpr ⟨by lia, q⟩)
      rw [hk, show start + (i - start) = i by lia, sub_hit hA.2]
noncomputable def patOf (front : Bool) (w : List Nat) : Str := (if front then ("" : Str) else ("..." : Str)) ++ Txt.join "" (w.map fun l => (⟨#[l]⟩ : Str) ++ "...")
noncomputable def wordOf (f n b : Nat) : List Nat := (List.range n).map fun k => (famL f).cps.getD (b / 2 ^ k % 2) 0
noncomputable def piecesOf (front : Bool) (w : List Nat) : List Str := (if front then [] else [("" : Str)]) ++ (w.map oneS ++ [("" : Str)])
noncomputable def okPat (front : Bool) (w : List Nat) : Bool := (front && w.isEmpty) || (Txt.contains (patOf front w) "..." && decide (Txt.split (patOf front w) "..." = piecesOf front w))
noncomputable def okPatF (f : Nat) : Bool := (List.range 4).all fun n => (List.range 8).all fun b => okPat true (wordOf f n b) && okPat false (wordOf f n b)
theorem okPat0 : okPatF 0 = true := by decide +kernel
theorem okPat1 : okPatF 1 = true := by decide +kernel
theorem okPat2 : okPatF 2 = true := by decide +kernel
theorem okPat3 : okPatF 3 = true := by decide +kernel
theorem okPats {f : Nat} (h : f < 4) : okPatF f = true := lt4 (P := fun f => okPatF f = true) okPat0 okPat1 okPat2 okPat3 f h
theorem wordL_of (c : Cs) : c.wordL = wordOf (c.c0 % 4) (c.c4 / 8 % 4) (c.c4 % 8) := by
  unfold Cs.wordL wordOf
  rw [c_letters]
  refine List.map_congr_left fun k hk => ?_
  have h : k < 3 := by have := List.mem_range.mp hk; lia
  congr 1
  refine lt3 (P := fun k => c.c4 / 2 ^ k % 2 = c.c4 % 8 / 2 ^ k % 2) ?_ ?_ ?_ k h
  · rw [Nat.pow_zero, Nat.div_one, Nat.div_one]; exact (Nat.mod_mod_of_dvd _ (by decide)).symm
  · show c.c4 / 2 % 2 = c.c4 % (2 * 4) / 2 % 2
    rw [Nat.mod_mul_right_div_self]; exact (Nat.mod_mod_of_dvd _ (by decide)).symm
  · show c.c4 / 4 % 2 = c.c4 % (4 * 2) / 4 % 2
    rw [Nat.mod_mul_right_div_self, Nat.mod_mod]
theorem c_pattern (c : Cs) : c.pattern = patOf c.front c.wordL := by
  unfold Cs.pattern patOf; cases c.front <;> rfl
theorem front_word {c : Cs} (h : c.front = true) : c.wordL ≠ [] := by
  intro e
  unfold Cs.front at h
  have : c.word = "" := by
    apply str_ext; rw [word_list, e, empty_list]
  rw [this] at h
  simp at h
theorem pat_ok (c : Cs) : Txt.contains c.pattern "..." = true ∧ Txt.split c.pattern "..." = piecesOf c.front c.wordL := by
  have h := okPats (f := c.c0 % 4) (Nat.mod_lt _ (by decide))
  unfold okPatF at h
  simp only [List.all_eq_true, List.mem_range, Bool.and_eq_true] at h
  have h := h (c.c4 / 8 % 4) (Nat.mod_lt _ (by decide)) (c.c4 % 8) (Nat.mod_lt _ (by decide))
  rw [← wordL_of] at h
  rw [c_pattern]
  have : okPat c.front c.wordL = true := by cases c.front with | true => exact h.1 | false => exact h.2
  unfold okPat at this
  simp only [Bool.or_eq_true, Bool.and_eq_true, decide_eq_true_eq] at this
  refine this.resolve_left fun q => ?_
  exact front_word q.1 (by simpa using q.2)
noncomputable def mn (c : Cs) (ch : Nat) : List Nat := (meanIn c.prs ⟨#[ch]⟩).cps.toList
noncomputable def flat (c : Cs) (l : List Nat) : List Nat := l.flatMap (mn c)
theorem flat_cons (c : Cs) (a : Nat) (l : List Nat) : flat c (a :: l) = mn c a ++ flat c l := by unfold flat; rw [List.flatMap_cons]
theorem fold_list (c : Cs) (name : Str) : (nameFold (fun ch => meanIn c.prs ⟨#[ch]⟩) name).cps.toList = flat c name.cps.toList := by
  unfold nameFold flat
  rw [join_list, List.map_map, List.flatMap_def]; rfl
theorem empty_iff (x : Str) : x = "" ↔ x.cps.toList = [] := ⟨fun e => by rw [e, empty_list], fun e => str_ext (by rw [e, empty_list])⟩
noncomputable abbrev stepF (c : Cs) : Int → Nat → Int := fun f ch => c.mvf ⟨#[ch]⟩ f
theorem mvf_plain {c : Cs} {ch f : Nat} (hf : f ≤ c.word.length) (h : c.front = false ∨ 1 ≤ f ∨ mn c ch = [] ∨ (mn c ch)[0]? = c.word.cps[0]?) : c.mvf ⟨#[ch]⟩ (f : Int) = (movAt c.word (mn c ch) f : Nat) := by
  unfold Cs.mvf mvAt
  rw [if_neg (by exact Int.not_lt.mpr (Int.natCast_nonneg _)), Int.toNat_natCast]
  by_cases z : f < c.word.length
  · rw [if_pos z]
    unfold movOf
    rw [if_neg ?_]
    · rfl
    · intro q
      simp only [Bool.and_eq_true, Bool.not_eq_true', decide_eq_true_eq, decide_eq_false_iff_not] at q
      obtain ⟨q1, q2, q3, q4⟩ := q
      rcases h with h | h | h | h
      · rw [h] at q1; cases q1
      · exact absurd h (Nat.not_le.mpr (Nat.lt_of_le_of_lt (Nat.le_of_eq q2) (by decide)))
      · exact q3 ((empty_iff _).mpr h)
      · refine q4 ?_
        unfold mn at h
        rw [← h]; simp
  · have e : f = c.word.length := by lia
    rw [if_neg z, if_pos e, e, movAt_end]
theorem fold_plain {c : Cs} : ∀ (l : List Nat) (f : Nat), f ≤ c.word.length → (c.front = false ∨ 1 ≤ f) → l.foldl (stepF c) (f : Int) = (movAt c.word (flat c l) f : Nat)
  | [], f, _, _ => rfl
  | a :: l, f, hf, h => by
    rw [List.foldl_cons, flat_cons, movAt_app]
    have e : stepF c (f : Int) a = (movAt c.word (mn c a) f : Nat) := mvf_plain hf (h.imp id .inl)
    have r := movAt_range c.word (mn c a) f hf
    rw [e]
    exact fold_plain l _ r.2 (h.imp id fun h => by exact Nat.le_trans h r.1)
theorem fold_dead {c : Cs} : ∀ l : List Nat, l.foldl (stepF c) (-1 : Int) = (-1 : Int)
  | [] => rfl
  | a :: l => by
    rw [List.foldl_cons]
    have : stepF c (-1) a = -1 := by show c.mvf _ _ = _; unfold Cs.mvf mvAt; rw [if_pos (by decide)]
    rw [this]; exact fold_dead l
theorem fold_front {c : Cs} (hfr : c.front = true) : ∀ (l : List Nat), l.foldl (stepF c) (0 : Int) = if flat c l = [] then (0 : Int) else if (flat c l)[0]? = c.word.cps[0]? then ((movAt c.word (flat c l) 0 : Nat) : Int) else (-1 : Int)
  | [] => (if_pos rfl).symm
  | a :: l => by
    have hn : 1 ≤ c.word.length := by
      have := front_word hfr
      rw [len_list, word_list]
      cases e : c.wordL with
      | nil => exact absurd e this
      | cons a l => simp
    rw [List.foldl_cons, flat_cons]
    cases e : mn c a with
    | nil =>
      have e2 : stepF c 0 a = ((movAt c.word (mn c a) 0 : Nat) : Int) := mvf_plain (f := 0) (Nat.zero_le _) (.inr (.inr (.inl e)))
      rw [e2, e]
      show List.foldl (stepF c) ((0 : Nat) : Int) l = _
      rw [List.nil_append]
      exact fold_front hfr l
    | cons x t =>
      rw [if_neg (by simp)]
      have h0 : ((x :: t) ++ flat c l)[0]? = some x := rfl
      rw [h0]
      by_cases q : some x = c.word.cps[0]?
      · rw [if_pos q]
        have e2 : stepF c 0 a = ((movAt c.word (mn c a) 0 : Nat) : Int) := mvf_plain (f := 0) (Nat.zero_le _) (.inr (.inr (.inr (by rw [e]; exact q))))
        rw [e2, e, movAt_app]
        have h1 : movAt c.word (x :: t) 0 = movAt c.word t 1 := by rw [movAt_cons, if_pos q.symm]
        have r := movAt_range c.word t 1 hn
        rw [h1]
        exact fold_plain l _ r.2 (.inr r.1)
      · rw [if_neg q]
        have e2 : stepF c 0 a = -1 := by
          show c.mvf ⟨#[a]⟩ 0 = -1
          unfold Cs.mvf mvAt
          rw [if_neg (by decide), if_pos (by show 0 < _; lia)]
          unfold movOf
          rw [if_pos ?_]
          simp only [Bool.and_eq_true, Bool.not_eq_true', decide_eq_true_eq, decide_eq_false_iff_not]
          refine ⟨hfr, rfl, fun z => ?_, fun z => q ?_⟩
          · have := (empty_iff _).mp z
            unfold mn at e
            rw [this] at e; cases e
          · unfold mn at e
            rw [← z, ← Array.getElem?_toList, e]; rfl
        rw [e2]; exact fold_dead l
theorem oneS_len (n : Nat) : (oneS n).length = 1 := rfl
open PySem.StrLaws in
theorem starts_one (x : Str) (a : Nat) : Txt.startswith x (oneS a) = decide (x.cps.toList[0]? = some a) := by
  have h := at_one (x := x) (c := a) (hi := x.length) (i := 0)
  unfold At at h
  unfold Txt.startswith oneS
  by_cases q : x.cps.toList[0]? = some a
  · have hl : 0 + 1 ≤ x.length := by
      rw [len_list]
      rcases Nat.lt_or_ge 0 x.cps.toList.length with z | z
      · exact z
      · rw [List.getElem?_eq_none z] at q; cases q
    obtain ⟨h1, h2⟩ := h.mpr ⟨hl, q⟩
    rw [decide_eq_true q, h2, decide_eq_true h1]; rfl
  · rw [decide_eq_false q]
    cases e : (decide (0 + (⟨#[a]⟩ : Str).length ≤ x.length) && Builtin.Str.subAt x ⟨#[a]⟩ 0) with
    | false => rfl
    | true =>
      simp only [Bool.and_eq_true, decide_eq_true_eq] at e
      exact absurd (h.mp e).2 q
open PySem.StrLaws in
theorem find_empty0 (x : Str) : findIn x "" 0 x.length = 0 := by
  have h := find_empty x (Nat.zero_le _)
  rcases findIn_spec x "" 0 x.length with ⟨e, _⟩ | ⟨i, e, _, hA, hm⟩
  · rw [e] at h; exact absurd h (by decide)
  · rcases Nat.eq_zero_or_pos i with z | z
    · rw [e, z]; rfl
    · refine absurd ?_ (hm 0 (Nat.le_refl _) z)
      have e : ("" : Str) = ⟨#[]⟩ := by decide +kernel
      rw [e]
      refine ⟨Nat.zero_le _, ?_⟩
      unfold Builtin.Str.subAt
      rw [beq_iff_eq]
      apply Array.toList_inj.mp
      have : (⟨#[]⟩ : Str).length = 0 := rfl
      simp [this]
theorem ok_found (c : Cs) (name : Str) : c.ok name = decide (name.cps.toList.foldl (stepF c) 0 = (c.word.length : Int)) := by
  have hp := (pat_ok c).2
  unfold Cs.ok
  rw [hp]
  obtain ⟨g, hg⟩ : ∃ g, g = nameFold (fun ch => meanIn c.prs ⟨#[ch]⟩) name := ⟨_, rfl⟩
  have hgl := fold_list c name
  rw [← hg] at hgl ⊢
  have hwl := word_list c
  have el : ("" : Str).length = 0 := by decide +kernel
  have sm := sub_mov c.word (flat c name.cps.toList) 0 (Nat.zero_le _)
  rw [hwl, List.drop_zero] at sm
  cases hf : c.front with
  | false =>
    have e := fold_plain (c := c) name.cps.toList 0 (Nat.zero_le _) (.inl hf)
    have e : name.cps.toList.foldl (stepF c) 0 = _ := e
    rw [e]
    have ep : piecesOf false c.wordL = ("" : Str) :: (c.wordL.map oneS ++ [("" : Str)]) := rfl
    rw [ep]
    unfold ellRes
    rw [if_pos (show ((("" : Str) :: (c.wordL.map oneS ++ [("" : Str)])).getD 0 "").length = 0 from el), ellAll_cons, find_empty0]
    show ellAll g (c.wordL.map oneS ++ [("" : Str)]) (0 + ("" : Str).length) = _
    rw [el, ellAll_sub g c.wordL 0 (Nat.zero_le _), List.drop_zero, hgl, ← sm]
    exact decide_eq_decide.mpr (by lia)
  | true =>
    have e := fold_front hf name.cps.toList
    cases hw : c.wordL with
    | nil => exact absurd hw (front_word hf)
    | cons a w =>
      have ep : piecesOf true (a :: w) = oneS a :: (w.map oneS ++ [("" : Str)]) := rfl
      rw [ep]
      unfold ellRes
      rw [if_neg (show ¬ ((oneS a :: (w.map oneS ++ [("" : Str)])).getD 0 "").length = 0 from by show ¬ (1 = 0); decide)]
      show (if Txt.startswith g (oneS a) = true then ellAll g (w.map oneS ++ [("" : Str)]) (oneS a).length else false) = _
      rw [starts_one, hgl]
      have hw0 : c.word.cps[0]? = some a := by rw [← Array.getElem?_toList, hwl, hw]; rfl
      have hn : 1 ≤ c.word.length := by rw [len_list, hwl, hw]; simp
      rw [hw] at sm
      cases hfl : flat c name.cps.toList with
      | nil =>
        rw [hfl, if_pos rfl] at e
        rw [if_neg (by simp), e]
        exact (decide_eq_false (by lia)).symm
      | cons x t =>
        have hx0 : (x :: t)[0]? = some x := rfl
        rw [hfl, if_neg (show ¬ (x :: t = []) by simp), hw0, hx0] at e
        rw [hx0]
        by_cases q : x = a
        · subst q
          have hgl1 : 1 ≤ g.length := by rw [len_list, hgl, hfl]; simp
          rw [if_pos rfl] at e
          rw [if_pos (by simp), e, oneS_len, ellAll_sub g w 1 hgl1, hgl, hfl]
          rw [hfl] at sm
          have s2 : sub (x :: w) (x :: t) = sub w t := by show (if _ then _ else _) = _; rw [if_pos rfl]
          rw [s2] at sm
          show sub w t = _
          rw [← sm]
          exact decide_eq_decide.mpr (by lia)
        · have ne : ¬ (some x = some a) := by simpa using q
          rw [if_neg ne] at e
          rw [if_neg (by simpa using q), e]
          exact (decide_eq_false (by lia)).symm
theorem ellC {c : Cs} {name : Str} (hg : (nameFold (fun ch => meanIn c.prs ⟨#[ch]⟩) name).length ≤ 2 ^ 24) : FC "_ellipsis_match" 1 [.str c.pattern, .str (nameFold (fun ch => meanIn c.prs ⟨#[ch]⟩) name)] (.bool (c.ok name)) := by
  obtain ⟨h1, h2⟩ := pat_ok c
  have hwl := wordL_len c
  have hlen : (piecesOf c.front c.wordL).length ≤ 5 := by unfold piecesOf; cases c.front <;> simp <;> lia
  have hlen2 : 2 ≤ (piecesOf c.front c.wordL).length := by
    unfold piecesOf
    cases hf : c.front with
    | false => simp
    | true =>
      cases hw : c.wordL with
      | nil => exact absurd hw (front_word hf)
      | cons a w => simp
  have hall : ∀ s ∈ piecesOf c.front c.wordL, s.length ≤ 1 := by
    have el : ("" : Str).length = 0 := by decide +kernel
    intro s m
    unfold piecesOf at m
    rcases List.mem_append.mp m with m | m
    · cases hf : c.front with
      | true => rw [hf] at m; cases m
      | false => rw [hf] at m; rw [List.mem_singleton.mp m, el]; decide
    · rcases List.mem_append.mp m with m | m
      · obtain ⟨a, _, rfl⟩ := List.mem_map.mp m; exact Nat.le_refl _
      · rw [List.mem_singleton.mp m, el]; decide
  have eok : c.ok name = ellRes (nameFold (fun ch => meanIn c.prs ⟨#[ch]⟩) name) (piecesOf c.front c.wordL) := by unfold Cs.ok; rw [h2]
  rw [eok]
  refine fc_ell (k := 0) hg ?_ (fun i => ?_) (by exact Nat.le_trans hlen (by decide)) h1 h2 hlen2 ?_
  · have : c.pattern.length ≤ 15 := by
      rw [c_pattern]
      unfold patOf
      have : ∀ x y : Str, (x ++ y).length = x.length + y.length := fun x y => by rw [len_list, app_list, List.length_append, ← len_list, ← len_list]
      rw [this, joined_len]
      have := parts_sum c
      unfold Cs.parts at this
      have h3 : (if c.front = true then ("" : Str) else ("..." : Str)).length ≤ 3 := by cases c.front <;> decide +kernel
      lia
    lia
  · rcases Nat.lt_or_ge i (piecesOf c.front c.wordL).length with q | q
    · have : (piecesOf c.front c.wordL).getD i "" = (piecesOf c.front c.wordL)[i] := by simp [List.getD, q]
      rw [this]
      exact Nat.le_trans (hall _ (List.getElem_mem q)) (by decide)
    · have : (piecesOf c.front c.wordL).getD i "" = "" := by simp [List.getD, q]
      rw [this]; decide +kernel
  · unfold piecesOf
    rw [← List.append_assoc]
    simp [List.getD]
theorem mean_len {c : Cs} {k : Nat} (h : k < c.many) : (mn c (c.pair k).1).length ≤ 3 := by
  unfold mn
  rw [mean_pair h, ← len_list]
  exact (c.pair_ok k).len
theorem rowF (c : Cs) : RowF c := by
  have hl := c.longest_le
  have hml : ∀ s, s ≤ c.longest → ∀ r ∈ c.rows s, ((r.name.cps.toList.map fun ch => meanIn c.prs ⟨#[ch]⟩).map (·.length)).sum ≤ 15 ∧ r.name.cps.toList.length ≤ 5 := by
    intro s hs r hr
    have I := rowI hr
    have key : ∀ l : List Nat, (∀ ch ∈ l, ∃ k, k < c.many ∧ ch = (c.pair k).1) → ((l.map fun ch => meanIn c.prs ⟨#[ch]⟩).map (·.length)).sum ≤ 3 * l.length := by
      intro l
      induction l with
      | nil => intro _; simp
      | cons a l ih =>
        intro h
        rw [List.map_cons, List.map_cons, List.sum_cons, List.length_cons]
        have i := ih fun ch m => h ch (List.mem_cons_of_mem _ m)
        obtain ⟨k, hk, e⟩ := h a (List.mem_cons_self ..)
        have ml := mean_len hk
        rw [← e] at ml
        unfold mn at ml
        rw [← len_list] at ml
        lia
    have := key _ I.chars
    have := I.nlen
    lia
  refine ⟨fun s hs r hr ch hch => ?_, fun s hs r hr => ?_, fun s hs r hr => ?_, fun s hs r hr => ?_, fun s hs r hr => ?_, fun s hs r hr => ?_, fun s hs r hr => ?_, fun s hs r hr sg hsg => ?_⟩
  · obtain ⟨k, hk, rfl⟩ := (rowI hr).chars ch hch
    exact folds_at hk
  · rw [len_list]; have := (hml s hs r hr).2; exact Nat.le_trans this (by decide)
  · rw [len_list, (rowI hr).len]; exact Nat.le_trans hs (Nat.le_trans hl (by decide))
  · refine joinOk_of_weight ?_ (by decide)
    have := hml s hs r hr
    rw [List.length_map]; lia
  · refine ellC ?_
    unfold nameFold
    rw [joined_len]
    have := (hml s hs r hr).1
    exact Nat.le_trans this (by decide)
  · rw [strip_scan, (rowI hr).scan]
  · rw [ok_found, (rowI hr).found]
  · exact growC (by exact Nat.le_of_lt (Nat.lt_of_lt_of_le hs hl)) (rowI hr) hsg
structure Poly (K : Nat → Int → Int) (B E : Int) (n : Nat) (q : Nat → Int) (L : Int) : Prop where
  q0 : q 0 = (fracState K B n n).1.getD 0 0
  qn : q n = L
  lpos : 0 < L
  low : (fracState K B n n).2.foldl (· * ·) (B - E) = (B - E) * L
  step : ∀ f, f < n → B * q f = K f 0 * q 0 + K f 1 * q 1 + K f 2 * q 2 + K f 3 * q 3
  lo : ∀ f, 0 ≤ q f
  hi : ∀ f, q f ≤ L
  off : ∀ f, n < f → q f = 0
  big : L ≤ B ^ n
noncomputable def pick4 (a b c d : Int) : Nat → Int
  | 0 => a
  | 1 => b
  | 2 => c
  | 3 => d
  | _ => 0
theorem pick4_all {P : Int → Prop} {a b c d : Int} (h0 : P 0) (ha : P a) (hb : P b) (hc : P c) (hd : P d) : ∀ f, P (pick4 a b c d f)
  | 0 => ha
  | 1 => hb
  | 2 => hc
  | 3 => hd
  | _ + 4 => h0
theorem pick4_lo {a b c d : Int} (ha : 0 ≤ a) (hb : 0 ≤ b) (hc : 0 ≤ c) (hd : 0 ≤ d) : ∀ f, 0 ≤ pick4 a b c d f := pick4_all (P := fun x => 0 ≤ x) (by decide) ha hb hc hd
theorem pick4_hi {a b c d L : Int} (h0 : 0 ≤ L) (ha : a ≤ L) (hb : b ≤ L) (hc : c ≤ L) (hd : d ≤ L) : ∀ f, pick4 a b c d f ≤ L := pick4_all (P := fun x => x ≤ L) h0 ha hb hc hd
theorem mulp {a b c d : Int} (h : a ≤ b) (h2 : c ≤ d) (ha : 0 ≤ b) (hc : 0 ≤ c) : a * c ≤ b * d := Int.le_trans (Int.mul_le_mul_of_nonneg_right h hc) (Int.mul_le_mul_of_nonneg_left h2 ha)
theorem poly {K : Nat → Int → Int} {B E m : Int} {n : Nat} (hn : n ≤ 3) (hK : ∀ f t, 0 ≤ K f t) (hsum : ∀ f, K f 0 + K f 1 + K f 2 + K f 3 ≤ m) (hz : ∀ (f : Nat) (g : Int), f < n → 0 ≤ g → g < f ∨ n < g → K f g = 0) (hB : m < B) : ∃ q L, Poly K B E n q L := by
  match n, hn with
  | 0, _ =>
    refine ⟨pick4 1 0 0 0, 1, ⟨rfl, rfl, by decide, ?_, fun f h => by lia, pick4_lo (by decide) (by decide) (by decide) (by decide), pick4_hi (by decide) (by decide) (by decide) (by decide) (by decide), fun f h => ?_, by rw [Int.pow_zero]; decide⟩⟩
    · show B - E = _; rw [Int.mul_one]
    · match f, h with
      | 1, _ => rfl
      | 2, _ => rfl
      | 3, _ => rfl
      | _ + 4, _ => rfl
  | 1, _ =>
    have e : fracState K B 1 1 = ([K 0 1, 1], [B - K 0 0]) := by simp [fracState, fracRow]
    have z2 := hz 0 2 (by decide) (by decide) (by decide)
    have z3 := hz 0 3 (by decide) (by decide) (by decide)
    have s := hsum 0
    have k0 := hK 0 0
    have k1 := hK 0 1
    refine ⟨pick4 (K 0 1) (B - K 0 0) 0 0, B - K 0 0, ⟨by rw [e]; rfl, rfl, by lia, by rw [e]; rfl, fun f h => ?_, pick4_lo k1 (by lia) (by decide) (by decide), pick4_hi (by lia) (by lia) (by lia) (by lia) (by lia), fun f h => ?_, by rw [Int.pow_succ, Int.pow_zero]; lia⟩⟩
    · have : f = 0 := by lia
      subst this
      show B * K 0 1 = K 0 0 * K 0 1 + K 0 1 * (B - K 0 0) + K 0 2 * 0 + K 0 3 * 0
      grind
    · match f, h with
      | 2, _ => rfl
      | 3, _ => rfl
      | _ + 4, _ => rfl
  | 2, _ =>
    have e : fracState K B 2 2 = ([K 0 1 * K 1 2 + K 0 2 * (B - K 1 1), K 1 2, 1], [B - K 0 0, B - K 1 1]) := by simp [fracState, fracRow]
    have z03 := hz 0 3 (by decide) (by decide) (by decide)
    have z13 := hz 1 3 (by decide) (by decide) (by decide)
    have z10 := hz 1 0 (by decide) (by decide) (by decide)
    have s0 := hsum 0
    have s1 := hsum 1
    have k00 := hK 0 0
    have k01 := hK 0 1
    have k02 := hK 0 2
    have k11 := hK 1 1
    have k12 := hK 1 2
    obtain ⟨a0, ha0⟩ : ∃ a, a = B - K 0 0 := ⟨_, rfl⟩
    obtain ⟨a1, ha1⟩ : ∃ a, a = B - K 1 1 := ⟨_, rfl⟩
    have p0 : 0 < a0 := by lia
    have p1 : 0 < a1 := by lia
    rw [← ha0, ← ha1] at e
    have h1 : K 1 2 * a0 ≤ a0 * a1 := by rw [Int.mul_comm a0 a1]; exact Int.mul_le_mul_of_nonneg_right (by lia) (by exact Int.le_of_lt p0)
    have h0 : K 0 1 * K 1 2 + K 0 2 * a1 ≤ a0 * a1 := by
      have x1 : K 0 1 * K 1 2 ≤ K 0 1 * a1 := Int.mul_le_mul_of_nonneg_left (by lia) k01
      have x2 : (K 0 1 + K 0 2) * a1 ≤ a0 * a1 := Int.mul_le_mul_of_nonneg_right (by lia) (by exact Int.le_of_lt p1)
      rw [Int.add_mul] at x2
      lia
    have n0 : 0 ≤ K 0 1 * K 1 2 + K 0 2 * a1 := Int.add_nonneg (Int.mul_nonneg k01 k12) (Int.mul_nonneg k02 (by exact Int.le_of_lt p1))
    have n1 : 0 ≤ K 1 2 * a0 := Int.mul_nonneg k12 (by exact Int.le_of_lt p0)
    have pL : 0 < a0 * a1 := Int.mul_pos p0 p1
    refine ⟨pick4 (K 0 1 * K 1 2 + K 0 2 * a1) (K 1 2 * a0) (a0 * a1) 0, a0 * a1, ⟨by rw [e]; rfl, rfl, pL, ?_, fun f h => ?_, pick4_lo n0 n1 (by exact Int.le_of_lt pL) (by decide), pick4_hi (by exact Int.le_of_lt pL) h0 h1 (by lia) (by exact Int.le_of_lt pL), fun f h => ?_, ?_⟩⟩
    · rw [e]; show (B - E) * a0 * a1 = _; rw [Int.mul_assoc]
    · match f, h with
      | 0, _ =>
        show B * (K 0 1 * K 1 2 + K 0 2 * a1) = K 0 0 * (K 0 1 * K 1 2 + K 0 2 * a1) + K 0 1 * (K 1 2 * a0) + K 0 2 * (a0 * a1) + K 0 3 * 0
        grind
      | 1, _ =>
        show B * (K 1 2 * a0) = K 1 0 * (K 0 1 * K 1 2 + K 0 2 * a1) + K 1 1 * (K 1 2 * a0) + K 1 2 * (a0 * a1) + K 1 3 * 0
        grind
    · match f, h with
      | 3, _ => rfl
      | _ + 4, _ => rfl
    · rw [Int.pow_succ, Int.pow_succ, Int.pow_zero, Int.one_mul]
      exact mulp (by lia) (by lia) (by lia) (by exact Int.le_of_lt p1)
  | 3, _ =>
    have e : fracState K B 3 3 = ([K 0 1 * (K 1 2 * K 2 3 + K 1 3 * (B - K 2 2)) + K 0 2 * K 2 3 * (B - K 1 1) + K 0 3 * ((B - K 1 1) * (B - K 2 2)), K 1 2 * K 2 3 + K 1 3 * (B - K 2 2), K 2 3, 1], [B - K 0 0, B - K 1 1, B - K 2 2]) := by simp [fracState, fracRow]
    have z10 := hz 1 0 (by decide) (by decide) (by decide)
    have z20 := hz 2 0 (by decide) (by decide) (by decide)
    have z21 := hz 2 1 (by decide) (by decide) (by decide)
    have s0 := hsum 0
    have s1 := hsum 1
    have s2 := hsum 2
    have k00 := hK 0 0
    have k01 := hK 0 1
    have k02 := hK 0 2
    have k03 := hK 0 3
    have k11 := hK 1 1
    have k12 := hK 1 2
    have k13 := hK 1 3
    have k22 := hK 2 2
    have k23 := hK 2 3
    obtain ⟨a0, ha0⟩ : ∃ a, a = B - K 0 0 := ⟨_, rfl⟩
    obtain ⟨a1, ha1⟩ : ∃ a, a = B - K 1 1 := ⟨_, rfl⟩
    obtain ⟨a2, ha2⟩ : ∃ a, a = B - K 2 2 := ⟨_, rfl⟩
    rw [← ha0, ← ha1, ← ha2] at e
    have p0 : 0 < a0 := by lia
    have p1 : 0 < a1 := by lia
    have p2 : 0 < a2 := by lia
    obtain ⟨t1, ht1⟩ : ∃ a, a = K 1 2 * K 2 3 + K 1 3 * a2 := ⟨_, rfl⟩
    rw [← ht1] at e
    have t1n : 0 ≤ t1 := by rw [ht1]; exact Int.add_nonneg (Int.mul_nonneg k12 k23) (Int.mul_nonneg k13 (by exact Int.le_of_lt p2))
    have t1h : t1 ≤ a1 * a2 := by
      have x1 : K 1 2 * K 2 3 ≤ K 1 2 * a2 := Int.mul_le_mul_of_nonneg_left (by lia) k12
      have x2 : (K 1 2 + K 1 3) * a2 ≤ a1 * a2 := Int.mul_le_mul_of_nonneg_right (by lia) (by exact Int.le_of_lt p2)
      rw [Int.add_mul] at x2
      lia
    have p12 : 0 < a1 * a2 := Int.mul_pos p1 p2
    have p01 : 0 < a0 * a1 := Int.mul_pos p0 p1
    have pL : 0 < a0 * a1 * a2 := Int.mul_pos p01 p2
    have eL : a0 * a1 * a2 = a0 * (a1 * a2) := Int.mul_assoc _ _ _
    obtain ⟨t0, ht0⟩ : ∃ a, a = K 0 1 * t1 + K 0 2 * K 2 3 * a1 + K 0 3 * (a1 * a2) := ⟨_, rfl⟩
    rw [← ht0] at e
    have t0n : 0 ≤ t0 := by rw [ht0]; exact Int.add_nonneg (Int.add_nonneg (Int.mul_nonneg k01 t1n) (Int.mul_nonneg (Int.mul_nonneg k02 k23) (by exact Int.le_of_lt p1))) (Int.mul_nonneg k03 (by exact Int.le_of_lt p12))
    have t0h : t0 ≤ a0 * a1 * a2 := by
      have x1 : K 0 1 * t1 ≤ K 0 1 * (a1 * a2) := Int.mul_le_mul_of_nonneg_left t1h k01
      have x2 : K 0 2 * K 2 3 * a1 ≤ K 0 2 * (a1 * a2) := by
        have : K 0 2 * K 2 3 * a1 = K 0 2 * (a1 * K 2 3) := by rw [Int.mul_assoc, Int.mul_comm (K 2 3) a1]
        rw [this]
        exact Int.mul_le_mul_of_nonneg_left (Int.mul_le_mul_of_nonneg_left (by lia) (by exact Int.le_of_lt p1)) k02
      have x3 : (K 0 1 + K 0 2 + K 0 3) * (a1 * a2) ≤ a0 * (a1 * a2) := Int.mul_le_mul_of_nonneg_right (by lia) (by exact Int.le_of_lt p12)
      rw [Int.add_mul, Int.add_mul] at x3
      rw [eL]
      lia
    have h2 : K 2 3 * (a0 * a1) ≤ a0 * a1 * a2 := by rw [Int.mul_comm (a0 * a1) a2]; exact Int.mul_le_mul_of_nonneg_right (by lia) (by exact Int.le_of_lt p01)
    have h1 : t1 * a0 ≤ a0 * a1 * a2 := by rw [eL, Int.mul_comm]; exact Int.mul_le_mul_of_nonneg_left t1h (by exact Int.le_of_lt p0)
    refine ⟨pick4 t0 (t1 * a0) (K 2 3 * (a0 * a1)) (a0 * a1 * a2), a0 * a1 * a2, ⟨by rw [e]; rfl, rfl, pL, ?_, fun f h => ?_, pick4_lo t0n (Int.mul_nonneg t1n (by exact Int.le_of_lt p0)) (Int.mul_nonneg k23 (by exact Int.le_of_lt p01)) (by exact Int.le_of_lt pL), pick4_hi (by exact Int.le_of_lt pL) t0h h1 h2 (by exact Int.le_trans (Int.le_of_eq eL) (Int.le_of_eq eL.symm)), fun f h => ?_, ?_⟩⟩
    · rw [e]; show (B - E) * a0 * a1 * a2 = _; rw [Int.mul_assoc, Int.mul_assoc, Int.mul_assoc]
    · match f, h with
      | 0, _ =>
        show B * t0 = K 0 0 * t0 + K 0 1 * (t1 * a0) + K 0 2 * (K 2 3 * (a0 * a1)) + K 0 3 * (a0 * a1 * a2)
        grind
      | 1, _ =>
        show B * (t1 * a0) = K 1 0 * t0 + K 1 1 * (t1 * a0) + K 1 2 * (K 2 3 * (a0 * a1)) + K 1 3 * (a0 * a1 * a2)
        grind
      | 2, _ =>
        show B * (K 2 3 * (a0 * a1)) = K 2 0 * t0 + K 2 1 * (t1 * a0) + K 2 2 * (K 2 3 * (a0 * a1)) + K 2 3 * (a0 * a1 * a2)
        grind
    · match f, h with
      | _ + 4, _ => rfl
    · rw [Int.pow_succ, Int.pow_succ, Int.pow_succ, Int.pow_zero, Int.one_mul]
      exact mulp (mulp (by lia) (by lia) (by lia) (by exact Int.le_of_lt p1)) (by lia) (Int.mul_nonneg (by lia) (by lia)) (by exact Int.le_of_lt p2)
noncomputable def Qz (q : Nat → Int) (v : Int) : Int := if v < 0 then 0 else q v.toNat
theorem cnt_cons (s : Str) (l : List Str) (mv : Str → Nat → Int) (f : Nat) (t : Int) : cntOf (s :: l) mv f t = (if mv s f = t then 1 else 0) + cntOf l mv f t := by
  unfold cntOf
  rw [List.filter_cons]
  by_cases h : mv s f = t
  · simp [h]; exact Int.add_comm _ _
  · simp [h]
theorem cnt_nil (mv : Str → Nat → Int) (f : Nat) (t : Int) : cntOf [] mv f t = 0 := rfl
theorem part {mv : Str → Nat → Int} {f : Nat} {q : Nat → Int} : ∀ (l : List Str), (∀ s ∈ l, -1 ≤ mv s f ∧ mv s f ≤ 3) →
    (l.map fun s => Qz q (mv s f)).sum = cntOf l mv f 0 * q 0 + cntOf l mv f 1 * q 1 + cntOf l mv f 2 * q 2 + cntOf l mv f 3 * q 3
  | [], _ => by simp [cnt_nil]
  | s :: l, h => by
    have ih := part (q := q) l fun a m => h a (List.mem_cons_of_mem _ m)
    have hs := h s (List.mem_cons_self ..)
    rw [List.map_cons, List.sum_cons, ih, cnt_cons, cnt_cons, cnt_cons, cnt_cons]
    generalize mv s f = v at hs
    have : v = -1 ∨ v = 0 ∨ v = 1 ∨ v = 2 ∨ v = 3 := by lia
    rcases this with rfl | rfl | rfl | rfl | rfl
    · show 0 + _ = (0 + _) * _ + (0 + _) * _ + (0 + _) * _ + (0 + _) * _; grind
    · show q 0 + _ = (1 + _) * _ + (0 + _) * _ + (0 + _) * _ + (0 + _) * _; grind
    · show q 1 + _ = (0 + _) * _ + (1 + _) * _ + (0 + _) * _ + (0 + _) * _; grind
    · show q 2 + _ = (0 + _) * _ + (0 + _) * _ + (1 + _) * _ + (0 + _) * _; grind
    · show q 3 + _ = (0 + _) * _ + (0 + _) * _ + (0 + _) * _ + (1 + _) * _; grind
theorem cnt_sum {mv : Str → Nat → Int} {f : Nat} : ∀ (l : List Str), cntOf l mv f 0 + cntOf l mv f 1 + cntOf l mv f 2 + cntOf l mv f 3 ≤ l.length
  | [] => by simp [cnt_nil]
  | s :: l => by
    have ih := cnt_sum (mv := mv) (f := f) l
    rw [cnt_cons, cnt_cons, cnt_cons, cnt_cons, List.length_cons]
    by_cases h0 : mv s f = 0
    · rw [h0]; simp; lia
    · by_cases h1 : mv s f = 1
      · rw [h1]; simp; lia
      · by_cases h2 : mv s f = 2
        · rw [h2]; simp; lia
        · by_cases h3 : mv s f = 3
          · rw [h3]; simp; lia
          · simp [h0, h1, h2, h3]; lia
theorem cnt_pos {mv : Str → Nat → Int} {f : Nat} {t : Int} (l : List Str) : 0 ≤ cntOf l mv f t := Int.natCast_nonneg _
theorem cnt_zero {mv : Str → Nat → Int} {f : Nat} {t : Int} : ∀ (l : List Str), (∀ s ∈ l, mv s f ≠ t) → cntOf l mv f t = 0
  | [], _ => rfl
  | s :: l, h => by rw [cnt_cons, if_neg (h s (List.mem_cons_self ..)), cnt_zero l fun a m => h a (List.mem_cons_of_mem _ m)]; rfl
theorem mvN_range (c : Cs) (s : Str) {f : Nat} (h : f ≤ c.word.length) : c.mvN s f = -1 ∨ (f ≤ c.mvN s f ∧ c.mvN s f ≤ c.word.length) := by
  unfold Cs.mvN movOf
  split
  · exact .inl rfl
  · have := movAt_range c.word (meanIn c.prs s).cps.toList f h
    right; exact ⟨Int.ofNat_le.mpr this.1, Int.ofNat_le.mpr this.2⟩
theorem mvN_mvf (c : Cs) (s : Str) {f : Nat} (h : f < c.word.length) : c.mvf s (f : Int) = c.mvN s f := by
  unfold Cs.mvf Cs.mvN mvAt
  rw [if_neg (by exact Int.not_lt.mpr (Int.natCast_nonneg _)), Int.toNat_natCast, if_pos h]
theorem signs_len (c : Cs) : c.signs.length = c.many := by unfold Cs.signs; rw [List.length_map, c.prs_len]
noncomputable abbrev Cs.K (c : Cs) : Nat → Int → Int := cntOf c.signs c.mvN
noncomputable def Cs.B (c : Cs) : Int := 2 ^ c.width
theorem Cs.B_big (c : Cs) : 1024 ≤ c.B := by
  have := (c.width_le).1
  exact Int.le_trans (show (1024 : Int) ≤ 2 ^ 10 by decide) (pow2_le this)
theorem c_poly (c : Cs) : ∃ q L, Poly c.K c.B c.every c.word.length q L := by
  have hw := word_len c
  have hm := c.many_le
  have hB := c.B_big
  refine poly (m := c.many) hw (fun f t => cnt_pos _) (fun f => by have := cnt_sum (mv := c.mvN) (f := f) c.signs; rw [signs_len] at this; exact this) (fun f g hf hg h => cnt_zero _ fun s _ e => ?_) (by lia)
  have := mvN_range c s (f := f) (by exact Nat.le_of_lt hf)
  lia
noncomputable def Cs.dots (c : Cs) : Nat := (c.others.filter fun s => decide (s = ⟨#[46]⟩)).length
noncomputable def Cs.Y (c : Cs) (q : Nat → Int) (L : Int) (r : Row) : Int :=
  if r.still = true then (c.B - c.many - c.dots) * Qz q r.found + c.dots * q 0 else if r.found = (c.word.length : Int) then (c.B - c.many) * L else 0
theorem sum_lin {α : Type} (g : α → Int) (x k : Int) : ∀ l : List α, (l.map fun a => x * g a + k).sum = x * (l.map g).sum + l.length * k
  | [] => by simp
  | a :: l => by
    rw [List.map_cons, List.sum_cons, sum_lin g x k l, List.map_cons, List.sum_cons, List.length_cons]
    push_cast
    grind
theorem sum_congr {α : Type} {g h : α → Int} : ∀ {l : List α}, (∀ a ∈ l, g a = h a) → (l.map g).sum = (l.map h).sum
  | [], _ => rfl
  | a :: l, e => by rw [List.map_cons, List.map_cons, List.sum_cons, List.sum_cons, e a (List.mem_cons_self ..), sum_congr fun b m => e b (List.mem_cons_of_mem _ m)]
theorem sum_two {P : Str → Bool} (x y : Int) : ∀ l : List Str, (l.map fun s => if P s = true then x else y).sum = ((l.filter P).length : Int) * x + ((l.length : Int) - ((l.filter P).length : Int)) * y
  | [] => by simp
  | a :: l => by
    rw [List.map_cons, List.sum_cons, sum_two x y l, List.filter_cons, List.length_cons]
    cases P a with
    | true => simp only [if_true, List.length_cons]; push_cast; grind
    | false => simp only [Bool.false_eq_true, if_false]; push_cast; grind
theorem sum_const' (k : Int) : ∀ l : List Str, (l.map fun _ => k).sum = (l.length : Int) * k
  | [] => by simp
  | a :: l => by rw [List.map_cons, List.sum_cons, sum_const' k l, List.length_cons]; push_cast; grind
theorem grow_stop {c : Cs} {r : Row} {s : Str} (h : r.still = false ∨ Txt.contains ":\n" s = true) : growRow c.mvf r s = ⟨r.line ++ s, r.name, r.found, false⟩ := by
  unfold growRow
  rw [if_pos]
  rcases h with h | h <;> simp [h]
theorem grow_dot {c : Cs} {r : Row} (h : r.still = true) : growRow c.mvf r ⟨#[46]⟩ = ⟨r.line ++ ⟨#[46]⟩, "", 0, true⟩ := by
  unfold growRow
  rw [contains_stop, if_neg (by rw [h]; decide), if_pos dot_is.symm]
theorem grow_sign {c : Cs} {r : Row} {s : Str} (hs : s ∈ c.signs) (h : r.still = true) : growRow c.mvf r s = ⟨r.line ++ s, r.name ++ s, c.mvf s r.found, true⟩ := by
  obtain ⟨k, _, rfl⟩ := signs_mem hs
  unfold growRow
  rw [contains_stop, pair_stop, h, if_neg (by decide), if_neg (by rw [dot_is]; exact fun e => (c.pair_ok k).dot (one_inj e))]
theorem Y_stop {c : Cs} {q : Nat → Int} {L : Int} {r : Row} (h : r.still = false) : c.Y q L r = if r.found = (c.word.length : Int) then (c.B - c.many) * L else 0 := by
  unfold Cs.Y; rw [if_neg (by rw [h]; decide)]
theorem Y_live {c : Cs} {q : Nat → Int} {L : Int} {r : Row} (h : r.still = true) : c.Y q L r = (c.B - c.many - c.dots) * Qz q r.found + c.dots * q 0 := by
  unfold Cs.Y; rw [if_pos h]
theorem Y_step {c : Cs} {q : Nat → Int} {L : Int} (P : Poly c.K c.B c.every c.word.length q L) {r : Row} (hr : -1 ≤ r.found ∧ r.found ≤ c.word.length) :
    (c.all.map fun s => c.Y q L (growRow c.mvf r s)).sum = c.B * c.Y q L r - (c.B - c.many) * ((c.B - c.every) * L) * (if r.found = (c.word.length : Int) then 1 else 0) := by
  have hE : (c.every : Int) = c.many + c.nOthers := by unfold Cs.every; push_cast; rfl
  have hall : (c.all.length : Int) = c.many + c.nOthers := by rw [c.all_len]; push_cast; rfl
  have hol : c.others.length = c.nOthers := by unfold Cs.others; simp
  obtain ⟨V, hV⟩ : ∃ V : Int, V = if r.found = (c.word.length : Int) then (c.B - c.many) * L else 0 := ⟨_, rfl⟩
  cases hst : r.still with
  | false =>
    rw [sum_congr (h := fun _ => V) fun s _ => by rw [grow_stop (.inl hst), Y_stop rfl, hV], sum_const', Y_stop hst, ← hV, hall, hE, hV]
    split <;> grind
  | true =>
    have eo : (c.others.map fun s => c.Y q L (growRow c.mvf r s)).sum = c.dots * ((c.B - c.many) * q 0) + (c.nOthers - c.dots) * V := by
      have e1 : (c.others.map fun s => c.Y q L (growRow c.mvf r s)).sum = (c.others.map fun s => if decide (s = (⟨#[46]⟩ : Str)) = true then (c.B - c.many) * q 0 else V).sum := by
        refine sum_congr fun s hs => ?_
        rcases others_mem hs with rfl | rfl | rfl
        · rw [grow_dot hst, Y_live rfl, if_pos (by simp)]
          show (c.B - c.many - c.dots) * q 0 + _ = _
          grind
        · rw [grow_stop (.inr (by rw [contains_stop]; rfl)), Y_stop rfl]
          show (if r.found = (c.word.length : Int) then (c.B - c.many) * L else 0) = _
          rw [← hV]; simp
        · rw [grow_stop (.inr (by rw [contains_stop]; rfl)), Y_stop rfl]
          show (if r.found = (c.word.length : Int) then (c.B - c.many) * L else 0) = _
          rw [← hV]; simp
      rw [e1, sum_two, hol]; rfl
    have es : (c.signs.map fun s => c.Y q L (growRow c.mvf r s)).sum = (c.B - c.many - c.dots) * (c.signs.map fun s => Qz q (c.mvf s r.found)).sum + c.many * (c.dots * q 0) := by
      rw [sum_congr (h := fun s => (c.B - c.many - c.dots) * Qz q (c.mvf s r.found) + c.dots * q 0) fun s hs => by rw [grow_sign hs hst, Y_live rfl], sum_lin, signs_len]
    have ea : (c.all.map fun s => c.Y q L (growRow c.mvf r s)).sum = (c.signs.map fun s => c.Y q L (growRow c.mvf r s)).sum + (c.others.map fun s => c.Y q L (growRow c.mvf r s)).sum := by
      unfold Cs.all; rw [List.map_append, List.sum_append]
    rw [ea, es, eo, Y_live hst, hE, hV]
    have hc : r.found = -1 ∨ (0 ≤ r.found ∧ r.found < c.word.length) ∨ r.found = c.word.length := by lia
    rcases hc with h | h | h
    · have : (c.signs.map fun s => Qz q (c.mvf s r.found)).sum = 0 := by
        rw [sum_congr (h := fun _ => (0 : Int)) fun s _ => by rw [h]; show Qz q (mvAt _ _ _ (-1)) = 0; unfold mvAt; rw [if_pos (by decide)]; rfl, sum_const', Int.mul_zero]
      rw [this]
      have e1 : Qz q r.found = 0 := by rw [h]; rfl
      rw [e1, if_neg (by lia), if_neg (by lia)]
      grind
    · obtain ⟨f, hf⟩ : ∃ f : Nat, r.found = f := ⟨r.found.toNat, by lia⟩
      rw [hf] at h
      have hfn : f < c.word.length := by lia
      have hw := word_len c
      have : (c.signs.map fun s => Qz q (c.mvf s r.found)).sum = c.B * q f := by
        rw [P.step f hfn, hf, sum_congr (h := fun s => Qz q (c.mvN s f)) fun s _ => by rw [mvN_mvf c s hfn]]
        refine part _ fun s _ => ?_
        have := mvN_range c s (f := f) (by exact Nat.le_of_lt hfn)
        lia
      rw [this]
      have e1 : Qz q r.found = q f := by rw [hf]; rfl
      rw [e1, if_neg (by lia), if_neg (by lia)]
      grind
    · have : (c.signs.map fun s => Qz q (c.mvf s r.found)).sum = c.many * L := by
        rw [sum_congr (h := fun _ => L) fun s _ => ?_, sum_const', signs_len]
        rw [h]
        show Qz q (mvAt _ _ _ _) = L
        unfold mvAt
        rw [if_neg (by exact Int.not_lt.mpr (Int.natCast_nonneg _)), Int.toNat_natCast, if_neg (by lia), if_pos rfl]
        exact P.qn
      rw [this]
      have e1 : Qz q r.found = L := by rw [h]; exact P.qn
      rw [e1, if_pos h, if_pos h]
      grind
theorem sum_flat {α β : Type} (f : α → List β) (g : β → Int) : ∀ l : List α, ((l.flatMap f).map g).sum = (l.map fun a => ((f a).map g).sum).sum
  | [] => rfl
  | a :: l => by rw [List.flatMap_cons, List.map_append, List.sum_append, sum_flat f g l, List.map_cons, List.sum_cons]
theorem sum_sub {α : Type} (g h : α → Int) (x k : Int) : ∀ l : List α, (l.map fun a => x * g a - k * h a).sum = x * (l.map g).sum - k * (l.map h).sum
  | [] => by simp
  | a :: l => by
    rw [List.map_cons, List.sum_cons, sum_sub g h x k l, List.map_cons, List.sum_cons, List.map_cons, List.sum_cons]
    grind
theorem sum_ind {α : Type} (P : α → Bool) : ∀ l : List α, (l.map fun a => if P a = true then (1 : Int) else 0).sum = ((l.filter P).length : Int)
  | [] => rfl
  | a :: l => by
    rw [List.map_cons, List.sum_cons, sum_ind P l, List.filter_cons]
    cases P a with
    | true => simp; exact Int.add_comm _ _
    | false => simp
theorem row_ok {c : Cs} {s : Nat} {r : Row} (h : r ∈ c.rows s) : c.ok r.name = decide (r.found = (c.word.length : Int)) := by
  rw [ok_found, (rowI h).found]
theorem count_eq (c : Cs) (s : Nat) : (c.count s : Int) = ((c.rows s).map fun r => if r.found = (c.word.length : Int) then (1 : Int) else 0).sum := by
  unfold Cs.count
  rw [← sum_ind]
  refine sum_congr fun r hr => ?_
  rw [row_ok hr]
  by_cases h : r.found = (c.word.length : Int) <;> simp [h]
noncomputable def Cs.sumY (c : Cs) (q : Nat → Int) (L : Int) (s : Nat) : Int := ((c.rows s).map (c.Y q L)).sum
theorem sumY_succ {c : Cs} {q : Nat → Int} {L : Int} (P : Poly c.K c.B c.every c.word.length q L) (s : Nat) : c.sumY q L (s + 1) = c.B * c.sumY q L s - (c.B - c.many) * ((c.B - c.every) * L) * c.count s := by
  unfold Cs.sumY
  have e : c.rows (s + 1) = (c.rows s).flatMap fun r => c.all.map (growRow c.mvf r) := rfl
  rw [e, sum_flat, count_eq, ← sum_sub]
  refine sum_congr fun r hr => ?_
  rw [List.map_map]
  exact Y_step P (rowI hr).range
theorem sumY_zero {c : Cs} {q : Nat → Int} {L : Int} : c.sumY q L 0 = (c.B - c.many) * q 0 := by
  show (c.Y q L row0 + 0 : Int) = _
  rw [Y_live rfl]
  show (c.B - c.many - c.dots) * q 0 + _ + 0 = _
  grind
theorem sumY_eq {c : Cs} {q : Nat → Int} {L : Int} (P : Poly c.K c.B c.every c.word.length q L) : ∀ s, c.sumY q L s = (c.B - c.many) * (q 0 * c.B ^ s - (c.B - c.every) * L * dv c.width (c.counts s))
  | 0 => by
    rw [sumY_zero]
    show _ = (c.B - c.many) * (q 0 * c.B ^ 0 - _ * 0)
    rw [Int.pow_zero]; grind
  | s + 1 => by
    rw [sumY_succ P, sumY_eq P s, Int.pow_succ]
    show _ = (c.B - c.many) * (q 0 * (c.B ^ s * c.B) - (c.B - c.every) * L * ((c.count s : Int) + 2 ^ c.width * dv c.width (c.counts s)))
    have e : (2 : Int) ^ c.width = c.B := rfl
    rw [e]
    grind
theorem dots_le (c : Cs) : c.dots ≤ c.nOthers := by
  unfold Cs.dots
  refine Nat.le_trans (List.length_filter_le _ _) ?_
  unfold Cs.others; simp
theorem Qz_lo {K : Nat → Int → Int} {B E : Int} {n : Nat} {q : Nat → Int} {L : Int} (P : Poly K B E n q L) (v : Int) : 0 ≤ Qz q v ∧ Qz q v ≤ L := by
  unfold Qz
  split
  · have := P.lpos; exact ⟨by decide, Int.le_of_lt this⟩
  · exact ⟨P.lo _, P.hi _⟩
theorem Y_bound {c : Cs} {q : Nat → Int} {L : Int} (P : Poly c.K c.B c.every c.word.length q L) (r : Row) : 0 ≤ c.Y q L r ∧ c.Y q L r ≤ (c.B - c.many) * L := by
  have hB := c.B_big
  have hm := c.many_le
  have ho := c.nOthers_le
  have hd := dots_le c
  have hL := P.lpos
  have hp : 0 ≤ (c.B - c.many) * L := Int.mul_nonneg (by lia) (by exact Int.le_of_lt hL)
  cases h : r.still with
  | false =>
    rw [Y_stop h]
    split <;> lia
  | true =>
    rw [Y_live h]
    have z := Qz_lo P r.found
    have a1 := Int.mul_nonneg (show 0 ≤ c.B - c.many - c.dots by lia) z.1
    have a2 := Int.mul_nonneg (Int.natCast_nonneg c.dots) (P.lo 0)
    have b1 := Int.mul_le_mul_of_nonneg_left z.2 (show 0 ≤ c.B - c.many - c.dots by lia)
    have b2 := Int.mul_le_mul_of_nonneg_left (P.hi 0) (Int.natCast_nonneg c.dots)
    have e : (c.B - c.many) * L = (c.B - c.many - c.dots) * L + c.dots * L := by grind
    rw [e]
    omega
theorem sum_bound {g : Row → Int} {M : Int} (h : ∀ r, 0 ≤ g r ∧ g r ≤ M) : ∀ l : List Row, 0 ≤ (l.map g).sum ∧ (l.map g).sum ≤ l.length * M
  | [] => by simp
  | r :: l => by
    rw [List.map_cons, List.sum_cons, List.length_cons]
    have a := h r
    have b := sum_bound h l
    have e : ((l.length + 1 : Nat) : Int) * M = M + l.length * M := by push_cast; grind
    rw [e]
    lia
theorem every_in (c : Cs) : 1 ≤ c.every ∧ c.every ≤ 4 := by
  have h1 := c.many_le
  have : c.nOthers < 5 - c.many := Nat.mod_lt _ (by omega)
  unfold Cs.every; lia
theorem every_pow (c : Cs) : c.every ^ (c.longest + 1) ≤ 256 := by
  have h := every_in c
  unfold Cs.longest
  have e : c.every = c.many + c.nOthers := rfl
  rw [← e]
  obtain ⟨h1, h2⟩ := h
  match c.every, h1, h2 with
  | 1, _, _ => decide
  | 2, _, _ => decide
  | 3, _, _ => decide
  | 4, _, _ => decide
theorem c_upper {c : Cs} {q : Nat → Int} {L : Int} (P : Poly c.K c.B c.every c.word.length q L) : c.upper = q 0 * c.B ^ (c.longest + 1) := by
  unfold Cs.upper Cs.upper0 Cs.fs Cs.B
  have := P.q0
  unfold Cs.B at this
  rw [← this, ← Int.pow_mul]
theorem c_lower {c : Cs} {q : Nat → Int} {L : Int} (P : Poly c.K c.B c.every c.word.length q L) : c.lower = (c.B - c.every) * L := P.low
theorem c_quo {c : Cs} {q : Nat → Int} {L : Int} (P : Poly c.K c.B c.every c.word.length q L) : c.upper / c.lower = dv c.width c.final := by
  have hB := c.B_big
  have hm := c.many_le
  have he := every_in c
  have hep := every_pow c
  have hL := P.lpos
  obtain ⟨R, hR⟩ : ∃ R, R = q 0 * c.B ^ (c.longest + 1) - (c.B - c.every) * L * dv c.width c.final := ⟨_, rfl⟩
  have hY : c.sumY q L (c.longest + 1) = (c.B - c.many) * R := by rw [hR]; exact sumY_eq P _
  have hb := sum_bound (fun r => Y_bound P r) (c.rows (c.longest + 1))
  have hb : 0 ≤ c.sumY q L (c.longest + 1) ∧ c.sumY q L (c.longest + 1) ≤ _ := hb
  rw [hY] at hb
  have hlen : (c.rows (c.longest + 1)).length ≤ 256 := by
    unfold Cs.rows
    rw [rowsAt_len, c.all_len]; exact hep
  have hpos : 0 < c.B - c.many := by lia
  have R0 : 0 ≤ R := by
    rcases Int.lt_or_le R 0 with h | h
    · have := Int.mul_neg_of_pos_of_neg hpos h; lia
    · exact h
  have R1 : R ≤ 256 * L := by
    have h1 : ((c.rows (c.longest + 1)).length : Int) * ((c.B - c.many) * L) ≤ 256 * ((c.B - c.many) * L) := Int.mul_le_mul_of_nonneg_right (by exact Int.ofNat_le.mpr hlen) (Int.mul_nonneg (by exact Int.le_of_lt hpos) (by exact Int.le_of_lt hL))
    have h2 : (c.B - c.many) * R ≤ (c.B - c.many) * (256 * L) := by
      have : (256 : Int) * ((c.B - c.many) * L) = (c.B - c.many) * (256 * L) := by grind
      exact Int.le_trans hb.2 (Int.le_trans h1 (Int.le_of_eq this))
    exact Int.le_of_mul_le_mul_left h2 hpos
  have R2 : R < (c.B - c.every) * L := by
    have : 257 * L ≤ (c.B - c.every) * L := Int.mul_le_mul_of_nonneg_right (by lia) (by exact Int.le_of_lt hL)
    lia
  rw [c_upper P, c_lower P]
  have hne : (c.B - c.every) * L ≠ 0 := by exact Int.ne_of_gt (Int.lt_of_le_of_lt R0 R2)
  have e : q 0 * c.B ^ (c.longest + 1) = R + (c.B - c.every) * L * dv c.width c.final := by rw [hR]; exact by simp
  rw [e, Int.add_mul_ediv_left _ _ hne, Int.ediv_eq_zero_of_lt R0 R2, Int.zero_add]
noncomputable def Bd (k : Nat) (x : Int) : Prop := x.natAbs ≤ 2 ^ k
theorem Bd.mono {k l : Nat} {x : Int} (h : Bd k x) (hl : k ≤ l) : Bd l x := Nat.le_trans h (Nat.pow_le_pow_right (by decide) hl)
theorem Bd.mul {k l : Nat} {x y : Int} (h : Bd k x) (h2 : Bd l y) : Bd (k + l) (x * y) := by
  unfold Bd at *
  rw [Int.natAbs_mul, Nat.pow_add]
  exact Nat.mul_le_mul h h2
theorem Bd.add {k : Nat} {x y : Int} (h : Bd k x) (h2 : Bd k y) : Bd (k + 1) (x + y) := by
  unfold Bd at *
  have := Int.natAbs_add_le x y
  rw [Nat.pow_succ]; lia
theorem Bd.sm {k : Nat} {x : Int} (h : Bd k x) (hk : k ≤ 100000) : Sm x := by
  unfold Sm
  refine Nat.le_trans ?_ (show 100001 ≤ 2 ^ 20 by decide)
  refine Nat.le_trans ?_ (show k + 1 ≤ 100001 by exact Nat.lt_of_le_of_lt hk (by decide))
  rw [intBits_le_iff]
  unfold Bd at h
  have : 2 ^ k < 2 ^ (k + 1) := Nat.pow_lt_pow_right (by decide) (by lia)
  exact Nat.lt_of_le_of_lt h this
theorem bd_zero (k : Nat) : Bd k 0 := Nat.zero_le _
theorem bd_one (k : Nat) : Bd k 1 := Nat.one_le_two_pow
theorem bd_of {k : Nat} {x : Int} (h : 0 ≤ x) (h2 : x ≤ 2 ^ k) : Bd k x := by
  unfold Bd
  have : (x.natAbs : Int) ≤ ((2 ^ k : Nat) : Int) := by rw [Int.natAbs_of_nonneg h]; push_cast; exact h2
  exact_mod_cast this
theorem getD_all {P : Int → Prop} (h0 : P 0) : ∀ {l : List Int}, (∀ a ∈ l, P a) → ∀ m, P (l.getD m 0) := fun {l} h m => by
  rcases Nat.lt_or_ge m l.length with q | q
  · have : l.getD m 0 = l[m] := by simp [List.getD, q]
    rw [this]; exact h _ (List.getElem_mem q)
  · have : l.getD m 0 = 0 := by simp [List.getD, q]
    rw [this]; exact h0
theorem row_bd {parts stays : List Int} {steps : Nat → Int} {p : Nat} (hp : ∀ a ∈ parts, Bd p a) (hs : ∀ a ∈ stays, Bd 60 a) (hk : ∀ a, Bd 2 (steps a)) : ∀ m, Bd (60 * m) (fracRow parts stays steps m).2 ∧ Bd (p + 63 * m) (fracRow parts stays steps m).1
  | 0 => ⟨bd_one _, bd_zero _⟩
  | m + 1 => by
    obtain ⟨h2, h1⟩ := row_bd hp hs hk m
    constructor
    · show Bd _ (if m + 1 ≤ stays.length then (fracRow parts stays steps m).2 * stays.getD m 0 else (fracRow parts stays steps m).2)
      split
      · exact (h2.mul (getD_all (P := Bd 60) (bd_zero _) hs m)).mono (by lia)
      · exact h2.mono (by lia)
    · show Bd _ ((fracRow parts stays steps m).1 + steps (m + 1) * parts.getD m 0 * (fracRow parts stays steps m).2)
      have a := ((hk (m + 1)).mul (getD_all (P := Bd p) (bd_zero _) hp m)).mul h2
      exact ((h1.mono (show p + 63 * m ≤ p + 63 * m + 2 by exact Nat.le_add_right _ _)).add (a.mono (by lia))).mono (by lia)
theorem state_bd {K : Nat → Int → Int} {B : Int} {n : Nat} (hK : ∀ f t, Bd 2 (K f t)) (hB : Bd 59 B) : ∀ j, j ≤ 3 → (∀ a ∈ (fracState K B n j).1, Bd (300 * j) a) ∧ (∀ a ∈ (fracState K B n j).2, Bd 60 a)
  | 0, _ => ⟨fun a m => by
      have : a ∈ [(1 : Int)] := m
      rw [List.mem_singleton.mp this]; exact bd_one _, fun a m => by cases m⟩
  | j + 1, hj => by
    obtain ⟨h1, h2⟩ := state_bd (n := n) hK hB j (by exact Nat.le_of_lt hj)
    constructor
    · intro a m
      rcases List.mem_cons.mp m with rfl | m
      · exact ((row_bd h1 h2 (fun a => hK _ _) (j + 1)).2).mono (by lia)
      · exact (h1 a m).mono (by lia)
    · intro a m
      rcases List.mem_cons.mp m with rfl | m
      · have : Bd 59 (-(K (n - 1 - j) ((n - 1 - j : Nat) : Int))) := by
          have := hK (n - 1 - j) ((n - 1 - j : Nat) : Int)
          unfold Bd at this ⊢
          rw [Int.natAbs_neg]
          exact Nat.le_trans this (Nat.pow_le_pow_right (by decide) (by decide))
        have e : B - K (n - 1 - j) ((n - 1 - j : Nat) : Int) = B + -(K (n - 1 - j) ((n - 1 - j : Nat) : Int)) := by exact rfl
        rw [e]
        exact hB.add this
      · exact h2 a m
theorem prod_bd : ∀ (l : List Int) (x : Int) (k : Nat), (∀ a ∈ l, Bd 60 a) → Bd k x → Bd (k + 60 * l.length) (l.foldl (· * ·) x)
  | [], x, k, _, h => h
  | a :: l, x, k, hl, h => by
    rw [List.foldl_cons, List.length_cons]
    exact (prod_bd l (x * a) (k + 60) (fun b m => hl b (List.mem_cons_of_mem _ m)) (h.mul (hl a (List.mem_cons_self ..)))).mono (by lia)
theorem K_bd (c : Cs) (f : Nat) (t : Int) : Bd 2 (c.K f t) := by
  refine bd_of (cnt_pos _) ?_
  have : (c.signs.filter fun s => decide (c.mvN s f = t)).length ≤ c.signs.length := List.length_filter_le _ _
  rw [signs_len] at this
  have := c.many_le
  show ((c.signs.filter fun s => decide (c.mvN s f = t)).length : Int) ≤ 4
  lia
theorem B_bd (c : Cs) : Bd 59 c.B := by
  refine bd_of ?_ (pow2_le (c.width_le).2)
  have := c.B_big; exact Int.le_trans (by decide) this
theorem fracC (c : Cs) : FC "_law_fraction" 1 [.list (c.signs.map D.str), .dict c.movesL, .int c.word.length, .int (2 ^ c.width), .int c.every] (.tup [.int c.upper0, .int c.lower]) := by
  have hn := word_len c
  have hm := c.many_le
  have he := every_in c
  have st : ∀ j, j ≤ 3 → _ := fun j hj => state_bd (n := c.word.length) (K_bd c) (B_bd c) j hj
  have hbe : Bd 60 (c.B - c.every) := bd_of (by have := c.B_big; lia) (by
    have h1 : c.B ≤ 2 ^ 59 := pow2_le (c.width_le).2
    exact Int.le_trans (by lia) (Int.le_trans h1 (pow2_le (by decide))))
  refine fc_frac (k := 0) (mv := c.mvN) (base := 2 ^ c.width) (by exact Nat.le_trans hn (by decide)) (by rw [signs_len]; exact Nat.le_trans hm.2 (by decide)) (fun s hs => ?_) (fun j m hj hmj => ?_) (fun j m hj => ?_) (fun f t => (K_bd c f t).sm (by decide)) (fun j m f t hj => ?_) (fun m => ?_) (fun m => ?_)
  · obtain ⟨k, hk, rfl⟩ := signs_mem hs
    refine ⟨_, moves_at hk, fun f hf => ?_⟩
    unfold movesOf
    rw [List.getElem?_append_left (by simp; exact hf), List.getElem?_map, List.getElem?_range hf]; rfl
  · have := st j (by exact Nat.le_of_lt (Nat.lt_of_lt_of_le hj hn))
    exact ((row_bd this.1 this.2 (fun a => K_bd c _ _) m).1).sm (by lia)
  · have := st j (by exact Nat.le_of_lt (Nat.lt_of_lt_of_le hj hn))
    exact ⟨(getD_all (P := Bd (300 * j)) (bd_zero _) this.1 m).sm (by lia), (getD_all (P := Bd 60) (bd_zero _) this.2 m).sm (by exact by decide)⟩
  · have := st j (by exact Nat.le_of_lt (Nat.lt_of_lt_of_le hj hn))
    exact ((K_bd c f t).mul (getD_all (P := Bd (300 * j)) (bd_zero _) this.1 m)).sm (by lia)
  · have := st c.word.length hn
    refine (prod_bd _ _ 60 (fun a ma => this.2 a (List.mem_of_mem_take ma)) hbe).sm ?_
    have l := (fracState_len c.K c.B c.word.length c.word.length).2
    have : (List.take m (fracState c.K c.B c.word.length c.word.length).2).length ≤ 3 := by rw [List.length_take, l]; lia
    show 60 + 60 * (List.take m (fracState c.K c.B c.word.length c.word.length).2).length ≤ _
    lia
  · have := st c.word.length hn
    exact (getD_all (P := Bd 60) (bd_zero _) this.2 m).sm (by exact by decide)
theorem dgs_dv {n : Nat} : ∀ (l : List Int), (∀ d ∈ l, 0 ≤ d ∧ d < 2 ^ n) → dgs n (dv n l) l.length = l
  | [], _ => rfl
  | d :: l, h => by
    have hd := h d (List.mem_cons_self ..)
    have hp : (0 : Int) < 2 ^ n := Int.pow_pos (by decide)
    show (d + 2 ^ n * dv n l) % 2 ^ n :: dgs n ((d + 2 ^ n * dv n l) / 2 ^ n) l.length = _
    rw [Int.add_mul_emod_self_left, Int.emod_eq_of_lt hd.1 hd.2, Int.add_mul_ediv_left _ _ (Int.ne_of_gt hp), Int.ediv_eq_zero_of_lt hd.1 hd.2, Int.zero_add, dgs_dv l fun b m => h b (List.mem_cons_of_mem _ m)]
theorem dv_zeros {n : Nat} : ∀ (l : List Int), (∀ d ∈ l, d = 0) → dv n l = 0
  | [], _ => rfl
  | d :: l, h => by
    show d + 2 ^ n * dv n l = 0
    rw [h d (List.mem_cons_self ..), dv_zeros l fun b m => h b (List.mem_cons_of_mem _ m)]; simp
theorem bits_ge {x : Int} {m : Nat} (h : 2 ^ m ≤ x) : m + 1 ≤ Builtin.Int.intBits x := by
  rcases Nat.lt_or_ge (Builtin.Int.intBits x) (m + 1) with q | q
  · have h0 : 0 ≤ x := Int.le_trans (Int.le_of_lt (Int.pow_pos (by decide))) h
    have := lt_bits h0
    have : (2 : Int) ^ Builtin.Int.intBits x ≤ 2 ^ m := pow2_le (by exact Nat.le_of_lt_succ q)
    lia
  · exact q
theorem kept_zero (l : List Int) : ∀ d ∈ l.drop (keptOf l), d = 0 := by
  intro d m
  obtain ⟨i, hi⟩ := List.getElem?_of_mem m
  rw [List.getElem?_drop] at hi
  rcases Classical.em (d = 0) with q | q
  · exact q
  · have hlt : keptOf l + i < l.length := by
      rcases Nat.lt_or_ge (keptOf l + i) l.length with z | z
      · exact z
      · rw [List.getElem?_eq_none z] at hi; cases hi
    have : (((keptOf l + i : Nat) : Int) + 1) ∈ 0 :: placesOf l := by
      refine List.mem_cons_of_mem _ ?_
      unfold placesOf
      rw [List.mem_filterMap]
      refine ⟨(keptOf l + i, d), List.mem_mapIdx.mpr ⟨keptOf l + i, hlt, ?_⟩, ?_⟩
      · rw [List.getElem?_eq_getElem hlt] at hi
        cases hi; rfl
      · rw [if_neg q]
    have := kept_le l _ this
    lia
theorem kept_top (l : List Int) (h : 0 < keptOf l) : ∃ d, l[keptOf l - 1]? = some d ∧ d ≠ 0 := by
  rcases List.mem_cons.mp (kept_mem l) with e | m
  · lia
  · unfold placesOf at m
    obtain ⟨p, mp, e⟩ := List.mem_filterMap.mp m
    obtain ⟨i, hi, rfl⟩ := List.mem_mapIdx.mp mp
    by_cases q : l[i] = 0
    · simp [q] at e
    · simp only [if_neg q] at e
      have e : (i : Int) + 1 = (keptOf l : Int) := by simpa using e
      have : keptOf l - 1 = i := by lia
      rw [this]
      exact ⟨l[i], List.getElem?_eq_getElem hi, q⟩
theorem digits {n : Nat} {l : List Int} (hn : 1 ≤ n) (h : ∀ d ∈ l, 0 ≤ d ∧ d < 2 ^ n) : nDig n (dv n l) = keptOf l ∧ dgs n (dv n l) (nDig n (dv n l)) = l.take (keptOf l) := by
  have hk := kept_len l
  obtain ⟨t, ht⟩ : ∃ t, t = l.take (keptOf l) := ⟨_, rfl⟩
  have htl : t.length = keptOf l := by rw [ht, List.length_take]; lia
  have htm : ∀ d ∈ t, 0 ≤ d ∧ d < 2 ^ n := fun d m => h d (by rw [ht] at m; exact List.mem_of_mem_take m)
  have e : dv n l = dv n t := by
    conv => lhs; rw [← List.take_append_drop (keptOf l) l]
    rw [dv_append, dv_zeros _ (kept_zero l), Int.mul_zero, Int.add_zero, ht]
  have hnd : nDig n (dv n t) = keptOf l := by
    rcases Nat.eq_zero_or_pos (keptOf l) with z | z
    · have : t = [] := List.eq_nil_of_length_eq_zero (by lia)
      rw [this, z]
      show (Builtin.Int.intBits 0 + n - 1) / n = 0
      have : Builtin.Int.intBits 0 = 0 := by decide
      rw [this]
      exact Nat.div_eq_of_lt (by omega)
    · obtain ⟨d, hd, ne⟩ := kept_top l z
      have hb := dv_bound n t htm
      rw [htl] at hb
      obtain ⟨u, hu⟩ : ∃ u, u = l.take (keptOf l - 1) := ⟨_, rfl⟩
      have ets : t = u ++ [d] := by
        rw [ht, hu]
        have : keptOf l = (keptOf l - 1) + 1 := by lia
        conv => lhs; rw [this]
        rw [List.take_add_one, hd]; rfl
      have hul : u.length = keptOf l - 1 := by rw [hu, List.length_take]; lia
      have hdm := htm d (by rw [ets]; simp)
      have hub := dv_bound n u (fun x m => htm x (by rw [ets]; simp [m]))
      have lo : (2 : Int) ^ (n * (keptOf l - 1)) ≤ dv n t := by
        rw [ets, dv_append, hul]
        have e1 : dv n [d] = d := by show d + 2 ^ n * 0 = d; simp
        rw [e1]
        have hp : (0 : Int) < 2 ^ (n * (keptOf l - 1)) := Int.pow_pos (by decide)
        have : (2 : Int) ^ (n * (keptOf l - 1)) * 1 ≤ 2 ^ (n * (keptOf l - 1)) * d := Int.mul_le_mul_of_nonneg_left (by lia) (by exact Int.le_of_lt hp)
        lia
      have b1 := bits_ge lo
      have b2 := bits_lt hb.1 hb.2
      unfold nDig
      have q1 : n * (keptOf l - 1) + n = n * keptOf l := by
        have : keptOf l = (keptOf l - 1) + 1 := by lia
        conv => rhs; rw [this]
        rw [Nat.mul_succ]
      have r1 : n * keptOf l ≤ Builtin.Int.intBits (dv n t) + n - 1 := by omega
      have r2 : Builtin.Int.intBits (dv n t) + n - 1 < n * (keptOf l + 1) := by rw [Nat.mul_succ]; lia
      exact Nat.le_antisymm (Nat.lt_succ_iff.mp (Nat.div_lt_of_lt_mul r2)) ((Nat.le_div_iff_mul_le (by lia)).mpr (by rw [Nat.mul_comm]; exact r1))
  rw [e, hnd]
  refine ⟨rfl, ?_⟩
  have := dgs_dv t htm
  rw [htl] at this
  rw [this, ht]
theorem count_le (c : Cs) {s : Nat} (h : s ≤ c.longest) : c.count s ≤ 64 := Nat.le_trans (List.length_filter_le _ _) (c.rows_len h)
theorem counts_in (c : Cs) : ∀ s, s ≤ c.longest + 1 → ∀ d ∈ c.counts s, 0 ≤ d ∧ d < 2 ^ c.width
  | 0, _, d, m => by cases m
  | s + 1, h, d, m => by
    rcases List.mem_cons.mp m with rfl | m
    · have := count_le c (s := s) (by lia)
      have hB := c.B_big
      unfold Cs.B at hB
      lia
    · exact counts_in c s (by exact Nat.le_of_lt h) d m
theorem numF (c : Cs) : NumF c := by
  obtain ⟨q, L, P⟩ := c_poly c
  have hB := c.B_big
  have he := every_in c
  have hL := P.lpos
  have hw := c.width_le
  have hl := c.longest_le
  have hn := word_len c
  have hlow := c_lower P
  have hup := c_upper P
  have hq := c_quo P
  have hcb : ∀ d ∈ c.final, 0 ≤ d ∧ d < 2 ^ c.width := counts_in c (c.longest + 1) (Nat.le_refl _)
  have hdig := digits (n := c.width) (by exact Nat.le_trans (by decide) hw.1) hcb
  have hV := dv_bound c.width c.final hcb
  rw [c.final_len] at hV
  have hB59 : c.B ≤ 2 ^ 59 := pow2_le hw.2
  have lpos : 0 < c.lower := by rw [hlow]; exact Int.mul_pos (by lia) hL
  have Lb : L ≤ 2 ^ 177 := by
    have h1 : L ≤ c.B ^ 3 := by
      refine Int.le_trans P.big ?_
      have : ∀ n, n ≤ 3 → c.B ^ n ≤ c.B ^ 3 := fun n h => by
        unfold Cs.B
        rw [← Int.pow_mul, ← Int.pow_mul]
        exact pow2_le (Nat.mul_le_mul_left _ h)
      exact this _ hn
    refine Int.le_trans h1 ?_
    unfold Cs.B
    rw [← Int.pow_mul]
    exact pow2_le (by lia)
  have q0b : q 0 ≤ 2 ^ 177 := Int.le_trans (P.hi 0) Lb
  have e0 : c.upper0 = q 0 := P.q0.symm
  have B6 : c.B ^ (c.longest + 1) ≤ 2 ^ 354 := by
    unfold Cs.B
    rw [← Int.pow_mul]
    exact pow2_le (Nat.le_trans (Nat.mul_le_mul hw.2 (show c.longest + 1 ≤ 6 by exact Nat.lt_of_le_of_lt hl (by decide))) (by decide))
  have B6n : 0 ≤ c.B ^ (c.longest + 1) := Int.le_of_lt (Int.pow_pos (by lia))
  have lowb : c.lower ≤ 2 ^ 236 := by
    rw [hlow, show (2 : Int) ^ 236 = 2 ^ 59 * 2 ^ 177 by rw [← Int.pow_add]]
    exact mulp (by lia) Lb (Int.le_of_lt (Int.pow_pos (by decide))) (by exact Int.le_of_lt hL)
  have upos : 0 ≤ c.upper := by rw [hup]; exact Int.mul_nonneg (P.lo 0) B6n
  refine ⟨fracC c, lpos, upos, ⟨?_, ?_⟩, ?_, ?_, fun a h1 h2 => ?_, ?_, hq, ?_, hcb⟩
  · rw [e0]; have := P.lo 0; have : (0 : Int) < 2 ^ 3000 := Int.pow_pos (by decide); lia
  · rw [e0]; exact Int.lt_of_le_of_lt q0b (Int.lt_of_lt_of_le (show (2 : Int) ^ 177 < 2 ^ 178 by decide) (pow2_le (by decide)))
  · have : c.upper ≤ 2 ^ 531 := by
      rw [hup, show (2 : Int) ^ 531 = 2 ^ 177 * 2 ^ 354 by rw [← Int.pow_add]]
      exact mulp q0b B6 (Int.le_of_lt (Int.pow_pos (by decide))) B6n
    refine Int.lt_of_le_of_lt this (Int.lt_of_lt_of_le ?_ (pow2_le (show 532 ≤ 3000 by decide)))
    rw [show (2 : Int) ^ 532 = 2 ^ 531 * 2 by rw [← Int.pow_succ]]
    have : (0 : Int) < 2 ^ 531 := Int.pow_pos (by decide)
    exact by decide
  · exact Int.lt_of_le_of_lt lowb (Int.lt_of_lt_of_le (show (2 : Int) ^ 236 < 2 ^ 237 by decide) (pow2_le (by decide)))
  · obtain ⟨w, hwd⟩ : ∃ w, w = Builtin.Int.intBits c.lower := ⟨_, rfl⟩
    rw [← hwd]
    have hlt : c.lower < 2 ^ w := by rw [hwd]; exact lt_bits (by exact Int.le_of_lt lpos)
    have hbig : (2 : Int) ^ (c.width - 1) ≤ c.lower := by
      have e1 : c.B = 2 ^ (c.width - 1) * 2 := by unfold Cs.B; rw [← Int.pow_succ]; congr 1; lia
      have h1 : c.B - c.every ≤ c.lower := by
        rw [hlow]
        have : (c.B - c.every) * 1 ≤ (c.B - c.every) * L := Int.mul_le_mul_of_nonneg_left (by lia) (by lia)
        lia
      lia
    have hww : c.width ≤ w := by rw [hwd]; have := bits_ge hbig; lia
    have hVl : dv c.width c.final < 2 ^ (w * 6) := Int.lt_of_lt_of_le hV.2 (pow2_le (Nat.mul_le_mul hww (by exact Nat.lt_of_le_of_lt hl (by decide))))
    have hU : a < 2 ^ (w * 7) := by
      have h3 := Int.lt_ediv_add_one_mul_self c.upper lpos
      rw [hq] at h3
      have h4 : (dv c.width c.final + 1) * c.lower ≤ 2 ^ (w * 6) * 2 ^ w := mulp (by exact Int.add_one_le_of_lt hVl) (by exact Int.le_of_lt hlt) (Int.le_of_lt (Int.pow_pos (by decide))) (by exact Int.le_of_lt lpos)
      rw [← Int.pow_add, show w * 6 + w = w * 7 by exact Nat.add_right_comm _ _ _] at h4
      exact Int.lt_of_le_of_lt h2 (Int.lt_of_lt_of_le h3 h4)
    have hb := bits_lt h1 hU
    unfold nDig
    have : (Builtin.Int.intBits a + w - 1) / w < 9 := Nat.div_lt_of_lt_mul (by lia)
    exact Nat.le_of_lt (Nat.lt_of_lt_of_le this (by decide))
  · rw [hq, hdig.1]
    have := kept_len c.final
    rw [c.final_len] at this
    lia
  · rw [hq]; exact hdig.2
theorem lawF (c : Cs) : LawF c := ⟨fun k _ => signC c k, signF c, rowF c, numF c⟩
theorem fct_law' {script : List Int} (hl : script.length ≤ 1000) : FCT "law" 31 [.list (script.map D.int)] (.bool true) := fct_law hl (lawF _)
noncomputable def mgOf (u : List (Str × Value)) (m : Str → Option Value) : Str → Option Value := fun x => match u.lookup x with | some v => some v | none => m x
theorem mgOf_cons (x : Str) (v : Value) (u : List (Str × Value)) (m : Str → Option Value) : (fun y => if y = x then some v else mgOf u m y) = mgOf ((x, v) :: u) m := by
  funext y
  unfold mgOf
  rw [List.lookup_cons]
  by_cases h : y = x
  · subst h; simp
  · have : (y == x) = false := by simpa using h
    rw [this, if_neg h]
noncomputable def FnAt (h : Heap) (Pl : Addr) (d : DefRec) (a P : Addr) : Prop :=
  ∃ o pm code doc, h.get? a = some o ∧ o.data = .func (d.data pm (.ref code) doc) ∧ h.CodeRec (.ref code) d.name ∧ h.IsCode code P #[] ∧ h.TableAt code P #[] ∧ Pl < a ∧ Pl < code ∧ Pl < P
theorem FnAt.keep {h h' : Heap} {Pl : Addr} {d : DefRec} {a P : Addr} (x : FnAt h Pl d a P) (hl : mainGlobals < Pl) (k : ∀ b o, b ≠ Pl → b ≠ mainGlobals → h.get? b = some o → h'.get? b = some o) : FnAt h' Pl d a P := by
  obtain ⟨o, pm, code, doc, h1, h2, h3, ⟨o2, vs, file, tf, flags, tg, inF, text, tt, op, i1, r1, r2, r3, r4, r5, r6, i2, r⟩, ⟨⟨o3, vs3, t1, t2⟩, t3⟩, la, lc, lp⟩ := x
  have big : ∀ b, Pl < b → b ≠ Pl ∧ b ≠ mainGlobals := fun b q => ⟨Nat.ne_of_gt q, Nat.ne_of_gt (Nat.lt_trans hl q)⟩
  have ka := fun o => k a o (big a la).1 (big a la).2
  have kc := fun o => k code o (big code lc).1 (big code lc).2
  have kp := fun o => k P o (big P lp).1 (big P lp).2
  exact ⟨o, pm, code, doc, ka _ h1, h2, h3.at kc, ⟨o2, vs, file, tf, flags, tg, inF, text, tt, op, kc _ i1, r1, r2, r3, r4, r5, r6, kp _ i2, r⟩, ⟨⟨o3, vs3, kc _ t1, t2⟩, kp _ t3⟩, la, lc, lp⟩
structure TopI (h0 : Heap) (mg0 : Str → Option Value) (c Pl : Addr) (h : Heap) (u : List (Str × Value)) (l : List (Pos × Addr)) (done : List (DefRec × Addr × Addr)) : Prop where
  main : h.Main (mgOf u mg0) c Pl (triples l).toArray
  keep : ∀ b o, b ≠ Pl → b ≠ mainGlobals → h0.get? b = some o → h.get? b = some o
  fn : ∀ e ∈ done, FnAt h Pl e.1 e.2.1 e.2.2
  nd : (done.map (·.2.2)).Nodup
section
variable {M : Model} {A : Around} {E : Value → Shared → Prop} {prog : Program} {h0 : Heap} {mg0 : Str → Option Value} {c Pl F : Addr}
theorem top_def {s : Shared} {d : DefRec} {u : List (Str × Value)} {l : List (Pos × Addr)} {done : List (DefRec × Addr × Addr)} {Q : Flow → Shared → Prop} (hd : d.Plain prog) (hdoc : docOf d.body = none) (hmod : prog.main.scope.kind = .module)
    (I : TopI h0 mg0 c Pl s.heap u l done) (hnf : ∀ q ∈ l, ¬ (q.1.line = d.pos.line ∧ q.1.col = d.pos.col))
    (h : ∀ a P c' h' tk, TopI h0 mg0 c Pl h' ((d.name, .ref a) :: u) (l ++ [(d.pos, c')]) ((d, a, P) :: done) → (∀ b o, b ≠ Pl → b ≠ mainGlobals → s.heap.get? b = some o → h'.get? b = some o) → Q .next { s with heap := h', toks := tk }) :
    wpAny M A (exec d.stmt (mainEnv prog c F)) Q E s := by
  refine wpAny_plainDefN hd.tree hd.free hdoc hd.loc hd.qual I.main (fun a c' h' tk ha hm hf hc hP keep => ?_) hd.nb hmod (by rw [List.toList_toArray]; exact codeAmong_triples _ _ hnf)
  obtain ⟨P, hP1, hP2, hP3⟩ := hP
  have hPl := I.main.code.lt.2
  refine h a P c' h' tk ⟨?_, fun b o x y e => keep b o x y (I.keep b o x y e), fun e me => ?_, ?_⟩ keep
  · rw [triples_append, ← mgOf_cons]
    simpa using hm
  · rcases List.mem_cons.mp me with rfl | me
    · exact ⟨_, _, c', _, hf, rfl, hc.2, hP2, hP3, Nat.lt_of_lt_of_le hPl ha, Nat.lt_of_lt_of_le hPl hc.1, Nat.lt_of_lt_of_le hPl hP1⟩
    · exact (I.fn e me).keep I.main.low.2 keep
  · rw [List.map_cons, List.nodup_cons]
    refine ⟨fun m => ?_, I.nd⟩
    obtain ⟨e, me, q⟩ := List.mem_map.mp m
    obtain ⟨_, _, _, _, _, _, _, ⟨_, _, _, _, _, _, _, _, _, _, _, _, _, _, _, _, _, i2, _⟩, _⟩ := I.fn e me
    have := Heap.lt_size i2
    have q : e.2.2 = P := q
    rw [q] at this
    exact absurd hP1 (Nat.not_le.mpr this)
structure Ran (ds : List DefRec) (u u' : List (Str × Value)) (l l' : List (Pos × Addr)) (done done' : List (DefRec × Addr × Addr)) : Prop where
  got : ∀ d ∈ ds, ∃ a P, u'.lookup d.name = some (.ref a) ∧ (d, a, P) ∈ done'
  oth : ∀ x, (∀ d ∈ ds, x ≠ d.name) → u'.lookup x = u.lookup x
  nam : ∀ p ∈ u', p ∈ u ∨ ∃ d ∈ ds, p.1 = d.name
  pos : ∀ q ∈ l', q ∈ l ∨ ∃ d ∈ ds, q.1 = d.pos
  old : ∀ e ∈ done, e ∈ done'
theorem top_defs (hmod : prog.main.scope.kind = .module) : ∀ (ds : List DefRec) (s : Shared) (u : List (Str × Value)) (l : List (Pos × Addr)) (done : List (DefRec × Addr × Addr)) (rest : List Stmt) (Q : Flow → Shared → Prop),
    (∀ d ∈ ds, d.Plain prog ∧ docOf d.body = none) → (ds.map (·.name)).Nodup → (ds.map fun d => (d.pos.line, d.pos.col)).Nodup → (∀ d ∈ ds, ∀ q ∈ l, ¬ (q.1.line = d.pos.line ∧ q.1.col = d.pos.col)) → TopI h0 mg0 c Pl s.heap u l done →
    (∀ h' tk u' l' done', TopI h0 mg0 c Pl h' u' l' done' → Ran ds u u' l l' done done' → (∀ b o, b ≠ Pl → b ≠ mainGlobals → s.heap.get? b = some o → h'.get? b = some o) → wpAny M A (execs rest (mainEnv prog c F)) Q E { s with heap := h', toks := tk }) →
    wpAny M A (execs (ds.map (·.stmt) ++ rest) (mainEnv prog c F)) Q E s
  | [], s, u, l, done, rest, Q, _, _, _, _, I, k => k s.heap s.toks u l done I ⟨fun d m => (nomatch m), fun _ _ => rfl, fun p m => .inl m, fun q m => .inl m, fun e m => m⟩ fun _ _ _ _ e => e
  | d :: ds, s, u, l, done, rest, Q, hp, hn, hq, hl, I, k => by
    have hn' := List.nodup_cons.mp hn
    have hq' := List.nodup_cons.mp hq
    refine wpAny_execs_cons (top_def (hp d (List.mem_cons_self ..)).1 (hp d (List.mem_cons_self ..)).2 hmod I (hl d (List.mem_cons_self ..)) fun a P c' h₁ tk₁ I₁ k₁ => ?_)
    refine top_defs hmod ds _ _ _ _ rest Q (fun e m => hp e (List.mem_cons_of_mem _ m)) hn'.2 hq'.2 (fun e m q mq => ?_) I₁ fun h' tk u' l' done' I' R k' => ?_
    · rcases List.mem_append.mp mq with mq | mq
      · exact hl e (List.mem_cons_of_mem _ m) q mq
      · rw [List.mem_singleton.mp mq]
        intro x
        exact hq'.1 (List.mem_map.mpr ⟨e, m, by
          have x1 : d.pos.line = e.pos.line := x.1
          have x2 : d.pos.col = e.pos.col := x.2
          show (e.pos.line, e.pos.col) = (d.pos.line, d.pos.col)
          rw [x1, x2]⟩)
    · refine k h' tk u' l' done' I' ⟨fun e m => ?_, fun x hx => ?_, fun p m => ?_, fun q m => ?_, fun e m => R.old e (List.mem_cons_of_mem _ m)⟩ fun b o x y e => k' b o x y (k₁ b o x y e)
      · rcases List.mem_cons.mp m with rfl | m
        · refine ⟨a, P, ?_, R.old _ (List.mem_cons_self ..)⟩
          rw [R.oth e.name fun e' m' q => hn'.1 (List.mem_map.mpr ⟨e', m', q.symm⟩), List.lookup_cons]
          simp
        · exact R.got e m
      · rw [R.oth x fun e m => hx e (List.mem_cons_of_mem _ m), List.lookup_cons]
        have : (x == d.name) = false := by simpa using hx d (List.mem_cons_self ..)
        rw [this]
      · rcases R.nam p m with m | ⟨e, m, q⟩
        · rcases List.mem_cons.mp m with rfl | m
          · exact .inr ⟨d, List.mem_cons_self .., rfl⟩
          · exact .inl m
        · exact .inr ⟨e, List.mem_cons_of_mem _ m, q⟩
      · rcases R.pos q m with m | ⟨e, m, z⟩
        · rcases List.mem_append.mp m with m | m
          · exact .inl m
          · rw [List.mem_singleton.mp m]; exact .inr ⟨d, List.mem_cons_self .., rfl⟩
        · exact .inr ⟨e, List.mem_cons_of_mem _ m, z⟩
theorem top_assign {s : Shared} {x : Str} {e : Expr} {p pos : Pos} {u : List (Str × Value)} {l : List (Pos × Addr)} {done : List (DefRec × Addr × Addr)} {Q : Flow → Shared → Prop} {V : Heap → Value → Prop} (hloc : prog.main.scope.names.lookup x = some .local) (hmod : prog.main.scope.kind = .module)
    (hx : x ≠ "__builtins__") (I : TopI h0 mg0 c Pl s.heap u l done)
    (he : wpAny M A (eval e (mainEnv prog c F)) (fun v s' => ∃ h' tk, s' = { s with heap := h', toks := tk } ∧ (∀ b o, s.heap.get? b = some o → h'.get? b = some o) ∧ V h' v) E s)
    (h : ∀ v h₁ h' tk, V h₁ v → (∀ b o, s.heap.get? b = some o → h₁.get? b = some o) → (∀ b o, b ≠ mainGlobals → h₁.get? b = some o → h'.get? b = some o) → TopI h0 mg0 c Pl h' ((x, v) :: u) l done → Q .next { s with heap := h', toks := tk })
    (hs : swapsWith e (some (.Name x p)) pos.line (mainEnv prog c F) = pure false) : wpAny M A (exec (.Assign [.Name x p] e pos) (mainEnv prog c F)) Q E s := by
  refine wpAny_Assign_Name (wpAny_mono he (fun v s' zp => ?_) fun _ _ z => z) hs
  obtain ⟨h₁, tk, e', k1, hv⟩ := zp
  subst e'
  have N1 : h₁.Ns mainGlobals (mgOf u mg0) := I.main.g.at fun o => k1 _ o
  refine wpAny_storeName_local (env := mainEnv prog c F) hloc N1 (fun h' n' s' => ?_) (by show (prog.main.scope.kind == .class || (prog.main.scope.kind == .module && mainGlobals != mainGlobals)) = false; rw [hmod]; rfl)
  have k2 : ∀ b o, b ≠ mainGlobals → h₁.get? b = some o → h'.get? b = some o := fun b o nb e => (s'.2 b nb).trans e
  have k : ∀ b o, b ≠ mainGlobals → s.heap.get? b = some o → h'.get? b = some o := fun b o nb e => k2 b o nb (k1 b o e)
  have lo := I.main.low
  refine h v h₁ h' _ hv k1 k2 ⟨⟨?_, ?_, lo, ?_⟩, fun b o x y e => k b o y (I.keep b o x y e), fun e me => (I.fn e me).keep lo.2 fun b o _ y q => k b o y q, I.nd⟩
  · rw [← mgOf_cons]; exact n'
  · have hc := I.main.code
    have : h₁.IsCode c Pl (triples l).toArray := hc.keeps k1
    exact this.sameBut s' (Nat.ne_of_gt lo.1) (Nat.ne_of_gt lo.2)
  · obtain ⟨bm, o, b1, b2, b3, b4, b5, b6⟩ := I.main.bmod
    refine ⟨bm, o, ?_, b2, b3, b4, k bm o b3 b5, b6⟩
    rw [← mgOf_cons]
    show (if "__builtins__" = x then _ else _) = _
    rw [if_neg (Ne.symm hx)]; exact b1
end
section
variable {prog : Program} {w : World} {K : Type} [DecidableEq K] {knd : KeyKind prog w K} {A : Around} {E : Value → Shared → Prop} {s : Shared}
theorem wp_dictPut {d : Addr} {kvs : List (K × Value)} {k : K} {key v : Value} {Q : Unit → Shared → Prop} (hkey : knd.is k key = true) (hm : s.heap.DictOf knd d kvs)
    (hQ : ∀ h', h'.DictOf knd d (stored kvs k v) → Heap.SameBut d s.heap h' → Q () { s with heap := h' })
    (hsz : kvs.length ≤ sizeLine) :
    wpAny (model prog w) A (dictPut d (knd.hash k) key v) Q E s := by
  obtain ⟨o, es, ep, ho, hc, hd, hk, hp, hn⟩ := hm
  have hes : es.size ≤ sizeLine := by
    have e1 := hp.length
    have e2 : es.toList.length = es.size := by simp
    exact Nat.le_trans (Nat.le_of_eq e2.symm) (Nat.le_trans (Nat.le_of_eq e1) hsz)
  unfold dictPut
  refine wpAny_bind (wpAny_dictFind_of hkey ho hd hk ?_)
  have hidx : (es.findIdx? fun e => knd.is k e.key) = kvs.findIdx? fun kv => decide (kv.1 = k) := by
    rw [← hp.findIdx k]; obtain ⟨l⟩ := es; simp
  cases hi : es.findIdx? fun e => knd.is k e.key with
  | some i =>
    refine wpAny_updateDict ho hd (hQ _ ⟨_, _, ep, Heap.get?_update_self _ ho (Obj.isFreed_of_dict (Obj.data_mapDict hd _)), hc.mapDict _, Obj.data_mapDict hd _, hk.modify _ _, ?_, ?_⟩ (Heap.SameBut.update ..))
    · rw [stored, if_pos (any_of_findIdx_some (hidx ▸ hi))]
      have hl : (es.toList.findIdx? fun e => knd.is k e.key) = some i := by rw [← hi]; obtain ⟨l⟩ := es; simp
      have := hp.modify hn hl v
      obtain ⟨l⟩ := es
      simpa using this
    · rw [stored, if_pos (any_of_findIdx_some (hidx ▸ hi)), keys_map_store]; exact hn
  | none =>
    have hnot : k ∉ kvs.map (·.1) := not_mem_of_findIdx_none (hidx ▸ hi)
    have hany : ¬ (kvs.any fun kv => decide (kv.1 = k)) = true := by
      rw [List.any_eq_true]; rintro ⟨kv, hkv, he⟩
      exact hnot (List.mem_map.mpr ⟨kv, hkv, of_decide_eq_true he⟩)
    refine wpAny_updateDictKeys (hz := hes) ho hd (hQ _ ⟨_, _, ep + 1, Heap.get?_update_self _ ho (Obj.isFreed_of_dict (Obj.data_mapDictKeys hd _)), hc.mapDictKeys _, Obj.data_mapDictKeys hd _, hk.push hkey _, ?_, ?_⟩ (Heap.SameBut.update ..))
    · rw [stored, if_neg hany]
      have := hp.append hkey (knd.hash k) v
      obtain ⟨l⟩ := es
      simpa using this
    · rw [stored, if_neg hany, List.map_append, List.nodup_append]
      refine ⟨hn, by simp, ?_⟩
      intro a ha b hb
      simp only [List.map_cons, List.map_nil, List.mem_singleton] at hb
      subst hb
      exact fun e => hnot (e ▸ ha)
inductive MInv {prog : Program} {w : World} {K : Type} [DecidableEq K] (knd : KeyKind prog w K) (d o : Addr) (oo : Obj) (n : Nat) (kvs more : List (K × Value)) (s : Shared) (rest : List Nat) (s' : Shared) : Prop
  | mk (h' : Heap) (i : Nat) (e : s' = { s with heap := h' }) (hr : rest = List.range' i (n - i)) (hi : i ≤ n) (hd' : h'.DictOf knd d (merged kvs (more.take i))) (hoo' : h'.get? o = some oo) (hs' : Heap.SameBut d s.heap h')
theorem wp_mergeMapping {d o : Addr} {kvs more : List (K × Value)} {Q : Unit → Shared → Prop} (hdo : d ≠ o) (hoS : (o == sysModules) = false) (hne : kvs ≠ [])
    (hd : s.heap.DictOf knd d kvs) (ho : s.heap.DictOf knd o more)
    (hQ : ∀ h', h'.DictOf knd d (merged kvs more) → Heap.SameBut d s.heap h' → Q () { s with heap := h' })
    (hsz : kvs.length + more.length ≤ sizeLine) :
    wpAny (model prog w) A (mergeMapping d (.ref o) false) Q E s := by
  obtain ⟨od, esd, epd, hod, hcd, hdd, hkd, hpd, hnd⟩ := id hd
  obtain ⟨oo, eso, epo, hoo, hco, hdo', hko, hpo, hno⟩ := id ho
  have hlen : more.length = eso.size := by rw [← hpo.length]; simp
  unfold mergeMapping
  refine wpAny_bind (wpAny_isInstance ho.typeIs isSubtype_dict_dict ?_)
  rw [if_pos rfl]
  refine wpAny_bind (wpAny_specialOf ho.typeIs F.slot_dict_iter.lookup (wpAny_bind (wpAny_pure ?_)))
  have e1 : ((some (Value.builtin "dict.__iter__") == some (Value.builtin "dict.__iter__")) : Bool) = true := by simp
  rw [e1]
  dsimp only
  rw [if_neg (by rw [hoS]; exact Bool.false_ne_true)]
  refine wpAny_bind (wpAny_dictEntries hod hdd ?_)
  have hemp : ¬ esd.isEmpty = true := by
    intro h
    have h0 : esd = #[] := Array.isEmpty_iff.mp h
    have := hpd.length
    rw [h0] at this
    exact hne (List.length_eq_zero_iff.mp (by simpa using this.symm))
  rw [if_neg hemp]
  refine wpAny_bind (wpAny_dictEntries hoo hdo' ?_)
  refine wpAny_bind (wpAny_dictEpoch hoo hdo' ?_)
  refine wpAny_bind ?_
  refine wpAny_forIn_list _
    (fun rest _ s' => MInv knd d o oo eso.size kvs more s rest s')
    _ ?_ ?_ _ _ ⟨s.heap, 0, rfl, by rw [List.range_eq_range']; simp, Nat.zero_le _, by simpa [merged] using hd, hoo, Heap.SameBut.refl _ _⟩
  · rintro x rest b s' ⟨h', i, rfl, hr, hi, hd', hoo', hs'⟩
    have hlt : i < eso.size := by
      rcases Nat.lt_or_ge i eso.size with h | h
      · exact h
      · rw [Nat.sub_eq_zero_of_le h] at hr; simp at hr
    obtain ⟨rfl, hrest⟩ : x = i ∧ rest = List.range' (i + 1) (eso.size - (i + 1)) := by
      have e : eso.size - i = (eso.size - (i + 1)) + 1 := by lia
      rw [e, List.range'_succ] at hr
      injection hr with h1 h2
      exact ⟨h1, h2⟩
    refine wpAny_bind (wpAny_dictEntries hoo' hdo' ?_)
    rw [Array.getElem?_eq_getElem hlt]
    obtain ⟨kv, hkv⟩ : ∃ kv, more[x]? = some kv := ⟨more[x]'(by rw [hlen]; exact hlt), List.getElem?_eq_getElem _⟩
    obtain ⟨k, v⟩ := kv
    obtain ⟨hkey, hval⟩ := hpo.get? (e := eso[x]) (by simp [hlt]) hkv
    obtain ⟨k', hkey', hhash⟩ := hko eso[x] (Array.getElem_mem hlt)
    obtain rfl : k' = k := knd.inj _ _ _ hkey' hkey
    show wpAny _ _ (holding [eso[x].key, eso[x].val] (dictPut d eso[x].hash eso[x].key eso[x].val) >>= _) _ _ _
    rw [hhash, hval]
    have hmx : (merged kvs (more.take x)).length ≤ sizeLine := by
      have e1 := merged_length_le kvs (more.take x)
      have e2 : (more.take x).length ≤ more.length := by rw [List.length_take]; lia
      lia
    refine wpAny_bind (wpAny_holding (wp_dictPut hkey hd' (fun h'' hd'' hs'' => ?_) hmx))
    have hoo'' : h''.get? o = some oo := (hs''.2 o (Ne.symm hdo)).trans hoo'
    refine wpAny_bind (wpAny_dictEpoch hoo'' hdo' ?_)
    rw [if_neg (by simp)]
    exact wpAny_pure ⟨h'', x + 1, rfl, hrest, hlt, by rw [merged_take_succ kvs more x (k', v) hkv]; exact hd'', hoo'', hs'.trans hs''⟩
  · rintro b s' ⟨h', i, rfl, hr, hi, hd', hoo', hs'⟩
    have hin : i = eso.size := by
      rcases Nat.lt_or_ge i eso.size with h | h
      · have e : eso.size - i = (eso.size - (i + 1)) + 1 := by lia
        rw [e, List.range'_succ] at hr; exact nomatch hr
      · exact Nat.le_antisymm hi h
    refine wpAny_pure (hQ h' ?_ hs')
    rw [hin, ← hlen, List.take_length] at hd'; exact hd'
end
inductive KVs : List (Int × Value) → List (Int × Str) → Prop
  | nil : KVs [] []
  | cons {i : Int} {x : Str} {t : Tok} {kvs : List (Int × Value)} {ps : List (Int × Str)} : KVs kvs ps → KVs ((i, .str x t) :: kvs) ((i, x) :: ps)
theorem KVs.keys {kvs : List (Int × Value)} {ps : List (Int × Str)} (h : KVs kvs ps) : kvs.map (·.1) = ps.map (·.1) := by
  induction h with
  | nil => rfl
  | cons _ ih => rw [List.map_cons, List.map_cons, ih]
theorem KVs.length {kvs : List (Int × Value)} {ps : List (Int × Str)} (h : KVs kvs ps) : kvs.length = ps.length := by
  induction h with
  | nil => rfl
  | cons _ ih => rw [List.length_cons, List.length_cons, ih]
theorem KVs.app {kvs more : List (Int × Value)} {ps qs : List (Int × Str)} (h : KVs kvs ps) (m : KVs more qs) : KVs (kvs ++ more) (ps ++ qs) := by
  induction h with
  | nil => exact m
  | cons _ ih => exact .cons ih
theorem KVs.find {kvs : List (Int × Value)} {ps : List (Int × Str)} (h : KVs kvs ps) (i : Int) : match ps.lookup i with | none => valueAt kvs i = none | some x => ∃ t, valueAt kvs i = some (.str x t) := by
  induction h with
  | nil => rfl
  | @cons j y t kvs ps h ih =>
    rw [List.lookup_cons]
    unfold valueAt
    rw [List.find?_cons]
    by_cases q : j = i
    · subst q; rw [beq_self_eq_true, decide_eq_true rfl]; exact ⟨t, rfl⟩
    · rw [beq_eq_false_iff_ne.mpr (Ne.symm q), decide_eq_false q]
      exact ih
section
variable {prog : Program} {w : World}
noncomputable def ItemOk (prog : Program) (w : World) (p : Sem Value × Sem Value) (q : Int × Str) : Prop :=
  (∀ (A : Around) (E : Value → Shared → Prop) (s : Shared) (Q : Value → Shared → Prop), (∀ t tk, Q (.int q.1 t) { s with toks := tk }) → wpAny (model prog w) A p.1 Q E s) ∧
  (∀ (A : Around) (E : Value → Shared → Prop) (s : Shared) (Q : Value → Shared → Prop), (∀ t tk, Q (.str q.2 t) { s with toks := tk }) → wpAny (model prog w) A p.2 Q E s)
inductive Items (prog : Program) (w : World) : List (Sem Value × Sem Value) → List (Int × Str) → Prop
  | nil : Items prog w [] []
  | cons {p : Sem Value × Sem Value} {q : Int × Str} {l : List (Sem Value × Sem Value)} {m : List (Int × Str)} : ItemOk prog w p q → Items prog w l m → Items prog w (p :: l) (q :: m)
theorem Items.snoc {p : Sem Value × Sem Value} {q : Int × Str} {l : List (Sem Value × Sem Value)} {m : List (Int × Str)} (h : Items prog w l m) (o : ItemOk prog w p q) : Items prog w (l ++ [p]) (m ++ [q]) := by
  induction h with
  | nil => exact .cons o .nil
  | cons a _ ih => exact .cons a ih
noncomputable abbrev kI (prog : Program) (w : World) := PySem.intKind prog w
variable {A : Around} {E : Value → Shared → Prop}
theorem wp_long {d : Addr} {l : List (Sem Value × Sem Value)} {m : List (Int × Str)} (I : Items prog w l m) : ∀ (acc : List (Int × Value)) (am : List (Int × Str)) (s : Shared) (Q : PUnit → Shared → Prop), KVs acc am → ((am ++ m).map (·.1)).Nodup → s.heap.DictOf (kI prog w) d acc → acc.length + l.length ≤ sizeLine →
    (∀ kvs h' tk, KVs kvs (am ++ m) → h'.DictOf (kI prog w) d kvs → Heap.SameBut d s.heap h' → Q PUnit.unit { s with heap := h', toks := tk }) →
    wpAny (model prog w) A (forIn l PUnit.unit fun (x : Sem Value × Sem Value) (_ : PUnit) => (do let kv ← x.1; let vv ← holding [kv] x.2; holding [kv, vv] (dictSet d kv vv); pure (ForInStep.yield PUnit.unit) : Sem (ForInStep PUnit))) Q E s := by
  induction I with
  | nil =>
    intro acc am s Q K nd D sz h
    rw [List.forIn_nil]
    rw [List.append_nil] at h
    exact wpAny_pure (h acc s.heap s.toks K D (Heap.SameBut.refl _ _))
  | @cons p q l m ok I ih =>
    intro acc am s Q K nd D sz h
    rw [List.forIn_cons]
    rw [List.length_cons] at sz
    have eapp : am ++ q :: m = (am ++ [q]) ++ m := by rw [List.append_assoc]; rfl
    rw [eapp] at nd h
    refine wpAny_bind (wpAny_bind (ok.1 _ _ _ _ fun t tk => wpAny_bind (wpAny_holding (ok.2 _ _ _ _ fun t2 tk2 => ?_))))
    have K2 : KVs (acc ++ [(q.1, .str q.2 t2)]) (am ++ [q]) := K.app (.cons .nil)
    have hst : stored acc q.1 (.str q.2 t2) = acc ++ [(q.1, .str q.2 t2)] := by
      have := merged_append_of_fresh acc [(q.1, Value.str q.2 t2)] (by
        have e : (acc ++ [(q.1, Value.str q.2 t2)]).map (·.1) = (am ++ [q]).map (·.1) := K2.keys
        rw [e]
        rw [List.map_append] at nd
        exact (List.nodup_append.mp nd).1)
      exact this
    refine wpAny_bind (wpAny_holding (wpAny_dictSet_pairs (knd := kI prog w) (k := q.1) (intKind_is _ _ _ _) D (fun h₁ D₁ S₁ => wpAny_pure ?_) (by exact Nat.le_trans (Nat.le_add_right _ _) sz)))
    rw [hst] at D₁
    refine ih (acc ++ [(q.1, .str q.2 t2)]) (am ++ [q]) _ Q K2 nd D₁ (by rw [List.length_append, List.length_singleton]; lia) fun kvs h' tk' K' D' S' => ?_
    exact h kvs h' tk' K' D' (S₁.trans S')
theorem wp_pairs {l : List (Sem Value × Sem Value)} {m : List (Int × Str)} (I : Items prog w l m) : ∀ (s : Shared) (Q : List (Value × Value) → Shared → Prop),
    (∀ vs kvs tk, Carries (kI prog w) vs kvs → KVs kvs m → vs.length = l.length → Q vs { s with toks := tk }) → wpAny (model prog w) A (evalPairs l) Q E s := by
  induction I with
  | nil =>
    intro s Q h
    exact evalPairs_nil (h [] [] s.toks trivial .nil rfl)
  | @cons p q l m ok I ih =>
    intro s Q h
    refine evalPairs_cons (k := p.1) (v := p.2) (ok.1 _ _ _ _ fun t tk => ok.2 _ _ _ _ fun t2 tk2 => ih _ _ fun vs kvs tk' c k e => ?_)
    exact h ((.int q.1 t, .str q.2 t2) :: vs) ((q.1, .str q.2 t2) :: kvs) tk' ⟨intKind_is _ _ _ _, rfl, c⟩ (.cons k) (by rw [List.length_cons, List.length_cons, e])
theorem wp_sub {l : List (Sem Value × Sem Value)} {m : List (Int × Str)} {s : Shared} {Q : Addr → Shared → Prop} (I : Items prog w l m) (nd : (m.map (·.1)).Nodup) (hl : l.length ≤ 17)
    (h : ∀ kvs h' tk, KVs kvs m → h'.DictOf (kI prog w) s.heap.objs.size kvs → (∀ b o, s.heap.get? b = some o → h'.get? b = some o) → Q s.heap.objs.size { s with heap := h', toks := tk }) :
    wpAny (model prog w) A (subDict l) Q E s := by
  have hnew : (s.heap.push { cls := .type "dict", data := .dict #[] }).DictOf (kI prog w) s.heap.objs.size [] := Heap.DictOf.new s.heap
  have old : ∀ {h' : Heap}, Heap.SameBut s.heap.objs.size (s.heap.push { cls := .type "dict", data := .dict #[] }) h' → ∀ b o, s.heap.get? b = some o → h'.get? b = some o := fun {h'} S b o e =>
    (S.2 b (Nat.ne_of_lt (Heap.lt_size e))).trans (Heap.get?_push_of_some _ e)
  by_cases q : l.length ≤ 15
  · refine wpAny_subDict (knd := kI prog w) q (wp_pairs I _ _ fun vs kvs tk c k e => ⟨kvs, c, hnew, fun h' D S => ?_⟩)
    have : merged [] kvs = kvs := merged_nil_of_nodup kvs (by rw [k.keys]; exact nd)
    rw [this] at D
    exact h kvs h' _ k D (old S)
  · unfold subDict
    refine wpAny_bind (wpAny_alloc ?_)
    refine wpAny_bind (wpAny_holding ?_)
    rw [if_neg q]
    refine wpAny_bind (wpAny_rule ?_)
    refine wpAny_bind (wp_long I [] [] _ _ .nil (by simpa using nd) hnew (by rw [sizeLine_eq]; simp; exact Nat.le_trans hl (by decide)) fun kvs h' tk k D S => ?_)
    exact wpAny_pure (wpAny_pure (h kvs h' tk (by simpa using k) D (old S)))
end
section
variable {prog : Program} {w : World} {A : Around} {E : Value → Shared → Prop}
noncomputable def MainIs (prog : Program) (w : World) (s : Shared) (b : Option Addr) (dm : List (Int × Str)) (h : Heap) : Prop :=
  (b = none ∧ dm = []) ∨ ∃ d kvs, b = some d ∧ KVs kvs dm ∧ dm ≠ [] ∧ h.DictOf (kI prog w) d kvs ∧ s.heap.objs.size ≤ d
theorem dictOf_size {h : Heap} {a : Addr} {kvs : List (Int × Value)} (D : h.DictOf (kI prog w) a kvs) : a < h.objs.size := by
  obtain ⟨o, es, ep, ho, _⟩ := D; exact Heap.lt_size ho
theorem dictOf_keep {h h' : Heap} {a : Addr} {kvs : List (Int × Value)} (D : h.DictOf (kI prog w) a kvs) (k : ∀ b o, h.get? b = some o → h'.get? b = some o) : h'.DictOf (kI prog w) a kvs := by
  obtain ⟨o, es, ep, ho, r⟩ := D; exact ⟨o, es, ep, k _ _ ho, r⟩
theorem wp_into {l : List (Sem Value × Sem Value)} {dm rm : List (Int × Str)} {d : Addr} {kvs : List (Int × Value)} {s : Shared} {Q : Option Addr → Shared → Prop} {k : Value → Sem Unit} (I : Items prog w l rm) (nd : ((dm ++ rm).map (·.1)).Nodup) (hl : l.length ≤ 17) (hsz : (dm ++ rm).length ≤ sizeLine)
    (K : KVs kvs dm) (ne : dm ≠ []) (D : s.heap.DictOf (kI prog w) d kvs) (hs0 : sysModules < s.heap.objs.size)
    (h : ∀ kvs' h' tk, KVs kvs' (dm ++ rm) → h'.DictOf (kI prog w) d kvs' → (∀ b o, b ≠ d → s.heap.get? b = some o → h'.get? b = some o) → s.heap.objs.size ≤ h'.objs.size → Q (some d) { s with heap := h', toks := tk }) :
    wpAny (model prog w) A (do
      let sub ← holding [Value.ref d] (subDict l)
      (holding [Value.ref d, Value.ref sub] (mergeMapping d (Value.ref sub) false)).onRaise k
      pure (some d)) Q E s := by
  have nd' := nd
  rw [List.map_append] at nd'
  have hd := dictOf_size D
  refine wpAny_bind (wpAny_holding (wp_sub I (List.nodup_append.mp nd').2.1 hl fun kvs2 h2 tk2 K2 D2 old2 => ?_))
  have ne2 : kvs ≠ [] := by
    intro e
    have := K.length
    rw [e] at this
    exact ne (List.eq_nil_of_length_eq_zero this.symm)
  refine wpAny_bind (wpAny_onRaise (wpAny_holding (wp_mergeMapping (knd := kI prog w) (Nat.ne_of_lt hd) (by rw [beq_eq_false_iff_ne]; exact Nat.ne_of_gt hs0) ne2 (dictOf_keep D old2) D2 (fun h3 D3 S3 => wpAny_pure ?_) (by rw [K.length, K2.length, ← List.length_append]; exact hsz))))
  have KK := K.app K2
  have : merged kvs kvs2 = kvs ++ kvs2 := merged_append_of_fresh kvs kvs2 (by rw [KK.keys]; exact nd)
  rw [this] at D3
  refine h (kvs ++ kvs2) h3 tk2 KK D3 (fun b o nb e => (S3.2 b nb).trans (old2 b o e)) ?_
  have l2 := dictOf_size D2
  have e3 : h3.objs.size = h2.objs.size := S3.1
  rw [e3]
  exact Nat.le_of_lt l2
inductive DInv (prog : Program) (w : World) (m : List (Int × Str)) (s : Shared) (rest : List (Option (Sem Value) × Sem Value)) (b1 : Option Addr) (b2 : List (Sem Value × Sem Value)) (s' : Shared) : Prop
  | mk (lr : List (Sem Value × Sem Value)) (dm rm restm : List (Int × Str)) (h' : Heap) (tk : Tok) (hr : rest = lr.map fun p => (some p.1, p.2)) (Ir : Items prog w b2 rm) (Il : Items prog w lr restm) (em : m = dm ++ rm ++ restm) (hlen : b2.length < 17)
    (e : s' = { s with heap := h', toks := tk }) (old : ∀ b o, s.heap.get? b = some o → h'.get? b = some o) (ls : s.heap.objs.size ≤ h'.objs.size) (M : MainIs prog w s b1 dm h')
theorem wp_display {l : List (Sem Value × Sem Value)} {m : List (Int × Str)} {s : Shared} {Q : Value → Shared → Prop} (I : Items prog w l m) (nd : (m.map (·.1)).Nodup) (hl : m ≠ []) (hsz : m.length ≤ sizeLine) (hs0 : sysModules < s.heap.objs.size)
    (h : ∀ a kvs h' tk, KVs kvs m → h'.DictOf (kI prog w) a kvs → (∀ b o, s.heap.get? b = some o → h'.get? b = some o) → s.heap.objs.size ≤ a → Q (.ref a) { s with heap := h', toks := tk }) :
    wpAny (model prog w) A (dictDisplay (l.map fun p => (some p.1, p.2))) Q E s := by
  unfold dictDisplay
  dsimp only
  refine wpAny_bind ?_
  have nd3 : ∀ {a b c : List (Int × Str)}, m = a ++ b ++ c → ((a ++ b).map (·.1)).Nodup := fun {a b c} e => by
    rw [e, List.map_append] at nd
    exact (List.nodup_append.mp nd).1
  have ln3 : ∀ {a b c : List (Int × Str)}, m = a ++ b ++ c → (a ++ b).length ≤ sizeLine := fun {a b c} e => by
    rw [e, List.length_append] at hsz
    exact Nat.le_trans (Nat.le_add_right _ _) hsz
  have ndb : ∀ {a b c : List (Int × Str)}, m = a ++ b ++ c → (b.map (·.1)).Nodup := fun {a b c} e => by
    have := nd3 e
    rw [List.map_append] at this
    exact (List.nodup_append.mp this).2.1
  refine wpAny_forIn_list _
    (fun rest b s' => DInv prog w m s rest b.1 b.2 s')
    _ ?_ ?_ _ _ ⟨l, [], [], m, s.heap, s.toks, rfl, .nil, I, rfl, by decide, rfl, fun _ _ e => e, Nat.le_refl _, .inl ⟨rfl, rfl⟩⟩
  · rintro x rest b s' ⟨lr, dm, rm, restm, h', tk, hr, Ir, Il, em, hlen, rfl, old, ls, M⟩
    cases Il with
    | nil => cases hr
    | @cons p q lr restm ok Il =>
    injection hr with hx hr
    subst hx
    have Ir2 := Ir.snoc ok
    have em2 : m = dm ++ (rm ++ [q]) ++ restm := by rw [em]; simp
    dsimp only
    by_cases q17 : ((b.2 ++ [(p.1, p.2)]).length == 17) = true
    · rw [if_pos q17]
      have hl17 : (b.2 ++ [(p.1, p.2)]).length ≤ 17 := by rw [beq_iff_eq] at q17; exact Nat.le_of_eq q17
      have hne : ¬ (b.2 ++ [(p.1, p.2)]).isEmpty = true := by simp
      refine wpAny_bind ?_
      rw [if_neg hne]
      rcases M with ⟨e, e2⟩ | ⟨d, kvs, e, K, ne, D, ld⟩
      · rw [e]
        dsimp only
        refine wpAny_bind (wp_sub Ir2 (ndb em2) hl17 fun kvs h2 tk2 K2 D2 old2 => wpAny_pure ?_)
        exact wpAny_pure ⟨lr, rm ++ [q], [], restm, h2, tk2, hr, .nil, Il, by rw [em2, e2]; simp, by show 0 < 17; decide, rfl, fun b o z => old2 b o (old b o z), Nat.le_trans ls (Nat.le_of_lt (dictOf_size D2)), .inr ⟨_, kvs, rfl, K2, by simp, D2, ls⟩⟩
      · rw [e]
        dsimp only
        refine wp_into Ir2 (nd3 em2) hl17 (ln3 em2) K ne D (Nat.lt_of_lt_of_le hs0 ls) fun kvs' h2 tk2 K2 D2 old2 ls2 => ?_
        exact wpAny_pure ⟨lr, dm ++ (rm ++ [q]), [], restm, h2, tk2, hr, .nil, Il, by rw [em2]; simp, by show 0 < 17; decide, rfl, fun b o z => old2 b o (fun e => by subst e; exact absurd (Heap.lt_size z) (Nat.not_lt.mpr ld)) (old b o z), Nat.le_trans ls ls2, .inr ⟨d, kvs', rfl, K2, by simp, D2, ld⟩⟩
    · rw [if_neg q17]
      refine wpAny_pure ⟨lr, dm, rm ++ [q], restm, h', tk, hr, Ir2, Il, em2, ?_, rfl, old, ls, M⟩
      rw [beq_iff_eq, List.length_append] at q17
      show (b.2 ++ [(p.1, p.2)]).length < 17
      rw [List.length_append]
      simp only [List.length_singleton] at q17 ⊢
      lia
  · rintro ⟨bm, br⟩ s' ⟨lr, dm, rm, restm, h', tk, hr, Ir, Il, em, hlen, rfl, old, ls, M⟩
    have elr : lr = [] := by
      cases lr with
      | nil => rfl
      | cons a b => cases hr
    subst elr
    cases Il
    dsimp only at Ir hlen M ⊢
    have em1 : m = dm ++ rm := by rw [em, List.append_nil]
    refine wpAny_bind ?_
    by_cases q0 : br.isEmpty = true
    · rw [if_pos q0]
      have e0 : rm = [] := by
        have : br = [] := List.isEmpty_iff.mp q0
        subst this
        cases Ir; rfl
      rcases M with ⟨e, e2⟩ | ⟨d, kvs, e, K, ne, D, ld⟩
      · exact absurd (by rw [em1, e0, e2]; rfl) hl
      · refine wpAny_pure ?_
        rw [e]
        dsimp only
        refine wpAny_pure (h d kvs h' tk (by rw [em1, e0, List.append_nil]; exact K) D old ld)
    · rw [if_neg q0]
      rcases M with ⟨e, e2⟩ | ⟨d, kvs, e, K, ne, D, ld⟩
      · rw [e]
        dsimp only
        refine wpAny_bind (wp_sub Ir (ndb em) (by exact Nat.le_of_lt hlen) fun kvs h2 tk2 K2 D2 old2 => wpAny_pure ?_)
        dsimp only
        exact wpAny_pure (h _ kvs h2 tk2 (by rw [em1, e2]; exact K2) D2 (fun b o z => old2 b o (old b o z)) ls)
      · rw [e]
        dsimp only
        refine wp_into Ir (nd3 em) (by exact Nat.le_of_lt hlen) (ln3 em) K ne D (Nat.lt_of_lt_of_le hs0 ls) fun kvs' h2 tk2 K2 D2 old2 ls2 => ?_
        dsimp only
        exact wpAny_pure (h d kvs' h2 tk2 (by rw [em1]; exact K2) D2 (fun b o z => old2 b o (fun e => by subst e; exact absurd (Heap.lt_size z) (Nat.not_lt.mpr ld)) (old b o z)) ld)
end
section
variable {prog : Program} {w : World} {A : Around} {E : Value → Shared → Prop} {s : Shared} {c F : Addr}
theorem name_main {M : Model} {x : Str} {pos : Pos} {Q : Value → Shared → Prop} (hmod : prog.main.scope.kind = .module) (hd : (x == ("__debug__" : Str)) = false) (h : wpAny M A (loadGlobal (mainEnv prog c F) x) Q E s) : wpAny M A (eval (.Name x pos) (mainEnv prog c F)) Q E s := by
  refine wpAny_Name ?_ hd
  unfold loadName
  have e1 : (mainEnv prog c F).scope.kind = .module := hmod
  have e2 : ((mainEnv prog c F).locals != (mainEnv prog c F).globals) = false := by show (mainGlobals != mainGlobals) = false; simp
  simp only [Env.blockKind, e1, e2, ScopeKind.isAnnotationScope, Bool.false_and, Bool.false_eq_true, if_false]
  exact h
theorem name_builtin {M : Model} {x : Str} {pos : Pos} {mg mb : Str → Option Value} {v : Value} {Q : Value → Shared → Prop} (hmod : prog.main.scope.kind = .module) (hd : (x == ("__debug__" : Str)) = false) (hg : s.heap.Ns mainGlobals mg) (hn : mg x = none) (hb : s.heap.Ns builtinsNs mb) (hv : mb x = some v) (h : Q v s) : wpAny M A (eval (.Name x pos) (mainEnv prog c F)) Q E s :=
  name_main hmod hd (loadGlobal_builtin hg hn hb hv h)
theorem strE_eq {e : Expr} {x : Str} : strE e = some x → ∃ n p, e = .Constant (.str x) n p := by
  cases e with
  | Constant c n p => cases c with
    | str j => exact fun h => ⟨n, p, by rw [Option.some.inj h]⟩
    | _ => exact fun h => nsE h
  | _ => exact fun h => nsE h
theorem constPairs_cons {k : Option Expr} {ks : List (Option Expr)} {v : Expr} {vs : List Expr} {ps : List (Int × Str)} (h : constPairs (k :: ks) (v :: vs) = some ps) :
    ∃ i n p x n' p' l, k = some (.Constant (.int i) n p) ∧ v = .Constant (.str x) n' p' ∧ constPairs ks vs = some l ∧ ps = (i, x) :: l := by
  unfold constPairs at h
  cases h1 : keyE k with
  | none => rw [h1] at h; cases h
  | some i =>
    rw [h1] at h
    cases h2 : strE v with
    | none => rw [h2] at h; cases h
    | some x =>
      rw [h2] at h
      cases h3 : constPairs ks vs with
      | none => rw [h3] at h; cases h
      | some l =>
        rw [h3] at h; cases h
        cases k with
        | none => cases h1
        | some e =>
          obtain ⟨n, p, rfl⟩ := intE_eq h1
          obtain ⟨n', p', rfl⟩ := strE_eq h2
          exact ⟨i, n, p, x, n', p', l, rfl, rfl, rfl, rfl⟩
theorem const_items {env : Env} {pos : Pos} {ks : List (Option Expr)} : ∀ {vs : List Expr} {ps : List (Int × Str)}, constPairs ks vs = some ps →
    ∃ l, (evalEachOpt ks env).zip ((evalEach vs env).map fun v => do let x ← v; standAt pos; pure x) = l.map (fun p => (some p.1, p.2)) ∧ Items prog w l ps := by
  induction ks with
  | nil => intro vs ps h; cases h; exact ⟨[], rfl, .nil⟩
  | cons k ks ih =>
    intro vs ps h
    cases vs with
    | nil => cases h; exact ⟨[], List.zip_nil_right, .nil⟩
    | cons v vs =>
      obtain ⟨i, n, p, x, n', p', l, rfl, rfl, hl, rfl⟩ := constPairs_cons h
      obtain ⟨l', e, I⟩ := ih hl
      refine ⟨(eval (.Constant (.int i) n p) env, do let x ← eval (.Constant (.str x) n' p') env; standAt pos; pure x) :: l', ?_, .cons ⟨fun A E s Q h => ?_, fun A E s Q h => ?_⟩ I⟩
      · rw [List.map_cons, ← e]; rfl
      · show wpAny (model prog w) A (eval (.Constant (.int i) n p) env) Q E s
        exact wpAny_Constant_int (h _ _)
      · show wpAny (model prog w) A (do let x ← eval (.Constant (.str x) n' p') env; standAt pos; pure x) Q E s
        exact wpAny_bind (wpAny_Constant_str (wpAny_bind (wpAny_standAt (wpAny_pure (h _ _)))))
theorem eval_table {ks : List (Option Expr)} {vs : List Expr} {ps : List (Int × Str)} {pos : Pos} {env : Env} {Q : Value → Shared → Prop} (hc : constPairs ks vs = some ps) (nd : (ps.map (·.1)).Nodup) (hl : ps ≠ []) (hsz : ps.length ≤ sizeLine) (hs0 : sysModules < s.heap.objs.size)
    (h : ∀ a kvs h' tk, KVs kvs ps → h'.DictOf (kI prog w) a kvs → (∀ b o, s.heap.get? b = some o → h'.get? b = some o) → s.heap.objs.size ≤ a → Q (.ref a) { s with heap := h', toks := tk }) :
    wpAny (model prog w) A (eval (.Dict ks vs pos) env) Q E s := by
  obtain ⟨l, e, I⟩ := const_items (prog := prog) (w := w) (env := env) (pos := pos) hc
  rw [arm_eval_Dict, e]
  exact wpAny_bind (wpAny_standAt (wp_display I nd hl hsz hs0 h))
theorem ints_are {es : List Expr} : ∀ {ns : List Int} {env : Env} {pos : Pos} {s : Shared} {Q : List Value → Shared → Prop}, intsOf es = some ns → (∀ vs tk, IntsAre vs ns → Q vs { s with toks := tk }) → wpAny (model prog w) A (spliced (backTo pos (starEach es env))) Q E s := by
  induction es with
  | nil => intro ns env pos s Q h k; cases h; exact wpAny_items_nil (k [] s.toks .nil)
  | cons e r ih =>
    intro ns env pos s Q h k
    obtain ⟨i, l, n, p, rfl, h2, rfl⟩ := intsOf_cons h
    exact wpAny_items_cons (wpAny_Constant_int (ih h2 fun vs tk I => k _ _ (.cons _ _ I))) (by rfl)
end
theorem intsAre_of : ∀ {vs : List Value} {ns : List Int}, vs.length = ns.length → (∀ (i : Nat) (v : Value), vs[i]? = some v → ∃ t, v = .int (ns.getD i 0) t) → IntsAre vs ns
  | [], [], _, _ => .nil
  | [], _ :: _, l, _ => by simp at l
  | _ :: _, [], l, _ => by simp at l
  | v :: vs, n :: ns, l, h => by
    obtain ⟨t, e⟩ := h 0 v rfl
    have e : v = .int n t := e
    subst e
    exact .cons n t (intsAre_of (by simpa using l) fun i v hv => h (i + 1) v hv)
theorem IntsAre.app : ∀ {vs ws : List Value} {ns ms : List Int}, IntsAre vs ns → IntsAre ws ms → IntsAre (vs ++ ws) (ns ++ ms)
  | _, _, _, _, .nil, h => h
  | _, _, _, _, .cons n t a, h => .cons n t (IntsAre.app a h)
noncomputable def rangeInts (a : Int) (n : Nat) : List Int := (List.range n).map fun (i : Nat) => a + (i : Int)
section
variable {prog : Program} {w : World} {A : Around} {E : Value → Shared → Prop} {s : Shared} {c F : Addr}
theorem eval_b1 {es : List Expr} {ns : List Int} {a b : Int} {n k1 k2 : Nat} {ps pl pr p1 p2 lp lq bq sq rq : Pos} {mg mb : Str → Option Value} {Q : Value → Shared → Prop} (hmod : prog.main.scope.kind = .module) (hh : A.handled = none) (hi : intsOf es = some ns) (hn : ns.length ≤ 100) (hb' : b = a + n) (h1 : 0 ≤ a) (h2 : b ≤ 2 ^ 24) (hnn : n ≤ 100)
    (hg : s.heap.Ns mainGlobals mg) (hb : s.heap.Ns builtinsNs mb) (m1 : mg "set" = none) (m2 : mg "list" = none) (m3 : mg "range" = none) (b1 : mb "set" = some (.type "set")) (b2 : mb "list" = some (.type "list")) (b3 : mb "range" = some (.type "range"))
    (h : ∀ d h' tk, (∀ b o, s.heap.get? b = some o → h'.get? b = some o) → h'.SetOf (kI prog w) d (fun k' => (firstMet (fun i => (ns ++ rangeInts a n).getD i 0) (ns.length + n)).any (· == k')) (firstMet (fun i => (ns ++ rangeInts a n).getD i 0) (ns.length + n)).length → s.heap.objs.size ≤ d → Q (.ref d) { s with heap := h', toks := tk }) :
    wpAny (model prog w) A (eval (.Call (.Name "set" ps) [.BinOp (.List es lp) .Add (.Call (.Name "list" pl) [.Call (.Name "range" pr) [.Constant (.int a) k1 p1, .Constant (.int b) k2 p2] [] rq] [] lq) bq] [] sq) (mainEnv prog c F)) Q E s := by
  have e1 : Builtin.Range.rangeSize a b 1 = n := by
    unfold Builtin.Range.rangeSize; simp only [Int.reduceGT, if_true]; split <;> lia
  refine Call_ (name_builtin hmod (by decide) hg m1 hb b1 ?_) (by rfl)
  refine PySem.callWith_type (by rfl) (evalArgs_all (by rfl) ?_)
  refine wpAny_items_cons ?_ (by rfl)
  refine wpAny_BinOp (wpAny_List (ints_are hi fun vs tk I => ⟨by rw [I.length, sizeLine_eq]; exact Nat.le_trans hn (by decide), ?_⟩))
  have hg1 : (s.heap.push { cls := .type "list", data := .seq vs.toArray }).Ns mainGlobals mg := hg.push _
  have hb1 : (s.heap.push { cls := .type "list", data := .seq vs.toArray }).Ns builtinsNs mb := hb.push _
  refine Call_ (name_builtin hmod (by decide) hg1 m2 hb1 b2 ?_) (by rfl)
  refine PySem.callWith_type (by rfl) (evalArgs_all (by rfl) ?_)
  refine wpAny_items_cons ?_ (by rfl)
  refine Call_ (name_builtin hmod (by decide) hg1 m3 hb1 b3 ?_) (by rfl)
  refine PySem.callWith_type (by rfl) (evalArgs_all (by rfl) ?_)
  refine wpAny_items_cons (wpAny_Constant_int ?_) (by rfl)
  refine wpAny_items_cons (wpAny_Constant_int ?_) (by rfl)
  refine wpAny_items_nil ?_
  refine call_range_2 (wpAny_items_nil ?_)
  refine call_list_range hh (Heap.get?_push_size _ rfl) (smallR e1 (by lia) (by lia) (by exact ⟨by decide, by decide⟩) (by exact ⟨Int.le_trans (by decide) (Int.natCast_nonneg _), Int.le_trans (Int.ofNat_le.mpr hnn) (by decide)⟩)) e1 (by exact Nat.le_trans hnn (by decide)) fun h2 tk2 acc c2 k2 o2 i2 => ?_
  dsimp only at k2 o2 ⊢
  have I2 : IntsAre acc.toList (rangeInts a n) := by
    obtain ⟨z1, z2⟩ := i2
    refine intsAre_of (by rw [rangeInts, List.length_map, List.length_range, Array.length_toList, z1]) fun i v hv => ?_
    obtain ⟨t, e⟩ := z2 i v (by rw [← Array.getElem?_toList]; exact hv)
    refine ⟨t, ?_⟩
    have hin : i < n := by
      rcases Nat.lt_or_ge i acc.toList.length with q | q
      · rw [Array.length_toList, z1] at q; exact q
      · rw [List.getElem?_eq_none q] at hv; cases hv
    rw [e]
    congr 1
    unfold rangeInts
    simp [List.getD, hin]
  have hL1 : h2.get? s.heap.objs.size = some { cls := .type "list", data := .seq vs.toArray } := k2 _ _ (Heap.get?_push_of_some _ (Heap.get?_push_size _ rfl))
  have hz : vs.toArray.size + acc.size ≤ sizeLine := by
    have : acc.size = n := i2.1
    rw [List.size_toArray, I.length, this, sizeLine_eq]; lia
  refine PySem.P.add_list hL1 o2 ?_ hz
  refine wpAny_items_nil ?_
  dsimp only
  have hI : IntsAre (vs.toArray ++ acc).toList (ns ++ rangeInts a n) := by
    have : (vs.toArray ++ acc).toList = vs ++ acc.toList := by simp
    rw [this]; exact IntsAre.app I I2
  have hlen : (vs.toArray ++ acc).size = ns.length + n := by
    have : acc.size = n := i2.1
    rw [Array.size_append, List.size_toArray, I.length, this]
  have hlt : s.heap.objs.size < h2.objs.size := Heap.lt_size hL1
  refine PySem.call_set_list (items := vs.toArray ++ acc) (ns := ns ++ rangeInts a n) hh ⟨_, Heap.get?_push_size _ rfl, rfl, _, rfl⟩ hI (by rw [hlen]; unfold scanBound; lia) fun h3 tk3 hS k3 => ?_
  rw [hlen] at hS
  dsimp only at hS k3 ⊢
  refine h _ h3 tk3 (fun b o e => ?_) hS ?_
  · have e2 := k2 b o (Heap.get?_push_of_some _ (Heap.get?_push_of_some _ e))
    exact k3 b o (Nat.lt_trans (Heap.lt_size e2) (by rw [Heap.size_push]; exact Nat.lt_succ_self _)) (Heap.get?_push_of_some _ e2)
  · rw [Heap.size_push]
    exact Nat.le_trans (Nat.le_of_lt hlt) (Nat.le_succ _)
end
noncomputable def dD (i : Nat) : DefRec := (PySem.defsOf pw).getD i ⟨"", default, [], default, default⟩
noncomputable def stD (i : Nat) : Stmt := pw.main.body.getD i (.Pass default)
noncomputable def ds1 : List DefRec := [dD 0, dD 1]
noncomputable def ds2 : List DefRec := [dD 2, dD 3, dD 4, dD 5, dD 6, dD 7]
noncomputable def ds3 : List DefRec := [dD 8]
noncomputable def ds4 : List DefRec := [dD 9]
noncomputable def ds5 : List DefRec := [dD 10, dD 11, dD 12, dD 13, dD 14, dD 15]
theorem body_eq : pw.main.body = stD 0 :: stD 1 :: (ds1.map (·.stmt) ++ stD 4 :: stD 5 :: (ds2.map (·.stmt) ++ stD 12 :: stD 13 :: (ds3.map (·.stmt) ++ stD 15 :: (ds4.map (·.stmt) ++ stD 17 :: (ds5.map (·.stmt) ++ []))))) := by rfl
structure PlainAt (d : DefRec) : Prop where
  p : d.Plain pw
  doc : docOf d.body = none
theorem plain0 : PlainAt (dD 0) := ⟨⟨fun env => rfl, by decide +kernel, rfl, rfl, by decide +kernel⟩, rfl⟩
theorem plain1 : PlainAt (dD 1) := ⟨⟨fun env => rfl, by decide +kernel, rfl, rfl, by decide +kernel⟩, rfl⟩
theorem plain2 : PlainAt (dD 2) := ⟨⟨fun env => rfl, by decide +kernel, rfl, rfl, by decide +kernel⟩, rfl⟩
theorem plain3 : PlainAt (dD 3) := ⟨⟨fun env => rfl, by decide +kernel, rfl, rfl, by decide +kernel⟩, rfl⟩
theorem plain4 : PlainAt (dD 4) := ⟨⟨fun env => rfl, by decide +kernel, rfl, rfl, by decide +kernel⟩, rfl⟩
theorem plain5 : PlainAt (dD 5) := ⟨⟨fun env => rfl, by decide +kernel, rfl, rfl, by decide +kernel⟩, rfl⟩
theorem plain6 : PlainAt (dD 6) := ⟨⟨fun env => rfl, by decide +kernel, rfl, rfl, by decide +kernel⟩, rfl⟩
theorem plain7 : PlainAt (dD 7) := ⟨⟨fun env => rfl, by decide +kernel, rfl, rfl, by decide +kernel⟩, rfl⟩
theorem plain8 : PlainAt (dD 8) := ⟨⟨fun env => rfl, by decide +kernel, rfl, rfl, by decide +kernel⟩, rfl⟩
theorem plain9 : PlainAt (dD 9) := ⟨⟨fun env => rfl, by decide +kernel, rfl, rfl, by decide +kernel⟩, rfl⟩
theorem plain10 : PlainAt (dD 10) := ⟨⟨fun env => rfl, by decide +kernel, rfl, rfl, by decide +kernel⟩, rfl⟩
theorem plain11 : PlainAt (dD 11) := ⟨⟨fun env => rfl, by decide +kernel, rfl, rfl, by decide +kernel⟩, rfl⟩
theorem plain12 : PlainAt (dD 12) := ⟨⟨fun env => rfl, by decide +kernel, rfl, rfl, by decide +kernel⟩, rfl⟩
theorem plain13 : PlainAt (dD 13) := ⟨⟨fun env => rfl, by decide +kernel, rfl, rfl, by decide +kernel⟩, rfl⟩
theorem plain14 : PlainAt (dD 14) := ⟨⟨fun env => rfl, by decide +kernel, rfl, rfl, by decide +kernel⟩, rfl⟩
theorem plain15 : PlainAt (dD 15) := ⟨⟨fun env => rfl, by decide +kernel, rfl, rfl, by decide +kernel⟩, rfl⟩
noncomputable def dsAll : List DefRec := ds1 ++ ds2 ++ ds3 ++ ds4 ++ ds5
theorem plains : ∀ d ∈ dsAll, PlainAt d := by
  intro d m
  have e : dsAll = [dD 0, dD 1, dD 2, dD 3, dD 4, dD 5, dD 6, dD 7, dD 8, dD 9, dD 10, dD 11, dD 12, dD 13, dD 14, dD 15] := rfl
  rw [e] at m
  simp only [List.mem_cons, List.not_mem_nil, or_false] at m
  rcases m with rfl | rfl | rfl | rfl | rfl | rfl | rfl | rfl | rfl | rfl | rfl | rfl | rfl | rfl | rfl | rfl
  · exact plain0
  · exact plain1
  · exact plain2
  · exact plain3
  · exact plain4
  · exact plain5
  · exact plain6
  · exact plain7
  · exact plain8
  · exact plain9
  · exact plain10
  · exact plain11
  · exact plain12
  · exact plain13
  · exact plain14
  · exact plain15
structure Step (Pl : Addr) (ds : List DefRec) (names : List Str) (h h' : Heap) (u u' : List (Str × Value)) (l l' : List (Pos × Addr)) (done done' : List (DefRec × Addr × Addr)) : Prop where
  keep : ∀ b o, b ≠ Pl → b ≠ mainGlobals → h.get? b = some o → h'.get? b = some o
  oth : ∀ x, x ∉ names → u'.lookup x = u.lookup x
  nam : ∀ p ∈ u', p ∈ u ∨ p.1 ∈ names
  pos : ∀ q ∈ l', q ∈ l ∨ ∃ d ∈ ds, q.1 = d.pos
  old : ∀ e ∈ done, e ∈ done'
theorem Step.refl {Pl : Addr} {h : Heap} {u : List (Str × Value)} {l : List (Pos × Addr)} {done : List (DefRec × Addr × Addr)} : Step Pl [] [] h h u u l l done done :=
  ⟨fun _ _ _ _ e => e, fun _ _ => rfl, fun p m => .inl m, fun q m => .inl m, fun e m => m⟩
theorem Step.trans {Pl : Addr} {ds ds' : List DefRec} {ns ns' : List Str} {h h1 h2 : Heap} {u u1 u2 : List (Str × Value)} {l l1 l2 : List (Pos × Addr)} {done done1 done2 : List (DefRec × Addr × Addr)} (a : Step Pl ds ns h h1 u u1 l l1 done done1) (b : Step Pl ds' ns' h1 h2 u1 u2 l1 l2 done1 done2) : Step Pl (ds ++ ds') (ns ++ ns') h h2 u u2 l l2 done done2 := by
  refine ⟨fun x o p q e => b.keep x o p q (a.keep x o p q e), fun x hx => ?_, fun p m => ?_, fun q m => ?_, fun e m => b.old e (a.old e m)⟩
  · rw [List.mem_append, not_or] at hx
    rw [b.oth x hx.2, a.oth x hx.1]
  · rcases b.nam p m with m | m
    · rcases a.nam p m with m | m
      · exact .inl m
      · exact .inr (List.mem_append_left _ m)
    · exact .inr (List.mem_append_right _ m)
  · rcases b.pos q m with m | ⟨d, m, e⟩
    · rcases a.pos q m with m | ⟨d, m, e⟩
      · exact .inl m
      · exact .inr ⟨d, List.mem_append_left _ m, e⟩
    · exact .inr ⟨d, List.mem_append_right _ m, e⟩
theorem Step.defs {Pl : Addr} {ds : List DefRec} {h h' : Heap} {u u' : List (Str × Value)} {l l' : List (Pos × Addr)} {done done' : List (DefRec × Addr × Addr)} (R : Ran ds u u' l l' done done') (k : ∀ b o, b ≠ Pl → b ≠ mainGlobals → h.get? b = some o → h'.get? b = some o) : Step Pl ds (ds.map (·.name)) h h' u u' l l' done done' :=
  ⟨k, fun x hx => R.oth x fun d m e => hx (List.mem_map.mpr ⟨d, m, e.symm⟩), fun p m => (R.nam p m).imp id fun ⟨d, m, e⟩ => List.mem_map.mpr ⟨d, m, e.symm⟩, R.pos, R.old⟩
theorem Step.put {Pl : Addr} {h h' : Heap} {x : Str} {v : Value} {u : List (Str × Value)} {l : List (Pos × Addr)} {done : List (DefRec × Addr × Addr)} (k : ∀ b o, b ≠ mainGlobals → h.get? b = some o → h'.get? b = some o) : Step Pl [] [x] h h' u ((x, v) :: u) l l done done := by
  refine ⟨fun b o _ q e => k b o q e, fun y hy => ?_, fun p m => ?_, fun q m => .inl m, fun e m => m⟩
  · rw [List.lookup_cons]
    have : (y == x) = false := by simpa using hy
    rw [this]
  · rcases List.mem_cons.mp m with rfl | m
    · exact .inr (List.mem_singleton.mpr rfl)
    · exact .inl m
theorem lookup_none {x : Str} : ∀ {u : List (Str × Value)}, (∀ p ∈ u, p.1 ≠ x) → u.lookup x = none
  | [], _ => rfl
  | (a, v) :: u, h => by
    rw [List.lookup_cons]
    have : (x == a) = false := by simpa using fun e : x = a => h (a, v) (List.mem_cons_self ..) e.symm
    rw [this]
    exact lookup_none fun p m => h p (List.mem_cons_of_mem _ m)
theorem lookup_head {x : Str} {v : Value} {u : List (Str × Value)} : ((x, v) :: u).lookup x = some v := by rw [List.lookup_cons]; simp
theorem run_defs {M : Model} {A : Around} {E : Value → Shared → Prop} {h0 : Heap} {mg0 : Str → Option Value} {c Pl F : Addr} {s : Shared} {u : List (Str × Value)} {l : List (Pos × Addr)} {done : List (DefRec × Addr × Addr)} {rest : List Stmt} {Q : Flow → Shared → Prop} (before ds : List DefRec) (hsub : ∀ d ∈ ds, d ∈ dsAll) (hn : (ds.map (·.name)).Nodup) (hp : ((before ++ ds).map fun d => (d.pos.line, d.pos.col)).Nodup)
    (I : TopI h0 mg0 c Pl s.heap u l done) (hl : ∀ q ∈ l, ∃ d ∈ before, q.1 = d.pos)
    (k : ∀ h' tk u' l' done', TopI h0 mg0 c Pl h' u' l' done' → Step Pl ds (ds.map (·.name)) s.heap h' u u' l l' done done' → (∀ d ∈ ds, ∃ a P, u'.lookup d.name = some (.ref a) ∧ (d, a, P) ∈ done') → wpAny M A (execs rest (mainEnv pw c F)) Q E { s with heap := h', toks := tk }) :
    wpAny M A (execs (ds.map (·.stmt) ++ rest) (mainEnv pw c F)) Q E s := by
  rw [List.map_append] at hp
  have hp' := List.nodup_append.mp hp
  refine top_defs rfl ds s u l done rest Q (fun d m => ⟨(plains d (hsub d m)).p, (plains d (hsub d m)).doc⟩) hn hp'.2.1 (fun d m q mq x => ?_) I fun h' tk u' l' done' I' R k' => k h' tk u' l' done' I' (Step.defs R k') R.got
  obtain ⟨e, me, eq⟩ := hl q mq
  refine hp'.2.2 (e.pos.line, e.pos.col) (List.mem_map.mpr ⟨e, me, rfl⟩) (d.pos.line, d.pos.col) (List.mem_map.mpr ⟨d, m, rfl⟩) ?_
  rw [← eq, x.1, x.2]
section
variable {w : World} {A : Around} {E : Value → Shared → Prop} {h0 : Heap} {mg0 : Str → Option Value} {c Pl F : Addr} {s : Shared} {u : List (Str × Value)} {l : List (Pos × Addr)} {done : List (DefRec × Addr × Addr)} {rest : List Stmt} {Q : Flow → Shared → Prop}
theorem run_str {nm val : Str} {st : Stmt} (hst : ∃ p k p2 pos, st = .Assign [.Name nm p] (.Constant (.str val) k p2) pos) (hloc : pw.main.scope.names.lookup nm = some .local) (hx : nm ≠ "__builtins__") (I : TopI h0 mg0 c Pl s.heap u l done)
    (k : ∀ t h' tk, TopI h0 mg0 c Pl h' ((nm, .str val t) :: u) l done → Step Pl [] [nm] s.heap h' u ((nm, .str val t) :: u) l l done done → wpAny (model pw w) A (execs rest (mainEnv pw c F)) Q E { s with heap := h', toks := tk }) :
    wpAny (model pw w) A (execs (st :: rest) (mainEnv pw c F)) Q E s := by
  obtain ⟨p, n, p2, pos, rfl⟩ := hst
  refine wpAny_execs_cons (top_assign (V := fun _ v => ∃ t, v = .str val t) hloc rfl hx I (wpAny_Constant_str ⟨s.heap, _, rfl, fun _ _ e => e, _, rfl⟩) (fun v h₁ h' tk hv k1 k2 I' => ?_) rfl)
  obtain ⟨t, rfl⟩ := hv
  exact k t h' tk I' (Step.put fun b o nb e => k2 b o nb (k1 b o e))
theorem run_int {nm : Str} {i : Int} {st : Stmt} (hst : ∃ p k p2 pos, st = .Assign [.Name nm p] (.Constant (.int i) k p2) pos) (hloc : pw.main.scope.names.lookup nm = some .local) (hx : nm ≠ "__builtins__") (I : TopI h0 mg0 c Pl s.heap u l done)
    (k : ∀ t h' tk, TopI h0 mg0 c Pl h' ((nm, .int i t) :: u) l done → Step Pl [] [nm] s.heap h' u ((nm, .int i t) :: u) l l done done → wpAny (model pw w) A (execs rest (mainEnv pw c F)) Q E { s with heap := h', toks := tk }) :
    wpAny (model pw w) A (execs (st :: rest) (mainEnv pw c F)) Q E s := by
  obtain ⟨p, n, p2, pos, rfl⟩ := hst
  refine wpAny_execs_cons (top_assign (V := fun _ v => ∃ t, v = .int i t) hloc rfl hx I (wpAny_Constant_int ⟨s.heap, _, rfl, fun _ _ e => e, _, rfl⟩) (fun v h₁ h' tk hv k1 k2 I' => ?_) rfl)
  obtain ⟨t, rfl⟩ := hv
  exact k t h' tk I' (Step.put fun b o nb e => k2 b o nb (k1 b o e))
noncomputable def b1Ns : List Int := [173, 847, 6150, 6155, 6156, 6157, 8203, 8204, 8205, 8288, 65279]
theorem b1_shape : ∃ (p pos ps pl pr p1 p2 lp lq bq sq rq : Pos) (k1 k2 : Nat) (es : List Expr), stD 13 = .Assign [.Name "b1_set" p] (.Call (.Name "set" ps) [.BinOp (.List es lp) .Add (.Call (.Name "list" pl) [.Call (.Name "range" pr) [.Constant (.int 65024) k1 p1, .Constant (.int 65040) k2 p2] [] rq] [] lq) bq] [] sq) pos ∧ intsOf es = some b1Ns :=
  ⟨_, _, _, _, _, _, _, _, _, _, _, _, _, _, _, rfl, rfl⟩
theorem b1_set (k : Int) : (firstMet (fun i => (b1Ns ++ rangeInts 65024 16).getD i 0) (b1Ns.length + 16)).any (· == k) = b1Has k := by
  rw [firstMet_any]
  have e : (List.range (b1Ns.length + 16)).map (fun i => (b1Ns ++ rangeInts 65024 16).getD i 0) = b1Ns ++ rangeInts 65024 16 := by decide +kernel
  rw [e, List.any_append]
  unfold b1Has
  congr 1
  · rw [Bool.eq_iff_iff, List.any_eq_true, List.contains_iff_mem]
    constructor
    · rintro ⟨x, m, q⟩; rw [← eq_of_beq q]; exact m
    · intro m; exact ⟨k, m, beq_self_eq_true k⟩
  · rw [Bool.eq_iff_iff, List.any_eq_true, Bool.and_eq_true, decide_eq_true_eq, decide_eq_true_eq]
    unfold rangeInts
    constructor
    · rintro ⟨x, m, q⟩
      obtain ⟨i, hi, rfl⟩ := List.mem_map.mp m
      have hi := List.mem_range.mp hi
      have := eq_of_beq q
      omega
    · rintro ⟨a, b⟩
      refine ⟨k, List.mem_map.mpr ⟨(k - 65024).toNat, List.mem_range.mpr (by omega), by omega⟩, beq_self_eq_true k⟩
theorem setOf_keep {h h' : Heap} {a : Addr} {S : Int → Bool} {n : Nat} (x : h.SetOf (kI pw w) a S n) (k : ∀ o, h.get? a = some o → h'.get? a = some o) : h'.SetOf (kI pw w) a S n := by
  obtain ⟨o, es, ep, t, ho, r⟩ := x; exact ⟨o, es, ep, t, k _ ho, r⟩
theorem dictOf_keep1 {h h' : Heap} {a : Addr} {kvs : List (Int × Value)} (D : h.DictOf (kI pw w) a kvs) (k : ∀ o, h.get? a = some o → h'.get? a = some o) : h'.DictOf (kI pw w) a kvs := by
  obtain ⟨o, es, ep, ho, r⟩ := D; exact ⟨o, es, ep, k _ ho, r⟩
theorem run_b1 {mb : Str → Option Value} (hh : A.handled = none) (hb : s.heap.Ns builtinsNs mb) (m1 : mgOf u mg0 "set" = none) (m2 : mgOf u mg0 "list" = none) (m3 : mgOf u mg0 "range" = none) (b1 : mb "set" = some (.type "set")) (b2 : mb "list" = some (.type "list")) (b3 : mb "range" = some (.type "range")) (I : TopI h0 mg0 c Pl s.heap u l done)
    (k : ∀ d n h' tk, TopI h0 mg0 c Pl h' (("b1_set", .ref d) :: u) l done → Step Pl [] ["b1_set"] s.heap h' u (("b1_set", .ref d) :: u) l l done done → h'.SetOf (kI pw w) d b1Has n → Pl < d → wpAny (model pw w) A (execs rest (mainEnv pw c F)) Q E { s with heap := h', toks := tk }) :
    wpAny (model pw w) A (execs (stD 13 :: rest) (mainEnv pw c F)) Q E s := by
  obtain ⟨p, pos, ps, pl, pr, p1, p2, lp, lq, bq, sq, rq, k1, k2, es, e, hi⟩ := b1_shape
  rw [e]
  have hPl := I.main.code.lt.2
  refine wpAny_execs_cons (top_assign (V := fun h v => ∃ d n, v = .ref d ∧ h.SetOf (kI pw w) d b1Has n ∧ Pl < d) rfl rfl (by decide +kernel) I
    (eval_b1 (n := 16) rfl hh hi (by decide) (by decide) (by decide) (by decide) (by decide) I.main.g hb m1 m2 m3 b1 b2 b3 fun d h' tk kp S ld => ⟨h', tk, rfl, kp, d, _, rfl, SetOf_congr S b1_set rfl, Nat.lt_of_lt_of_le hPl ld⟩) (fun v h₁ h' tk hv k1 k2 I' => ?_) rfl)
  obtain ⟨d, n, rfl, S, ld⟩ := hv
  exact k d n h' tk I' (Step.put fun b o nb e => k2 b o nb (k1 b o e)) (setOf_keep S fun o => k2 d o (Nat.ne_of_gt (Nat.lt_trans I.main.low.2 ld))) ld
noncomputable def dQ (st : Stmt) : Pos := (asgE st).2.pos
noncomputable def dP (st : Stmt) : Pos := ((asgE st).1.headD (.Name "" default)).pos
noncomputable def dPos (st : Stmt) : Pos := st.pos
theorem b3_pairs : constPairs (dKs (stD 15)) (dVs (stD 15)) = some b3Pairs := by decide +kernel
theorem b3_eq : stD 15 = .Assign [.Name "b3_exceptions" (dP (stD 15))] (.Dict (dKs (stD 15)) (dVs (stD 15)) (dQ (stD 15))) (dPos (stD 15)) := by kernel_rfl
theorem b3_shape : ∃ (p pos q : Pos) (ks : List (Option Expr)) (vs : List Expr), stD 15 = .Assign [.Name "b3_exceptions" p] (.Dict ks vs q) pos ∧ constPairs ks vs = some b3Pairs := ⟨_, _, _, _, _, b3_eq, b3_pairs⟩
noncomputable def asc : List Int → Bool
  | a :: b :: r => decide (a < b) && asc (b :: r)
  | _ => true
theorem asc_lt : ∀ {l : List Int} {a : Int}, asc (a :: l) = true → ∀ b ∈ l, a < b
  | [], _, _, _, m => by cases m
  | c :: l, a, h, b, m => by
    simp only [asc, Bool.and_eq_true, decide_eq_true_eq] at h
    rcases List.mem_cons.mp m with rfl | m
    · exact h.1
    · exact Int.lt_trans h.1 (asc_lt h.2 b m)
theorem asc_nodup : ∀ {l : List Int}, asc l = true → l.Nodup
  | [], _ => List.nodup_nil
  | a :: l, h => by
    refine List.nodup_cons.mpr ⟨fun m => absurd (asc_lt h a m) (Int.lt_irrefl _), asc_nodup ?_⟩
    cases l with
    | nil => rfl
    | cons b l =>
      simp only [asc, Bool.and_eq_true] at h
      exact h.2
theorem b3_keys : (b3Pairs.map (·.1)).Nodup := asc_nodup (by decide +kernel)
theorem run_b3 (I : TopI h0 mg0 c Pl s.heap u l done)
    (k : ∀ d kvs h' tk, TopI h0 mg0 c Pl h' (("b3_exceptions", .ref d) :: u) l done → Step Pl [] ["b3_exceptions"] s.heap h' u (("b3_exceptions", .ref d) :: u) l l done done → KVs kvs b3Pairs → h'.DictOf (kI pw w) d kvs → Pl < d → wpAny (model pw w) A (execs rest (mainEnv pw c F)) Q E { s with heap := h', toks := tk }) :
    wpAny (model pw w) A (execs (stD 15 :: rest) (mainEnv pw c F)) Q E s := by
  obtain ⟨p, pos, q, ks, vs, e, hc⟩ := b3_shape
  rw [e]
  have hPl := I.main.code.lt.2
  have hs0 : sysModules < s.heap.objs.size := Nat.lt_trans (Nat.lt_trans (by decide) I.main.low.2) hPl
  refine wpAny_execs_cons (top_assign (V := fun h v => ∃ d kvs, v = .ref d ∧ KVs kvs b3Pairs ∧ h.DictOf (kI pw w) d kvs ∧ Pl < d) rfl rfl (by decide +kernel) I
    (eval_table hc b3_keys (by decide +kernel) (by rw [sizeLine_eq]; decide +kernel) hs0 fun d kvs h' tk K D kp ld => ⟨h', tk, rfl, kp, d, kvs, rfl, K, D, Nat.lt_of_lt_of_le hPl ld⟩) (fun v h₁ h' tk hv k1 k2 I' => ?_) rfl)
  obtain ⟨d, kvs, rfl, K, D, ld⟩ := hv
  exact k d kvs h' tk I' (Step.put fun b o nb e => k2 b o nb (k1 b o e)) K (dictOf_keep1 D fun o => k2 d o (Nat.ne_of_gt (Nat.lt_trans I.main.low.2 ld))) ld
end
noncomputable def topNames : List Str := (["__name__", "ELLIPSIS_MARKER", "_DIV_LIMIT", "b1_set", "b3_exceptions"] : List Str) ++ dsAll.map (·.name)
structure TopEnd (w : World) (h0 : Heap) (mg0 : Str → Option Value) (c Pl : Addr) (h : Heap) (u : List (Str × Value)) (l : List (Pos × Addr)) (done : List (DefRec × Addr × Addr)) : Prop where
  I : TopI h0 mg0 c Pl h u l done
  nam : ∀ p ∈ u, p.1 ∈ topNames
  fns : ∀ d ∈ dsAll, ∃ a P, u.lookup d.name = some (.ref a) ∧ (d, a, P) ∈ done
  ell : ∃ t, u.lookup ("ELLIPSIS_MARKER" : Str) = some (.str "..." t)
  lim : ∃ t, u.lookup ("_DIV_LIMIT" : Str) = some (.int 4000 t)
  set : ∃ a n, u.lookup ("b1_set" : Str) = some (.ref a) ∧ h.SetOf (kI pw w) a b1Has n
  map : ∃ a kvs, u.lookup ("b3_exceptions" : Str) = some (.ref a) ∧ KVs kvs b3Pairs ∧ h.DictOf (kI pw w) a kvs ∧ Pl < a
section
variable {w : World} {A : Around} {E : Value → Shared → Prop} {h0 : Heap} {mg0 mb : Str → Option Value} {c Pl F : Addr} {s : Shared} {Q : Flow → Shared → Prop}
theorem mgOf_none {x : Str} {u : List (Str × Value)} (h : ∀ p ∈ u, p.1 ≠ x) (e : mg0 x = none) : mgOf u mg0 x = none := by
  unfold mgOf; rw [lookup_none h]; exact e
theorem run_b3' {rest : List Stmt} {u : List (Str × Value)} {l : List (Pos × Addr)} {done : List (DefRec × Addr × Addr)} {bp : List (Int × Str)} {st : Stmt} (hbp : bp = b3Pairs) (hst : st = stD 15) (I : TopI h0 mg0 c Pl s.heap u l done)
    (k : ∀ d kvs h' tk, TopI h0 mg0 c Pl h' (("b3_exceptions", .ref d) :: u) l done → Step Pl [] ["b3_exceptions"] s.heap h' u (("b3_exceptions", .ref d) :: u) l l done done → KVs kvs bp → h'.DictOf (kI pw w) d kvs → Pl < d → wpAny (model pw w) A (execs rest (mainEnv pw c F)) Q E { s with heap := h', toks := tk }) :
    wpAny (model pw w) A (execs (st :: rest) (mainEnv pw c F)) Q E s := by
  rw [hst]
  rw [hbp] at k
  exact @run_b3 w A E h0 mg0 c Pl F s u l done rest Q I k
theorem top_all (hh : A.handled = none) (hb : h0.Ns builtinsNs mb) (m1 : mg0 "set" = none) (m2 : mg0 "list" = none) (m3 : mg0 "range" = none) (b1 : mb "set" = some (.type "set")) (b2 : mb "list" = some (.type "list")) (b3 : mb "range" = some (.type "range"))
    (I : TopI h0 mg0 c Pl s.heap [] [] [])
    (k : ∀ h' tk u l done, TopEnd w h0 mg0 c Pl h' u l done → Q .next { s with heap := h', toks := tk }) :
    wpAny (model pw w) A (execs pw.main.body (mainEnv pw c F)) Q E s := by
  obtain ⟨bp, hbp⟩ : ∃ bp, bp = b3Pairs := ⟨_, rfl⟩
  obtain ⟨S15, h15⟩ : ∃ S, S = stD 15 := ⟨_, rfl⟩
  rw [body_eq, ← h15]
  refine run_str (nm := "__name__") ⟨_, _, _, _, rfl⟩ rfl (by decide +kernel) I fun t0 h1 tk1 I1 S1 => ?_
  show wpAny (model pw w) A _ Q E { s with heap := h1, toks := tk1 }
  refine run_str (nm := "ELLIPSIS_MARKER") (val := "...") ⟨_, _, _, _, rfl⟩ rfl (by decide +kernel) I1 fun tE h2 tk2 I2 S2 => ?_
  show wpAny (model pw w) A _ Q E { s with heap := h2, toks := tk2 }
  refine run_defs [] ds1 (fun d m => by simp [dsAll, m]) (by decide +kernel) (by decide +kernel) I2 (fun q m => by cases m) fun h3 tk3 u3 l3 done3 I3 S3 G3 => ?_
  show wpAny (model pw w) A _ Q E { s with heap := h3, toks := tk3 }
  refine run_str (nm := "__name__") ⟨_, _, _, _, rfl⟩ rfl (by decide +kernel) I3 fun t4 h4 tk4 I4 S4 => ?_
  show wpAny (model pw w) A _ Q E { s with heap := h4, toks := tk4 }
  refine run_int (nm := "_DIV_LIMIT") (i := 4000) ⟨_, _, _, _, rfl⟩ rfl (by decide +kernel) I4 fun tL h5 tk5 I5 S5 => ?_
  show wpAny (model pw w) A _ Q E { s with heap := h5, toks := tk5 }
  have T5 := (S3.trans S4).trans S5
  refine run_defs ds1 ds2 (fun d m => by simp [dsAll, m]) (by decide +kernel) (by decide +kernel) I5 (fun q m => ?_) fun h6 tk6 u6 l6 done6 I6 S6 G6 => ?_
  rotate_left
  show wpAny (model pw w) A _ Q E { s with heap := h6, toks := tk6 }
  rotate_right
  · rcases T5.pos q m with m | m
    · cases m
    · simpa using m
  refine run_str (nm := "__name__") ⟨_, _, _, _, rfl⟩ rfl (by decide +kernel) I6 fun t7 h7 tk7 I7 S7 => ?_
  show wpAny (model pw w) A _ Q E { s with heap := h7, toks := tk7 }
  have T7 := ((((S1.trans S2).trans T5).trans S6).trans S7)
  have low := I.main.low
  have hbk : ∀ {h' : Heap}, (∀ b o, b ≠ Pl → b ≠ mainGlobals → h0.get? b = some o → h'.get? b = some o) → h'.Ns builtinsNs mb := fun kp => hb.at fun o => kp _ o (Nat.ne_of_lt (Nat.lt_trans (by decide) low.2)) (by decide)
  have nn : ∀ {x : Str}, x ∉ [("__name__" : Str)] ++ [("ELLIPSIS_MARKER" : Str)] ++ (List.map (fun x => x.name) ds1 ++ [("__name__" : Str)] ++ [("_DIV_LIMIT" : Str)]) ++ List.map (fun x => x.name) ds2 ++ [("__name__" : Str)] → ∀ p ∈ ((("__name__" : Str), Value.str "cpy313.stringprep" t7) :: u6), p.1 ≠ x := fun {x} hx p m e => by
    rcases T7.nam p m with m | m
    · cases m
    · exact hx (e ▸ m)
  refine run_b1 (mb := mb) hh (hbk I7.keep) (mgOf_none (nn (by decide +kernel)) m1) (mgOf_none (nn (by decide +kernel)) m2) (mgOf_none (nn (by decide +kernel)) m3) b1 b2 b3 I7 fun dB nB h8 tk8 I8 S8 SB lB => ?_
  show wpAny (model pw w) A _ Q E { s with heap := h8, toks := tk8 }
  have T8 := T7.trans S8
  refine run_defs (ds1 ++ ds2) ds3 (fun d m => by simp [dsAll, m]) (by decide +kernel) (by decide +kernel) I8 (fun q m => ?_) fun h9 tk9 u9 l9 done9 I9 S9 G9 => ?_
  rotate_left
  show wpAny (model pw w) A _ Q E { s with heap := h9, toks := tk9 }
  rotate_right
  · rcases T8.pos q m with m | m
    · cases m
    · simpa using m
  refine run_b3' hbp h15 I9 fun dM kM h10 tk10 I10 S10 KM DM lM => ?_
  show wpAny (model pw w) A _ Q E { s with heap := h10, toks := tk10 }
  have T10 := (T8.trans S9).trans S10
  refine run_defs (ds1 ++ ds2 ++ ds3) ds4 (fun d m => by simp [dsAll, m]) (by decide +kernel) (by decide +kernel) I10 (fun q m => ?_) fun h11 tk11 u11 l11 done11 I11 S11 G11 => ?_
  rotate_left
  show wpAny (model pw w) A _ Q E { s with heap := h11, toks := tk11 }
  rotate_right
  · rcases T10.pos q m with m | m
    · cases m
    · simpa [or_assoc] using m
  refine run_str (nm := "__name__") ⟨_, _, _, _, rfl⟩ rfl (by decide +kernel) I11 fun t12 h12 tk12 I12 S12 => ?_
  show wpAny (model pw w) A _ Q E { s with heap := h12, toks := tk12 }
  have T12 := (T10.trans S11).trans S12
  refine run_defs (ds1 ++ ds2 ++ ds3 ++ ds4) ds5 (fun d m => by simp [dsAll, m]) (by decide +kernel) (by decide +kernel) I12 (fun q m => ?_) fun h13 tk13 u13 l13 done13 I13 S13 G13 => ?_
  rotate_left
  show wpAny (model pw w) A _ Q E { s with heap := h13, toks := tk13 }
  rotate_right
  · rcases T12.pos q m with m | m
    · cases m
    · simpa [or_assoc] using m
  refine wpAny_execs_nil (k h13 tk13 u13 l13 done13 ?_)
  have V12 := S12.trans S13
  have V11 := S11.trans V12
  have V10 := S10.trans V11
  have V9 := S9.trans V10
  have V8 := S8.trans V9
  have V7 := S7.trans V8
  have V6 := S6.trans V7
  have V5 := S5.trans V6
  have V4 := S4.trans V5
  have V3 := S3.trans V4
  have T13 := T12.trans S13
  refine ⟨I13, fun p m => ?_, fun d m => ?_, ⟨tE, ?_⟩, ⟨tL, ?_⟩, ⟨dB, nB, ?_, ?_⟩, ⟨dM, kM, ?_, hbp ▸ KM, ?_, lM⟩⟩
  · rcases T13.nam p m with m | m
    · cases m
    · exact List.contains_iff_mem.mp (List.all_eq_true.mp (by decide +kernel : (_ : List Str).all (fun x => topNames.contains x) = true) _ m)
  · have m : d ∈ ds1 ∨ d ∈ ds2 ∨ d ∈ ds3 ∨ d ∈ ds4 ∨ d ∈ ds5 := by simpa [dsAll] using m
    have fin : ∀ {ds : List DefRec} {nm : List Str} {h : Heap} {u : List (Str × Value)} {l : List (Pos × Addr)} {done : List (DefRec × Addr × Addr)} {dsn : List DefRec}, (∀ d ∈ ds, ∃ a P, u.lookup d.name = some (.ref a) ∧ (d, a, P) ∈ done) → Step Pl dsn nm h h13 u u13 l l13 done done13 → ds.all (fun d => !nm.contains d.name) = true → d ∈ ds → ∃ a P, u13.lookup d.name = some (.ref a) ∧ (d, a, P) ∈ done13 := fun {ds nm h u l done dsn} g S hn m => by
      obtain ⟨a, P, e1, e2⟩ := g d m
      have := List.all_eq_true.mp hn d m
      refine ⟨a, P, ?_, S.old _ e2⟩
      rw [S.oth _ (by simpa using this)]; exact e1
    rcases m with m | m | m | m | m
    · exact fin G3 V4 (by decide +kernel) m
    · exact fin G6 V7 (by decide +kernel) m
    · exact fin G9 V10 (by decide +kernel) m
    · exact fin G11 V12 (by decide +kernel) m
    · exact fin G13 Step.refl (by decide +kernel) m
  · rw [V3.oth _ (by decide +kernel)]; exact lookup_head
  · rw [V6.oth _ (by decide +kernel)]; exact lookup_head
  · rw [V9.oth _ (by decide +kernel)]; exact lookup_head
  · exact setOf_keep SB fun o => V9.keep _ o (Nat.ne_of_gt lB) (Nat.ne_of_gt (Nat.lt_trans low.2 lB))
  · rw [V11.oth _ (by decide +kernel)]; exact lookup_head
  · exact dictOf_keep1 DM fun o => V11.keep _ o (Nat.ne_of_gt lM) (Nat.ne_of_gt (Nat.lt_trans low.2 lM))
end
theorem behind_eq : behindTheImports pw = pw.main.body := by rfl
section
variable {w : World} {A : Around} {E : Value → Shared → Prop} {s : Shared} {Q : Fin → Shared → Prop} {mg0 mb : Str → Option Value}
structure Before (s : Shared) (mg0 mb : Str → Option Value) : Prop where
  g : s.heap.Ns mainGlobals mg0
  b : s.heap.Ns builtinsNs mb
  bm : ∃ bm o, mg0 "__builtins__" = some (.ref bm) ∧ bm ≠ builtinsNs ∧ bm ≠ mainGlobals ∧ s.heap.get? bm = some o ∧ o.cls = .type "module" ∧ o.dict = some builtinsNs ∧ o.data = .plain
  m1 : mg0 "set" = none
  m2 : mg0 "list" = none
  m3 : mg0 "range" = none
  b1 : mb "set" = some (.type "set")
  b2 : mb "list" = some (.type "list")
  b3 : mb "range" = some (.type "range")
theorem stub_walk (hh : A.handled = none) (B : Before s mg0 mb)
    (k : ∀ c Pl h0 h' tk u l done, s.heap.objs.size ≤ c → s.heap.objs.size ≤ Pl → (∀ b o, s.heap.get? b = some o → h0.get? b = some o) → TopEnd w h0 mg0 c Pl h' u l done → Q (.done (.ret .none)) { s with heap := h', toks := tk }) :
    wpAny (model pw w) A (topStub pw).cur Q (fun _ _ => False) s := by
  unfold topStub
  dsimp only
  refine wpAny_bind (wpAny_moduleCode fun c Pl h1 tk1 k1 lc lP hc => ?_)
  unfold newBodyFrame
  have g1 : h1.Ns mainGlobals mg0 := B.g.keeps k1
  refine wpAny_bind (wpAny_bind (wpAny_nsGet g1 (wpAny_alloc ?_)))
  obtain ⟨body, hbody⟩ : ∃ b, b = pw.main.body := ⟨_, rfl⟩
  rw [behind_eq, ← hbody]
  show wpAny (model pw w) A (do let _ ← run (Code.body body (mainEnv pw c h1.objs.size)); ret Value.none) Q (fun _ _ => False) { s with heap := h1.push { cls := .type "frame", slots := #[some (Value.ref c), some (Value.ref mainNs), some (Value.ref mainNs), none, some ((mg0 "__name__").getD Value.none), none, some (Value.ref builtinsNs)] }, toks := tk1 }
  obtain ⟨H, hH⟩ : ∃ H : Heap, H = h1.push { cls := .type "frame", slots := #[some (Value.ref c), some (Value.ref mainNs), some (Value.ref mainNs), none, some ((mg0 "__name__").getD Value.none), none, some (Value.ref builtinsNs)] } := ⟨_, rfl⟩
  rw [← hH]
  have kH1 : ∀ b o, h1.get? b = some o → H.get? b = some o := fun b o e => by rw [hH]; exact Heap.get?_push_of_some _ e
  have kS : ∀ b o, s.heap.get? b = some o → H.get? b = some o := fun b o e => kH1 b o (k1 b o e)
  have low : mainGlobals < c ∧ mainGlobals < Pl := ⟨Nat.lt_of_lt_of_le B.g.lt lc, Nat.lt_of_lt_of_le B.g.lt lP⟩
  have I : TopI H mg0 c Pl H [] [] [] := by
    refine ⟨⟨B.g.keeps kS, hc.keeps kH1, low, ?_⟩, fun _ _ _ _ e => e, (fun e m => by cases m), List.nodup_nil⟩
    obtain ⟨bm, o, e1, e2, e3, e4, e5⟩ := B.bm
    exact ⟨bm, o, e1, e2, e3, Nat.ne_of_lt (Nat.lt_of_lt_of_le (Heap.lt_size e4) lP), kS _ _ e4, e5⟩
  have hann : hasAnns body = false := by rw [hbody]; kernel_rfl
  have hdoc : docOf body = none := by rw [hbody]; kernel_rfl
  refine wpAny_bind (wpAny_run (codeAny_body hann hdoc ?_))
  rw [hbody]
  refine wpAny_mono (E := fun _ _ => False) (@top_all w _ (fun _ _ => False) H mg0 mb c Pl h1.objs.size { s with heap := H, toks := tk1 } (fun f s' => wpAny (model pw w) A (ret Value.none) Q (fun _ _ => False) s') ?_ (B.b.keeps kS) B.m1 B.m2 B.m3 B.b1 B.b2 B.b3 I ?_) (fun _ _ x => x) fun _ _ x => x.elim
  · exact hh
  · intro h' tk u l done T
    exact wpAny_pure (k c Pl H h' tk u l done lc lP kS T)
end
noncomputable def Qs (s : Shared) (t : Thread) : PySem.Step → Prop
  | .halt (.done _) s' => s' = s ∧ through t = true
  | _ => True
theorem qs_ite {p : Prop} [Decidable p] {s : Shared} {t : Thread} {f g : PySem.Step} (h : Qs s t f) (h2 : Qs s t g) : Qs s t (if p then f else g) := by
  split
  · exact h
  · exact h2
theorem qs_step (den : Code → Sem Fin) (prog : Program) (w : World) : ∀ (s : Shared) (t : Thread), Qs s t (step den prog w s t)
  | ⟨heap, gens, drawn, toks, os⟩, ⟨cur, code, pos, stack⟩ => by
    cases cur with
    | pure r =>
      cases r with
      | again c => exact trivial
      | done f =>
        match stack with
        | [] => exact qs_ite trivial ⟨rfl, rfl⟩
        | .ret .. :: _ => exact trivial
        | .gen .. :: _ => exact trivial
    | raise e =>
      match stack with
      | [] => exact qs_ite trivial trivial
      | .ret .. :: _ => exact trivial
      | .gen .. :: _ => exact trivial
    | finish => exact qs_ite trivial trivial
    | load a _ k =>
      dsimp only [step]
      generalize heap.get? a = o
      cases o <;> exact trivial
    | update => exact qs_ite trivial trivial
    | choose => exact qs_ite trivial trivial
    | genState g k =>
      dsimp only [step]
      generalize gens[g]? = o
      cases o <;> exact trivial
    | resume g r l k =>
      dsimp only [step]
      generalize gens[g]? = o
      match o with
      | none => exact trivial
      | some x =>
      match x with
      | .fresh c =>
        match r with
        | .throw _ => exact trivial
        | .send v => cases v <;> exact trivial
      | .suspended .. => exact trivial
      | .running => exact trivial
      | .finished => exact trivial
    | yield =>
      dsimp only [step]
      generalize splitAtGen stack = o
      cases o <;> exact trivial
    | _ => exact trivial
theorem step_done {den : Code → Sem Fin} {prog : Program} {w : World} (s s' : Shared) (t : Thread) (f : Flow) (h : step den prog w s t = .halt (.done f) s') : s' = s ∧ through t = true := by
  have q := qs_step den prog w s t
  rw [h] at q
  exact q
theorem ran_through {den : Code → Sem Fin} {prog : Program} {w : World} : ∀ (n : Nat) (s : Shared) (t : Thread) (f : Flow) (s' : Shared), runN den prog w n s t = .halted (.done f) s' → ∃ m t', runN den prog w m s t = .running s' t' ∧ through t' = true
  | 0, s, t, f, s', h => by cases h
  | n + 1, s, t, f, s', h => by
    simp only [runN] at h
    cases hs : step den prog w s t with
    | go s2 t2 =>
      simp only [hs] at h
      obtain ⟨m, t', e, ht⟩ := ran_through n s2 t2 f s' h
      exact ⟨m + 1, t', by simp only [runN, hs]; exact e, ht⟩
    | halt o s2 =>
      simp only [hs] at h
      injection h with h1 h2
      subst h1; subst h2
      obtain ⟨e, ht⟩ := step_done s s2 t f hs
      exact ⟨0, t, by rw [e]; rfl, ht⟩
theorem thread_runs {prog : Program} {w : World} {t : Sem Fin} {s : Shared} {R : Shared → Prop} (hreg : s.asleep)
    (h : wpAny (model prog w) callerA t (fun fin s' => ∃ f, fin = .done f ∧ (R s' ∧ leftWithCleanup s'.gens = false)) (fun _ _ => False) s) :
    ∃ s'' s', (∃ n t', schedN (denote table) prog w n (.single s ⟨t, .builtin "claim.caller" {}, default, []⟩) = .running (.single s'' t') ∧ through t' = true) ∧ s''.heap.life = s.heap.life ∧ s''.forget = s'.forget ∧ R s' := by
  have h2 := wp_of_wpAny_done (R := fun (r : Result) s' => ((∃ f, r = .ok f) ∧ R s') ∧ leftWithCleanup s'.gens = false) caller_in (wpAny_mono h (fun fin s' ⟨f, e, a, b⟩ => ⟨f, e, ⟨⟨f, rfl⟩, a⟩, b⟩) fun _ _ x => x.elim) default
  obtain ⟨n, r, s', hn, ⟨⟨f, rfl⟩, hR⟩⟩ := (wp_iff_halts (M := model prog w) t (fun (r : Result) s' => (∃ f, r = .ok f) ∧ R s') default s).mp h2
  obtain ⟨s'', hr, hf, hc⟩ := runNI_real (denote table) prog w hn (outcomeOf_ends _)
  have hr' : runN (denote table) prog w n s ⟨t, .builtin "claim.caller" {}, default, []⟩ = .halted (.done f) s'' := hr
  obtain ⟨m, t', hm, ht⟩ := ran_through n s _ f s'' hr'
  have hne : ∀ k s₂, runN (denote table) prog w k s ⟨t, .builtin "claim.caller" {}, default, []⟩ ≠ .halted (.unsupported "lifetime:generator-with-cleanup-left-suspended") s₂ := by
    intro k s₂ hk
    have a := runN_mono (denote table) prog w n k s _ _ s'' hr'
    have b := runN_mono (denote table) prog w k n s _ _ s₂ hk
    rw [Nat.add_comm, b] at a
    injection a with a1 _
    cases a1
  refine ⟨s'', s', ⟨m, t', ?_, ht⟩, runN_life (denote table) prog w hr', hf, hR⟩
  rw [schedN_eq_runN (denote table) prog w s _ hreg ⟨hc, hne⟩ m, hm]
  rfl
theorem leftWithCleanup_nil : leftWithCleanup #[] = false := by unfold leftWithCleanup; simp
structure Zero (s : Shared) : Prop where
  gens : s.gens = #[]
  B : Before s (s.heap.nsMap mainGlobals) (s.heap.nsMap builtinsNs)
  acc : staticsAccountedI s.heap (importedModules pw.main.body)
  stat : ∃ o, s.heap.get? cStatics = some o
  blt : builtinsAsBooted s.heap
  nam : ∀ x v, globalOf s.heap x = some v → x ∈ startupNames
  lim : s.heap.NoLimit
theorem staticOf_same {h h' : Heap} (e : h'.get? cStatics = h.get? cStatics) (k : Str) : staticOf h' k = staticOf h k := by unfold staticOf; rw [e]
theorem builtinOf_same {h h' : Heap} (e : h'.get? builtinsNs = h.get? builtinsNs) (k : Str) : builtinOf h' k = builtinOf h k := by unfold builtinOf; rw [e]
theorem tops_bound : ∀ x ∈ topNames, x ∈ pw.boundNames := by
  have h : topNames.all (fun x => pw.boundNames.contains x) = true := by decide +kernel
  intro x m
  exact List.contains_iff_mem.mp (List.all_eq_true.mp h x m)
theorem tops_laid : ∀ x ∈ laidNames, x ∉ topNames := by
  have h : laidNames.all (fun x => !topNames.contains x) = true := by decide +kernel
  intro x m q
  have := List.all_eq_true.mp h x m
  simp at this
  exact this q
theorem mgOf_old {x : Str} {u : List (Str × Value)} {m : Str → Option Value} (h : ∀ p ∈ u, p.1 ∈ topNames) (hx : x ∉ topNames) : mgOf u m x = m x := by
  unfold mgOf; rw [lookup_none fun p mp (e : p.1 = x) => hx (by rw [← e]; exact h p mp)]
theorem mgOf_some {x : Str} {v : Value} {u : List (Str × Value)} {m : Str → Option Value} (h : u.lookup x = some v) : mgOf u m x = some v := by unfold mgOf; rw [h]
theorem lookup_mem {x : Str} {v : Value} : ∀ {u : List (Str × Value)}, u.lookup x = some v → ∃ p ∈ u, p.1 = x
  | (a, b) :: u, h => by
    rw [List.lookup_cons] at h
    by_cases q : x = a
    · exact ⟨(a, b), List.mem_cons_self .., q.symm⟩
    · have : (x == a) = false := by simpa using q
      rw [this] at h
      obtain ⟨p, m, e⟩ := lookup_mem h
      exact ⟨p, List.mem_cons_of_mem _ m, e⟩
theorem top_ran {w : World} {s : Shared} (hz : s.asleep) (Z : Zero s) : ∃ s₁ c Pl h0 u l done, TopRan pw w s s₁ ∧ s₁.asleep ∧ s₁.gens = #[] ∧ TopEnd w h0 (s.heap.nsMap mainGlobals) c Pl s₁.heap u l done ∧ (∀ b o, b ≠ mainGlobals → s.heap.get? b = some o → s₁.heap.get? b = some o) := by
  have hw := stub_walk (w := w) (A := callerA) (s := s) (Q := fun fin s' => ∃ f, fin = .done f ∧ ((∃ c Pl h0 u l done, s'.gens = s.gens ∧ s'.os = s.os ∧ TopEnd w h0 (s.heap.nsMap mainGlobals) c Pl s'.heap u l done ∧ (∀ b o, b ≠ mainGlobals → s.heap.get? b = some o → s'.heap.get? b = some o)) ∧ leftWithCleanup s'.gens = false)) rfl Z.B
    (fun c Pl h0 h' tk u l done lc lP k0 T => ⟨_, rfl, ⟨c, Pl, h0, u, l, done, rfl, rfl, T, fun b o nb e => T.I.keep b o (Nat.ne_of_lt (Nat.lt_of_lt_of_le (Heap.lt_size e) lP)) nb (k0 b o e)⟩, by show leftWithCleanup s.gens = false; rw [Z.gens]; exact leftWithCleanup_nil⟩)
  obtain ⟨s₁, s', run, life, fo, c, Pl, h0, u, l, done, eg, eo, T, kp⟩ := thread_runs hz hw
  obtain ⟨fh, _, _, fos, fg⟩ := Shared.forget_eq fo
  rw [← fh] at T kp
  have g1 : s₁.gens = #[] := by
    rw [eg, Z.gens] at fg
    exact Array.eq_empty_of_size_eq_zero (by have := congrArg Array.size fg; simpa using this)
  have hst : s₁.heap.get? cStatics = s.heap.get? cStatics := by
    obtain ⟨o, e⟩ := Z.stat
    rw [e]; exact kp _ o (by decide) e
  have hbl : s₁.heap.get? builtinsNs = s.heap.get? builtinsNs := by
    obtain ⟨o, es, ep, e, _⟩ := Z.B.b
    rw [e]; exact kp _ o (by decide) e
  have N := T.I.main.g
  have gl : ∀ x, globalOf s₁.heap x = mgOf u (s.heap.nsMap mainGlobals) x := fun x => Claim2Try.globalOf_of_ns N x
  have gl0 : ∀ x, globalOf s.heap x = s.heap.nsMap mainGlobals x := fun x => Claim2Try.globalOf_of_ns Z.B.g x
  refine ⟨s₁, c, Pl, h0, u, l, done, ⟨run, life, Shared.rest_eq (fos.trans eo), fun b o e nt => kp b o (fun q => nt (.inl q)) e, ?_, fun key => .inl (staticOf_same hst key), Pin.keysAreStrs_of_ns N, ?_, ?_, ?_, ?_, ?_⟩, Shared.asleep_of_life life hz, g1, T, kp⟩
  · intro key v e
    rw [staticOf_same hst] at e
    have a := Z.acc key v e
    simpa only [staticOf_same hst] using a
  · intro x hx
    rw [builtinOf_same hbl]; exact Z.blt x hx
  · obtain ⟨bm, o, e1, e2, e3, e4, e5, e6, e7, e8⟩ := T.I.main.bmod
    exact ⟨bm, o, (gl _).trans e1, e5, e6, e7⟩
  · intro g hg
    rw [g1] at hg
    simp at hg
  · intro x v e
    rw [gl] at e
    cases q : u.lookup x with
    | some v' =>
      obtain ⟨p, m, ep⟩ := lookup_mem q
      exact .inr (tops_bound x (ep ▸ T.nam p m))
    | none =>
      have : mgOf u (s.heap.nsMap mainGlobals) x = s.heap.nsMap mainGlobals x := by unfold mgOf; rw [q]
      rw [this, ← gl0] at e
      exact .inl (Z.nam x v e)
  · intro x m
    rw [gl, gl0, mgOf_old T.nam (tops_laid x m)]
noncomputable def bmOk (h : Heap) : Bool := match h.nsMap mainGlobals "__builtins__" with
  | some (.ref bm) => !decide (bm = builtinsNs) && !decide (bm = mainGlobals) && (match h.get? bm with
    | some o => decide (o.cls = .type "module") && decide (o.dict = some builtinsNs) && (match o.data with | .plain => true | _ => false)
    | none => false)
  | _ => false
noncomputable def zeroB (s : Shared) : Bool :=
  (s.gens.size == 0) && s.heap.isNs mainGlobals && s.heap.isNs builtinsNs && s.heap.isNs cStatics && bmOk s.heap && s.heap.accountedOkI (importedModules pw.main.body) &&
  decide (s.heap.nsMap cStatics "sys.recursionlimit" = none) && ((("set" : Str), Value.type "set") :: Blts).all (fun p => decide (s.heap.nsMap mainGlobals p.1 = none) && decide (s.heap.nsMap builtinsNs p.1 = some p.2)) &&
  (s.heap.nsKeys mainGlobals).all startupNames.contains
theorem zero_fact (w : World) : (fencedOpening treeTable pw w 100000).map (fun s => (zeroB s, s.heap.bltView)) = some (true, bltViewBooted) := by kernel_rfl
theorem bm_of {h : Heap} (e : bmOk h = true) : ∃ bm o, h.nsMap mainGlobals "__builtins__" = some (.ref bm) ∧ bm ≠ builtinsNs ∧ bm ≠ mainGlobals ∧ h.get? bm = some o ∧ o.cls = .type "module" ∧ o.dict = some builtinsNs ∧ o.data = .plain := by
  unfold bmOk at e
  split at e
  · next bm q =>
    simp only [Bool.and_eq_true, Bool.not_eq_true', decide_eq_false_iff_not] at e
    obtain ⟨⟨e1, e2⟩, e3⟩ := e
    split at e3
    · next o ho =>
      simp only [Bool.and_eq_true, decide_eq_true_eq] at e3
      obtain ⟨⟨e3, e4⟩, e5⟩ := e3
      split at e5
      · next hd => exact ⟨bm, o, q, e1, e2, ho, e3, e4, hd⟩
      · cases e5
    · cases e3
  · cases e
theorem zero_of {s : Shared} (h : zeroB s = true) (eb : s.heap.bltView = bltViewBooted) : Zero s ∧ ∀ p ∈ ((("set" : Str), Value.type "set") :: Blts), s.heap.nsMap mainGlobals p.1 = none ∧ s.heap.nsMap builtinsNs p.1 = some p.2 := by
  unfold zeroB at h
  simp only [Bool.and_eq_true] at h
  obtain ⟨⟨⟨⟨⟨⟨⟨⟨h1, h2⟩, h3⟩, h4⟩, h5⟩, h6⟩, h9⟩, h7⟩, h8⟩ := h
  have hb : ∀ p ∈ ((("set" : Str), Value.type "set") :: Blts), s.heap.nsMap mainGlobals p.1 = none ∧ s.heap.nsMap builtinsNs p.1 = some p.2 := fun p m => by
    have := List.all_eq_true.mp h7 p m
    simpa only [Bool.and_eq_true, decide_eq_true_eq] using this
  refine ⟨⟨Array.eq_empty_of_size_eq_zero (beq_iff_eq.mp h1), ⟨.of_isNs h2, .of_isNs h3, bm_of h5, (hb _ (List.mem_cons_self ..)).1, (hb ("list", .type "list") (by decide +kernel)).1, (hb ("range", .type "range") (by decide +kernel)).1, (hb _ (List.mem_cons_self ..)).2, (hb ("list", .type "list") (by decide +kernel)).2, (hb ("range", .type "range") (by decide +kernel)).2⟩, Heap.accountedI_of_ok h6, ?_, fun x hx => (Pin.builtinOf_eq h3 x).trans (Heap.of_bltView h3 eb x hx), fun x v e => ?_, ⟨_, .of_isNs h4, of_decide_eq_true h9⟩⟩, hb⟩
  · obtain ⟨o, _, _, e, _⟩ := Heap.Ns.of_isNs h4
    exact ⟨o, e⟩
  · rw [Pin.globalOf_eq h2] at e
    by_cases q : x ∈ s.heap.nsKeys mainGlobals
    · exact List.contains_iff_mem.mp (List.all_eq_true.mp h8 x q)
    · rw [Heap.nsMap_none q] at e; cases e
theorem opened (w : World) : (∃ s, AfterRun (opening pw) w s) ∧ ∀ s', AfterRun (opening pw) w s' → ∃ s₀, fenceModules? pw s' = some s₀ ∧ s₀.asleep ∧ Zero s₀ ∧ ∀ p ∈ ((("set" : Str), Value.type "set") :: Blts), s₀.heap.nsMap mainGlobals p.1 = none ∧ s₀.heap.nsMap builtinsNs p.1 = some p.2 := by
  have h := zero_fact w
  rw [← table_eq_tree] at h
  obtain ⟨s₀, h1, e⟩ := Option.map_eq_some_iff.mp h
  obtain ⟨s, h4, h5⟩ := Option.bind_eq_some_iff.mp h1
  have A := AfterImport.of_importEnds h4
  refine ⟨⟨s, A⟩, fun s' hs' => ?_⟩
  obtain rfl : s' = s := AfterImport.unique hs' A
  have z : s₀.asleep := Shared.asleep_of_life (fence_lifeW h5) A.life
  have := zero_of (congrArg Prod.fst e) (congrArg Prod.snd e)
  exact ⟨s₀, h5, z, this.1, this.2⟩
theorem inj_of_nodup {α β : Type} {f : α → β} : ∀ {l : List α}, (l.map f).Nodup → ∀ {a b : α}, a ∈ l → b ∈ l → f a = f b → a = b
  | x :: l, h, a, b, ma, mb, e => by
    rw [List.map_cons, List.nodup_cons] at h
    rcases List.mem_cons.mp ma with ea | ma'
    · rcases List.mem_cons.mp mb with eb | mb'
      · rw [ea, eb]
      · exact absurd (show f x ∈ l.map f from List.mem_map.mpr ⟨b, mb', by rw [← ea]; exact e.symm⟩) h.1
    · rcases List.mem_cons.mp mb with eb | mb'
      · exact absurd (show f x ∈ l.map f from List.mem_map.mpr ⟨a, ma', by rw [← eb]; exact e⟩) h.1
      · exact inj_of_nodup h.2 ma' mb' e
theorem the_defs : ∀ d ∈ dsAll, pw.theDef d.name = some (d.params, d.body, d.scope) := by
  intro d m
  have e : dsAll = [dD 0, dD 1, dD 2, dD 3, dD 4, dD 5, dD 6, dD 7, dD 8, dD 9, dD 10, dD 11, dD 12, dD 13, dD 14, dD 15] := rfl
  rw [e] at m
  simp only [List.mem_cons, List.not_mem_nil, or_false] at m
  rcases m with rfl | rfl | rfl | rfl | rfl | rfl | rfl | rfl | rfl | rfl | rfl | rfl | rfl | rfl | rfl | rfl <;> rfl
theorem fns_named : ∀ f ∈ ("law" : Str) :: Fns, ∃ d ∈ dsAll, d.name = f := by
  have h : (("law" : Str) :: Fns).all (fun f => dsAll.any fun d => decide (d.name = f)) = true := by decide +kernel
  intro f m
  obtain ⟨d, md, e⟩ := List.any_eq_true.mp (List.all_eq_true.mp h f m)
  exact ⟨d, md, of_decide_eq_true e⟩
theorem blts_off : ∀ p ∈ ((("set" : Str), Value.type "set") :: Blts), p.1 ∉ topNames := by
  have h : ((("set" : Str), Value.type "set") :: Blts).all (fun p => !topNames.contains p.1) = true := by decide +kernel
  intro p m q
  have := List.all_eq_true.mp h p m
  simp at this
  exact this q
section
variable {w : World} {h0 h : Heap} {mg0 mb : Str → Option Value} {c Pl : Addr} {u : List (Str × Value)} {l : List (Pos × Addr)} {done : List (DefRec × Addr × Addr)}
theorem FnAt.tab {d : DefRec} {a P : Addr} (x : FnAt h Pl d a P) : h.get? P = some (tabObj #[]) := by
  obtain ⟨o, pm, code, doc, h1, h2, h3, h4, h5, _⟩ := x
  exact h5.2
theorem ghost (T : TopEnd w h0 mg0 c Pl h u l done) (hl : h.NoLimit) (hb : h.Ns builtinsNs mb) (hbl : ∀ p ∈ ((("set" : Str), Value.type "set") :: Blts), mg0 p.1 = none ∧ mb p.1 = some p.2) {a1 P1 a2 P2 : Addr} (m1 : (dD 4, a1, P1) ∈ done) (m2 : (dD 5, a2, P2) ∈ done) :
    Base w (hideAll h [P1, P2]) := by
  have low := T.I.main.low
  have F1 := T.I.fn _ m1
  have F2 := T.I.fn _ m2
  have t1 : h.get? P1 = some (tabObj #[]) := F1.tab
  have t2 : h.get? P2 = some (tabObj #[]) := F2.tab
  have p1 : Pl < P1 := by obtain ⟨_, _, _, _, _, _, _, _, _, _, _, q⟩ := F1; exact q
  have p2 : Pl < P2 := by obtain ⟨_, _, _, _, _, _, _, _, _, _, _, q⟩ := F2; exact q
  have kp : ∀ b o, h.get? b = some o → o ≠ tabObj #[] → (hideAll h [P1, P2]).get? b = some o := fun b o e ne => hideAll_get _ e fun m => by
    rcases List.mem_cons.mp m with rfl | m
    · rw [t1] at e; cases e; exact ne rfl
    · rw [List.mem_singleton.mp m, t2] at e; cases e; exact ne rfl
  have kl : ∀ b o, b ≤ mainGlobals → h.get? b = some o → (hideAll h [P1, P2]).get? b = some o := fun b o lb e => hideAll_get _ e fun m => by
    have q1 := Nat.lt_of_le_of_lt lb (Nat.lt_trans low.2 p1)
    have q2 := Nat.lt_of_le_of_lt lb (Nat.lt_trans low.2 p2)
    rcases List.mem_cons.mp m with e | m
    · exact absurd e (Nat.ne_of_lt q1)
    · exact absurd (List.mem_singleton.mp m) (Nat.ne_of_lt q2)
  refine ⟨?_, mgOf u mg0, mb, ?_⟩
  · obtain ⟨m, n, e⟩ := hl
    exact ⟨m, n.at fun o q => kl _ o (by decide) q, e⟩
  refine ⟨T.I.main.g.at fun o q => kl _ o (Nat.le_refl _) q, hb.at fun o q => kl _ o (by decide) q, fun f mf => ?_, fun p mp => ?_, ?_, ?_, ?_, ?_⟩
  · obtain ⟨d, md, rfl⟩ := fns_named f (List.mem_cons_of_mem _ mf)
    obtain ⟨a, P, e1, e2⟩ := T.fns d md
    obtain ⟨o, pm, code, doc, f1, f2, f3, f4, f5, _⟩ := T.I.fn _ e2
    refine ⟨a, mgOf_some e1, o, pm, .ref code, doc, d.params, d.body, d.scope, the_defs d md, kp a o f1 (fun q => by rw [q] at f2; cases f2), f2, ?_⟩
    obtain ⟨c', o', vs, t, q1, q2, q3, q4⟩ := f3
    refine ⟨c', o', vs, t, q1, kp c' o' q2 (fun q => ?_), q3, q4⟩
    rw [q] at q3
    cases q3
    cases q4
  · have := hbl p (List.mem_cons_of_mem _ mp)
    exact ⟨(mgOf_old T.nam (blts_off p (List.mem_cons_of_mem _ mp))).trans this.1, this.2⟩
  · obtain ⟨t, e⟩ := T.ell; exact ⟨t, mgOf_some e⟩
  · obtain ⟨t, e⟩ := T.lim; exact ⟨t, mgOf_some e⟩
  · obtain ⟨a, n, e, S⟩ := T.set
    refine ⟨a, n, mgOf_some e, ?_⟩
    obtain ⟨o, es, ep, t, ho, ex, hd, r⟩ := S
    exact ⟨o, es, ep, t, kp a o ho (fun q => by rw [q] at hd; cases hd), ex, hd, r⟩
  · obtain ⟨a, kvs, e, K, D, la⟩ := T.map
    refine ⟨a, valueAt kvs, mgOf_some e, ?_, ?_, fun i => ?_⟩
    · rw [beq_eq_false_iff_ne]; exact Nat.ne_of_gt (Nat.lt_trans (Nat.lt_trans (by decide) low.2) la)
    · obtain ⟨o, es, ep, ho, ex, hd, r⟩ := D
      exact Heap.DictOf.mapOf ⟨o, es, ep, kp a o ho (fun q => by rw [q] at hd; cases hd), ex, hd, r⟩
    · exact K.find i
end
section
variable {w : World} {h0 h : Heap} {mg0 mb : Str → Option Value} {c Pl : Addr} {u : List (Str × Value)} {l : List (Pos × Addr)} {done : List (DefRec × Addr × Addr)}
theorem ghost_ti (T : TopEnd w h0 mg0 c Pl h u l done) {a1 P1 a2 P2 : Addr} (e1 : u.lookup (dD 4).name = some (.ref a1)) (m1 : (dD 4, a1, P1) ∈ done) (e2 : u.lookup (dD 5).name = some (.ref a2)) (m2 : (dD 5, a2, P2) ∈ done) {h' : Heap} (k : ∀ b o, h.get? b = some o → h'.get? b = some o) :
    TI P1 P2 (hideAll h [P1, P2]) (fun _ => False) h' := by
  have low := T.I.main.low
  have t1 : h.get? P1 = some (tabObj #[]) := (T.I.fn _ m1).tab
  have t2 : h.get? P2 = some (tabObj #[]) := (T.I.fn _ m2).tab
  have p1 : Pl < P1 := by obtain ⟨_, _, _, _, _, _, _, _, _, _, _, q⟩ := T.I.fn _ m1; exact q
  have p2 : Pl < P2 := by obtain ⟨_, _, _, _, _, _, _, _, _, _, _, q⟩ := T.I.fn _ m2; exact q
  have kp : ∀ b o, h.get? b = some o → o ≠ tabObj #[] → (hideAll h [P1, P2]).get? b = some o := fun b o e ne => hideAll_get _ e fun m => by
    rcases List.mem_cons.mp m with rfl | m
    · rw [t1] at e; cases e; exact ne rfl
    · rw [List.mem_singleton.mp m, t2] at e; cases e; exact ne rfl
  have kg : ∀ o, h.get? mainGlobals = some o → (hideAll h [P1, P2]).get? mainGlobals = some o := fun o e => hideAll_get _ e fun m => by
    rcases List.mem_cons.mp m with e | m
    · exact absurd e (Nat.ne_of_lt (Nat.lt_trans low.2 p1))
    · exact absurd (List.mem_singleton.mp m) (Nat.ne_of_lt (Nat.lt_trans low.2 p2))
  have N := T.I.main.g.at kg
  have fn : ∀ {i : Nat} {a P : Addr}, dD i ∈ dsAll → u.lookup (dD i).name = some (.ref a) → (dD i, a, P) ∈ done → h.get? P = some (tabObj #[]) → TabFor P (hideAll h [P1, P2]) (fun _ => False) (dD i).name h' := fun {i a P} md e m t => by
    obtain ⟨o, pm, code, doc, f1, f2, f3, f4, f5, _⟩ := T.I.fn _ m
    refine ⟨⟨mgOf u mg0, a, o, pm, code, doc, (dD i).params, (dD i).body, (dD i).scope, N, mgOf_some e, the_defs _ md, kp a o f1 (fun q => by rw [q] at f2; cases f2), f2, ?_⟩, #[], k _ _ t, .inl rfl⟩
    have H := CodeHd.of f4 f5
    unfold CodeHd at H ⊢
    obtain ⟨o', vs, file, tf, flags, tg, inF, text, tt, q1, q2, r⟩ := H
    exact ⟨o', vs, file, tf, flags, tg, inF, text, tt, kp code o' q1 (fun q => by rw [q] at q2; cases q2), q2, r⟩
  have hne : P1 ≠ P2 := fun e => by
    have := inj_of_nodup T.I.nd m1 m2 e
    have q : (dD 4).name = (dD 5).name := congrArg (fun x => x.1.name) this
    exact absurd q (by decide +kernel)
  have bm : ∀ {P : Addr}, h.get? P = some (tabObj #[]) → (hideAll h [P1, P2]).BuiltinsAt (mgOf u mg0) P := fun {P} t => by
    obtain ⟨b, o, b1, b2, b3, b4, b5, b6, b7, b8⟩ := T.I.main.bmod
    exact ⟨b, o, b1, b2, b3, (fun e => by rw [e, t] at b5; cases b5; cases b6), kp b o b5 (fun q => by rw [q] at b6; cases b6), b6, b7, b8⟩
  exact ⟨fn (i := 4) (by simp [dsAll, ds2]) e1 m1 t1, fn (i := 5) (by simp [dsAll, ds2]) e2 m2 t2, hne, ⟨mgOf u mg0, N, bm t1, bm t2⟩, hideAll_none _ (List.mem_cons_self ..), hideAll_none _ (List.mem_cons_of_mem _ (List.mem_cons_self ..))⟩
end
theorem lay_int_list {R : WRecords} {cl : Str → Option Addr} {P : Params} {ord : List DictEntry → List DictEntry} {w : World} {X : Addr → Prop} {h : Heap} : ∀ (ns : List Int) (s : Shared), ∃ r, layAllW R cl P ord (ns.map WData.int) s = some r ∧ r.2.heap = s.heap ∧ r.2.gens = s.gens ∧ r.2.os = s.os ∧ r.2.drawn = s.drawn ∧ RepL w X h (ns.map D.int) r.1
  | [], s => ⟨([], s), by simp [layAllW], rfl, rfl, rfl, rfl, RepL.nil⟩
  | n :: ns, s => by
    obtain ⟨r, e, h1, h2, h3, h4, h5⟩ := lay_int_list (R := R) (cl := cl) (P := P) (ord := ord) (w := w) (X := X) (h := h) ns { s with toks := s.toks + 1 }
    refine ⟨(.int n s.toks :: r.1, r.2), by simp [layAllW, layW, e], h1, h2, h3, h4, ?_⟩
    rw [List.map_cons]
    simp only [RepL]
    exact ⟨_, _, rfl, rep_int, h5⟩
theorem lay_script {R : WRecords} {cl : Str → Option Addr} {P : Params} {ord : List DictEntry → List DictEntry} {w : World} {X : Addr → Prop} {ns : List Int} {s : Shared} (hX : ∀ a, X a → (s.heap.get? a).isSome = true) : ∃ vs s₁, layAllW R cl P ord [.list (ns.map WData.int)] s = some (vs, s₁) ∧ (∀ b o, s.heap.get? b = some o → s₁.heap.get? b = some o) ∧ s₁.gens = s.gens ∧ s₁.os = s.os ∧ RepL w X s₁.heap [.list (ns.map D.int)] vs := by
  obtain ⟨r, e, h1, h2, h3, h4, h5⟩ := lay_int_list (R := R) (cl := cl) (P := P) (ord := ord) (w := w) (X := X) (h := s.heap.push { cls := .type "list", data := .seq ([] : List Value).toArray }) ns s
  refine ⟨[.ref r.2.heap.objs.size], { r.2 with heap := r.2.heap.push { cls := .type "list", data := .seq r.1.toArray } }, by simp [layAllW, layW, e], fun b o q => by rw [h1]; exact Heap.get?_push_of_some _ q, h2, h3, ?_⟩
  simp only [RepL, Rep]
  refine ⟨_, [], rfl, ⟨_, r.1, rfl, fun x => ?_, ⟨_, Heap.get?_push_size _ rfl⟩, ?_⟩, rfl⟩
  · have := hX _ x
    rw [h1, none_of_le (Nat.le_refl _)] at this; cases this
  · obtain ⟨r', e', _, _, _, _, h5'⟩ := lay_int_list (R := R) (cl := cl) (P := P) (ord := ord) (w := w) (X := X) (h := r.2.heap.push { cls := .type "list", data := .seq r.1.toArray }) ns s
    rw [e] at e'; cases e'
    exact h5'
theorem items_int {R : WRecords} : ∀ {xs : List WData}, WShape.hasItems R xs .int = true → ∃ ns : List Int, xs = ns.map WData.int
  | [], _ => ⟨[], rfl⟩
  | x :: xs, h => by
    simp only [WShape.hasItems, Bool.and_eq_true] at h
    obtain ⟨i, rfl⟩ := hasW_int h.1
    obtain ⟨ns, rfl⟩ := items_int h.2
    exact ⟨i :: ns, rfl⟩
theorem args_of {args : List WData} (x : PySem.Challenge.rw_rs0228_01.row.toRowW.claim.pre args = true) : ∃ ns : List Int, args = [.list (ns.map WData.int)] ∧ ns.length ≤ 63 := by
  obtain ⟨h1, h2⟩ := pre_splitW x
  obtain ⟨d, r, rfl, hd, hr⟩ := hasAllW_cons (e := .list .int) (es := []) h1
  obtain rfl := hasAllW_nil hr
  obtain ⟨xs, rfl, hx⟩ := hasW_list hd
  obtain ⟨ns, rfl⟩ := items_int hx
  refine ⟨ns, rfl, ?_⟩
  have h2 : WTm.holds [] (.and (.not (.lt (.lit (.int 63)) (.len (.arg 0)))) (.lit (.bool true))) { args := [.list (ns.map WData.int)] } = true := h2
  simp [WTm.holds, WTm.value] at h2
  have e : less? (WData.int 63) (WData.int (ns.length : Int)) = some (decide ((63 : Int) < (ns.length : Int))) := rfl
  rw [e] at h2
  by_cases q : (63 : Int) < (ns.length : Int)
  · rw [decide_eq_true q] at h2
    simp at h2
  · omega
section
variable {w : World} {h0 h : Heap} {mg0 mb : Str → Option Value} {c Pl : Addr} {u : List (Str × Value)} {l : List (Pos × Addr)} {done : List (DefRec × Addr × Addr)}
theorem law_pinned (T : TopEnd w h0 mg0 c Pl h u l done) : isTheDefsW pw h "law" := by
  obtain ⟨d, md, e⟩ := fns_named "law" (List.mem_cons_self ..)
  obtain ⟨a, P, e1, e2⟩ := T.fns d md
  obtain ⟨o, pm, code, doc, f1, f2, f3, f4, f5, _⟩ := T.I.fn _ e2
  have hd := the_defs d md
  rw [e] at hd e1
  refine isTheDefsW_of ⟨a, o, _, d.params, d.body, d.scope, (Claim2Try.globalOf_of_ns T.I.main.g _).trans (mgOf_some e1), f1, f2, hd, e, e, rfl, rfl, rfl, rfl, rfl, rfl, ?_⟩
  have ep : d.params = psOf "law" := by
    have := hd.symm.trans def_law
    injection this with this
    exact congrArg (·.1) this
  rw [ep]
  exact ⟨.inl ⟨rfl, rfl⟩, [], rfl, .inl ⟨rfl, rfl⟩⟩
end
section
variable {w : World} {h0 h : Heap} {mg0 mb : Str → Option Value} {c Pl : Addr} {u : List (Str × Value)} {l : List (Pos × Addr)} {done : List (DefRec × Addr × Addr)}
theorem law_call (T : TopEnd w h0 mg0 c Pl h u l done) (hl : h.NoLimit) (hb : h.Ns builtinsNs mb) (hbl : ∀ p ∈ ((("set" : Str), Value.type "set") :: Blts), mg0 p.1 = none ∧ mb p.1 = some p.2) {s : Shared} (k : ∀ b o, h.get? b = some o → s.heap.get? b = some o) :
    ∃ P1 P2 a, h.get? P1 = some (tabObj #[]) ∧ h.get? P2 = some (tabObj #[]) ∧ mgOf u mg0 "law" = some (.ref a) ∧ ∀ (ns : List Int) (vs : List Value), ns.length ≤ 63 → RepL w (fun b => b = P1 ∨ b = P2) s.heap [.list (ns.map D.int)] vs →
      wpAny (model pw w) callerA (call (.ref a) vs) (fun v s' => v = .bool true ∧ s'.gens = s.gens ∧ s'.os = s.os ∧ OldK s.heap s'.heap) (fun _ _ => False) s := by
  obtain ⟨a1, P1, e1, m1⟩ := T.fns (dD 4) (by simp [dsAll, ds2])
  obtain ⟨a2, P2, e2, m2⟩ := T.fns (dD 5) (by simp [dsAll, ds2])
  have B := ghost T hl hb hbl m1 m2
  have I := ghost_ti T e1 m1 e2 m2 k
  have F1 := T.I.fn _ m1
  have F2 := T.I.fn _ m2
  have t1 : h.get? P1 = some (tabObj #[]) := F1.tab
  have t2 : h.get? P2 = some (tabObj #[]) := F2.tab
  have low := T.I.main.low
  have kp : ∀ b o, h.get? b = some o → o ≠ tabObj #[] → (hideAll h [P1, P2]).get? b = some o := fun b o e ne => hideAll_get _ e fun m => by
    rcases List.mem_cons.mp m with rfl | m
    · rw [t1] at e; cases e; exact ne rfl
    · rw [List.mem_singleton.mp m, t2] at e; cases e; exact ne rfl
  obtain ⟨d, md, en⟩ := fns_named "law" (List.mem_cons_self ..)
  obtain ⟨a, P, e3, m3⟩ := T.fns d md
  obtain ⟨o, pm, code, doc, f1, f2, f3, f4, f5, _⟩ := T.I.fn _ m3
  have hfn : IsFn (hideAll h [P1, P2]) "law" a := by
    rw [← en]
    refine ⟨o, pm, .ref code, doc, d.params, d.body, d.scope, the_defs d md, kp a o f1 (fun q => by rw [q] at f2; cases f2), f2, ?_⟩
    obtain ⟨c', o', vs, t, q1, q2, q3, q4⟩ := f3
    refine ⟨c', o', vs, t, q1, kp c' o' q2 (fun q => ?_), q3, q4⟩
    rw [q] at q3
    cases q3
    cases q4
  rw [en] at e3
  refine ⟨P1, P2, a, t1, t2, mgOf_some e3, fun ns vs hlen r => ?_⟩
  have Okk : Ok w (hideAll h [P1, P2]) callerA 31 := ⟨rfl, by decide +kernel, by decide +kernel, B⟩
  have hX : ∀ b, (b = P1 ∨ b = P2) → (s.heap.get? b).isSome = true ∧ (hideAll h [P1, P2]).get? b = none := fun b hbx => by
    rcases hbx with rfl | rfl
    · exact ⟨by rw [k _ _ t1]; rfl, hideAll_none _ (List.mem_cons_self ..)⟩
    · exact ⟨by rw [k _ _ t2]; rfl, hideAll_none _ (List.mem_cons_of_mem _ (List.mem_cons_self ..))⟩
  have hN : ∃ mg, (hideAll h [P1, P2]).Ns mainGlobals mg ∧ mg "law" = some (.ref a) := by
    refine ⟨mgOf u mg0, T.I.main.g.at fun o2 q => kp _ o2 q fun z => ?_, mgOf_some e3⟩
    obtain ⟨o3, es, ep, q3, d3, _⟩ := T.I.main.g
    rw [q3] at q
    cases q
    rw [z] at d3
    cases d3
  refine wpAny_mono (fct_law' (by exact Nat.le_trans hlen (by decide)) w (hideAll h [P1, P2]) callerA (fun b => b = P1 ∨ b = P2) P1 P2 (fun _ => False) s vs a Okk (fun b o e => k b o (of_hideAll _ e)) hX (.inl rfl) (.inr rfl) (fun _ x => x.elim) (fun x => x) (fun x => x) I hN hfn r) (fun v s' zp => ?_) fun _ _ x => x
  obtain ⟨⟨h', tk, es, bt⟩, TI', rv⟩ := zp
  have ev : v = .bool true := rv.bool_of
  subst es
  have old : ∀ b o, s.heap.get? b = some o → asItWas s.heap h' b o ∧ ∃ o', h'.get? b = some o' := fun b o e => by
    have tab : ∀ {dd : DefRec} {aa P : Addr}, FnAt h Pl dd aa P → h.get? P = some (tabObj #[]) → b = P → (∃ ps, h'.get? P = some (tabObj ps)) → asItWas s.heap h' b o ∧ ∃ o', h'.get? b = some o' := fun {dd aa P} F t q ⟨ps, hp⟩ => by
      subst q
      have := k _ _ t
      rw [e] at this
      cases this
      obtain ⟨_, _, cd, _, _, _, _, _, T5, _⟩ := F
      refine ⟨.inr (.inl ⟨(T5.keeps k).isCodeTable, rfl, #[], ps, rfl, ?_⟩), _, hp⟩
      rw [hp]; simp
    by_cases q1 : b = P1
    · obtain ⟨ps, hp, _⟩ := TI'.t1.tab
      exact tab F1 t1 q1 ⟨ps, hp⟩
    · by_cases q2 : b = P2
      · obtain ⟨ps, hp, _⟩ := TI'.t2.tab
        exact tab F2 t2 q2 ⟨ps, hp⟩
      · have := bt b o (fun x => x) q1 q2 e
        exact ⟨.inl this, _, this⟩
  exact ⟨ev, rfl, rfl, ⟨fun b o e => (old b o e).1, fun b o e => (old b o e).2⟩⟩
end
theorem post_true (args ds : List WData) : PySem.Challenge.rw_rs0228_01.row.toRowW.claim.post args (.bool true) ds = true := by
  show (WShape.has [] (.bool true) .bool && WTm.holds [] (.eq .res (.lit (.bool true))) { args := args, res := some (.bool true), after := ds }) = true
  have h1 : WShape.has [] (.bool true) .bool = true := by decide +kernel
  rw [h1, Bool.true_and]
  simp [WTm.holds, WTm.value]
  have hs : PySem.W.same (WData.bool true) (WData.bool true) = true := by decide +kernel
  rw [hs]
theorem law_open : PySem.Challenge.rw_rs0228_01.row.toRowW.claim.HoldsOpenBy (callStub "law") ["law"] PySem.Challenge.rw_rs0228_01.row.keeps false := by
  refine ⟨⟨?_, ?_, rfl⟩, ⟨[.list []], ?_, ?_⟩, fun w => ⟨(opened w).1, fun s hs => ?_⟩⟩
  · exact ⟨rfl, rfl, rfl, rfl, rfl, by decide +kernel⟩
  · decide +kernel
  · decide +kernel
  · decide +kernel
  obtain ⟨s₀, hf, hz, Z, hbl⟩ := (opened w).2 s hs
  obtain ⟨s₁, c, Pl, h0, u, l, done, TR, hz1, hg1, T, kp⟩ := top_ran hz Z
  refine ⟨s₀, hf, Z.gens, s₁, TR, fun n m => ?_, fun x m => (nomatch m), fun x m => (nomatch m), ?_⟩
  · rw [List.mem_singleton.mp m]; exact law_pinned T
  have hb : s₁.heap.Ns builtinsNs (s₀.heap.nsMap builtinsNs) := Z.B.b.at fun o q => kp _ o (by decide) q
  have hl : s₁.heap.NoLimit := Z.lim.at fun o q => kp _ o (by decide) q
  refine ClaimW.callFrom_of_specG (c := PySem.Challenge.rw_rs0228_01.row.toRowW.claim) hz1 hg1 fun args hpre hlay ord hord => ?_
  obtain ⟨ns, rfl, hlen⟩ := args_of hpre
  obtain ⟨⟨vs, s2⟩, hlaid⟩ := Option.isSome_iff_exists.mp (layAllW_isSome (P := w.params) (R := []) (cl := classAt s₁.heap) (ord := ord) (fun c hc => (nomatch hc)) [.list (ns.map WData.int)] PySem.Challenge.rw_rs0228_01.row.args s₁ (pre_splitW hpre).1)
  have keeps := layAllW_keeps _ _ _ hlaid
  have hal := layAllW_rest _ _ _ hlaid
  obtain ⟨as, hrd, hin, hold⟩ := reads_layAllW hord _ _ _ hlaid hlay s2.heap (fun _ _ e => e)
  have L : Laid [] w s₁ s2 [.list (ns.map WData.int)] vs as := ⟨⟨ord, hord, hlaid⟩, hrd, hin, hold, keeps, hal.1.trans hg1, hal.2.2.1⟩
  obtain ⟨P1, P2, a, t1, t2, ha, call⟩ := law_call (s := s2) T hl hb hbl keeps
  obtain ⟨vs', s2', e', _, _, _, r⟩ := lay_script (R := []) (cl := classAt s₁.heap) (P := w.params) (ord := ord) (w := w) (X := fun b => b = P1 ∨ b = P2) (ns := ns) (s := s₁) (fun b q => by
    rcases q with rfl | rfl
    · rw [t1]; rfl
    · rw [t2]; rfl)
  rw [hlaid] at e'
  cases e'
  have hw := call ns vs hlen r
  have hi : ∀ x y, PySem.Challenge.rw_rs0228_01.row.toRowW.claim.ident x y = true := ident_freeW rfl rfl rfl
  have Ng : s2.heap.Ns mainGlobals (mgOf u (s₀.heap.nsMap mainGlobals)) := T.I.main.g.keeps keeps
  refine ⟨vs, s2, hlaid, wpAny_bind (wpAny_nsGet Ng ?_)⟩
  rw [ha]
  refine wpAny_bind (wpAny_mono hw (fun v s' ⟨ev, eg, eo, ok⟩ => wpAny_pure ⟨.ret v, rfl, ?_⟩) fun _ _ x => x.elim)
  subst ev
  have good : GoodWG PySem.Challenge.rw_rs0228_01.row.toRowW.claim (classAt s₁.heap) (ExcName.means s₁.heap) [.list (ns.map WData.int)] s2 (.ok (.ret (.bool true))) s' :=
    ⟨.inl ⟨.bool true, .bool true, [], rfl, fun _ => rfl, .bool true, post_true _ _, fun _ => ⟨List.nodup_nil, fun _ m => (nomatch m)⟩⟩, ok, eo, AllBare.of_eq (eg.trans (hal.1.trans hg1))⟩
  have z := good.laid rfl rfl hi L
  exact ⟨z.1, z.2.1, z.2.2, fun q => (nomatch q)⟩
theorem outV : readsOut pw pw.main.body "vars" = false := by decide +kernel
theorem outD : readsOut pw pw.main.body "dir" = false := by decide +kernel
theorem outL : readsOut pw pw.main.body "locals" = false := by decide +kernel
theorem bares : (["vars", "dir", "locals"] : List Str).filter (readsOut pw pw.main.body) = [] := by
  rw [List.filter_cons_of_neg (by rw [outV]; decide), List.filter_cons_of_neg (by rw [outD]; decide), List.filter_cons_of_neg (by rw [outL]; decide), List.filter_nil]
theorem looks : looksOpen pw = true := by
  unfold looksOpen
  rw [bares]
  repeat' with_reducible apply look_both
  all_goals decide +kernel
theorem rowSaid : PySem.Challenge.rw_rs0228_01.row.wellSaid = true := by
  unfold OpenRow.wellSaid OpenRow.partSaid
  repeat' with_reducible apply look_both
  · exact looks
  all_goals decide +kernel
theorem said : PySem.Challenge.rw_rs0228_01.wellSaid = true := by
  unfold OpenLaw.wellSaid
  repeat' with_reducible apply look_both
  · exact rowSaid
  all_goals decide +kernel
end Mine
set_option maxHeartbeats 8000000 in
theorem PySem.Challenge.cw_rs0228_01_holds : PySem.Challenge.rw_rs0228_01.Holds := by
  refine holds_law Mine.said fun said => ?_
  exact ⟨said, ⟨[.list []], by decide +kernel, by decide +kernel⟩, Mine.law_open⟩

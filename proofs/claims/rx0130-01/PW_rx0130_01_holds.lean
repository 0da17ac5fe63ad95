import PyProof.Rows.All
import Wide.All
import OpenK.AllK
import Wide.FinOn
import KE.KRevIter
import PyProof.AttrMissSeq
import PySem.Challenge.RW_rx0130_01
set_option Elab.async false
section
open PySem PySem.W PyProof.Rows PySem.Calls
set_option maxRecDepth 100000
namespace Mine

noncomputable def defAt (n : Nat) : Stmt := PySem.Challenge.pw_rx0130_01.main.body.getD n (.Pass default)
noncomputable def nameOf : Stmt → Str | .FunctionDef n .. => n | _ => Str.empty
noncomputable def argsOf : Stmt → Arguments | .FunctionDef _ a .. => a | _ => default
noncomputable def bodyOf : Stmt → List Stmt | .FunctionDef _ _ b .. => b | _ => []
noncomputable def scopeOf : Stmt → Scope | .FunctionDef _ _ _ _ _ _ sc .. => sc | _ => default

noncomputable def FnAt (h : Heap) (f : Addr) (st : Stmt) : Prop :=
  ∃ o pm cd doc, h.get? f = some o ∧ o.data = .func (docDef (nameOf st) (argsOf st) (bodyOf st) (scopeOf st) pm cd doc) ∧ h.CodeRec cd (nameOf st)

end Mine
end

section
open PySem PySem.W PyProof.Rows PySem.Calls
set_option maxRecDepth 100000
set_option linter.unusedVariables false
namespace Mine

/-- what a call owns: a frame's names, a cell, a list, an object that stays -/
inductive Own where
  | ns (m : Str → Option Value)
  | cell (v : Option Value)
  | list (vs : Array Value)
  | obj (o : Obj)

@[reducible] noncomputable def Own.at (h : Heap) (a : Addr) : Own → Prop
  | .ns m => h.Ns a m
  | .cell v => h.IsCell a v
  | .list vs => h.PlainList a vs
  | .obj o => h.get? a = some o

theorem isList_keep {h h' : Heap} {a : Addr} {vs : Array Value} (x : h.IsList a vs) (k : ∀ o, h.get? a = some o → h'.get? a = some o) : h'.IsList a vs :=
  let ⟨o, ho, r⟩ := x; ⟨o, k o ho, r⟩

theorem Own.keep {h h' : Heap} {a : Addr} {o : Own} (x : o.at h a) (k : ∀ x, h.get? a = some x → h'.get? a = some x) : o.at h' a := by
  cases o with
  | ns m => exact Heap.Ns.at' x k
  | cell v => obtain ⟨o, ho, r⟩ := x; exact ⟨o, k o ho, r⟩
  | list vs => exact Heap.PlainList.at x k
  | obj o => exact k _ x

theorem Own.some {h : Heap} {a : Addr} {o : Own} (x : o.at h a) : ∃ x, h.get? a = some x := by
  cases o with
  | ns m => obtain ⟨o, _, _, ho, _⟩ := x; exact ⟨o, ho⟩
  | cell v => obtain ⟨o, ho, r⟩ := x; exact ⟨o, ho⟩
  | list vs => obtain ⟨n, ho⟩ := x; exact ⟨_, ho⟩
  | obj o => exact ⟨_, x⟩

/-- a heap that is kept -/
noncomputable def Sub (g h : Heap) : Prop := ∀ b o, g.get? b = some o → h.get? b = some o
theorem Sub.refl (g : Heap) : Sub g g := fun _ _ e => e
theorem Sub.trans {g h k : Heap} (a : Sub g h) (b : Sub h k) : Sub g k := fun x o e => b x o (a x o e)
noncomputable def SubBut (a : Addr) (g h : Heap) : Prop := ∀ b o, b ≠ a → g.get? b = some o → h.get? b = some o

structure Fm (g : Heap) (os : List (Addr × Own)) (h : Heap) : Prop where
  keep : Sub g h
  own : ∀ p ∈ os, p.2.at h p.1
  out : ∀ p ∈ os, g.get? p.1 = none
  apart : os.Pairwise fun p q => p.1 ≠ q.1

theorem ne_of_none {h : Heap} {a b : Addr} {o : Obj} (x : h.get? a = none) (y : h.get? b = some o) : a ≠ b := by
  rintro rfl; rw [x] at y; cases y

namespace Fm
variable {g h h' : Heap} {os : List (Addr × Own)} {a : Addr} {o o' : Own} {p q r t : Addr × Own}

theorem get (F : Fm g os h) (i : Nat) (hi : os[i]? = some (a, o)) : o.at h a := F.own _ (List.mem_of_getElem? hi)
theorem lst (F : Fm g os h) {vs : Array Value} (i : Nat) (hi : os[i]? = some (a, .list vs)) : h.IsList a vs := Heap.PlainList.isList (F.own _ (List.mem_of_getElem? hi))
theorem fresh (F : Fm g os h) : ∀ p ∈ os, ∃ x, h.get? p.1 = some x := fun p hp => Own.some (F.own p hp)

theorem ext (F : Fm g os h) (k : Sub h h') : Fm g os h' :=
  ⟨F.keep.trans k, fun p hp => Own.keep (F.own p hp) fun x e => k _ _ e, F.out, F.apart⟩

theorem cons (F : Fm g os h) (k : Sub h h') (hn : h.get? a = none) (ho : o.at h' a) : Fm g ((a, o) :: os) h' := by
  have F' := F.ext k
  refine ⟨F'.keep, fun p hp => ?_, fun p hp => ?_, List.pairwise_cons.mpr ⟨fun p hp e => ?_, F.apart⟩⟩
  · rcases List.mem_cons.mp hp with rfl | hp
    · exact ho
    · exact F'.own p hp
  · rcases List.mem_cons.mp hp with rfl | hp
    · cases e : g.get? a with
      | none => rfl
      | some x => exact absurd rfl (ne_of_none hn (F.keep _ _ e))
    · exact F.out p hp
  · obtain ⟨x, hx⟩ := F.fresh p hp
    exact ne_of_none hn hx e

theorem drop (F : Fm g (p :: os) h) : Fm g os h :=
  ⟨F.keep, fun q hq => F.own q (.tail _ hq), fun q hq => F.out q (.tail _ hq), (List.pairwise_cons.mp F.apart).2⟩

theorem sub {os' : List (Addr × Own)} (F : Fm g os h) (hs : os'.Sublist os) : Fm g os' h :=
  ⟨F.keep, fun q hq => F.own q (hs.subset hq), fun q hq => F.out q (hs.subset hq), F.apart.sublist hs⟩

theorem upd0 (F : Fm g ((a, o) :: os) h) (k : SubBut a h h') (ho : o'.at h' a) : Fm g ((a, o') :: os) h' := by
  obtain ⟨hp, hq⟩ := List.pairwise_cons.mp F.apart
  refine ⟨fun b x e => k b x (fun q => ?_) (F.keep b x e), fun p hp' => ?_, fun p hp' => ?_, List.pairwise_cons.mpr ⟨fun p hp' => hp p hp', hq⟩⟩
  · rw [q] at e; have := F.out (a, o) (.head _); rw [this] at e; cases e
  · rcases List.mem_cons.mp hp' with rfl | hp'
    · exact ho
    · exact Own.keep (F.own p (.tail _ hp')) fun x e => k _ _ (Ne.symm (hp p hp')) e
  · rcases List.mem_cons.mp hp' with rfl | hp'
    · exact F.out (a, o) (.head _)
    · exact F.out p (.tail _ hp')

theorem swap (F : Fm g (p :: q :: os) h) : Fm g (q :: p :: os) h := by
  refine ⟨F.keep, fun x hx => F.own x ?_, fun x hx => F.out x ?_, ?_⟩
  · simp only [List.mem_cons] at hx ⊢; exact hx.elim (fun e => .inr (.inl e)) fun e => e.elim .inl fun e => .inr (.inr e)
  · simp only [List.mem_cons] at hx ⊢; exact hx.elim (fun e => .inr (.inl e)) fun e => e.elim .inl fun e => .inr (.inr e)
  · obtain ⟨h1, h2⟩ := List.pairwise_cons.mp F.apart
    obtain ⟨h3, h4⟩ := List.pairwise_cons.mp h2
    refine List.pairwise_cons.mpr ⟨fun x hx => ?_, List.pairwise_cons.mpr ⟨fun x hx => h1 x (.tail _ hx), h4⟩⟩
    rcases List.mem_cons.mp hx with rfl | hx
    · exact Ne.symm (h1 _ (.head _))
    · exact h3 x hx

theorem perm {os' : List (Addr × Own)} (F : Fm g os h) (hp : os.Perm os') : Fm g os' h :=
  ⟨F.keep, fun x hx => F.own x (hp.mem_iff.mpr hx), fun x hx => F.out x (hp.mem_iff.mpr hx), (hp.pairwise_iff fun e => Ne.symm e).mp F.apart⟩

theorem upd1 (F : Fm g (p :: (a, o) :: os) h) (k : SubBut a h h') (ho : o'.at h' a) : Fm g (p :: (a, o') :: os) h' := (F.swap.upd0 k ho).swap
theorem upd2 (F : Fm g (p :: q :: (a, o) :: os) h) (k : SubBut a h h') (ho : o'.at h' a) : Fm g (p :: q :: (a, o') :: os) h' := by
  have e : ∀ o, (p :: q :: (a, o) :: os).Perm ((a, o) :: p :: q :: os) := fun o => ((List.Perm.swap _ _ _).cons _).trans (List.Perm.swap _ _ _)
  exact ((F.perm (e o)).upd0 k ho).perm (e o').symm
theorem upd3 (F : Fm g (p :: q :: r :: (a, o) :: os) h) (k : SubBut a h h') (ho : o'.at h' a) : Fm g (p :: q :: r :: (a, o') :: os) h' := by
  have e : ∀ o, (p :: q :: r :: (a, o) :: os).Perm ((a, o) :: p :: q :: r :: os) := fun o => (((List.Perm.swap _ _ _).cons _).cons _).trans (((List.Perm.swap _ _ _).cons _).trans (List.Perm.swap _ _ _))
  exact ((F.perm (e o)).upd0 k ho).perm (e o').symm

theorem out0 (F : Fm g ((a, o) :: os) h) : g.get? a = none := F.out _ (.head _)

/-- all that is not named goes to the ground -/
theorem reg {os' : List (Addr × Own)} (F : Fm g os h) (hs : os'.Sublist os) :
    Fm (hideAll h (os'.map (·.1))) os' h ∧ ∀ b o, b ∉ os'.map (·.1) → h.get? b = some o → (hideAll h (os'.map (·.1))).get? b = some o :=
  ⟨⟨fun b o e => of_hideAll _ e, fun p hp => F.own p (hs.subset hp), fun p hp => hideAll_none _ (List.mem_map_of_mem hp), F.apart.sublist hs⟩, fun _ _ hb e => hideAll_get _ e hb⟩
end Fm

/-- the same state but for the heap and the tokens -/
noncomputable def Is (s s' : Shared) : Prop := ∃ h tk, s' = { s with heap := h, toks := tk }
theorem Is.refl (s : Shared) : Is s s := ⟨_, _, rfl⟩
theorem Is.trans {a b c : Shared} (x : Is a b) (y : Is b c) : Is a c := by
  obtain ⟨h, t, rfl⟩ := x; obtain ⟨h', t', rfl⟩ := y; exact ⟨_, _, rfl⟩

section
variable {M : Model} {A : Around} {E : Value → Shared → Prop} {s : Shared} {env : Env} {g : Heap} {os : List (Addr × Own)} {m : Str → Option Value}

/-- a local name -/
theorem ldF {x : Str} {pos : Pos} {v : Value} {Q : Value → Shared → Prop} (F : Fm g ((env.locals, .ns m) :: os) s.heap) (hv : m x = some v) (h : Q v s)
    (hk : env.scope.kind = .function := by with_unfolding_all rfl) (hl : env.kindOf x = some .local := by with_unfolding_all rfl) (hd : (x == ("__debug__" : Str)) = false := by decide) :
    wpAny M A (eval (.Name x pos) env) Q E s := wpAny_Name (wpAny_loadName_local hk hl (F.own _ (.head _)) hv h) hd

theorem stF {x : Str} {v : Value} {Q : Unit → Shared → Prop} (F : Fm g ((env.locals, .ns m) :: os) s.heap)
    (h : ∀ h', Fm g ((env.locals, .ns fun y => if y = x then some v else m y) :: os) h' → Q () { s with heap := h', toks := s.toks + 1 })
    (hk : env.scope.kind = .function := by with_unfolding_all rfl) (hl : env.kindOf x = some .local := by with_unfolding_all rfl) : wpAny M A (storeName env x v) Q E s :=
  wpAny_storeName_local hl (F.own _ (.head _)) (fun h' hn hs => h h' (F.upd0 (fun b o hb e => (hs.2 b hb).trans e) hn))
    (by show (env.scope.kind == .class || (env.scope.kind == .module && env.locals != env.globals)) = false; rw [hk]; rfl)

/-- a name in a cell -/
theorem ldC {x : Str} {pos : Pos} {v : Value} {c : Addr} {Q : Value → Shared → Prop} (hv : s.heap.IsCell c (some v)) (h : Q v s) (hc : env.cells.lookup x = some c := by with_unfolding_all rfl)
    (hk : env.scope.kind = .function := by with_unfolding_all rfl) (hl : env.kindOf x = some .cell := by with_unfolding_all rfl) (hd : (x == ("__debug__" : Str)) = false := by decide) :
    wpAny M A (eval (.Name x pos) env) Q E s := wpAny_Name (wpAny_loadName_cell hk hl hc hv h) hd

theorem stC1 {x : Str} {v : Value} {c : Addr} {p : Addr × Own} {v₀ : Option Value} {Q : Unit → Shared → Prop} (F : Fm g (p :: (c, .cell v₀) :: os) s.heap)
    (h : ∀ h', Fm g (p :: (c, .cell (some v)) :: os) h' → Q () { s with heap := h' }) (hc : env.cells.lookup x = some c := by with_unfolding_all rfl)
    (hk : env.scope.kind = .function := by with_unfolding_all rfl) (hl : env.kindOf x = some .cell := by with_unfolding_all rfl) : wpAny M A (storeName env x v) Q E s :=
  wpAny_storeName_cell hk hl hc (F.own _ (.tail _ (.head _))) fun h' hc' hs => h h' (F.upd1 (fun b o hb e => (hs.2 b hb).trans e) hc')
theorem stC2 {x : Str} {v : Value} {c : Addr} {p q : Addr × Own} {v₀ : Option Value} {Q : Unit → Shared → Prop} (F : Fm g (p :: q :: (c, .cell v₀) :: os) s.heap)
    (h : ∀ h', Fm g (p :: q :: (c, .cell (some v)) :: os) h' → Q () { s with heap := h' }) (hc : env.cells.lookup x = some c := by with_unfolding_all rfl)
    (hk : env.scope.kind = .function := by with_unfolding_all rfl) (hl : env.kindOf x = some .cell := by with_unfolding_all rfl) : wpAny M A (storeName env x v) Q E s :=
  wpAny_storeName_cell hk hl hc (F.own _ (.tail _ (.tail _ (.head _)))) fun h' hc' hs => h h' (F.upd2 (fun b o hb e => (hs.2 b hb).trans e) hc')
theorem stC3 {x : Str} {v : Value} {c : Addr} {p q r : Addr × Own} {v₀ : Option Value} {Q : Unit → Shared → Prop} (F : Fm g (p :: q :: r :: (c, .cell v₀) :: os) s.heap)
    (h : ∀ h', Fm g (p :: q :: r :: (c, .cell (some v)) :: os) h' → Q () { s with heap := h' }) (hc : env.cells.lookup x = some c := by with_unfolding_all rfl)
    (hk : env.scope.kind = .function := by with_unfolding_all rfl) (hl : env.kindOf x = some .cell := by with_unfolding_all rfl) : wpAny M A (storeName env x v) Q E s :=
  wpAny_storeName_cell hk hl hc (F.own _ (.tail _ (.tail _ (.tail _ (.head _))))) fun h' hc' hs => h h' (F.upd3 (fun b o hb e => (hs.2 b hb).trans e) hc')
end

section
variable {prog : Program} {w : World} {A : Around} {E : Value → Shared → Prop} {s : Shared}

theorem sub_list {value slice : Expr} {l : Addr} {vs : Array Value} {k : Int} {u : Tok} {v : Value} {Q : Value → Shared → Prop}
    (hl : s.heap.IsList l vs) (h0 : 0 ≤ k) (hhi : k < 2 ^ 63) (hx : vs[k.toNat]? = some v) (h : Q v s)
    (hs : subscripted slice false (.ref l) (.int k u) = operate [.ref l, .int k u] (getItem (.ref l) (.int k u)) := by with_unfolding_all rfl) :
    wpAny (model prog w) A (subscriptTail value slice (.ref l) (.int k u)) Q E s :=
  tail_any hl.typeIs slot_list_getitem.lookup (wpAny_getItem_list hl h0 hhi hx h) hs

theorem sub_listN {value slice : Expr} {l : Addr} {vs : Array Value} {k : Nat} {u : Tok} {v : Value} {Q : Value → Shared → Prop}
    (hl : s.heap.IsList l vs) (hhi : k < 2 ^ 63) (hx : vs[k]? = some v) (h : Q v s)
    (hs : ∀ k : Int, subscripted slice false (.ref l) (.int k u) = operate [.ref l, .int k u] (getItem (.ref l) (.int k u)) := by intro _; with_unfolding_all rfl) :
    wpAny (model prog w) A (subscriptTail value slice (.ref l) (.int (k : Int) u)) Q E s :=
  sub_list hl (by omega) (by omega) (by simpa using hx) h (hs k)

theorem mapSeq_plain (f : Array Value → Array Value) (its : Array Value) (n : Nat) : ∃ n', Obj.mapSeq f { cls := .type "list", data := .seq its n } = { cls := .type "list", data := .seq (f its) n' } := by
  simp [Obj.mapSeq]

/-- a store into a list -/
theorem setItem_plain {l : Addr} {items : Array Value} {k : Int} {t : Tok} {v : Value} {Q : Unit → Shared → Prop} (hl : s.heap.PlainList l items)
    (h0 : 0 ≤ k) (hfit : k < 2 ^ 63) (hn : k < items.size)
    (hQ : ∀ h', h'.PlainList l (items.setIfInBounds k.toNat v) → SubBut l s.heap h' → Q () { s with heap := h' }) :
    wpAny (model prog w) A (setItem (.ref l) (.int k t) v) Q E s := by
  have hl' := hl.isList
  obtain ⟨ne, ho⟩ := hl
  unfold setItem
  try with_reducible refine wpAny_holding ?_
  first | refine wpAny_bind (wpAny_pure ?_) | skip
  refine wpAny_bind (wpAny_sequenceKey hl'.typeIs (by decide) ?_)
  refine wpAny_bind (wpAny_callSpecial?_slot (name := Str.ofString "__setitem__") hl'.typeIs slot_list_setitem
    (wpAny_call_entry slot_list_setitem hl'.typeIs entry_list_setitem ?_ (args_list_setitem _ _ _)))
  show wpAny _ _ (Builtin.List.listSubscript? (.int k t) >>= _) _ _ s
  refine wpAny_bind (wpAny_listSubscript_int (fitsIndex_of h0 hfit) ?_)
  clear hfit
  obtain ⟨j, rfl⟩ := Int.eq_ofNat_of_zero_le h0
  have hj : j < items.size := by omega
  have hx' : items[j]? = some items[j] := Array.getElem?_eq_getElem hj
  show wpAny _ _ ((seqItemAt l j >>= fun r => pure (r.map (j, ·))) >>= _) _ _ s
  refine wpAny_bind (wpAny_bind (wpAny_seqItemAt ho rfl (wpAny_pure ?_)))
  rw [hx']
  show wpAny _ _ (setSeqItemAt l j v >>= _) _ _ s
  obtain ⟨n', hm⟩ := mapSeq_plain (·.setIfInBounds j v) items ne
  have hfin : (s.heap.update l (Obj.mapSeq (·.setIfInBounds j v))).PlainList l (items.setIfInBounds j v) := by
    refine ⟨n', ?_⟩
    rw [Heap.get?_update_self _ ho (by rw [hm]; rfl), hm]
  have hsb : SubBut l s.heap (s.heap.update l (Obj.mapSeq (·.setIfInBounds j v))) := fun b o hb e => ((Heap.SameBut.update ..).2 b hb).trans e
  refine wpAny_bind (wpAny_setSeqItemAt ho rfl ?_)
  first
    | exact wpAny_bind (wpAny_pure (wpAny_pure ⟨.none, rfl, wpAny_pure (hQ _ hfin hsb)⟩))
    | exact wpAny_pure ⟨.none, rfl, wpAny_pure (hQ _ hfin hsb)⟩

/-- the last item taken off a list -/
theorem pop_plain {l : Addr} {items : Array Value} {y : Value} {Q : Value → Shared → Prop} (hl : s.heap.PlainList l items) (hy : items[items.size - 1]? = some y) (hsz : items.size ≤ sizeLine)
    (hQ : ∀ h', h'.PlainList l (items.eraseIdxIfInBounds (items.size - 1)) → SubBut l s.heap h' → Q y { s with heap := h' }) :
    wpAny (model prog w) A (call (.builtin "list.pop") [.ref l]) Q E s := by
  have hT := hl.isList.typeIs
  obtain ⟨n, ho⟩ := hl
  refine call_meets F.slot_list_pop hT F.entry_list_pop (F.args_list_pop_1 _) (MeetsSeq.list_pop_last l items n y hy hsz) ⟨ho, ?_⟩
  obtain ⟨n', hm⟩ := mapSeq_plain (·.eraseIdxIfInBounds (items.size - 1)) items n
  refine hQ _ ⟨n', ?_⟩ fun b o hb e => ((Heap.SameBut.update ..).2 b hb).trans e
  rw [Heap.get?_update_self _ ho (by rw [hm]; rfl), hm]

/-- one step in a sequence, by what holds between -/
theorem seq_mid {env : Env} {st : Stmt} {rest : List Stmt} {Q : Flow → Shared → Prop} (R : Shared → Prop)
    (h1 : wpAny (model prog w) A (exec st env) (fun f s' => f = .next ∧ R s') E s) (h2 : ∀ s', R s' → wpAny (model prog w) A (execs rest env) Q E s') :
    wpAny (model prog w) A (execs (st :: rest) env) Q E s :=
  wpAny_execs_cons (wpAny_mono h1 (fun f s' h => by obtain ⟨rfl, h⟩ := h; exact h2 s' h) fun _ _ e => e)

/-- what a call asks of what is around it -/
structure Rm (A : Around) (k : Nat) : Prop where
  handled : A.handled = none
  depth : A.depth + k < recursionLimit
  units : A.units + 4 * k + 100 ≤ cLine

theorem Rm.deeper {k : Nat} {env : Env} (x : Rm A (k + 1)) : Rm (A.deeper env) k :=
  ⟨x.handled, by have := x.depth; show A.depth + 1 + k < _; omega, by have := x.units; show A.units + 3 + 4 * k + 100 ≤ _; omega⟩
theorem Rm.room {k : Nat} (x : Rm A k) : A.depth < recursionLimit := by have := x.depth; omega
theorem Rm.mono {k k' : Nat} (x : Rm A k) (h : k' ≤ k) : Rm A k' := ⟨x.handled, by have := x.depth; omega, by have := x.units; omega⟩

/-- a call of one of the text's defs, without cells -/
theorem enterT {f : Addr} {st : Stmt} {args : List Value} {Q : Value → Shared → Prop} {k : Nat} (binds : List (Str × Value)) (ls : List (Addr × Array Value))
    (R : Rm A (k + 1)) (hfn : FnAt s.heap f st) (hlim : s.heap.NoLimit) (hl : ∀ p ∈ ls, s.heap.PlainList p.1 p.2)
    (h : ∀ g h₁ cd tk A', Rm A' k → Fm g ((s.heap.objs.size, .ns fun x => binds.reverse.lookup x) :: ls.map fun p => (p.1, .list p.2)) h₁ → (∀ b o, b ∉ ls.map (·.1) → s.heap.get? b = some o → g.get? b = some o) →
      Sub g s.heap → tk = s.toks + binds.length → wpAny (model prog w) A' (execs (bodyOf st) (envOf (nameOf st) (scopeOf st) s.heap.objs.size f cd))
        (fun fl s' => Q (match fl with | .ret v => v | _ => .none) s') (fun _ _ => False) { s with heap := h₁, toks := tk })
    (hap : ls.Pairwise fun p q => p.1 ≠ q.1 := by simp)
    (hbind : ∀ pm cd doc, bindArgs (docDef (nameOf st) (argsOf st) (bodyOf st) (scopeOf st) pm cd doc) ⟨args, []⟩ = pure binds := by intro _ _ _; rfl)
    (hloc : (binds.all fun x => decide ((scopeOf st).names.lookup x.1 = some .local)) = true := by rfl)
    (hco : (scopeOf st).isCoroutine = false := by rfl) (hgen : (scopeOf st).isGenerator = false := by rfl) (hk : (scopeOf st).kind = .function := by rfl)
    (hcell : ((scopeOf st).names.all fun x => decide (x.2 ≠ .cell)) = true := by rfl) :
    wpAny (model prog w) A (call (.ref f) args) Q E s := by
  obtain ⟨o, pm, cd, doc, ho, hd, hcr⟩ := hfn
  refine wpAny_call (call_plain_ret R.room ho hd hlim hcr (hbind _ _ _) (locs hloc) ?_ hco hgen hk (fun x hx => of_decide_eq_true (List.all_eq_true.mp hcell x hx)))
  intro h₁ F₁
  refine h (hideAll s.heap (ls.map (·.1))) h₁ cd _ _ R.deeper ⟨fun b o e => F₁.keep b o (of_hideAll _ e), ?_, ?_, ?_⟩ (fun b o hb e => hideAll_get _ e hb) (fun b o e => of_hideAll _ e) rfl
  · intro p hp
    rcases List.mem_cons.mp hp with rfl | hp
    · exact F₁.ns
    · obtain ⟨q, hq, rfl⟩ := List.mem_map.mp hp
      exact (hl q hq).at fun o e => F₁.keep _ o e
  · intro p hp
    rcases List.mem_cons.mp hp with rfl | hp
    · cases e : (hideAll s.heap (ls.map (·.1))).get? s.heap.objs.size with
      | none => rfl
      | some x => exact absurd (Heap.lt_size (of_hideAll _ e)) (Nat.lt_irrefl _)
    · obtain ⟨q, hq, rfl⟩ := List.mem_map.mp hp
      exact hideAll_none _ (List.mem_map_of_mem hq)
  · refine List.pairwise_cons.mpr ⟨fun p hp => ?_, List.pairwise_map.mpr hap⟩
    obtain ⟨q, hq, rfl⟩ := List.mem_map.mp hp
    obtain ⟨n, ho⟩ := hl q hq
    exact Nat.ne_of_gt (Heap.lt_size ho)

/-- a call of one of the text's defs, without cells -/
theorem enter {f : Addr} {st : Stmt} {args : List Value} {Q : Value → Shared → Prop} {k : Nat} (binds : List (Str × Value)) (ls : List (Addr × Array Value))
    (R : Rm A (k + 1)) (hfn : FnAt s.heap f st) (hlim : s.heap.NoLimit) (hl : ∀ p ∈ ls, s.heap.PlainList p.1 p.2)
    (h : ∀ g h₁ cd tk A', Rm A' k → Fm g ((s.heap.objs.size, .ns fun x => binds.reverse.lookup x) :: ls.map fun p => (p.1, .list p.2)) h₁ → (∀ b o, b ∉ ls.map (·.1) → s.heap.get? b = some o → g.get? b = some o) →
      Sub g s.heap → wpAny (model prog w) A' (execs (bodyOf st) (envOf (nameOf st) (scopeOf st) s.heap.objs.size f cd))
        (fun fl s' => Q (match fl with | .ret v => v | _ => .none) s') (fun _ _ => False) { s with heap := h₁, toks := tk })
    (hap : ls.Pairwise fun p q => p.1 ≠ q.1 := by simp)
    (hbind : ∀ pm cd doc, bindArgs (docDef (nameOf st) (argsOf st) (bodyOf st) (scopeOf st) pm cd doc) ⟨args, []⟩ = pure binds := by intro _ _ _; rfl)
    (hloc : (binds.all fun x => decide ((scopeOf st).names.lookup x.1 = some .local)) = true := by rfl)
    (hco : (scopeOf st).isCoroutine = false := by rfl) (hgen : (scopeOf st).isGenerator = false := by rfl) (hk : (scopeOf st).kind = .function := by rfl)
    (hcell : ((scopeOf st).names.all fun x => decide (x.2 ≠ .cell)) = true := by rfl) :
    wpAny (model prog w) A (call (.ref f) args) Q E s :=
  enterT binds ls R hfn hlim hl (fun g h₁ cd tk A' R' F hk hs _ => h g h₁ cd tk A' R' F hk hs) hap hbind hloc hco hgen hk hcell

/-- a call of one of the text's defs, with cells -/
theorem enterC {f : Addr} {st : Stmt} {args : List Value} {Q : Value → Shared → Prop} {k : Nat} (binds : List (Str × Value)) (cells : Nat → List (Str × Addr)) (cm : Str → Option Value) (m : Str → Option Value)
    (R : Rm A (k + 1)) (hfn : FnAt s.heap f st) (hlim : s.heap.NoLimit)
    (h : ∀ h₁ cd tk A', Rm A' k → Fm s.heap ((s.heap.objs.size, .ns m) :: (cells s.heap.objs.size).map fun p => (p.2, .cell (cm p.1))) h₁ →
      wpAny (model prog w) A' (execs (bodyOf st) (envOfC (nameOf st) (scopeOf st) s.heap.objs.size f cd))
        (fun fl s' => Q (match fl with | .ret v => v | _ => .none) s') (fun _ _ => False) { s with heap := h₁, toks := tk })
    (hbind : ∀ pm cd doc, bindArgs (docDef (nameOf st) (argsOf st) (bodyOf st) (scopeOf st) pm cd doc) ⟨args, []⟩ = pure binds := by intro _ _ _; rfl)
    (hcells : ∀ L, cellsFrom (L + 1) (scopeOf st).names [] = cells L := by intro _; with_unfolding_all rfl)
    (hlook : ∀ L, ∀ p ∈ cells L, (cells L).lookup p.1 = some p.2)
    (hm : ∀ L a cd, bindL (envOfC (nameOf st) (scopeOf st) L a cd).kindOf binds (fun _ => none) = m := by intro _ _ _; with_unfolding_all rfl)
    (hcm : ∀ L a cd, bindC (envOfC (nameOf st) (scopeOf st) L a cd).kindOf binds (fun _ => none) = cm := by intro _ _ _; with_unfolding_all rfl)
    (hkind : ∀ L, ∀ x ∈ binds, (scopeOf st).names.lookup x.1 = some .local ∨ ((scopeOf st).names.lookup x.1 = some .cell ∧ ((cells L).lookup x.1).isSome = true))
    (hco : (scopeOf st).isCoroutine = false := by rfl) (hgen : (scopeOf st).isGenerator = false := by rfl) (hk : (scopeOf st).kind = .function := by rfl) :
    wpAny (model prog w) A (call (.ref f) args) Q E s := by
  obtain ⟨o, pm, cd, doc, ho, hd, hcr⟩ := hfn
  refine wpAny_call (call_cells_ret R.room ho hd hlim hcr (hbind _ _ _) (by rw [hcells]; exact hkind _) ?_ hco hgen hk)
  intro h₁ tk F₁ C
  rw [hm] at F₁
  rw [hcm, hcells] at C
  refine h h₁ cd tk _ R.deeper ⟨F₁.keep, ?_, ?_, ?_⟩
  · intro p hp
    rcases List.mem_cons.mp hp with rfl | hp
    · exact F₁.ns
    · obtain ⟨q, hq, rfl⟩ := List.mem_map.mp hp
      exact C.cell q.1 q.2 (hlook _ q hq)
  · have fr : ∀ a, s.heap.objs.size ≤ a → s.heap.get? a = none := fun a ha => by
      cases e : s.heap.get? a with
      | none => rfl
      | some x => exact absurd (Heap.lt_size e) (Nat.not_lt.mpr ha)
    intro p hp
    rcases List.mem_cons.mp hp with rfl | hp
    · exact fr _ (Nat.le_refl _)
    · obtain ⟨q, hq, rfl⟩ := List.mem_map.mp hp
      exact fr _ (Nat.le_of_lt (C.above q.1 q.2 hq))
  · refine List.pairwise_cons.mpr ⟨fun p hp => ?_, List.pairwise_map.mpr C.apart⟩
    obtain ⟨q, hq, rfl⟩ := List.mem_map.mp hp
    exact Nat.ne_of_lt (C.above q.1 q.2 hq)
end
end Mine
end

section
open PySem PySem.W PyProof.Rows PySem.Calls
set_option maxRecDepth 100000
set_option linter.unusedVariables false
namespace Mine

/-- an iterator at `I` over `n` items, its `i` next; what it reads lies in `g` -/
structure It (prog : Program) (w : World) (g : Heap) (I : Addr) (n : Nat) (P : Nat → Value → Prop) (i : Nat) (h : Heap) : Prop where
  st : ∃ fp St, (∀ A : Around, A.handled = none → Walks prog w A I fp [I] n P St) ∧ St i h ∧ (∀ b ∈ fp, b ≠ I → ∃ o, g.get? b = some o) ∧ ∀ i h, St i h → ∃ o, h.get? I = some o
  out : g.get? I = none
  sub : Sub g h

section
variable {prog : Program} {w : World} {A : Around} {E : Value → Shared → Prop} {s : Shared} {env : Env}

theorem It.ext {g h h' : Heap} {I : Addr} {n i : Nat} {P : Nat → Value → Prop} (x : It prog w g I n P i h) (k : Sub g h') (kI : ∀ o, h.get? I = some o → h'.get? I = some o) : It prog w g I n P i h' := by
  obtain ⟨⟨fp, St, W, st, hf, lv⟩, ho, hs⟩ := x
  refine ⟨⟨fp, St, W, (W { } rfl).frame i h h' st fun b hb o e => ?_, hf, lv⟩, ho, k⟩
  by_cases hI : b = I
  · subst hI; exact kI o e
  · obtain ⟨o', e'⟩ := hf b hb hI
    have := hs b o' e'
    rw [this] at e; cases e
    exact k b _ e'

theorem It.item {g : Heap} {I : Addr} {n i : Nat} {P : Nat → Value → Prop} {Q : Option Value → Shared → Prop} (x : It prog w g I n P i s.heap) (hh : A.handled = none) (hi : i < n)
    (hQ : ∀ v h' tk, P i v → It prog w g I n P (i + 1) h' → SubBut I s.heap h' → Q (some v) { s with heap := h', toks := tk }) : wpAny (model prog w) A (pyNext (.ref I)) Q E s := by
  obtain ⟨⟨fp, St, W, st, hf, lv⟩, ho, hs⟩ := x
  refine (W A hh).item i s Q E hi st fun v h' tk hv st' hk => ?_
  have k : SubBut I s.heap h' := fun b o hb e => hk b o (by simpa using hb) e
  exact hQ v h' tk hv ⟨⟨fp, St, W, st', hf, lv⟩, ho, fun b o e => k b o (ne_of_none ho e).symm (hs b o e)⟩ k

theorem It.done {g : Heap} {I : Addr} {n : Nat} {P : Nat → Value → Prop} {Q : Option Value → Shared → Prop} (x : It prog w g I n P n s.heap) (hh : A.handled = none)
    (hQ : ∀ h' tk, SubBut I s.heap h' → Q none { s with heap := h', toks := tk }) : wpAny (model prog w) A (pyNext (.ref I)) Q E s := by
  obtain ⟨⟨fp, St, W, st, hf, lv⟩, ho, hs⟩ := x
  exact (W A hh).done s Q E st fun h' tk hk => hQ h' tk fun b o hb e => hk b o (by simpa using hb) e

theorem It.live {g h : Heap} {I : Addr} {n i : Nat} {P : Nat → Value → Prop} (x : It prog w g I n P i h) : ∃ o, h.get? I = some o := by
  obtain ⟨⟨fp, St, W, st, hf, lv⟩, ho, hs⟩ := x
  exact lv i h st

theorem It.self {g : Heap} {I : Addr} {n i : Nat} {P : Nat → Value → Prop} {Q : Value → Shared → Prop} (x : It prog w g I n P i s.heap) (hh : A.handled = none)
    (hQ : Q (.ref I) s) : wpAny (model prog w) A (pyIter (.ref I)) Q E s := by
  obtain ⟨⟨fp, St, W, st, hf, lv⟩, ho, hs⟩ := x
  exact (W A hh).self i s Q E st hQ

theorem hide_push {h : Heap} {o : Obj} : Sub h (hideAll (h.push o) [h.objs.size]) := fun b x e =>
  hideAll_get _ (Heap.get?_push_of_some _ e) (by simpa using Nat.ne_of_lt (Heap.lt_size e))

/-- what a `for` draws from: the ground may be any heap that lies under the state's -/
theorem iter_list {l : Addr} {vs : Array Value} {g : Heap} {Q : Value → Shared → Prop} (hl : g.IsList l vs) (hg : Sub g s.heap)
    (hQ : ∀ I h₂, s.heap.get? I = none → It prog w g I vs.size (fun i v => vs[i]? = some v) 0 h₂ → Sub s.heap h₂ → Q (.ref I) { s with heap := h₂ }) :
    wpAny (model prog w) A (pyIter (.ref l)) Q E s := by
  have hl' : s.heap.IsList l vs := isList_keep hl fun o e => hg _ o e
  refine wpAny_pyIter_list hl' ?_
  have hn : s.heap.get? s.heap.objs.size = none := by
    cases e : s.heap.get? s.heap.objs.size with
    | none => rfl
    | some x => exact absurd (Heap.lt_size e) (Nat.lt_irrefl _)
  have hgn : g.get? s.heap.objs.size = none := by
    cases e : g.get? s.heap.objs.size with
    | none => rfl
    | some x => rw [hg _ _ e] at hn; cases hn
  obtain ⟨ol, hol, _⟩ := id hl
  refine hQ _ _ hn ⟨⟨_, _, fun A hA => Walks.list hA _ l (Nat.ne_of_lt (Heap.lt_size (hg _ _ hol))) vs, ⟨⟨_, Heap.get?_push_size _ rfl, rfl, rfl⟩, hl'.push _⟩, ?_, fun i h st => ⟨_, st.1.choose_spec.1⟩⟩, hgn, fun b o e => Heap.get?_push_of_some _ (hg b o e)⟩ fun b o e => Heap.get?_push_of_some _ e
  intro b hb hI
  simp only [List.mem_cons, List.not_mem_nil, or_false] at hb
  rcases hb with rfl | rfl
  · exact absurd rfl hI
  · exact ⟨ol, hol⟩

theorem iter_str {x : Str} {t : Tok} {g : Heap} {Q : Value → Shared → Prop} (hg : Sub g s.heap)
    (hQ : ∀ I h₂, s.heap.get? I = none → It prog w g I x.cps.size (SignAt x) 0 h₂ → Sub s.heap h₂ → Q (.ref I) { s with heap := h₂ }) :
    wpAny (model prog w) A (pyIter (.str x t)) Q E s := by
  have hn : s.heap.get? s.heap.objs.size = none := by
    cases e : s.heap.get? s.heap.objs.size with
    | none => rfl
    | some x => exact absurd (Heap.lt_size e) (Nat.lt_irrefl _)
  have hgn : g.get? s.heap.objs.size = none := by
    cases e : g.get? s.heap.objs.size with
    | none => rfl
    | some x => rw [hg _ _ e] at hn; cases hn
  have key : ∀ (o : Obj) (St : Nat → Heap → Prop), (∀ A' : Around, A'.handled = none → Walks prog w A' s.heap.objs.size [s.heap.objs.size] [s.heap.objs.size] x.cps.size (SignAt x) St) → St 0 (s.heap.push o) →
      (∀ i h, St i h → ∃ o, h.get? s.heap.objs.size = some o) → Q (.ref s.heap.objs.size) { s with heap := s.heap.push o } := by
    intro o St W st lv
    refine hQ _ _ hn ⟨⟨_, _, W, st, ?_, lv⟩, hgn, fun b o e => Heap.get?_push_of_some _ (hg b o e)⟩ fun b o e => Heap.get?_push_of_some _ e
    intro b hb hI
    simp only [List.mem_cons, List.not_mem_nil, or_false] at hb
    exact absurd hb hI
  cases ha : x.cps.all (· < 128)
  · exact wpAny_pyIter_wide ha (key _ _ (fun A' hA => Walks.strWide hA _ x t) ⟨_, Heap.get?_push_size _ rfl, rfl, rfl⟩ fun i h st => ⟨_, st.choose_spec.1⟩)
  · exact wpAny_pyIter_ascii ha (key _ _ (fun A' hA => Walks.strAscii hA _ x t) ⟨_, Heap.get?_push_size _ rfl, rfl, rfl⟩ fun i h st => ⟨_, st.choose_spec.1⟩)

theorem iter_range {r : Addr} {a b c : Int} {t u v : Tok} {n : Nat} {g : Heap} {Q : Value → Shared → Prop} (hr : IsRange s.heap r a b c t u v) (hsmall : Builtin.Range.small a b c = true)
    (hn : Builtin.Range.rangeSize a b c = (n : Int)) (hg : Sub g s.heap)
    (hQ : ∀ I h₂, s.heap.get? I = none → It prog w g I n (fun i v => ∃ t, v = .int (a + i * c) t) 0 h₂ → Sub s.heap h₂ → Q (.ref I) { s with heap := h₂ }) :
    wpAny (model prog w) A (pyIter (.ref r)) Q E s := by
  refine wpAny_pyIter_range hr hsmall ?_
  have hn' : s.heap.get? s.heap.objs.size = none := by
    cases e : s.heap.get? s.heap.objs.size with
    | none => rfl
    | some x => exact absurd (Heap.lt_size e) (Nat.lt_irrefl _)
  have hgn : g.get? s.heap.objs.size = none := by
    cases e : g.get? s.heap.objs.size with
    | none => rfl
    | some x => rw [hg _ _ e] at hn'; cases hn'
  refine hQ _ _ hn' ⟨⟨_, _, fun A hA => Walks.range hA _ a c n, ?_, ?_, fun i h st => ⟨_, st⟩⟩, hgn, fun b o e => Heap.get?_push_of_some _ (hg b o e)⟩ fun b o e => Heap.get?_push_of_some _ e
  · have : IsRangeIter (s.heap.push { cls := .type "range_iterator", data := .fields #[rawInt a, rawInt (Builtin.Range.rangeSize a b c), rawInt c] }) s.heap.objs.size a (Builtin.Range.rangeSize a b c) c := Heap.get?_push_size _ rfl
    rw [hn] at this
    show IsRangeIter _ _ (a + ((0 : Nat) : Int) * c) ((n : Int) - ((0 : Nat) : Int)) c
    rw [show a + ((0 : Nat) : Int) * c = a by simp, show (n : Int) - ((0 : Nat) : Int) = n by simp]
    rw [hn]; exact this
  intro b hb hI
  simp only [List.mem_cons, List.not_mem_nil, or_false] at hb
  exact absurd hb hI
end
end Mine
end

section
open PySem PySem.W PyProof.Rows PySem.Calls
set_option maxRecDepth 100000
set_option linter.unusedVariables false
namespace Mine

theorem Fm.but {g h h' : Heap} {os : List (Addr × Own)} {I : Addr} (F : Fm g os h) (k : SubBut I h h') (hg : g.get? I = none) (ho : ∀ p ∈ os, p.1 ≠ I) : Fm g os h' :=
  ⟨fun b o e => k b o (ne_of_none hg e).symm (F.keep b o e), fun p hp => Own.keep (F.own p hp) fun o e => k _ o (ho p hp) e, F.out, F.apart⟩

theorem Fm.back {g g' h : Heap} {os : List (Addr × Own)} {a : Addr} {o : Own} (F : Fm g' os h) (hs : Sub g g') (ho : o.at g' a) (hn : g.get? a = none) : Fm g ((a, o) :: os) h := by
  have no : ∀ b, g'.get? b = none → g.get? b = none := fun b hb => by
    cases e : g.get? b with
    | none => rfl
    | some x => rw [hs _ _ e] at hb; cases hb
  refine ⟨fun b x e => F.keep b x (hs b x e), fun p hp => ?_, fun p hp => ?_, List.pairwise_cons.mpr ⟨fun p hp e => ?_, F.apart⟩⟩
  · rcases List.mem_cons.mp hp with rfl | hp
    · exact Own.keep ho fun x e => F.keep _ _ e
    · exact F.own p hp
  · rcases List.mem_cons.mp hp with rfl | hp
    · exact hn
    · exact no _ (F.out p hp)
  · obtain ⟨x, hx⟩ := Own.some ho
    exact ne_of_none (F.out p hp) hx e.symm

theorem Fm.subg {g g' h : Heap} {os : List (Addr × Own)} (F : Fm g' os h) (hs : Sub g g') : Fm g os h :=
  ⟨fun b x e => F.keep b x (hs b x e), F.own, fun p hp => (by
    cases e : g.get? p.1 with
    | none => rfl
    | some x => have := F.out p hp; rw [hs _ _ e] at this; cases this), F.apart⟩

section
variable {prog : Program} {w : World} {A : Around} {E : Value → Shared → Prop} {s : Shared} {env : Env}

/-- the tests of a comprehension -/
noncomputable abbrev tests (ifs : List Expr) (env : Env) : Sem Bool := forIn ifs true fun c r => if r = true then do let ok ← isTrue c env (eval c env); pure (ForInStep.yield ok) else pure (ForInStep.yield r)

theorem comp_block {elt iter : Expr} {x : Str} {px : Pos} {ifs : List Expr} {scope : Scope} {cl : List (Str × Addr)} {pos : Pos} {s₂ : Shared} {I : Addr} {n : Nat} {P : Nat → Value → Prop} {g : Heap}
    {os : List (Addr × Own)} (J : Nat → List Value → List (Addr × Own) → Prop) {RR : Value → Addr → Result → Shared → Prop}
    (hh : A.handled = none) (hsz : n ≤ sizeLine) (hcell : ∀ y ∈ scope.names, y.2 ≠ .cell) (hkind : scope.kind = .function) (hx : scope.names.lookup x = some .local)
    (F : Fm g os s₂.heap) (T : It prog w g I n P 0 s₂.heap) (hIo : ∀ p ∈ os, p.1 ≠ I) (h0 : J 0 [] os)
    (step : ∀ i ys os v C m s g' E', i < n → J i ys os → P i v → Sub g g' → Fm g' ((C, .ns m) :: os) s.heap → m x = some v →
      wpAny (model prog w) A (tests ifs (compEnvC scope cl C env)) (fun ok s' => Is s s' ∧ ∃ os', Fm g' ((C, .ns m) :: os') s'.heap ∧
        if ok = true then wpAny (model prog w) A (eval elt (compEnvC scope cl C env)) (fun y s'' => Is s' s'' ∧ ∃ os'', Fm g' ((C, .ns m) :: os'') s''.heap ∧ J (i + 1) (ys ++ [y]) os'') E' s'
        else J (i + 1) ys os') E' s)
    (hRR : ∀ D C h' tk m' ys os', J n ys os' → Fm g ((D, .list ys.toArray) :: (C, .ns m') :: os') h' → s₂.heap.get? D = none → s₂.heap.get? C = none → RR (.ref D) C (.ok .next) { s₂ with heap := h', toks := tk }) :
    wpAny (model prog w) A (newList []) (fun acc s₃ => wpAny (model prog w) A (newFunctionEnv scope env.globals cl [] env.qual none .none (some env)) (fun cenv s₄ =>
      codeAny (model prog w) A (.compStart (.ListComp elt [⟨.Name x px, iter, ifs, 0⟩] scope pos) 0 (.ref I) acc { cenv with scope := relabel scope env }) (RR acc cenv.locals) s₄) E s₃) E s₂ := by
  refine wpAny_newObj_type (wpAny_newFunctionEnv hcell (by intro y hy; simp at hy) (fun h₁ hns₁ hsb₁ => ?_) hkind)
  dsimp only at hns₁ hsb₁ ⊢
  generalize hH2 : s₂.heap.push { cls := .type "list", dict := none, data := .seq ([] : List Value).toArray } = H2 at hns₁ hsb₁ ⊢
  have hC : H2.objs.size = s₂.heap.objs.size + 1 := by rw [← hH2, Heap.size_push]
  have below : ∀ b, b < s₂.heap.objs.size → b ≠ H2.objs.size ∧ b ≠ s₂.heap.objs.size := fun b hb => ⟨by rw [hC]; exact Nat.ne_of_lt (Nat.lt_succ_of_lt hb), Nat.ne_of_lt hb⟩
  have fresh : ∀ a, s₂.heap.objs.size ≤ a → s₂.heap.get? a = none := fun a ha => by
    cases e : s₂.heap.get? a with
    | none => rfl
    | some o' => exact absurd (Heap.lt_size e) (Nat.not_lt.mpr ha)
  have hDn := fresh _ (Nat.le_refl _)
  have hCn := fresh H2.objs.size (by rw [hC]; exact Nat.le_succ _)
  have hDC : s₂.heap.objs.size ≠ H2.objs.size := by rw [hC]; exact Nat.ne_of_lt (Nat.lt_succ_self _)
  have old : Sub s₂.heap h₁ := fun b o e => hsb₁.extBut b o (below b (Heap.lt_size e)).1 (Heap.get?_push_of_some _ (hH2 ▸ Heap.get?_push_of_some _ e))
  have hacc : h₁.PlainList s₂.heap.objs.size #[] := ⟨_, hsb₁.extBut _ _ hDC (Heap.get?_push_of_some _ (hH2 ▸ Heap.get?_push_size _ rfl))⟩
  clear hC below fresh hsb₁
  generalize s₂.heap.objs.size = D at hDn hDC hacc ⊢
  generalize H2.objs.size = C at hCn hDC hns₁ ⊢
  have F₁ : Fm g ((D, .list #[]) :: (C, .ns fun x => ([] : List (Str × Value)).reverse.lookup x) :: os) h₁ := by
    have a : Fm g ((C, .ns fun x => ([] : List (Str × Value)).reverse.lookup x) :: os) h₁ := F.cons old hCn hns₁
    refine ⟨a.keep, fun p hp => ?_, fun p hp => ?_, List.pairwise_cons.mpr ⟨fun p hp e => ?_, a.apart⟩⟩
    · rcases List.mem_cons.mp hp with rfl | hp
      · exact hacc
      · exact a.own p hp
    · rcases List.mem_cons.mp hp with rfl | hp
      · cases e : g.get? D with
        | none => rfl
        | some x => exact absurd rfl (ne_of_none hDn (F.keep _ _ e))
      · exact a.out p hp
    · rcases List.mem_cons.mp hp with rfl | hp
      · exact hDC e
      · obtain ⟨x, hx⟩ := F.fresh p hp
        exact ne_of_none hDn hx e
  obtain ⟨oI, hoI⟩ := T.live
  have hID : I ≠ D := fun e => ne_of_none hDn hoI e.symm
  have hIC : I ≠ C := fun e => ne_of_none hCn hoI e.symm
  have T₁ : It prog w g I n P 0 h₁ := T.ext F₁.keep fun o e => old _ _ e
  have loop : ∀ s₃ : Shared, s₃ = { s₂ with heap := h₁, toks := s₂.toks + ([] : List (Str × Value)).length } →
      codeAny (model prog w) A (.compLoop (.ListComp elt [⟨.Name x px, iter, ifs, 0⟩] scope pos) 0 (.ref I) (.ref D) (compEnvC scope cl C env)) (RR (.ref D) C) s₃ := by
    rintro s₃ rfl
    refine codeAny_compLoop_tests
      (fun k s' => ∃ i h' tk m' ys os', s' = { s₂ with heap := h', toks := tk } ∧ It prog w g I n P i h' ∧ Fm g ((D, .list (List.toArray ys)) :: (C, .ns m') :: os') h' ∧ (∀ p ∈ os', p.1 ≠ I) ∧ J i ys os' ∧ i ≤ n ∧ k = n + 1 - i ∧ ys.length ≤ i)
      ?_ (n + 1) ⟨0, h₁, _, _, [], os, rfl, T₁, F₁, hIo, h0, Nat.zero_le _, rfl, Nat.zero_le _⟩
    rintro k s' ⟨i, h', tk, m', ys, os', rfl, T', F', hIo', hJ, hi, rfl, hlen⟩
    have hall : ∀ p ∈ (D, Own.list (List.toArray ys)) :: (C, .ns m') :: os', p.1 ≠ I := fun p hp => by
      simp only [List.mem_cons] at hp
      rcases hp with rfl | rfl | hp
      · exact hID.symm
      · exact hIC.symm
      · exact hIo' p hp
    by_cases hlt : i < n
    · refine T'.item hh hlt fun v h₂ tk₂ hv T₂ k₂ => ?_
      have F₂ := F'.but k₂ T'.out hall
      obtain ⟨oI', hoI'⟩ := T₂.live
      refine wpAny_assign_Name (wpAny_storeName_local (env := compEnvC scope cl C env) (lookup_relabel_local hx) (F₂.own _ (.tail _ (.head _))) (fun h₃ hn₃ hs₃ => ?_) (by simp [compEnvC, relabel, hkind]))
      have F₃ := F₂.swap.upd0 (o' := .ns fun y => if y = x then some v else m' y) (fun b o hb e => (hs₃.2 b hb).trans e) hn₃
      have hoI₃ : h₃.get? I = some oI' := (hs₃.2 I hIC).trans hoI'
      obtain ⟨F₄, K₄⟩ := F₃.reg (os' := (C, .ns fun y => if y = x then some v else m' y) :: os') ((List.Sublist.cons _ (List.Sublist.refl _)).cons_cons _)
      generalize hg' : hideAll h₃ (((C, Own.ns fun y => if y = x then some v else m' y) :: os').map (·.1)) = g' at F₄ K₄
      have nin : ∀ {a : Addr}, (∀ p ∈ os', p.1 ≠ a) → a ≠ C → a ∉ ((C, Own.ns fun y => if y = x then some v else m' y) :: os').map (·.1) := fun h1 h2 hm => by
        simp only [List.map_cons, List.mem_cons, List.mem_map] at hm
        rcases hm with e | ⟨p, hp, e⟩
        · exact h2 e
        · exact h1 p hp e
      have S₄ : Sub g g' := fun b o e => K₄ b o (fun hm => by
        simp only [List.map_cons, List.mem_cons, List.mem_map] at hm
        rcases hm with e' | ⟨p, hp, e'⟩
        · exact ne_of_none (F₃.out _ (.head _)) e e'.symm
        · exact ne_of_none (F₃.out p (.tail _ (.tail _ hp))) e e') (F₃.keep b o e)
      have T₃ : It prog w g I n P (i + 1) h₃ := T₂.ext F₃.keep fun o e => by rw [hoI'] at e; cases e; exact hoI₃
      have gI : g'.get? I = some oI' := K₄ I oI' (nin hIo' hIC) hoI₃
      have gD : g'.PlainList D (List.toArray ys) := by
        obtain ⟨nD, ho⟩ : h₃.PlainList D (List.toArray ys) := F₃.own _ (.tail _ (.head _))
        have ap := F'.apart
        rw [List.pairwise_cons] at ap
        exact ⟨nD, K₄ D _ (nin (fun p hp e => ap.1 p (.tail _ hp) e.symm) (ap.1 _ (.head _))) ho⟩
      have gDn : g.get? D = none := F'.out _ (.head _)
      have rest : ∀ os'' h'', Fm g' ((C, .ns fun y => if y = x then some v else m' y) :: os'') h'' → Fm g ((D, .list (List.toArray ys)) :: (C, .ns fun y => if y = x then some v else m' y) :: os'') h'' ∧
          It prog w g I n P (i + 1) h'' ∧ ∀ p ∈ os'', p.1 ≠ I := fun os'' h'' F'' =>
        ⟨F''.back S₄ gD gDn, T₃.ext (S₄.trans F''.keep) (fun o e => by rw [hoI₃] at e; cases e; exact F''.keep _ _ gI), fun p hp e => ne_of_none (F''.out p (.tail _ hp)) gI e⟩
      refine wpAny_mono (step i ys os' v C _ { s₂ with heap := h₃, toks := tk₂ + 1 } g' _ hlt hJ hv S₄ F₄ (by simp)) (fun ok s' hs' => ?_) fun _ _ e => e
      obtain ⟨⟨h₅, tk₅, rfl⟩, os₅, F₅, hs'⟩ := hs'
      cases ok with
      | false =>
        obtain ⟨F₆, T₆, hI₆⟩ := rest _ _ F₅
        exact ⟨n + 1 - (i + 1), by omega, i + 1, h₅, _, (fun z => if z = x then some v else m' z), ys, os₅, rfl, T₆, F₆, hI₆, hs', hlt, rfl, by omega⟩
      | true =>
        refine wpAny_mono hs' (fun y s'' hs'' => ?_) fun _ _ e => e
        obtain ⟨⟨h₇, tk₇, rfl⟩, os₇, F₇, hJ'⟩ := hs''
        obtain ⟨F₈, T₈, hI₈⟩ := rest _ _ F₇
        refine wpAny_list_append_plain (F₈.own _ (.head _)) (fun h₉ hl₉ hs₉ => ?_) (by simp; omega)
        have sb : SubBut D h₇ h₉ := fun b o hb e => (hs₉.2 b hb).trans e
        have F₉ := F₈.upd0 (o' := .list ((List.toArray ys).push y)) sb hl₉
        refine ⟨n + 1 - (i + 1), by omega, i + 1, h₉, _, (fun z => if z = x then some v else m' z), ys ++ [y], os₇, rfl, T₈.ext F₉.keep fun o e => sb I o hID e, ?_, hI₈, hJ', hlt, rfl, by simp; omega⟩
        have e : (List.toArray ys).push y = (ys ++ [y]).toArray := by simp
        rw [← e]; exact F₉
    · obtain rfl : i = n := by omega
      refine T'.done hh fun h₂ tk₂ k₂ => ?_
      exact hRR D C h₂ tk₂ m' ys os' hJ (F'.but k₂ T'.out hall) hDn hCn
  exact codeAny_compStart_list (loop _ rfl) (T₁.self hh (loop _ rfl))

/-- what a `for` or a comprehension draws from -/
noncomputable def Src (prog : Program) (w : World) (g : Heap) (xv : Value) (n : Nat) (P : Nat → Value → Prop) (s : Shared) : Prop :=
  ∀ (A : Around) (E : Value → Shared → Prop) (Q : Value → Shared → Prop), A.handled = none →
    (∀ I h₂, s.heap.get? I = none → It prog w g I n P 0 h₂ → Sub s.heap h₂ → Q (.ref I) { s with heap := h₂ }) → wpAny (model prog w) A (pyIter xv) Q E s
theorem Src.list {l : Addr} {vs : Array Value} {g : Heap} (hl : g.IsList l vs) (hg : Sub g s.heap) : Src prog w g (.ref l) vs.size (fun i v => vs[i]? = some v) s :=
  fun A E Q hh hQ => iter_list hl hg hQ
theorem Src.str {x : Str} {t : Tok} {g : Heap} (hg : Sub g s.heap) : Src prog w g (.str x t) x.cps.size (SignAt x) s := fun A E Q hh hQ => iter_str hg hQ
theorem Src.range {r : Addr} {a b c : Int} {t u v : Tok} {n : Nat} {g : Heap} (hr : IsRange s.heap r a b c t u v) (hsmall : Builtin.Range.small a b c = true)
    (hn : Builtin.Range.rangeSize a b c = (n : Int)) (hg : Sub g s.heap) : Src prog w g (.ref r) n (fun i v => ∃ t, v = .int (a + i * c) t) s :=
  fun A E Q hh hQ => iter_range hr hsmall hn hg hQ

theorem not_own {g h : Heap} {os : List (Addr × Own)} {I : Addr} (F : Fm g os h) (hI : h.get? I = none) : ∀ p ∈ os, p.1 ≠ I := fun p hp => by
  obtain ⟨x, hx⟩ := F.fresh p hp
  exact (ne_of_none hI hx).symm

theorem Fm.dropC {g h h' : Heap} {os : List (Addr × Own)} {C : Addr} {p : Addr × Own} {o : Own} (F : Fm g (p :: (C, o) :: os) h) (k : SubBut C h h') : Fm g (p :: os) h' := by
  have a := F.swap
  have ap := a.apart
  rw [List.pairwise_cons] at ap
  exact a.drop.but k (a.out _ (.head _)) fun q hq => (ap.1 q hq).symm

noncomputable def Step (prog : Program) (w : World) (A : Around) (env : Env) (scope : Scope) (cl : List (Str × Addr)) (x : Str) (ifs : List Expr) (elt : Expr) (g : Heap) (n : Nat) (P : Nat → Value → Prop)
    (J : Nat → List Value → List (Addr × Own) → Prop) : Prop :=
  ∀ i ys os v C m s g' E', i < n → J i ys os → P i v → Sub g g' → Fm g' ((C, .ns m) :: os) s.heap → m x = some v →
      wpAny (model prog w) A (tests ifs (compEnvC scope cl C env)) (fun ok s' => Is s s' ∧ ∃ os', Fm g' ((C, .ns m) :: os') s'.heap ∧
        if ok = true then wpAny (model prog w) A (eval elt (compEnvC scope cl C env)) (fun y s'' => Is s' s'' ∧ ∃ os'', Fm g' ((C, .ns m) :: os'') s''.heap ∧ J (i + 1) (ys ++ [y]) os'') E' s'
        else J (i + 1) ys os') E' s

theorem comp_any {elt iter : Expr} {x : Str} {px : Pos} {ifs : List Expr} {scope : Scope} {pos : Pos} {Q : Value → Shared → Prop} (cl : List (Str × Addr)) (hh : A.handled = none)
    (h : wpAny (model prog w) A (eval iter env) (fun xv s₁ => ∃ g os n P J, Src prog w g xv n P s₁ ∧ n ≤ sizeLine ∧ Fm g os s₁.heap ∧ J 0 [] os ∧ Step prog w A env scope cl x ifs elt g n P J ∧
      ∀ D ys os' h' tk, J n ys os' → Fm g ((D, .list (List.toArray ys)) :: os') h' → s₁.heap.get? D = none → Q (.ref D) { s₁ with heap := h', toks := tk }) E s)
    (hclos : closureFor scope env = pure cl := by with_unfolding_all rfl) (hcell : ∀ y ∈ scope.names, y.2 ≠ .cell := by decide) (hkind : scope.kind = .function := by with_unfolding_all rfl)
    (hnames : ∀ y ∈ scope.names, y.2 = .local → scope.names.lookup y.1 = some .local := by decide) (hx : scope.names.lookup x = some .local := by with_unfolding_all rfl)
    (hs : ∀ x, foldedSetIterable iter env x = pure x := by intro _; with_unfolding_all rfl) :
    wpAny (model prog w) A (eval (.ListComp elt [⟨.Name x px, iter, ifs, 0⟩] scope pos) env) Q E s := by
  rw [eval_ListComp]
  refine wpAny_comprehension_free (use := none) rfl hs hclos hkind hnames (wpAny_mono h (fun xv s₁ h₁ => ?_) fun _ _ e => e)
  obtain ⟨g, os, n, P, J, S, hsz, F, h0, step, hQ⟩ := h₁
  refine S A _ _ hh fun I h₂ hI T k => ?_
  refine comp_block (RR := fun acc C => compPost (model prog w) A E none Q acc C) J hh hsz hcell hkind hx (F.ext k) T (not_own F hI) h0 step ?_
  intro D C h' tk m' ys os' hJ F' hD hC
  refine ⟨m', F'.own _ (.tail _ (.head _)), fun h'' hs'' => hQ D ys os' h'' tk hJ (F'.dropC fun b o hb e => (hs''.2 b hb).trans e) ?_⟩
  cases e : s₁.heap.get? D with
  | none => rfl
  | some o => have hD' : h₂.get? D = none := hD
              rw [k _ _ e] at hD'; cases hD'

theorem comp_assign {elt iter : Expr} {x y : Str} {px py : Pos} {ifs : List Expr} {scope : Scope} {pos spos : Pos} {Q : Flow → Shared → Prop} (cl : List (Str × Addr)) (hh : A.handled = none)
    (h : wpAny (model prog w) A (eval iter env) (fun xv s₁ => ∃ g m os n P J, Src prog w g xv n P s₁ ∧ n ≤ sizeLine ∧ Fm g ((env.locals, .ns m) :: os) s₁.heap ∧ J 0 [] ((env.locals, .ns m) :: os) ∧
      (∀ i ys os, J i ys os → ∃ os', os = (env.locals, .ns m) :: os') ∧ Step prog w A env scope cl x ifs elt g n P J ∧
      ∀ D ys os' h' tk, J n ys ((env.locals, .ns m) :: os') → Fm g ((env.locals, .ns fun z => if z = y then some (.ref D) else m z) :: (D, .list (List.toArray ys)) :: os') h' → s₁.heap.get? D = none → Q .next { s₁ with heap := h', toks := tk }) E s)
    (hsw : swapsWith (.ListComp elt [⟨.Name x px, iter, ifs, 0⟩] scope pos) (some (.Name y py)) spos.line env = pure true := by with_unfolding_all rfl)
    (hclos : closureFor scope env = pure cl := by with_unfolding_all rfl) (hcell : ∀ y ∈ scope.names, y.2 ≠ .cell := by decide) (hkind : scope.kind = .function := by with_unfolding_all rfl)
    (hnames : ∀ y ∈ scope.names, y.2 = .local → scope.names.lookup y.1 = some .local := by decide) (hx : scope.names.lookup x = some .local := by with_unfolding_all rfl)
    (hy : env.kindOf y = some .local := by with_unfolding_all rfl) (hk : env.scope.kind = .function := by with_unfolding_all rfl)
    (hs : ∀ x, foldedSetIterable iter env x = pure x := by intro _; with_unfolding_all rfl) :
    wpAny (model prog w) A (exec (.Assign [.Name y py] (.ListComp elt [⟨.Name x px, iter, ifs, 0⟩] scope pos) spos) env) Q E s := by
  rw [exec_Assign_Name_used _ _ _ _ hsw]
  refine wpAny_bind (wpAny_standAt (wpAny_bind ?_))
  show wpAny _ A (do let _ ← comprehension (.ListComp elt [⟨.Name x px, iter, ifs, 0⟩] scope pos) scope env _ (newList []) false (eval iter env) (some (assign (.Name y py) env))) _ _ s
  refine wpAny_bind (wpAny_mono (wpAny_comprehension_free (use := some (assign (.Name y py) env)) (Q := fun _ s' => Q .next s') rfl hs hclos hkind hnames
    (wpAny_mono h (fun xv s₁ h₁ => ?_) fun _ _ e => e)) (fun _ s' hq => wpAny_pure (wpAny_pure hq)) fun _ _ e => e)
  obtain ⟨g, m, os, n, P, J, S, hsz, F, h0, hJs, step, hQ⟩ := h₁
  refine S A _ _ hh fun I h₂ hI T k => ?_
  refine comp_block (RR := fun acc C => compPost (model prog w) A E (some (assign (.Name y py) env)) (fun _ s' => Q .next s') acc C) J hh hsz hcell hkind hx (F.ext k) T (not_own F hI) h0 step ?_
  intro D C h' tk m' ys os' hJ F' hD hC
  obtain ⟨os'', rfl⟩ := hJs _ _ _ hJ
  show wpAny _ A (assign (.Name y py) env (.ref D)) _ _ _
  have F₁ : Fm g ((env.locals, .ns m) :: (D, .list (List.toArray ys)) :: (C, .ns m') :: os'') h' := F'.perm (((List.Perm.swap _ _ _).cons _).trans (List.Perm.swap _ _ _))
  refine wpAny_assign_Name (stF F₁ (fun h₃ F₃ => ?_) hk hy)
  have F₄ : Fm g ((C, .ns m') :: (env.locals, .ns fun z => if z = y then some (.ref D) else m z) :: (D, .list (List.toArray ys)) :: os'') h₃ := F₃.perm (((List.Perm.swap _ _ _).cons _).trans (List.Perm.swap _ _ _))
  refine ⟨m', F₄.own _ (.head _), fun h'' hs'' => hQ D ys os'' h'' _ hJ (F₄.swap.dropC fun b o hb e => (hs''.2 b hb).trans e) ?_⟩
  cases e : s₁.heap.get? D with
  | none => rfl
  | some o => have hD' : h₂.get? D = none := hD
              rw [k _ _ e] at hD'; cases hD'

/-- values by what they say -/
noncomputable def Vs {α : Type} (tv : Value → Option α) (vs : List Value) (xs : List α) : Prop := vs.map tv = xs.map some

/-- a comprehension whose turns change nothing -/
theorem comp_pure {α : Type} {elt iter : Expr} {x : Str} {px : Pos} {ifs : List Expr} {scope : Scope} {pos : Pos} {Q : Value → Shared → Prop} (tv : Value → Option α) (cl : List (Str × Addr)) (hh : A.handled = none)
    (h : wpAny (model prog w) A (eval iter env) (fun xv s₁ => ∃ n P, ∃ b : Nat → Bool, ∃ f : Nat → α, Src prog w s₁.heap xv n P s₁ ∧ n ≤ sizeLine ∧
      (∀ i v C m s g E', i < n → P i v → Sub s₁.heap g → Fm g [(C, .ns m)] s.heap → m x = some v →
        wpAny (model prog w) A (tests ifs (compEnvC scope cl C env)) (fun ok s' => ok = b i ∧ Keeps s s') E' s) ∧
      (∀ i v C m s g E', i < n → P i v → b i = true → Sub s₁.heap g → Fm g [(C, .ns m)] s.heap → m x = some v →
        wpAny (model prog w) A (eval elt (compEnvC scope cl C env)) (fun y s' => tv y = some (f i) ∧ Keeps s s') E' s) ∧
      ∀ D ys h' tk, Vs tv ys (((List.range n).filter b).map f) → Sub s₁.heap h' → h'.PlainList D (List.toArray ys) → s₁.heap.get? D = none → Q (.ref D) { s₁ with heap := h', toks := tk }) E s)
    (hclos : closureFor scope env = pure cl := by with_unfolding_all rfl) (hcell : ∀ y ∈ scope.names, y.2 ≠ .cell := by decide) (hkind : scope.kind = .function := by with_unfolding_all rfl)
    (hnames : ∀ y ∈ scope.names, y.2 = .local → scope.names.lookup y.1 = some .local := by decide) (hx : scope.names.lookup x = some .local := by with_unfolding_all rfl)
    (hs : ∀ x, foldedSetIterable iter env x = pure x := by intro _; with_unfolding_all rfl) :
    wpAny (model prog w) A (eval (.ListComp elt [⟨.Name x px, iter, ifs, 0⟩] scope pos) env) Q E s := by
  refine comp_any cl hh (wpAny_mono h (fun xv s₁ h₁ => ?_) fun _ _ e => e) hclos hcell hkind hnames hx hs
  obtain ⟨n, P, b, f, S, hsz, ht, he, hQ⟩ := h₁
  refine ⟨s₁.heap, [], n, P, fun i ys os => os = [] ∧ Vs tv ys (((List.range i).filter b).map f), S, hsz, ⟨Sub.refl _, (fun _ h => nomatch h), (fun _ h => nomatch h), List.Pairwise.nil⟩, ⟨rfl, rfl⟩, ?_, ?_⟩
  · rintro i ys os v C m s g' E' hi ⟨rfl, hJ⟩ hv hs F hm
    refine wpAny_mono (ht i v C m s g' E' hi hv hs F hm) (fun ok s' h' => ?_) fun _ _ e => e
    obtain ⟨rfl, h₃, tk₃, rfl, k₃⟩ := h'
    refine ⟨⟨_, _, rfl⟩, [], F.ext k₃, ?_⟩
    by_cases hb : b i = true
    · rw [if_pos hb]
      refine wpAny_mono (he i v C m _ g' E' hi hv hb hs (F.ext k₃) hm) (fun y s'' h'' => ?_) fun _ _ e => e
      obtain ⟨hy, h₄, tk₄, rfl, k₄⟩ := h''
      refine ⟨⟨_, _, rfl⟩, [], (F.ext k₃).ext k₄, rfl, ?_⟩
      unfold Vs at hJ ⊢
      rw [List.range_succ, List.filter_append, List.map_append, List.map_append, List.map_append, hJ]
      simp [hb, hy]
    · rw [if_neg hb]
      refine ⟨rfl, ?_⟩
      unfold Vs at hJ ⊢
      rw [List.range_succ, List.filter_append, List.map_append, List.map_append, hJ]
      simp [hb]
  · rintro D ys os' h' tk ⟨rfl, hJ⟩ F hD
    exact hQ D ys h' tk hJ F.keep (F.own _ (.head _)) hD

/-- no tests -/
theorem comp_map {α : Type} {elt iter : Expr} {x : Str} {px : Pos} {scope : Scope} {pos : Pos} {Q : Value → Shared → Prop} (tv : Value → Option α) (cl : List (Str × Addr)) (hh : A.handled = none)
    (h : wpAny (model prog w) A (eval iter env) (fun xv s₁ => ∃ n P, ∃ f : Nat → α, Src prog w s₁.heap xv n P s₁ ∧ n ≤ sizeLine ∧
      (∀ i v C m s g E', i < n → P i v → Sub s₁.heap g → Fm g [(C, .ns m)] s.heap → m x = some v →
        wpAny (model prog w) A (eval elt (compEnvC scope cl C env)) (fun y s' => tv y = some (f i) ∧ Keeps s s') E' s) ∧
      ∀ D ys h' tk, Vs tv ys ((List.range n).map f) → Sub s₁.heap h' → h'.PlainList D (List.toArray ys) → s₁.heap.get? D = none → Q (.ref D) { s₁ with heap := h', toks := tk }) E s)
    (hclos : closureFor scope env = pure cl := by with_unfolding_all rfl) (hcell : ∀ y ∈ scope.names, y.2 ≠ .cell := by decide) (hkind : scope.kind = .function := by with_unfolding_all rfl)
    (hnames : ∀ y ∈ scope.names, y.2 = .local → scope.names.lookup y.1 = some .local := by decide) (hx : scope.names.lookup x = some .local := by with_unfolding_all rfl)
    (hs : ∀ x, foldedSetIterable iter env x = pure x := by intro _; with_unfolding_all rfl) :
    wpAny (model prog w) A (eval (.ListComp elt [⟨.Name x px, iter, [], 0⟩] scope pos) env) Q E s := by
  refine comp_pure tv cl hh (wpAny_mono h (fun xv s₁ h₁ => ?_) fun _ _ e => e) hclos hcell hkind hnames hx hs
  obtain ⟨n, P, f, S, hsz, he, hQ⟩ := h₁
  refine ⟨n, P, fun _ => true, f, S, hsz, fun i v C m s g E' _ _ _ _ _ => wpAny_tests_nil ⟨rfl, s.heap, s.toks, rfl, fun _ _ e => e⟩, fun i v C m s g E' hi hv _ => he i v C m s g E' hi hv, ?_⟩
  intro D ys h' tk hV
  rw [List.filter_eq_self.mpr (fun _ _ => rfl)] at hV
  exact hQ D ys h' tk hV
end
end Mine
end

section
open PySem PySem.W PyProof.Rows PySem.Calls
set_option maxRecDepth 100000
set_option linter.unusedVariables false
namespace Mine
noncomputable def defIdx : List Nat := [3, 6, 8, 9, 11, 12, 13, 14, 17, 18, 19, 20, 21, 23, 24, 25, 26, 27, 28, 29, 30]
noncomputable def bltNames : List Str := ["len", "range", "reversed", "sorted", "sum", "list", "isinstance", "str", "object"]
noncomputable def specKeys : List Nat := [40, 41, 91, 93, 123, 125, 63, 42, 43, 45, 124, 94, 36, 92, 46, 38, 126, 35, 32, 9, 10, 13, 11, 12]

/-- the table of signs that `escape` asks -/
noncomputable def SpecAt (h : Heap) (a : Addr) : Prop := (a == sysModules) = false ∧ ∃ es ep, h.get? a = some { cls := .type "dict", data := .dict es ep } ∧
  es.toList.map (fun e => (e.hash, match e.key with | .int i _ => some i | _ => none, match e.val with | .str s _ => some s.cps.toList | _ => none)) = specKeys.map fun (k : Nat) => ((k : Int), some (k : Int), some [92, k])

/-- what the walk asks of the module's top -/
structure Gl (mg mb : Str → Option Value) (h : Heap) : Prop where
  g : h.Ns mainGlobals mg
  b : h.Ns builtinsNs mb
  nolimit : h.NoLimit
  blt : ∀ x : Str, x ≠ "__name__" → mb x = bootBuiltins x
  fn : ∀ i ∈ defIdx, ∃ f, mg (nameOf (defAt i)) = some (.ref f) ∧ FnAt h f (defAt i)
  free : ∀ x ∈ bltNames, mg x = none
  spec : ∃ a, mg "_special_chars_map" = some (.ref a) ∧ SpecAt h a

theorem FnAt.keeps {h h' : Heap} {f : Addr} {st : Stmt} (x : FnAt h f st) (hk : Sub h h') : FnAt h' f st :=
  let ⟨o, pm, cd, doc, a, b, c⟩ := x; ⟨o, pm, cd, doc, hk _ _ a, b, c.keeps hk⟩
theorem SpecAt.keeps {h h' : Heap} {a : Addr} (x : SpecAt h a) (hk : Sub h h') : SpecAt h' a :=
  let ⟨ne, es, ep, e, r⟩ := x; ⟨ne, es, ep, hk _ _ e, r⟩
theorem Gl.keeps {mg mb : Str → Option Value} {h h' : Heap} (G : Gl mg mb h) (hk : Sub h h') : Gl mg mb h' :=
  ⟨G.g.keeps hk, G.b.keeps hk, G.nolimit.keeps hk, G.blt, fun i hi => let ⟨f, a, b⟩ := G.fn i hi; ⟨f, a, b.keeps hk⟩, G.free, let ⟨a, e, s⟩ := G.spec; ⟨a, e, s.keeps hk⟩⟩

section
variable {M : Model} {A : Around} {E : Value → Shared → Prop} {s : Shared} {env : Env} {mg mb : Str → Option Value}
/-- a name of the text's own def -/
theorem glF {x : Str} {pos : Pos} {Q : Value → Shared → Prop} (i : Nat) (G : Gl mg mb s.heap) (h : ∀ f, FnAt s.heap f (defAt i) → Q (.ref f) s)
    (hi : i ∈ defIdx := by decide) (hx : x = nameOf (defAt i) := by with_unfolding_all rfl) (hg : env.globals = mainGlobals := by with_unfolding_all rfl)
    (hk : env.scope.kind = .function := by with_unfolding_all rfl) (hl : env.kindOf x = some .globalImplicit := by with_unfolding_all rfl) (hd : (x == ("__debug__" : Str)) = false := by decide) :
    wpAny M A (eval (.Name x pos) env) Q E s := by
  obtain ⟨f, hm, hf⟩ := G.fn i hi
  exact Name_function_global hk hl (loadGlobal_global (env := env) (by rw [hg]; exact G.g) (by rw [hx]; exact hm) (h f hf)) hd
/-- a name of the interpreter's own -/
theorem glB {x : Str} {v : Value} {pos : Pos} {Q : Value → Shared → Prop} (G : Gl mg mb s.heap) (hb : bootBuiltins x = some v) (h : Q v s)
    (hi : x ∈ bltNames := by decide) (hg : env.globals = mainGlobals := by with_unfolding_all rfl) (hbn : env.builtins = builtinsNs := by with_unfolding_all rfl)
    (hk : env.scope.kind = .function := by with_unfolding_all rfl) (hl : env.kindOf x = some .globalImplicit := by with_unfolding_all rfl) (hd : (x == ("__debug__" : Str)) = false := by decide) (hn : x ≠ "__name__" := by decide) :
    wpAny M A (eval (.Name x pos) env) Q E s :=
  Name_function_global hk hl (loadGlobal_builtin (env := env) (by rw [hg]; exact G.g) (G.free x hi) (by rw [hbn]; exact G.b) ((G.blt x hn).trans hb) h) hd
/-- a call of a def by its name -/
theorem callF {x : Str} {p pos : Pos} {e : Expr} {rest : List Expr} {Q : Value → Shared → Prop} (i : Nat) (G : Gl mg mb s.heap)
    (h : ∀ f, FnAt s.heap f (defAt i) → wpAny M A (spliced (backTo pos (starEach (e :: rest) env))) (fun vs s₁ => Sub s.heap s₁.heap ∧ (FnAt s₁.heap f (defAt i) → wpAny M A (call (.ref f) vs) Q E s₁)) E s)
    (hi : i ∈ defIdx := by decide) (hx : x = nameOf (defAt i) := by with_unfolding_all rfl) (hg : env.globals = mainGlobals := by with_unfolding_all rfl)
    (hk : env.scope.kind = .function := by with_unfolding_all rfl) (hl : env.kindOf x = some .globalImplicit := by with_unfolding_all rfl) (hd : (x == ("__debug__" : Str)) = false := by decide)
    (he : starEach (e :: rest) env = (false, eval e env) :: starEach rest env := by with_unfolding_all rfl) :
    wpAny M A (eval (.Call (.Name x p) (e :: rest) [] pos) env) Q E s := by
  refine wpAny_Call_NameR (glF i G (fun f hf => ?_) hi hx hg hk hl hd)
  obtain ⟨o, pm, cd, doc, ho, hdat, _⟩ := id hf
  exact callWith_def hdat (wpAny_mono (h f hf) (fun vs s₁ q => ⟨q.1 f o ho, q.2 (hf.keeps q.1)⟩) fun _ _ q => q) he
end

section
variable {prog : Program} {w : World} {A : Around} {E : Value → Shared → Prop} {s : Shared} {env : Env} {mg mb : Str → Option Value}
/-- a call of a built-in of one argument by its name -/
theorem callB1 {x : Str} {id : String} {p pos : Pos} {e : Expr} {Q : Value → Shared → Prop} (G : Gl mg mb s.heap) (hb : bootBuiltins x = some (.builtin id))
    (h : wpAny (model prog w) A (eval e env) (fun v s₁ => wpAny (model prog w) A (call (.builtin id) [v]) Q E s₁) E s)
    (hi : x ∈ bltNames := by decide) (hg : env.globals = mainGlobals := by with_unfolding_all rfl) (hbn : env.builtins = builtinsNs := by with_unfolding_all rfl) (hk : env.scope.kind = .function := by with_unfolding_all rfl) (hl : env.kindOf x = some .globalImplicit := by with_unfolding_all rfl)
    (hd : (x == ("__debug__" : Str)) = false := by decide) (hn : x ≠ "__name__" := by decide)
    (he : starEach [e] env = (false, eval e env) :: starEach [] env := by with_unfolding_all rfl) :
    wpAny (model prog w) A (eval (.Call (.Name x p) [e] [] pos) env) Q E s :=
  wpAny_Call_NameR (glB G hb (PyProof.Rows.callWith_builtin1 (args_cons (wpAny_mono h (fun _ _ q => args_nil q) fun _ _ q => q) he) he rfl) hi hg hbn hk hl hd hn)
/-- a call of a built-in type by its name -/
theorem callT {x : Str} {T : String} {p pos : Pos} {e : Expr} {rest : List Expr} {Q : Value → Shared → Prop} (G : Gl mg mb s.heap) (hb : bootBuiltins x = some (.type T))
    (h : wpAny (model prog w) A (spliced (backTo pos (starEach (e :: rest) env))) (fun vs s₁ => wpAny (model prog w) A (call (.type T) vs) Q E s₁) E s)
    (hi : x ∈ bltNames := by decide) (hg : env.globals = mainGlobals := by with_unfolding_all rfl) (hbn : env.builtins = builtinsNs := by with_unfolding_all rfl) (hk : env.scope.kind = .function := by with_unfolding_all rfl) (hl : env.kindOf x = some .globalImplicit := by with_unfolding_all rfl)
    (hd : (x == ("__debug__" : Str)) = false := by decide) (hn : x ≠ "__name__" := by decide)
    (he : starEach (e :: rest) env = (false, eval e env) :: starEach rest env := by with_unfolding_all rfl) (hplain : (backTo pos (starEach rest env)).any (·.1) = false := by with_unfolding_all rfl) :
    wpAny (model prog w) A (eval (.Call (.Name x p) (e :: rest) [] pos) env) Q E s :=
  wpAny_Call_NameR (glB G hb (PyProof.Rows.callWith_type1 h he hplain) hi hg hbn hk hl hd hn)
end
end Mine
end

section
open PySem PySem.W PyProof.Rows PySem.Calls
set_option maxRecDepth 100000
set_option linter.unusedVariables false
namespace Mine
section
variable {prog : Program} {w : World} {A : Around} {E : Value → Shared → Prop} {s : Shared} {env : Env}

theorem for_any {x : Str} {px pos : Pos} {iter : Expr} {body : List Stmt} {Q : Flow → Shared → Prop} (hh : A.handled = none)
    (h : wpAny (model prog w) A (eval iter env) (fun xv s₁ => wpAny (model prog w) A (pyIter xv) (fun it s₂ => ∃ I g os m n P, ∃ J : Nat → (Str → Option Value) → List (Addr × Own) → Prop, it = .ref I ∧ It prog w g I n P 0 s₂.heap ∧
      Fm g ((env.locals, .ns m) :: os) s₂.heap ∧ (∀ p ∈ ((env.locals, .ns m) :: os : List (Addr × Own)), p.1 ≠ I) ∧ J 0 m os ∧
      (∀ i m os v s g', i < n → J i m os → P i v → Sub g g' → Fm g' ((env.locals, .ns fun y => if y = x then some v else m y) :: os) s.heap →
        wpAny (model prog w) A (execs body env) (fun f s' => f = .next ∧ Is s s' ∧ ∃ m' os', Fm g' ((env.locals, .ns m') :: os') s'.heap ∧ J (i + 1) m' os') (fun _ _ => False) s) ∧
      ∀ m os h' tk, J n m os → Fm g ((env.locals, .ns m) :: os) h' → Q .next { s₂ with heap := h', toks := tk }) E s₁) E s)
    (hx : env.kindOf x = some .local := by with_unfolding_all rfl) (hk : env.scope.kind = .function := by with_unfolding_all rfl)
    (hs : ∀ x, foldedSetIterable iter env x = pure x := by intro _; with_unfolding_all rfl) :
    wpAny (model prog w) A (exec (.For (.Name x px) iter body [] pos) env) Q E s := by
  refine wpAny_For (wpAny_mono h (fun xv s₁ h₁ => wpAny_mono h₁ (fun it s₂ h₂ => ?_) fun _ _ e => e) fun _ _ e => e) hs
  obtain ⟨I, g, os, m, n, P, J, rfl, T, F, hIo, h0, step, hQ⟩ := h₂
  refine codeAny_forLoop (fun k s' => ∃ i h' tk m' os', s' = { s₂ with heap := h', toks := tk } ∧ It prog w g I n P i h' ∧ Fm g ((env.locals, .ns m') :: os') h' ∧ (∀ p ∈ ((env.locals, .ns m') :: os' : List (Addr × Own)), p.1 ≠ I) ∧ J i m' os' ∧ i ≤ n ∧ k = n + 1 - i)
    ?_ (n + 1) ⟨0, _, _, m, os, rfl, T, F, hIo, h0, Nat.zero_le _, rfl⟩
  rintro k s' ⟨i, h', tk, m', os', rfl, T', F', hIo', hJ, hi, rfl⟩
  by_cases hlt : i < n
  · refine T'.item hh hlt fun v h₂ tk₂ hv T₂ k₂ => ?_
    have F₂ := F'.but k₂ T'.out hIo'
    obtain ⟨oI', hoI'⟩ := T₂.live
    have hIL : I ≠ env.locals := (hIo' _ (.head _)).symm
    refine wpAny_assign_Name (wpAny_storeName_local hx (F₂.own _ (.head _)) (fun h₃ hn₃ hs₃ => ?_) (by rw [hk]; rfl))
    have F₃ := F₂.upd0 (o' := .ns fun y => if y = x then some v else m' y) (fun b o hb e => (hs₃.2 b hb).trans e) hn₃
    have hoI₃ : h₃.get? I = some oI' := (hs₃.2 I hIL).trans hoI'
    obtain ⟨F₄, K₄⟩ := F₃.reg (os' := (env.locals, .ns fun y => if y = x then some v else m' y) :: os') (List.Sublist.refl _)
    generalize hideAll h₃ (((env.locals, Own.ns fun y => if y = x then some v else m' y) :: os').map (·.1)) = g' at F₄ K₄
    have nin : I ∉ ((env.locals, Own.ns fun y => if y = x then some v else m' y) :: os').map (·.1) := fun hm => by
      obtain ⟨p, hp, e⟩ := List.mem_map.mp hm
      rcases List.mem_cons.mp hp with rfl | hp
      · exact hIL e.symm
      · exact hIo' p (.tail _ hp) e
    have S₄ : Sub g g' := fun b o e => K₄ b o (fun hm => by
      obtain ⟨p, hp, e'⟩ := List.mem_map.mp hm
      exact ne_of_none (F₃.out p hp) e e') (F₃.keep b o e)
    have gI : g'.get? I = some oI' := K₄ I oI' nin hoI₃
    have T₃ : It prog w g I n P (i + 1) h₃ := T₂.ext F₃.keep fun o e => by rw [hoI'] at e; cases e; exact hoI₃
    refine wpAny_mono (step i m' os' v { s₂ with heap := h₃, toks := tk₂ + 1 } g' hlt hJ hv S₄ F₄) (fun f s' hs' => ?_) fun _ _ e => e.elim
    obtain ⟨rfl, ⟨h₅, tk₅, rfl⟩, m₅, os₅, F₅, hJ₅⟩ := hs'
    exact ⟨n + 1 - (i + 1), by omega, i + 1, h₅, _, m₅, os₅, rfl, T₃.ext (S₄.trans F₅.keep) (fun o e => by rw [hoI₃] at e; cases e; exact F₅.keep _ _ gI), F₅.subg S₄, fun p hp e => ne_of_none (F₅.out p hp) gI e, hJ₅, hlt, rfl⟩
  · obtain rfl : i = n := by omega
    exact T'.done hh fun h₂ tk₂ k₂ => wpAny_execs_nil (hQ m' os' h₂ tk₂ hJ (F'.but k₂ T'.out hIo'))

theorem sub_ri_reversed : isSubtype (.type "range_iterator") (.type "reversed") = pure false := by rw [isSubtype_type]; kernel_rfl

theorem rev_size {n : Nat} : Builtin.Range.rangeSize 0 n 1 = n := by rw [rangeSize_one]; split <;> omega
theorem small_rev {n : Nat} (h : n < 2 ^ 31) : (Builtin.Range.rangeFitsLong 0 && Builtin.Range.rangeFitsLong n && Builtin.Range.rangeFitsLong 1 && Builtin.Range.rangeFitsLong (-1) && Builtin.Range.rangeFitsLong (0 - 1) && Builtin.Range.rangeFitsLong n) = true := by
  simp [Builtin.Range.rangeFitsLong]; omega

theorem call_range_reversed {r : Addr} {n : Nat} {t u v : Tok} {Q : Value → Shared → Prop} (hr : IsRange s.heap r 0 n 1 t u v) (hn : n < 2 ^ 31)
    (h : Q (.ref s.heap.objs.size) { s with heap := s.heap.push { cls := .type "range_iterator", data := .fields #[rawInt ((n : Int) - 1), rawInt n, rawInt (-1)] } }) :
    wpAny (model prog w) A (call (.builtin "range.__reversed__") [.ref r]) Q E s := by
  have hT : s.TypeIs (.ref r) "range" := ⟨_, hr, rfl⟩
  refine wpAny_call_entry F.slot_range_reversed hT F.entry_range_reversed ?_ (F.args_range_reversed_1 _)
  unfold Builtin.«range.__reversed__»
  refine wpAny_bind (wpAny_of_eq (a := Value.ref r) rfl ?_)
  have hf : ∀ (A : Around), wpAny (model prog w) A (Builtin.Range.rangeFields (.ref r)) (fun a s' => a = (0, (n : Int), 1) ∧ s' = s) E s := fun A => by
    unfold Builtin.Range.rangeFields
    refine wpAny_bind (wpAny_field hr rfl (x := .int 0 t) rfl ?_)
    refine wpAny_bind (wpAny_of_eq (t := asInt? (.int 0 t)) (a := some (0 : Int)) rfl ?_)
    refine wpAny_bind (wpAny_field hr rfl (x := .int n u) rfl ?_)
    refine wpAny_bind (wpAny_of_eq (t := asInt? (.int n u)) (a := some (n : Int)) rfl ?_)
    refine wpAny_bind (wpAny_field hr rfl (x := .int 1 v) rfl ?_)
    refine wpAny_bind (wpAny_of_eq (t := asInt? (.int 1 v)) (a := some (1 : Int)) rfl ?_)
    exact wpAny_pure ⟨rfl, rfl⟩
  refine wpAny_bind (wpAny_mono (hf _) (fun a s' ha => ?_) fun _ _ e => e)
  obtain ⟨rfl, rfl⟩ := ha
  dsimp only
  rw [rev_size, small_rev hn]
  simp only [Bool.not_true, Bool.false_eq_true, if_false, if_true]
  rw [show (0 : Int) + ((n : Int) - 1) * 1 = (n : Int) - 1 by omega]
  first
  | exact wpAny_bind (wpAny_newObj_type (wpAny_pure ⟨_, rfl, h⟩))
  | exact wpAny_bind (wpAny_pure (wpAny_bind (wpAny_newObj_type (wpAny_pure ⟨_, rfl, h⟩))))

theorem code_reversed_range {r : Addr} {n : Nat} {t u v : Tok} {Q₁ : Value → Shared → Prop} (hr : IsRange s.heap r 0 n 1 t u v) (hn : n < 2 ^ 31)
    (h : Q₁ (.ref s.heap.objs.size) { s with heap := s.heap.push { cls := .type "range_iterator", data := .fields #[rawInt ((n : Int) - 1), rawInt n, rawInt (-1)] } }) :
    codeAny (model prog w) A (.call (.builtin "reversed.__new__") ⟨[.type "reversed", .ref r], []⟩) (wants Q₁ E) s := by
  have hT : s.TypeIs (.ref r) "range" := ⟨_, hr, rfl⟩
  refine codeAny_of_tree ?_
  show wpAny _ A.in1 (do checkBuiltinCall "reversed.__new__" ⟨[.type "reversed", .ref r], []⟩; again (.builtin "reversed.__new__" ⟨[.type "reversed", .ref r], []⟩)) _ _ s
  refine wpAny_bind (wpAny_of_eq (F.newCall_reversed_1 _) (wpAny_pure ⟨plainId_quiet F.plain_reversed_new _, codeAny_builtin F.entry_reversed_new ?_⟩))
  rw [Around.under_plainId F.plain_reversed_new _]
  unfold Builtin.«reversed.__new__»
  refine wpAny_bind (wpAny_of_eq (newClass_reversed _) ?_)
  try dsimp only
  refine wpAny_bind (wpAny_of_eq (a := ()) (by first | rfl | kernel_rfl) ?_)
  refine wpAny_bind (wpAny_of_eq (a := ()) (by first | rfl | kernel_rfl) ?_)
  try dsimp only
  refine wpAny_bind (wpAny_specialOf hT F.slot_range_reversed.lookup ?_)
  try dsimp only
  refine wpAny_bind (wpAny_of_eq (F.slot_range_reversed.bind _) ?_)
  try dsimp only
  first
  | rw [if_neg (show ¬ ((Value.builtin "range.__reversed__" == Value.none) = true) from Bool.false_ne_true)]
  | (show wpAny _ _ (if (Value.builtin "range.__reversed__" == Value.none) = true then _ else _) _ _ _; rw [if_neg (show ¬ ((Value.builtin "range.__reversed__" == Value.none) = true) from Bool.false_ne_true)])
  refine wpAny_bind (wpAny_rule ?_)
  refine wpAny_bind (m := runValue (.call (.builtin "range.__reversed__") ⟨[.ref r], []⟩)) (show wpAny _ _ (call (.builtin "range.__reversed__") [.ref r]) _ _ _ from call_range_reversed hr hn ?_)
  first
  | exact wpAny_pure h
  | exact wpAny_bind (wpAny_pure (wpAny_pure h))

theorem call_reversed_range {r : Addr} {n : Nat} {t u v : Tok} {Q : Value → Shared → Prop} (hr : IsRange s.heap r 0 n 1 t u v) (hn : n < 2 ^ 31)
    (h : Q (.ref s.heap.objs.size) { s with heap := s.heap.push { cls := .type "range_iterator", data := .fields #[rawInt ((n : Int) - 1), rawInt n, rawInt (-1)] } }) :
    wpAny (model prog w) A (call (.type "reversed") [.ref r]) Q E s := by
  refine callType_other (U := "range_iterator") (Q₁ := fun obj s₁ => obj = .ref s.heap.objs.size ∧ s₁ = { s with heap := s.heap.push { cls := .type "range_iterator", data := .fields #[rawInt ((n : Int) - 1), rawInt n, rawInt (-1)] } }) (by decide +kernel) F.create_reversed ⟨_, _, F.mro_reversed⟩ F.made_reversed sub_ri_reversed (F.typeCall_reversed_1 _) (code_reversed_range hr hn ⟨rfl, rfl⟩) ?_
  rintro obj s₁ ⟨rfl, rfl⟩
  exact ⟨⟨_, Heap.get?_push_size _ rfl, rfl⟩, h⟩

theorem boot_reversed : bootBuiltins "reversed" = some (.type "reversed") := by decide +kernel
end
end Mine
end

section
open PySem PySem.W PyProof.Rows PySem.Calls
set_option maxRecDepth 100000
set_option linter.unusedVariables false
namespace Mine

/-- a text by its signs -/
noncomputable abbrev T (x : List Nat) (t : Tok) : Value := .str ⟨x.toArray⟩ t

/-- a bound as a slice reads it -/
noncomputable def cl (n : Nat) (i : Int) : Nat := (max 0 (min (if i < 0 then i + n else i) n)).toNat
noncomputable def clO (n : Nat) (d : Nat) : Option Int → Nat
  | none => d
  | some i => cl n i
/-- a slice by ones -/
noncomputable def sl {α : Type} (xs : List α) (lo hi : Option Int) : List α := (xs.drop (clO xs.length 0 lo)).take (clO xs.length xs.length hi - clO xs.length 0 lo)

theorem cl_nat {n i : Nat} : cl n (i : Int) = min i n := by unfold cl; rw [if_neg (by omega)]; omega

theorem indices_cl (l u : Option Int) (n : Nat) : Builtin.Str.strSliceIndices l u 1 n = (List.range (clO n n u - clO n 0 l)).map (clO n 0 l + ·) := by
  have key : ∀ i : Int, max (0 : Int) (min (if i < 0 then i + n else i) n) = (cl n i : Nat) := fun i => by unfold cl; omega
  rw [← sliceRange_one]
  unfold Builtin.Str.strSliceIndices
  simp only [show ((1 : Int) > 0) = True by simp, if_true, key]
  cases l <;> cases u <;> rfl

theorem slice_sl (xs : List Nat) (l u : Option Int) : Txt.slice ⟨xs.toArray⟩ l u = ⟨(sl xs l u).toArray⟩ := by
  unfold Txt.slice
  have hlen : (⟨xs.toArray⟩ : Str).length = xs.length := by simp [Str.length]
  rw [hlen, indices_cl]
  have e : (((List.range (clO xs.length xs.length u - clO xs.length 0 l)).map (clO xs.length 0 l + ·)).filterMap ((⟨xs.toArray⟩ : Str).cps[·]?)) = sl xs l u := by
    rw [pick_run]; rfl
  rw [e]
  split
  · rename_i h
    simp only [beq_self_eq_true, Bool.true_and, List.length_map, List.length_range, beq_iff_eq] at h
    have hu : clO xs.length xs.length u ≤ xs.length := by
      cases u with
      | none => exact Nat.le_refl _
      | some i => show cl _ _ ≤ _; unfold cl; omega
    have h0 : clO xs.length 0 l = 0 ∨ xs.length = 0 := by omega
    rcases h0 with h0 | h0
    · unfold sl; rw [h, h0]; simp
    · have : xs = [] := List.eq_nil_of_length_eq_zero h0
      subst this; simp [sl]
  · rfl

section
variable {prog : Program} {w : World} {A : Around} {E : Value → Shared → Prop} {s : Shared} {env : Env} {Q : Value → Shared → Prop}

theorem const_T {x : Str} {k : Nat} {pos : Pos} (l : List Nat) (h : Q (T l s.toks) { s with toks := s.toks + 1 }) (he : x = ⟨l.toArray⟩ := by decide +kernel) :
    wpAny (model prog w) A (eval (.Constant (.str x) k pos) env) Q E s := wpAny_Constant_str (by rw [he]; exact h)

theorem add_T {x y : List Nat} {t u : Tok} (hsz : x.length + y.length ≤ 1000000) (h : ∀ t' k, Q (T (x ++ y) t') { s with toks := k }) :
    wpAny (model prog w) A (binaryOp .Add (T x t) (T y u)) Q E s := by
  refine SB.add (fun t' k => ?_) (by simp only [Str.length, List.size_toArray]; rw [sizeLine_eq]; omega)
  have e : (⟨x.toArray⟩ ++ ⟨y.toArray⟩ : Str) = ⟨(x ++ y).toArray⟩ := by show Str.mk (_ ++ _) = _; simp
  rw [e]; exact h t' k

theorem len_T {x : List Nat} {t : Tok} (hsz : x.length ≤ 1000000) (h : Q (.int x.length (s.toks + 1)) { s with toks := s.toks + 1 + 1 }) : wpAny (model prog w) A (call (.builtin "len") [T x t]) Q E s :=
  P.len_str (by simp only [Str.length, List.size_toArray]; omega) (by simpa only [Str.length, List.size_toArray] using h)

theorem eq_T {x y : List Nat} {t u : Tok} (h : Q (.bool (x == y)) s) : wpAny (model prog w) A (compareOp .Eq (T x t) (T y u)) Q E s := P.eq_str h
theorem ne_T {x y : List Nat} {t u : Tok} (h : Q (.bool (x != y)) s) : wpAny (model prog w) A (compareOp .NotEq (T x t) (T y u)) Q E s := P.ne_str h
theorem in_T {x : List Nat} {c : Nat} {t u : Tok} (h : Q (.bool (decide (c ∈ x))) s) : wpAny (model prog w) A (compareOp .In (T [c] u) (T x t)) Q E s :=
  P.in_str (by have := StrLaws.found_one ⟨x.toArray⟩ c; rw [this]; exact h)

/-- one sign of a text -/
theorem item_T {value slice : Expr} {x : List Nat} {t u : Tok} {i : Int} {c : Nat} (k : Nat) (hk : k < x.length) (hi : i = k ∨ i = (k : Int) - x.length) (hc : x[k]? = some c) (hsz : x.length ≤ 1000000)
    (h : Q (T [c] s.toks) { s with toks := s.toks + 1 }) (hs : subscripted slice false (T x t) (.int i u) = operate [T x t, .int i u] (getItem (T x t) (.int i u)) := by with_unfolding_all rfl) :
    wpAny (model prog w) A (subscriptTail value slice (T x t) (.int i u)) Q E s := by
  refine tail_any (typeIs_str _ _ _) F.slot_str_getitem.lookup (P.getItem_str ?_ (c := c) ?_ h) hs
  · have : ¬ (i < -(2 ^ 63)) ∧ ¬ (i ≥ 2 ^ 63) := by omega
    simp only [decide_eq_false this.1, decide_eq_false this.2, Bool.or_false]
  · have e : seqIndex? i (⟨x.toArray⟩ : Str).length = some k := by
      unfold seqIndex?
      simp only [Str.length, List.size_toArray]
      rcases hi with rfl | rfl
      · have h1 : ¬ ((k : Int) < 0) := by omega
        simp [h1]; omega
      · have h1 : (k : Int) - x.length < 0 := by omega
        simp [h1]; omega
    rw [e]; simpa using hc

/-- a slice of a text -/
theorem slice_T {value : Expr} {lower upper : Option Expr} {p pos : Pos}
    (h : wpAny (model prog w) A (eval value env) (fun o s₁ => wpAny (model prog w) A (evalPart lower env) (fun vl s₂ => wpAny (model prog w) A (evalPart upper env) (fun vu s₃ =>
      ∃ x t l u, o = T x t ∧ vl = partValue l ∧ vu = partValue u ∧ x.length ≤ 1000000 ∧ ∀ t' h' tk, Sub s₃.heap h' → Q (T (sl x (l.map (·.1)) (u.map (·.1))) t') { s₃ with heap := h', toks := tk }) E s₂) E s₁) E s)
    (hs : ∀ x t a, subscripted (.Slice lower upper none p) false (.str x t) (.ref a) = operate [.ref a, .str x t] (getItem (.str x t) (.ref a)) := by intro _ _ _; with_unfolding_all rfl) :
    wpAny (model prog w) A (eval (.Subscript value (.Slice lower upper none p) pos) env) Q E s := by
  refine Subscript_ (wpAny_mono h (fun o s₁ h₁ => wpAny_Slice (wpAny_mono h₁ (fun vl s₂ h₂ => wpAny_mono h₂ (fun vu s₃ h₃ => ?_) fun _ _ e => e) fun _ _ e => e)) fun _ _ e => e)
  obtain ⟨x, t, l, u, rfl, rfl, rfl, hsz, hQ⟩ := h₃
  rw [evalPart_none]
  refine wpAny_pure (tail_any (typeIs_str _ _ t) F.slot_str_getitem.lookup (wpAny_getItem_str_slice (l := l) (u := u) (st := none) ⟨_, Heap.get?_push_size _ rfl, rfl, rfl⟩ rfl ?_) (hs _ _ _))
  refine post_val_or_str (s := { s₃ with heap := s₃.heap.push { cls := .type "slice", data := .fields #[partValue l, partValue u, .none] } }) ?_
  have e : (if ((1 : Int) == 1 && (Builtin.Str.strSliceIndices (l.map (·.1)) (u.map (·.1)) 1 (⟨x.toArray⟩ : Str).length).length == (⟨x.toArray⟩ : Str).length) = true then (⟨x.toArray⟩ : Str) else ⟨((Builtin.Str.strSliceIndices (l.map (·.1)) (u.map (·.1)) 1 (⟨x.toArray⟩ : Str).length).filterMap ((⟨x.toArray⟩ : Str).cps[·]?)).toArray⟩) =
      ⟨(sl x (l.map (·.1)) (u.map (·.1))).toArray⟩ := slice_sl x _ _
  have hl : (sl x (l.map (·.1)) (u.map (·.1))).length ≤ x.length := by simp only [sl, List.length_take, List.length_drop]; omega
  constructor
  · refine Nat.le_trans (Nat.le_of_eq (congrArg Str.length e)) ?_
    simp only [Str.length, List.size_toArray]; rw [sizeLine_eq]; omega
  · intro t' k
    have := hQ t' _ k (fun b o e => Heap.get?_push_of_some { cls := .type "slice", data := .fields #[partValue l, partValue u, .none] } e)
    unfold T at this
    rw [← e] at this
    exact this
end
end Mine
end

section
open PySem PySem.W PyProof.Rows PySem.Calls
set_option maxRecDepth 100000
set_option linter.unusedVariables false
namespace Mine

noncomputable def tx : Value → Option (List Nat) | .str s _ => some s.cps.toList | _ => none
noncomputable def Txs (vs : Array Value) (xs : List (List Nat)) : Prop := vs.toList.map tx = xs.map some

theorem tx_some {v : Value} {x : List Nat} (h : tx v = some x) : ∃ t, v = .str ⟨x.toArray⟩ t := by
  cases v <;> simp [tx] at h
  subst h; exact ⟨_, rfl⟩
theorem Txs.size {vs : Array Value} {xs : List (List Nat)} (h : Txs vs xs) : vs.size = xs.length := by
  have := congrArg List.length h; simpa using this
theorem Txs.get {vs : Array Value} {xs : List (List Nat)} (h : Txs vs xs) {i : Nat} (hi : i < xs.length) : ∃ t, vs[i]? = some (.str ⟨(xs.getD i []).toArray⟩ t) := by
  have h1 : (vs.toList.map tx)[i]? = (xs.map some)[i]? := by rw [h]
  have hs := h.size
  simp only [List.getElem?_map, Array.getElem?_toList] at h1
  rw [List.getElem?_eq_getElem hi] at h1
  have hv : i < vs.size := by omega
  rw [Array.getElem?_eq_getElem hv] at h1 ⊢
  simp only [Option.map_some, Option.some.injEq] at h1
  obtain ⟨t, e⟩ := tx_some h1
  refine ⟨t, ?_⟩
  rw [e, List.getD_eq_getElem?_getD, List.getElem?_eq_getElem hi]; rfl
theorem Txs.set {vs : Array Value} {xs : List (List Nat)} (h : Txs vs xs) (i : Nat) (x : List Nat) (t : Tok) : Txs (vs.setIfInBounds i (.str ⟨x.toArray⟩ t)) (xs.set i x) := by
  unfold Txs at h ⊢
  rw [Array.toList_setIfInBounds, List.map_set, h, List.map_set]; rfl

noncomputable def sd (start : Nat) (new : List Nat) (xs : List (List Nat)) (pos : Nat) : List (List Nat) :=
  if start < pos then
    if new < xs.getD ((pos - 1) / 2) [] then sd start new (xs.set pos (xs.getD ((pos - 1) / 2) [])) ((pos - 1) / 2)
    else xs.set pos new
  else xs.set pos new
termination_by pos
decreasing_by omega

theorem sd_length (start : Nat) (new : List Nat) (xs : List (List Nat)) (pos : Nat) : (sd start new xs pos).length = xs.length := by
  fun_induction sd start new xs pos with
  | case1 xs pos h1 h2 ih => rw [ih]; simp
  | case2 => simp
  | case3 => simp

section
variable {prog : Program} {w : World} {A : Around} {E : Value → Shared → Prop} {s : Shared}

theorem siftdown_ok {f l : Addr} {st pos k : Nat} {t1 t2 : Tok} {vs : Array Value} {xs : List (List Nat)} {Q : Value → Shared → Prop}
    (R : Rm A (k + 1)) (hfn : FnAt s.heap f (defAt 13)) (hlim : s.heap.NoLimit) (hl : s.heap.PlainList l vs) (hx : Txs vs xs) (hp : pos < xs.length) (hsz : xs.length < 2 ^ 31)
    (hQ : ∀ h' tk vs', h'.PlainList l vs' → Txs vs' (sd st (xs.getD pos []) xs pos) → SubBut l s.heap h' → Q .none { s with heap := h', toks := tk }) :
    wpAny (model prog w) A (call (.ref f) [.ref l, .int st t1, .int pos t2]) Q E s := by
  refine enter [("heap", .ref l), ("startpos", .int st t1), ("pos", .int pos t2)] [(l, vs)] R hfn hlim (fun p hp => by rcases List.mem_singleton.mp hp with rfl; exact hl) ?_
  intro g h₁ cd tk A' R' F hgk _
  have hb : bodyOf (defAt 13) = bodyOf (defAt 13) := rfl
  conv at hb => rhs; whnf
  rw [hb]; clear hb
  obtain ⟨t3, ht3⟩ := hx.get hp
  have hsz' := hx.size
  refine wpAny_execs_cons (wpAny_Assign_Name (Subscript_ (ldF F (by rfl) (ldF F (by rfl) (sub_listN (F.lst 1 rfl) (by omega) ht3 (stF F fun h₂ F₂ => ?_))))))
  clear F ht3
  refine seq_mid (fun s' => ∃ h tk m p vs' xs' t2 t3, s' = { s with heap := h, toks := tk } ∧ Fm g [(s.heap.objs.size, .ns m), (l, .list vs')] h ∧ m "heap" = some (.ref l) ∧ m "pos" = some (.int (p : Nat) t2) ∧ m "newitem" = some (.str ⟨(xs.getD pos []).toArray⟩ t3) ∧
    Txs vs' xs' ∧ p < xs'.length ∧ xs'.length = xs.length ∧ xs'.set p (xs.getD pos []) = sd st (xs.getD pos []) xs pos) ?_ ?_
  · refine wpAny_While (codeAny_whileLoop (fun n s' => ∃ h tk m vs' xs' t1 t2 t3, s' = { s with heap := h, toks := tk } ∧ Fm g [(s.heap.objs.size, .ns m), (l, .list vs')] h ∧ m "heap" = some (.ref l) ∧ m "startpos" = some (.int (st : Nat) t1) ∧ m "pos" = some (.int (n : Nat) t2) ∧ m "newitem" = some (.str ⟨(xs.getD pos []).toArray⟩ t3) ∧
      Txs vs' xs' ∧ n < xs'.length ∧ xs'.length = xs.length ∧ sd st (xs.getD pos []) xs' n = sd st (xs.getD pos []) xs pos) ?_ pos ⟨h₂, _, _, vs, xs, t1, t2, t3, rfl, F₂, rfl, rfl, rfl, rfl, hx, hp, rfl, rfl⟩)
    clear F₂
    rintro n s' ⟨h, tk, m, vs', xs', t1, t2, t3, rfl, F, m1, m2, m3, m4, hx', hn, hlen, hsd⟩
    refine wpAny_isTrue_Compare1 (ldF F m3 (ldF F m2 (gt_int (wpAny_truthy_bool ?_))))
    by_cases hlt : st < n
    · rw [if_pos (by simpa using hlt)]
      refine wpAny_execs_cons (wpAny_Assign_Name (wpAny_BinOp (wpAny_BinOp (ldF F m3 (wpAny_Constant_int (sub_int (wpAny_Constant_int (wpAny_rshift1_int (by omega) (stF F fun h₂ F₂ => ?_)))))))))
      have hpp : ((n : Int) - 1) / 2 = (((n - 1) / 2 : Nat) : Int) := by omega
      rw [hpp] at F₂
      have hn2 : (n - 1) / 2 < xs'.length := by omega
      obtain ⟨t4, ht4⟩ := hx'.get hn2
      refine wpAny_execs_cons (wpAny_Assign_Name (Subscript_ (ldF F₂ m1 (ldF F₂ (by rfl) (sub_listN (F₂.lst 1 rfl) (by omega) ht4 (stF F₂ fun h₃ F₃ => ?_))))))
      refine wpAny_execs_cons (wpAny_If (wpAny_isTrue_Compare1 (ldF F₃ m4 (ldF F₃ (by rfl) (PyProof.Rows.lt_str (wpAny_truthy_bool ?_))))))
      by_cases hc : xs.getD pos [] < xs'.getD ((n - 1) / 2) []
      · rw [if_pos (by simpa using hc)]
        have hsz'' := hx'.size
        refine wpAny_execs_cons (wpAny_Assign_Subscript (ldF F₃ (by rfl) (ldF F₃ m1 (ldF F₃ m3 (setItem_plain (F₃.get 1 rfl) (by omega) (by omega) (by omega) fun h₄ hl₄ hs₄ => ?_)))))
        have F₄ := F₃.upd1 (o' := .list _) hs₄ hl₄
        refine wpAny_execs_cons (wpAny_Assign_Name (ldF F₄ (by rfl) (stF F₄ fun h₅ F₅ => ?_)))
        refine wpAny_execs_cons (wpAny_Continue ?_)
        refine ⟨(n - 1) / 2, by omega, h₅, _, _, _, _, t1, _, t3, rfl, F₅, m1, m2, rfl, m4, hx'.set n (xs'.getD ((n - 1) / 2) []) t4, by simpa using hn2, by simpa using hlen, ?_⟩
        rw [← hsd]; conv => rhs; unfold sd
        rw [if_pos hlt, if_pos hc]
      · rw [if_neg (by simpa using hc)]
        refine wpAny_execs_nil (wpAny_execs_cons (wpAny_Break ?_))
        refine ⟨rfl, h₃, _, _, n, vs', xs', t2, t3, rfl, F₃, m1, m3, m4, hx', hn, hlen, ?_⟩
        rw [← hsd]; conv => rhs; unfold sd
        rw [if_pos hlt, if_neg hc]
    · rw [if_neg (by simpa using hlt)]
      refine wpAny_execs_nil ⟨rfl, h, tk, m, n, vs', xs', t2, t3, rfl, F, m1, m3, m4, hx', hn, hlen, ?_⟩
      rw [← hsd]; unfold sd; rw [if_neg hlt]
  · rintro s' ⟨h, tk, m, p, vs', xs', t2, t3, rfl, F, m1, m2, m3, hx', hp', hlen, hsd⟩
    have hsz'' := hx'.size
    refine wpAny_execs_cons (wpAny_Assign_Subscript (ldF F m3 (ldF F m1 (ldF F m2 (setItem_plain (F.get 1 rfl) (by omega) (by omega) (by omega) fun h' hl' hs' => ?_)))))
    refine wpAny_execs_nil ?_
    have F' := F.upd1 (o' := .list _) hs' hl'
    refine hQ h' _ _ hl' ?_ fun b o hb e => F'.keep b o (hgk b o (by simpa using hb) e)
    rw [← hsd]; exact hx'.set _ _ _
end
end Mine
end

section
open PySem PySem.W PyProof.Rows PySem.Calls
set_option maxRecDepth 100000
set_option linter.unusedVariables false
namespace Mine

noncomputable def ch (xs : List (List Nat)) (pos : Nat) : Nat := if 2 * pos + 2 < xs.length ∧ ¬ xs.getD (2 * pos + 1) [] < xs.getD (2 * pos + 2) [] then 2 * pos + 2 else 2 * pos + 1
theorem ch_cases (xs : List (List Nat)) (pos : Nat) : ch xs pos = 2 * pos + 1 ∨ (ch xs pos = 2 * pos + 2 ∧ 2 * pos + 2 < xs.length) := by
  unfold ch; split <;> simp_all
theorem ch_lt {xs : List (List Nat)} {pos : Nat} (h : 2 * pos + 1 < xs.length) : ch xs pos < xs.length := by
  rcases ch_cases xs pos with e | ⟨e, h'⟩ <;> omega
theorem ch_gt (xs : List (List Nat)) (pos : Nat) : pos < ch xs pos := by
  rcases ch_cases xs pos with e | ⟨e, h'⟩ <;> omega
noncomputable def su (xs : List (List Nat)) (pos : Nat) : List (List Nat) × Nat :=
  if h : 2 * pos + 1 < xs.length then su (xs.set pos (xs.getD (ch xs pos) [])) (ch xs pos) else (xs, pos)
termination_by xs.length - pos
decreasing_by have := ch_gt xs pos; have := ch_lt h; simp only [List.length_set]; omega
theorem su_length (xs : List (List Nat)) (pos : Nat) : (su xs pos).1.length = xs.length := by
  fun_induction su xs pos with
  | case1 xs pos h ih => rw [ih]; simp
  | case2 => simp
theorem su_lt (xs : List (List Nat)) (pos : Nat) (hp : pos < xs.length) : (su xs pos).2 < xs.length := by
  fun_induction su xs pos with
  | case1 xs pos h ih => have := ih (by simp only [List.length_set]; exact ch_lt h); simpa using this
  | case2 => exact hp
noncomputable def siftup (xs : List (List Nat)) (pos : Nat) : List (List Nat) :=
  sd pos (xs.getD pos []) ((su xs pos).1.set (su xs pos).2 (xs.getD pos [])) (su xs pos).2
theorem siftup_length (xs : List (List Nat)) (pos : Nat) : (siftup xs pos).length = xs.length := by
  rw [siftup, sd_length, List.length_set, su_length]

section
variable {prog : Program} {w : World} {A : Around} {E : Value → Shared → Prop} {s : Shared} {mg mb : Str → Option Value}

/-- the globals in the ground of a call whose lists are hidden -/
theorem Gl.under {g : Heap} {ls : List Addr} (G : Gl mg mb s.heap) (hl : ∀ b ∈ ls, ∃ vs, s.heap.PlainList b vs) (hk : ∀ b o, b ∉ ls → s.heap.get? b = some o → g.get? b = some o) : Gl mg mb g := by
  have ne : ∀ b o, s.heap.get? b = some o → (∀ x n, o.data ≠ .seq x n) → g.get? b = some o := fun b o e hd => hk b o (fun hm => by
    obtain ⟨vs, n, e'⟩ := hl b hm
    rw [e'] at e; cases e
    exact hd _ _ rfl) e
  have ns : ∀ {a m}, s.heap.Ns a m → g.Ns a m := fun hn => by
    obtain ⟨o, es, ep, ho, hd, r⟩ := hn
    exact ⟨o, es, ep, ne _ _ ho (fun x n h => by rw [hd] at h; cases h), hd, r⟩
  refine ⟨ns G.g, ns G.b, ?_, G.blt, fun i hi => ?_, G.free, ?_⟩
  · obtain ⟨mc, a, b⟩ := G.nolimit
    exact ⟨mc, ns a, b⟩
  · obtain ⟨f, a, o, pm, cd, doc, ho, hd, c, oc, vs, t, rfl, hc, hdc, r⟩ := G.fn i hi
    exact ⟨f, a, o, pm, .ref c, doc, ne _ _ ho (fun x n h => by rw [hd] at h; cases h), hd, c, oc, vs, t, rfl, ne _ _ hc (fun x n h => by rw [hdc] at h; cases h), hdc, r⟩
  · obtain ⟨a, e, hne, es, ep, he, r⟩ := G.spec
    exact ⟨a, e, hne, es, ep, ne _ _ he (fun x n h => nomatch h), r⟩

set_option maxHeartbeats 4000000 in
theorem siftup_ok {f l : Addr} {pos k : Nat} {t1 : Tok} {vs : Array Value} {xs : List (List Nat)} {Q : Value → Shared → Prop}
    (R : Rm A (k + 2)) (hfn : FnAt s.heap f (defAt 14)) (G : Gl mg mb s.heap) (hl : s.heap.PlainList l vs) (hx : Txs vs xs) (hp : pos < xs.length) (hsz : xs.length < 2 ^ 31)
    (hQ : ∀ h' tk vs', h'.PlainList l vs' → Txs vs' (siftup xs pos) → SubBut l s.heap h' → Q .none { s with heap := h', toks := tk }) :
    wpAny (model prog w) A (call (.ref f) [.ref l, .int pos t1]) Q E s := by
  refine enter [("heap", .ref l), ("pos", .int pos t1)] [(l, vs)] R hfn G.nolimit (fun p hp => by rcases List.mem_singleton.mp hp with rfl; exact hl) ?_
  intro g h₁ cd tk A' R' F hgk _
  replace F : Fm g [(s.heap.objs.size, .ns _), (l, .list vs)] h₁ := F
  have Gg : Gl mg mb g := G.under (ls := [l]) (fun b hb => by rcases List.mem_singleton.mp hb with rfl; exact ⟨_, hl⟩) hgk
  have hb : bodyOf (defAt 14) = bodyOf (defAt 14) := rfl
  conv at hb => rhs; whnf
  rw [hb]; clear hb
  obtain ⟨t3, ht3⟩ := hx.get hp
  have hsz' := hx.size
  refine wpAny_execs_cons (wpAny_Assign_Name (callB1 (Gg.keeps F.keep) boot_len (ldF F (by rfl) (len_list (F.lst 1 rfl) (by omega) (stF F fun h₂ F₂ => ?_)))))
  refine wpAny_execs_cons (wpAny_Assign_Name (ldF F₂ (by rfl) (stF F₂ fun h₃ F₃ => ?_)))
  refine wpAny_execs_cons (wpAny_Assign_Name (Subscript_ (ldF F₃ (by rfl) (ldF F₃ (by rfl) (sub_listN (F₃.lst 1 rfl) (by omega) ht3 (stF F₃ fun h₄ F₄ => ?_))))))
  refine wpAny_execs_cons (wpAny_Assign_Name (wpAny_BinOp (wpAny_BinOp (wpAny_Constant_int (ldF F₄ (by rfl) (mul_int (hm := IntMulOk.of_left (by decide)) (wpAny_Constant_int (add_int (stF F₄ fun h₅ F₅ => ?_)))))))))
  clear F F₂ F₃ F₄ ht3
  generalize hnew : xs.getD pos [] = new at *
  refine seq_mid (fun s' => ∃ h tk m p vs' xs' t1 t2 t3, s' = { s with heap := h, toks := tk } ∧ Fm g [(s.heap.objs.size, .ns m), (l, .list vs')] h ∧ m "heap" = some (.ref l) ∧ m "startpos" = some (.int (pos : Nat) t1) ∧ m "pos" = some (.int (p : Nat) t2) ∧ m "newitem" = some (.str ⟨new.toArray⟩ t3) ∧
    Txs vs' xs' ∧ xs'.length = xs.length ∧ p < xs.length ∧ su xs pos = (xs', p)) ?_ ?_
  · refine wpAny_While (codeAny_whileLoop (fun n s' => ∃ h tk m p vs' xs' t1 t2 t3 t4 t5, s' = { s with heap := h, toks := tk } ∧ Fm g [(s.heap.objs.size, .ns m), (l, .list vs')] h ∧ m "heap" = some (.ref l) ∧ m "startpos" = some (.int (pos : Nat) t1) ∧ m "pos" = some (.int (p : Nat) t2) ∧
      m "newitem" = some (.str ⟨new.toArray⟩ t3) ∧ m "childpos" = some (.int (2 * (p : Nat) + 1) t4) ∧ m "endpos" = some (.int xs.length t5) ∧
      Txs vs' xs' ∧ p < xs.length ∧ xs'.length = xs.length ∧ su xs pos = su xs' p ∧ n = xs.length - p) ?_ (xs.length - pos) ⟨h₅, _, _, pos, vs, xs, _, _, t3, _, _, rfl, F₅, rfl, rfl, rfl, rfl, rfl, by rw [← hsz']; rfl, hx, hp, rfl, rfl, rfl⟩)
    clear F₅
    rintro n s' ⟨h, tk, m, p, vs', xs', t1, t2, t3, t4, t5, rfl, F, m1, m2, m3, m4, m5, m6, hx', hpl, hlen, hsu, rfl⟩
    have hsz'' := hx'.size
    refine wpAny_isTrue_Compare1 (ldF F m5 (ldF F m6 (PyProof.Rows.lt_int (wpAny_truthy_bool ?_))))
    by_cases hlt : 2 * p + 1 < xs.length
    · rw [if_pos (by simp; omega)]
      have hlt' : 2 * p + 1 < xs'.length := by omega
      refine wpAny_execs_cons (wpAny_Assign_Name (wpAny_BinOp (ldF F m5 (wpAny_Constant_int (add_int (stF F fun h₂ F₂ => ?_))))))
      obtain ⟨u1, hu1⟩ := hx'.get hlt'
      refine seq_mid (fun s' => ∃ h tk m t2 t4, s' = { s with heap := h, toks := tk } ∧ Fm g [(s.heap.objs.size, .ns m), (l, .list vs')] h ∧ m "heap" = some (.ref l) ∧ m "startpos" = some (.int (pos : Nat) t1) ∧ m "pos" = some (.int (p : Nat) t2) ∧
        m "newitem" = some (.str ⟨new.toArray⟩ t3) ∧ m "childpos" = some (.int (ch xs' p : Nat) t4) ∧ m "endpos" = some (.int xs.length t5)) ?_ ?_
      · refine wpAny_If (wpAny_isTrue_BoolOp (wpAny_allTrue_And_cons (wpAny_isTrue_Compare1 (ldF F₂ (by rfl) (ldF F₂ m6 (PyProof.Rows.lt_int (wpAny_truthy_bool ?_)))))))
        by_cases h2 : 2 * p + 2 < xs.length
        · rw [if_pos (by simp; omega)]
          obtain ⟨u2, hu2⟩ := hx'.get (i := 2 * p + 2) (by omega)
          refine wpAny_allTrue_And_cons <| wpAny_isTrue_Not <| wpAny_isTrue_Compare1 <| Subscript_ <| ldF F₂ m1 <| ldF F₂ m5 <| sub_list (F₂.lst 1 rfl) (by omega) (by omega) (by rw [show ((2 * (p : Int) + 1).toNat) = 2 * p + 1 by omega]; exact hu1) <|
            Subscript_ <| ldF F₂ m1 <| ldF F₂ (by rfl) <| sub_list (F₂.lst 1 rfl) (by omega) (by omega) (by rw [show ((2 * (p : Int) + 1 + 1).toNat) = 2 * p + 2 by omega]; exact hu2) <| PyProof.Rows.lt_str <| wpAny_truthy_bool ?_
          by_cases hc : xs'.getD (2 * p + 1) [] < xs'.getD (2 * p + 2) []
          · rw [if_neg (by simpa using hc)]
            rw [if_neg (by simp)]
            exact wpAny_execs_nil ⟨rfl, h₂, _, _, t2, t4, rfl, F₂, m1, m2, m3, m4, by
              rw [show ch xs' p = 2 * p + 1 by unfold ch; rw [if_neg (fun h => h.2 hc)], show ((2 * p + 1 : Nat) : Int) = 2 * (p : Int) + 1 by omega]; exact m5, m6⟩
          · rw [if_pos (by simpa using hc)]
            refine wpAny_allTrue_And_nil ?_
            rw [if_pos rfl]
            refine wpAny_execs_cons (wpAny_Assign_Name (ldF F₂ (by rfl) (stF F₂ fun h₃ F₃ => ?_)))
            exact wpAny_execs_nil ⟨rfl, h₃, _, _, t2, _, rfl, F₃, m1, m2, m3, m4, by
              rw [show ch xs' p = 2 * p + 2 by unfold ch; rw [if_pos ⟨by omega, hc⟩], show ((2 * p + 2 : Nat) : Int) = 2 * (p : Int) + 1 + 1 by omega]; rfl, m6⟩
        · rw [if_neg (by simp; omega), if_neg (by simp)]
          exact wpAny_execs_nil ⟨rfl, h₂, _, _, t2, t4, rfl, F₂, m1, m2, m3, m4, by
              rw [show ch xs' p = 2 * p + 1 by unfold ch; rw [if_neg (by omega)], show ((2 * p + 1 : Nat) : Int) = 2 * (p : Int) + 1 by omega]; exact m5, m6⟩
      · rintro s' ⟨h, tk, m, t2, t4, rfl, F, m1, m2, m3, m4, m5, m6⟩
        have hcl := ch_lt hlt'
        obtain ⟨u3, hu3⟩ := hx'.get hcl
        refine wpAny_execs_cons <| wpAny_Assign_Subscript <| Subscript_ <| ldF F m1 <| ldF F m5 <| sub_listN (F.lst 1 rfl) (by omega) hu3 <| ldF F m1 <| ldF F m3 <| setItem_plain (F.get 1 rfl) (by omega) (by omega) (by omega) fun h₂ hl₂ hs₂ => ?_
        have F₂ := F.upd1 (o' := .list _) hs₂ hl₂
        refine wpAny_execs_cons (wpAny_Assign_Name (ldF F₂ m5 (stF F₂ fun h₃ F₃ => ?_)))
        refine wpAny_execs_cons (wpAny_Assign_Name (wpAny_BinOp (wpAny_BinOp (wpAny_Constant_int (ldF F₃ (by rfl) (mul_int (hm := IntMulOk.of_left (by decide)) (wpAny_Constant_int (add_int (stF F₃ fun h₄ F₄ => ?_)))))))))
        refine wpAny_execs_nil ?_
        have hgt := ch_gt xs' p
        refine ⟨xs.length - ch xs' p, by omega, h₄, _, _, ch xs' p, _, _, t1, _, t3, _, _, rfl, F₄, m1, m2, rfl, m4, rfl, m6, hx'.set p _ u3, by omega, by simpa using hlen, ?_, rfl⟩
        rw [hsu, su, dif_pos hlt']
    · rw [if_neg (by simp; omega)]
      refine wpAny_execs_nil ⟨rfl, h, tk, m, p, vs', xs', t1, t2, t3, rfl, F, m1, m2, m3, m4, hx', hlen, hpl, ?_⟩
      rw [hsu, su, dif_neg (by omega)]
  · rintro s' ⟨h, tk, m, p, vs', xs', t1, t2, t3, rfl, F, m1, m2, m3, m4, hx', hlen, hpl, hsu⟩
    have hsz'' := hx'.size
    refine wpAny_execs_cons (wpAny_Assign_Subscript (ldF F m4 (ldF F m1 (ldF F m3 (setItem_plain (F.get 1 rfl) (by omega) (by omega) (by omega) fun h' hl' hs' => ?_)))))
    have F' := F.upd1 (o' := .list _) hs' hl'
    refine wpAny_execs_cons (wpAny_Expr (callF 13 (Gg.keeps F'.keep) fun f hf => args_cons (ldF F' m1 (args_cons (ldF F' m2 (args_cons (ldF F' m3 (args_nil ⟨Sub.refl _, fun hf => ?_⟩)))))) ))
    refine siftdown_ok R' hf (Gg.keeps F'.keep).nolimit (F'.get 1 rfl) (hx'.set p new t3) (by rw [List.length_set]; omega) (by rw [List.length_set]; omega) fun h₂ tk₂ vs₂ hl₂ hx₂ k₂ => ?_
    have F₂ := F'.upd1 (o' := .list _) k₂ hl₂
    refine wpAny_execs_nil (hQ h₂ _ vs₂ hl₂ ?_ fun b o hb e => F₂.keep b o (hgk b o (by simpa using hb) e))
    rw [siftup, hnew, hsu]
    simpa [List.getD_eq_getElem?_getD, hlen, hpl] using hx₂
end
end Mine
end

section
open PySem PySem.W PyProof.Rows PySem.Calls
set_option maxRecDepth 100000
set_option linter.unusedVariables false
namespace Mine

noncomputable def heapifyL (xs : List (List Nat)) : List (List Nat) := (List.range (xs.length / 2)).foldl (fun ys i => siftup ys (xs.length / 2 - 1 - i)) xs

section
variable {prog : Program} {w : World} {A : Around} {E : Value → Shared → Prop} {s : Shared} {mg mb : Str → Option Value}

theorem It.revRange {g h : Heap} {I : Addr} {n : Nat} (hI : g.get? I = none) (hs : Sub g h) (hr : IsRangeIter h I ((n : Int) - 1) n (-1)) :
    It prog w g I n (fun i v => ∃ t, v = .int ((n : Int) - 1 + (i : Nat) * (-1)) t) 0 h := by
  refine ⟨⟨_, _, fun A hA => Walks.range hA I ((n : Int) - 1) (-1) n, ?_, ?_, fun i h st => ⟨_, st⟩⟩, hI, hs⟩
  · show IsRangeIter _ _ ((n : Int) - 1 + ((0 : Nat) : Int) * (-1)) ((n : Int) - ((0 : Nat) : Int)) (-1)
    rw [show (n : Int) - 1 + ((0 : Nat) : Int) * (-1) = (n : Int) - 1 by simp, show (n : Int) - ((0 : Nat) : Int) = n by simp]
    exact hr
  · intro b hb hI
    simp only [List.mem_cons, List.not_mem_nil, or_false] at hb
    exact absurd hb hI

theorem foldl_len (n : Nat) : ∀ (l : List Nat) (xs : List (List Nat)), (l.foldl (fun ys i => siftup ys (n - 1 - i)) xs).length = xs.length
  | [], _ => rfl
  | a :: l, xs => by rw [List.foldl_cons, foldl_len n l, siftup_length]

set_option maxHeartbeats 4000000 in
theorem heapify_ok {f l : Addr} {k : Nat} {vs : Array Value} {xs : List (List Nat)} {Q : Value → Shared → Prop}
    (R : Rm A (k + 3)) (hfn : FnAt s.heap f (defAt 12)) (G : Gl mg mb s.heap) (hl : s.heap.PlainList l vs) (hx : Txs vs xs) (hsz : xs.length < 2 ^ 31)
    (hQ : ∀ h' tk vs', h'.PlainList l vs' → Txs vs' (heapifyL xs) → SubBut l s.heap h' → Q .none { s with heap := h', toks := tk }) :
    wpAny (model prog w) A (call (.ref f) [.ref l]) Q E s := by
  refine enter [("x", .ref l)] [(l, vs)] R hfn G.nolimit (fun p hp => by rcases List.mem_singleton.mp hp with rfl; exact hl) ?_
  intro g h₁ cd tk A' R' F hgk _
  replace F : Fm g [(s.heap.objs.size, .ns _), (l, .list vs)] h₁ := F
  have Gg : Gl mg mb g := G.under (ls := [l]) (fun b hb => by rcases List.mem_singleton.mp hb with rfl; exact ⟨_, hl⟩) hgk
  have hb : bodyOf (defAt 12) = bodyOf (defAt 12) := rfl
  conv at hb => rhs; whnf
  rw [hb]; clear hb
  have hsz' := hx.size
  refine wpAny_execs_cons <| wpAny_Assign_Name <| callB1 (Gg.keeps F.keep) boot_len <| ldF F (by rfl) <| len_list (F.lst 1 rfl) (by omega) <| stF F fun h₂ F₂ => ?_
  clear F
  refine wpAny_execs_cons <| for_any R'.handled <| callT (Gg.keeps F₂.keep) boot_reversed <| args_cons <| callT (Gg.keeps F₂.keep) boot_range <| args_cons <|
    wpAny_BinOp <| ldF F₂ (by rfl) <| wpAny_Constant_int <| floordiv_int (by decide) (args_nil <| call_range_1 <| args_nil <| ?_) (Or.inl (PyProof.noPylong_small (by omega)))
  have hfd : ((vs.size : Int).fdiv 2) = ((xs.length / 2 : Nat) : Int) := by rw [Int.fdiv_eq_ediv_of_nonneg _ (by omega)]; omega
  rw [hfd]
  refine call_reversed_range (n := xs.length / 2) (Heap.get?_push_size _ rfl) (by omega) ?_
  generalize hH : h₂.push { cls := .type "range", data := .fields #[.int 0 _, .int ((xs.length / 2 : Nat) : Int) _, .int 1 _] } = H
  have kH : Sub h₂ H := fun b o e => by rw [← hH]; exact Heap.get?_push_of_some _ e
  have hIn : ∀ h : Heap, h.get? h.objs.size = none := fun h => by
    cases e : h.get? h.objs.size with
    | none => rfl
    | some o => exact absurd (Heap.lt_size e) (Nat.lt_irrefl _)
  have hIlt : ∀ b o, h₂.get? b = some o → b ≠ H.objs.size := fun b o e => Nat.ne_of_lt (Heap.lt_size (kH b o e))
  have hgI : g.get? H.objs.size = none := by
    cases e : g.get? H.objs.size with
    | none => rfl
    | some o => exact absurd rfl (hIlt _ _ (F₂.keep _ _ e))
  have F₃ := F₂.ext (h' := H.push { cls := .type "range_iterator", data := .fields #[rawInt (((xs.length / 2 : Nat) : Int) - 1), rawInt ((xs.length / 2 : Nat) : Int), rawInt (-1)] }) (fun b o e => Heap.get?_push_of_some _ (kH b o e))
  refine wpAny_pyIter_rangeiter (x := ((xs.length / 2 : Nat) : Int) - 1) (left := ((xs.length / 2 : Nat) : Int)) (step := -1) (Heap.get?_push_size _ rfl)
    ⟨_, g, [(l, .list vs)], _, xs.length / 2, _, fun i m os => ∃ vs', os = [(l, .list vs')] ∧ Txs vs' ((List.range i).foldl (fun ys i => siftup ys (xs.length / 2 - 1 - i)) xs) ∧ m "x" = some (.ref l), rfl,
      It.revRange hgI F₃.keep (Heap.get?_push_size _ rfl), F₃, fun p hp => ?_, ⟨vs, rfl, hx, rfl⟩, ?_, ?_⟩
  · obtain ⟨o, ho⟩ := F₂.fresh p hp
    exact hIlt _ _ ho
  · rintro i m os v s' g' hi ⟨vs', rfl, hx', hm⟩ ⟨t, rfl⟩ hs F
    rw [show ((xs.length / 2 : Nat) : Int) - 1 + (i : Int) * -1 = ((xs.length / 2 - 1 - i : Nat) : Int) by omega] at F
    have G' : Gl mg mb s'.heap := Gg.keeps (hs.trans F.keep)
    have hlen := foldl_len (xs.length / 2) (List.range i) xs
    refine wpAny_execs_cons <| wpAny_Expr <| callF 14 G' fun f hf => args_cons <| ldF F (by exact hm) <| args_cons <| ldF F (by rfl) <| args_nil ⟨Sub.refl _, fun hf => ?_⟩
    refine siftup_ok R' hf G' (F.get 1 rfl) hx' (by omega) (by omega) fun h' tk vs'' hl'' hx'' k'' => ?_
    refine wpAny_execs_nil ⟨rfl, ⟨_, _, rfl⟩, _, _, F.upd1 (o' := .list vs'') k'' hl'', vs'', rfl, ?_, hm⟩
    rw [List.range_succ, List.foldl_append]; exact hx''
  · rintro m os h' tk ⟨vs', rfl, hx', hm⟩ F
    exact wpAny_execs_nil (hQ h' tk vs' (F.get 1 rfl) hx' fun b o hb e => F.keep b o (hgk b o (by simpa using hb) e))

/-- what heappop hands on, and what it leaves -/
noncomputable def popL (xs : List (List Nat)) : List Nat × List (List Nat) :=
  if xs.dropLast = [] then (xs.getLastD [], []) else (xs.dropLast.headD [], siftup (xs.dropLast.set 0 (xs.getLastD [])) 0)

theorem truthy_ref {l : Addr} {vs : Array Value} {h : Heap} (hl : h.PlainList l vs) : h.IsList l vs := hl.isList

set_option maxHeartbeats 4000000 in
theorem heappop_ok {f l : Addr} {k : Nat} {vs : Array Value} {xs : List (List Nat)} {Q : Value → Shared → Prop}
    (R : Rm A (k + 3)) (hfn : FnAt s.heap f (defAt 11)) (G : Gl mg mb s.heap) (hl : s.heap.PlainList l vs) (hx : Txs vs xs) (h0 : 0 < xs.length) (hsz : xs.length < 2 ^ 20)
    (hQ : ∀ v h' tk vs', tx v = some (popL xs).1 → h'.PlainList l vs' → Txs vs' (popL xs).2 → SubBut l s.heap h' → Q v { s with heap := h', toks := tk }) :
    wpAny (model prog w) A (call (.ref f) [.ref l]) Q E s := by
  refine enter [("heap", .ref l)] [(l, vs)] R hfn G.nolimit (fun p hp => by rcases List.mem_singleton.mp hp with rfl; exact hl) ?_
  intro g h₁ cd tk A' R' F hgk _
  replace F : Fm g [(s.heap.objs.size, .ns _), (l, .list vs)] h₁ := F
  have Gg : Gl mg mb g := G.under (ls := [l]) (fun b hb => by rcases List.mem_singleton.mp hb with rfl; exact ⟨_, hl⟩) hgk
  have hb : bodyOf (defAt 11) = bodyOf (defAt 11) := rfl
  conv at hb => rhs; whnf
  rw [hb]; clear hb
  have hsz' := hx.size
  obtain ⟨t0, ht0⟩ := hx.get (i := xs.length - 1) (by omega)
  have hpop : vs[vs.size - 1]? = some (.str ⟨(xs.getLastD []).toArray⟩ t0) := by
    rw [hsz', ht0]
    have : xs.getD (xs.length - 1) [] = xs.getLastD [] := by
      rw [List.getD_eq_getElem?_getD, List.getLastD_eq_getLast?, List.getLast?_eq_getElem?]
    rw [this]
  refine wpAny_execs_cons <| wpAny_Assign_Name <| wpAny_Call_method0_late rfl rfl <| ldF F (by rfl) ⟨_, _, _root_.PySem.F.plainAttrs_list, _root_.PySem.F.slot_list_pop, _root_.PySem.F.type_list_pop, (F.lst 1 rfl).typeIs, fun a e => ?_, callWith_builtin rfl <| PyProof.Rows.evalArgs_none ?_⟩
  · cases e
    obtain ⟨n, ho⟩ : h₁.PlainList l vs := F.get 1 rfl
    exact ⟨_, ho, rfl⟩
  refine pop_plain (F.get 1 rfl) hpop (by rw [hsz', sizeLine_eq]; omega) fun h₂ hl₂ k₂ => ?_
  have hx₂ : Txs (vs.eraseIdxIfInBounds (vs.size - 1)) xs.dropLast := by
    unfold Txs at hx ⊢
    have e : (vs.eraseIdxIfInBounds (vs.size - 1)).toList = vs.toList.dropLast := by
      rw [Array.eraseIdxIfInBounds_eq, dif_pos (by omega), Array.toList_eraseIdx, ← Array.length_toList, List.eraseIdx_length_sub_one]
    rw [e, List.map_dropLast, hx, List.map_dropLast]
  have F₂ := F.upd1 (o' := .list _) k₂ hl₂
  refine stF F₂ fun h₃ F₃ => ?_
  clear F F₂ hpop
  generalize vs.eraseIdxIfInBounds (vs.size - 1) = vs₂ at *
  have hsz₂ := hx₂.size
  rw [List.length_dropLast] at hsz₂
  refine wpAny_execs_cons <| wpAny_If <| wpAny_isTrue_value <| ldF F₃ (by rfl) <| wpAny_truthy_list (F₃.lst 1 rfl) (by omega) ?_
  by_cases hne : xs.length = 1
  · have he : vs₂.isEmpty = true := by simp only [Array.isEmpty, decide_eq_true_eq]; omega
    have hd : xs.dropLast = [] := List.eq_nil_of_length_eq_zero (by rw [List.length_dropLast]; omega)
    rw [he]
    refine wpAny_execs_nil <| wpAny_execs_cons <| wpAny_Return_some <| ldF F₃ (by rfl) ?_
    refine hQ _ _ _ vs₂ (by rw [popL, if_pos hd]; rfl) (F₃.get 1 rfl) (by rw [popL, if_pos hd]; rw [hd] at hx₂; exact hx₂) fun b o hb e => F₃.keep b o (hgk b o (by simpa using hb) e)
  · have he : vs₂.isEmpty = false := by simp only [Array.isEmpty, decide_eq_false_iff_not]; omega
    have hd : xs.dropLast ≠ [] := fun e => by have := congrArg List.length e; rw [List.length_dropLast] at this; simp at this; omega
    rw [he]
    obtain ⟨t1, ht1⟩ := hx₂.get (i := 0) (by rw [List.length_dropLast]; omega)
    refine wpAny_execs_cons <| wpAny_Assign_Name <| Subscript_ <| ldF F₃ (by rfl) <| wpAny_Constant_int <| sub_list (F₃.lst 1 rfl) (by omega) (by omega) ht1 <| stF F₃ fun h₄ F₄ => ?_
    refine wpAny_execs_cons <| wpAny_Assign_Subscript <| ldF F₄ (by rfl) <| ldF F₄ (by rfl) <| wpAny_Constant_int <| setItem_plain (F₄.get 1 rfl) (by omega) (by omega) (by omega) fun h₅ hl₅ k₅ => ?_
    have F₅ := F₄.upd1 (o' := .list _) k₅ hl₅
    have hx₅ := hx₂.set 0 (xs.getLastD []) t0
    refine wpAny_execs_cons <| wpAny_Expr <| callF 14 (Gg.keeps F₅.keep) fun f hf => args_cons <| ldF F₅ (by rfl) <| args_cons <| wpAny_Constant_int <| args_nil ⟨Sub.refl _, fun hf => ?_⟩
    refine siftup_ok (pos := 0) R' hf (Gg.keeps F₅.keep) (F₅.get 1 rfl) hx₅ (by rw [List.length_set, List.length_dropLast]; omega) (by rw [List.length_set, List.length_dropLast]; omega) fun h₆ tk₆ vs₆ hl₆ hx₆ k₆ => ?_
    have F₆ := F₅.upd1 (o' := .list _) k₆ hl₆
    refine wpAny_execs_cons <| wpAny_Return_some <| ldF F₆ (by rfl) ?_
    refine hQ _ _ _ vs₆ (by rw [popL, if_neg hd]; show some _ = some _; rw [List.getD_eq_getElem?_getD, List.headD_eq_head?_getD, List.head?_eq_getElem?]) (F₆.get 1 rfl) (by rw [popL, if_neg hd]; exact hx₆) fun b o hb e => F₆.keep b o (hgk b o (by simpa using hb) e)
end
end Mine
end

section
open PySem PySem.W PyProof.Rows PySem.Calls
set_option maxRecDepth 100000
set_option linter.unusedVariables false
namespace Mine

noncomputable def rots (w : List Nat) : List (List Nat) := (List.range w.length).map fun k => w.drop k ++ w.take k
noncomputable def hps (h : List (List Nat)) : Nat → List (List Nat)
  | 0 => h
  | i + 1 => (popL (hps h i)).2
noncomputable def drained (h : List (List Nat)) (n : Nat) : List (List Nat) := (List.range n).map fun j => (popL (hps h j)).1
noncomputable def rowsL (w : List Nat) : List (List Nat) := drained (heapifyL (rots w)) w.length

theorem heapifyL_length (xs : List (List Nat)) : (heapifyL xs).length = xs.length := foldl_len _ _ _
theorem popL_length (xs : List (List Nat)) : (popL xs).2.length = xs.length - 1 := by
  unfold popL
  split
  · rename_i h
    have := congrArg List.length h
    rw [List.length_dropLast] at this
    simp at this ⊢; omega
  · simp [siftup_length]
theorem hps_length (h : List (List Nat)) : ∀ i, (hps h i).length = h.length - i
  | 0 => rfl
  | i + 1 => by rw [hps, popL_length, hps_length h i]; omega

section
variable {prog : Program} {w : World} {A : Around} {E : Value → Shared → Prop} {s : Shared} {mg mb : Str → Option Value}

theorem cellK {h h' : Heap} {c : Addr} {v : Option Value} (x : h.IsCell c v) (k : Sub h h') : h'.IsCell c v := Heap.IsCell.keeps x k
theorem plainK {h h' : Heap} {c : Addr} {v : Array Value} (x : h.PlainList c v) (k : Sub h h') : h'.PlainList c v := x.at fun o e => k _ o e

theorem rangeSize0 (n : Nat) : Builtin.Range.rangeSize 0 n 1 = (n : Int) := rev_size
theorem small0 {n : Nat} (h : n < 2 ^ 31) : Builtin.Range.small 0 n 1 = true := by
  unfold Builtin.Range.small
  rw [rangeSize0]
  simp [Builtin.Range.rangeFitsLong]; omega

theorem Src.range0 {r : Addr} {n : Nat} {t u v : Tok} {g : Heap} (hr : IsRange s.heap r 0 n 1 t u v) (hn : n < 2 ^ 31) (hg : Sub g s.heap) : Src prog w g (.ref r) n (fun i v => ∃ t, v = .int (i : Nat) t) s := by
  have e : (fun (i : Nat) (v : Value) => ∃ t, v = .int ((0 : Int) + (i : Nat) * 1) t) = fun i v => ∃ t, v = .int (i : Nat) t := by
    funext i v; simp
  rw [← e]
  exact Src.range hr (small0 hn) (rangeSize0 n) hg
theorem tx_T (x : List Nat) (t : Tok) : tx (T x t) = some x := rfl

theorem sl_from (x : List Nat) (k : Nat) : sl x (some (k : Int)) none = x.drop k := by
  unfold sl clO
  dsimp only
  rw [cl_nat]
  by_cases h : k ≤ x.length
  · rw [Nat.min_eq_left h, ← List.length_drop]; exact List.take_length
  · rw [Nat.min_eq_right (by omega)]; simp [List.drop_eq_nil_of_le (show x.length ≤ k by omega)]
theorem sl_to (x : List Nat) (k : Nat) : sl x none (some (k : Int)) = x.take k := by
  unfold sl clO
  dsimp only
  rw [cl_nat]
  simp only [List.drop_zero, Nat.sub_zero]
  by_cases h : k ≤ x.length
  · rw [Nat.min_eq_left h]
  · rw [Nat.min_eq_right (by omega), List.take_length, List.take_of_length_le (by omega)]

set_option maxHeartbeats 4000000 in
theorem rows_ok {f : Addr} {k : Nat} {t : Tok} {x : List Nat} {Q : Value → Shared → Prop}
    (R : Rm A (k + 4)) (hfn : FnAt s.heap f (defAt 25)) (G : Gl mg mb s.heap) (hsz : x.length ≤ 1000)
    (hQ : ∀ r h' tk vs', h'.PlainList r vs' → Txs vs' (rowsL x) → Sub s.heap h' → s.heap.get? r = none → Q (.ref r) { s with heap := h', toks := tk }) :
    wpAny (model prog w) A (call (.ref f) [T x t]) Q E s := by
  refine enterC (k := k + 3) [("whole", T x t)] (fun L => [("heap", L + 1 + 1), ("whole", L + 1)]) (fun y => if y = "whole" then some (T x t) else none) (fun _ => none) R hfn G.nolimit ?_
    (hlook := fun L p hp => by simp only [List.mem_cons, List.not_mem_nil, or_false] at hp; rcases hp with rfl | rfl <;> rfl)
    (hkind := fun L p hp => by rcases List.mem_singleton.mp hp with rfl; exact .inr ⟨by with_unfolding_all rfl, rfl⟩)
  intro h₁ cd tk A' R' F
  replace F : Fm s.heap [(s.heap.objs.size, .ns fun _ => none), (s.heap.objs.size + 1 + 1, .cell none), (s.heap.objs.size + 1, .cell (some (T x t)))] h₁ := F
  have hb : bodyOf (defAt 25) = bodyOf (defAt 25) := rfl
  conv at hb => rhs; whnf
  rw [hb]; clear hb
  generalize s.heap.objs.size = L at F ⊢
  have cw := F.get 2 rfl
  refine wpAny_execs_cons <| wpAny_Assign_Name (hs := by with_unfolding_all rfl) <| comp_map (α := List Nat) tx [("whole", L + 1)] R'.handled <| callT (G.keeps F.keep) boot_range <| args_cons <| callB1 (G.keeps F.keep) boot_len <| ldC cw <| len_T (by omega) <| args_nil <| call_range_1 ?_
  refine ⟨x.length, _, fun k => x.drop k ++ x.take k, Src.range0 (Heap.get?_push_size _ rfl) (by omega) (Sub.refl _), by rw [sizeLine_eq]; omega, ?_, ?_⟩
  · rintro i v C m s' g E' hi ⟨t', rfl⟩ hs F' hm
    have cw' := cellK (cellK (cellK cw fun b o e => Heap.get?_push_of_some _ e) hs) F'.keep
    refine wpAny_BinOp <| slice_T <| ldC cw' <| evalPart_some_step <| ldF F' hm <| evalPart_none_step ⟨x, t, some ((i : Int), t'), none, rfl, rfl, rfl, by omega, fun t1 h2 tk2 k2 => ?_⟩
    refine slice_T <| ldC (cellK cw' k2) <| evalPart_none_step <| evalPart_some_step <| ldF (F'.ext k2) hm ⟨x, t, none, some ((i : Int), t'), rfl, rfl, rfl, by omega, fun t2 h3 tk3 k3 => ?_⟩
    refine add_T ?_ fun t4 tk4 => ⟨?_, h3, tk4, rfl, k2.trans k3⟩
    · simp only [sl, List.length_take, List.length_drop]; omega
    · rw [tx_T]; simp only [Option.map_some, Option.map_none, sl_from, sl_to]
  intro D ys h₂ tk₂ hV k₂ hl₂ hD
  have F₂ : Fm s.heap [(L, .ns fun _ => none), (L + 1 + 1, .cell none), (L + 1, .cell (some (T x t)))] h₂ := F.ext (fun b o e => k₂ b o (Heap.get?_push_of_some _ e))
  have hDn : h₁.get? D = none := by
    cases e : h₁.get? D with
    | none => rfl
    | some o => have hD' : (h₁.push _).get? D = none := hD
                rw [Heap.get?_push_of_some _ e] at hD'; cases hD'
  have F₃ : Fm s.heap [(D, .list (List.toArray ys)), (L, .ns fun _ => none), (L + 1 + 1, .cell none), (L + 1, .cell (some (T x t)))] h₂ := F.cons (fun b o e => k₂ b o (Heap.get?_push_of_some _ e)) hDn hl₂
  have hX : Txs (List.toArray ys) (rots x) := by unfold Txs; exact hV
  refine stC2 F₃.swap fun h₄ F₄ => ?_
  refine wpAny_execs_cons <| wpAny_Expr <| callF 12 (G.keeps F₄.keep) fun f hf => args_cons <| ldC (F₄.get 2 rfl) <| args_nil ⟨Sub.refl _, fun hf => ?_⟩
  have hlen : (rots x).length = x.length := by simp [rots]
  refine heapify_ok R' hf (G.keeps F₄.keep) (F₄.get 1 rfl) hX (by omega) fun h₅ tk₅ vs₅ hl₅ hX₅ k₅ => ?_
  have F₅ := F₄.upd1 (o' := .list vs₅) k₅ hl₅
  refine wpAny_execs_cons <| wpAny_Return_some <| comp_any [("heap", L + 1 + 1)] R'.handled <| callT (G.keeps F₅.keep) boot_range <| args_cons <| callB1 (G.keeps F₅.keep) boot_len <| ldC (F₅.get 3 rfl) <| len_T (by omega) <| args_nil <| call_range_1 ?_
  have F₆ := F₅.ext (h' := h₅.push { cls := .type "range", data := .fields #[.int 0 (tk₅ + 1 + 1), .int x.length (tk₅ + 1), .int 1 (tk₅ + 1 + 1 + 1)] }) (fun b o e => Heap.get?_push_of_some _ e)
  obtain ⟨F₇, K₇⟩ := F₆.reg (os' := [(D, .list vs₅)]) (by simp)
  have hDo : ∀ {a : Addr} {o : Obj}, s.heap.get? a = some o → a ≠ D := fun e h => by subst h; have := F₅.out _ (.tail _ (.head _)); rw [this] at e; cases e
  have S₇ : Sub s.heap (hideAll (h₅.push { cls := .type "range", data := .fields #[.int 0 (tk₅ + 1 + 1), .int x.length (tk₅ + 1), .int 1 (tk₅ + 1 + 1 + 1)] }) ([(D, Own.list vs₅)].map (·.1))) := fun b o e =>
    K₇ b o (by simpa using hDo e) (F₆.keep b o e)
  have hcD : L + 1 + 1 ≠ D := fun h => by
    have ap := F₅.apart
    simp only [List.pairwise_cons] at ap
    exact ap.2.1 _ (.head _) h.symm
  have ch : (hideAll (h₅.push { cls := .type "range", data := .fields #[.int 0 (tk₅ + 1 + 1), .int x.length (tk₅ + 1), .int 1 (tk₅ + 1 + 1 + 1)] }) ([(D, Own.list vs₅)].map (·.1))).IsCell (L + 1 + 1) (some (.ref D)) := by
    obtain ⟨o, ho, hd⟩ : (h₅.push _).IsCell (L + 1 + 1) (some (.ref D)) := F₆.get 2 rfl
    exact ⟨o, K₇ _ _ (by simpa using hcD) ho, hd⟩
  refine ⟨_, [(D, .list vs₅)], x.length, _, fun i ys os => ∃ vs', os = [(D, .list vs')] ∧ Txs vs' (hps (heapifyL (rots x)) i) ∧ ys.map tx = (drained (heapifyL (rots x)) i).map some, Src.range0 (Heap.get?_push_size _ rfl) (by omega) F₇.keep, by rw [sizeLine_eq]; omega, F₇,
    ⟨vs₅, rfl, hX₅, rfl⟩, ?_, ?_⟩
  · rintro i ys os v C m s' g' E' hi ⟨vs', rfl, hX', hys⟩ ⟨t', rfl⟩ hs F' hm
    refine wpAny_tests_nil ⟨Is.refl _, _, F', ?_⟩
    rw [if_pos rfl]
    have G' : Gl mg mb s'.heap := G.keeps (S₇.trans (hs.trans F'.keep))
    refine callF 11 G' fun f hf => args_cons <| ldC (cellK ch (hs.trans F'.keep)) <| args_nil ⟨Sub.refl _, fun hf => ?_⟩
    have hl2 := hps_length (heapifyL (rots x)) i
    have hl3 := heapifyL_length (rots x)
    refine heappop_ok R' hf G' (F'.get 1 rfl) hX' (by omega) (by omega) fun v' h' tk' vs'' hv' hl'' hX'' k'' => ?_
    refine ⟨⟨_, _, rfl⟩, [(D, .list vs'')], F'.upd1 (o' := .list vs'') k'' hl'', vs'', rfl, hX'', ?_⟩
    rw [List.map_append, hys, drained, drained, List.range_succ, List.map_append, List.map_append]
    simp [hv']
  · rintro r ys os' h' tk' ⟨vs', rfl, hX', hys⟩ F' hr
    refine hQ r h' _ _ (F'.get 0 rfl) hys (S₇.trans F'.keep) ?_
    cases e : s.heap.get? r with
    | none => rfl
    | some o => have := F₆.keep _ _ e
                exact absurd rfl (ne_of_none hr this)
end
end Mine
end

section
open PySem PySem.W PyProof.Rows PySem.Calls
set_option maxRecDepth 100000
set_option linter.unusedVariables false
namespace Mine

noncomputable def ti : Value → Option Int | .int i _ => some i | _ => none
noncomputable def Ins (vs : Array Value) (ns : List Int) : Prop := vs.toList.map ti = ns.map some
theorem ti_some {v : Value} {i : Int} (h : ti v = some i) : ∃ t, v = .int i t := by
  cases v <;> simp [ti] at h
  subst h; exact ⟨_, rfl⟩
theorem intsAre_of : ∀ {vs : List Value} {ns : List Int}, vs.map ti = ns.map some → IntsAre vs ns
  | [], [], _ => .nil
  | [], _ :: _, h => by simp at h
  | _ :: _, [], h => by simp at h
  | v :: vs, n :: ns, h => by
    simp only [List.map_cons, List.cons.injEq] at h
    obtain ⟨t, rfl⟩ := ti_some h.1
    exact .cons n t (intsAre_of h.2)
theorem of_intsAre : ∀ {vs : List Value} {ns : List Int}, IntsAre vs ns → vs.map ti = ns.map some
  | _, _, .nil => rfl
  | _, _, .cons n t h => by simp only [List.map_cons, of_intsAre h]; rfl

noncomputable def placesL (x w : List Nat) : List Int := ((List.range x.length).filter fun (k : Nat) => (x.drop k).take w.length == w).map fun (k : Nat) => (k : Int)

theorem sl_mid (x : List Nat) (k n : Nat) : sl x (some (k : Int)) (some ((k : Int) + n)) = (x.drop k).take n := by
  unfold sl clO
  dsimp only
  rw [show (k : Int) + n = ((k + n : Nat) : Int) by omega, cl_nat, cl_nat]
  by_cases h : k ≤ x.length
  · rw [Nat.min_eq_left h]
    by_cases h2 : k + n ≤ x.length
    · rw [Nat.min_eq_left h2, show k + n - k = n by omega]
    · rw [Nat.min_eq_right (by omega), ← List.length_drop, List.take_length, List.take_of_length_le (by simp; omega)]
  · rw [Nat.min_eq_right (show x.length ≤ k by omega)]
    simp [List.drop_eq_nil_of_le (show x.length ≤ k by omega)]

section
variable {prog : Program} {w : World} {A : Around} {E : Value → Shared → Prop} {s : Shared} {mg mb : Str → Option Value}

theorem fresh_push {h : Heap} {o : Obj} {D : Addr} (hD : (h.push o).get? D = none) : h.get? D = none := by
  cases e : h.get? D with
  | none => rfl
  | some x => rw [Heap.get?_push_of_some _ e] at hD; cases hD
theorem fresh_sub {g h : Heap} {D : Addr} (hs : Sub g h) (hD : h.get? D = none) : g.get? D = none := by
  cases e : g.get? D with
  | none => rfl
  | some x => rw [hs _ _ e] at hD; cases hD
theorem sub_push {h : Heap} {o : Obj} : Sub h (h.push o) := fun b x e => Heap.get?_push_of_some _ e

set_option maxHeartbeats 4000000 in
theorem places_ok {f : Addr} {k : Nat} {t u : Tok} {x y : List Nat} {Q : Value → Shared → Prop}
    (R : Rm A (k + 1)) (hfn : FnAt s.heap f (defAt 29)) (G : Gl mg mb s.heap) (hsz : x.length ≤ 1000) (hszy : y.length ≤ 1000)
    (hQ : ∀ r h' tk vs', h'.PlainList r vs' → Ins vs' (placesL x y) → Sub s.heap h' → s.heap.get? r = none → Q (.ref r) { s with heap := h', toks := tk }) :
    wpAny (model prog w) A (call (.ref f) [T x t, T y u]) Q E s := by
  refine enterC (k := k) [("text", T x t), ("word", T y u)] (fun L => [("word", L + 1 + 1), ("text", L + 1)]) (fun z => if z = "word" then some (T y u) else if z = "text" then some (T x t) else none) (fun _ => none) R hfn G.nolimit ?_
    (hlook := fun L p hp => by simp only [List.mem_cons, List.not_mem_nil, or_false] at hp; rcases hp with rfl | rfl <;> rfl)
    (hkind := fun L p hp => by
      simp only [List.mem_cons, List.not_mem_nil, or_false] at hp
      rcases hp with rfl | rfl
      · exact .inr ⟨by with_unfolding_all rfl, rfl⟩
      · exact .inr ⟨by with_unfolding_all rfl, rfl⟩)
  intro h₁ cd tk A' R' F
  replace F : Fm s.heap [(s.heap.objs.size, .ns fun _ => none), (s.heap.objs.size + 1 + 1, .cell (some (T y u))), (s.heap.objs.size + 1, .cell (some (T x t)))] h₁ := F
  have hb : bodyOf (defAt 29) = bodyOf (defAt 29) := rfl
  conv at hb => rhs; whnf
  rw [hb]; clear hb
  generalize s.heap.objs.size = L at F ⊢
  have cx := F.get 2 rfl
  have cy := F.get 1 rfl
  refine wpAny_execs_cons <| wpAny_Return_some <| comp_pure (α := Int) ti [("word", L + 1 + 1), ("text", L + 1)] R'.handled <| callT (G.keeps F.keep) boot_range <| args_cons <| callB1 (G.keeps F.keep) boot_len <| ldC cx <| len_T (by omega) <| args_nil <| call_range_1 ?_
  refine ⟨x.length, _, fun k => (x.drop k).take y.length == y, fun (k : Nat) => (k : Int), Src.range0 (Heap.get?_push_size _ rfl) (by omega) (Sub.refl _), by rw [sizeLine_eq]; omega, ?_, ?_, ?_⟩
  · rintro i v C m s' g E' hi ⟨t', rfl⟩ hs F' hm
    have cx' := cellK (cellK (cellK cx sub_push) hs) F'.keep
    have cy' := cellK (cellK (cellK cy sub_push) hs) F'.keep
    have Gm := (((G.keeps F.keep).keeps sub_push).keeps hs).keeps F'.keep
    refine wpAny_tests_one <| wpAny_isTrue_Compare1 <| slice_T <| ldC cx' <| evalPart_some_step <| ldF F' hm <| evalPart_some_step <| wpAny_BinOp <| ldF F' hm <| callB1 Gm boot_len <| ldC cy' <| len_T (by omega) <| add_int
      ⟨x, t, some ((i : Int), t'), some ((i : Int) + y.length, _), rfl, rfl, rfl, by omega, fun t1 h2 tk2 k2 => ldC (cellK cy' k2) <| eq_T <| wpAny_truthy_bool ⟨?_, h2, _, rfl, k2⟩⟩
    simp only [Option.map_some, sl_mid]
  · rintro i v C m s' g E' hi ⟨t', rfl⟩ _ hs F' hm
    exact ldF F' hm ⟨rfl, _, _, rfl, Sub.refl _⟩
  · intro D ys h₂ tk₂ hV k₂ hl₂ hD
    exact hQ D h₂ _ _ hl₂ hV (F.keep.trans (Sub.trans sub_push k₂)) (fresh_sub F.keep (fresh_push hD))
end
end Mine
end

section
open PySem PySem.W PyProof.Rows PySem.Calls
set_option maxRecDepth 100000
set_option linter.unusedVariables false
namespace Mine

noncomputable def AllI (vs : Array Value) : Prop := ∀ (i : Nat) (v : Value), vs[i]? = some v → ∃ n t, v = Value.int n t
noncomputable def valAt (vs : Array Value) (i : Nat) : Int := match vs[i]? with | some (.int n _) => n | _ => 0

noncomputable def sumOf (vs : Array Value) : Int := preSum (valAt vs) vs.size

section
variable {prog : Program} {w : World} {A : Around} {E : Value → Shared → Prop} {s : Shared} {env : Env} {mg mb : Str → Option Value} {Q : Value → Shared → Prop}

theorem sum_L {l : Addr} {vs : Array Value} (hh : A.handled = none) (hl : s.heap.IsList l vs) (hv : AllI vs)
    (h : ∀ t' h' tk, Sub s.heap h' → Q (.int (sumOf vs) t') { s with heap := h', toks := tk }) : wpAny (model prog w) A (call (.builtin "sum") [.ref l]) Q E s := by
  refine call_sum_walkG (wpAny_pyIter_list hl ?_)
  obtain ⟨ol, hol, _⟩ := id hl
  have hlt := Heap.lt_size hol
  refine ⟨s.heap.objs.size, [s.heap.objs.size, l], [s.heap.objs.size], vs.size, _, _, valAt vs, rfl, Walks.list (show A.in1.handled = none from hh) _ l (Nat.ne_of_lt hlt) vs, ⟨⟨_, Heap.get?_push_size _ rfl, rfl, rfl⟩, hl.push _⟩, ?_, ?_, ?_⟩
  · intro b hb
    show b < (s.heap.push _).objs.size
    rw [Heap.size_push]
    simp only [List.mem_cons, List.not_mem_nil, or_false] at hb
    rcases hb with rfl | rfl
    · exact Nat.lt_succ_self _
    · exact Nat.lt_succ_of_lt hlt
  · intro i v hiv
    obtain ⟨n, t, rfl⟩ := hv i v hiv
    exact ⟨t, by unfold valAt; rw [hiv]⟩
  · intro h' tk t' hk
    exact h t' h' tk fun b o e => hk b o (by simpa using Nat.ne_of_lt (Heap.lt_size e)) (Heap.get?_push_of_some _ e)

/-- a slice of a list -/
theorem slice_L {value : Expr} {lower upper step : Option Expr} {p pos : Pos}
    (h : wpAny (model prog w) A (eval value env) (fun o s₁ => wpAny (model prog w) A (evalPart lower env) (fun vl s₂ => wpAny (model prog w) A (evalPart upper env) (fun vu s₃ => wpAny (model prog w) A (evalPart step env) (fun vs s₄ =>
      ∃ a items lo hi st, o = .ref a ∧ s₄.heap.IsList a items ∧ IsPart vl lo ∧ IsPart vu hi ∧ IsPart vs st ∧ st ≠ some 0 ∧ items.size ≤ sizeLine ∧
        ∀ r h', Sub s₄.heap h' → s₄.heap.get? r = none → h'.PlainList r (slicePick items lo hi st) → Q (.ref r) { s₄ with heap := h' }) E s₃) E s₂) E s₁) E s)
    (hs : ∀ x a, ∃ ops, subscripted (.Slice lower upper step p) false (.ref x) (.ref a) = operate ops (getItem (.ref x) (.ref a)) := by intro _ _; exact ⟨_, by with_unfolding_all rfl⟩) :
    wpAny (model prog w) A (eval (.Subscript value (.Slice lower upper step p) pos) env) Q E s := by
  refine Subscript_ (wpAny_mono h (fun o s₁ h₁ => wpAny_Slice (wpAny_mono h₁ (fun vl s₂ h₂ => wpAny_mono h₂ (fun vu s₃ h₃ => wpAny_mono h₃ (fun vs s₄ h₄ => ?_) fun _ _ e => e) fun _ _ e => e) fun _ _ e => e)) fun _ _ e => e)
  obtain ⟨a, items, lo, hi, st, rfl, hl, pl, pu, ps, h0, hsz, hQ⟩ := h₄
  obtain ⟨ops, hops⟩ := hs a s₄.heap.objs.size
  refine tail_any (hl.push _).typeIs slot_list_getitem.lookup (wpAny_getItem_list_slice (hl.push _) (Heap.IsSliceOf.new ..) pl pu ps h0 ?_ hsz) hops
  refine hQ _ _ (Sub.trans sub_push sub_push) ?_ ⟨_, Heap.get?_push_size _ rfl⟩
  cases e : s₄.heap.get? (s₄.heap.push { cls := .type "slice", data := .fields #[vl, vu, vs] }).objs.size with
  | none => rfl
  | some x => have := Heap.lt_size e
              rw [Heap.size_push] at this; exact absurd (Nat.lt_of_succ_lt this) (Nat.lt_irrefl _)

theorem allI_pick {items : Array Value} {lo hi st : Option Int} (h : AllI items) : AllI (slicePick items lo hi st) := by
  intro i v hv
  unfold slicePick at hv
  have hm : v ∈ (sliceRange (sliceBounds lo hi st items.size).1 (sliceBounds lo hi st items.size).2.1 (sliceBounds lo hi st items.size).2.2).filterMap (items[·]?) := by
    have := Array.mem_of_getElem? hv
    simpa using this
  obtain ⟨j, _, hj⟩ := List.mem_filterMap.mp hm
  exact h j v hj

theorem fresh_size (h : Heap) : h.get? h.objs.size = none := by
  cases e : h.get? h.objs.size with
  | none => rfl
  | some x => exact absurd (Heap.lt_size e) (Nat.lt_irrefl _)

theorem Fm.pushList {g h : Heap} {os : List (Addr × Own)} (F : Fm g os h) (vs : Array Value) : Fm g ((h.objs.size, .list vs) :: os) (h.push { cls := .type "list", data := .seq vs }) :=
  F.cons sub_push (fresh_size h) ⟨_, Heap.get?_push_size _ rfl⟩

inductive IntEs : List Expr → List Int → Prop
  | nil : IntEs [] []
  | cons {es : List Expr} {ns : List Int} (i : Int) (k : Nat) (p : Pos) : IntEs es ns → IntEs (Expr.Constant (Const.int i) k p :: es) (i :: ns)

theorem args_ints {env : Env} {pos : Pos} {es : List Expr} {ns : List Int} (h : IntEs es ns) : ∀ {s : Shared} {Q : List Value → Shared → Prop},
    (∀ vs tk, vs.map ti = ns.map some → Q vs { s with toks := tk }) → wpAny (model prog w) A (spliced (backTo pos (starEach es env))) Q E s := by
  induction h with
  | nil => intro s Q hQ; exact args_nil (hQ [] s.toks rfl)
  | cons i k p _ ih =>
    intro s Q hQ
    refine args_cons <| wpAny_Constant_int <| ih fun vs tk hv => ?_
    exact hQ (.int i s.toks :: vs) tk (by simp only [List.map_cons, hv]; rfl)

set_option maxHeartbeats 4000000 in
theorem told_ok {f a : Addr} {k : Nat} {vs : Array Value} 
    (R : Rm A (k + 1)) (hfn : FnAt s.heap f (defAt 23)) (G : Gl mg mb s.heap) (hl : s.heap.IsList a vs) (hv : AllI vs) (hsz : vs.size ≤ 1000)
    (hQ : ∀ r h' tk vs' ns, h'.PlainList r vs' → Ins vs' ns → ns.length = 9 → Sub s.heap h' → s.heap.get? r = none → Q (.ref r) { s with heap := h', toks := tk }) :
    wpAny (model prog w) A (call (.ref f) [.ref a]) Q E s := by
  refine enterC (k := k) [("script", .ref a)] (fun L => [("own", L + 1 + 1), ("script", L + 1)]) (fun z => if z = "script" then some (.ref a) else none) (fun _ => none) R hfn G.nolimit ?_
    (hlook := fun L p hp => by simp only [List.mem_cons, List.not_mem_nil, or_false] at hp; rcases hp with rfl | rfl <;> rfl)
    (hkind := fun L p hp => by rcases List.mem_singleton.mp hp with rfl; exact .inr ⟨by with_unfolding_all rfl, rfl⟩)
  intro h₁ cd tk A' R' F
  replace F : Fm s.heap [(s.heap.objs.size, .ns fun _ => none), (s.heap.objs.size + 1 + 1, .cell none), (s.heap.objs.size + 1, .cell (some (.ref a)))] h₁ := F
  have hb : bodyOf (defAt 23) = bodyOf (defAt 23) := rfl
  conv at hb => rhs; whnf
  rw [hb]; clear hb
  generalize s.heap.objs.size = L at F ⊢
  refine wpAny_execs_cons ?_
  refine wpAny_Assign_Name ?_ ?_
  rotate_left
  · with_unfolding_all rfl
  refine wpAny_List ?_
  refine args_ints (ns := [1, 0, 1, 0, 2, 0, 4, 8, 1]) ?_ ?_
  · repeat constructor
  refine fun ovs tk₂ ho => ?_
  have hol : ovs.length = 9 := by have := congrArg List.length ho; simpa using this
  refine ⟨by rw [sizeLine_eq]; omega, ?_⟩
  have F₂ := F.pushList ovs.toArray
  refine stC2 F₂.swap fun h₃ F₃ => ?_
  generalize h₁.objs.size = O at F₂ F₃ ⊢
  refine wpAny_execs_cons <| wpAny_Return_some <| comp_map (α := Int) ti [("script", L + 1), ("own", L + 1 + 1)] R'.handled <| callT (G.keeps F₃.keep) boot_range <| args_cons <| wpAny_Constant_int <| args_nil <| call_range_1 ?_
  refine ⟨9, _, fun i => valAt ovs.toArray i + sumOf (slicePick vs (some (i : Int)) none (some 9)), Src.range0 (n := 9) (Heap.get?_push_size _ rfl) (by omega) (Sub.refl _), by rw [sizeLine_eq]; omega, ?_, ?_⟩
  · rintro i v C m s' g E' hi ⟨t', rfl⟩ hs F' hm
    have S₃ : Sub h₃ s'.heap := Sub.trans (Sub.trans sub_push hs) F'.keep
    have co : s'.heap.IsCell (L + 1 + 1) (some (.ref O)) := cellK (F₃.get 2 rfl) S₃
    have cs : s'.heap.IsCell (L + 1) (some (.ref a)) := cellK (F₃.get 3 rfl) S₃
    have lo : s'.heap.IsList O ovs.toArray := (plainK (F₃.get 1 rfl) S₃).isList
    have ls : s'.heap.IsList a vs := isList_keep hl fun o e => S₃ _ _ (F₃.keep _ _ e)
    have hoi : (ovs.toArray)[i]? = some (.int (valAt ovs.toArray i) 0) ∨ ∃ t, (ovs.toArray)[i]? = some (.int (valAt ovs.toArray i) t) := by
      right
      have h1 : ovs[i]? = some ovs[i] := List.getElem?_eq_getElem (by omega)
      have h2 : ti ovs[i] = some (([1, 0, 1, 0, 2, 0, 4, 8, 1] : List Int)[i]'(by simpa using hi)) := by
        have := congrArg (fun l => l[i]?) ho
        simp only [List.getElem?_map, h1, Option.map_some] at this
        rw [List.getElem?_eq_getElem (by simpa using hi)] at this
        simpa using this
      obtain ⟨t, e⟩ := ti_some h2
      refine ⟨t, ?_⟩
      have h3 : (ovs.toArray)[i]? = some ovs[i] := by rw [List.getElem?_toArray, h1]
      rw [e] at h3
      unfold valAt; rw [h3]
    obtain ⟨to, hto⟩ : ∃ t, (ovs.toArray)[i]? = some (.int (valAt ovs.toArray i) t) := hoi.elim (fun h => ⟨_, h⟩) id
    refine wpAny_BinOp ?_
    refine Subscript_ <| ldC co <| ldF F' hm <| sub_listN lo (by omega) hto ?_
    refine callB1 ((G.keeps F₃.keep).keeps S₃) boot_sum <| slice_L <| ldC cs <| evalPart_some_step <| ldF F' hm <| evalPart_none_step <| evalPart_some_step <| wpAny_Constant_int
      ⟨a, vs, some (i : Int), none, some 9, rfl, ls, .int _ _, .none, .int _ _, by decide, by rw [sizeLine_eq]; omega, fun r h₄ k₄ hr hl₄ => ?_⟩
    refine sum_L R'.handled hl₄.isList (allI_pick hv) fun t₅ h₅ tk₅ k₅ => ?_
    exact add_int ⟨rfl, h₅, _, rfl, k₄.trans k₅⟩
  · intro D ys h₂ tk₂ hV k₂ hl₂ hD
    refine hQ D h₂ _ _ _ hl₂ hV (by simp) (F₃.keep.trans (Sub.trans sub_push k₂)) (fresh_sub F₃.keep (fresh_push hD))
end
end Mine
end

section
open PySem
set_option linter.unusedVariables false
namespace Mine

noncomputable def joinL (sep : List Nat) : List (List Nat) → List Nat
  | [] => []
  | [x] => x
  | x :: y :: r => x ++ sep ++ joinL sep (y :: r)
noncomputable def splitL (c : Nat) : List Nat → List (List Nat)
  | [] => [[]]
  | d :: r => if d = c then [] :: splitL c r else match splitL c r with | [] => [[d]] | p :: ps => (d :: p) :: ps
noncomputable def repl (c : Nat) (z x : List Nat) : List Nat := x.flatMap fun d => if d = c then z else [d]

theorem splitL_cons (c d : Nat) (r : List Nat) : splitL c (d :: r) = if d = c then [] :: splitL c r else match splitL c r with | [] => [[d]] | p :: ps => (d :: p) :: ps := rfl
theorem splitL_ne (c : Nat) : ∀ x, splitL c x ≠ []
  | [] => by simp [splitL]
  | d :: r => by unfold splitL; split <;> (try split) <;> simp

theorem splitL_free {c : Nat} : ∀ {p : List Nat}, c ∉ p → splitL c p = [p]
  | [], _ => rfl
  | d :: r, h => by
    have hd : d ≠ c := fun e => h (by simp [e])
    have hr : c ∉ r := fun e => h (by simp [e])
    rw [splitL_cons, if_neg hd, splitL_free hr]
theorem splitL_app {c : Nat} : ∀ {p : List Nat} (x : List Nat), c ∉ p → splitL c (p ++ c :: x) = p :: splitL c x
  | [], x, _ => by show splitL c (c :: x) = _; rw [splitL_cons, if_pos rfl]
  | d :: r, x, h => by
    have hd : d ≠ c := fun e => h (by simp [e])
    have hr : c ∉ r := fun e => h (by simp [e])
    show splitL c (d :: (r ++ c :: x)) = _
    rw [splitL_cons, if_neg hd, splitL_app x hr]

theorem split_unique {c : Nat} : ∀ (ps : List (List Nat)), ps ≠ [] → (∀ p ∈ ps, c ∉ p) → splitL c (joinL [c] ps) = ps
  | [], h, _ => absurd rfl h
  | [p], _, h => splitL_free (h p (by simp))
  | p :: q :: r, _, h => by
    show splitL c (p ++ [c] ++ joinL [c] (q :: r)) = _
    rw [List.append_assoc]
    show splitL c (p ++ c :: joinL [c] (q :: r)) = _
    rw [splitL_app _ (h p (by simp)), split_unique (q :: r) (by simp) fun x hx => h x (by simp [List.mem_cons.mp hx])]

theorem joinL_cons (sep p : List Nat) {ps : List (List Nat)} (h : ps ≠ []) : joinL sep (p :: ps) = p ++ sep ++ joinL sep ps := by
  cases ps with
  | nil => exact absurd rfl h
  | cons q r => rfl

theorem join_splitL (c : Nat) (z : List Nat) : ∀ x, joinL z (splitL c x) = repl c z x
  | [] => rfl
  | d :: r => by
    have ih := join_splitL c z r
    unfold splitL repl
    rw [List.flatMap_cons]
    by_cases hd : d = c
    · rw [if_pos hd, if_pos hd, joinL_cons _ _ (splitL_ne c r), ih]; rfl
    · rw [if_neg hd, if_neg hd]
      rcases hs : splitL c r with _ | ⟨p, ps⟩
      · exact absurd hs (splitL_ne c r)
      · rw [hs] at ih
        cases ps with
        | nil => simp only [joinL] at ih ⊢; rw [ih]; rfl
        | cons q r' => simp only [joinL] at ih ⊢; rw [show d :: p ++ z ++ joinL z (q :: r') = d :: (p ++ z ++ joinL z (q :: r')) by simp, ih]; rfl

theorem repl_none {c : Nat} {z x : List Nat} (h : c ∉ x) : repl c z x = x := by
  unfold repl
  induction x with
  | nil => rfl
  | cons d r ih =>
    rw [List.flatMap_cons, if_neg (fun e => h (by simp [e])), ih fun e => h (by simp [e])]; rfl

theorem joinL_toList (sep : Str) : ∀ texts : List Str, (Str.join sep texts).cps.toList = joinL sep.cps.toList (texts.map (·.cps.toList))
  | [] => rfl
  | [x] => rfl
  | x :: y :: r => by
    show ((x ++ sep ++ Str.join sep (y :: r) : Str)).cps.toList = _
    rw [show (x ++ sep ++ Str.join sep (y :: r) : Str).cps = x.cps ++ sep.cps ++ (Str.join sep (y :: r)).cps from rfl]
    rw [Array.toList_append, Array.toList_append, joinL_toList sep (y :: r)]
    rfl

theorem split_toList {x : Str} {c : Nat} (hx : x.cps.toList ≠ []) : (Txt.split x ⟨#[c]⟩).map (·.cps.toList) = splitL c x.cps.toList := by
  have h1 := congrArg (·.cps.toList) (StrLaws.join_split x ⟨#[c]⟩)
  rw [joinL_toList] at h1
  have h2 : ∀ p ∈ (Txt.split x ⟨#[c]⟩).map (·.cps.toList), c ∉ p := fun p hp => by
    obtain ⟨q, hq, rfl⟩ := List.mem_map.mp hp
    exact StrLaws.split_free x c q hq
  have h3 : (Txt.split x ⟨#[c]⟩).map (·.cps.toList) ≠ [] := fun e => by rw [e] at h1; exact hx h1.symm
  rw [← h1]
  exact (split_unique _ h3 h2).symm

theorem replace_toList (x z : Str) (c : Nat) : (Txt.replace x ⟨#[c]⟩ z).cps.toList = repl c z.cps.toList x.cps.toList := by
  rw [StrLaws.replace_one, joinL_toList]
  by_cases hx : x.cps.toList = []
  · have h1 := congrArg (·.cps.toList) (StrLaws.join_split x ⟨#[c]⟩)
    rw [joinL_toList, hx] at h1
    rw [hx]
    have : ∀ ps : List (List Nat), joinL [c] ps = [] → joinL z.cps.toList ps = [] := fun ps => by
      match ps with
      | [] => intro _; rfl
      | [x] => intro h; exact h
      | x :: y :: r => intro h; simp [joinL] at h
    exact this _ h1
  · rw [split_toList hx, join_splitL]

theorem joinL_nil : ∀ ps : List (List Nat), joinL [] ps = ps.flatten
  | [] => rfl
  | [x] => by simp [joinL]
  | x :: y :: r => by rw [joinL, joinL_nil (y :: r)]; simp
end Mine
end

section
open PySem PySem.W PyProof.Rows PySem.Calls
set_option maxRecDepth 100000
set_option linter.unusedVariables false
namespace Mine

noncomputable def eAmp : List Nat := [38, 97, 109, 112, 59]
noncomputable def eLt : List Nat := [38, 108, 116, 59]
noncomputable def eGt : List Nat := [38, 103, 116, 59]
noncomputable def eQuot : List Nat := [38, 113, 117, 111, 116, 59]
/-- what the five escapes replace, in their order -/
noncomputable def escs : Nat → List (Nat × List Nat)
  | 0 => [(38, eAmp), (60, eLt), (62, eGt)]
  | 1 => [(38, eAmp), (60, eLt), (62, eGt), (34, eQuot), (13, [38, 35, 49, 51, 59]), (10, [38, 35, 49, 48, 59]), (9, [38, 35, 48, 57, 59])]
  | 2 => [(38, eAmp), (62, eGt), (34, eQuot)]
  | 3 => [(38, eAmp), (60, eLt), (62, eGt), (13, [38, 35, 120, 68, 59])]
  | _ => [(38, eAmp), (60, eLt), (34, eQuot), (9, [38, 35, 120, 57, 59]), (10, [38, 35, 120, 65, 59]), (13, [38, 35, 120, 68, 59])]
noncomputable def writeL (n : Nat) (x : List Nat) : List Nat := (escs n).foldl (fun x p => repl p.1 p.2 x) x

theorem repl_length {c : Nat} {z : List Nat} (hz : z.length ≤ 6) : ∀ x, (repl c z x).length ≤ x.length * 6
  | [] => Nat.le_refl _
  | d :: r => by
    have ih := repl_length (c := c) hz r
    unfold repl at ih ⊢
    rw [List.flatMap_cons, List.length_append, List.length_cons]
    by_cases h : d = c
    · rw [if_pos h]; omega
    · rw [if_neg h]; simp only [List.length_singleton]; omega

section
variable {prog : Program} {w : World} {A : Around} {E : Value → Shared → Prop} {s : Shared} {env : Env} {mg mb : Str → Option Value} {Q : Value → Shared → Prop}

theorem replace_T {x z : List Nat} {c : Nat} {t u v : Tok} (hu : u ≠ 0) (hv : v ≠ 0) (huv : u ≠ v) (hcz : ((⟨#[c]⟩ : Str) == ⟨z.toArray⟩) = false) (hx : x.length ≤ 1048576) (hz : z.length ≤ 14)
    (h : ∀ t' k, Q (T (repl c z x) t') { s with toks := k }) : wpAny (model prog w) A (call (.builtin "str.replace") [T x t, T [c] u, T z v]) Q E s := by
  refine SC.replaceW hu hv huv hcz (by simpa [Str.length] using hx) (by simpa [Str.length] using hz) fun t' k => ?_
  have e : Txt.replace ⟨x.toArray⟩ ⟨#[c]⟩ ⟨z.toArray⟩ = ⟨(repl c z x).toArray⟩ := by
    have := replace_toList ⟨x.toArray⟩ ⟨z.toArray⟩ c
    generalize Txt.replace ⟨x.toArray⟩ ⟨#[c]⟩ ⟨z.toArray⟩ = r at this
    obtain ⟨⟨l⟩⟩ := r
    simp only at this
    rw [this]
  show Q (.str (Txt.replace ⟨x.toArray⟩ ⟨#[c]⟩ ⟨z.toArray⟩) t') _
  rw [e]; exact h t' k

theorem esc_step {g : Heap} {os : List (Addr × Own)} {m : Str → Option Value} {x : List Nat} {t : Tok} (c : Nat) (z : List Nat) {cs c1 z1 : Str} {k1 k2 k3 : Nat} {p1 p2 p3 p4 p5 p6 p7 p8 p9 p10 p11 : Pos}
    (F : Fm g ((env.locals, .ns m) :: os) s.heap) (hm : m "text" = some (T x t)) (htk : 1 ≤ s.toks) (hx : x.length ≤ 1048576) (hz : z.length ≤ 14 := by decide) (hcz : ((⟨#[c]⟩ : Str) == ⟨z.toArray⟩) = false := by decide)
    (h1 : cs = ⟨[c].toArray⟩ := by decide +kernel) (h2 : c1 = ⟨[c].toArray⟩ := by decide +kernel) (h3 : z1 = ⟨z.toArray⟩ := by decide +kernel)
    (hk : env.scope.kind = .function := by with_unfolding_all rfl) (hl : env.kindOf "text" = some .local := by with_unfolding_all rfl)
    (hline : (p6.endLine == p9.line) = true := by rfl)
    (hsw : swapsWith (.Call (.Attribute (.Name "text" p5) "replace" p6) [.Constant (.str c1) k2 p7, .Constant (.str z1) k3 p8] [] p9) (some (.Name "text" p4)) p10.line env = pure false := by with_unfolding_all rfl)
    (hbase : attributeBase (.Name "text" p5) "replace" env (eval (.Name "text" p5) env) = eval (.Name "text" p5) env := by with_unfolding_all rfl) :
    wpAny (model prog w) A (exec (.If (.Compare (.Constant (.str cs) k1 p1) [.In] [.Name "text" p2] p3) [.Assign [.Name "text" p4] (.Call (.Attribute (.Name "text" p5) "replace" p6) [.Constant (.str c1) k2 p7, .Constant (.str z1) k3 p8] [] p9) p10] [] p11) env)
      (fun f s' => f = .next ∧ ∃ h' tk m' t', s' = { s with heap := h', toks := tk } ∧ 1 ≤ tk ∧ Fm g ((env.locals, .ns m') :: os) h' ∧ m' "text" = some (T (repl c z x) t')) E s := by
  refine wpAny_mono (wpAny_toks_of (n := 1) (Q := fun f s' => f = .next ∧ ∃ h' tk m' t', s' = { s with heap := h', toks := tk } ∧ Fm g ((env.locals, .ns m') :: os) h' ∧ m' "text" = some (T (repl c z x) t')) htk ?_) (fun f s' h => ?_) fun _ _ e => e.2
  · refine wpAny_If <| wpAny_isTrue_Compare1 <| const_T [c] (he := h1) <| ldF F hm (hk := hk) (hl := hl) <| in_T <| wpAny_truthy_bool ?_
    by_cases hc : c ∈ x
    · rw [if_pos (by simpa using hc)]
      refine wpAny_execs_cons <| wpAny_Assign_Name (hs := hsw) <| wpAny_Call_method2_late hbase hline rfl <| ldF F hm (hk := hk) (hl := hl) ⟨_, _, _root_.PySem.F.plainAttrs_str, _root_.PySem.F.slot_str_replace, _root_.PySem.F.type_str_replace, typeIs_str _ _ _, (fun _ e => nomatch e),
        callWith_builtin rfl <| evalArgs_plain <| spliced_cons <| const_T [c] (he := h2) <| spliced_cons <| const_T z (he := h3) <| spliced_nil ?_⟩
      refine replace_T (by show s.toks + 1 ≠ 0; omega) (by show s.toks + 1 + 1 ≠ 0; omega) (by show s.toks + 1 ≠ s.toks + 1 + 1; omega) hcz hx hz fun t' k => ?_
      exact stF F (fun h' F' => wpAny_execs_nil ⟨rfl, h', _, _, t', rfl, F', by simp⟩) hk hl
    · rw [if_neg (by simpa using hc)]
      exact wpAny_execs_nil ⟨rfl, s.heap, _, m, t, rfl, F, by rw [repl_none hc]; exact hm⟩
  · obtain ⟨htk', rfl, h', tk, m', t', rfl, F', hm'⟩ := h
    exact ⟨rfl, h', tk, m', t', rfl, htk', F', hm'⟩

set_option maxHeartbeats 4000000 in
theorem esc0_ok {f : Addr} {k : Nat} {t : Tok} {x : List Nat} (R : Rm A (k + 1)) (hfn : FnAt s.heap f (defAt 17)) (G : Gl mg mb s.heap) (hx : x.length ≤ 5)
    (hQ : ∀ t' h' tk, Sub s.heap h' → Q (T (writeL 0 x) t') { s with heap := h', toks := tk }) : wpAny (model prog w) A (call (.ref f) [T x t]) Q E s := by
  refine enterT [("text", T x t)] [] R hfn G.nolimit (fun p hp => nomatch hp) ?_
  intro g h₁ cd tk A' R' F hgk _ htk
  replace F : Fm g [(s.heap.objs.size, .ns _)] h₁ := F
  have hb : bodyOf (defAt 17) = bodyOf (defAt 17) := rfl
  conv at hb => rhs; whnf
  rw [hb]; clear hb
  have htk0 : 1 ≤ tk := by rw [htk]; show 1 ≤ s.toks + 1; omega
  clear htk
  refine wpAny_execs_cons <| wpAny_Try_except <| wpAny_mono (Q := fun f s' => match f with | .ret v => Q v s' | _ => False) (E := fun _ _ => False) ?_ (fun f s' h => ?_) (fun _ _ e => e.elim)
  rotate_left
  · cases f <;> first | exact h.elim | exact h
  have b0 : x.length ≤ 1048576 := by omega
  have l0 : x.length ≤ 5 := hx
  refine seq_mid _ (esc_step (t := t) 38 eAmp F (by rfl) htk0 b0) ?_
  rintro s1 ⟨h1, k1, m1, t1, rfl, w1, F1, e1⟩
  have l1 : (repl 38 eAmp x).length ≤ 30 := Nat.le_trans (repl_length (by decide) _) (by omega)
  have b1 : (repl 38 eAmp x).length ≤ 1048576 := by omega
  refine seq_mid _ (esc_step (t := t1) 60 eLt F1 e1 w1 b1) ?_
  rintro s2 ⟨h2, k2, m2, t2, rfl, w2, F2, e2⟩
  have l2 : (repl 60 eLt (repl 38 eAmp x)).length ≤ 180 := Nat.le_trans (repl_length (by decide) _) (by omega)
  have b2 : (repl 60 eLt (repl 38 eAmp x)).length ≤ 1048576 := by omega
  refine seq_mid _ (esc_step (t := t2) 62 eGt F2 e2 w2 b2) ?_
  rintro s3 ⟨h3, k3, m3, t3, rfl, w3, F3, e3⟩
  refine wpAny_execs_cons <| wpAny_Return_some <| ldF F3 e3 ?_
  exact hQ t3 h3 _ fun b o e => F3.keep b o (hgk b o (by simp) e)

set_option maxHeartbeats 4000000 in
theorem esc1_ok {f : Addr} {k : Nat} {t : Tok} {x : List Nat} (R : Rm A (k + 1)) (hfn : FnAt s.heap f (defAt 18)) (G : Gl mg mb s.heap) (hx : x.length ≤ 5)
    (hQ : ∀ t' h' tk, Sub s.heap h' → Q (T (writeL 1 x) t') { s with heap := h', toks := tk }) : wpAny (model prog w) A (call (.ref f) [T x t]) Q E s := by
  refine enterT [("text", T x t)] [] R hfn G.nolimit (fun p hp => nomatch hp) ?_
  intro g h₁ cd tk A' R' F hgk _ htk
  replace F : Fm g [(s.heap.objs.size, .ns _)] h₁ := F
  have hb : bodyOf (defAt 18) = bodyOf (defAt 18) := rfl
  conv at hb => rhs; whnf
  rw [hb]; clear hb
  have htk0 : 1 ≤ tk := by rw [htk]; show 1 ≤ s.toks + 1; omega
  clear htk
  refine wpAny_execs_cons <| wpAny_Try_except <| wpAny_mono (Q := fun f s' => match f with | .ret v => Q v s' | _ => False) (E := fun _ _ => False) ?_ (fun f s' h => ?_) (fun _ _ e => e.elim)
  rotate_left
  · cases f <;> first | exact h.elim | exact h
  have b0 : x.length ≤ 1048576 := by omega
  have l0 : x.length ≤ 5 := hx
  refine seq_mid _ (esc_step (t := t) 38 eAmp F (by rfl) htk0 b0) ?_
  rintro s1 ⟨h1, k1, m1, t1, rfl, w1, F1, e1⟩
  have l1 : (repl 38 eAmp x).length ≤ 30 := Nat.le_trans (repl_length (by decide) _) (by omega)
  have b1 : (repl 38 eAmp x).length ≤ 1048576 := by omega
  refine seq_mid _ (esc_step (t := t1) 60 eLt F1 e1 w1 b1) ?_
  rintro s2 ⟨h2, k2, m2, t2, rfl, w2, F2, e2⟩
  have l2 : (repl 60 eLt (repl 38 eAmp x)).length ≤ 180 := Nat.le_trans (repl_length (by decide) _) (by omega)
  have b2 : (repl 60 eLt (repl 38 eAmp x)).length ≤ 1048576 := by omega
  refine seq_mid _ (esc_step (t := t2) 62 eGt F2 e2 w2 b2) ?_
  rintro s3 ⟨h3, k3, m3, t3, rfl, w3, F3, e3⟩
  have l3 : (repl 62 eGt (repl 60 eLt (repl 38 eAmp x))).length ≤ 1080 := Nat.le_trans (repl_length (by decide) _) (by omega)
  have b3 : (repl 62 eGt (repl 60 eLt (repl 38 eAmp x))).length ≤ 1048576 := by omega
  refine seq_mid _ (esc_step (t := t3) 34 eQuot F3 e3 w3 b3) ?_
  rintro s4 ⟨h4, k4, m4, t4, rfl, w4, F4, e4⟩
  have l4 : (repl 34 eQuot (repl 62 eGt (repl 60 eLt (repl 38 eAmp x)))).length ≤ 6480 := Nat.le_trans (repl_length (by decide) _) (by omega)
  have b4 : (repl 34 eQuot (repl 62 eGt (repl 60 eLt (repl 38 eAmp x)))).length ≤ 1048576 := by omega
  refine seq_mid _ (esc_step (t := t4) 13 [38, 35, 49, 51, 59] F4 e4 w4 b4) ?_
  rintro s5 ⟨h5, k5, m5, t5, rfl, w5, F5, e5⟩
  have l5 : (repl 13 [38, 35, 49, 51, 59] (repl 34 eQuot (repl 62 eGt (repl 60 eLt (repl 38 eAmp x))))).length ≤ 38880 := Nat.le_trans (repl_length (by decide) _) (by omega)
  have b5 : (repl 13 [38, 35, 49, 51, 59] (repl 34 eQuot (repl 62 eGt (repl 60 eLt (repl 38 eAmp x))))).length ≤ 1048576 := by omega
  refine seq_mid _ (esc_step (t := t5) 10 [38, 35, 49, 48, 59] F5 e5 w5 b5) ?_
  rintro s6 ⟨h6, k6, m6, t6, rfl, w6, F6, e6⟩
  have l6 : (repl 10 [38, 35, 49, 48, 59] (repl 13 [38, 35, 49, 51, 59] (repl 34 eQuot (repl 62 eGt (repl 60 eLt (repl 38 eAmp x)))))).length ≤ 233280 := Nat.le_trans (repl_length (by decide) _) (by omega)
  have b6 : (repl 10 [38, 35, 49, 48, 59] (repl 13 [38, 35, 49, 51, 59] (repl 34 eQuot (repl 62 eGt (repl 60 eLt (repl 38 eAmp x)))))).length ≤ 1048576 := by omega
  refine seq_mid _ (esc_step (t := t6) 9 [38, 35, 48, 57, 59] F6 e6 w6 b6) ?_
  rintro s7 ⟨h7, k7, m7, t7, rfl, w7, F7, e7⟩
  refine wpAny_execs_cons <| wpAny_Return_some <| ldF F7 e7 ?_
  exact hQ t7 h7 _ fun b o e => F7.keep b o (hgk b o (by simp) e)

set_option maxHeartbeats 4000000 in
theorem esc2_ok {f : Addr} {k : Nat} {t : Tok} {x : List Nat} (R : Rm A (k + 1)) (hfn : FnAt s.heap f (defAt 19)) (G : Gl mg mb s.heap) (hx : x.length ≤ 5)
    (hQ : ∀ t' h' tk, Sub s.heap h' → Q (T (writeL 2 x) t') { s with heap := h', toks := tk }) : wpAny (model prog w) A (call (.ref f) [T x t]) Q E s := by
  refine enterT [("text", T x t)] [] R hfn G.nolimit (fun p hp => nomatch hp) ?_
  intro g h₁ cd tk A' R' F hgk _ htk
  replace F : Fm g [(s.heap.objs.size, .ns _)] h₁ := F
  have hb : bodyOf (defAt 19) = bodyOf (defAt 19) := rfl
  conv at hb => rhs; whnf
  rw [hb]; clear hb
  have htk0 : 1 ≤ tk := by rw [htk]; show 1 ≤ s.toks + 1; omega
  clear htk
  refine wpAny_execs_cons <| wpAny_Try_except <| wpAny_mono (Q := fun f s' => match f with | .ret v => Q v s' | _ => False) (E := fun _ _ => False) ?_ (fun f s' h => ?_) (fun _ _ e => e.elim)
  rotate_left
  · cases f <;> first | exact h.elim | exact h
  have b0 : x.length ≤ 1048576 := by omega
  have l0 : x.length ≤ 5 := hx
  refine seq_mid _ (esc_step (t := t) 38 eAmp F (by rfl) htk0 b0) ?_
  rintro s1 ⟨h1, k1, m1, t1, rfl, w1, F1, e1⟩
  have l1 : (repl 38 eAmp x).length ≤ 30 := Nat.le_trans (repl_length (by decide) _) (by omega)
  have b1 : (repl 38 eAmp x).length ≤ 1048576 := by omega
  refine seq_mid _ (esc_step (t := t1) 62 eGt F1 e1 w1 b1) ?_
  rintro s2 ⟨h2, k2, m2, t2, rfl, w2, F2, e2⟩
  have l2 : (repl 62 eGt (repl 38 eAmp x)).length ≤ 180 := Nat.le_trans (repl_length (by decide) _) (by omega)
  have b2 : (repl 62 eGt (repl 38 eAmp x)).length ≤ 1048576 := by omega
  refine seq_mid _ (esc_step (t := t2) 34 eQuot F2 e2 w2 b2) ?_
  rintro s3 ⟨h3, k3, m3, t3, rfl, w3, F3, e3⟩
  refine wpAny_execs_cons <| wpAny_Return_some <| ldF F3 e3 ?_
  exact hQ t3 h3 _ fun b o e => F3.keep b o (hgk b o (by simp) e)

set_option maxHeartbeats 4000000 in
theorem esc3_ok {f : Addr} {k : Nat} {t : Tok} {x : List Nat} (R : Rm A (k + 1)) (hfn : FnAt s.heap f (defAt 20)) (G : Gl mg mb s.heap) (hx : x.length ≤ 5)
    (hQ : ∀ t' h' tk, Sub s.heap h' → Q (T (writeL 3 x) t') { s with heap := h', toks := tk }) : wpAny (model prog w) A (call (.ref f) [T x t]) Q E s := by
  refine enterT [("text", T x t)] [] R hfn G.nolimit (fun p hp => nomatch hp) ?_
  intro g h₁ cd tk A' R' F hgk _ htk
  replace F : Fm g [(s.heap.objs.size, .ns _)] h₁ := F
  have hb : bodyOf (defAt 20) = bodyOf (defAt 20) := rfl
  conv at hb => rhs; whnf
  rw [hb]; clear hb
  have htk0 : 1 ≤ tk := by rw [htk]; show 1 ≤ s.toks + 1; omega
  clear htk
  refine wpAny_execs_cons <| wpAny_Try_except <| wpAny_mono (Q := fun f s' => match f with | .ret v => Q v s' | _ => False) (E := fun _ _ => False) ?_ (fun f s' h => ?_) (fun _ _ e => e.elim)
  rotate_left
  · cases f <;> first | exact h.elim | exact h
  have b0 : x.length ≤ 1048576 := by omega
  have l0 : x.length ≤ 5 := hx
  refine seq_mid _ (esc_step (t := t) 38 eAmp F (by rfl) htk0 b0) ?_
  rintro s1 ⟨h1, k1, m1, t1, rfl, w1, F1, e1⟩
  have l1 : (repl 38 eAmp x).length ≤ 30 := Nat.le_trans (repl_length (by decide) _) (by omega)
  have b1 : (repl 38 eAmp x).length ≤ 1048576 := by omega
  refine seq_mid _ (esc_step (t := t1) 60 eLt F1 e1 w1 b1) ?_
  rintro s2 ⟨h2, k2, m2, t2, rfl, w2, F2, e2⟩
  have l2 : (repl 60 eLt (repl 38 eAmp x)).length ≤ 180 := Nat.le_trans (repl_length (by decide) _) (by omega)
  have b2 : (repl 60 eLt (repl 38 eAmp x)).length ≤ 1048576 := by omega
  refine seq_mid _ (esc_step (t := t2) 62 eGt F2 e2 w2 b2) ?_
  rintro s3 ⟨h3, k3, m3, t3, rfl, w3, F3, e3⟩
  have l3 : (repl 62 eGt (repl 60 eLt (repl 38 eAmp x))).length ≤ 1080 := Nat.le_trans (repl_length (by decide) _) (by omega)
  have b3 : (repl 62 eGt (repl 60 eLt (repl 38 eAmp x))).length ≤ 1048576 := by omega
  refine seq_mid _ (esc_step (t := t3) 13 [38, 35, 120, 68, 59] F3 e3 w3 b3) ?_
  rintro s4 ⟨h4, k4, m4, t4, rfl, w4, F4, e4⟩
  refine wpAny_execs_cons <| wpAny_Return_some <| ldF F4 e4 ?_
  exact hQ t4 h4 _ fun b o e => F4.keep b o (hgk b o (by simp) e)

set_option maxHeartbeats 4000000 in
theorem esc4_ok {f : Addr} {k : Nat} {t : Tok} {x : List Nat} (R : Rm A (k + 1)) (hfn : FnAt s.heap f (defAt 21)) (G : Gl mg mb s.heap) (hx : x.length ≤ 5)
    (hQ : ∀ t' h' tk, Sub s.heap h' → Q (T (writeL 4 x) t') { s with heap := h', toks := tk }) : wpAny (model prog w) A (call (.ref f) [T x t]) Q E s := by
  refine enterT [("text", T x t)] [] R hfn G.nolimit (fun p hp => nomatch hp) ?_
  intro g h₁ cd tk A' R' F hgk _ htk
  replace F : Fm g [(s.heap.objs.size, .ns _)] h₁ := F
  have hb : bodyOf (defAt 21) = bodyOf (defAt 21) := rfl
  conv at hb => rhs; whnf
  rw [hb]; clear hb
  have htk0 : 1 ≤ tk := by rw [htk]; show 1 ≤ s.toks + 1; omega
  clear htk
  refine wpAny_execs_cons <| wpAny_Try_except <| wpAny_mono (Q := fun f s' => match f with | .ret v => Q v s' | _ => False) (E := fun _ _ => False) ?_ (fun f s' h => ?_) (fun _ _ e => e.elim)
  rotate_left
  · cases f <;> first | exact h.elim | exact h
  have b0 : x.length ≤ 1048576 := by omega
  have l0 : x.length ≤ 5 := hx
  refine seq_mid _ (esc_step (t := t) 38 eAmp F (by rfl) htk0 b0) ?_
  rintro s1 ⟨h1, k1, m1, t1, rfl, w1, F1, e1⟩
  have l1 : (repl 38 eAmp x).length ≤ 30 := Nat.le_trans (repl_length (by decide) _) (by omega)
  have b1 : (repl 38 eAmp x).length ≤ 1048576 := by omega
  refine seq_mid _ (esc_step (t := t1) 60 eLt F1 e1 w1 b1) ?_
  rintro s2 ⟨h2, k2, m2, t2, rfl, w2, F2, e2⟩
  have l2 : (repl 60 eLt (repl 38 eAmp x)).length ≤ 180 := Nat.le_trans (repl_length (by decide) _) (by omega)
  have b2 : (repl 60 eLt (repl 38 eAmp x)).length ≤ 1048576 := by omega
  refine seq_mid _ (esc_step (t := t2) 34 eQuot F2 e2 w2 b2) ?_
  rintro s3 ⟨h3, k3, m3, t3, rfl, w3, F3, e3⟩
  have l3 : (repl 34 eQuot (repl 60 eLt (repl 38 eAmp x))).length ≤ 1080 := Nat.le_trans (repl_length (by decide) _) (by omega)
  have b3 : (repl 34 eQuot (repl 60 eLt (repl 38 eAmp x))).length ≤ 1048576 := by omega
  refine seq_mid _ (esc_step (t := t3) 9 [38, 35, 120, 57, 59] F3 e3 w3 b3) ?_
  rintro s4 ⟨h4, k4, m4, t4, rfl, w4, F4, e4⟩
  have l4 : (repl 9 [38, 35, 120, 57, 59] (repl 34 eQuot (repl 60 eLt (repl 38 eAmp x)))).length ≤ 6480 := Nat.le_trans (repl_length (by decide) _) (by omega)
  have b4 : (repl 9 [38, 35, 120, 57, 59] (repl 34 eQuot (repl 60 eLt (repl 38 eAmp x)))).length ≤ 1048576 := by omega
  refine seq_mid _ (esc_step (t := t4) 10 [38, 35, 120, 65, 59] F4 e4 w4 b4) ?_
  rintro s5 ⟨h5, k5, m5, t5, rfl, w5, F5, e5⟩
  have l5 : (repl 10 [38, 35, 120, 65, 59] (repl 9 [38, 35, 120, 57, 59] (repl 34 eQuot (repl 60 eLt (repl 38 eAmp x))))).length ≤ 38880 := Nat.le_trans (repl_length (by decide) _) (by omega)
  have b5 : (repl 10 [38, 35, 120, 65, 59] (repl 9 [38, 35, 120, 57, 59] (repl 34 eQuot (repl 60 eLt (repl 38 eAmp x))))).length ≤ 1048576 := by omega
  refine seq_mid _ (esc_step (t := t5) 13 [38, 35, 120, 68, 59] F5 e5 w5 b5) ?_
  rintro s6 ⟨h6, k6, m6, t6, rfl, w6, F6, e6⟩
  refine wpAny_execs_cons <| wpAny_Return_some <| ldF F6 e6 ?_
  exact hQ t6 h6 _ fun b o e => F6.keep b o (hgk b o (by simp) e)
end
end Mine
end

section
open PySem PySem.W PyProof.Rows PySem.Calls
set_option maxRecDepth 100000
set_option linter.unusedVariables false
namespace Mine

theorem txs_strValues : ∀ {vs : List Value} {xs : List (List Nat)}, vs.map tx = xs.map some → ∃ l : List (Str × Tok), strValues l = vs ∧ l.map (·.1) = xs.map fun x => ⟨x.toArray⟩
  | [], [], _ => ⟨[], rfl, rfl⟩
  | [], _ :: _, h => by simp at h
  | _ :: _, [], h => by simp at h
  | v :: vs, x :: xs, h => by
    simp only [List.map_cons, List.cons.injEq] at h
    obtain ⟨t, rfl⟩ := tx_some h.1
    obtain ⟨l, h1, h2⟩ := txs_strValues h.2
    exact ⟨(⟨x.toArray⟩, t) :: l, by rw [← h1]; rfl, by rw [List.map_cons, h2]; rfl⟩

theorem foldl_len0 : ∀ (l : List Str) (a : Nat), l.foldl (fun a x => a + x.length + 0) a = a + (l.map (·.length)).sum
  | [], a => by simp
  | x :: r, a => by rw [List.foldl_cons, foldl_len0 r]; simp only [List.map_cons, List.sum_cons]; omega

inductive StrEs : List Expr → List (List Nat) → Prop
  | nil : StrEs [] []
  | cons {es : List Expr} {ns : List (List Nat)} {x : Str} (l : List Nat) (k : Nat) (p : Pos) (h : x = ⟨l.toArray⟩) : StrEs es ns → StrEs (Expr.Constant (Const.str x) k p :: es) (l :: ns)
inductive PairEs : List (Option Expr) → List Expr → List (List Nat × List Nat) → Prop
  | nil : PairEs [] [] []
  | cons {ks : List (Option Expr)} {vs : List Expr} {tab : List (List Nat × List Nat)} {x y : Str} (a b : List Nat) (k k' : Nat) (p p' : Pos) (hx : x = ⟨a.toArray⟩) (hy : y = ⟨b.toArray⟩) : PairEs ks vs tab →
      PairEs (some (Expr.Constant (Const.str x) k p) :: ks) (Expr.Constant (Const.str y) k' p' :: vs) ((a, b) :: tab)

section
variable {prog : Program} {w : World} {A : Around} {E : Value → Shared → Prop} {s : Shared} {env : Env} {mg mb : Str → Option Value} {Q : Value → Shared → Prop}

theorem args_strs {pos : Pos} {es : List Expr} {ns : List (List Nat)} (h : StrEs es ns) : ∀ {s : Shared} {Q : List Value → Shared → Prop},
    (∀ vs tk, vs.map tx = ns.map some → Q vs { s with toks := tk }) → wpAny (model prog w) A (spliced (backTo pos (starEach es env))) Q E s := by
  induction h with
  | nil => intro s Q hQ; exact args_nil (hQ [] s.toks rfl)
  | cons l k p hx _ ih =>
    intro s Q hQ
    refine args_cons <| const_T l (he := hx) <| ih fun vs tk hv => ?_
    exact hQ (T l s.toks :: vs) tk (by simp only [List.map_cons, hv]; rfl)

theorem join_T {c : Str} {k : Nat} {p ap pos : Pos} {e : Expr}
    (h : wpAny (model prog w) A (eval e env) (fun v s₁ => ∃ D vs xs, v = .ref D ∧ s₁.heap.IsList D vs ∧ Txs vs xs ∧ (xs.map (·.length)).sum ≤ 1000000 ∧ ∀ t' k, Q (T xs.flatten t') { s₁ with toks := k }) E { s with toks := s.toks + 1 })
    (hc : c = ⟨([] : List Nat).toArray⟩ := by decide +kernel)
    (hbase : attributeBase (.Constant (.str c) k p) "join" env (eval (.Constant (.str c) k p) env) = eval (.Constant (.str c) k p) env := by with_unfolding_all rfl)
    (hs : starEach [e] env = [(false, eval e env)] := by with_unfolding_all rfl) (hline : (ap.endLine == pos.line) = true := by rfl) :
    wpAny (model prog w) A (eval (.Call (.Attribute (.Constant (.str c) k p) "join" ap) [e] [] pos) env) Q E s := by
  refine Call_method1 hbase hs hline <| const_T [] (he := hc) <| SB.join <| wpAny_mono h (fun v s₁ h₁ => ?_) fun _ _ e => e
  obtain ⟨D, vs, xs, rfl, hl, hx, hsz, hq⟩ := h₁
  obtain ⟨l, h1, h2⟩ := txs_strValues hx
  refine ⟨D, l, rfl, ?_, xs.map fun x => ⟨x.toArray⟩, h2, ?_, fun t' k' => ?_⟩
  · rw [h1]; exact hl
  · unfold JoinOk
    rw [Bool.not_eq_true']
    unfold Builtin.Str.tooLong
    rw [List.foldl_toArray]
    have e1 : (⟨([] : List Nat).toArray⟩ : Str).length = 0 := rfl
    rw [e1, foldl_len0]
    have e2 : ((xs.map fun x => (⟨x.toArray⟩ : Str)).map (·.length)) = xs.map (·.length) := by
      rw [List.map_map]; apply List.map_congr_left; intro x _; simp [Str.length]
    rw [e2]
    exact decide_eq_false (by rw [sizeLine_eq]; omega)
  · have e : Txt.join ⟨([] : List Nat).toArray⟩ (xs.map fun x => ⟨x.toArray⟩) = ⟨xs.flatten.toArray⟩ := by
      show Builtin.Str.glued _ _ = _
      rw [StrLaws.glued_eq_join]
      have h3 := joinL_toList ⟨([] : List Nat).toArray⟩ (xs.map fun x => ⟨x.toArray⟩)
      rw [List.map_map] at h3
      have h4 : xs.map ((fun x : Str => x.cps.toList) ∘ fun x : List Nat => (⟨x.toArray⟩ : Str)) = xs := by
        conv => rhs; rw [← List.map_id xs]
        apply List.map_congr_left; intro x _; rfl
      rw [h4] at h3
      rw [show (⟨([] : List Nat).toArray⟩ : Str).cps.toList = [] from rfl, joinL_nil] at h3
      generalize Str.join _ _ = r at h3
      obtain ⟨⟨r⟩⟩ := r
      simp only at h3
      rw [h3]
    show Q (.str (Txt.join ⟨([] : List Nat).toArray⟩ (xs.map fun x => ⟨x.toArray⟩)) t') _
    rw [e]; exact hq t' k'

theorem pair_shape {pos : Pos} {ks : List (Option Expr)} {vs : List Expr} {tab : List (List Nat × List Nat)} (h : PairEs ks vs tab) :
    ∃ pairs : List (Sem Value × Sem Value), (evalEachOpt ks env).zip ((evalEach vs env).map fun v => do let x ← v; standAt pos; pure x) = pairs.map (fun p => (some p.1, p.2)) ∧ pairs.length = tab.length ∧
      ∀ {s : Shared} {Q : List (Value × Value) → Shared → Prop}, (∀ l tk, l.map (fun p => (tx p.1, tx p.2)) = tab.map (fun p => (some p.1, some p.2)) → Q l { s with toks := tk }) → wpAny (model prog w) A (evalPairs pairs) Q E s := by
  induction h with
  | nil => exact ⟨[], rfl, rfl, fun hQ => evalPairs_nil (hQ [] _ rfl)⟩
  | @cons ks vs tab x y a b k k' p p' hx hy _ ih =>
    obtain ⟨pairs, h1, h2, h3⟩ := ih
    refine ⟨(eval (.Constant (.str x) k p) env, do let x ← eval (.Constant (.str y) k' p') env; standAt pos; pure x) :: pairs, ?_, by simp [h2], fun {s Q} hQ => ?_⟩
    · simp only [evalEachOpt, evalEach, List.map_cons, List.zip_cons_cons, h1]; rfl
    · refine evalPairs_cons <| const_T a (he := hx) <| wpAny_bind <| const_T b (he := hy) <| wpAny_bind <| wpAny_standAt <| wpAny_pure <| h3 fun l tk hl => ?_
      exact hQ ((T a s.toks, T b (s.toks + 1)) :: l) tk (by simp only [List.map_cons, hl]; rfl)

/-- a dict of written texts -/
theorem dict_strs {ks : List (Option Expr)} {vs : List Expr} {tab : List (List Nat × List Nat)} {pos : Pos} (hp : PairEs ks vs tab) (h0 : tab ≠ []) (hlen : tab.length ≤ 15) (hnd : (tab.map (·.1)).Nodup)
    (hQ : ∀ D o h' tk, Sub s.heap h' → s.heap.get? D = none → h'.get? D = some o →
      (∀ h : Heap, h.get? D = some o → ∃ f, h.MapOf (strKind prog w) D f ∧ ∀ a b, (a, b) ∈ tab → ∃ t, f ⟨a.toArray⟩ = some (T b t)) → Q (.ref D) { s with heap := h', toks := tk }) :
    wpAny (model prog w) A (eval (.Dict ks vs pos) env) Q E s := by
  obtain ⟨pairs, h1, h2, h3⟩ := pair_shape (prog := prog) (w := w) (A := A) (E := E) (env := env) (pos := pos) hp
  refine wpAny_Dict_pairs (knd := strKind prog w) h1 (fun e => h0 (List.eq_nil_of_length_eq_zero (by rw [← h2, e]; rfl))) (by omega) <| h3 fun l tk hl => ?_
  have hc : ∀ (l : List (Value × Value)) (tab : List (List Nat × List Nat)), l.map (fun p => (tx p.1, tx p.2)) = tab.map (fun p => (some p.1, some p.2)) →
      ∃ kvs : List (Str × Value), Carries (strKind prog w) l kvs ∧ kvs.map (·.1) = tab.map (fun p => ⟨p.1.toArray⟩) ∧ ∀ a b, (a, b) ∈ tab → ∃ t, ((⟨a.toArray⟩ : Str), T b t) ∈ kvs := by
    intro l
    induction l with
    | nil =>
      intro tab h
      cases tab with
      | nil => exact ⟨[], trivial, rfl, fun _ _ h => nomatch h⟩
      | cons x r => simp at h
    | cons p r ih =>
      intro tab h
      cases tab with
      | nil => simp at h
      | cons x tr =>
        obtain ⟨key, v⟩ := p
        obtain ⟨a, b⟩ := x
        simp only [List.map_cons, List.cons.injEq, Prod.mk.injEq] at h
        obtain ⟨⟨ha, hb⟩, hr⟩ := h
        obtain ⟨t, rfl⟩ := tx_some ha
        obtain ⟨u, rfl⟩ := tx_some hb
        obtain ⟨kvs, c1, c2, c3⟩ := ih tr hr
        refine ⟨(⟨a.toArray⟩, T b u) :: kvs, ⟨strKind_is _ _ _ _, rfl, c1⟩, by rw [List.map_cons, c2]; rfl, fun a' b' hm => ?_⟩
        rcases List.mem_cons.mp hm with e | hm
        · cases e; exact ⟨u, .head _⟩
        · obtain ⟨t', ht'⟩ := c3 a' b' hm; exact ⟨t', .tail _ ht'⟩
  obtain ⟨kvs, c1, c2, c3⟩ := hc l tab hl
  have hn : (kvs.map (·.1)).Nodup := by
    rw [c2]
    have : (tab.map fun p => (⟨p.1.toArray⟩ : Str)) = (tab.map (·.1)).map fun a => ⟨a.toArray⟩ := by rw [List.map_map]; rfl
    rw [this]
    refine List.Pairwise.map _ (fun x y (hne : x ≠ y) h => hne ?_) hnd
    simpa using h
  refine ⟨kvs, c1, Heap.DictOf.new _, fun h' hd hs => ?_⟩
  rw [merged_nil_of_nodup kvs hn] at hd
  obtain ⟨o, es, ep, ho, r⟩ := id hd
  refine hQ _ o h' _ (fun b x e => (hs.2 b (Nat.ne_of_lt (Heap.lt_size e))).trans (sub_push b x e)) (fresh_size _) ho fun h hD => ?_
  have hd' : h.DictOf (strKind prog w) s.heap.objs.size kvs := ⟨o, es, ep, hD, r⟩
  refine ⟨_, hd'.mapOf, fun a b hm => ?_⟩
  obtain ⟨t, ht⟩ := c3 a b hm
  refine ⟨t, ?_⟩
  unfold valueAt
  have key : ∀ (kvs : List (Str × Value)), (kvs.map (·.1)).Nodup → ∀ k v, (k, v) ∈ kvs → (kvs.find? fun kv => decide (kv.1 = k)) = some (k, v) := by
    intro kvs
    induction kvs with
    | nil => intro _ k v h; cases h
    | cons p r ih =>
      intro hn k v hm
      obtain ⟨h1, h2⟩ := List.nodup_cons.mp hn
      rcases List.mem_cons.mp hm with e | hm
      · subst e; simp
      · have hne : p.1 ≠ k := fun e => h1 (by have := List.mem_map_of_mem (f := (·.1)) hm; rw [← e] at this; exact this)
        rw [List.find?_cons, decide_eq_false hne]
        exact ih h2 k v hm
  rw [key kvs hn _ _ ht]; rfl
end
end Mine
end

section
open PySem PySem.W PyProof.Rows PySem.Calls
set_option maxRecDepth 100000
set_option linter.unusedVariables false
namespace Mine

noncomputable def wtab : Nat → List Nat
  | 0 => [38, 60, 62]
  | 1 => [38, 60, 62, 34, 13, 10, 9]
  | 2 => [38, 62, 34]
  | 3 => [38, 60, 62, 13]
  | _ => [38, 60, 34, 9, 10, 13]
noncomputable def nameTab (n : Nat) : List (List Nat × List Nat) :=
  if n ≤ 2 then [([38], [97, 109, 112]), ([60], [108, 116]), ([62], [103, 116]), ([34], [113, 117, 111, 116]), ([13], [35, 49, 51]), ([10], [35, 49, 48]), ([9], [35, 48, 57])]
  else [([38], [97, 109, 112]), ([60], [108, 116]), ([62], [103, 116]), ([34], [113, 117, 111, 116]), ([13], [35, 120, 68]), ([10], [35, 120, 65]), ([9], [35, 120, 57])]
noncomputable def nm (n c : Nat) : List Nat := ((nameTab n).lookup [c]).getD []
noncomputable def code (n c : Nat) : List Nat := if c ∈ wtab n then 38 :: nm n c ++ [59] else [c]
noncomputable def spelledL (n : Nat) (x : List Nat) : List Nat := x.flatMap (code n)

theorem nm_mem {n c : Nat} (h : c ∈ wtab n) : ([c], nm n c) ∈ nameTab n := by
  have key : ∀ c ∈ [38, 60, 62, 34, 13, 10, 9], ([c], nm n c) ∈ nameTab n := by
    unfold nm nameTab
    by_cases hn : n ≤ 2
    · rw [if_pos hn]; decide
    · rw [if_neg hn]; decide
  apply key
  have : ∀ m, ∀ c ∈ wtab m, c ∈ [38, 60, 62, 34, 13, 10, 9] := fun m => by
    match m with
    | 0 => decide
    | 1 => decide
    | 2 => decide
    | 3 => decide
    | k + 4 => show ∀ c ∈ [38, 60, 34, 9, 10, 13], _; decide
  exact this n c h
theorem nm_len (n c : Nat) : (nm n c).length ≤ 4 := by
  unfold nm
  cases h : (nameTab n).lookup [c] with
  | none => simp
  | some b =>
    have hm : b ∈ (nameTab n).map (·.2) := by
      have : ∀ (l : List (List Nat × List Nat)), l.lookup [c] = some b → b ∈ l.map (·.2) := fun l => by
        induction l with
        | nil => intro h; cases h
        | cons p r ih =>
          intro h
          rw [List.lookup_cons] at h
          split at h
          · cases h; exact .head _
          · exact .tail _ (ih h)
      exact this _ h
    have hall : ∀ b ∈ (nameTab n).map (·.2), b.length ≤ 4 := by
      unfold nameTab
      by_cases hn : n ≤ 2
      · rw [if_pos hn]; decide
      · rw [if_neg hn]; decide
    exact hall b hm
theorem code_len (n c : Nat) : (code n c).length ≤ 6 := by
  have := nm_len n c
  unfold code; split <;> simp <;> omega
theorem spelled_len (n : Nat) : ∀ x, (spelledL n x).length ≤ 6 * x.length
  | [] => Nat.le_refl _
  | c :: r => by
    have h1 := spelled_len n r
    have h2 := code_len n c
    unfold spelledL at h1 ⊢
    rw [List.flatMap_cons, List.length_append, List.length_cons]; omega

section
variable {prog : Program} {w : World} {A : Around} {E : Value → Shared → Prop} {s : Shared} {mg mb : Str → Option Value} {Q : Value → Shared → Prop}

set_option maxHeartbeats 4000000 in
theorem spelled_ok {f : Addr} {k n : Nat} {t u : Tok} {x : List Nat}
    (R : Rm A (k + 1)) (hfn : FnAt s.heap f (defAt 24)) (G : Gl mg mb s.heap) (hn : n < 5) (hx : x.length ≤ 1000)
    (hQ : ∀ t' h' tk, Sub s.heap h' → Q (T (spelledL n x) t') { s with heap := h', toks := tk }) :
    wpAny (model prog w) A (call (.ref f) [T x t, .int n u]) Q E s := by
  refine enterC (k := k) [("text", T x t), ("number", .int n u)] (fun L => [("names", L + 1 + 1), ("written", L + 1)]) (fun _ => none) (fun z => if z = "number" then some (.int n u) else if z = "text" then some (T x t) else none) R hfn G.nolimit ?_
    (hlook := fun L p hp => by simp only [List.mem_cons, List.not_mem_nil, or_false] at hp; rcases hp with rfl | rfl <;> rfl)
    (hkind := fun L p hp => by
      simp only [List.mem_cons, List.not_mem_nil, or_false] at hp
      rcases hp with rfl | rfl
      · exact .inl (by with_unfolding_all rfl)
      · exact .inl (by with_unfolding_all rfl))
  intro h₁ cd tk A' R' F
  replace F : Fm s.heap [(s.heap.objs.size, .ns _), (s.heap.objs.size + 1 + 1, .cell none), (s.heap.objs.size + 1, .cell none)] h₁ := F
  have hb : bodyOf (defAt 24) = bodyOf (defAt 24) := rfl
  conv at hb => rhs; whnf
  rw [hb]; clear hb
  generalize s.heap.objs.size = L at F ⊢
  refine wpAny_execs_cons ?_
  refine wpAny_Assign_Name ?_ ?_
  rotate_left
  · with_unfolding_all rfl
  refine Subscript_ ?_
  refine wpAny_List ?_
  refine args_strs (ns := [[38, 60, 62], [38, 60, 62, 34, 13, 10, 9], [38, 62, 34], [38, 60, 62, 13], [38, 60, 34, 9, 10, 13]]) ?_ ?_
  · repeat (first | exact StrEs.nil | refine StrEs.cons _ _ _ (by decide +kernel) ?_)
  refine fun ovs tk₂ ho => ?_
  have hol : ovs.length = 5 := by have := congrArg List.length ho; simpa using this
  refine ⟨by rw [sizeLine_eq]; omega, ?_⟩
  have F₂ := F.pushList ovs.toArray
  have hX : Txs ovs.toArray [[38, 60, 62], [38, 60, 62, 34, 13, 10, 9], [38, 62, 34], [38, 60, 62, 13], [38, 60, 34, 9, 10, 13]] := ho
  obtain ⟨t3, ht3⟩ := hX.get (i := n) hn
  have hw : ([[38, 60, 62], [38, 60, 62, 34, 13, 10, 9], [38, 62, 34], [38, 60, 62, 13], [38, 60, 34, 9, 10, 13]] : List (List Nat)).getD n [] = wtab n := by
    match n, hn with
    | 0, _ => rfl
    | 1, _ => rfl
    | 2, _ => rfl
    | 3, _ => rfl
    | 4, _ => rfl
  rw [hw] at ht3
  have F₂' : Fm s.heap [(L, .ns _), (L + 1 + 1, .cell none), (L + 1, .cell none)] _ := F₂.drop
  refine ldF F₂' (by rfl) <| sub_listN (F₂.lst 0 rfl) (by omega) ht3 <| stC2 F₂' fun h₃ F₃ => ?_
  clear F F₂ F₂' hw hX ho ht3
  refine wpAny_execs_cons ?_
  refine wpAny_Assign_Name ?_ ?_
  rotate_left
  · with_unfolding_all rfl
  refine dict_strs (tab := nameTab 0) ?_ ?_ ?_ ?_ ?_
  · repeat (first | exact PairEs.nil | refine PairEs.cons _ _ _ _ _ _ (by decide +kernel) (by decide +kernel) ?_)
  · decide
  · decide
  · decide
  refine fun D o h₄ tk₄ k₄ hD ho hf => ?_
  have F₄ := F₃.cons (o := .obj o) k₄ hD ho
  refine stC2 F₄.swap fun h₅ F₅ => ?_
  refine seq_mid (fun s' => ∃ h tk m D o, s' = { s with heap := h, toks := tk } ∧ Fm s.heap [(L, .ns m), (D, .obj o), (L + 1 + 1, .cell (some (.ref D))), (L + 1, .cell (some (T (wtab n) t3)))] h ∧ m "text" = some (T x t) ∧
    ∀ h : Heap, h.get? D = some o → ∃ f, h.MapOf (strKind prog w) D f ∧ ∀ a b, (a, b) ∈ nameTab n → ∃ t, f ⟨a.toArray⟩ = some (T b t)) ?_ ?_
  · refine wpAny_If <| wpAny_isTrue_Compare1 <| ldF F₅ (by rfl) <| wpAny_Constant_int <| gt_int <| wpAny_truthy_bool ?_
    by_cases h2 : 2 < n
    · rw [if_pos (by simp; omega)]
      refine wpAny_execs_cons ?_
      refine wpAny_Assign_Name ?_ ?_
      rotate_left
      · with_unfolding_all rfl
      refine dict_strs (tab := nameTab 3) ?_ ?_ ?_ ?_ ?_
      · repeat (first | exact PairEs.nil | refine PairEs.cons _ _ _ _ _ _ (by decide +kernel) (by decide +kernel) ?_)
      · decide
      · decide
      · decide
      refine fun D' o' h₆ tk₆ k₆ hD' ho' hf' => ?_
      have F₆ : Fm s.heap [(D', .obj o'), (L, .ns _), (L + 1 + 1, .cell (some (.ref D))), (L + 1, .cell (some (T (wtab n) t3)))] h₆ := F₅.swap.drop.cons (o := .obj o') k₆ hD' ho'
      refine stC2 F₆.swap fun h₇ F₇ => ?_
      refine wpAny_execs_nil ⟨rfl, h₇, _, _, D', o', rfl, F₇, rfl, ?_⟩
      have e : nameTab n = nameTab 3 := by unfold nameTab; rw [if_neg (by omega), if_neg (by omega)]
      rw [e]; exact hf'
    · rw [if_neg (by simp; omega)]
      refine wpAny_execs_nil ⟨rfl, h₅, _, _, D, o, rfl, F₅, rfl, ?_⟩
      have e : nameTab n = nameTab 0 := by unfold nameTab; rw [if_pos (by omega), if_pos (by omega)]
      rw [e]; exact hf
  rintro s' ⟨h, tk, m, D, o, rfl, F, hm, hf⟩
  refine wpAny_execs_cons <| wpAny_Return_some <| join_T ?_
  refine comp_map (α := List Nat) tx [("written", L + 1), ("names", L + 1 + 1)] R'.handled <| ldF F hm ?_
  refine ⟨x.length, _, fun i => code n (x.getD i 0), Src.str (x := ⟨x.toArray⟩) (Sub.refl _), by rw [sizeLine_eq]; omega, ?_, ?_⟩
  · rintro i v C m s' g E' hi ⟨c, u', hc, rfl⟩ hs F' hm
    have hci : x[i]? = some c := by simpa using hc
    have hcd : x.getD i 0 = c := by rw [List.getD_eq_getElem?_getD, hci]; rfl
    have S : Sub h s'.heap := hs.trans F'.keep
    have cw : s'.heap.IsCell (L + 1) (some (T (wtab n) t3)) := cellK (F.get 3 rfl) S
    have cn : s'.heap.IsCell (L + 1 + 1) (some (.ref D)) := cellK (F.get 2 rfl) S
    refine wpAny_IfExp <| wpAny_isTrue_Compare1 <| ldF F' hm <| ldC cw <| in_T (c := c) <| wpAny_truthy_bool ?_
    by_cases hcw : c ∈ wtab n
    · rw [if_pos (by simpa using hcw)]
      obtain ⟨f', hmap, hall⟩ := hf s'.heap (S _ _ (F.get 1 rfl))
      obtain ⟨t5, ht5⟩ := hall _ _ (nm_mem hcw)
      refine wpAny_BinOp <| wpAny_BinOp <| const_T [38] ?_
      refine Subscript_ <| ldC cn <| ldF F' hm ?_
      refine tail_any hmap.typeIs slot_dict_getitem.lookup (wpAny_getItem_of (knd := strKind prog w) (strKind_is _ _ _ _) hmap ht5 ?_) (by with_unfolding_all rfl)
      have hl := nm_len n c
      refine add_T (by simp; omega) fun t6 k6 => const_T [59] <| add_T (by simp; omega) fun t7 k7 => ⟨?_, _, _, rfl, Sub.refl _⟩
      show some _ = some (code n (x.getD i 0))
      rw [hcd]; unfold code; rw [if_pos hcw]; rfl
    · rw [if_neg (by simpa using hcw)]
      refine ldF F' hm ⟨?_, _, _, rfl, Sub.refl _⟩
      show some _ = some (code n (x.getD i 0))
      rw [hcd]; unfold code; rw [if_neg hcw]
  · intro r ys h₂ tk₂ hV k₂ hl₂ hr
    have e : (List.range x.length).map (fun i => code n (x.getD i 0)) = x.map (code n) := by
      apply List.ext_getElem
      · simp
      · intro i h1 h2
        simp only [List.length_map, List.length_range] at h1
        simp [h1]
    rw [e] at hV
    refine ⟨r, List.toArray ys, x.map (code n), rfl, hl₂.isList, hV, ?_, fun t' k' => ?_⟩
    · have : ∀ x : List Nat, ((x.map (code n)).map (·.length)).sum ≤ 6 * x.length := fun x => by
        induction x with
        | nil => exact Nat.le_refl _
        | cons c r ih => have := code_len n c; simp only [List.map_cons, List.sum_cons, List.length_cons]; omega
      have := this x; omega
    · have := hQ t' h₂ k' (F.keep.trans k₂)
      unfold spelledL at this
      rw [List.flatMap_def] at this
      exact this
end
end Mine
end

section
open PySem PySem.W PyProof.Rows PySem.Calls PySem.Builtin PySem.Builtin.Str
set_option maxRecDepth 100000
set_option linter.unusedVariables false
namespace Mine
section
variable {prog : Program} {w : World} {A : Around} {E : Value → Shared → Prop} {s : Shared} {env : Env} {mg mb : Str → Option Value} {Q : Value → Shared → Prop}

theorem strValues_tx : ∀ (l : List (Str × Tok)), (strValues l).map tx = (l.map fun p => p.1.cps.toList).map some
  | [] => rfl
  | p :: r => by
    have ih := strValues_tx r
    unfold strValues at ih ⊢
    simp only [List.map_cons, ih]; rfl

theorem split_call {x : List Nat} {c : Nat} {t u : Tok} (hx : x ≠ []) (hsz : x.length ≤ 100000)
    (h : ∀ vs h' k, Txs vs (splitL c x) → Sub s.heap h' → h'.PlainList s.heap.objs.size vs → Q (.ref s.heap.objs.size) { s with heap := h', toks := k }) :
    wpAny (model prog w) A (call (.builtin "str.split") [T x t, T [c] u]) Q E s := by
  have hsp : ∀ l : List (Str × Tok), l.map (·.1) = Txt.split ⟨x.toArray⟩ ⟨#[c]⟩ → ∀ k, Q (.ref s.heap.objs.size) { s with heap := s.heap.push { cls := .type "list", data := .seq (strValues l).toArray }, toks := k } := fun l hl k => by
    refine h _ _ k ?_ sub_push ⟨_, Heap.get?_push_size _ rfl⟩
    show (strValues l).map tx = _
    rw [strValues_tx]
    congr 1
    have := split_toList (x := ⟨x.toArray⟩) (c := c) hx
    rw [← this, ← hl, List.map_map]; rfl
  have hn : (partsBetween ⟨x.toArray⟩ (occurrences ⟨x.toArray⟩ ⟨#[c]⟩ 0 (⟨x.toArray⟩ : Str).length ((⟨x.toArray⟩ : Str).length + 1)) (⟨#[c]⟩ : Str).length).length ≤ sizeLine := by
    have e1 := StrLaws.occ_length_le ⟨x.toArray⟩ ⟨#[c]⟩ 0 (⟨x.toArray⟩ : Str).length ((⟨x.toArray⟩ : Str).length + 1)
    rw [length_partsBetween, sizeLine_eq]
    simp only [Str.length, List.size_toArray] at e1 ⊢; omega
  have hsz' : (⟨x.toArray⟩ : Str).length ≤ sizeLine := by rw [sizeLine_eq]; simp only [Str.length, List.size_toArray]; omega
  cases h1 : (decide ((⟨x.toArray⟩ : Str).length < (⟨#[c]⟩ : Str).length) || decide (Str.strKind ⟨x.toArray⟩ < Str.strKind ⟨#[c]⟩))
  · cases hf : (occurrences ⟨x.toArray⟩ ⟨#[c]⟩ 0 (⟨x.toArray⟩ : Str).length ((⟨x.toArray⟩ : Str).length + 1)).isEmpty
    · refine call_meets F.slot_str_split (typeIs_str _ _ _) F.entry_str_split (F.args_str_split_2 _ _) (meets_str_split_sep _ _ t u h1 rfl hf hsz' hn) ?_
      show wants Q E _ { s with toks := _, heap := s.heap.push { cls := .type "list", data := .seq (strsFrom s.toks _).toArray } }
      rw [strsFrom_eq]
      exact hsp _ ((numbered_texts _ _).trans ((if_neg (ne_true_of_eq_false h1)).trans (if_neg (ne_true_of_eq_false hf))).symm) _
    · exact call_meets F.slot_str_split (typeIs_str _ _ _) F.entry_str_split (F.args_str_split_2 _ _) (meets_str_split_not_found _ _ t u h1 rfl hf)
        (hsp [(⟨x.toArray⟩, t)] ((if_neg (ne_true_of_eq_false h1)).trans (if_pos hf)).symm s.toks)
  · exact call_meets F.slot_str_split (typeIs_str _ _ _) F.entry_str_split (F.args_str_split_2 _ _) (meets_str_split_cannot_occur _ _ t u h1)
      (hsp [(⟨x.toArray⟩, t)] (if_pos h1).symm s.toks)

/-- a method of a text with one text for its argument -/
theorem method1_T {o e : Expr} {name : Str} {id : String} {ap pos : Pos} (slot : Slot "str" name id) (ty : typeOf (.builtin id) = pure (.type "method_descriptor"))
    (h : wpAny (model prog w) A (eval o env) (fun ov s₁ => ∃ x t, ov = T x t ∧ wpAny (model prog w) A (eval e env) (fun v s₂ => wpAny (model prog w) A (call (.builtin id) [T x t, v]) Q E s₂) E s₁) E s)
    (hbase : attributeBase o name env (eval o env) = eval o env := by with_unfolding_all rfl) (hline : (ap.endLine == pos.line) = true := by rfl)
    (htrees : backTo pos (starEach [e] env) = [(false, eval e env)] := by with_unfolding_all rfl) :
    wpAny (model prog w) A (eval (.Call (.Attribute o name ap) [e] [] pos) env) Q E s := by
  refine wpAny_Call_method1_late hbase hline htrees <| wpAny_mono h (fun ov s₁ h₁ => ?_) fun _ _ e => e
  obtain ⟨x, t, rfl, h₁⟩ := h₁
  exact ⟨_, _, _root_.PySem.F.plainAttrs_str, slot, ty, typeIs_str _ _ _, (fun _ e => nomatch e), callWith_builtin rfl <| evalArgs_plain <| spliced_cons <| wpAny_mono h₁ (fun v s₂ h₂ => spliced_nil h₂) fun _ _ e => e⟩

theorem split_T {o e : Expr} {ap pos : Pos} {c : Nat}
    (h : wpAny (model prog w) A (eval o env) (fun ov s₁ => ∃ x t, ov = T x t ∧ wpAny (model prog w) A (eval e env) (fun v s₂ => ∃ u, v = T [c] u ∧ x ≠ [] ∧ x.length ≤ 100000 ∧
      ∀ vs h' k, Txs vs (splitL c x) → Sub s₂.heap h' → h'.PlainList s₂.heap.objs.size vs → Q (.ref s₂.heap.objs.size) { s₂ with heap := h', toks := k }) E s₁) E s)
    (hbase : attributeBase o "split" env (eval o env) = eval o env := by with_unfolding_all rfl) (hline : (ap.endLine == pos.line) = true := by rfl)
    (htrees : backTo pos (starEach [e] env) = [(false, eval e env)] := by with_unfolding_all rfl) :
    wpAny (model prog w) A (eval (.Call (.Attribute o "split" ap) [e] [] pos) env) Q E s := by
  refine method1_T F.slot_str_split F.type_str_split (wpAny_mono h (fun ov s₁ h₁ => ?_) fun _ _ e => e) hbase hline htrees
  obtain ⟨x, t, rfl, h₁⟩ := h₁
  refine ⟨x, t, rfl, wpAny_mono h₁ (fun v s₂ h₂ => ?_) fun _ _ e => e⟩
  obtain ⟨u, rfl, hx, hsz, hq⟩ := h₂
  exact split_call hx hsz hq

/-- where a sign stands first -/
noncomputable def fnd (c : Nat) (x : List Nat) : Int := if c ∈ x then (x.idxOf c : Int) else -1

theorem idxOf_le (c : Nat) : ∀ (x : List Nat) (i : Nat), x[i]? = some c → x.idxOf c ≤ i
  | [], i, h => by simp at h
  | d :: r, 0, h => by
    simp at h; subst h; simp
  | d :: r, i + 1, h => by
    rw [List.idxOf_cons]
    have := idxOf_le c r i (by simpa using h)
    by_cases hd : (d == c) = true
    · simp [hd]
    · simp [hd]; omega

theorem find_is (x : List Nat) (c : Nat) : Txt.find ⟨x.toArray⟩ ⟨#[c]⟩ = fnd c x := by
  have key : ∀ i, StrLaws.At ⟨x.toArray⟩ ⟨#[c]⟩ (⟨x.toArray⟩ : Str).length i ↔ x[i]? = some c := fun i => StrLaws.subAt_one ⟨x.toArray⟩ c i
  unfold fnd
  rcases find_whole ⟨x.toArray⟩ ⟨#[c]⟩ with ⟨h, hn⟩ | ⟨i, h, hi, hn⟩
  · rw [h, if_neg]
    intro hm
    obtain ⟨i, hi⟩ := List.mem_iff_getElem?.mp hm
    exact hn i ((key i).mpr hi)
  · rw [h]
    have hi' := (key i).mp hi
    have hm : c ∈ x := List.mem_iff_getElem?.mpr ⟨i, hi'⟩
    rw [if_pos hm]
    have h1 : x.idxOf c < x.length := List.idxOf_lt_length_iff.mpr hm
    have h2 : x[x.idxOf c]? = some c := by
      rw [List.getElem?_eq_getElem h1, List.getElem_idxOf]
    have h3 : ¬ x.idxOf c < i := fun hlt => hn _ hlt ((key _).mpr h2)
    have h4 := idxOf_le c x i hi'
    omega

theorem count_is' (x : List Nat) (c : Nat) : Txt.count ⟨x.toArray⟩ ⟨#[c]⟩ = (x.count c : Nat) := by
  have h := count_cnt (⟨x.toArray⟩ : Str) c
  rw [h]
  show cnt c x = _
  induction x with
  | nil => rfl
  | cons d r ih =>
    rw [cnt_cons, List.count_cons, ih (by exact count_cnt _ _)]
    by_cases hd : d = c <;> simp [hd] <;> omega

theorem find_T {o e : Expr} {ap pos : Pos} {c : Nat}
    (h : wpAny (model prog w) A (eval o env) (fun ov s₁ => ∃ x t, ov = T x t ∧ wpAny (model prog w) A (eval e env) (fun v s₂ => ∃ u, v = T [c] u ∧ Q (.int (fnd c x) s₂.toks) { s₂ with toks := s₂.toks + 1 }) E s₁) E s)
    (hbase : attributeBase o "find" env (eval o env) = eval o env := by with_unfolding_all rfl) (hline : (ap.endLine == pos.line) = true := by rfl)
    (hs : starEach [e] env = [(false, eval e env)] := by with_unfolding_all rfl) :
    wpAny (model prog w) A (eval (.Call (.Attribute o "find" ap) [e] [] pos) env) Q E s := by
  refine Call_method1 hbase hs hline <| wpAny_mono h (fun ov s₁ h₁ => ?_) fun _ _ e => e
  obtain ⟨x, t, rfl, h₁⟩ := h₁
  refine SB.find <| wpAny_mono h₁ (fun v s₂ h₂ => ?_) fun _ _ e => e
  obtain ⟨u, rfl, hq⟩ := h₂
  exact ⟨⟨#[c]⟩, u, rfl, by rw [find_is]; exact hq⟩

theorem count_T {o e : Expr} {ap pos : Pos} {c : Nat}
    (h : wpAny (model prog w) A (eval o env) (fun ov s₁ => ∃ x t, ov = T x t ∧ wpAny (model prog w) A (eval e env) (fun v s₂ => ∃ u, v = T [c] u ∧ Q (.int (x.count c : Nat) s₂.toks) { s₂ with toks := s₂.toks + 1 }) E s₁) E s)
    (hbase : attributeBase o "count" env (eval o env) = eval o env := by with_unfolding_all rfl) (hline : (ap.endLine == pos.line) = true := by rfl)
    (hs : starEach [e] env = [(false, eval e env)] := by with_unfolding_all rfl) :
    wpAny (model prog w) A (eval (.Call (.Attribute o "count" ap) [e] [] pos) env) Q E s := by
  refine Call_method1 hbase hs hline <| wpAny_mono h (fun ov s₁ h₁ => ?_) fun _ _ e => e
  obtain ⟨x, t, rfl, h₁⟩ := h₁
  refine SB.count <| wpAny_mono h₁ (fun v s₂ h₂ => ?_) fun _ _ e => e
  obtain ⟨u, rfl, hq⟩ := h₂
  exact ⟨⟨#[c]⟩, u, rfl, by rw [count_is']; exact hq⟩
end
end Mine
end

section
open PySem PySem.W PyProof.Rows PySem.Calls
set_option maxRecDepth 100000
set_option linter.unusedVariables false
namespace Mine

noncomputable def specials : List Nat := [46, 94, 36, 42, 43, 63, 123, 125, 91, 93, 124, 40, 41]
noncomputable def bareL (x : List Nat) : List Nat := (splitL 92 x).headD [] ++ (((splitL 92 x).drop 1).map fun p => p.drop 1).flatten

theorem flatten_len_le : ∀ (l : List (List Nat)), ((l.map (·.length)).sum) = l.flatten.length
  | [] => rfl
  | x :: r => by simp only [List.map_cons, List.sum_cons, List.flatten_cons, List.length_append, flatten_len_le r]
theorem repl_nil_len (c : Nat) : ∀ x, (repl c [] x).length ≤ x.length
  | [] => Nat.le_refl _
  | d :: r => by
    have := repl_nil_len c r
    unfold repl at this ⊢
    rw [List.flatMap_cons, List.length_append, List.length_cons]
    by_cases h : d = c
    · rw [if_pos h, List.length_nil]; omega
    · rw [if_neg h, List.length_singleton]; omega
theorem split_flatten_len (c : Nat) (x : List Nat) : (splitL c x).flatten.length ≤ x.length := by
  rw [← joinL_nil, join_splitL]; exact repl_nil_len c x

theorem le_sum_of {a : Nat} : ∀ {l : List Nat}, a ∈ l → a ≤ l.sum
  | x :: r, h => by
    rw [List.sum_cons]
    rcases List.mem_cons.mp h with rfl | h
    · omega
    · have := le_sum_of h; omega

theorem It.imp {prog : Program} {w : World} {g : Heap} {I : Addr} {n i : Nat} {P P' : Nat → Value → Prop} {h : Heap} (x : It prog w g I n P i h) (hP : ∀ i v, P i v → P' i v) : It prog w g I n P' i h := by
  obtain ⟨⟨fp, St, W, st, hf, lv⟩, ho, hs⟩ := x
  exact ⟨⟨fp, St, fun A hA => ⟨(W A hA).sub, (W A hA).frame, fun i s Q E hi st hQ => (W A hA).item i s Q E hi st fun v h' tk hv => hQ v h' tk (hP i v hv), (W A hA).done, (W A hA).self⟩, st, hf, lv⟩, ho, hs⟩
theorem Src.imp {prog : Program} {w : World} {g : Heap} {xv : Value} {n : Nat} {P P' : Nat → Value → Prop} {s : Shared} (x : Src prog w g xv n P s) (hP : ∀ i v, P i v → P' i v) : Src prog w g xv n P' s :=
  fun A E Q hh hQ => x A E Q hh fun I h₂ a b c => hQ I h₂ a (b.imp hP) c
theorem Src.texts {prog : Program} {w : World} {s : Shared} {l : Addr} {vs : Array Value} {xs : List (List Nat)} {g : Heap} (hl : g.IsList l vs) (hX : Txs vs xs) (hg : Sub g s.heap) :
    Src prog w g (.ref l) vs.size (fun i v => ∃ t, v = T (xs.getD i []) t) s :=
  (Src.list hl hg).imp fun i v hv => by
    have hi : i < vs.size := (Array.getElem?_eq_some_iff.mp hv).1
    obtain ⟨t, ht⟩ := hX.get (i := i) (by rw [← hX.size]; exact hi)
    rw [hv] at ht
    exact ⟨t, by injection ht⟩
theorem range_getDL {α β : Type} (xs : List α) (d : α) (f : α → β) : (List.range xs.length).map (fun i => f (xs.getD i d)) = xs.map f := by
  apply List.ext_getElem
  · simp
  · intro i h1 h2
    simp only [List.length_map, List.length_range] at h1
    simp [h1]

section
variable {prog : Program} {w : World} {A : Around} {E : Value → Shared → Prop} {s : Shared} {mg mb : Str → Option Value} {Q : Value → Shared → Prop}

set_option maxHeartbeats 4000000 in
theorem plain_ok {f : Addr} {k : Nat} {t : Tok} {x : List Nat}
    (R : Rm A (k + 1)) (hfn : FnAt s.heap f (defAt 26)) (G : Gl mg mb s.heap) (hx0 : x ≠ []) (hx : x.length ≤ 1000) (hbare : ∀ c ∈ specials, c ∉ bareL x)
    (hQ : ∀ t' h' tk, Sub s.heap h' → Q (T (splitL 92 x).flatten t') { s with heap := h', toks := tk }) :
    wpAny (model prog w) A (call (.ref f) [T x t]) Q E s := by
  refine enterC (k := k) [("text", T x t)] (fun L => [("bare", L + 1)]) (fun _ => none) (fun z => if z = "text" then some (T x t) else none) R hfn G.nolimit ?_
    (hlook := fun L p hp => by rcases List.mem_singleton.mp hp with rfl; rfl)
    (hkind := fun L p hp => by rcases List.mem_singleton.mp hp with rfl; exact .inl (by with_unfolding_all rfl))
  intro h₁ cd tk A' R' F
  replace F : Fm s.heap [(s.heap.objs.size, .ns _), (s.heap.objs.size + 1, .cell none)] h₁ := F
  have hb : bodyOf (defAt 26) = bodyOf (defAt 26) := rfl
  conv at hb => rhs; whnf
  rw [hb]; clear hb
  generalize s.heap.objs.size = L at F ⊢
  refine wpAny_execs_cons <| wpAny_Assign_Name <| split_T (c := 92) <| ldF F (by rfl) ⟨x, t, rfl, const_T [92] ⟨_, rfl, hx0, by omega, fun vs h₂ k₂ hX S₂ hl₂ => ?_⟩⟩
  have F₂ := F.cons (o := .list vs) S₂ (fresh_size h₁) hl₂
  refine stF F₂.swap fun h₃ F₃ => ?_
  clear F F₂ hl₂ S₂
  generalize h₁.objs.size = D at F₃ ⊢
  have hne := splitL_ne 92 x
  have hlen := split_flatten_len 92 x
  have hsz := hX.size
  obtain ⟨t0, ht0⟩ := hX.get (i := 0) (List.length_pos_iff.mpr hne)
  have hhd : (splitL 92 x).getD 0 [] = (splitL 92 x).headD [] := by rw [List.getD_eq_getElem?_getD, List.headD_eq_head?_getD, List.head?_eq_getElem?]
  rw [hhd] at ht0
  have hcnt : (splitL 92 x).length ≤ x.length + 1 := by
    have : ∀ y : List Nat, (splitL 92 y).length ≤ y.length + 1 := fun y => by
      induction y with
      | nil => simp [splitL]
      | cons d r ih =>
        rw [splitL_cons]
        split
        · simp only [List.length_cons]; omega
        · split
          · simp
          · rename_i p ps hps
            rw [hps] at ih; simp only [List.length_cons] at ih ⊢; omega
    exact this x
  have hpart : ∀ p ∈ splitL 92 x, p.length ≤ x.length := fun p hp => by
    have h1 : p.length ≤ ((splitL 92 x).map (·.length)).sum := le_sum_of (List.mem_map_of_mem hp)
    rw [flatten_len_le] at h1; omega
  refine wpAny_execs_cons ?_
  refine wpAny_Assign_Name ?_ ?_
  rotate_left
  · with_unfolding_all rfl
  refine wpAny_BinOp ?_
  refine Subscript_ <| ldF F₃ (by rfl) <| wpAny_Constant_int <| sub_list (F₃.lst 1 rfl) (by omega) (by omega) ht0 ?_
  refine join_T ?_
  refine comp_map (α := List Nat) tx [] R'.handled ?_
  refine slice_L <| ldF F₃ (by rfl) <| evalPart_some_step <| wpAny_Constant_int <| evalPart_none_step <| evalPart_none_step
    ⟨D, vs, some 1, none, none, rfl, F₃.lst 1 rfl, .int _ _, .none, .none, by simp, by rw [sizeLine_eq]; omega, fun r h₄ k₄ hr hl₄ => ?_⟩
  rw [show (some (1 : Int)) = some ((1 : Nat) : Int) by rfl, slicePick_from'] at hl₄
  have hX₄ : Txs (vs.toList.drop 1).toArray ((splitL 92 x).drop 1) := by
    unfold Txs at hX ⊢
    rw [List.map_drop, hX, List.map_drop]
  have hsz₄ := hX₄.size
  refine ⟨_, _, fun i => (((splitL 92 x).drop 1).getD i []).drop 1, Src.texts hl₄.isList hX₄ (Sub.refl _), by rw [sizeLine_eq, hsz₄, List.length_drop]; omega, ?_, ?_⟩
  · rintro i v C m s' g E' hi ⟨t', rfl⟩ hs F' hm
    have hm' : ((splitL 92 x).drop 1).getD i [] ∈ splitL 92 x := by
      have hi' : i < ((splitL 92 x).drop 1).length := by rw [← hsz₄]; exact hi
      rw [List.getD_eq_getElem?_getD, List.getElem?_eq_getElem hi']
      exact List.mem_of_mem_drop (List.getElem_mem hi')
    have := hpart _ hm'
    refine slice_T <| ldF F' hm <| evalPart_some_step <| wpAny_Constant_int <| evalPart_none_step ⟨_, t', some ((1 : Nat), _), none, rfl, rfl, rfl, by omega, fun t1 h5 tk5 k5 => ⟨?_, h5, tk5, rfl, k5⟩⟩
    rw [tx_T]; simp only [Option.map_some, Option.map_none, sl_from]
  intro r₂ ys h₅ tk₅ hV k₅ hl₅ hr₅
  rw [hsz₄, range_getDL ((splitL 92 x).drop 1) [] (fun p => p.drop 1)] at hV
  have hb1 : ((((splitL 92 x).drop 1).map fun p => p.drop 1).map (·.length)).sum ≤ x.length := by
    have : ∀ l : List (List Nat), ((l.map fun p => p.drop 1).map (·.length)).sum ≤ (l.map (·.length)).sum := fun l => by
      induction l with
      | nil => exact Nat.le_refl _
      | cons p r ih => simp only [List.map_cons, List.sum_cons, List.length_drop]; omega
    have h1 := this ((splitL 92 x).drop 1)
    have h2 : (((splitL 92 x).drop 1).map (·.length)).sum ≤ ((splitL 92 x).map (·.length)).sum := by
      cases splitL 92 x with
      | nil => exact Nat.le_refl _
      | cons p r => simp only [List.drop_succ_cons, List.drop_zero, List.map_cons, List.sum_cons]; omega
    rw [flatten_len_le (splitL 92 x)] at h2; omega
  refine ⟨r₂, List.toArray ys, _, rfl, hl₅.isList, hV, by omega, fun t6 k6 => ?_⟩
  have hhl : ((splitL 92 x).headD []).length ≤ x.length := by
    rw [← hhd, List.getD_eq_getElem?_getD, List.getElem?_eq_getElem (List.length_pos_iff.mpr hne)]
    exact hpart _ (List.getElem_mem _)
  refine add_T (by rw [← flatten_len_le]; omega) fun t7 k7 => ?_
  have S₅ : Sub h₃ h₅ := k₄.trans k₅
  have F₅ := F₃.ext S₅
  refine stC2 F₅ fun h₆ F₆ => ?_
  have hbx : (splitL 92 x).headD [] ++ (((splitL 92 x).drop 1).map fun p => p.drop 1).flatten = bareL x := rfl
  rw [hbx] at F₆
  clear F₃ F₅ hV hl₄ hl₅ hr₅ k₅ k₄ hr
  refine wpAny_execs_cons <| wpAny_If <| wpAny_isTrue_Compare1 ?_
  refine comp_pure (α := List Nat) tx [("bare", L + 1)] R'.handled <| const_T specials ?_
  refine ⟨specials.length, _, fun i => decide (specials.getD i 0 ∈ bareL x), fun i => [specials.getD i 0], Src.str (x := ⟨specials.toArray⟩) (Sub.refl _), by rw [sizeLine_eq]; decide, ?_, ?_, ?_⟩
  · rintro i v C m s' g E' hi ⟨c, u', hc, rfl⟩ hs F' hm
    have hci : specials[i]? = some c := by simpa using hc
    have hcd : specials.getD i 0 = c := by rw [List.getD_eq_getElem?_getD, hci]; rfl
    have cb : s'.heap.IsCell (L + 1) (some (T (bareL x) t7)) := cellK (F₆.get 2 rfl) (hs.trans F'.keep)
    refine wpAny_tests_one <| wpAny_isTrue_Compare1 <| ldF F' hm <| ldC cb <| in_T (c := c) <| wpAny_truthy_bool ⟨?_, _, _, rfl, Sub.refl _⟩
    show _ = decide (specials.getD i 0 ∈ bareL x)
    rw [hcd]
  · rintro i v C m s' g E' hi ⟨c, u', hc, rfl⟩ hbi hs F' hm
    have hci : specials[i]? = some c := by simpa using hc
    have hcd : specials.getD i 0 = c := by rw [List.getD_eq_getElem?_getD, hci]; rfl
    exact ldF F' hm ⟨by show some [c] = some [specials.getD i 0]; rw [hcd], _, _, rfl, Sub.refl _⟩
  intro r₃ zs h₇ tk₇ hV₇ k₇ hl₇ hr₇
  have hnone : ((List.range specials.length).filter fun i => decide (specials.getD i 0 ∈ bareL x)) = [] := by
    rw [List.filter_eq_nil_iff]
    intro i hi
    have hi' : i < specials.length := List.mem_range.mp hi
    have : specials.getD i 0 ∈ specials := by rw [List.getD_eq_getElem?_getD, List.getElem?_eq_getElem hi']; exact List.getElem_mem hi'
    simpa using hbare _ this
  rw [hnone] at hV₇
  have hzs : zs = [] := by
    have := congrArg List.length hV₇
    simp only [List.length_map, List.length_nil] at this
    exact List.eq_nil_of_length_eq_zero this
  subst hzs
  have F₇ := F₆.ext k₇
  refine wpAny_List <| args_nil ⟨Nat.zero_le _, ?_⟩
  refine ne_intsK (vs := []) (us := []) (ns := []) (ms := []) (hl₇.isList.push _) .nil ⟨_, Heap.get?_push_size _ rfl, rfl, _, rfl⟩ .nil (by have := R'.units; omega) <| wpAny_truthy_bool ?_
  rw [if_neg (by simp)]
  have F₈ := F₇.ext (h' := h₇.push { cls := .type "list", data := .seq ([] : List Value).toArray }) sub_push
  refine wpAny_execs_nil <| wpAny_execs_cons <| wpAny_Return_some <| join_T <| ldF F₈ (by rfl) ⟨D, vs, splitL 92 x, rfl, F₈.lst 1 rfl, hX, by rw [flatten_len_le]; omega, fun t' k' => ?_⟩
  exact hQ t' _ k' F₈.keep
end
end Mine
end

section
open PySem PySem.W PyProof.Rows PySem.Calls PySem.Builtin PySem.Builtin.Str
set_option maxRecDepth 100000
set_option linter.unusedVariables false
namespace Mine
section
variable {prog : Program} {w : World} {A : Around} {E : Value → Shared → Prop} {s : Shared} {env : Env} {mg mb : Str → Option Value} {Q : Value → Shared → Prop}

theorem sub_key_lookup : isSubtype (.type "KeyError") (.type "LookupError") = pure true := by rw [isSubtype_type]; kernel_rfl

theorem lookup_hit {d : Addr} {f : Int → Option Value} {c : Nat} {z : List Nat} {t : Tok} {Q : Mapped → Shared → Prop} (hm : s.heap.MapOf (intKind prog w) d f) (hv : f c = some (T z t))
    (h : ∀ k, Q (.text ⟨z.toArray⟩) { s with toks := k }) : wpAny (model prog w) A (tableLookup (.ref d) c) Q E s := by
  unfold tableLookup
  refine wpAny_bind (wpAny_attempt (wpAny_bind (wpAny_mkInt' ?_)))
  refine wpAny_getItem_of (knd := intKind prog w) (intKind_is _ _ _ _) hm hv ?_
  refine wpAny_bind (wpAny_of_eq (a := none) rfl ?_)
  refine wpAny_bind (wpAny_of_eq (a := some ⟨z.toArray⟩) rfl ?_)
  exact wpAny_pure (h _)

theorem lookup_miss {d : Addr} {f : Int → Option Value} {c : Nat} {Q : Mapped → Shared → Prop} (hh : A.handled = none) (hd : (d == sysModules) = false) (hm : s.heap.MapOf (intKind prog w) d f) (hv : f c = none)
    (h : ∀ h' k, Sub s.heap h' → Q .keep { s with heap := h', toks := k }) : wpAny (model prog w) A (tableLookup (.ref d) c) Q E s := by
  unfold tableLookup
  refine wpAny_bind (wpAny_attempt (wpAny_bind (wpAny_mkInt' ?_)))
  refine wpAny_getItem_missing_of (knd := intKind prog w) (intKind_is _ _ _ _) hd hh hm hv fun h' e hx => ?_
  obtain ⟨ob, t, ho, hc, _⟩ := hx.there
  refine wpAny_bind (wpAny_isInstance (T := "KeyError") (b := true) ⟨ob, ho, hc⟩ sub_key_lookup ?_)
  rw [if_pos rfl]
  exact wpAny_bind (wpAny_rule (wpAny_pure (h h' _ hx.keeps)))

theorem translate_one {d : Addr} {f : Int → Option Value} {c : Nat} {z : List Nat} {t : Tok} (hc : c < 128) (hh : A.handled = none) (hd : (d == sysModules) = false) (hm : s.heap.MapOf (intKind prog w) d f)
    (hz : (∃ t, f c = some (T z t) ∧ z.length = 2) ∨ (f c = none ∧ z = [c]))
    (h : ∀ t' h' k, Sub s.heap h' → Q (T z t') { s with heap := h', toks := k }) : wpAny (model prog w) A (call (.builtin "str.translate") [T [c] t, .ref d]) Q E s := by
  refine wpAny_call_entry F.slot_str_translate (typeIs_str _ _ _) F.entry_str_translate ?_ (F.args_str_translate_2 _ _)
  unfold Builtin.«str.translate»
  refine wpAny_bind (wpAny_of_eq (a := (T [c] t, ⟨#[c]⟩, .ref d)) rfl ?_)
  dsimp only
  rw [if_neg (by simp [Str.length])]
  have hall : ((#[c] : Array Nat).all fun x => decide (x < 128)) = true := by simp [hc]
  rw [hall]
  refine wpAny_bind ?_
  rw [List.forIn_toArray, List.forIn_cons]
  refine wpAny_bind ?_
  rw [if_neg (by decide), if_pos rfl]
  show wpAny _ _ (tableLookup (.ref d) c >>= _) _ _ s
  refine wpAny_bind ?_
  rcases hz with ⟨t₀, hv, hz2⟩ | ⟨hv, rfl⟩
  · refine lookup_hit hm hv fun k => ?_
    have h1 : ((⟨z.toArray⟩ : Str).length == 1) = false := by simp [Str.length, hz2]
    simp only [h1, Bool.false_and, Bool.false_eq_true, if_false]
    refine wpAny_bind (wpAny_pure ?_)
    refine wpAny_bind (wpAny_rule ?_)
    refine wpAny_bind (lookup_hit hm hv fun k => wpAny_pure ?_)
    dsimp only
    rw [List.forIn_nil]
    refine wpAny_pure ?_
    have h2 : tooLong (0 + (⟨z.toArray⟩ : Str).length) = false := by simp [Str.length, hz2, tooLong, sizeLine]
    dsimp only
    rw [h2, if_neg Bool.false_ne_true]
    have e : (⟨List.foldl (fun acc p => acc ++ p.cps) #[] ([⟨z.toArray⟩] : List Str).reverse⟩ : Str) = ⟨z.toArray⟩ := by simp
    show wpAny _ _ (retStr (⟨List.foldl (fun acc p => acc ++ p.cps) #[] ([⟨z.toArray⟩] : List Str).reverse⟩ : Str)) _ _ _
    rw [e]
    exact wpAny_bind (wpAny_mkStr (wpAny_pure ⟨_, rfl, h _ s.heap _ (Sub.refl _)⟩) (by rw [sizeLine_eq]; simp [Str.length, hz2]))
  · refine lookup_miss hh hd hm hv fun h' k hk => ?_
    refine wpAny_bind (wpAny_pure ?_)
    refine wpAny_pure ?_
    dsimp only
    rw [List.forIn_nil]
    refine wpAny_pure ?_
    dsimp only
    rw [if_neg (by decide)]
    have e : (⟨List.foldl (fun acc p => acc ++ p.cps) #[] ([⟨#[c]⟩] : List Str).reverse⟩ : Str) = ⟨#[c]⟩ := by simp
    show wpAny _ _ (retStr (⟨List.foldl (fun acc p => acc ++ p.cps) #[] ([⟨#[c]⟩] : List Str).reverse⟩ : Str)) _ _ _
    rw [e]
    exact wpAny_bind (wpAny_mkStr (wpAny_pure ⟨_, rfl, h _ h' _ hk⟩) (by rw [sizeLine_eq]; simp [Str.length]))
end
end Mine
end

section
open PySem PySem.W PyProof.Rows PySem.Calls
set_option maxRecDepth 100000
set_option linter.unusedVariables false
namespace Mine

noncomputable def escL (c : Nat) : List Nat := if c ∈ specKeys then [92, c] else [c]

noncomputable def entSays (e : DictEntry) : Int × Option Int × Option (List Nat) := (e.hash, match e.key with | .int i _ => some i | _ => none, match e.val with | .str s _ => some s.cps.toList | _ => none)
noncomputable def keySays (k : Nat) : Int × Option Int × Option (List Nat) := ((k : Int), some (k : Int), some [92, k])

theorem ent_shape {e : DictEntry} {k : Nat} (h : entSays e = keySays k) : ∃ t u, e = ⟨(k : Int), .int k t, T [92, k] u⟩ := by
  obtain ⟨hash, key, val⟩ := e
  unfold entSays keySays at h
  simp only [Prod.mk.injEq] at h
  obtain ⟨h1, h2, h3⟩ := h
  cases key <;> simp at h2
  cases val <;> simp at h3
  rename_i i t s u
  subst h1 h2
  obtain ⟨⟨l⟩⟩ := s
  simp only at h3
  exact ⟨t, u, by rw [h3]⟩

theorem find_spec : ∀ (l : List DictEntry) (ks : List Nat), l.map entSays = ks.map keySays →
    (∀ c ∈ ks, ∃ t, (l.find? fun e => Value.isInt (c : Int) e.key).map (·.val) = some (T [92, c] t)) ∧ (∀ k : Int, (∀ c ∈ ks, (c : Int) ≠ k) → (l.find? fun e => Value.isInt k e.key) = none) ∧
      ∀ e ∈ l, ∃ c ∈ ks, Value.isInt (c : Int) e.key = true ∧ e.hash = (c : Int)
  | [], [], _ => ⟨fun _ h => (nomatch h), fun _ _ => rfl, fun _ h => (nomatch h)⟩
  | [], _ :: _, h => by simp at h
  | _ :: _, [], h => by simp at h
  | e :: l, k :: ks, h => by
    simp only [List.map_cons, List.cons.injEq] at h
    obtain ⟨t, u, rfl⟩ := ent_shape h.1
    obtain ⟨h1, h2, h3⟩ := find_spec l ks h.2
    refine ⟨fun c hc => ?_, fun k' hk => ?_, fun e he => ?_⟩
    · by_cases hck : c = k
      · subst hck
        exact ⟨u, by simp [Value.isInt]⟩
      · have hc' : c ∈ ks := (List.mem_cons.mp hc).resolve_left hck
        obtain ⟨t', ht'⟩ := h1 c hc'
        refine ⟨t', ?_⟩
        rw [List.find?_cons]
        have : Value.isInt (c : Int) (.int (k : Int) t) = false := by
          simp [Value.isInt]; omega
        rw [this]; exact ht'
    · rw [List.find?_cons]
      have hne := hk k (.head _)
      have : Value.isInt k' (.int (k : Int) t) = false := by
        simp [Value.isInt]; omega
      rw [this]
      exact h2 k' fun c hc => hk c (.tail _ hc)
    · rcases List.mem_cons.mp he with rfl | he
      · exact ⟨k, .head _, by simp [Value.isInt], rfl⟩
      · obtain ⟨c, hc, r⟩ := h3 e he
        exact ⟨c, .tail _ hc, r⟩

theorem spec_map {prog : Program} {w : World} {h : Heap} {a : Addr} (x : SpecAt h a) : ∃ f, h.MapOf (intKind prog w) a f ∧ (∀ c ∈ specKeys, ∃ t, f (c : Int) = some (T [92, c] t)) ∧ ∀ c : Nat, c ∉ specKeys → f (c : Int) = none := by
  obtain ⟨_, es, ep, ho, hm⟩ := x
  obtain ⟨h1, h2, h3⟩ := find_spec es.toList specKeys hm
  refine ⟨fun k => findBy (intKind prog w).is es k, ⟨_, es, ep, ho, ⟨rfl, rfl, rfl⟩, rfl, fun e he => ?_, fun _ => rfl⟩, fun c hc => ?_, fun c hc => ?_⟩
  · obtain ⟨c, hc, r1, r2⟩ := h3 e (Array.mem_toList_iff.mpr he)
    refine ⟨(c : Int), r1, r2.trans ?_⟩
    have : ∀ c ∈ specKeys, (c : Int) = hashInt (c : Int) := by decide +kernel
    exact this c hc
  · obtain ⟨t, ht⟩ := h1 c hc
    refine ⟨t, ?_⟩
    rw [← ht]
    show Option.map _ (Array.find? _ es) = _
    rw [← Array.find?_toList]; rfl
  · have := h2 c fun d hd e => hc (by have : d = c := by omega
                                      subst this; exact hd)
    show Option.map _ (Array.find? _ es) = _
    rw [← Array.find?_toList]
    show Option.map _ (List.find? (fun e => Value.isInt (c : Int) e.key) es.toList) = none
    rw [this]; rfl

section
variable {prog : Program} {w : World} {A : Around} {E : Value → Shared → Prop} {s : Shared} {mg mb : Str → Option Value} {Q : Value → Shared → Prop}

/-- a call of a built-in by its name -/
theorem callBn {env : Env} {x : Str} {id : String} {p pos : Pos} {e : Expr} {rest : List Expr} (G : Gl mg mb s.heap) (hb : bootBuiltins x = some (.builtin id))
    (h : wpAny (model prog w) A (spliced (backTo pos (starEach (e :: rest) env))) (fun vs s₁ => wpAny (model prog w) A (call (.builtin id) vs) Q E s₁) E s)
    (hi : x ∈ bltNames := by decide) (hg : env.globals = mainGlobals := by with_unfolding_all rfl) (hbn : env.builtins = builtinsNs := by with_unfolding_all rfl) (hk : env.scope.kind = .function := by with_unfolding_all rfl) (hl : env.kindOf x = some .globalImplicit := by with_unfolding_all rfl)
    (hd : (x == ("__debug__" : Str)) = false := by decide) (hn : x ≠ "__name__" := by decide)
    (he : starEach (e :: rest) env = (false, eval e env) :: starEach rest env := by with_unfolding_all rfl) (hplain : (backTo pos (starEach rest env)).any (·.1) = false := by with_unfolding_all rfl) :
    wpAny (model prog w) A (eval (.Call (.Name x p) (e :: rest) [] pos) env) Q E s := by
  refine wpAny_Call_NameR (glB G hb ?_ hi hg hbn hk hl hd hn)
  rw [he] at h ⊢
  exact callWith_builtin (by show (false || (backTo pos (starEach rest env)).any (·.1)) = false; rw [hplain]; rfl) (evalArgs_plain h)
/-- a name of the module's that is no def -/
theorem glV {env : Env} {x : Str} {pos : Pos} {v : Value} (G : Gl mg mb s.heap) (hm : mg x = some v) (h : Q v s)
    (hg : env.globals = mainGlobals := by with_unfolding_all rfl)
    (hk : env.scope.kind = .function := by with_unfolding_all rfl) (hl : env.kindOf x = some .globalImplicit := by with_unfolding_all rfl) (hd : (x == ("__debug__" : Str)) = false := by decide) :
    wpAny (model prog w) A (eval (.Name x pos) env) Q E s :=
  Name_function_global hk hl (loadGlobal_global (env := env) (by rw [hg]; exact G.g) hm h) hd

set_option maxHeartbeats 4000000 in
theorem escape_ok {f : Addr} {k : Nat} {t : Tok} {c : Nat} (R : Rm A (k + 1)) (hfn : FnAt s.heap f (defAt 6)) (G : Gl mg mb s.heap) (hc : c < 128)
    (hQ : ∀ t' h' tk, Sub s.heap h' → Q (T (escL c) t') { s with heap := h', toks := tk }) : wpAny (model prog w) A (call (.ref f) [T [c] t]) Q E s := by
  refine enter [("pattern", T [c] t)] [] R hfn G.nolimit (fun p hp => nomatch hp) ?_
  intro g h₁ cd tk A' R' F hgk _
  replace F : Fm g [(s.heap.objs.size, .ns _)] h₁ := F
  have hb : bodyOf (defAt 6) = bodyOf (defAt 6) := rfl
  conv at hb => rhs; whnf
  rw [hb]; clear hb
  have Sg : Sub s.heap g := fun b o e => hgk b o (by simp) e
  have Gh : Gl mg mb h₁ := G.keeps (Sg.trans F.keep)
  obtain ⟨a, ha, hsp⟩ := Gh.spec
  obtain ⟨fm, hmap, hin, hout⟩ := spec_map (prog := prog) (w := w) hsp
  refine wpAny_execs_cons <| wpAny_If <| wpAny_isTrue_value ?_
  refine callBn Gh boot_isinstance <| args_cons <| ldF F (by rfl) <| args_cons <| glB Gh PyProof.Rows.boot_str <| args_nil ?_
  refine IsiPair.str_str <| wpAny_truthy_bool ?_
  rw [if_pos rfl]
  refine wpAny_execs_cons <| wpAny_Return_some <| method1_T _root_.PySem.F.slot_str_translate _root_.PySem.F.type_str_translate <| ldF F (by rfl) ⟨[c], t, rfl, glV Gh ha ?_⟩
  refine translate_one hc R'.handled hsp.1 hmap (z := escL c) ?_ fun t' h' k' k₂ => hQ t' h' k' ((Sg.trans F.keep).trans k₂)
  unfold escL
  by_cases hm : c ∈ specKeys
  · rw [if_pos hm]
    obtain ⟨t', ht'⟩ := hin c hm
    exact .inl ⟨t', ht', rfl⟩
  · rw [if_neg hm]
    exact .inr ⟨hout c hm, rfl⟩
end
end Mine
end

section
open PySem PySem.W PyProof.Rows PySem.Calls
set_option maxRecDepth 100000
set_option linter.unusedVariables false
namespace Mine

theorem lookup_append : typeLookup (.type "list") "append" = pure (some (.builtin "list.append")) := _root_.PySem.F.slot_list_append.lookup
theorem type_append : typeOf (.builtin "list.append") = pure (.type "method_descriptor") := _root_.PySem.F.type_list_append
theorem lookup_mdget : typeLookup (.type "method_descriptor") "__get__" = pure (some (.builtin "method_descriptor.__get__")) := by rw [typeLookup_type, builtinLookup_eq_fast]; kernel_rfl
theorem lookup_mdset : typeLookup (.type "method_descriptor") "__set__" = pure none := by rw [typeLookup_type, builtinLookup_eq_fast]; kernel_rfl
theorem lookup_mddel : typeLookup (.type "method_descriptor") "__delete__" = pure none := by rw [typeLookup_type, builtinLookup_eq_fast]; kernel_rfl

theorem slot_mdget : Slot "method_descriptor" "__get__" "method_descriptor.__get__" :=
  .of (owner := "method_descriptor") (n := "__get__") (by rw [typeLookup_type, builtinLookup_eq_fast]; kernel_rfl) (by decide +kernel) (by decide +kernel) (by decide +kernel)
    (by first | exact .inl (by decide +kernel) | exact .inr (by decide +kernel)) (by rw [isSubtype_type]; kernel_rfl)
theorem entry_mdget : entryFor table "method_descriptor.__get__" = some Builtin.«method_descriptor.__get__» := entryFor_of_tree (by kernel_rfl)
theorem args_mdget (a b c : Value) : argsOk "method_descriptor.__get__" ⟨[a, b, c], []⟩ := by unfold argsOk; kernel_rfl
theorem sub_list_list : isSubtype (.type "list") (.type "list") = pure true := by rw [isSubtype_type]; kernel_rfl

set_option maxHeartbeats 4000000 in
theorem meets_get_append (a : Addr) (xs : Array Value) (k : Nat) (u : Tok) :
    Meets (Builtin.«object.__getattribute__» ⟨[.ref a, .str "append" u], []⟩) (fun A R s => s.heap.get? a = some { cls := .type "list", data := .seq xs k } ∧
      R (.ok (.ret (.ref s.heap.objs.size))) { s with heap := s.heap.push { cls := .type "builtin_function_or_method", data := .fields #[.builtin "list.append", .ref a] } }) :=
  Meets.of_wp fun prog w A R s hs => by
    obtain ⟨hp, g, d, tk, os⟩ := s
    obtain ⟨hx, hs⟩ := hs
    have hT : (⟨hp, g, d, tk, os⟩ : Shared).TypeIs (.ref a) "list" := ⟨_, hx, rfl⟩
    have g1 := lookup_append
    have g2 := type_append
    have g3 := lookup_mdget
    have g4 := lookup_mdset
    have g5 := lookup_mddel
    unfold Builtin.«object.__getattribute__»
    repeat (any_goals (first | assumption | wp_step))
    refine codeAny_call_builtin slot_mdget.plain entry_mdget (slot_mdget.check _ _ _ _ _ _ _ _ (show Shared.TypeIs _ (.builtin "list.append") "method_descriptor" from g2) (args_mdget _ _ _) ?_)
    unfold Builtin.«method_descriptor.__get__»
    have g6 := sub_list_list
    repeat (any_goals (first | assumption | wp_step))
    have g7 : ".".intercalate ("list.append".cutAt '.').dropLast = "list" := by decide +kernel
    rw [g7]
    refine wpAny_of_eq g6 ?_
    rw [if_neg (by decide)]
    refine wpAny_pure ?_
    refine wpAny_bind (wpAny_newObj_type (wpAny_pure ?_))
    exact wpAny_pure ⟨_, rfl, hs⟩

section
variable {prog : Program} {w : World} {A : Around} {E : Value → Shared → Prop} {s : Shared} {env : Env} {mg mb : Str → Option Value} {Q : Value → Shared → Prop}

noncomputable def bndObj (l : Addr) : Obj := { cls := .type "builtin_function_or_method", data := .fields #[.builtin "list.append", .ref l] }

set_option maxHeartbeats 4000000 in
theorem getAttr_append {l : Addr} {vs : Array Value} (hl : s.heap.PlainList l vs)
    (h : ∀ tk, Q (.ref s.heap.objs.size) { s with heap := s.heap.push (bndObj l), toks := tk }) : wpAny (model prog w) A (getAttr (.ref l) "append" true) Q E s := by
  obtain ⟨k, hx⟩ := hl
  obtain ⟨hp, g, d, tk, os⟩ := s
  have hT : ∀ tk', (⟨hp, g, d, tk', os⟩ : Shared).TypeIs (.ref l) "list" := fun _ => ⟨_, hx, rfl⟩
  have f3 := _root_.PySem.F.slot_list_getattribute.lookup
  have f4 := _root_.PySem.F.slot_list_getattribute.bind (.ref l)
  have f5 := am_list_getattr_none
  unfold getAttr getAttrBy
  repeat (any_goals (first | assumption | exact hT _ | ((with_reducible show wpAny _ _ (call (Value.builtin "list.__getattribute__") _ _) _ _ _); refine call_meets _root_.PySem.F.slot_list_getattribute (hT _) am_entry_list_getattribute (_root_.PySem.F.args_list_getattribute_2 _ _) (meets_get_append l vs k _) ⟨hx, ?_⟩) | wp_step))
  show wpAny _ _ (handedOut (.ref _)) _ _ _
  exact wpAny_pure (h _)
end
end Mine
end

section
open PySem PySem.W PyProof.Rows PySem.Calls
set_option maxRecDepth 100000
set_option linter.unusedVariables false
namespace Mine
theorem sub_list_module : isSubtype (.type "list") (.type "module") = pure false := by rw [isSubtype_type]; kernel_rfl
theorem sub_list_type : isSubtype (.type "list") (.type "type") = pure false := by rw [isSubtype_type]; kernel_rfl

section
variable {prog : Program} {w : World} {A : Around} {E : Value → Shared → Prop} {s : Shared} {env : Env} {mg mb : Str → Option Value} {Q : Value → Shared → Prop}

set_option maxHeartbeats 4000000 in
theorem call_add {b l : Addr} {x : Value} {vs : Array Value} (hb : s.heap.get? b = some (bndObj l)) (hl : s.heap.PlainList l vs) (hsz : vs.size ≤ 1000000)
    (hQ : ∀ h', h'.PlainList l (vs.push x) → SubBut l s.heap h' → Q .none { s with heap := h' }) : wpAny (model prog w) A (call (.ref b) [x]) Q E s := by
  refine wpAny_call (codeAny_of_tree ?_)
  show wpAny _ _ (callAny (.ref b) ⟨[x], []⟩) _ _ _
  unfold callAny
  unfold bndObj at hb
  refine wpAny_bind (wpAny_load hb ?_)
  dsimp only
  have g1 : ∀ s' : Shared, s'.heap.PlainList l vs → s'.TypeIs (.ref l) "list" := fun s' h => h.isList.typeIs
  have hT := g1 s hl
  show wpAny _ _ (checkBoundCall "list.append" ⟨[.ref l, x], []⟩ >>= fun _ => again (.builtin "list.append" ⟨[.ref l, x], []⟩)) _ _ _
  refine wpAny_bind ?_
  unfold checkBoundCall
  rw [signature?_of (id := "list.append") (n := ['d', 'n', 'e', 'p', 'p', 'a']) (o := ['t', 's', 'i', 'l']) (by kernel_rfl) _root_.PySem.F.owner_list]
  have hs : List.lookup (String.ofList ['d', 'n', 'e', 'p', 'p', 'a'].reverse) Manifest.sig_list = some ⟨.oneArg, "list.append", "append", .self, [⟨"object", .posOnly, true⟩]⟩ := by kernel_rfl
  have hk : builtinKind "list.append" = some .method := by decide +kernel
  have hv : Manifest.varargsMethods.contains "list.append" = false := by decide +kernel
  rw [hs, hk]
  dsimp only
  rw [if_neg (by decide)]
  refine wpAny_bind (wpAny_isInstance hT sub_list_module ?_)
  rw [hv, if_neg (by decide)]
  refine wpAny_bind ?_
  have hty : wpAny (model prog w) (A.under (Code.call (Value.ref b) { pos := [x] })) (isType (.ref l)) (fun r s' => r = false ∧ s' = s) (fun e s' => E e s') s := by
    unfold isType
    obtain ⟨n, ho⟩ := id hl
    unfold loadHead
    exact wpAny_bind (wpAny_loadPart ho (wpAny_pure ⟨rfl, rfl⟩))
  refine wpAny_mono hty (fun r s' hr => ?_) fun _ _ e => e
  obtain ⟨rfl, rfl⟩ := hr
  rw [if_neg (by decide)]
  refine wpAny_bind (wpAny_typeOf hT ?_)
  dsimp only
  refine wpAny_of_eq (a := ()) (by kernel_rfl) ?_
  refine wpAny_pure ⟨Code.quiet_builtin _ (by decide +kernel), codeAny_builtin _root_.PySem.F.entry_list_append ?_⟩
  obtain ⟨n, ho⟩ := hl
  show wpAny _ _ (updateSeq l (·.push x) >>= fun _ => ret .none) _ _ _
  refine wpAny_bind ?_
  obtain ⟨n', hm⟩ := mapSeq_plain (·.push x) vs n
  refine wpAny_updateSeq ho rfl (hz := by rw [sizeLine_eq]; omega) (wpAny_pure (hQ _ ⟨n', ?_⟩ fun a o hb e => ((Heap.SameBut.update ..).2 a hb).trans e))
  rw [Heap.get?_update_self _ ho (by rw [hm]; rfl), hm]
end
end Mine
end

section
open PySem PySem.W PyProof.Rows PySem.Calls
set_option maxRecDepth 100000
set_option linter.unusedVariables false
namespace Mine

theorem mro_object : mroOf (.type "object") = pure [.type "object"] := by rw [mroOf_type]; kernel_rfl
theorem lookup_object_new : typeLookup (.type "object") "__new__" = pure (some (.builtin "object.__new__")) := by rw [typeLookup_type, builtinLookup_eq_fast]; kernel_rfl
theorem made_object : Bind.madeBy (.type "object") = pure (some "object.__new__") := madeBy_type mro_object lookup_object_new (by decide +kernel)
theorem slot_object_init : Slot "object" "__init__" "object.__init__" :=
  .of (owner := "object") (n := "__init__") (by rw [typeLookup_type, builtinLookup_eq_fast]; kernel_rfl) (by decide +kernel) (by decide +kernel) (by decide +kernel)
    (by first | exact .inl (by decide +kernel) | exact .inr (by decide +kernel)) (by rw [isSubtype_type]; kernel_rfl)
theorem tc_object : TypeCalled "object" "object.__new__" "object.__init__" where
  notType := by decide +kernel
  canCreate := by decide +kernel
  mro := ⟨_, _, mro_object⟩
  made := made_object
  plain := by decide +kernel
  sub := by rw [isSubtype_type]; kernel_rfl
  init := slot_object_init
theorem typeCall_object : checkTypeCall "object" ⟨[], []⟩ = pure () := by kernel_rfl
theorem newCall_object : checkBuiltinCall "object.__new__" ⟨[.type "object"], []⟩ = pure () := by kernel_rfl
theorem entry_object_new : entryFor table "object.__new__" = some Builtin.«object.__new__» := entryFor_of_tree (by kernel_rfl)
theorem madeHere_object : Bind.madeHere "object.__new__" (.type "object") = pure () := by
  unfold Bind.madeHere
  rw [show Bind.staticBase (.type "object") = pure (.type "object") from by kernel_rfl]
  simp only [pure_bind, made_object]
  rw [if_neg (by decide +kernel)]

noncomputable def starObj : Obj := { cls := .type "object", data := .plain }
theorem noNew_object : ((Manifest.find? "object").elim false fun b => b.mro.any fun t => (Manifest.find? t).elim false (·.noNew)) = false := by decide +kernel

theorem object_new_meets : Meets (Builtin.«object.__new__» ⟨[.type "object"], []⟩) (fun A R s => R (.ok (.ret (.ref s.heap.objs.size))) { s with heap := s.heap.push starObj }) :=
  Meets.of_wp fun prog w A R s hs => by
    unfold Builtin.«object.__new__»
    have hm := madeHere_object
    dsimp only
    refine wpAny_bind (wpAny_of_eq (a := true) (by kernel_rfl) ?_)
    rw [if_neg (by decide)]
    rw [if_neg (by rw [noNew_object]; decide)]
    refine wpAny_bind (wpAny_of_eq hm ?_)
    rw [if_neg (by decide)]
    have hd : typeHasDict (.type "object") = false := by decide +kernel
    rw [hd]
    have he : diesByItsTypesDel "object" = false := by decide +kernel
    rw [he]
    repeat (any_goals (first | assumption | wp_step))
    exact ⟨_, rfl, hs⟩

section
variable {prog : Program} {w : World} {A : Around} {E : Value → Shared → Prop} {s : Shared} {env : Env} {mg mb : Str → Option Value} {Q : Value → Shared → Prop}

theorem object_init0 (self : Value) : Meets (Builtin.«object.__init__» ⟨[self], []⟩) (fun _ R s => R (.ok (.ret .none)) s) :=
  Meets.of_wp fun prog w A R s hs => wpAny_pure ⟨_, rfl, hs⟩

theorem call_object (h : Q (.ref s.heap.objs.size) { s with heap := s.heap.push starObj }) : wpAny (model prog w) A (call (.type "object") []) Q E s := by
  refine callType_meets (Q₁ := fun obj s₁ => obj = .ref s.heap.objs.size ∧ s₁ = { s with heap := s.heap.push starObj }) tc_object typeCall_object newCall_object entry_object_new PySem.F.entry_object_init object_new_meets ⟨rfl, rfl⟩ ?_
  rintro obj s₁ ⟨rfl, rfl⟩
  exact ⟨⟨_, Heap.get?_push_size _ rfl, rfl⟩, by unfold argsOk; kernel_rfl, _, object_init0 _, rfl, h⟩

/-- a call of `append` that a name holds -/
theorem callWith_bnd {pos : Pos} {b l : Addr} {e : Expr} (hb : s.heap.get? b = some (bndObj l))
    (h : wpAny (model prog w) A (eval e env) (fun v s₁ => s₁.heap.get? b = some (bndObj l) ∧ wpAny (model prog w) A (call (.ref b) [v]) Q E s₁) E s)
    (he : starEach [e] env = (false, eval e env) :: starEach [] env := by with_unfolding_all rfl) :
    wpAny (model prog w) A (callWith pos (.ref b) [] (backTo pos (starEach [e] env)) []) Q E s := by
  rw [he]
  unfold callWith
  have hA : wpAny (model prog w) A (evalArgs (.ref b) true [(false, eval e env)] []) (fun a s₁ => ∃ v, a = ⟨[v], []⟩ ∧ s₁.heap.get? b = some (bndObj l) ∧ wpAny (model prog w) A (call (.ref b) [v]) Q E s₁) E s :=
    Calls.evalArgs_plain (Calls.spliced_cons (wpAny_mono h (fun v s₁ h₁ => Calls.spliced_nil ⟨v, rfl, h₁⟩) fun _ _ e => e))
  have e1 : backTo pos ((false, eval e env) :: starEach [] env) = [(false, eval e env)] := by rfl
  rw [e1]
  refine wpAny_bind (wpAny_holding (wpAny_mono hA (fun a s₁ h₁ => wpAny_bind (wpAny_standAt ?_)) fun _ _ x => x))
  obtain ⟨v, rfl, hb₁, h₁⟩ := h₁
  dsimp only
  refine wpAny_bind ?_
  refine wpAny_bind ?_
  refine wpAny_load hb₁ ?_
  unfold bndObj
  dsimp only
  have e2 : (Value.type "builtin_function_or_method" != Value.type "method") = true := by decide +kernel
  have e3 : (Value.type "builtin_function_or_method" == Value.type "builtin_function_or_method" || Value.type "builtin_function_or_method" == Value.type "method-wrapper") = true := by decide +kernel
  rw [if_pos e2, if_pos e3]
  refine wpAny_pure ?_
  exact wpAny_bind (wpAny_mono h₁ (fun r s₂ hr => wpAny_bind (wpAny_holding (wpAny_point (wpAny_pure hr)))) fun _ _ x => x)
end
end Mine
end

section
open PySem PySem.W PyProof.Rows PySem.Calls
set_option maxRecDepth 100000
set_option linter.unusedVariables false
namespace Mine

theorem Txs.push {vs : Array Value} {xs : List (List Nat)} (h : Txs vs xs) (x : List Nat) (t : Tok) : Txs (vs.push (T x t)) (xs ++ [x]) := by
  unfold Txs at h ⊢
  rw [Array.toList_push, List.map_append, h, List.map_append]; rfl

section
variable {prog : Program} {w : World} {A : Around} {E : Value → Shared → Prop} {s : Shared} {mg mb : Str → Option Value} {Q : Value → Shared → Prop}

theorem two_names {env : Env} {x y : Str} {k k' : Nat} {p1 p2 p3 p4 pos : Pos} {e1 e2 : Expr} {Q : Flow → Shared → Prop} (hh : A.handled = none)
    (h : wpAny (model prog w) A (spliced (backTo p4 (starEach [e1, e2] env))) (fun vs s₁ => ∃ a b, vs = [a, b] ∧ ∀ h', Sub s₁.heap h' →
      wpAny (model prog w) A (storeName env y b) (fun _ s₂ => wpAny (model prog w) A (storeName env x a) (fun _ => Q .next) E s₂) E { s₁ with heap := h' }) E s)
    (hs : swapsWithSole [.Tuple [.Name x p1, .Name y p2] k p3] (.Tuple [e1, e2] k' p4) pos.line env = pure false := by with_unfolding_all rfl)
    (hw : swappedStores [.Tuple [.Name x p1, .Name y p2] k p3] (.Tuple [e1, e2] k' p4) env = pure (some [x, y]) := by with_unfolding_all rfl) :
    wpAny (model prog w) A (exec (.Assign [.Tuple [.Name x p1, .Name y p2] k p3] (.Tuple [e1, e2] k' p4) pos) env) Q E s := by
  refine Assign_Tuple_swapped (names := [x, y]) (wpAny_Tuple (wpAny_mono h (fun vs s₁ h₁ => ?_) fun _ _ e => e)) hs hw
  obtain ⟨a, b, rfl, h₁⟩ := h₁
  refine ⟨by rw [sizeLine_eq]; show 2 ≤ _; decide, ?_⟩
  refine unpackItems_tuple (items := #[a, b]) hh ⟨_, Heap.get?_push_size _ rfl, rfl, _, rfl⟩ fun h' he => ?_
  have := h₁ h' fun b o e => he b o (Nat.ne_of_lt (Nat.lt_trans (Heap.lt_size e) (by rw [Heap.size_push]; exact Nat.lt_succ_self _))) (Heap.get?_push_of_some _ e)
  show wpAny _ _ (holding _ (bindName env y b) >>= fun _ => holding [] (bindName env x a) >>= fun _ => pure ()) _ _ _
  refine wpAny_bind (wpAny_holding (wpAny_bindName (wpAny_mono this (fun _ s₂ h₂ => ?_) fun _ _ e => e)))
  exact wpAny_bind (wpAny_holding (wpAny_bindName (wpAny_mono h₂ (fun _ s₃ h₃ => wpAny_pure h₃) fun _ _ e => e)))

set_option maxHeartbeats 8000000 in
theorem translate0_ok {f star : Addr} {k : Nat} {t u : Tok} {x : List Nat}
    (R : Rm A (k + 2)) (hfn : FnAt s.heap f (defAt 8)) (G : Gl mg mb s.heap) (hx : x.length ≤ 1000) (hlt : ∀ c ∈ x, c < 128) (hne : ∀ c ∈ x, c ≠ 42 ∧ c ≠ 63 ∧ c ≠ 91)
    (hQ : ∀ D vs h' tk, Sub s.heap h' → s.heap.get? D = none → h'.PlainList D (vs.push (.ref star)) → Txs vs (x.map escL) → Q (.ref D) { s with heap := h', toks := tk }) :
    wpAny (model prog w) A (call (.ref f) [T (x ++ [42]) t, .ref star, T [46] u]) Q E s := by
  refine enter [("pat", T (x ++ [42]) t), ("STAR", .ref star), ("QUESTION_MARK", T [46] u)] [] R hfn G.nolimit (fun p hp => nomatch hp) ?_
  intro g h₁ cd tk A' R' F hgk _
  replace F : Fm g [(s.heap.objs.size, .ns _)] h₁ := F
  have Sg : Sub s.heap g := fun b o e => hgk b o (by simp) e
  have Gg : Gl mg mb g := G.keeps Sg
  have hb : bodyOf (defAt 8) = bodyOf (defAt 8) := rfl
  conv at hb => rhs; whnf
  rw [hb]; clear hb
  generalize s.heap.objs.size = L at F ⊢
  refine wpAny_execs_cons <| wpAny_Assign_Name <| wpAny_List <| args_nil ⟨Nat.zero_le _, ?_⟩
  have F₁ := F.cons (o := .list #[]) (sub_push (o := { cls := .type "list", data := .seq ([] : List Value).toArray })) (fresh_size h₁) ⟨_, Heap.get?_push_size _ rfl⟩
  generalize h₁.objs.size = D at F₁ ⊢
  refine stF F₁.swap fun h₂ F₂ => ?_
  clear F F₁
  refine wpAny_execs_cons <| wpAny_Assign_Name <| Attribute_Name_ <| ldF F₂ (by rfl) <| getAttr_append (F₂.get 1 rfl) fun tk => ?_
  have F₃ := F₂.cons (o := .obj (bndObj D)) (sub_push (o := bndObj D)) (fresh_size h₂) (Heap.get?_push_size _ rfl)
  generalize h₂.objs.size = b at F₃ ⊢
  refine stF F₃.swap fun h₃ F₃' => ?_
  clear F₂ F₃
  refine wpAny_execs_cons <| two_names R'.handled <| args_cons <| wpAny_Constant_int <| args_cons <| callBn (Gg.keeps F₃'.keep) boot_len <| args_cons <| ldF F₃' (by rfl) <| args_nil <| len_T (by rw [List.length_append]; simp; omega) <| args_nil ⟨_, _, rfl, fun h₄ k₄ => ?_⟩
  have hN : (x ++ [42]).length = x.length + 1 := by simp
  rw [hN]
  refine stF (F₃'.ext k₄) fun h₅ F₅ => stF F₅ fun h₆ F₆ => ?_
  clear F₃' F₅ k₄
  refine seq_mid (fun s' => ∃ h tk m vs t1 t2, s' = { s with heap := h, toks := tk } ∧ Fm g [(L, .ns m), (b, .obj (bndObj D)), (D, .list (vs.push (.ref star)))] h ∧ Txs vs (x.map escL) ∧ m "res" = some (.ref D) ∧
    m "i" = some (.int ((x.length + 1 : Nat) : Int) t1) ∧ m "n" = some (.int ((x.length + 1 : Nat) : Int) t2)) ?_ ?_
  · refine wpAny_While (codeAny_whileLoop (fun n s' => ∃ j h tk m vs t1 t2 t4, n = x.length + 1 - j ∧ j ≤ x.length + 1 ∧ s' = { s with heap := h, toks := tk } ∧ Fm g [(L, .ns m), (b, .obj (bndObj D)), (D, .list vs)] h ∧
      m "pat" = some (T (x ++ [42]) t4) ∧ m "STAR" = some (.ref star) ∧ m "res" = some (.ref D) ∧ m "add" = some (.ref b) ∧ m "i" = some (.int (j : Int) t1) ∧ m "n" = some (.int ((x.length + 1 : Nat) : Int) t2) ∧
      (j ≤ x.length → Txs vs ((x.take j).map escL)) ∧ (j = x.length + 1 → ∃ us, vs = us.push (.ref star) ∧ Txs us (x.map escL))) ?_ _ ⟨0, h₆, _, _, #[], _, _, _, rfl, Nat.zero_le _, rfl, F₆, rfl, rfl, rfl, rfl, rfl, rfl, fun _ => rfl, fun h => absurd h (by omega)⟩)
    clear F₆
    rintro n s' ⟨j, h, tk, m, vs, t1, t2, t4, rfl, hj, rfl, F, m1, m2, m3, m4, m5, m6, hv, hend⟩
    refine wpAny_isTrue_Compare1 (ldF F m5 (ldF F m6 (PyProof.Rows.lt_int (wpAny_truthy_bool ?_))))
    by_cases hlt' : j < x.length + 1
    · rw [if_pos (by simp; omega)]
      have hvs := (hv (by omega)).size
      rw [List.length_map, List.length_take] at hvs
      obtain ⟨c, hc⟩ : ∃ c, (x ++ [42])[j]? = some c := ⟨_, List.getElem?_eq_getElem (by simp; omega)⟩
      refine wpAny_execs_cons <| wpAny_Assign_Name <| Subscript_ <| ldF F m1 <| ldF F m5 <| item_T j (by simp; omega) (.inl rfl) hc (by simp; omega) <| stF F fun h₂ F₂ => ?_
      refine wpAny_execs_cons <| wpAny_Assign_Name <| wpAny_BinOp <| ldF F₂ m5 <| wpAny_Constant_int <| add_int <| stF F₂ fun h₃ F₃ => ?_
      clear F F₂
      refine wpAny_execs_cons <| wpAny_If <| wpAny_isTrue_Compare1 <| ldF F₃ (by rfl) <| const_T [42] <| eq_T <| wpAny_truthy_bool ?_
      by_cases hjx : j = x.length
      · subst hjx
        have hc' : c = 42 := by simpa using hc.symm
        subst hc'
        rw [if_pos (show ([42] == [42]) = true from rfl)]
        have hvx := hv (Nat.le_refl _)
        rw [List.take_length] at hvx
        refine wpAny_execs_cons <| wpAny_If (wpAny_mono (Q := fun b s₁ => b = true ∧ ∃ tk, s₁ = { s with heap := h₃, toks := tk }) ?_ (fun b' s₁ hb' => ?_) (fun _ _ e => e))
        · refine wpAny_isTrue_BoolOp <| wpAny_allTrue_Or_cons <| wpAny_isTrue_Not <| wpAny_isTrue_value <| ldF F₃ m3 <| wpAny_truthy_list (F₃.lst 2 rfl) (by omega) ?_
          by_cases he : vs.size = 0
          · have : vs = #[] := Array.eq_empty_of_size_eq_zero he
            subst this
            exact ⟨rfl, _, rfl⟩
          · have he' : vs.isEmpty = false := by simp only [Array.isEmpty, decide_eq_false_iff_not]; exact he
            rw [he']
            obtain ⟨t5, ht5⟩ := hvx.get (i := x.length - 1) (by rw [List.length_map]; omega)
            refine wpAny_allTrue_Or_cons <| wpAny_isTrue_Compare1 <| Subscript_ <| ldF F₃ m3 <| wpAny_UnaryOp <| wpAny_Constant_int <| neg_int <|
              tail_any (F₃.lst 2 rfl).typeIs slot_list_getitem.lookup (wpAny_getItem_list_neg (F₃.lst 2 rfl) (by omega) (by omega) (by omega) (x := .str ⟨((x.map escL).getD (x.length - 1) []).toArray⟩ t5) ?_ ?_) (by with_unfolding_all rfl)
            · rw [← ht5]; congr 1; omega
            · exact ldF F₃ m2 <| wpAny_isNot_other rfl (by intro h; cases h) <| wpAny_truthy_bool ⟨rfl, _, rfl⟩
        · obtain ⟨rfl, tk', rfl⟩ := hb'
          rw [if_pos rfl]
          refine wpAny_execs_cons <| wpAny_Expr <| wpAny_Call_NameR <| ldF F₃ m4 <| callWith_bnd (F₃.get 1 rfl) <| ldF F₃ m2 ⟨F₃.get 1 rfl, call_add (F₃.get 1 rfl) (F₃.get 2 rfl) (by omega) fun h₅ hl₅ k₅ => ?_⟩
          have F₅ := F₃.upd2 (o' := .list _) k₅ hl₅
          exact wpAny_execs_nil <| wpAny_execs_nil <| wpAny_execs_nil ⟨0, by omega, x.length + 1, h₅, _, _, _, _, _, _, by omega, by omega, rfl, F₅, m1, m2, m3, m4, rfl, m6, fun h => absurd h (by omega), fun _ => ⟨vs, rfl, hvx⟩⟩
      · have hjl : j < x.length := by omega
        have hcx : x[j]? = some c := by rw [List.getElem?_append_left hjl] at hc; exact hc
        have hmem : c ∈ x := List.mem_of_getElem? hcx
        obtain ⟨n1, n2, n3⟩ := hne c hmem
        rw [if_neg (by simpa using n1)]
        refine wpAny_execs_cons <| wpAny_If <| wpAny_isTrue_Compare1 <| ldF F₃ (by rfl) <| const_T [63] <| eq_T <| wpAny_truthy_bool ?_
        rw [if_neg (by simpa using n2)]
        refine wpAny_execs_cons <| wpAny_If <| wpAny_isTrue_Compare1 <| ldF F₃ (by rfl) <| const_T [91] <| eq_T <| wpAny_truthy_bool ?_
        rw [if_neg (by simpa using n3)]
        refine wpAny_execs_cons <| wpAny_Expr <| wpAny_Call_NameR <| ldF F₃ m4 <| callWith_bnd (F₃.get 1 rfl) <| callF 6 (Gg.keeps F₃.keep) fun f hf => args_cons <| ldF F₃ (by rfl) <| args_nil ⟨Sub.refl _, fun hf => ?_⟩
        refine escape_ok R' hf (Gg.keeps F₃.keep) (hlt c hmem) fun t' h₄ tk₄ k₄ => ?_
        have F₄ := F₃.ext k₄
        refine ⟨F₄.get 1 rfl, call_add (F₄.get 1 rfl) (F₄.get 2 rfl) (by omega) fun h₅ hl₅ k₅ => ?_⟩
        have F₅ := F₄.upd2 (o' := .list _) k₅ hl₅
        refine wpAny_execs_nil <| wpAny_execs_nil <| wpAny_execs_nil <| wpAny_execs_nil ⟨_, ?_, j + 1, h₅, _, _, _, _, _, _, rfl, by omega, rfl, F₅, m1, m2, m3, m4, rfl, m6, fun _ => ?_, fun h => absurd h (by omega)⟩
        · omega
        · have e : x.take (j + 1) = x.take j ++ [c] := by
            rw [List.take_add_one, hcx]; rfl
          rw [e, List.map_append]
          exact (hv (by omega)).push _ _
    · rw [if_neg (by simp; omega)]
      have hj' : j = x.length + 1 := by omega
      subst hj'
      obtain ⟨us, rfl, hus⟩ := hend rfl
      exact wpAny_execs_nil ⟨rfl, h, tk, m, us, _, _, rfl, F, hus, m3, m5, m6⟩
  · rintro s' ⟨h, tk, m, vs, t1, t2, rfl, F, hus, m3, m5, m6⟩
    refine wpAny_execs_cons <| wpAny_Assert_holds <| wpAny_isTrue_Compare1 <| ldF F m5 <| ldF F m6 <| PyProof.Rows.eq_int <| wpAny_truthy_bool ⟨by simp, ?_⟩
    refine wpAny_execs_cons <| wpAny_Return_some <| ldF F m3 ?_
    refine hQ D vs h tk (Sg.trans F.keep) ?_ (F.get 2 rfl) hus
    cases e : s.heap.get? D with
    | none => rfl
    | some o => have := F.out (D, _) (.tail _ (.tail _ (.head _))); rw [Sg _ _ e] at this; cases this
end
end Mine
end

section
open PySem PySem.W PyProof.Rows PySem.Calls
set_option maxRecDepth 100000
set_option linter.unusedVariables false
namespace Mine

noncomputable def preL : List Nat := [40, 63, 115, 58]
noncomputable def sufL : List Nat := [46, 42]
noncomputable def endL : List Nat := [41, 92, 90]

section
variable {prog : Program} {w : World} {A : Around} {E : Value → Shared → Prop} {s : Shared} {mg mb : Str → Option Value} {Q : Value → Shared → Prop}

theorem mk_append (x y : List Nat) : (⟨x.toArray⟩ ++ ⟨y.toArray⟩ : Str) = ⟨(x ++ y).toArray⟩ := by show Str.mk (_ ++ _) = _; simp

theorem eE : Str.empty = ⟨([] : List Nat).toArray⟩ := rfl

set_option maxHeartbeats 8000000 in
theorem joined_ok {f star l : Addr} {k : Nat} {vs : Array Value} {xs : List (List Nat)}
    (R : Rm A (k + 1)) (hfn : FnAt s.heap f (defAt 9)) (G : Gl mg mb s.heap) (hl : s.heap.PlainList l (vs.push (.ref star))) (hx : Txs vs xs) (hsz : xs.length ≤ 1000) (hsum : (xs.map (·.length)).sum ≤ 10000)
    (hQ : ∀ t' h' tk, Sub s.heap h' → Q (T (preL ++ (xs.flatten ++ sufL) ++ endL) t') { s with heap := h', toks := tk }) :
    wpAny (model prog w) A (call (.ref f) [.ref l, .ref star]) Q E s := by
  refine enter [("inp", .ref l), ("STAR", .ref star)] [] R hfn G.nolimit (fun p hp => nomatch hp) ?_
  intro g h₁ cd tk A' R' F hgk _
  replace F : Fm g [(s.heap.objs.size, .ns _)] h₁ := F
  have Sg : Sub s.heap g := fun b o e => hgk b o (by simp) e
  have Gg : Gl mg mb g := G.keeps Sg
  have hlg : g.PlainList l (vs.push (.ref star)) := hl.at fun o e => Sg _ o e
  have hn := hx.size
  have hb : bodyOf (defAt 9) = bodyOf (defAt 9) := rfl
  conv at hb => rhs; whnf
  rw [hb]; clear hb
  generalize s.heap.objs.size = L at F ⊢
  refine wpAny_execs_cons <| wpAny_Assign_Name <| wpAny_List <| args_nil ⟨Nat.zero_le _, ?_⟩
  have F₁ := F.cons (o := .list #[]) (sub_push (o := { cls := .type "list", data := .seq ([] : List Value).toArray })) (fresh_size h₁) ⟨_, Heap.get?_push_size _ rfl⟩
  generalize h₁.objs.size = D at F₁ ⊢
  refine stF F₁.swap fun h₂ F₂ => ?_
  clear F F₁
  refine wpAny_execs_cons <| wpAny_Assign_Name <| Attribute_Name_ <| ldF F₂ (by rfl) <| getAttr_append (F₂.get 1 rfl) fun tk => ?_
  have F₃ := F₂.cons (o := .obj (bndObj D)) (sub_push (o := bndObj D)) (fresh_size h₂) (Heap.get?_push_size _ rfl)
  generalize h₂.objs.size = b at F₃ ⊢
  refine stF F₃.swap fun h₃ F₃' => ?_
  clear F₂ F₃
  have il : ∀ {h : Heap}, Sub g h → h.IsList l (vs.push (.ref star)) := fun k => (hlg.at fun o e => k _ o e).isList
  refine wpAny_execs_cons <| two_names R'.handled <| args_cons <| wpAny_Constant_int <| args_cons <| callBn (Gg.keeps F₃'.keep) boot_len <| args_cons <| ldF F₃' (by rfl) <| args_nil <| len_list (il F₃'.keep) (by rw [Array.size_push]; omega) <| args_nil ⟨_, _, rfl, fun h₄ k₄ => ?_⟩
  have hN : (vs.push (.ref star)).size = xs.length + 1 := by rw [Array.size_push, hn]
  rw [hN]
  refine stF (F₃'.ext k₄) fun h₅ F₅ => stF F₅ fun h₆ F₆ => ?_
  clear F₃' F₅ k₄
  have hget : ∀ j, j < xs.length → (vs.push (.ref star))[j]? = vs[j]? := fun j hj => by rw [Array.getElem?_push]; rw [if_neg (by omega)]
  have hlast : (vs.push (.ref star))[xs.length]? = some (.ref star) := by rw [Array.getElem?_push, if_pos (by omega)]
  refine seq_mid (fun s' => ∃ h tk m us t1 t2, s' = { s with heap := h, toks := tk } ∧ Fm g [(L, .ns m), (b, .obj (bndObj D)), (D, .list us)] h ∧ Txs us xs ∧ m "inp" = some (.ref l) ∧ m "STAR" = some (.ref star) ∧ m "res" = some (.ref D) ∧ m "add" = some (.ref b) ∧
    m "i" = some (.int ((xs.length : Nat) : Int) t1) ∧ m "n" = some (.int ((xs.length + 1 : Nat) : Int) t2)) ?_ ?_
  · refine wpAny_While (codeAny_whileLoop (fun n s' => ∃ j h tk m us t1 t2, n = xs.length - j ∧ j ≤ xs.length ∧ s' = { s with heap := h, toks := tk } ∧ Fm g [(L, .ns m), (b, .obj (bndObj D)), (D, .list us)] h ∧
      m "inp" = some (.ref l) ∧ m "STAR" = some (.ref star) ∧ m "res" = some (.ref D) ∧ m "add" = some (.ref b) ∧ m "i" = some (.int (j : Int) t1) ∧ m "n" = some (.int ((xs.length + 1 : Nat) : Int) t2) ∧
      Txs us (xs.take j)) ?_ _ ⟨0, h₆, _, _, #[], _, _, rfl, Nat.zero_le _, rfl, F₆, rfl, rfl, rfl, rfl, rfl, rfl, rfl⟩)
    clear F₆
    rintro n s' ⟨j, h, tk, m, us, t1, t2, rfl, hj, rfl, F, m1, m2, m3, m4, m5, m6, hv⟩
    have hvs := hv.size
    rw [List.length_take] at hvs
    refine wpAny_isTrue_BoolOp <| wpAny_allTrue_And_cons <| wpAny_isTrue_Compare1 (ldF F m5 (ldF F m6 (PyProof.Rows.lt_int (wpAny_truthy_bool ?_))))
    rw [if_pos (by simp; omega)]
    by_cases hjl : j < xs.length
    · obtain ⟨t5, ht5⟩ := hx.get hjl
      refine wpAny_allTrue_And_cons <| wpAny_isTrue_Compare1 <| Subscript_ <| ldF F m1 <| ldF F m5 <| sub_listN (il F.keep) (by omega) ((hget j hjl).trans ht5) <| ldF F m2 <| wpAny_isNot_other rfl (by intro h; cases h) <| wpAny_truthy_bool ?_
      rw [if_pos rfl]
      refine wpAny_allTrue_And_nil ?_
      rw [if_pos rfl]
      refine wpAny_execs_cons <| wpAny_Expr <| wpAny_Call_NameR <| ldF F m4 <| callWith_bnd (F.get 1 rfl) <| Subscript_ <| ldF F m1 <| ldF F m5 <| sub_listN (il F.keep) (by omega) ((hget j hjl).trans ht5) ⟨F.get 1 rfl, call_add (F.get 1 rfl) (F.get 2 rfl) (by omega) fun h₅ hl₅ k₅ => ?_⟩
      have F₅ := F.upd2 (o' := .list _) k₅ hl₅
      refine wpAny_execs_cons <| wpAny_AugAssign_Name <| wpAny_loadName_local (by with_unfolding_all rfl) (by with_unfolding_all rfl) (F₅.own _ (.head _)) m5 <| wpAny_Constant_int <| wpAny_iadd_int <| stF F₅ fun h₆ F₆ => ?_
      refine wpAny_execs_nil ⟨_, ?_, j + 1, h₆, _, _, _, _, _, rfl, by omega, rfl, F₆, m1, m2, m3, m4, rfl, m6, ?_⟩
      · omega
      · have e : xs.take (j + 1) = xs.take j ++ [xs.getD j []] := by
          rw [List.take_add_one, List.getD_eq_getElem?_getD, List.getElem?_eq_getElem hjl]; rfl
        rw [e]
        exact hv.push _ _
    · have hj' : j = xs.length := by omega
      subst hj'
      refine wpAny_allTrue_And_cons <| wpAny_isTrue_Compare1 <| Subscript_ <| ldF F m1 <| ldF F m5 <| sub_listN (il F.keep) (by omega) hlast <| ldF F m2 <| wpAny_isNot_ref_self <| wpAny_truthy_bool ?_
      rw [if_neg (by decide), if_neg (by decide)]
      rw [List.take_length] at hv
      exact wpAny_execs_nil ⟨rfl, h, tk, m, us, _, _, rfl, F, hv, m1, m2, m3, m4, m5, m6⟩
  rintro s' ⟨h, tk, m, us, t1, t2, rfl, F, hus, m1, m2, m3, m4, m5, m6⟩
  clear F₆
  refine seq_mid (fun s' => ∃ h tk m us t1 t2, s' = { s with heap := h, toks := tk } ∧ Fm g [(L, .ns m), (b, .obj (bndObj D)), (D, .list us)] h ∧ Txs us (xs ++ [sufL]) ∧ m "res" = some (.ref D) ∧
    m "i" = some (.int ((xs.length + 1 : Nat) : Int) t1) ∧ m "n" = some (.int ((xs.length + 1 : Nat) : Int) t2)) ?_ ?_
  · refine wpAny_While (codeAny_whileLoop (fun n s' => s' = { s with heap := h, toks := tk }) ?_ 0 rfl)
    rintro n s' rfl
    refine wpAny_isTrue_Compare1 (ldF F m5 (ldF F m6 (PyProof.Rows.lt_int (wpAny_truthy_bool ?_))))
    rw [if_pos (decide_eq_true (by omega))]
    refine wpAny_execs_cons <| wpAny_Assert_holds <| wpAny_isTrue_Compare1 <| Subscript_ <| ldF F m1 <| ldF F m5 <| sub_listN (il F.keep) (by omega) hlast <| ldF F m2 <| wpAny_is_ref_self <| wpAny_truthy_bool ⟨rfl, ?_⟩
    refine wpAny_execs_cons <| wpAny_AugAssign_Name <| wpAny_loadName_local (by with_unfolding_all rfl) (by with_unfolding_all rfl) (F.own _ (.head _)) m5 <| wpAny_Constant_int <| wpAny_iadd_int <| stF F fun h₆ F₆ => ?_
    refine wpAny_execs_cons <| wpAny_If <| wpAny_isTrue_Compare1 <| ldF F₆ (by rfl) <| ldF F₆ m6 <| PyProof.Rows.eq_int <| wpAny_truthy_bool ?_
    rw [if_pos (by simp)]
    have hus' := hus.size
    refine wpAny_execs_cons <| wpAny_Expr <| wpAny_Call_NameR <| ldF F₆ m4 <| callWith_bnd (F₆.get 1 rfl) <| const_T sufL ⟨F₆.get 1 rfl, call_add (F₆.get 1 rfl) (F₆.get 2 rfl) (by omega) fun h₅ hl₅ k₅ => ?_⟩
    have F₅ := F₆.upd2 (o' := .list _) k₅ hl₅
    refine wpAny_execs_cons <| wpAny_Break ⟨rfl, h₅, _, _, _, _, _, rfl, F₅, hus.push _ _, m3, rfl, m6⟩
  rintro s' ⟨h, tk, m, us, t1, t2, rfl, F, hus, m3, m5, m6⟩
  refine wpAny_execs_cons <| wpAny_Assert_holds <| wpAny_isTrue_Compare1 <| ldF F m5 <| ldF F m6 <| PyProof.Rows.eq_int <| wpAny_truthy_bool ⟨by simp, ?_⟩
  have hsum2 : ((xs ++ [sufL]).map (·.length)).sum ≤ 1000000 := by
    rw [List.map_append, List.sum_append]; simp [sufL]; omega
  have hfl : (xs ++ [sufL]).flatten = xs.flatten ++ sufL := by simp
  have hfl2 : (xs.flatten ++ sufL).length ≤ 10010 := by rw [List.length_append, ← flatten_len_le]; simp [sufL]; omega
  refine wpAny_execs_cons <| wpAny_Assign_Name <| join_T <| ldF F m3 ⟨D, us, xs ++ [sufL], rfl, F.lst 2 rfl, hus, hsum2, fun t' k' => ?_⟩
  rw [hfl]
  refine stF F fun h₂ F₂ => ?_
  refine wpAny_execs_cons <| wpAny_Return_some <| wpAny_JoinedStr <| const_T preL ⟨_, _, rfl, ?_, wpAny_FormattedValue_plain <| ldF F₂ (by rfl) <| SB.field_str (fun t8 k8 => ⟨_, _, rfl, ?_, const_T endL ⟨_, _, rfl, ?_, ?_, ?_⟩⟩) ?_⟩
  all_goals try simp only [eE, mk_append, List.nil_append]
  · simp only [Str.length, List.size_toArray]; rw [sizeLine_eq]; decide
  · simp only [Str.length, List.size_toArray]; rw [sizeLine_eq, List.length_append]; simp only [preL, List.length_cons, List.length_nil]; omega
  · simp only [Str.length, List.size_toArray]; rw [sizeLine_eq, List.length_append, List.length_append]; simp only [preL, endL, List.length_cons, List.length_nil]; omega
  · simp only [Str.length, List.size_toArray]; rw [sizeLine_eq, List.length_append, List.length_append]; simp only [preL, endL, List.length_cons, List.length_nil]; omega
  · exact hQ _ _ _ (Sg.trans F₂.keep)
  · simp only [Str.length, List.size_toArray]; rw [sizeLine_eq]; omega
end
end Mine
end

section
open PySem PySem.W PyProof.Rows PySem.Calls
set_option maxRecDepth 100000
set_option linter.unusedVariables false
namespace Mine

theorem escL_le (c : Nat) : (escL c).length ≤ 2 := by unfold escL; split <;> simp
theorem escL_sum (x : List Nat) : ((x.map escL).map (·.length)).sum ≤ 2 * x.length := by
  induction x with
  | nil => simp
  | cons c r ih => simp only [List.map_cons, List.sum_cons, List.length_cons]; have := escL_le c; omega

noncomputable def transL (x : List Nat) : List Nat := preL ++ ((x.map escL).flatten ++ sufL) ++ endL

section
variable {prog : Program} {w : World} {A : Around} {E : Value → Shared → Prop} {s : Shared} {mg mb : Str → Option Value} {Q : Value → Shared → Prop}

set_option maxHeartbeats 8000000 in
theorem translate_ok {f : Addr} {k : Nat} {t : Tok} {x : List Nat}
    (R : Rm A (k + 3)) (hfn : FnAt s.heap f (defAt 3)) (G : Gl mg mb s.heap) (hx : x.length ≤ 1000) (hlt : ∀ c ∈ x, c < 128) (hne : ∀ c ∈ x, c ≠ 42 ∧ c ≠ 63 ∧ c ≠ 91)
    (hQ : ∀ t' h' tk, Sub s.heap h' → Q (T (transL x) t') { s with heap := h', toks := tk }) :
    wpAny (model prog w) A (call (.ref f) [T (x ++ [42]) t]) Q E s := by
  refine enter [("pat", T (x ++ [42]) t)] [] R hfn G.nolimit (fun p hp => nomatch hp) ?_
  intro g h₁ cd tk A' R' F hgk _
  replace F : Fm g [(s.heap.objs.size, .ns _)] h₁ := F
  have Sg : Sub s.heap g := fun b o e => hgk b o (by simp) e
  have Gg : Gl mg mb g := G.keeps Sg
  have hb : bodyOf (defAt 3) = bodyOf (defAt 3) := rfl
  conv at hb => rhs; whnf
  rw [hb]; clear hb
  generalize s.heap.objs.size = L at F ⊢
  refine wpAny_execs_cons <| wpAny_Assign_Name ?_ ?_
  rotate_left
  · with_unfolding_all rfl
  refine wpAny_Call_NameR <| glB (Gg.keeps F.keep) PyProof.Rows.boot_object <| PyProof.Rows.callWith_type rfl <| PyProof.Rows.evalArgs_none <| call_object ?_
  have F₁ := F.ext (h' := h₁.push starObj) sub_push
  generalize h₁.objs.size = star
  refine stF F₁ fun h₂ F₂ => ?_
  clear F F₁
  refine wpAny_execs_cons <| wpAny_Assign_Name <| callF 8 (Gg.keeps F₂.keep) fun f hf => args_cons <| ldF F₂ (by rfl) <| args_cons <| ldF F₂ (by rfl) <| args_cons <| const_T [46] <| args_nil ⟨Sub.refl _, fun hf => ?_⟩
  refine translate0_ok R' hf (Gg.keeps F₂.keep) hx hlt hne fun D vs h₃ tk₃ k₃ hn₃ hl₃ hx₃ => ?_
  refine stF (F₂.cons k₃ hn₃ hl₃ (o := .list _)).swap fun h₄ F₄ => ?_
  refine wpAny_execs_cons <| wpAny_Return_some <| callF 9 (Gg.keeps F₄.keep) fun f hf => args_cons <| ldF F₄ (by rfl) <| args_cons <| ldF F₄ (by rfl) <| args_nil ⟨Sub.refl _, fun hf => ?_⟩
  refine joined_ok (k := k + 1) R' hf (Gg.keeps F₄.keep) (F₄.get 1 rfl) hx₃ (by rw [List.length_map]; exact hx) (Nat.le_trans (escL_sum x) (by omega)) fun t' h₅ tk₅ k₅ => ?_
  exact hQ t' h₅ tk₅ ((Sg.trans F₄.keep).trans k₅)
end
end Mine
end

section
open PySem PySem.W PyProof.Rows PySem.Calls
set_option maxRecDepth 100000
set_option linter.unusedVariables false
namespace Mine

noncomputable def takenL (xs : List (List Nat)) (y : List Nat) : List Int := ((List.range xs.length).filter fun k => (xs.getD k []).take y.length == y).map fun (k : Nat) => (k : Int)

theorem cl_neg {n k : Nat} (h : 0 < k) (hk : k ≤ n) : cl n (-(k : Int)) = n - k := by unfold cl; rw [if_pos (by omega)]; omega
theorem cl_neg5 {n : Nat} (hk : 5 ≤ n) : cl n (-5) = n - 5 := cl_neg (k := 5) (by omega) hk

theorem trans_to (y : List Nat) : sl (transL y) none (some 4) = preL := by
  rw [show (4 : Int) = ((4 : Nat) : Int) from rfl, sl_to]
  rfl
theorem trans_len (y : List Nat) : (transL y).length = (y.map escL).flatten.length + 9 := by
  simp only [transL, preL, sufL, endL, List.length_append, List.length_cons, List.length_nil]; omega
theorem trans_end (y : List Nat) : sl (transL y) (some (-5)) none = sufL ++ endL := by
  unfold sl clO
  dsimp only
  have h := trans_len y
  rw [cl_neg5 (by omega), List.take_of_length_le (by simp)]
  have e : transL y = (preL ++ (y.map escL).flatten) ++ (sufL ++ endL) := by unfold transL; simp
  rw [e, List.drop_left']
  simp [preL, sufL, endL]
theorem trans_mid (y : List Nat) : sl (transL y) (some 4) (some (-5)) = (y.map escL).flatten := by
  unfold sl clO
  dsimp only
  have h := trans_len y
  rw [cl_neg5 (by omega), show (4 : Int) = ((4 : Nat) : Int) from rfl, cl_nat, Nat.min_eq_left (by omega)]
  have e : transL y = preL ++ ((y.map escL).flatten ++ (sufL ++ endL)) := by unfold transL; simp
  rw [e, List.drop_left' (by rfl)]
  rw [← e, h, show (y.map escL).flatten.length + 9 - 5 - 4 = (y.map escL).flatten.length by omega, List.take_left]

section
variable {prog : Program} {w : World} {A : Around} {E : Value → Shared → Prop} {s : Shared} {mg mb : Str → Option Value} {Q : Value → Shared → Prop}

set_option maxHeartbeats 8000000 in
theorem taken_ok {f l : Addr} {k : Nat} {t : Tok} {vs : Array Value} {xs : List (List Nat)} {y : List Nat}
    (R : Rm A (k + 4)) (hfn : FnAt s.heap f (defAt 27)) (G : Gl mg mb s.heap) (hl : s.heap.PlainList l vs) (hx : Txs vs xs) (hxs : xs.length ≤ 1000) (hxl : ∀ x ∈ xs, x.length ≤ 1000)
    (hy0 : y ≠ []) (hy : y.length ≤ 400) (hlt : ∀ c ∈ y, c < 128) (hne : ∀ c ∈ y, c ≠ 42 ∧ c ≠ 63 ∧ c ≠ 91)
    (hbare : ∀ c ∈ specials, c ∉ bareL (y.map escL).flatten) (hhead : (splitL 92 (y.map escL).flatten).flatten = y)
    (hQ : ∀ r h' tk vs', h'.PlainList r vs' → Ins vs' (takenL xs y) → Sub s.heap h' → s.heap.get? r = none → Q (.ref r) { s with heap := h', toks := tk }) :
    wpAny (model prog w) A (call (.ref f) [.ref l, T y t]) Q E s := by
  refine enterC (k := k + 3) [("rows", .ref l), ("word", T y t)] (fun L => [("head", L + 1 + 1), ("rows", L + 1)]) (fun z => if z = "rows" then some (.ref l) else none) (fun z => if z = "word" then some (T y t) else none) R hfn G.nolimit ?_
    (hlook := fun L p hp => by simp only [List.mem_cons, List.not_mem_nil, or_false] at hp; rcases hp with rfl | rfl <;> rfl)
    (hkind := fun L p hp => by
      simp only [List.mem_cons, List.not_mem_nil, or_false] at hp
      rcases hp with rfl | rfl
      · exact .inr ⟨by with_unfolding_all rfl, rfl⟩
      · exact .inl (by with_unfolding_all rfl))
  intro h₁ cd tk A' R' F
  replace F : Fm s.heap [(s.heap.objs.size, .ns fun z => if z = "word" then some (T y t) else none), (s.heap.objs.size + 1 + 1, .cell none), (s.heap.objs.size + 1, .cell (some (.ref l)))] h₁ := F
  have hb : bodyOf (defAt 27) = bodyOf (defAt 27) := rfl
  conv at hb => rhs; whnf
  rw [hb]; clear hb
  generalize s.heap.objs.size = L at F ⊢
  have hyf : (y.map escL).flatten.length ≤ 800 := by rw [← flatten_len_le]; have := escL_sum y; omega
  have hyl : (transL y).length ≤ 1000 := by rw [trans_len]; omega
  have hf0 : (y.map escL).flatten ≠ [] := by
    intro e
    rw [e] at hhead
    exact hy0 (by rw [← hhead]; rfl)
  refine wpAny_execs_cons <| wpAny_Assign_Name <| callF 3 (G.keeps F.keep) fun f hf => args_cons <| wpAny_BinOp <| ldF F (by rfl) <| const_T [42] <| add_T (by simp; omega) fun t1 k1 => args_nil ⟨Sub.refl _, fun hf => ?_⟩
  refine translate_ok (k := k) R' hf (G.keeps F.keep) (by omega) hlt hne fun t2 h₂ tk₂ k₂ => ?_
  refine stF (F.ext k₂) fun h₃ F₃ => ?_
  clear F k₂
  refine wpAny_execs_cons <| wpAny_If <| wpAny_isTrue_BoolOp <| wpAny_allTrue_Or_cons <| wpAny_isTrue_Compare1 ?_
  refine slice_T <| ldF F₃ (by rfl) <| evalPart_none_step <| evalPart_some_step <| wpAny_Constant_int ⟨transL y, t2, none, some (4, _), rfl, rfl, rfl, by omega, fun t3 h₄ tk₄ k₄ => ?_⟩
  have F₄ := F₃.ext k₄
  rw [show ((some ((4 : Int), tk₂ + 1)).map (·.1) : Option Int) = some 4 from rfl, Option.map_none, trans_to]
  refine const_T preL <| ne_T <| wpAny_truthy_bool ?_
  rw [if_neg (by simp)]
  refine wpAny_allTrue_Or_cons <| wpAny_isTrue_Compare1 ?_
  refine slice_T <| ldF F₄ (by rfl) <| evalPart_some_step <| wpAny_UnaryOp <| wpAny_Constant_int <| neg_int <| evalPart_none_step ⟨transL y, t2, some (-5, _), none, rfl, rfl, rfl, by omega, fun t3 h₅ tk₅ k₅ => ?_⟩
  have F₅ := F₄.ext k₅
  simp only [Option.map_some, Option.map_none]
  rw [trans_end]
  refine const_T (sufL ++ endL) <| ne_T <| wpAny_truthy_bool ?_
  rw [if_neg (by simp)]
  refine wpAny_allTrue_Or_nil ?_
  rw [if_neg (by decide)]
  refine wpAny_execs_nil ?_
  clear F₃ F₄ k₄ k₅
  refine wpAny_execs_cons <| wpAny_Assign_Name <| callF 26 (G.keeps F₅.keep) fun f hf => args_cons <| slice_T <| ldF F₅ (by rfl) <| evalPart_some_step <| wpAny_Constant_int <| evalPart_some_step <| wpAny_UnaryOp <| wpAny_Constant_int <| neg_int
    ⟨transL y, t2, some (4, _), some (-5, _), rfl, rfl, rfl, by omega, fun t3 h₆ tk₆ k₆ => args_nil ⟨k₆, fun hf => ?_⟩⟩
  have F₆ := F₅.ext k₆
  simp only [Option.map_some]
  rw [trans_mid]
  refine plain_ok R' hf (G.keeps F₆.keep) hf0 (by omega) hbare fun t4 h₇ tk₇ k₇ => ?_
  rw [hhead]
  refine stC1 (F₆.ext k₇) fun h₈ F₈ => ?_
  clear F₅ F₆ k₆ k₇
  have cr := F₈.get 2 rfl
  have ch := F₈.get 1 rfl
  have hl₈ : h₈.IsList l vs := (hl.at fun o e => F₈.keep _ o e).isList
  have hsz := hx.size
  refine wpAny_execs_cons <| wpAny_Return_some <| comp_pure (α := Int) ti [("rows", L + 1), ("head", L + 1 + 1)] R'.handled <| callT (G.keeps F₈.keep) boot_range <| args_cons <| callB1 (G.keeps F₈.keep) boot_len <| ldC cr <| len_list hl₈ (by omega) <| args_nil <| call_range_1 ?_
  rw [hsz]
  refine ⟨xs.length, _, fun k => (xs.getD k []).take y.length == y, fun (k : Nat) => (k : Int), Src.range0 (Heap.get?_push_size _ rfl) (by omega) (Sub.refl _), by rw [sizeLine_eq]; omega, ?_, ?_, ?_⟩
  · rintro i v C m s' g E' hi ⟨t', rfl⟩ hs F' hm
    have cr' := cellK (cellK (cellK cr sub_push) hs) F'.keep
    have ch' := cellK (cellK (cellK ch sub_push) hs) F'.keep
    have Gm := (((G.keeps F₈.keep).keeps sub_push).keeps hs).keeps F'.keep
    have hl' : s'.heap.IsList l vs := (hl.at fun o e => F'.keep _ _ (hs _ _ (sub_push _ _ (F₈.keep _ o e)))).isList
    obtain ⟨t5, ht5⟩ := hx.get hi
    have hxi : (xs.getD i []).length ≤ 1000 := by
      rw [List.getD_eq_getElem?_getD, List.getElem?_eq_getElem hi]; exact hxl _ (List.getElem_mem hi)
    refine wpAny_tests_one <| wpAny_isTrue_Compare1 <| slice_T <| Subscript_ <| ldC cr' <| ldF F' hm <| sub_listN hl' (by omega) ht5 <| evalPart_none_step <| evalPart_some_step <| callB1 Gm boot_len <| ldC ch' <| len_T (by omega)
      ⟨xs.getD i [], t5, none, some ((y.length : Int), _), rfl, rfl, rfl, by omega, fun t1 h2 tk2 k2 => ldC (cellK ch' k2) <| eq_T <| wpAny_truthy_bool ⟨?_, h2, _, rfl, k2⟩⟩
    simp only [Option.map_some, Option.map_none, sl_to]
  · rintro i v C m s' g E' hi ⟨t', rfl⟩ _ hs F' hm
    exact ldF F' hm ⟨rfl, _, _, rfl, Sub.refl _⟩
  · intro D ys h₂ tk₂ hV k₂ hl₂ hD
    exact hQ D h₂ _ _ hl₂ hV (F₈.keep.trans (Sub.trans sub_push k₂)) (fresh_sub F₈.keep (fresh_push hD))
end
end Mine
end

section
open PySem PySem.W PyProof.Rows PySem.Calls
set_option maxRecDepth 100000
set_option linter.unusedVariables false
namespace Mine

theorem strsAre_of : ∀ {vs : List Value} {xs : List (List Nat)}, vs.map tx = xs.map some → StrsAre vs (xs.map fun x => ⟨x.toArray⟩)
  | [], [], _ => .nil
  | [], _ :: _, h => by simp at h
  | _ :: _, [], h => by simp at h
  | v :: vs, x :: xs, h => by
    simp only [List.map_cons, List.cons.injEq] at h
    obtain ⟨t, rfl⟩ := tx_some h.1
    exact .cons _ t (strsAre_of h.2)
theorem of_strsAre : ∀ {vs : List Value} {ss : List Str}, StrsAre vs ss → vs.map tx = (ss.map fun s => s.cps.toList).map some
  | _, _, .nil => rfl
  | _, _, .cons y t h => by simp only [List.map_cons, of_strsAre h]; rfl

theorem sub_strstr : isSubtype (.type "str") (.type "str") = pure true := by rw [isSubtype_type]; kernel_rfl

theorem pairwise_of_sortedS : ∀ (l : List Nat), sortedS (l.map fun c => ⟨[c].toArray⟩) = true → l.Pairwise (· ≤ ·)
  | [], _ => .nil
  | c :: r, h => by
    have key : ∀ (r : List Nat) (c : Nat), risingS ⟨[c].toArray⟩ (r.map fun c => (⟨[c].toArray⟩ : Str)) = true → (c :: r).Pairwise (· ≤ ·) := by
      intro r
      induction r with
      | nil => intro c _; exact List.pairwise_singleton ..
      | cons d r ih =>
        intro c h
        simp only [List.map_cons, risingS, Bool.and_eq_true, Bool.not_eq_true'] at h
        obtain ⟨h1, h2⟩ := h
        have h3 := ih d h2
        rw [ltCps_eq] at h1
        have hcd : c ≤ d := by
          have : ¬ ([d] < [c]) := by simpa using h1
          simp only [List.cons_lt_cons_iff] at this
          omega
        refine List.pairwise_cons.mpr ⟨fun e he => ?_, h3⟩
        rcases List.mem_cons.mp he with rfl | he
        · exact hcd
        · exact Nat.le_trans hcd ((List.pairwise_cons.mp h3).1 e he)
    exact key r c h

section
variable {prog : Program} {w : World} {A : Around} {E : Value → Shared → Prop} {s : Shared} {env : Env} {Q : Value → Shared → Prop}

theorem sorted_T {x : List Nat} {t : Tok} (hh : A.handled = none) (h64 : x.length < 64)
    (hQ : ∀ r h' tk vs (ys : List Nat), Sub s.heap h' → s.heap.get? r = none → h'.PlainList r vs → Txs vs (ys.map fun c => [c]) → ys.Perm x → ys.Pairwise (· ≤ ·) → Q (.ref r) { s with heap := h', toks := tk }) :
    wpAny (model prog w) A (call (.builtin "sorted") [T x t]) Q E s := by
  refine Calls.call_function_entry kind_sorted plain_sorted entry_sorted (args_sorted1 _) ?_
  unfold Builtin.«sorted»
  refine wpAny_bind (m := checkCount "sorted" 1 1 _) (wpAny_pure ?_)
  refine wpAny_bind (wpAny_collect_str (A := A.in1) (show A.in1.handled = none from hh) ⟨x.toArray⟩ t (fun s' acc k hg hd ho hI => ?_) (by rw [sizeLine_eq]; simp; omega))
  obtain ⟨h', g', d', tk', o'⟩ := s'
  simp only at hg hd ho k
  subst hg hd ho
  have hS : acc.toList.map tx = (x.map fun c => [c]).map some := by
    apply List.ext_getElem?
    intro i
    simp only [List.getElem?_map, Array.getElem?_toList]
    by_cases hi : i < x.length
    · have hi' : i < acc.size := by rw [hI.1]; simpa using hi
      obtain ⟨c, u, hc, hv⟩ := hI.2 i _ (Array.getElem?_eq_getElem hi')
      have hc' : x[i]? = some c := by simpa using hc
      rw [Array.getElem?_eq_getElem hi', hv, hc']; rfl
    · have hi' : acc.size ≤ i := by rw [hI.1]; simpa using hi
      rw [Array.getElem?_eq_none hi', List.getElem?_eq_none (by omega)]; rfl
  have hlen : acc.toList.length = x.length := by simpa using congrArg List.length hS
  have hS' := strsAre_of hS
  refine wpAny_bind (wpAny_newList ?_ (by rw [hlen, sizeLine_eq]; omega))
  have hoL : (h'.push (seqObj "list" acc.toList.toArray 0)).get? h'.objs.size = some (seqObj "list" acc.toList.toArray 0) := Heap.get?_push_size _ rfl
  refine wpAny_bind (wpAny_holding (wpAny_call_entry slot_list_sort ⟨_, hoL, rfl⟩ entry_list_sort (list_sort_treeK strKind_oneLt hoL hS'.keysOf (fun v₁ v₂ rest e => keyKind_strs (by rw [← e]; exact hS')) (by omega) fun st' a1 a2 => ⟨_, rfl, ?_⟩) (args_list_sort _)))
  obtain ⟨ss', b1, b2, b3⟩ := sorted_out_str hS' a1 a2
  have hmm : (x.map fun c => [c]).map (fun x => (⟨x.toArray⟩ : Str)) = x.map fun c => (⟨[c].toArray⟩ : Str) := by rw [List.map_map]; rfl
  rw [hmm] at b2
  obtain ⟨ys, hp, rfl⟩ : ∃ ys : List Nat, ys.Perm x ∧ ss' = ys.map fun c => (⟨[c].toArray⟩ : Str) := by
    refine ⟨ss'.map fun s => s.cps.toList.headD 0, ?_, ?_⟩
    · have := b2.map fun s : Str => s.cps.toList.headD 0
      rw [List.map_map] at this
      have e : x.map ((fun s : Str => s.cps.toList.headD 0) ∘ fun c => (⟨[c].toArray⟩ : Str)) = x := by
        conv => rhs; rw [← List.map_id x]
        exact List.map_congr_left fun c _ => rfl
      rwa [e] at this
    · rw [List.map_map]
      conv => lhs; rw [← List.map_id ss']
      refine List.map_congr_left fun s hs => ?_
      obtain ⟨c, _, rfl⟩ := List.mem_map.mp (b2.mem_iff.mp hs)
      rfl
  obtain ⟨e, he⟩ := sortedHeap_at (vs := acc.toList) (out := (arrOf st').map (·.2)) hoL
  refine wpAny_pure ⟨_, rfl, ?_⟩
  refine hQ _ _ _ _ ys (fun b o hb => ?_) ?_ ⟨_, he⟩ ?_ hp (pairwise_of_sortedS ys b3)
  · have hb' := k b o hb
    have hlt := Heap.lt_size hb'
    show (sortedHeap _ _ _ _).get? b = some o
    rw [sortedHeap_old (Nat.ne_of_lt hlt) (by rw [size_push']; exact Nat.lt_succ_of_lt hlt)]
    exact Heap.get?_push_of_some _ hb'
  · cases e : s.heap.get? h'.objs.size with
    | none => rfl
    | some o => exact absurd (Heap.lt_size (k _ _ e)) (Nat.lt_irrefl _)
  · unfold Txs
    have := of_strsAre b1
    rw [this, List.map_map, List.map_map, List.map_map]
    exact List.map_congr_left fun c _ => rfl

/-- a text from behind -/
theorem rev_T {value : Expr} {st : Expr} {p pos : Pos}
    (h : wpAny (model prog w) A (eval value env) (fun o s₁ => wpAny (model prog w) A (eval st env) (fun vs s₂ => ∃ x t u, o = T x t ∧ vs = .int (-1) u ∧ x.length ≤ 1000000 ∧ ∀ t' h' tk, Sub s₂.heap h' → Q (T x.reverse t') { s₂ with heap := h', toks := tk }) E s₁) E s)
    (hs : ∀ x t a, subscripted (.Slice none none (some st) p) false (.str x t) (.ref a) = operate [.ref a, .str x t] (getItem (.str x t) (.ref a)) := by intro _ _ _; with_unfolding_all rfl)
    (ht : ∀ x t r, letTemporaryGo value (.str x t) r = pure () := by intro _ _ _; with_unfolding_all rfl) :
    wpAny (model prog w) A (eval (.Subscript value (.Slice none none (some st) p) pos) env) Q E s := by
  refine Subscript_ (wpAny_mono h (fun o s₁ h₁ => wpAny_Slice <| evalPart_none_step <| evalPart_none_step <| evalPart_some_step (wpAny_mono h₁ (fun vs s₂ h₂ => ?_) fun _ _ e => e)) fun _ _ e => e)
  obtain ⟨x, t, u, rfl, rfl, hsz, hQ⟩ := h₂
  refine tail_of_ItemOn ⟨"str", _, F.slot_str_getitem.lookup, typeIs_str _ _ _, wpAny_getItem_str_slice (l := none) (u := none) (st := some (-1, u)) ⟨_, Heap.get?_push_size _ rfl, rfl, rfl⟩ rfl ?_⟩ (hs _ _ _) (ht _ _)
  have e : Txt.sliceBy ⟨x.toArray⟩ none none (-1, u) = ⟨x.reverse.toArray⟩ := by
    have h1 := step_rev_list ⟨x.toArray⟩ u
    generalize Txt.sliceBy ⟨x.toArray⟩ none none (-1, u) = r at h1 ⊢
    obtain ⟨⟨r⟩⟩ := r
    simp only [Str.length, List.size_toArray] at h1
    congr 1
    rw [h1]
    congr 1
    apply List.ext_getElem
    · simp
    · intro i h2 h3
      simp only [List.length_map, List.length_range] at h2
      have : x.length - 1 - i < x.length := by omega
      simp [Array.getD, this]
  refine post_val_or_str (s := { s₂ with heap := s₂.heap.push { cls := .type "slice", data := .fields #[.none, .none, .int (-1) u] } }) ⟨?_, fun t' k => ?_⟩
  · refine Nat.le_trans (Txt.sliceBy_le ⟨x.toArray⟩ none none (-1, u) (show (-1 : Int) ≠ 0 by decide)) ?_
    simp only [Str.length, List.size_toArray]; rw [sizeLine_eq]; omega
  · have := hQ t' _ k (fun b o e => Heap.get?_push_of_some { cls := .type "slice", data := .fields #[.none, .none, .int (-1) u] } e)
    unfold T at this
    rw [← e] at this
    exact this
end
end Mine
end

section
open PySem PySem.W PyProof.Rows PySem.Calls
set_option maxRecDepth 100000
set_option linter.unusedVariables false
namespace Mine

noncomputable def lastN (x : List Nat) : Nat := x.getD (x.length - 1) 0
noncomputable def colL (xs : List (List Nat)) : List Nat := xs.map lastN
noncomputable def fstep (first col : List Nat) (l : Int) (c : Nat) : Int := fnd c first + ((sl col none (some l)).count c : Nat)
noncomputable def bnd (first col y : List Nat) (l : Int) : Int := y.reverse.foldl (fstep first col) l
noncomputable def rngL (a b : Int) : List Int := (List.range (b - a).toNat).map fun (k : Nat) => a + (k : Int)

theorem flatten_single {α β : Type} (f : α → β) : ∀ xs : List α, (xs.map fun x => [f x]).flatten = xs.map f
  | [] => rfl
  | x :: r => by simp only [List.map_cons, List.flatten_cons, flatten_single f r]; rfl
theorem sum_single {α β : Type} (f : α → β) : ∀ xs : List α, ((xs.map fun x => [f x]).map (·.length)).sum = xs.length
  | [] => rfl
  | x :: r => by simp only [List.map_cons, List.sum_cons, sum_single f r, List.length_cons, List.length_nil]; omega

theorem fnd_bd (c : Nat) (x : List Nat) : -1 ≤ fnd c x ∧ fnd c x ≤ x.length := by
  unfold fnd
  split
  · rename_i h
    have := List.idxOf_lt_length_iff.mpr h
    omega
  · omega
theorem sl_len (x : List Nat) (a b : Option Int) : (sl x a b).length ≤ x.length := by
  unfold sl; simp only [List.length_take, List.length_drop]; omega
theorem fstep_bd (first col : List Nat) (l : Int) (c : Nat) : -1 ≤ fstep first col l c ∧ fstep first col l c ≤ first.length + col.length := by
  have h1 := fnd_bd c first
  have h2 : (sl col none (some l)).count c ≤ col.length := Nat.le_trans List.count_le_length (sl_len _ _ _)
  unfold fstep
  omega
theorem bnd_bd (first col y : List Nat) (l : Int) (h : -1 ≤ l ∧ l ≤ first.length + col.length) : -1 ≤ bnd first col y l ∧ bnd first col y l ≤ first.length + col.length := by
  unfold bnd
  generalize y.reverse = z
  induction z generalizing l with
  | nil => exact h
  | cons c r ih => exact ih _ (fstep_bd _ _ _ _)

section
variable {prog : Program} {w : World} {A : Around} {E : Value → Shared → Prop} {s : Shared} {mg mb : Str → Option Value} {Q : Value → Shared → Prop}

set_option maxHeartbeats 8000000 in
theorem found_ok {f l : Addr} {k : Nat} {t : Tok} {vs : Array Value} {xs : List (List Nat)} {y : List Nat}
    (R : Rm A (k + 1)) (hfn : FnAt s.heap f (defAt 28)) (G : Gl mg mb s.heap) (hl : s.heap.PlainList l vs) (hx : Txs vs xs) (hxs : xs.length < 64) (hxl : ∀ x ∈ xs, x ≠ [] ∧ x.length ≤ 1000)
    (hy : y.length ≤ 1000)
    (hQ : ∀ ys r h' tk vs', ys.Perm (colL xs) → ys.Pairwise (· ≤ ·) → h'.PlainList r vs' → Ins vs' (rngL (bnd ys (colL xs) y 0) (bnd ys (colL xs) y xs.length)) → Sub s.heap h' → s.heap.get? r = none → Q (.ref r) { s with heap := h', toks := tk }) :
    wpAny (model prog w) A (call (.ref f) [.ref l, T y t]) Q E s := by
  refine enter [("rows", .ref l), ("word", T y t)] [] R hfn G.nolimit (fun p hp => nomatch hp) ?_
  intro g h₁ cd tk A' R' F hgk _
  replace F : Fm g [(s.heap.objs.size, .ns _)] h₁ := F
  have Sg : Sub s.heap g := fun b o e => hgk b o (by simp) e
  have Gg : Gl mg mb g := G.keeps Sg
  have hlg : g.PlainList l vs := hl.at fun o e => Sg _ o e
  have hsz := hx.size
  have hb : bodyOf (defAt 28) = bodyOf (defAt 28) := rfl
  conv at hb => rhs; whnf
  rw [hb]; clear hb
  generalize s.heap.objs.size = L at F ⊢
  have hcl : (colL xs).length = xs.length := by simp [colL]
  refine wpAny_execs_cons <| wpAny_Assign_Name ?_ ?_
  rotate_left
  · with_unfolding_all rfl
  refine join_T <| comp_map (α := List Nat) tx [] R'.handled <| ldF F (by rfl) ?_
  refine ⟨_, _, fun i => [lastN (xs.getD i [])], Src.texts (hlg.at fun o e => F.keep _ o e).isList hx (Sub.refl _), by rw [sizeLine_eq]; omega, ?_, ?_⟩
  · rintro i v C m s' g' E' hi ⟨t', rfl⟩ hs F' hm
    have hi' : i < xs.length := by omega
    have hmem : xs.getD i [] ∈ xs := by rw [List.getD_eq_getElem?_getD, List.getElem?_eq_getElem hi']; exact List.getElem_mem hi'
    obtain ⟨hne, hle⟩ := hxl _ hmem
    have hpos : 0 < (xs.getD i []).length := List.length_pos_iff.mpr hne
    refine Subscript_ <| ldF F' hm <| wpAny_UnaryOp <| wpAny_Constant_int <| neg_int <| item_T ((xs.getD i []).length - 1) (by omega) (.inr (by omega)) (c := lastN (xs.getD i [])) ?_ (by omega) ?_
    · unfold lastN; rw [List.getD_eq_getElem?_getD (l := xs.getD i []), List.getElem?_eq_getElem (by omega)]; rfl
    · exact ⟨rfl, s'.heap, _, rfl, Sub.refl _⟩
  intro D ys₀ h₂ tk₂ hV k₂ hl₂ hr₂
  rw [hsz, range_getDL xs [] (fun p => [lastN p])] at hV
  refine ⟨D, List.toArray ys₀, _, rfl, hl₂.isList, hV, by rw [sum_single]; omega, fun t1 tk1 => ?_⟩
  rw [flatten_single]
  refine stF (F.ext k₂) fun h₃ F₃ => ?_
  clear F k₂ hV hl₂ hr₂
  change Fm g [(L, .ns fun y => if y = "column" then some (T (colL xs) t1) else _)] h₃ at F₃
  refine wpAny_execs_cons <| wpAny_Assign_Name ?_ ?_
  rotate_left
  · with_unfolding_all rfl
  refine join_T <| callB1 (Gg.keeps F₃.keep) boot_sorted <| ldF F₃ (by rfl) <| sorted_T R'.handled (by omega) fun D₄ h₄ tk₄ vs₄ ys k₄ hn₄ hl₄ hx₄ hp hsrt => ?_
  have hyl : ys.length = xs.length := by rw [hp.length_eq, hcl]
  refine ⟨D₄, vs₄, _, rfl, hl₄.isList, hx₄, by have := sum_single (fun c : Nat => c) ys; rw [this]; omega, fun t2 tk2 => ?_⟩
  have hfl : (ys.map fun c => [c]).flatten = ys := by have := flatten_single (fun c : Nat => c) ys; rw [this, List.map_id']
  rw [hfl]
  refine stF (F₃.ext k₄) fun h₅ F₅ => ?_
  clear F₃ k₄ hl₄ hx₄ hn₄
  refine wpAny_execs_cons <| wpAny_Assign_Name <| wpAny_Constant_int <| stF F₅ fun h₆ F₆ => ?_
  refine wpAny_execs_cons <| wpAny_Assign_Name <| callB1 (Gg.keeps F₆.keep) boot_len <| ldF F₆ (by rfl) <| len_T (by omega) <| stF F₆ fun h₇ F₇ => ?_
  rw [hcl] at F₇
  clear F₅ F₆
  refine seq_mid (fun s' => ∃ h tk m t1 t2, s' = { s with heap := h, toks := tk } ∧ Fm g [(L, .ns m)] h ∧ m "low" = some (.int (bnd ys (colL xs) y 0) t1) ∧ m "high" = some (.int (bnd ys (colL xs) y xs.length) t2)) ?_ ?_
  · refine for_any R'.handled <| rev_T <| ldF F₇ (by rfl) <| wpAny_UnaryOp <| wpAny_Constant_int <| neg_int ⟨y, t, _, rfl, rfl, by omega, fun t3 h₈ tk₈ k₈ => ?_⟩
    refine Src.str (g := g) (F₇.ext k₈).keep _ _ _ R'.handled fun I h₉ hn₉ T₉ k₉ => ?_
    have F₉ := (F₇.ext k₈).ext k₉
    refine ⟨I, g, [], _, _, _, fun i m os => os = [] ∧ m "first" = some (T ys t2) ∧ m "column" = some (T (colL xs) t1) ∧ ∃ t5 t6, m "low" = some (.int ((y.reverse.take i).foldl (fstep ys (colL xs)) 0) t5) ∧ m "high" = some (.int ((y.reverse.take i).foldl (fstep ys (colL xs)) xs.length) t6), rfl, T₉, F₉, ?_, ⟨rfl, rfl, rfl, _, _, rfl, rfl⟩, ?_, ?_⟩
    · intro p hp
      obtain ⟨o, ho⟩ := (F₇.ext k₈).fresh p hp
      exact (ne_of_none hn₉ ho).symm
    · rintro i m os v s' g' hi ⟨rfl, m1, m2, t5, t6, m3, m4⟩ ⟨c, u, hc, rfl⟩ hs F
      have hc' : y.reverse[i]? = some c := by simpa using hc
      refine wpAny_execs_cons <| wpAny_Assign_Name <| wpAny_BinOp <| find_T (c := c) <| ldF F m1 ⟨ys, t2, rfl, ldF F (by rfl) ⟨u, rfl, ?_⟩⟩
      refine count_T (c := c) <| slice_T <| ldF F m2 <| evalPart_none_step <| evalPart_some_step <| ldF F m3 ⟨colL xs, t1, none, some (_, t5), rfl, rfl, rfl, by omega, fun t7 h₁ tk₁ k₁ => ⟨_, t7, rfl, ldF (F.ext k₁) (by rfl) ⟨u, rfl, add_int <| stF (F.ext k₁) fun h₂ F₂ => ?_⟩⟩⟩
      refine wpAny_execs_cons <| wpAny_Assign_Name <| wpAny_BinOp <| find_T (c := c) <| ldF F₂ m1 ⟨ys, t2, rfl, ldF F₂ (by rfl) ⟨u, rfl, ?_⟩⟩
      refine count_T (c := c) <| slice_T <| ldF F₂ m2 <| evalPart_none_step <| evalPart_some_step <| ldF F₂ m4 ⟨colL xs, t1, none, some (_, t6), rfl, rfl, rfl, by omega, fun t8 h₃ tk₃ k₃ => ⟨_, t8, rfl, ldF (F₂.ext k₃) (by rfl) ⟨u, rfl, add_int <| stF (F₂.ext k₃) fun h₄ F₄ => ?_⟩⟩⟩
      have key : ∀ l0 : Int, (y.reverse.take (i + 1)).foldl (fstep ys (colL xs)) l0 = fnd c ys + ((sl (colL xs) none (some ((y.reverse.take i).foldl (fstep ys (colL xs)) l0))).count c : Nat) := fun l0 => by
        rw [List.take_add_one, hc', Option.toList_some, List.foldl_append]; rfl
      exact wpAny_execs_nil ⟨rfl, ⟨_, _, rfl⟩, _, _, F₄, rfl, m1, m2, _, _, congrArg (fun z => some (Value.int z _)) (key 0).symm, congrArg (fun z => some (Value.int z _)) (key xs.length).symm⟩
    · rintro m os h' tk ⟨rfl, m1, m2, t5, t6, m3, m4⟩ F
      have e : y.reverse.take (⟨y.reverse.toArray⟩ : Str).cps.size = y.reverse := List.take_of_length_le (by simp)
      rw [e] at m3 m4
      exact ⟨rfl, h', _, m, t5, t6, rfl, F, m3, m4⟩
  · rintro s' ⟨h, tk, m, t3, t4, rfl, F, m1, m2⟩
    have b1 := bnd_bd ys (colL xs) y 0 (by omega)
    have b2 := bnd_bd ys (colL xs) y xs.length (by omega)
    rw [hyl, hcl] at b1 b2
    refine wpAny_execs_cons <| wpAny_Return_some <| callT (Gg.keeps F.keep) PyProof.Rows.boot_list <| args_cons <| callT (Gg.keeps F.keep) boot_range <| args_cons <| ldF F m1 <| args_cons <| ldF F m2 <| args_nil <| call_range_2 <| args_nil ?_
    refine call_list_range (n := (bnd ys (colL xs) y xs.length - bnd ys (colL xs) y 0).toNat) R'.handled (Heap.get?_push_size _ rfl) (small_one (by omega) (by omega) (by omega) (by omega)) (by rw [rangeSize_one]; split <;> omega) (by omega) fun h' tk' acc c' k' hS hI => ?_
    have S' : Sub h h' := fun b o e => k' b o (Heap.get?_push_of_some _ e)
    refine hQ ys _ h' tk' acc hp hsrt ⟨_, hS⟩ ?_ ((Sg.trans F.keep).trans S') ?_
    · apply List.ext_getElem?
      intro i
      simp only [List.getElem?_map, Array.getElem?_toList, rngL]
      by_cases hi : i < acc.size
      · obtain ⟨u, hu⟩ := hI.2 i _ (Array.getElem?_eq_getElem hi)
        have h2 := hI.1
        rw [Array.getElem?_eq_getElem hi, hu, List.getElem?_range (by omega)]
        simp [ti]
      · have h2 := hI.1
        rw [Array.getElem?_eq_none (by omega), List.getElem?_eq_none (by simp; omega)]; rfl
    · have e1 : s.heap.get? (h.push { cls := .type "range", data := .fields #[.int (bnd ys (colL xs) y 0) t3, .int (bnd ys (colL xs) y xs.length) t4, .int 1 tk] }).objs.size = none := by
        refine fresh_sub (Sg.trans F.keep) (fresh_push (o := { cls := .type "range", data := .fields #[.int (bnd ys (colL xs) y 0) t3, .int (bnd ys (colL xs) y xs.length) t4, .int 1 tk] }) (fresh_size _))
      exact e1
end
end Mine
end

section
open PySem PySem.W PyProof.Rows PySem.Calls
set_option maxRecDepth 100000
set_option linter.unusedVariables false
namespace Mine

noncomputable def plcL (xs : List (List Nat)) (k : Int) : Int := ((xs.getD k.toNat []).length : Int) - 1 - fnd 33 (xs.getD k.toNat [])

theorem plain_list {h : Heap} {l : Addr} {vs : Array Value} (x : h.PlainList l vs) : h.IsList l vs.toList.toArray := by rw [Array.toArray_toList]; exact x.isList

section
variable {prog : Program} {w : World} {A : Around} {E : Value → Shared → Prop} {s : Shared} {mg mb : Str → Option Value} {Q : Value → Shared → Prop}

set_option maxHeartbeats 8000000 in
theorem holds_ok {f l p : Addr} {k : Nat} {t : Tok} {vs vp : Array Value} {xs : List (List Nat)} {y : List Nat} {ps : List Int}
    (R : Rm A (k + 5)) (hfn : FnAt s.heap f (defAt 30)) (G : Gl mg mb s.heap) (hl : s.heap.PlainList l vs) (hx : Txs vs xs) (hxs : xs.length < 64) (hxl : ∀ x ∈ xs, x ≠ [] ∧ x.length ≤ 1000)
    (hp : s.heap.PlainList p vp) (hps : Ins vp ps)
    (hy0 : y ≠ []) (hy : y.length ≤ 400) (hlt : ∀ c ∈ y, c < 128) (hne : ∀ c ∈ y, c ≠ 42 ∧ c ≠ 63 ∧ c ≠ 91)
    (hbare : ∀ c ∈ specials, c ∉ bareL (y.map escL).flatten) (hhead : (splitL 92 (y.map escL).flatten).flatten = y)
    (H1 : ∀ ys : List Nat, ys.Perm (colL xs) → ys.Pairwise (· ≤ ·) → rngL (bnd ys (colL xs) y 0) (bnd ys (colL xs) y xs.length) = takenL xs y)
    (H2 : ((takenL xs y).map (plcL xs)).Perm ps) (H3 : ps.Pairwise (· ≤ ·))
    (hQ : ∀ h' tk, Sub s.heap h' → Q (.bool true) { s with heap := h', toks := tk }) :
    wpAny (model prog w) A (call (.ref f) [.ref l, T y t, .ref p]) Q E s := by
  refine enterC (k := k + 4) [("rows", .ref l), ("word", T y t), ("places", .ref p)] (fun L => [("rows", L + 1)]) (fun z => if z = "rows" then some (.ref l) else none) (fun z => if z = "places" then some (.ref p) else if z = "word" then some (T y t) else none) R hfn G.nolimit ?_
    (hlook := fun L p hp => by rcases List.mem_singleton.mp hp with rfl; rfl)
    (hkind := fun L p hp => by
      simp only [List.mem_cons, List.not_mem_nil, or_false] at hp
      rcases hp with rfl | rfl | rfl
      · exact .inr ⟨by with_unfolding_all rfl, rfl⟩
      · exact .inl (by with_unfolding_all rfl)
      · exact .inl (by with_unfolding_all rfl))
  intro h₁ cd tk A' R' F
  replace F : Fm s.heap [(s.heap.objs.size, .ns fun z => if z = "places" then some (.ref p) else if z = "word" then some (T y t) else none), (s.heap.objs.size + 1, .cell (some (.ref l)))] h₁ := F
  have hb : bodyOf (defAt 30) = bodyOf (defAt 30) := rfl
  conv at hb => rhs; whnf
  rw [hb]; clear hb
  generalize s.heap.objs.size = L at F ⊢
  have hsz := hx.size
  have up : ∀ {h : Heap}, Sub s.heap h → h.PlainList l vs := fun k => hl.at fun o e => k _ o e
  have cr := F.get 1 rfl
  refine wpAny_execs_cons <| wpAny_Assign_Name <| callF 28 (G.keeps F.keep) fun f hf => args_cons <| ldC cr <| args_cons <| ldF F (by rfl) <| args_nil ⟨Sub.refl _, fun hf => ?_⟩
  refine found_ok (k := k + 3) R' hf (G.keeps F.keep) (up F.keep) hx hxs hxl (by omega) fun ys r h₂ tk₂ vs₂ a1 a2 hl₂ hi₂ k₂ hn₂ => ?_
  rw [H1 ys a1 a2] at hi₂
  refine stF (F.cons k₂ hn₂ (o := .list _) hl₂).swap fun h₃ F₃ => ?_
  clear F k₂ hl₂ hn₂
  have cr := F₃.get 2 rfl
  refine wpAny_execs_cons <| wpAny_Return_some <| wpAny_And2 <| wpAny_Compare1 <| callF 27 (G.keeps F₃.keep) fun f hf => args_cons <| ldC cr <| args_cons <| ldF F₃ (by rfl) <| args_nil ⟨Sub.refl _, fun hf => ?_⟩
  refine taken_ok (k := k) R' hf (G.keeps F₃.keep) (up F₃.keep) hx (by omega) (fun x hx => (hxl x hx).2) hy0 hy hlt hne hbare hhead fun r₄ h₄ tk₄ vs₄ hl₄ hi₄ k₄ hn₄ => ?_
  have F₄ := F₃.ext k₄
  refine ldF F₄ (by rfl) ?_
  refine eq_intsK (plain_list hl₄) (intsAre_of hi₄) (plain_list (F₄.get 1 rfl)) (intsAre_of hi₂) (by have := R'.units; omega) <| wpAny_truthy_bool ?_
  rw [decide_eq_true rfl, if_pos rfl]
  have hsz₂ : vs₂.size = (takenL xs y).length := by simpa using congrArg List.length hi₂
  have htk : (takenL xs y).length ≤ xs.length := by
    unfold takenL; rw [List.length_map]
    exact Nat.le_trans (List.length_filter_le _ _) (by simp)
  have hmem : ∀ i, i < (takenL xs y).length → ∃ j : Nat, j < xs.length ∧ (takenL xs y)[i]? = some (j : Int) := fun i hi => by
    have : (takenL xs y)[i] ∈ takenL xs y := List.getElem_mem hi
    unfold takenL at this
    obtain ⟨j, hj, e⟩ := List.mem_map.mp this
    refine ⟨j, List.mem_range.mp (List.mem_filter.mp hj).1, ?_⟩
    rw [List.getElem?_eq_getElem hi]; exact congrArg some e.symm
  have cr := F₄.get 2 rfl
  refine wpAny_Compare1 <| callB1 (G.keeps F₄.keep) boot_sorted <| comp_map (α := Int) ti [("rows", L + 1)] R'.handled <| ldF F₄ (by rfl) ?_
  refine ⟨_, _, fun i => plcL xs ((takenL xs y).getD i 0), Src.list (F₄.lst 1 rfl) (Sub.refl _), by rw [sizeLine_eq]; omega, ?_, ?_⟩
  · rintro i v C m s' g' E' hi hv hs F' hm
    obtain ⟨j, hj, ej⟩ := hmem i (by omega)
    obtain ⟨u, rfl⟩ : ∃ u, v = .int (j : Int) u := by
      have h1 := congrArg (·[i]?) hi₂
      simp only [List.getElem?_map, Array.getElem?_toList, hv, ej] at h1
      exact ti_some (by simpa using h1)
    have hgd : (takenL xs y).getD i 0 = (j : Int) := by rw [List.getD_eq_getElem?_getD, ej]; rfl
    have cr' := cellK (cellK cr hs) F'.keep
    have Gm := ((G.keeps F₄.keep).keeps hs).keeps F'.keep
    have hl' := (up ((F₄.keep.trans hs).trans F'.keep)).isList
    obtain ⟨t5, ht5⟩ := hx.get hj
    have hxi : (xs.getD j []).length ≤ 1000 := by
      rw [List.getD_eq_getElem?_getD, List.getElem?_eq_getElem hj]; exact (hxl _ (List.getElem_mem hj)).2
    refine wpAny_BinOp <| wpAny_BinOp <| callB1 Gm boot_len <| Subscript_ <| ldC cr' <| ldF F' hm <| sub_listN hl' (by omega) ht5 <| len_T (by omega) <| wpAny_Constant_int <| sub_int ?_
    refine find_T (c := 33) <| Subscript_ <| ldC cr' <| ldF F' hm <| sub_listN hl' (by omega) ht5 ⟨xs.getD j [], t5, rfl, const_T [33] ⟨_, rfl, sub_int ⟨?_, _, _, rfl, Sub.refl _⟩⟩⟩
    show some _ = some (plcL xs ((takenL xs y).getD i 0))
    rw [hgd]; rfl
  intro D ys₅ h₅ tk₅ hV k₅ hl₅ hn₅
  have hV' : ys₅.map ti = ((takenL xs y).map (plcL xs)).map some := by
    have := range_getDL (takenL xs y) 0 (plcL xs)
    rw [hsz₂] at hV
    rw [← this]; exact hV
  have hlen5 : ys₅.length = (takenL xs y).length := by simpa using congrArg List.length hV'
  refine sorted_ints hl₅.isList (intsAre_of hV') (by omega) fun out ns' b1 b2 b3 => ?_
  have hns : ns' = ps := List.Perm.eq_of_pairwise (fun x y _ _ h1 h2 => Int.le_antisymm h1 h2) b3 H3 (b2.trans H2)
  subst hns
  obtain ⟨e, he⟩ := sortedAll_at h₅ ys₅ out
  have k₆ : Sub h₅ (sortedAll h₅ ys₅ out) := fun b o hb => sortedAll_old hb
  have F₆ := (F₄.ext k₅).ext k₆
  have hp' : (sortedAll h₅ ys₅ out).PlainList p vp := hp.at fun o e => F₆.keep _ o e
  refine ldF F₆ (by rfl) <| eq_intsK (plain_list ⟨_, he⟩) b1 (plain_list hp') (intsAre_of hps) (by have := R'.units; omega) ?_
  rw [decide_eq_true rfl]
  exact hQ _ _ F₆.keep
end
end Mine
end

section
open PySem PySem.W PyProof.Rows PySem.Calls
set_option maxRecDepth 100000
set_option linter.unusedVariables false
namespace Mine

noncomputable def signsL : List Nat := [46, 38, 60, 62, 34, 10, 13, 9]

structure Good (xs : List (List Nat)) (y : List Nat) (ps : List Int) : Prop where
  ne : y ≠ []
  len : y.length ≤ 400
  lt : ∀ c ∈ y, c < 128
  plain : ∀ c ∈ y, c ≠ 42 ∧ c ≠ 63 ∧ c ≠ 91
  bare : ∀ c ∈ specials, c ∉ bareL (y.map escL).flatten
  head : (splitL 92 (y.map escL).flatten).flatten = y
  found : ∀ ys : List Nat, ys.Perm (colL xs) → ys.Pairwise (· ≤ ·) → rngL (bnd ys (colL xs) y 0) (bnd ys (colL xs) y xs.length) = takenL xs y
  places : ((takenL xs y).map (plcL xs)).Perm ps
  sorted : ps.Pairwise (· ≤ ·)

noncomputable def aheadL (n : Nat) (x y : List Nat) : List Int := (placesL x y).map fun k => ((spelledL n (x.take k.toNat)).length : Int)

/-- the plain law -/
structure Plain : Prop where
  same : ∀ n x, n < 5 → x.length ≤ 5 → (∀ c ∈ x, c ∈ signsL) → writeL n x = spelledL n x
  len : ∀ n x, n < 5 → (∀ c ∈ x, c ∈ signsL) → x.length ≤ (spelledL n x).length ∧ (spelledL n x).length ≤ 6 * x.length
  rows : ∀ x, (rowsL x).length = x.length ∧ ∀ y ∈ rowsL x, y.length = x.length
  bare : ∀ n x st, n < 5 → x.length = 5 → (∀ c ∈ x, c ∈ signsL) → st + 3 ≤ (spelledL n x).length →
    Good (rowsL (spelledL n x ++ [33])) (((spelledL n x).drop st).take 3) (placesL (spelledL n x) (((spelledL n x).drop st).take 3))
  word : ∀ n x y, n < 5 → x.length = 5 → (∀ c ∈ x, c ∈ signsL) → y ≠ [] → y.length ≤ 2 → (∀ c ∈ y, c ∈ signsL) →
    Good (rowsL (spelledL n x ++ [33])) (spelledL n y) (aheadL n x y)

noncomputable def sg (z : Int) : Nat := signsL.getD (z.fmod 8).toNat 0

theorem fmod_nat (z : Int) (n : Nat) (h : 0 < n) : ∃ k : Nat, k < n ∧ z.fmod n = (k : Int) := by
  have h1 := Int.fmod_nonneg_of_pos z (show (0 : Int) < n by omega)
  have h2 := Int.fmod_lt_of_pos z (show (0 : Int) < n by omega)
  exact ⟨(z.fmod n).toNat, by omega, by omega⟩

theorem sg_mem (z : Int) : sg z ∈ signsL := by
  obtain ⟨k, hk, e⟩ := fmod_nat z 8 (by omega)
  unfold sg
  rw [show (8 : Int) = ((8 : Nat) : Int) from rfl, e, Int.toNat_natCast]
  have : ∀ k : Nat, k < 8 → signsL.getD k 0 ∈ signsL := by decide
  exact this k hk

section
variable {prog : Program} {w : World} {A : Around} {E : Value → Shared → Prop} {s : Shared} {mg mb : Str → Option Value} {Q : Value → Shared → Prop} {env : Env}

theorem callV {m : Str → Option Value} {g : Heap} {os : List (Addr × Own)} {x : Str} {p pos : Pos} {e : Expr} {rest : List Expr} {f : Addr} {st : Stmt} (F : Fm g ((env.locals, .ns m) :: os) s.heap) (hv : m x = some (.ref f)) (hf : FnAt s.heap f st)
    (h : wpAny (model prog w) A (spliced (backTo pos (starEach (e :: rest) env))) (fun vs s₁ => Sub s.heap s₁.heap ∧ (FnAt s₁.heap f st → wpAny (model prog w) A (call (.ref f) vs) Q E s₁)) E s)
    (hk : env.scope.kind = .function := by with_unfolding_all rfl) (hl : env.kindOf x = some .local := by with_unfolding_all rfl) (hd : (x == ("__debug__" : Str)) = false := by decide)
    (he : starEach (e :: rest) env = (false, eval e env) :: starEach rest env := by with_unfolding_all rfl) :
    wpAny (model prog w) A (eval (.Call (.Name x p) (e :: rest) [] pos) env) Q E s := by
  refine wpAny_Call_NameR (ldF F hv ?_ hk hl hd)
  obtain ⟨o, pm, cd, doc, ho, hdat, _⟩ := id hf
  exact callWith_def hdat (wpAny_mono h (fun vs s₁ q => ⟨q.1 f o ho, q.2 (hf.keeps q.1)⟩) fun _ _ q => q) he

theorem wpAny_And3 {x y z : Expr} {pos : Pos}
    (h : wpAny (model prog w) A (eval x env) (fun v s₁ => v = .bool true ∧ wpAny (model prog w) A (eval y env) (fun v s₂ => v = .bool true ∧ wpAny (model prog w) A (eval z env) Q E s₂) E s₁) E s) :
    wpAny (model prog w) A (eval (.BoolOp .And [x, y, z] pos) env) Q E s := by
  show wpAny (model prog w) A (do
    let v ← eval x env
    standAt pos
    let t ← holding [v] (truthy v)
    match BoolOp.And, t with
    | .And, false | .Or, true => pure v
    | _, _ => boolOp pos .And [eval y env, eval z env]) Q E s
  refine wpAny_bind (wpAny_mono h (fun v s₁ h₁ => wpAny_bind (wpAny_standAt (wpAny_bind (wpAny_holding ?_)))) fun _ _ x => x)
  obtain ⟨rfl, h₁⟩ := h₁
  refine wpAny_truthy_bool ?_
  show wpAny (model prog w) A (do
    let v ← eval y env
    standAt pos
    let t ← holding [v] (truthy v)
    match BoolOp.And, t with
    | .And, false | .Or, true => pure v
    | _, _ => boolOp pos .And [eval z env]) Q E s₁
  refine wpAny_bind (wpAny_mono h₁ (fun v s₂ h₂ => wpAny_bind (wpAny_standAt (wpAny_bind (wpAny_holding ?_)))) fun _ _ x => x)
  obtain ⟨rfl, h₂⟩ := h₂
  exact wpAny_truthy_bool h₂

theorem esc_ok {n i : Nat} {f : Addr} {k : Nat} {t : Tok} {x : List Nat} (R : Rm A (k + 1)) (hn : n < 5) (hi : i = 17 + n) (hfn : FnAt s.heap f (defAt i)) (G : Gl mg mb s.heap) (hx : x.length ≤ 5)
    (hQ : ∀ t' h' tk, Sub s.heap h' → Q (T (writeL n x) t') { s with heap := h', toks := tk }) : wpAny (model prog w) A (call (.ref f) [T x t]) Q E s := by
  match n, hn with
  | 0, _ => obtain rfl : i = 17 := hi
            exact esc0_ok R hfn G hx hQ
  | 1, _ => obtain rfl : i = 18 := hi
            exact esc1_ok R hfn G hx hQ
  | 2, _ => obtain rfl : i = 19 := hi
            exact esc2_ok R hfn G hx hQ
  | 3, _ => obtain rfl : i = 20 := hi
            exact esc3_ok R hfn G hx hQ
  | 4, _ => obtain rfl : i = 21 := hi
            exact esc4_ok R hfn G hx hQ

theorem good_holds {f l p : Addr} {k : Nat} {t : Tok} {vs vp : Array Value} {xs : List (List Nat)} {y : List Nat} {ps : List Int}
    (R : Rm A (k + 5)) (hfn : FnAt s.heap f (defAt 30)) (G : Gl mg mb s.heap) (hl : s.heap.PlainList l vs) (hx : Txs vs xs) (hxs : xs.length < 64) (hxl : ∀ x ∈ xs, x ≠ [] ∧ x.length ≤ 1000)
    (hp : s.heap.PlainList p vp) (hps : Ins vp ps) (g : Good xs y ps)
    (hQ : ∀ h' tk, Sub s.heap h' → Q (.bool true) { s with heap := h', toks := tk }) :
    wpAny (model prog w) A (call (.ref f) [.ref l, T y t, .ref p]) Q E s :=
  holds_ok R hfn G hl hx hxs hxl hp hps g.ne g.len g.lt g.plain g.bare g.head g.found g.places g.sorted hQ
end
end Mine
end

section
open PySem PySem.W PyProof.Rows PySem.Calls
set_option maxRecDepth 100000
set_option linter.unusedVariables false
namespace Mine

theorem Ins.get {vs : Array Value} {ns : List Int} (h : Ins vs ns) {i : Nat} (hi : i < ns.length) : ∃ t, vs[i]? = some (.int (ns.getD i 0) t) := by
  have h1 := congrArg (·[i]?) h
  simp only [List.getElem?_map, Array.getElem?_toList, List.getElem?_eq_getElem hi, Option.map_some] at h1
  cases e : vs[i]? with
  | none => rw [e] at h1; simp at h1
  | some v =>
    rw [e] at h1
    obtain ⟨t, rfl⟩ := ti_some (by simpa using h1 : ti v = some ns[i])
    exact ⟨t, by rw [List.getD_eq_getElem?_getD, List.getElem?_eq_getElem hi]; rfl⟩

/-- a name of the text's own def, that lies in the ground -/
theorem glFg {M : Model} {A : Around} {E : Value → Shared → Prop} {s : Shared} {env : Env} {mg mb : Str → Option Value} {g : Heap} {x : Str} {pos : Pos} {Q : Value → Shared → Prop} (i : Nat) (G : Gl mg mb g) (k : Sub g s.heap) (h : ∀ f, FnAt g f (defAt i) → Q (.ref f) s)
    (hi : i ∈ defIdx := by decide) (hx : x = nameOf (defAt i) := by with_unfolding_all rfl) (hg : env.globals = mainGlobals := by with_unfolding_all rfl)
    (hk : env.scope.kind = .function := by with_unfolding_all rfl) (hl : env.kindOf x = some .globalImplicit := by with_unfolding_all rfl) (hd : (x == ("__debug__" : Str)) = false := by decide) :
    wpAny M A (eval (.Name x pos) env) Q E s := by
  obtain ⟨f, hm, hf⟩ := G.fn i hi
  exact Name_function_global hk hl (loadGlobal_global (env := env) (by rw [hg]; exact (G.keeps k).g) (by rw [hx]; exact hm) (h f hf)) hd

/-- a state, told by its heap -/
theorem collapse {α : Type} {M : Model} {A : Around} {E : Value → Shared → Prop} {s S : Shared} {t : Sem α} {Q : α → Shared → Prop} (h₀ : Heap) (hS : ∃ tk, S = { s with heap := h₀, toks := tk })
    (h : ∀ tk, wpAny M A t Q E { s with heap := h₀, toks := tk }) : wpAny M A t Q E S := by
  obtain ⟨tk, rfl⟩ := hS
  exact h tk

section
variable {prog : Program} {w : World} {A : Around} {E : Value → Shared → Prop} {s : Shared} {mg mb : Str → Option Value} {Q : Flow → Shared → Prop}

theorem Fm.join {g h h' : Heap} {os os2 : List (Addr × Own)} (F : Fm g os h) (F2 : Fm h os2 h') : Fm g (os2 ++ os) h' := by
  refine ⟨F.keep.trans F2.keep, fun p hp => ?_, fun p hp => ?_, List.pairwise_append.mpr ⟨F2.apart, F.apart, fun p hp q hq e => ?_⟩⟩
  · rcases List.mem_append.mp hp with hp | hp
    · exact F2.own p hp
    · exact Own.keep (F.own p hp) fun x e => F2.keep _ _ e
  · rcases List.mem_append.mp hp with hp | hp
    · exact fresh_sub F.keep (F2.out p hp)
    · exact F.out p hp
  · obtain ⟨x, hx⟩ := F.fresh q hq
    exact ne_of_none (F2.out p hp) hx e

theorem Fm.split {g h : Heap} {a : Addr} {o : Own} {os : List (Addr × Own)} (F : Fm g ((a, o) :: os) h) : ∃ gL, Fm gL [(a, o)] h ∧ Fm g os gL := by
  have hap : ∀ p ∈ os, a ≠ p.1 := fun p hp => (List.pairwise_cons.mp F.apart).1 p hp
  refine ⟨hideAll h [a], ⟨fun b x e => of_hideAll _ e, fun p hp => ?_, fun p hp => ?_, List.pairwise_singleton ..⟩, ⟨fun b x e => hideAll_get _ (F.keep b x e) ?_, fun p hp => ?_, fun p hp => F.out p (.tail _ hp), (List.pairwise_cons.mp F.apart).2⟩⟩
  · rcases List.mem_singleton.mp hp with rfl
    exact F.own _ (.head _)
  · rcases List.mem_singleton.mp hp with rfl
    exact hideAll_none _ (.head _)
  · intro hb
    rcases List.mem_singleton.mp hb with rfl
    have := F.out (b, o) (.head _)
    rw [e] at this; cases this
  · exact Own.keep (F.own p (.tail _ hp)) fun x e => hideAll_get _ e (by simpa using (hap p hp).symm)

theorem places_at (x y : List Nat) : ∀ j, j < (placesL x y).length → ∃ q : Nat, q < x.length ∧ (placesL x y)[j]? = some (q : Int) := fun i hi => by
  have : (placesL x y)[i] ∈ placesL x y := List.getElem_mem hi
  unfold placesL at this
  obtain ⟨j, hj, e⟩ := List.mem_map.mp this
  refine ⟨j, List.mem_range.mp (List.mem_filter.mp hj).1, ?_⟩
  rw [List.getElem?_eq_getElem hi]; exact congrArg some e.symm

noncomputable abbrev CL (L rt : Addr) (m : Str → Option Value) (v3 v2 v1 : Option Value) (vt : Array Value) (os : List (Addr × Own)) : List (Addr × Own) :=
  (L, .ns m) :: (L + 1 + 1 + 1, .cell v3) :: (L + 1 + 1, .cell v2) :: (L + 1, .cell v1) :: (rt, .list vt) :: os

set_option maxHeartbeats 2000000 in
theorem law_walk (P : Plain) {L fa a : Addr} {cd : Value} {k : Nat} {m : Str → Option Value} {os : List (Addr × Own)} {vs : Array Value} {g : Heap} (R : Rm A (k + 6)) (Gg : Gl mg mb g)
    (F : Fm g ((L, .ns m) :: (L + 1 + 1 + 1, .cell none) :: (L + 1 + 1, .cell none) :: (L + 1, .cell none) :: os) s.heap) (hm : m "script" = some (.ref a)) (hl : g.IsList a vs) (hv : AllI vs) (hsz : vs.size ≤ 1000)
    (hQ : ∀ h' tk, Fm g os h' → Q (.ret (.bool true)) { s with heap := h', toks := tk }) :
    wpAny (model prog w) A (execs (bodyOf (defAt 31)) (envOfC (nameOf (defAt 31)) (scopeOf (defAt 31)) L fa cd)) Q E s := by
  have hb : bodyOf (defAt 31) = bodyOf (defAt 31) := rfl
  conv at hb => rhs; whnf
  rw [hb]; clear hb
  refine seq_mid (fun s' => ∃ h tk m rt vt ns, s' = { s with heap := h, toks := tk } ∧ Fm g (CL L rt m none none none vt os) h ∧ Ins vt ns ∧ ns.length = 9 ∧ m "told" = some (.ref rt)) ?_ ?_
  · refine wpAny_Assign_Name <| callF 23 (Gg.keeps F.keep) fun f hf => args_cons <| ldF F (by exact hm) <| args_nil ⟨Sub.refl _, fun hf => ?_⟩
    refine told_ok (k := k + 5) R hf (Gg.keeps F.keep) (isList_keep hl fun o e => F.keep _ o e) hv hsz fun rt h₂ tk₂ vt ns hl₂ hi₂ h9 k₂ hn₂ => ?_
    refine stF (F.cons k₂ hn₂ hl₂ (o := .list _)).swap fun h₃ F₃ => ?_
    exact ⟨rfl, h₃, _, _, rt, vt, ns, rfl, F₃.perm (List.Perm.cons _ (List.perm_middle (l₁ := [(L + 1 + 1 + 1, Own.cell none), (L + 1 + 1, Own.cell none), (L + 1, Own.cell none)])).symm), hi₂, h9, rfl⟩
  rintro s' ⟨h, tk, m, rt, vt, ns, rfl, F, hi₂, h9, m1⟩
  have gi : ∀ i, i < 9 → ∃ t, vt[i]? = some (.int (ns.getD i 0) t) := fun i hi => hi₂.get (by omega)
  have hvt : vt.size = 9 := by have : vt.size = ns.length := by simpa using congrArg List.length hi₂
                               omega
  refine seq_mid (fun s' => ∃ h tk m n t, s' = { s with heap := h, toks := tk } ∧ n < 5 ∧ Fm g (CL L rt m none none (some (.int (n : Nat) t)) vt os) h ∧ m "told" = some (.ref rt)) ?_ ?_
  · obtain ⟨t5, ht5⟩ := gi 5 (by omega)
    obtain ⟨n, hn, e5⟩ := fmod_nat (ns.getD 5 0) 5 (by omega)
    refine wpAny_Assign_Name <| wpAny_BinOp <| Subscript_ <| ldF F m1 <| wpAny_Constant_int <| sub_list (F.lst 4 rfl) (by omega) (by omega) ht5 <| wpAny_Constant_int <| mod_int' (by decide) ?_
    rw [show ((ns.getD 5 0).fmod 5) = (n : Int) from e5]
    exact stC3 F fun h₅ F₅ => ⟨rfl, h₅, _, _, n, _, rfl, hn, F₅, m1⟩
  clear F m1 h tk m
  rintro s' ⟨h, tk, m, n, t1, rfl, hn, F, m1⟩
  refine seq_mid (fun s' => ∃ h tk m fw iw, s' = { s with heap := h, toks := tk } ∧ iw = 17 + n ∧ FnAt g fw (defAt iw) ∧ Fm g (CL L rt m none none (some (.int (n : Nat) t1)) vt os) h ∧ m "told" = some (.ref rt) ∧ m "write" = some (.ref fw)) ?_ ?_
  · refine wpAny_Assign_Name ?_ ?_
    rotate_left
    · with_unfolding_all rfl
    refine Subscript_ <| wpAny_List <| args_cons <| glFg 17 Gg F.keep fun f0 hf0 => args_cons <| glFg 18 Gg F.keep fun f1 hf1 => args_cons <| glFg 19 Gg F.keep fun f2 hf2 => args_cons <| glFg 20 Gg F.keep fun f3 hf3 => args_cons <|
      glFg 21 Gg F.keep fun f4 hf4 => args_nil ⟨by rw [sizeLine_eq]; show 5 ≤ _; decide, ?_⟩
    obtain ⟨fw, iw, hiw, hfw, hxw⟩ : ∃ fw i, i = 17 + n ∧ FnAt g fw (defAt i) ∧ ([Value.ref f0, .ref f1, .ref f2, .ref f3, .ref f4].toArray)[n]? = some (.ref fw) := by
      match n, hn with
      | 0, _ => exact ⟨f0, 17, rfl, hf0, rfl⟩
      | 1, _ => exact ⟨f1, 18, rfl, hf1, rfl⟩
      | 2, _ => exact ⟨f2, 19, rfl, hf2, rfl⟩
      | 3, _ => exact ⟨f3, 20, rfl, hf3, rfl⟩
      | 4, _ => exact ⟨f4, 21, rfl, hf4, rfl⟩
    exact ldC (cellK (F.get 3 rfl) sub_push) <| sub_listN ⟨_, Heap.get?_push_size _ rfl, rfl, _, rfl⟩ (by omega) hxw <| stF (F.ext sub_push) fun h₆ F₆ => ⟨rfl, h₆, _, _, fw, iw, rfl, hiw, hfw, F₆, m1, rfl⟩
  clear F m1 h tk m
  rintro s' ⟨h, tk, m, fw, iw, rfl, hiw, hfw, F, m1, m2⟩
  refine seq_mid (fun s' => ∃ h tk m t2, s' = { s with heap := h, toks := tk } ∧ Fm g (CL L rt m none (some (T signsL t2)) (some (.int (n : Nat) t1)) vt os) h ∧ m "told" = some (.ref rt) ∧ m "write" = some (.ref fw)) ?_ ?_
  · exact wpAny_Assign_Name <| const_T signsL <| stC2 F fun h₇ F₇ => ⟨rfl, h₇, _, _, _, rfl, F₇, m1, m2⟩
  clear F m1 m2 h tk m
  rintro s' ⟨h, tk, m, t2, rfl, F, m1, m2⟩
  refine seq_mid (fun s' => ∃ h tk m x t3, s' = { s with heap := h, toks := tk } ∧ x.length = 5 ∧ (∀ c ∈ x, c ∈ signsL) ∧ Fm g (CL L rt m (some (T x t3)) (some (T signsL t2)) (some (.int (n : Nat) t1)) vt os) h ∧ m "told" = some (.ref rt) ∧ m "write" = some (.ref fw)) ?_ ?_
  · refine wpAny_Assign_Name ?_ ?_
    rotate_left
    · with_unfolding_all rfl
    have cs := F.get 2 rfl
    refine join_T ?_
    refine comp_map (α := List Nat) tx [("signs", L + 1 + 1)] R.handled ?_
    have hl7 : h.IsList rt vt := F.lst 4 rfl
    have hs5 : (vt.toList.take 5).toArray.size = 5 := by simp [hvt]
    obtain ⟨x, hx⟩ : ∃ x, x = (List.range 5).map fun i => sg (ns.getD i 0) := ⟨_, rfl⟩
    obtain ⟨xg, hxg⟩ : ∃ xg, xg = (List.range 5).map fun i => [sg (ns.getD i 0)] := ⟨_, rfl⟩
    have hsum : (xg.map (·.length)).sum ≤ 1000000 := by
      have := sum_single (fun i => sg (ns.getD i 0)) (List.range 5)
      rw [hxg, this, List.length_range]; omega
    have hflx : xg.flatten = x := by rw [hxg, hx]; exact flatten_single _ _
    have hxl : x.length = 5 := by rw [hx]; simp
    have hxm : ∀ c ∈ x, c ∈ signsL := fun c hc => by
      rw [hx] at hc
      obtain ⟨i, _, rfl⟩ := List.mem_map.mp hc
      exact sg_mem _
    have el : ∀ i, i < 5 → ∃ t j, vt[i]? = some (.int (ns.getD i 0) t) ∧ j < 8 ∧ (ns.getD i 0).fmod 8 = (j : Nat) ∧ signsL[j]? = some (sg (ns.getD i 0)) := fun i hi => by
      obtain ⟨t, ht⟩ := gi i (by omega)
      obtain ⟨j, hj, ej⟩ := fmod_nat (ns.getD i 0) 8 (by omega)
      refine ⟨t, j, ht, hj, ej, ?_⟩
      unfold sg
      rw [show ((ns.getD i 0).fmod 8) = (j : Int) from ej, Int.toNat_natCast, List.getD_eq_getElem?_getD, List.getElem?_eq_getElem (show j < signsL.length from hj)]; rfl
    refine slice_L <| ldF F m1 <| evalPart_none_step <| evalPart_some_step <| wpAny_Constant_int <| evalPart_none_step ?_
    refine ⟨rt, vt, none, some 5, none, rfl, hl7, .none, .int _ _, .none, by simp, by rw [sizeLine_eq]; omega, fun r h₈ k₈ hr hl₈ => ?_⟩
    rw [show (some (5 : Int)) = some ((5 : Nat) : Int) by rfl, slicePick_upto'] at hl₈
    refine ⟨_, _, fun i => [sg (ns.getD i 0)], Src.list hl₈.isList (Sub.refl _), by rw [sizeLine_eq, hs5]; decide, ?_, ?_⟩
    · rintro i v C m' s' g' E' hi hv' hs F' hm'
      rw [hs5] at hi
      obtain ⟨ti', j, hti, hj, ej, hsg⟩ := el i hi
      have hv2 : v = .int (ns.getD i 0) ti' := by
        have : (vt.toList.take 5).toArray[i]? = vt[i]? := by simp [hi]
        rw [this, hti] at hv'; exact (Option.some.inj hv').symm
      subst hv2
      refine Subscript_ <| ldC (cellK (cellK (cellK cs k₈) hs) F'.keep) <| wpAny_BinOp <| ldF F' hm' <| wpAny_Constant_int <| mod_int' (by decide) ?_
      rw [show ((ns.getD i 0).fmod 8) = (j : Int) from ej]
      exact item_T j hj (.inl rfl) hsg (by decide) ⟨rfl, s'.heap, _, rfl, Sub.refl _⟩
    intro D ys h₉ tk₉ hV k₉ hl₉ hn₉
    rw [hs5] at hV
    rw [← hxg] at hV
    refine ⟨D, List.toArray ys, xg, rfl, hl₉.isList, hV, hsum, fun tx' tkx => ?_⟩
    rw [hflx]
    exact stC1 ((F.ext k₈).ext k₉) fun hA FA => ⟨rfl, hA, _, _, x, tx', rfl, hxl, hxm, FA, m1, m2⟩
  clear F m1 m2 h tk m
  rintro s' ⟨h, tk, m, x, t3, rfl, hxl, hxm, F, m1, m2⟩
  obtain ⟨l1, l2⟩ := P.len n x hn hxm
  have hsame := P.same n x hn (by omega) hxm
  have Pb := fun st => P.bare n x st hn hxl hxm
  have Pw := fun y => P.word n x y hn hxl hxm
  obtain ⟨y, hy⟩ : ∃ y, y = spelledL n x := ⟨_, rfl⟩
  rw [← hy] at l1 l2 hsame Pb Pw
  obtain ⟨xs, hxs⟩ : ∃ xs, xs = rowsL (y ++ [33]) := ⟨_, rfl⟩
  obtain ⟨r1, r2⟩ := P.rows (y ++ [33])
  rw [← hxs] at r1 r2 Pb Pw
  simp only [List.length_append, List.length_cons, List.length_nil] at r1 r2
  have hx64 : xs.length < 64 := by omega
  have hxne : ∀ z ∈ xs, z ≠ [] ∧ z.length ≤ 1000 := fun z hz => by
    have := r2 z hz
    exact ⟨fun e => by rw [e] at this; simp at this, by omega⟩
  refine seq_mid (fun s' => ∃ h tk m tw, s' = { s with heap := h, toks := tk } ∧ Fm g (CL L rt m (some (T x t3)) (some (T signsL t2)) (some (.int (n : Nat) t1)) vt os) h ∧ m "told" = some (.ref rt) ∧ m "write" = some (.ref fw) ∧ m "writing" = some (T y tw)) ?_ ?_
  · refine wpAny_Assign_Name <| callV F m2 (hfw.keeps F.keep) <| args_cons <| ldC (F.get 1 rfl) <| args_nil ⟨Sub.refl _, fun hf => ?_⟩
    refine esc_ok (k := k + 5) R hn hiw hf (Gg.keeps F.keep) (by omega) fun tw hB tkB kB => ?_
    rw [hsame]
    exact stF (F.ext kB) fun hC FC => ⟨rfl, hC, _, _, tw, rfl, FC, m1, m2, rfl⟩
  clear F m1 m2 h tk m
  rintro s' ⟨h, tk, m, tw, rfl, F, m1, m2, m3⟩
  refine seq_mid (fun s' => ∃ h tk m ts, s' = { s with heap := h, toks := tk } ∧ Fm g (CL L rt m (some (T x t3)) (some (T signsL t2)) (some (.int (n : Nat) t1)) vt os) h ∧ m "told" = some (.ref rt) ∧ m "write" = some (.ref fw) ∧ m "writing" = some (T y tw) ∧ m "spelled" = some (T y ts)) ?_ ?_
  · refine wpAny_Assign_Name <| callF 24 (Gg.keeps F.keep) fun f hf => args_cons <| ldC (F.get 1 rfl) <| args_cons <| ldC (F.get 3 rfl) <| args_nil ⟨Sub.refl _, fun hf => ?_⟩
    refine spelled_ok (k := k + 5) R hf (Gg.keeps F.keep) hn (by omega) fun ts hD tkD kD => ?_
    rw [← hy]
    exact stF (F.ext kD) fun hE FE => ⟨rfl, hE, _, _, ts, rfl, FE, m1, m2, m3, rfl⟩
  clear F m1 m2 m3 h tk m
  rintro s' ⟨h, tk, m, ts, rfl, F, m1, m2, m3, m4⟩
  refine seq_mid (fun s' => ∃ h tk m st t4, s' = { s with heap := h, toks := tk } ∧ st + 3 ≤ y.length ∧ Fm g (CL L rt m (some (T x t3)) (some (T signsL t2)) (some (.int (n : Nat) t1)) vt os) h ∧ m "told" = some (.ref rt) ∧ m "write" = some (.ref fw) ∧ m "writing" = some (T y tw) ∧ m "spelled" = some (T y ts) ∧ m "start" = some (.int (st : Nat) t4)) ?_ ?_
  · obtain ⟨t8, ht8⟩ := gi 8 (by omega)
    obtain ⟨st, hst, e8⟩ := fmod_nat (ns.getD 8 0) (y.length - 2) (by omega)
    have e8' : (ns.getD 8 0).fmod ((y.length : Int) - 2) = (st : Int) := by rw [← e8]; congr 1; omega
    refine wpAny_Assign_Name <| wpAny_BinOp <| Subscript_ <| ldF F m1 <| wpAny_Constant_int <| sub_list (F.lst 4 rfl) (by omega) (by omega) ht8 <| wpAny_BinOp <| callB1 (Gg.keeps F.keep) boot_len <| ldF F m4 <| len_T (by omega) <| wpAny_Constant_int <| sub_int <| mod_int' (by omega) ?_
    rw [e8']
    exact stF F fun hE FE => ⟨rfl, hE, _, _, st, _, rfl, by omega, FE, m1, m2, m3, m4, rfl⟩
  clear F m1 m2 m3 m4 h tk m
  rintro s' ⟨h, tk, m, st, t4, rfl, hst, F, m1, m2, m3, m4, m5⟩
  refine seq_mid (fun s' => ∃ h tk m rr vr, s' = { s with heap := h, toks := tk } ∧ Txs vr xs ∧ Fm g (CL L rt m (some (T x t3)) (some (T signsL t2)) (some (.int (n : Nat) t1)) vt ((rr, .list vr) :: os)) h ∧ m "told" = some (.ref rt) ∧ m "write" = some (.ref fw) ∧ m "writing" = some (T y tw) ∧ m "spelled" = some (T y ts) ∧ m "start" = some (.int (st : Nat) t4) ∧ m "rows" = some (.ref rr)) ?_ ?_
  · refine wpAny_Assign_Name <| callF 25 (Gg.keeps F.keep) fun f hf => args_cons <| wpAny_BinOp <| ldF F m3 <| const_T [33] <| add_T (by simp; omega) fun t1' k1 => args_nil ⟨Sub.refl _, fun hf => ?_⟩
    refine rows_ok (k := k + 2) R hf (Gg.keeps F.keep) (by simp; omega) fun rr hG tkG vr hlr hxr kG hnr => ?_
    rw [← hxs] at hxr
    refine stF (F.cons kG hnr hlr (o := .list _)).swap fun hH FH => ⟨rfl, hH, _, _, rr, vr, rfl, hxr, FH.perm (List.Perm.cons _ (List.perm_middle (l₁ := [(L + 1 + 1 + 1, Own.cell (some (T x t3))), (L + 1 + 1, Own.cell (some (T signsL t2))), (L + 1, Own.cell (some (.int (n : Nat) t1))), (rt, .list vt)])).symm), m1, m2, m3, m4, m5, rfl⟩
  clear F m1 m2 m3 m4 m5 h tk m
  rintro s' ⟨h, tk, m, rr, vr, rfl, hxr, F, m1, m2, m3, m4, m5, m6⟩
  have hgb := Pb st hst
  refine seq_mid (fun s' => ∃ h tk m t5, s' = { s with heap := h, toks := tk } ∧ Fm g (CL L rt m (some (T x t3)) (some (T signsL t2)) (some (.int (n : Nat) t1)) vt ((rr, .list vr) :: os)) h ∧ m "told" = some (.ref rt) ∧ m "write" = some (.ref fw) ∧ m "writing" = some (T y tw) ∧ m "spelled" = some (T y ts) ∧ m "rows" = some (.ref rr) ∧ m "bare" = some (T ((y.drop st).take 3) t5)) ?_ ?_
  · refine wpAny_Assign_Name <| slice_T <| ldF F m4 <| evalPart_some_step <| ldF F m5 <| evalPart_some_step <| wpAny_BinOp <| ldF F m5 <| wpAny_Constant_int <| add_int ⟨y, ts, some ((st : Int), _), some ((st : Int) + (3 : Nat), _), rfl, rfl, rfl, by omega, fun t5 hI tkI kI => ?_⟩
    simp only [Option.map_some, sl_mid]
    exact stF (F.ext kI) fun hJ FJ => ⟨trivial, hJ, _, _, t5, rfl, FJ, m1, m2, m3, m4, m6, rfl⟩
  clear F m1 m2 m3 m4 m5 m6 h tk m
  rintro s' ⟨h, tk, m, t5, rfl, F, m1, m2, m3, m4, m5, m6⟩
  refine seq_mid (fun s' => ∃ h tk, s' = { s with heap := h, toks := tk } ∧ Fm g (CL L rt m (some (T x t3)) (some (T signsL t2)) (some (.int (n : Nat) t1)) vt ((rr, .list vr) :: os)) h) ?_ ?_
  · refine wpAny_If <| wpAny_isTrue_Not <| wpAny_isTrue_value <| callF 30 (Gg.keeps F.keep) fun f hf => args_cons <| ldF F m5 <| args_cons <| ldF F m6 <| args_cons <|
      callF 29 (Gg.keeps F.keep) fun f' hf' => args_cons <| ldF F m4 <| args_cons <| ldF F m6 <| args_nil ⟨Sub.refl _, fun hf' => ?_⟩
    refine places_ok (k := k + 5) R hf' (Gg.keeps F.keep) (by omega) (by have := hgb.len; omega) fun p hK tkK vp hlp hip kK hnp => args_nil ⟨kK, fun hf => ?_⟩
    refine good_holds (k := k + 1) R hf ((Gg.keeps F.keep).keeps kK) ((F.ext kK).get 5 rfl) hxr hx64 hxne hlp hip hgb fun hM tkM kM => wpAny_truthy_bool ?_
    rw [if_neg (by decide)]
    exact wpAny_execs_nil ⟨by first | rfl | trivial, hM, _, rfl, (F.ext kK).ext kM⟩
  clear F h tk
  rintro s' ⟨h, tk, rfl, F⟩
  refine seq_mid (fun s' => ∃ h tk m rw w0 w1 u0 u1, s' = { s with heap := h, toks := tk } ∧ (w0 ≠ [] ∧ w0.length ≤ 2 ∧ ∀ c ∈ w0, c ∈ signsL) ∧ (w1 ≠ [] ∧ w1.length ≤ 2 ∧ ∀ c ∈ w1, c ∈ signsL) ∧
    Fm g (CL L rt m (some (T x t3)) (some (T signsL t2)) (some (.int (n : Nat) t1)) vt ((rw, .list [T w0 u0, T w1 u1].toArray) :: (rr, .list vr) :: os)) h ∧ m "write" = some (.ref fw) ∧ m "writing" = some (T y tw) ∧ m "spelled" = some (T y ts) ∧ m "rows" = some (.ref rr) ∧ m "words" = some (.ref rw)) ?_ ?_
  · obtain ⟨t6, ht6⟩ := gi 6 (by omega)
    obtain ⟨t7, ht7⟩ := gi 7 (by omega)
    obtain ⟨a6, ha6, e6⟩ := fmod_nat (ns.getD 6 0) 4 (by omega)
    obtain ⟨b6, hb6, e6'⟩ := fmod_nat ((ns.getD 6 0).fdiv 4) 2 (by omega)
    obtain ⟨a7, ha7, e7⟩ := fmod_nat (ns.getD 7 0) 8 (by omega)
    obtain ⟨b7, hb7, e7'⟩ := fmod_nat ((ns.getD 7 0).fdiv 8) 8 (by omega)
    have sgj : ∀ (z : Int) (j : Nat), j < 8 → z.fmod 8 = (j : Int) → signsL[j]? = some (sg z) := fun z j hj ej => by
      unfold sg
      rw [ej, Int.toNat_natCast, List.getD_eq_getElem?_getD, List.getElem?_eq_getElem (show j < signsL.length from hj)]; rfl
    have sg7 := sgj _ a7 ha7 e7
    have sg7' := sgj _ b7 hb7 e7'
    obtain ⟨w0, hw0⟩ : ∃ w0, w0 = (x.drop a6).take (1 + b6) := ⟨_, rfl⟩
    obtain ⟨w1, hw1⟩ : ∃ w1, w1 = [sg (ns.getD 7 0)] ++ [sg ((ns.getD 7 0).fdiv 8)] := ⟨_, rfl⟩
    have hw0n : w0 ≠ [] := fun e => by
      have := congrArg List.length (hw0.symm.trans e)
      rw [List.length_take, List.length_drop, hxl] at this; simp at this; omega
    have hw0l : w0.length ≤ 2 := by rw [hw0, List.length_take]; omega
    have hw0m : ∀ c ∈ w0, c ∈ signsL := fun c hc => by rw [hw0] at hc; exact hxm c (List.mem_of_mem_drop (List.mem_of_mem_take hc))
    have hw1n : w1 ≠ [] := by rw [hw1]; simp
    have hw1l : w1.length ≤ 2 := by rw [hw1]; simp
    have hw1m : ∀ c ∈ w1, c ∈ signsL := fun c hc => by
      rw [hw1] at hc
      simp only [List.cons_append, List.nil_append, List.mem_cons, List.not_mem_nil, or_false] at hc
      rcases hc with rfl | rfl <;> exact sg_mem _
    refine wpAny_Assign_Name ?_ ?_
    rotate_left
    · with_unfolding_all rfl
    refine wpAny_List <| args_cons ?_
    refine slice_T <| slice_T <| ldC (F.get 1 rfl) <| evalPart_some_step <| wpAny_BinOp <| Subscript_ <| ldF F m1 <| wpAny_Constant_int <| sub_list (F.lst 4 rfl) (by omega) (by omega) ht6 <| wpAny_Constant_int <| mod_int' (by decide) <| evalPart_none_step ?_
    rw [show ((ns.getD 6 0).fmod 4) = (a6 : Int) from e6]
    refine ⟨x, t3, some ((a6 : Int), _), none, rfl, rfl, rfl, by omega, fun u2 hN tkN kN => ?_⟩
    refine collapse (s := s) hN ⟨_, rfl⟩ fun tkN' => ?_
    have FN := F.ext kN
    refine evalPart_none_step <| evalPart_some_step <| wpAny_BinOp <| wpAny_Constant_int <| wpAny_BinOp <| wpAny_BinOp <| Subscript_ <| ldF FN m1 <| wpAny_Constant_int <| sub_list (FN.lst 4 rfl) (by omega) (by omega) ht6 <| wpAny_Constant_int <| floordiv_int (by decide) (wpAny_Constant_int <| mod_int' (by decide) <| add_int ?_) (Or.inl (PyProof.noPylong_small (by omega)))
    rw [show (((ns.getD 6 0).fdiv 4).fmod 2) = (b6 : Int) from e6', show (1 : Int) + (b6 : Int) = ((1 + b6 : Nat) : Int) by omega]
    refine ⟨x.drop a6, u2, none, some (((1 + b6 : Nat) : Int), _), ?_, rfl, rfl, by rw [List.length_drop]; omega, fun u4 hO tkO kO => ?_⟩
    · simp only [Option.map_some, Option.map_none, sl_from]
    have e0 : sl (x.drop a6) none (some ((1 + b6 : Nat) : Int)) = w0 := by rw [sl_to, hw0]
    simp only [Option.map_some, Option.map_none]
    rw [e0]
    have FO := FN.ext kO
    refine collapse (s := s) hO ⟨_, rfl⟩ fun tkO' => ?_
    refine args_cons <| wpAny_BinOp <| Subscript_ <| ldC (FO.get 2 rfl) <| wpAny_BinOp <| Subscript_ <| ldF FO m1 <| wpAny_Constant_int <| sub_list (FO.lst 4 rfl) (by omega) (by omega) ht7 <| wpAny_Constant_int <| mod_int' (by decide) ?_
    rw [show ((ns.getD 7 0).fmod 8) = (a7 : Int) from e7]
    refine item_T a7 ha7 (.inl rfl) sg7 (by decide) ?_
    refine collapse (s := s) hO ⟨_, rfl⟩ fun tkO2 => ?_
    refine Subscript_ <| ldC (FO.get 2 rfl) <| wpAny_BinOp <| wpAny_BinOp <| Subscript_ <| ldF FO m1 <| wpAny_Constant_int <| sub_list (FO.lst 4 rfl) (by omega) (by omega) ht7 <| wpAny_Constant_int <| floordiv_int (by decide) (wpAny_Constant_int <| mod_int' (by decide) ?_) (Or.inl (PyProof.noPylong_small (by omega)))
    rw [show (((ns.getD 7 0).fdiv 8).fmod 8) = (b7 : Int) from e7']
    refine item_T b7 hb7 (.inl rfl) sg7' (by decide) ?_
    refine add_T (by simp) fun u9 k9 => args_nil ⟨by rw [sizeLine_eq]; show 2 ≤ _; decide, ?_⟩
    rw [← hw1]
    refine stF (FO.pushList _).swap fun hH FH => ⟨trivial, hH, _, _, _, w0, w1, _, _, rfl, ⟨hw0n, hw0l, hw0m⟩, ⟨hw1n, hw1l, hw1m⟩, FH.perm (List.Perm.cons _ (List.perm_middle (l₁ := [(L + 1 + 1 + 1, Own.cell (some (T x t3))), (L + 1 + 1, Own.cell (some (T signsL t2))), (L + 1, Own.cell (some (.int (n : Nat) t1))), (rt, .list vt)])).symm), m2, m3, m4, m5, rfl⟩
  clear F m1 m2 m3 m4 m5 m6 h tk m
  rintro s' ⟨h, tk, m, rw', w0, w1, u0, u1, rfl, ⟨hw0n, hw0l, hw0m⟩, ⟨hw1n, hw1l, hw1m⟩, F, m1, m2, m3, m4, m5⟩
  have hxx : x.length ≤ 1000 := by omega
  have hyb : ∀ i, i < 2 → ([w0, w1].getD i []).length ≤ 1000 := fun i hi => by
    match i, hi with
    | 0, _ => exact Nat.le_trans hw0l (by omega)
    | 1, _ => exact Nat.le_trans hw1l (by omega)
  refine seq_mid (fun s' => ∃ h tk m D r0 r1 v0 v1, s' = { s with heap := h, toks := tk } ∧ Ins v0 (aheadL n x w0) ∧ Ins v1 (aheadL n x w1) ∧
    Fm g ((L, .ns m) :: (D, .list [.ref r0, .ref r1].toArray) :: (r1, .list v1) :: (r0, .list v0) :: (L + 1 + 1 + 1, .cell (some (T x t3))) :: (L + 1 + 1, .cell (some (T signsL t2))) :: (L + 1, .cell (some (.int (n : Nat) t1))) :: (rt, .list vt) :: (rw', .list [T w0 u0, T w1 u1].toArray) :: (rr, .list vr) :: os) h ∧
    m "write" = some (.ref fw) ∧ m "writing" = some (T y tw) ∧ m "spelled" = some (T y ts) ∧ m "rows" = some (.ref rr) ∧ m "words" = some (.ref rw') ∧ m "ahead" = some (.ref D)) ?_ ?_
  · obtain ⟨gL, FL, F0⟩ := F.split
    have ct := F0.get 0 rfl
    have cn := F0.get 2 rfl
    have hlw : gL.IsList rw' [T w0 u0, T w1 u1].toArray := F0.lst 4 rfl
    have hXw : Txs [T w0 u0, T w1 u1].toArray [w0, w1] := rfl
    have Gh := Gg.keeps F0.keep
    refine comp_assign [("text", L + 1 + 1 + 1), ("number", L + 1)] R.handled <| ldF F m5 ?_
    refine ⟨gL, m, [], 2, _, fun i ys os => ∃ ls : List (Addr × Array Value), ls.length = i ∧ ys = ls.map (fun p => Value.ref p.1) ∧ os = (L, .ns m) :: ls.reverse.map (fun p => (p.1, Own.list p.2)) ∧ ∀ j p, ls[j]? = some p → Ins p.2 (aheadL n x ([w0, w1].getD j [])),
      Src.texts hlw hXw FL.keep, by rw [sizeLine_eq]; decide, FL, ⟨[], rfl, rfl, rfl, fun j p h => by simp at h⟩, ?_, ?_, ?_⟩
    · rintro i ys os ⟨ls, _, _, rfl, _⟩
      exact ⟨_, rfl⟩
    · rintro i ys' os' v C m' s' g' E' hi ⟨ls, rfl, rfl, rfl, hls⟩ ⟨tv, rfl⟩ hs F' hm'
      refine wpAny_tests_nil ⟨Is.refl _, _, F', ?_⟩
      rw [if_pos rfl]
      have kk : Sub gL s'.heap := hs.trans F'.keep
      have Gs := Gh.keeps kk
      have hyi := hyb _ hi
      refine comp_map (α := Int) ti [("text", L + 1 + 1 + 1), ("number", L + 1)] R.handled <| callF 29 Gs fun f hf => args_cons <| ldC (cellK ct kk) <| args_cons <| ldF F' hm' <| args_nil ⟨Sub.refl _, fun hf => ?_⟩
      refine places_ok (k := k + 5) R hf Gs hxx hyi fun p hK tkK vp hlp hip kK hnp => ?_
      have hel := places_at x ([w0, w1].getD ls.length [])
      have hpl : (placesL x ([w0, w1].getD ls.length [])).length ≤ 5 := by
        unfold placesL; rw [List.length_map]
        exact Nat.le_trans (List.length_filter_le _ _) (by simp; omega)
      have hvp : vp.size = (placesL x ([w0, w1].getD ls.length [])).length := by simpa using congrArg List.length hip
      refine ⟨_, _, fun j => (aheadL n x ([w0, w1].getD ls.length [])).getD j 0, Src.list hlp.isList (Sub.refl _), by rw [sizeLine_eq]; omega, ?_, ?_⟩
      · rintro j v C2 m2' s2 g2 E2 hj hv2 hs2 F2 hm2
        obtain ⟨q, hq, eq⟩ := hel j (by omega)
        obtain ⟨u, rfl⟩ : ∃ u, v = .int (q : Int) u := by
          have h1 := congrArg (·[j]?) hip
          simp only [List.getElem?_map, Array.getElem?_toList, hv2, eq] at h1
          exact ti_some (by simpa using h1)
        have hah : (aheadL n x ([w0, w1].getD ls.length [])).getD j 0 = ((spelledL n (x.take q)).length : Int) := by
          unfold aheadL
          rw [List.getD_eq_getElem?_getD, List.getElem?_map, eq]; rfl
        have k2 : Sub gL s2.heap := ((kk.trans kK).trans hs2).trans F2.keep
        have G2 := Gh.keeps k2
        refine callB1 G2 boot_len <| callF 24 G2 fun f hf => args_cons <| slice_T <| ldC (cellK ct k2) <| evalPart_none_step <| evalPart_some_step <| ldF F2 hm2
          ⟨x, t3, none, some ((q : Int), u), rfl, rfl, rfl, by omega, fun t' h' tk' k' => args_cons <| ldC (cellK (cellK cn k2) k') <| args_nil ⟨k', fun hf => ?_⟩⟩
        have e0 : sl x (Option.map (·.1) (none : Option (Int × Tok))) (Option.map (·.1) (some ((q : Int), u))) = x.take q := sl_to x q
        rw [e0]
        have hsl := spelled_len n (x.take q)
        rw [List.length_take] at hsl
        refine spelled_ok (k := k + 5) R hf (G2.keeps k') hn (by rw [List.length_take]; omega) fun t'' h'' tk'' k'' => len_T (by omega) ⟨?_, h'', _, rfl, k'.trans k''⟩
        exact congrArg some hah.symm
      intro D2 ys2 h3 tk3 hV k3 hl3 hn3
      have hV' : Ins (List.toArray ys2) (aheadL n x ([w0, w1].getD ls.length [])) := by
        have hle : (aheadL n x ([w0, w1].getD ls.length [])).length = vp.size := by unfold aheadL; rw [List.length_map, hvp]
        have := range_getDL (aheadL n x ([w0, w1].getD ls.length [])) 0 (fun z => z)
        rw [hle, List.map_id'] at this
        unfold Vs at hV
        rw [this] at hV
        exact hV
      refine ⟨⟨_, _, rfl⟩, _, (((F'.ext kK).cons k3 hn3 hl3 (o := .list _)).swap).perm (List.Perm.cons _ (List.Perm.swap _ _ _)), ls ++ [(D2, List.toArray ys2)], by simp, by simp, by simp, fun j pp hjp => ?_⟩
      by_cases hjl : j < ls.length
      · rw [List.getElem?_append_left hjl] at hjp
        exact hls j pp hjp
      · have hj2 : j = ls.length := by
          have := (List.getElem?_eq_some_iff.mp hjp).1
          rw [List.length_append, List.length_singleton] at this; omega
        subst hj2
        rw [List.getElem?_append_right (Nat.le_refl _)] at hjp
        simp only [Nat.sub_self, List.getElem?_cons_zero, Option.some.injEq] at hjp
        subst hjp
        exact hV'
    · rintro D ys os' h' tk' ⟨ls, hl2, rfl, hos, hls⟩ F2 hD
      match ls, hl2 with
      | [(r0, v0), (r1, v1)], _ =>
        injection hos with _ hos'
        subst hos'
        exact ⟨rfl, h', _, _, D, r0, r1, v0, v1, rfl, hls 0 _ rfl, hls 1 _ rfl, F0.join F2, m1, m2, m3, m4, m5, rfl⟩
  clear F m1 m2 m3 m4 m5 h tk m
  rintro s' ⟨h, tk, m, D, r0, r1, v0, v1, rfl, hi0, hi1, F, m1, m2, m3, m4, m5, m6⟩
  have g0 := Pw w0 hw0n hw0l hw0m
  have g1 := Pw w1 hw1n hw1l hw1m
  have s0 := P.same n w0 hn (by omega) hw0m
  have s1 := P.same n w1 hn (by omega) hw1m
  refine wpAny_execs_cons <| wpAny_Return_some <| wpAny_And3 <| callF 30 (Gg.keeps F.keep) fun f hf => args_cons <| ldF F m4 <| args_cons <| callV F m1 (hfw.keeps F.keep) <| args_cons <| Subscript_ <| ldF F m5 <| wpAny_Constant_int <| sub_list (F.lst 8 rfl) (by omega) (by omega) (v := T w0 u0) rfl <| args_nil ⟨Sub.refl _, fun hf' => ?_⟩
  refine esc_ok (k := k + 5) R hn hiw hf' (Gg.keeps F.keep) (by omega) fun ta ha tka ka => ?_
  rw [s0]
  refine collapse (s := s) ha ⟨_, rfl⟩ fun tk1 => ?_
  have Fa := F.ext ka
  refine args_cons <| Subscript_ <| ldF Fa m6 <| wpAny_Constant_int <| sub_list (Fa.lst 1 rfl) (by omega) (by omega) (v := .ref r0) rfl <| args_nil ⟨ka, fun hf2 => ?_⟩
  refine good_holds (k := k + 1) R hf2 (Gg.keeps Fa.keep) (Fa.get 9 rfl) hxr hx64 hxne (Fa.get 3 rfl) hi0 g0 fun hb tkb kb => ⟨rfl, ?_⟩
  have Fb := Fa.ext kb
  refine collapse (s := s) hb ⟨_, rfl⟩ fun tk2 => ?_
  refine callF 30 (Gg.keeps Fb.keep) fun f hf => args_cons <| ldF Fb m4 <| args_cons <| callV Fb m1 (hfw.keeps Fb.keep) <| args_cons <| Subscript_ <| ldF Fb m5 <| wpAny_Constant_int <| sub_list (Fb.lst 8 rfl) (by omega) (by omega) (v := T w1 u1) rfl <| args_nil ⟨Sub.refl _, fun hf' => ?_⟩
  refine esc_ok (k := k + 5) R hn hiw hf' (Gg.keeps Fb.keep) (by omega) fun tc hc tkc kc => ?_
  rw [s1]
  refine collapse (s := s) hc ⟨_, rfl⟩ fun tk3 => ?_
  have Fc := Fb.ext kc
  refine args_cons <| Subscript_ <| ldF Fc m6 <| wpAny_Constant_int <| sub_list (Fc.lst 1 rfl) (by omega) (by omega) (v := .ref r1) rfl <| args_nil ⟨kc, fun hf2 => ?_⟩
  refine good_holds (k := k + 1) R hf2 (Gg.keeps Fc.keep) (Fc.get 9 rfl) hxr hx64 hxne (Fc.get 2 rfl) hi1 g1 fun hd tkd kd => ⟨rfl, ?_⟩
  have Fd := Fc.ext kd
  refine collapse (s := s) hd ⟨_, rfl⟩ fun tk4 => ?_
  refine wpAny_Compare1 <| ldF Fd m2 <| ldF Fd m3 <| eq_T ?_
  rw [show (y == y) = true from beq_self_eq_true y]
  exact hQ hd tk4 (Fd.sub (List.sublist_append_right [_, _, _, _, _, _, _, _, _, _] os))
end
end Mine
end

section
open PySem PySem.W PyProof.Rows PySem.Calls
set_option maxRecDepth 100000
set_option linter.unusedVariables false
namespace Mine

theorem esc_head (y : List Nat) (h : ∀ c ∈ y, c ≠ 92) : (splitL 92 (y.map escL).flatten).flatten = y := by
  rw [← joinL_nil, join_splitL]
  unfold repl
  induction y with
  | nil => rfl
  | cons c r ih =>
    have hc : c ≠ 92 := h c (.head _)
    have ih' := ih fun d hd => h d (.tail _ hd)
    rw [List.map_cons, List.flatten_cons, List.flatMap_append, ih']
    unfold escL
    split <;> simp [hc]

theorem esc_bare (y : List Nat) (h : ∀ c ∈ y, c ≠ 92) : bareL (y.map escL).flatten = y.filter fun c => decide (c ∉ specKeys) := by
  induction y with
  | nil => rfl
  | cons c r ih =>
    have hc : c ≠ 92 := h c (.head _)
    have ih' := ih fun d hd => h d (.tail _ hd)
    rw [List.map_cons, List.flatten_cons]
    have step : ∀ z : List Nat, splitL 92 (c :: z) = (c :: (splitL 92 z).headD []) :: (splitL 92 z).drop 1 := fun z => by
      rw [splitL_cons, if_neg hc]
      have := splitL_ne 92 z
      cases e : splitL 92 z with
      | nil => exact absurd e this
      | cons p ps => rfl
    by_cases hs : c ∈ specKeys
    · have e : escL c = [92, c] := by unfold escL; rw [if_pos hs]
      rw [e, List.filter_cons_of_neg (by simpa using hs), ← ih']
      show bareL (92 :: c :: (r.map escL).flatten) = _
      unfold bareL
      rw [splitL_cons, if_pos rfl, step]
      rfl
    · have e : escL c = [c] := by unfold escL; rw [if_neg hs]
      rw [e, List.filter_cons_of_pos (by simpa using hs), ← ih']
      show bareL (c :: (r.map escL).flatten) = _
      unfold bareL
      rw [step]
      rfl

theorem specials_spec : ∀ c ∈ specials, c ∈ specKeys := by decide
theorem esc_bare_ok (y : List Nat) (h : ∀ c ∈ y, c ≠ 92) : ∀ c ∈ specials, c ∉ bareL (y.map escL).flatten := fun c hc hm => by
  rw [esc_bare y h] at hm
  have := (List.mem_filter.mp hm).2
  exact (by simpa using this : c ∉ specKeys) (specials_spec c hc)
end Mine
end

section
open PySem PySem.W PyProof.Rows PySem.Calls
set_option maxRecDepth 100000
set_option linter.unusedVariables false
namespace Mine

theorem repl_app (c : Nat) (z x y : List Nat) : repl c z (x ++ y) = repl c z x ++ repl c z y := by unfold repl; rw [List.flatMap_append]
theorem fold_app : ∀ (l : List (Nat × List Nat)) (x y : List Nat), l.foldl (fun x p => repl p.1 p.2 x) (x ++ y) = l.foldl (fun x p => repl p.1 p.2 x) x ++ l.foldl (fun x p => repl p.1 p.2 x) y
  | [], _, _ => rfl
  | p :: r, x, y => by simp only [List.foldl_cons]; rw [repl_app, fold_app r]
theorem write_app (n : Nat) (x y : List Nat) : writeL n (x ++ y) = writeL n x ++ writeL n y := fold_app _ _ _
theorem fold_nil : ∀ (l : List (Nat × List Nat)), l.foldl (fun x p => repl p.1 p.2 x) [] = []
  | [] => rfl
  | p :: r => by simp only [List.foldl_cons]; exact fold_nil r
theorem write_one : ∀ n < 5, ∀ c ∈ signsL, writeL n [c] = code n c := by decide
theorem write_spelled (n : Nat) (hn : n < 5) : ∀ x : List Nat, (∀ c ∈ x, c ∈ signsL) → writeL n x = spelledL n x
  | [], _ => fold_nil _
  | c :: r, h => by
    have h1 : writeL n (c :: r) = writeL n [c] ++ writeL n r := write_app n [c] r
    rw [h1, write_one n hn c (h c (.head _)), write_spelled n hn r fun d hd => h d (.tail _ hd)]
    rfl
theorem code_pos : ∀ n < 5, ∀ c ∈ signsL, 1 ≤ (code n c).length := by decide
theorem spelled_ge (n : Nat) (hn : n < 5) : ∀ x : List Nat, (∀ c ∈ x, c ∈ signsL) → x.length ≤ (spelledL n x).length
  | [], _ => Nat.zero_le _
  | c :: r, h => by
    have := spelled_ge n hn r fun d hd => h d (.tail _ hd)
    have h2 := code_pos n hn c (h c (.head _))
    show (c :: r).length ≤ (code n c ++ spelledL n r).length
    rw [List.length_append, List.length_cons]; omega

/-- the signs of what is written -/
theorem code_signs : ∀ n < 5, ∀ c ∈ signsL, ∀ d ∈ code n c, d < 128 ∧ d ≠ 42 ∧ d ≠ 63 ∧ d ≠ 91 ∧ d ≠ 92 ∧ d ≠ 33 := by decide
theorem spelled_signs (n : Nat) (hn : n < 5) (x : List Nat) (h : ∀ c ∈ x, c ∈ signsL) : ∀ d ∈ spelledL n x, d < 128 ∧ d ≠ 42 ∧ d ≠ 63 ∧ d ≠ 91 ∧ d ≠ 92 ∧ d ≠ 33 := fun d hd => by
  obtain ⟨c, hc, hd⟩ := List.mem_flatMap.mp hd
  exact code_signs n hn c (h c hc) d hd
end Mine
end

section
open PySem PySem.W PyProof.Rows PySem.Calls
set_option maxRecDepth 100000
set_option linter.unusedVariables false
namespace Mine

/-- a hole that moves -/
theorem hole_perm {xs : List (List Nat)} {i j : Nat} (v : List Nat) (hi : i < xs.length) (hj : j < xs.length) (hij : i ≠ j) : ((xs.set i (xs.getD j [])).set j v).Perm (xs.set i v) := by
  have h := List.set_set_perm (as := xs.set i v) (i := i) (j := j) (by simpa using hi) (by simpa using hj)
  rw [List.getElem_set_self, List.getElem_set_ne hij, List.set_set] at h
  have e : xs[j] = xs.getD j [] := by rw [List.getD_eq_getElem?_getD, List.getElem?_eq_getElem hj]; rfl
  rw [e] at h
  exact h

theorem sd_perm (start : Nat) (new : List Nat) (xs : List (List Nat)) (pos : Nat) (hp : pos < xs.length) : (sd start new xs pos).Perm (xs.set pos new) := by
  fun_induction sd start new xs pos with
  | case1 xs pos h1 h2 ih =>
    refine (ih (by simp; omega)).trans ?_
    exact hole_perm new hp (by omega) (by omega)
  | case2 => exact List.Perm.refl _
  | case3 => exact List.Perm.refl _

theorem su_perm (xs : List (List Nat)) (pos : Nat) (v : List Nat) (hp : pos < xs.length) : ((su xs pos).1.set (su xs pos).2 v).Perm (xs.set pos v) := by
  fun_induction su xs pos with
  | case1 xs pos h ih =>
    refine (ih (by rw [List.length_set]; exact ch_lt h)).trans ?_
    exact hole_perm v hp (ch_lt h) (by have := ch_gt xs pos; omega)
  | case2 xs pos h => exact List.Perm.refl _

theorem siftup_perm (xs : List (List Nat)) (pos : Nat) (hp : pos < xs.length) : (siftup xs pos).Perm xs := by
  unfold siftup
  refine (sd_perm _ _ _ _ (by rw [List.length_set, su_length]; exact su_lt xs pos hp)).trans ?_
  rw [List.set_set]
  refine (su_perm xs pos _ hp).trans ?_
  have e : xs.getD pos [] = xs[pos] := by rw [List.getD_eq_getElem?_getD, List.getElem?_eq_getElem hp]; rfl
  rw [e, List.set_getElem_self]
end Mine
end

section
open PySem PySem.W PyProof.Rows PySem.Calls
set_option maxRecDepth 100000
set_option linter.unusedVariables false
namespace Mine

noncomputable def gt (xs : List (List Nat)) (i : Nat) : List Nat := xs.getD i []
theorem gt_set {xs : List (List Nat)} {i j : Nat} {v : List Nat} (h : i < xs.length) : gt (xs.set i v) j = if j = i then v else gt xs j := by
  unfold gt
  rw [List.getD_eq_getElem?_getD, List.getD_eq_getElem?_getD, List.getElem?_set]
  by_cases e : i = j
  · subst e; simp [h]
  · rw [if_neg e, if_neg (fun x => e x.symm)]

noncomputable def Desc (a p : Nat) : Prop := ∃ n : Nat, a ≤ p ∧ (a < p → a ≤ (p - 1) / 2) ∧ True
/-- order, but for a hole -/
noncomputable def Ho (a hole : Nat) (xs : List (List Nat)) : Prop := ∀ i, 0 < i → i < xs.length → a ≤ (i - 1) / 2 → i ≠ hole → (i - 1) / 2 ≠ hole → gt xs ((i - 1) / 2) ≤ gt xs i
noncomputable def Hf (a : Nat) (xs : List (List Nat)) : Prop := ∀ i, 0 < i → i < xs.length → a ≤ (i - 1) / 2 → gt xs ((i - 1) / 2) ≤ gt xs i

/-- below -/
inductive Dn (a : Nat) : Nat → Prop
  | self : Dn a a
  | step {p : Nat} : 0 < p → Dn a ((p - 1) / 2) → Dn a p
theorem Dn.le {a p : Nat} (h : Dn a p) : a ≤ p := by
  induction h with
  | self => exact Nat.le_refl _
  | step h _ ih => omega
theorem Dn.up {a p : Nat} (h : Dn a p) (hp : a < p) : Dn a ((p - 1) / 2) := by
  cases h with
  | self => omega
  | step _ h => exact h

theorem sd_ord (a : Nat) (new : List Nat) (xs : List (List Nat)) (p : Nat) (hp : p < xs.length) (hd : Dn a p) (ho : Ho a p xs)
    (hc : ∀ i, 0 < i → i < xs.length → (i - 1) / 2 = p → new ≤ gt xs i ∧ (a < p → gt xs ((p - 1) / 2) ≤ gt xs i)) : Hf a (sd a new xs p) := by
  fun_induction sd a new xs p with
  | case1 xs p h1 h2 ih =>
    have hq := (hd.up h1).le
    change new < gt xs ((p - 1) / 2) at h2
    refine ih (by simp; omega) (hd.up h1) ?_ ?_
    · intro i i0 il ia ih1 ih2
      rw [List.length_set] at il
      rw [gt_set hp, gt_set hp]
      by_cases e1 : i = p
      · subst e1; exact absurd rfl ih2
      rw [if_neg e1]
      by_cases e2 : (i - 1) / 2 = p
      · rw [if_pos e2]; exact (hc i i0 il e2).2 h1
      · rw [if_neg e2]; exact ho i i0 il ia e1 e2
    · intro i i0 il hi
      rw [List.length_set] at il
      have hpq : (p - 1) / 2 ≠ p := by omega
      have up : a < (p - 1) / 2 → gt xs (((p - 1) / 2 - 1) / 2) ≤ gt xs ((p - 1) / 2) := fun h => ho _ (by omega) (by omega) ((hd.up h1).up h).le (by omega) (by omega)
      rw [gt_set hp, gt_set hp]
      by_cases e1 : i = p
      · rw [if_pos e1, if_neg (by omega)]
        exact ⟨List.le_of_lt h2, up⟩
      · rw [if_neg e1, if_neg (by omega)]
        have h3 : gt xs ((p - 1) / 2) ≤ gt xs i := by have := ho i i0 il (by omega) e1 (by omega); rwa [hi] at this
        exact ⟨List.le_trans (List.le_of_lt h2) h3, fun h => List.le_trans (up h) h3⟩
  | case2 xs p h1 h2 =>
    intro i i0 il ia
    rw [List.length_set] at il
    rw [gt_set hp, gt_set hp]
    by_cases e1 : i = p
    · subst e1
      rw [if_pos rfl, if_neg (by omega)]
      exact List.not_lt.mp h2
    · rw [if_neg e1]
      by_cases e2 : (i - 1) / 2 = p
      · rw [if_pos e2]; exact (hc i i0 il e2).1
      · rw [if_neg e2]; exact ho i i0 il ia e1 e2
  | case3 xs p h1 =>
    have hpa : p = a := by have := hd.le; omega
    intro i i0 il ia
    rw [List.length_set] at il
    rw [gt_set hp, gt_set hp]
    by_cases e1 : i = p
    · omega
    · rw [if_neg e1]
      by_cases e2 : (i - 1) / 2 = p
      · rw [if_pos e2]; exact (hc i i0 il e2).1
      · rw [if_neg e2]; exact ho i i0 il ia e1 e2
end Mine
end

section
open PySem PySem.W PyProof.Rows PySem.Calls
set_option maxRecDepth 100000
set_option linter.unusedVariables false
namespace Mine

theorem ch_par (xs : List (List Nat)) (p : Nat) : (ch xs p - 1) / 2 = p := by rcases ch_cases xs p with h | ⟨h, _⟩ <;> omega
theorem ch_min {xs : List (List Nat)} {p i : Nat} (h : 2 * p + 1 < xs.length) (hi : i < xs.length) (i0 : 0 < i) (hp : (i - 1) / 2 = p) : gt xs (ch xs p) ≤ gt xs i := by
  have hi2 : i = 2 * p + 1 ∨ i = 2 * p + 2 := by omega
  unfold ch
  split
  · rename_i hh
    rcases hi2 with rfl | rfl
    · exact List.not_lt.mp hh.2
    · exact List.le_refl _
  · rename_i hh
    rcases hi2 with rfl | rfl
    · exact List.le_refl _
    · by_cases hl : gt xs (2 * p + 1) < gt xs (2 * p + 2)
      · exact List.le_of_lt hl
      · exact absurd ⟨hi, hl⟩ hh

theorem su_ord (a : Nat) (xs : List (List Nat)) (p : Nat) (hp : p < xs.length) (hd : Dn a p) (ho : Ho a p xs)
    (hc : a < p → ∀ i, 0 < i → i < xs.length → (i - 1) / 2 = p → gt xs ((p - 1) / 2) ≤ gt xs i) :
    Ho a (su xs p).2 (su xs p).1 ∧ Dn a (su xs p).2 ∧ xs.length ≤ 2 * (su xs p).2 + 1 := by
  fun_induction su xs p with
  | case1 xs p h ih =>
    have hcl := ch_lt h
    have hcg := ch_gt xs p
    have hcp := ch_par xs p
    have hle := hd.le
    have := ih (by simpa using hcl) (.step (by omega) (by rw [hcp]; exact hd)) ?_ ?_
    · simpa using this
    · intro i i0 il ia e1 e2
      rw [List.length_set] at il
      change gt (xs.set p (gt xs (ch xs p))) _ ≤ gt (xs.set p (gt xs (ch xs p))) _
      rw [gt_set hp, gt_set hp]
      by_cases e3 : i = p
      · subst e3
        rw [if_pos rfl, if_neg (by omega)]
        exact hc (by omega) _ (by omega) hcl hcp
      · rw [if_neg e3]
        by_cases e4 : (i - 1) / 2 = p
        · rw [if_pos e4]; exact ch_min h il i0 e4
        · rw [if_neg e4]; exact ho i i0 il ia e3 e4
    · intro _ i i0 il hi
      rw [List.length_set] at il
      change gt (xs.set p (gt xs (ch xs p))) _ ≤ gt (xs.set p (gt xs (ch xs p))) _
      rw [gt_set hp, gt_set hp, if_pos hcp, if_neg (by omega)]
      have := ho i i0 il (by omega) (by omega) (by omega)
      rwa [hi] at this
  | case2 xs p h => exact ⟨ho, hd, by omega⟩

theorem siftup_ord (xs : List (List Nat)) (a : Nat) (hp : a < xs.length) (h : Hf (a + 1) xs) : Hf a (siftup xs a) := by
  obtain ⟨h1, h2, h3⟩ := su_ord a xs a hp .self (fun i i0 il ia e1 e2 => h i i0 il (by omega)) (fun h => absurd h (Nat.lt_irrefl _))
  have hl := su_length xs a
  have hlt := su_lt xs a hp
  unfold siftup
  refine sd_ord a _ _ _ (by simpa [hl] using hlt) h2 ?_ ?_
  · intro i i0 il ia e1 e2
    rw [List.length_set, hl] at il
    rw [gt_set (by rw [hl]; exact hlt), gt_set (by rw [hl]; exact hlt), if_neg e1, if_neg e2]
    exact h1 i i0 (by rw [hl]; exact il) ia e1 e2
  · intro i i0 il hi
    rw [List.length_set, hl] at il
    omega
end Mine
end

section
open PySem PySem.W PyProof.Rows PySem.Calls
set_option maxRecDepth 100000
set_option linter.unusedVariables false
namespace Mine

theorem heapify_fold (xs : List (List Nat)) (n : Nat) (hn : n = xs.length / 2) : ∀ k, k ≤ n →
    ((List.range k).foldl (fun ys i => siftup ys (n - 1 - i)) xs).Perm xs ∧ Hf (n - k) ((List.range k).foldl (fun ys i => siftup ys (n - 1 - i)) xs) := by
  intro k
  induction k with
  | zero =>
    intro _
    refine ⟨List.Perm.refl _, fun i i0 il ia => ?_⟩
    simp only [List.range_zero, List.foldl_nil] at il
    omega
  | succ k ih =>
    intro hk
    obtain ⟨h1, h2⟩ := ih (by omega)
    rw [List.range_succ, List.foldl_append]
    simp only [List.foldl_cons, List.foldl_nil]
    have hlen := h1.length_eq
    have hlt : n - 1 - k < ((List.range k).foldl (fun ys i => siftup ys (n - 1 - i)) xs).length := by rw [hlen]; omega
    refine ⟨(siftup_perm _ _ hlt).trans h1, ?_⟩
    have := siftup_ord _ (n - 1 - k) hlt (by rw [show n - 1 - k + 1 = n - k by omega]; exact h2)
    rwa [show n - (k + 1) = n - 1 - k by omega]

theorem heapify_perm (xs : List (List Nat)) : (heapifyL xs).Perm xs := (heapify_fold xs _ rfl _ (Nat.le_refl _)).1
theorem heapify_ord (xs : List (List Nat)) : Hf 0 (heapifyL xs) := by
  have := (heapify_fold xs _ rfl _ (Nat.le_refl _)).2
  rwa [Nat.sub_self] at this

theorem root_min {xs : List (List Nat)} (h : Hf 0 xs) : ∀ i, i < xs.length → gt xs 0 ≤ gt xs i := by
  intro i
  induction i using Nat.strongRecOn with
  | ind i ih =>
    intro hi
    by_cases h0 : i = 0
    · subst h0; exact List.le_refl _
    · exact List.le_trans (ih ((i - 1) / 2) (by omega) (by omega)) (h i (by omega) hi (Nat.zero_le _))

theorem root_mem {xs : List (List Nat)} (h : Hf 0 xs) : ∀ y ∈ xs, gt xs 0 ≤ y := fun y hy => by
  obtain ⟨i, hi, rfl⟩ := List.mem_iff_getElem.mp hy
  have := root_min h i hi
  unfold gt at this
  rw [List.getD_eq_getElem?_getD (i := i), List.getElem?_eq_getElem hi] at this
  exact this

theorem pop_ok (xs : List (List Nat)) (h0 : xs ≠ []) (h : Hf 0 xs) : ((popL xs).1 :: (popL xs).2).Perm xs ∧ (∀ y ∈ xs, (popL xs).1 ≤ y) ∧ Hf 0 (popL xs).2 := by
  have hl : xs = xs.dropLast ++ [xs.getLastD []] := by
    have e := (List.dropLast_concat_getLast h0).symm
    have e2 : xs.getLastD [] = xs.getLast h0 := by
      rw [List.getLastD_eq_getLast?, List.getLast?_eq_some_getLast h0]; rfl
    rw [e2]; exact e
  have hr := root_mem h
  unfold popL
  by_cases hd : xs.dropLast = []
  · rw [if_pos hd]
    rw [hd, List.nil_append] at hl
    have : gt xs 0 = xs.getLastD [] := by rw [hl]; rfl
    rw [this] at hr
    refine ⟨by rw [← hl], hr, fun i i0 il => by simp at il⟩
  · rw [if_neg hd]
    have hg : ∀ i, i < xs.dropLast.length → gt xs i = gt xs.dropLast i := fun i hi => by
      unfold gt
      conv => lhs; rw [hl]
      rw [List.getD_eq_getElem?_getD, List.getD_eq_getElem?_getD, List.getElem?_append_left hi]
    have hdl : 0 < xs.dropLast.length := List.length_pos_iff.mpr hd
    have h00 : gt xs 0 = xs.dropLast.headD [] := by
      rw [hg 0 hdl]; unfold gt
      rw [List.getD_eq_getElem?_getD, List.headD_eq_head?_getD, List.head?_eq_getElem?]
    rw [h00] at hr
    generalize hL : xs.getLastD [] = last at hl
    generalize hD : xs.dropLast = d at *
    have hll : xs.length = d.length + 1 := by rw [hl]; simp
    refine ⟨?_, hr, ?_⟩
    · refine ((siftup_perm _ 0 (by simpa using hdl)).cons _).trans ?_
      rw [hl]
      match d, hd with
      | x :: r, _ =>
        simp only [List.headD_cons, List.set_cons_zero, List.cons_append]
        exact (List.perm_append_singleton last r).symm.cons x
    · refine siftup_ord _ 0 (by simpa using hdl) fun i i0 il ia => ?_
      rw [List.length_set] at il
      rw [gt_set hdl, gt_set hdl, if_neg (by omega), if_neg (by omega)]
      have := h i i0 (by omega) (Nat.zero_le _)
      rwa [hg i il, hg _ (by omega)] at this
end Mine
end

section
open PySem PySem.W PyProof.Rows PySem.Calls
set_option maxRecDepth 100000
set_option linter.unusedVariables false
namespace Mine

theorem drained_ok (h : List (List Nat)) (ho : Hf 0 h) : ∀ n, n ≤ h.length → (drained h n ++ hps h n).Perm h ∧ Hf 0 (hps h n) ∧ (drained h n).Pairwise (· ≤ ·) ∧ ∀ x ∈ drained h n, ∀ y ∈ hps h n, x ≤ y := by
  intro n
  induction n with
  | zero => intro _; exact ⟨List.Perm.refl _, ho, .nil, fun x hx => nomatch hx⟩
  | succ n ih =>
    intro hn
    obtain ⟨h1, h2, h3, h4⟩ := ih (by omega)
    have hlen := hps_length h n
    have hne : hps h n ≠ [] := fun e => by rw [e] at hlen; simp at hlen; omega
    obtain ⟨p1, p2, p3⟩ := pop_ok (hps h n) hne h2
    have e1 : drained h (n + 1) = drained h n ++ [(popL (hps h n)).1] := by
      unfold drained; rw [List.range_succ, List.map_append]; rfl
    have e2 : hps h (n + 1) = (popL (hps h n)).2 := rfl
    have hm : (popL (hps h n)).1 ∈ hps h n := p1.mem_iff.mp (.head _)
    have hs : ∀ y ∈ (popL (hps h n)).2, y ∈ hps h n := fun y hy => p1.mem_iff.mp (.tail _ hy)
    rw [e1, e2]
    refine ⟨?_, p3, ?_, ?_⟩
    · rw [List.append_assoc]
      exact (List.Perm.append_left _ p1).trans h1
    · refine List.pairwise_append.mpr ⟨h3, List.pairwise_singleton .., fun x hx y hy => ?_⟩
      rcases List.mem_singleton.mp hy with rfl
      exact h4 x hx _ hm
    · intro x hx y hy
      rcases List.mem_append.mp hx with hx | hx
      · exact h4 x hx y (hs y hy)
      · rcases List.mem_singleton.mp hx with rfl
        exact p2 y (hs y hy)

theorem rots_length (w : List Nat) : (rots w).length = w.length := by simp [rots]
theorem rows_both (w : List Nat) : (rowsL w).Perm (rots w) ∧ (rowsL w).Pairwise (· ≤ ·) := by
  have hl : (heapifyL (rots w)).length = w.length := by rw [heapifyL_length, rots_length]
  obtain ⟨h1, h2, h3, h4⟩ := drained_ok (heapifyL (rots w)) (heapify_ord _) w.length (by omega)
  have hlen := hps_length (heapifyL (rots w)) w.length
  have he : hps (heapifyL (rots w)) w.length = [] := List.eq_nil_of_length_eq_zero (by omega)
  rw [he, List.append_nil] at h1
  exact ⟨h1.trans (heapify_perm _), h3⟩
theorem rots_each (w : List Nat) : ∀ y ∈ rots w, y.length = w.length := fun y hy => by
  obtain ⟨k, hk, rfl⟩ := List.mem_map.mp hy
  have := List.mem_range.mp hk
  simp; omega
theorem rows_plain (x : List Nat) : (rowsL x).length = x.length ∧ ∀ y ∈ rowsL x, y.length = x.length := by
  have h := (rows_both x).1
  exact ⟨by rw [h.length_eq, rots_length], fun y hy => rots_each x y (h.mem_iff.mp hy)⟩
end Mine
end

section
open PySem PySem.W PyProof.Rows PySem.Calls
set_option maxRecDepth 100000
set_option linter.unusedVariables false
namespace Mine

theorem fnd_sorted (c : Nat) : ∀ ys : List Nat, ys.Pairwise (· ≤ ·) → c ∈ ys → fnd c ys = (ys.countP fun d => decide (d < c) : Nat)
  | [], _, h => nomatch h
  | d :: r, hs, hm => by
    obtain ⟨h1, h2⟩ := List.pairwise_cons.mp hs
    unfold fnd
    rw [if_pos hm]
    by_cases e : d = c
    · subst e
      have h0 : (d :: r).countP (fun x => decide (x < d)) = 0 := by
        rw [List.countP_eq_zero]
        intro x hx
        rcases List.mem_cons.mp hx with rfl | hx
        · simp
        · have := h1 x hx; simp; omega
      rw [h0]; simp
    · have hm' : c ∈ r := (List.mem_cons.mp hm).resolve_left fun x => e x.symm
      have := fnd_sorted c r h2 hm'
      unfold fnd at this
      rw [if_pos hm'] at this
      have hdc := h1 c hm'
      rw [List.idxOf_cons, List.countP_cons]
      have e1 : (d == c) = false := by simpa using e
      rw [e1]
      have e2 : decide (d < c) = true := decide_eq_true (by omega)
      simp only [e2, if_true, cond_false]
      omega
end Mine
end

section
open PySem PySem.W PyProof.Rows PySem.Calls
set_option maxRecDepth 100000
set_option linter.unusedVariables false
namespace Mine

theorem take_countP {α : Type} (le : α → α → Prop) (p : α → Bool) (hp : ∀ a b, le a b → p b = true → p a = true) : ∀ l : List α, l.Pairwise le → l.take (l.countP p) = l.filter p
  | [], _ => rfl
  | a :: r, h => by
    obtain ⟨h1, h2⟩ := List.pairwise_cons.mp h
    have ih := take_countP le p hp r h2
    cases e : p a with
    | true => rw [List.countP_cons_of_pos e, List.take_succ_cons, ih, List.filter_cons_of_pos e]
    | false =>
      have hn : ∀ b ∈ r, p b = false := fun b hb => by
        cases eb : p b with
        | false => rfl
        | true => rw [hp a b (h1 b hb) eb] at e; cases e
      have hc : (a :: r).countP p = 0 := by
        rw [List.countP_eq_zero]
        intro x hx
        rcases List.mem_cons.mp hx with rfl | hx
        · simp [e]
        · simp [hn x hx]
      rw [hc, List.filter_cons_of_neg (by simp [e]), List.take_zero]
      exact (List.filter_eq_nil_iff.mpr fun x hx => by simp [hn x hx]).symm
end Mine
end

section
open PySem PySem.W PyProof.Rows PySem.Calls
set_option maxRecDepth 100000
set_option linter.unusedVariables false
namespace Mine

noncomputable def rotk (W : List Nat) (k : Nat) : List Nat := W.drop k ++ W.take k
noncomputable def rotl (r : List Nat) : List Nat := r.drop 1 ++ r.take 1
theorem rotl_rotk (W : List Nat) (k : Nat) (hk : k < W.length) : rotl (rotk W k) = rotk W (k + 1) := by
  unfold rotl rotk
  have e : W.drop k = W[k] :: W.drop (k + 1) := List.drop_eq_getElem_cons hk
  rw [e, show W.take (k + 1) = W.take k ++ [W[k]] by rw [List.take_add_one, List.getElem?_eq_getElem hk]; rfl]
  exact List.append_assoc (W.drop (k + 1)) (W.take k) [W[k]]
theorem rots_rot (W : List Nat) : ((rots W).map rotl).Perm (rots W) := by
  have e : (rots W).map rotl = (List.range W.length).map fun k => rotk W (k + 1) := by
    unfold rots
    rw [List.map_map]
    exact List.map_congr_left fun k hk => rotl_rotk W k (List.mem_range.mp hk)
  have h1 : (List.range (W.length + 1)).map (rotk W) = rotk W 0 :: (List.range W.length).map fun k => rotk W (k + 1) := by
    rw [List.range_succ_eq_map, List.map_cons, List.map_map]; rfl
  have h2 : (List.range (W.length + 1)).map (rotk W) = (rots W) ++ [rotk W W.length] := by
    rw [List.range_succ, List.map_append]; rfl
  have h3 : rotk W W.length = rotk W 0 := by simp [rotk]
  rw [e]
  have h4 : (rotk W 0 :: (List.range W.length).map fun k => rotk W (k + 1)).Perm (rotk W 0 :: rots W) := by
    rw [← h1, h2, h3]; exact List.perm_append_singleton _ _
  exact List.Perm.cons_inv h4
end Mine
end

section
open PySem PySem.W PyProof.Rows PySem.Calls
set_option maxRecDepth 100000
set_option linter.unusedVariables false
namespace Mine

theorem last_rotl (c : Nat) (r : List Nat) : lastN (rotl (c :: r)) = c := by
  unfold lastN rotl
  simp
/-- rows that are less -/
noncomputable def loC (R : List (List Nat)) (v : List Nat) : Nat := R.countP fun r => decide (r < v)
theorem loC_le (R : List (List Nat)) (v : List Nat) : loC R v ≤ R.length := List.countP_le_length
theorem loC_take (R : List (List Nat)) (hs : R.Pairwise (· ≤ ·)) (v : List Nat) : R.take (loC R v) = R.filter fun r => decide (r < v) :=
  take_countP (· ≤ ·) _ (fun a b hab hb => by
    simp only [decide_eq_true_eq] at hb ⊢
    exact List.lt_of_le_of_lt hab hb) R hs

theorem app_lt (c m : Nat) : ∀ r v : List Nat, m ∈ r → m ∉ v → (r ++ [c] < v ↔ r < v)
  | [], v, h, _ => nomatch h
  | a :: r, [], _, _ => by simp
  | a :: r, d :: v, h, hv => by
    rw [List.cons_append, List.cons_lt_cons_iff, List.cons_lt_cons_iff]
    constructor
    · rintro (h1 | ⟨rfl, h1⟩)
      · exact .inl h1
      · have hm : m ∈ r := (List.mem_cons.mp h).resolve_left fun e => hv (by simp [e])
        exact .inr ⟨rfl, (app_lt c m r v hm (fun x => hv (.tail _ x))).mp h1⟩
    · rintro (h1 | ⟨rfl, h1⟩)
      · exact .inl h1
      · have hm : m ∈ r := (List.mem_cons.mp h).resolve_left fun e => hv (by simp [e])
        exact .inr ⟨rfl, (app_lt c m r v hm (fun x => hv (.tail _ x))).mpr h1⟩

theorem row_lt {m c : Nat} {r v : List Nat} (hm : m ∈ r) (hc : c ≠ m) (hv : m ∉ v) : r < c :: v ↔ lastN (rotl r) < c ∨ (lastN (rotl r) = c ∧ rotl r < v) := by
  cases r with
  | nil => exact nomatch hm
  | cons a r =>
    rw [last_rotl, List.cons_lt_cons_iff]
    refine or_congr Iff.rfl (and_congr_right fun e => ?_)
    subst e
    have hm' : m ∈ r := (List.mem_cons.mp hm).resolve_left fun e => hc e.symm
    exact (app_lt a m r v hm' hv).symm

theorem countP_or {α : Type} (p q : α → Bool) (h : ∀ a, p a = true → q a = true → False) : ∀ l : List α, l.countP (fun a => p a || q a) = l.countP p + l.countP q
  | [] => rfl
  | a :: r => by
    rw [List.countP_cons, List.countP_cons, List.countP_cons, countP_or p q h r]
    cases hp : p a <;> cases hq : q a <;> simp
    · omega
    · omega
    · exact (h a hp hq).elim

theorem lo_step {R : List (List Nat)} {W ys : List Nat} {m c : Nat} {v : List Nat} (hR : R.Perm (rots W)) (hs : R.Pairwise (· ≤ ·)) (hW : ∀ r ∈ R, m ∈ r)
    (hp : ys.Perm (colL R)) (hc : c ≠ m) (hv : m ∉ v) : loC R (c :: v) = ys.countP (fun d => decide (d < c)) + ((colL R).take (loC R v)).count c := by
  have h1 : loC R (c :: v) = R.countP (fun r => decide (lastN (rotl r) < c) || (decide (lastN (rotl r) = c) && decide (rotl r < v))) :=
    List.countP_congr fun r hr => by
      have := row_lt (hW r hr) hc hv
      simp only [decide_eq_true_eq, Bool.or_eq_true, Bool.and_eq_true]
      exact this
  have h2 : R.countP (fun r => decide (lastN (rotl r) < c) || (decide (lastN (rotl r) = c) && decide (rotl r < v))) = (R.map rotl).countP (fun q => decide (lastN q < c) || (decide (lastN q = c) && decide (q < v))) := by
    rw [List.countP_map]; rfl
  have h3 : (R.map rotl).Perm R := (hR.map rotl).trans ((rots_rot W).trans hR.symm)
  rw [h1, h2, h3.countP_eq, countP_or]
  · congr 1
    · rw [hp.countP_eq]; unfold colL; rw [List.countP_map]; rfl
    · unfold colL
      rw [← List.map_take, loC_take R hs, List.count, List.countP_map, List.countP_filter]
      refine List.countP_congr fun q _ => ?_
      simp
  · intro a ha hb
    simp only [decide_eq_true_eq, Bool.and_eq_true] at ha hb
    omega
end Mine
end

section
open PySem PySem.W PyProof.Rows PySem.Calls
set_option maxRecDepth 100000
set_option linter.unusedVariables false
namespace Mine

theorem bnd_cons (ys col v : List Nat) (c : Nat) (l : Int) : bnd ys col (c :: v) l = fstep ys col (bnd ys col v l) c := by
  unfold bnd; rw [List.reverse_cons, List.foldl_append]; rfl

theorem bnd_lo {R : List (List Nat)} {W ys : List Nat} {m : Nat} (hR : R.Perm (rots W)) (hs : R.Pairwise (· ≤ ·)) (hW : ∀ r ∈ R, m ∈ r)
    (hp : ys.Perm (colL R)) (hys : ys.Pairwise (· ≤ ·)) (t : List Nat) (ht : m ∉ t) : ∀ y : List Nat, (∀ c ∈ y, c ∈ ys ∧ c ≠ m) → bnd ys (colL R) y (loC R t : Nat) = (loC R (y ++ t) : Nat)
  | [], _ => rfl
  | c :: v, h => by
    have h1 := h c (.head _)
    have h2 : ∀ d ∈ v, d ∈ ys ∧ d ≠ m := fun d hd => h d (.tail _ hd)
    rw [bnd_cons, bnd_lo hR hs hW hp hys t ht v h2]
    have hv : m ∉ v ++ t := fun x => by
      rcases List.mem_append.mp x with x | x
      · exact (h2 m x).2 rfl
      · exact ht x
    unfold fstep
    rw [sl_to, fnd_sorted c ys hys h1.1, List.cons_append, lo_step hR hs hW hp h1.2 hv]
    omega

theorem sl_mem {x : List Nat} {a b : Option Int} {c : Nat} (h : c ∈ sl x a b) : c ∈ x := by
  unfold sl at h
  exact List.mem_of_mem_drop (List.mem_of_mem_take h)
theorem bnd_miss {ys col : List Nat} (hp : ys.Perm col) (a b : Int) : ∀ y : List Nat, (∃ c ∈ y, c ∉ ys) → bnd ys col y a = bnd ys col y b
  | [], h => by obtain ⟨c, hc, _⟩ := h; exact nomatch hc
  | c :: v, h => by
    rw [bnd_cons, bnd_cons]
    by_cases hv : ∃ c ∈ v, c ∉ ys
    · rw [bnd_miss hp a b v hv]
    · have hc : c ∉ ys := by
        obtain ⟨d, hd, hn⟩ := h
        rcases List.mem_cons.mp hd with rfl | hd
        · exact hn
        · exact absurd ⟨d, hd, hn⟩ hv
      have key : ∀ l, fstep ys col l c = -1 := fun l => by
        unfold fstep fnd
        rw [if_neg hc, List.count_eq_zero_of_not_mem fun x => hc (hp.mem_iff.mpr (sl_mem x))]
        rfl
      rw [key, key]

theorem idx_countP {α : Type} (le : α → α → Prop) (p : α → Bool) (hp : ∀ a b, le a b → p b = true → p a = true) : ∀ l : List α, l.Pairwise le → ∀ (k : Nat) (a : α), l[k]? = some a → (p a = true ↔ k < l.countP p)
  | [], _, k, a, h => by simp at h
  | b :: r, hl, k, a, h => by
    obtain ⟨h1, h2⟩ := List.pairwise_cons.mp hl
    have ih := idx_countP le p hp r h2
    cases e : p b with
    | true =>
      rw [List.countP_cons_of_pos e]
      cases k with
      | zero =>
        have : b = a := by simpa using h
        subst this; simp [e]
      | succ k =>
        rw [ih k a (by simpa using h)]; omega
    | false =>
      have hn : ∀ x ∈ r, p x = false := fun x hx => by
        cases ex : p x with
        | false => rfl
        | true => rw [hp b x (h1 x hx) ex] at e; cases e
      have hc : (b :: r).countP p = 0 := by
        rw [List.countP_eq_zero]
        intro x hx
        rcases List.mem_cons.mp hx with rfl | hx
        · simp [e]
        · simp [hn x hx]
      rw [hc]
      have ha : a ∈ b :: r := List.mem_of_getElem? h
      rw [List.countP_eq_zero] at hc
      have := hc a ha
      simp [this]

theorem take_iff {M : Nat} : ∀ y r : List Nat, (∀ a ∈ r, a < M) → (r.take y.length = y ↔ ¬ r < y ∧ r < y ++ [M])
  | [], [], _ => by simp
  | [], a :: r, h => by
    have := h a (.head _)
    simp [List.cons_lt_cons_iff, this]
  | c :: y, [], _ => by simp
  | c :: y, a :: r, h => by
    have ih := take_iff y r fun a ha => h a (.tail _ ha)
    rw [List.length_cons, List.take_succ_cons, List.cons_append, List.cons_lt_cons_iff, List.cons_lt_cons_iff, List.cons.injEq, ih]
    constructor
    · rintro ⟨rfl, h1, h2⟩
      exact ⟨fun x => x.elim (fun x => absurd x (Nat.lt_irrefl _)) fun x => h1 x.2, .inr ⟨rfl, h2⟩⟩
    · rintro ⟨h1, h2 | ⟨rfl, h2⟩⟩
      · exact absurd (.inl h2) h1
      · exact ⟨rfl, fun x => h1 (.inr ⟨rfl, x⟩), h2⟩

theorem filter_range (a : Nat) : ∀ N b, b ≤ N → ((List.range N).filter fun k => decide (a ≤ k) && decide (k < b)) = (List.range (b - a)).map (a + ·)
  | 0, b, h => by
    have : b = 0 := by omega
    subst this; simp
  | N + 1, b, h => by
    rw [List.range_succ, List.filter_append]
    by_cases hb : b ≤ N
    · rw [filter_range a N b hb, List.filter_cons_of_neg (by simp; omega)]; simp
    · have e : b = N + 1 := by omega
      subst e
      have h1 : ((List.range N).filter fun k => decide (a ≤ k) && decide (k < N + 1)) = (List.range N).filter fun k => decide (a ≤ k) && decide (k < N) := by
        refine List.filter_congr fun k hk => ?_
        have := List.mem_range.mp hk
        rw [decide_eq_true (show k < N + 1 by omega), decide_eq_true this]
      rw [h1, filter_range a N N (Nat.le_refl _)]
      by_cases ha : a ≤ N
      · rw [List.filter_cons_of_pos (by simp; omega), show N + 1 - a = (N - a) + 1 by omega, List.range_succ, List.map_append]
        simp; omega
      · rw [List.filter_cons_of_neg (by simp; omega), show N + 1 - a = 0 by omega, show N - a = 0 by omega]; simp

theorem rots_mem {W r : List Nat} {c : Nat} (h : r ∈ rots W) : c ∈ r ↔ c ∈ W := by
  obtain ⟨k, _, rfl⟩ := List.mem_map.mp h
  constructor
  · intro h
    rcases List.mem_append.mp h with h | h
    · exact List.mem_of_mem_drop h
    · exact List.mem_of_mem_take h
  · intro h
    rw [← List.take_append_drop k W] at h
    rcases List.mem_append.mp h with h | h
    · exact List.mem_append_right _ h
    · exact List.mem_append_left _ h

theorem col_mem {R : List (List Nat)} {W : List Nat} (hR : R.Perm (rots W)) {c : Nat} (h : c ∈ W) : c ∈ colL R := by
  obtain ⟨k, hk, e⟩ := List.mem_iff_getElem.mp h
  have h1 : rotk W k ∈ rots W := List.mem_map.mpr ⟨k, List.mem_range.mpr hk, rfl⟩
  have h2 : rotl (rotk W k) ∈ R := hR.mem_iff.mpr ((rots_rot W).mem_iff.mp (List.mem_map_of_mem h1))
  have h3 : lastN (rotl (rotk W k)) = c := by
    unfold rotk
    rw [List.drop_eq_getElem_cons hk, List.cons_append, last_rotl, e]
  exact List.mem_map.mpr ⟨_, h2, h3⟩

theorem found_plain {R : List (List Nat)} {W y : List Nat} {m M : Nat} (hR : R.Perm (rots W)) (hs : R.Pairwise (· ≤ ·)) (hW : m ∈ W) (hlt : ∀ c ∈ W, c < M) (hM : m ≠ M) (hy : m ∉ y)
    {ys : List Nat} (hp : ys.Perm (colL R)) (hys : ys.Pairwise (· ≤ ·)) : rngL (bnd ys (colL R) y 0) (bnd ys (colL R) y R.length) = takenL R y := by
  have hWr : ∀ r ∈ R, m ∈ r := fun r hr => (rots_mem (hR.mem_iff.mp hr)).mpr hW
  have hltr : ∀ r ∈ R, ∀ c ∈ r, c < M := fun r hr c hc => hlt c ((rots_mem (hR.mem_iff.mp hr)).mp hc)
  have hmem : ∀ k, k < R.length → R.getD k [] ∈ R := fun k hk => by
    rw [List.getD_eq_getElem?_getD, List.getElem?_eq_getElem hk]; exact List.getElem_mem hk
  by_cases hall : ∃ c ∈ y, c ∉ ys
  · rw [bnd_miss hp 0 R.length y hall]
    have e1 : ∀ a, rngL a a = [] := fun a => by unfold rngL; simp
    rw [e1]
    unfold takenL
    obtain ⟨c, hc, hn⟩ := hall
    have : ((List.range R.length).filter fun k => (R.getD k []).take y.length == y) = [] := by
      rw [List.filter_eq_nil_iff]
      intro k hk e
      have e := eq_of_beq e
      have h1 : c ∈ R.getD k [] := by rw [← e] at hc; exact List.mem_of_mem_take hc
      exact hn (hp.mem_iff.mpr (col_mem hR ((rots_mem (hR.mem_iff.mp (hmem k (List.mem_range.mp hk)))).mp h1)))
    rw [this]; rfl
  · have hin : ∀ c ∈ y, c ∈ ys ∧ c ≠ m := fun c hc => ⟨Classical.byContradiction fun x => hall ⟨c, hc, x⟩, fun e => hy (e ▸ hc)⟩
    have h0 : loC R [] = 0 := by
      unfold loC; rw [List.countP_eq_zero]; intro r _; simp
    have hN : loC R [M] = R.length := by
      unfold loC; rw [List.countP_eq_length]
      intro r hr
      rw [decide_eq_true_eq]
      cases r with
      | nil => simp
      | cons a r => exact List.cons_lt_cons_iff.mpr (.inl (hltr _ hr a (.head _)))
    have b0 := bnd_lo hR hs hWr hp hys [] (by simp) y hin
    have bN := bnd_lo hR hs hWr hp hys [M] (by simpa using hM) y hin
    rw [h0, List.append_nil] at b0
    rw [hN] at bN
    rw [show (0 : Int) = ((0 : Nat) : Int) from rfl, b0, bN]
    unfold rngL takenL
    rw [Int.toNat_sub]
    have hf : ((List.range R.length).filter fun k => (R.getD k []).take y.length == y) = (List.range R.length).filter fun k => decide (loC R y ≤ k) && decide (k < loC R (y ++ [M])) := by
      refine List.filter_congr fun k hk => ?_
      have hk := List.mem_range.mp hk
      have e : R[k]? = some (R.getD k []) := by rw [List.getD_eq_getElem?_getD, List.getElem?_eq_getElem hk]; rfl
      have idx : ∀ z, R.getD k [] < z ↔ k < loC R z := fun z => by
        have := idx_countP (· ≤ ·) (fun r => decide (r < z)) (fun a b hab hb => by
          simp only [decide_eq_true_eq] at hb ⊢
          exact List.lt_of_le_of_lt hab hb) R hs k _ e
        simpa [loC] using this
      have h1 := take_iff (M := M) y (R.getD k []) (hltr _ (hmem k hk))
      rw [idx, idx] at h1
      rw [Bool.eq_iff_iff]
      simp only [beq_iff_eq, Bool.and_eq_true, decide_eq_true_eq]
      rw [h1]; omega
    rw [hf, filter_range _ _ _ (loC_le R _), List.map_map]
    refine List.map_congr_left fun k _ => ?_
    show _ = ((loC R y + k : Nat) : Int)
    omega
end Mine
end

section
open PySem PySem.W PyProof.Rows PySem.Calls
set_option maxRecDepth 100000
set_option linter.unusedVariables false
namespace Mine

noncomputable def rowAt (r : List Nat) : Int := (r.length : Int) - 1 - fnd 33 r
theorem filter_getD {β : Type} (R : List (List Nat)) (q : List Nat → Bool) (f : List Nat → β) : ((List.range R.length).filter fun k => q (R.getD k [])).map (fun k => f (R.getD k [])) = (R.filter q).map f := by
  have e := range_getDL R [] fun r => r
  rw [List.map_id'] at e
  conv => rhs; rw [← e]
  rw [List.filter_map, List.map_map]
  rfl

theorem take_stop {m : Nat} (b : List Nat) : ∀ y a : List Nat, m ∉ y → ((a ++ m :: b).take y.length = y ↔ a.take y.length = y)
  | [], _, _ => by simp
  | c :: y, [], h => by
    have : m ≠ c := fun e => h (by simp [e])
    simp [this]
  | c :: y, d :: a, h => by
    have ih := take_stop b y a fun x => h (.tail _ x)
    simp only [List.cons_append, List.length_cons, List.take_succ_cons, List.cons.injEq]
    rw [ih]

theorem idx_app {m : Nat} (b : List Nat) : ∀ a : List Nat, m ∉ a → (a ++ m :: b).idxOf m = a.length
  | [], _ => by simp
  | d :: a, h => by
    have hd : (d == m) = false := by
      have : d ≠ m := fun e => h (by simp [e])
      simpa using this
    rw [List.cons_append, List.idxOf_cons, hd, idx_app b a fun x => h (.tail _ x)]
    rfl

theorem places_plain {R : List (List Nat)} {y0 y : List Nat} (hR : R.Perm (rots (y0 ++ [33]))) (h0 : 33 ∉ y0) (hne : y ≠ []) (hy : 33 ∉ y) :
    ((takenL R y).map (plcL R)).Perm (placesL y0 y) := by
  have e1 : (takenL R y).map (plcL R) = (R.filter fun r => r.take y.length == y).map rowAt := by
    rw [← filter_getD R (fun r => r.take y.length == y) rowAt]
    unfold takenL
    rw [List.map_map]
    rfl
  rw [e1]
  refine ((hR.filter _).map _).trans (List.Perm.of_eq ?_)
  unfold rots
  rw [List.filter_map, List.map_map, List.length_append, List.length_singleton, List.range_succ, List.filter_append, List.map_append]
  have cut : ∀ k, k ≤ y0.length → (y0 ++ [33]).drop k ++ (y0 ++ [33]).take k = y0.drop k ++ 33 :: y0.take k := fun k hk => by
    rw [List.drop_append_of_le_length hk, List.take_append_of_le_length hk, List.append_assoc]; rfl
  have e2 : [y0.length].filter ((fun r => r.take y.length == y) ∘ fun k => (y0 ++ [33]).drop k ++ (y0 ++ [33]).take k) = [] := by
    rw [List.filter_eq_nil_iff]
    intro k hk e
    rcases List.mem_singleton.mp hk with rfl
    have e : ((y0 ++ [33]).drop y0.length ++ (y0 ++ [33]).take y0.length).take y.length = y := eq_of_beq e
    rw [cut _ (Nat.le_refl _), take_stop _ _ _ hy, List.drop_length, List.take_nil] at e
    exact hne e.symm
  rw [e2, List.map_nil, List.append_nil]
  unfold placesL
  have e3 : (List.range y0.length).filter ((fun r => r.take y.length == y) ∘ fun k => (y0 ++ [33]).drop k ++ (y0 ++ [33]).take k) = (List.range y0.length).filter fun k => (y0.drop k).take y.length == y := by
    refine List.filter_congr fun k hk => ?_
    have hk := List.mem_range.mp hk
    show (((y0 ++ [33]).drop k ++ (y0 ++ [33]).take k).take y.length == y) = _
    rw [cut k (by omega), Bool.eq_iff_iff, beq_iff_eq, beq_iff_eq]
    exact take_stop _ _ _ hy
  rw [e3]
  refine List.map_congr_left fun k hk => ?_
  have hk := List.mem_range.mp (List.mem_filter.mp hk).1
  show rowAt ((y0 ++ [33]).drop k ++ (y0 ++ [33]).take k) = _
  rw [cut k (by omega)]
  unfold rowAt fnd
  rw [if_pos (by simp), idx_app _ _ fun x => h0 (List.mem_of_mem_drop x)]
  simp only [List.length_append, List.length_cons, List.length_drop, List.length_take]
  omega

/-- places, as numbers from nought -/
noncomputable def plN (x w : List Nat) : List Nat := (List.range x.length).filter fun k => (x.drop k).take w.length == w
theorem placesL_plN (x w : List Nat) : placesL x w = (plN x w).map fun (k : Nat) => (k : Int) := rfl
theorem plN_sorted (x w : List Nat) : (plN x w).Pairwise (· ≤ ·) := (List.pairwise_le_range).filter _
theorem placesL_sorted (x w : List Nat) : (placesL x w).Pairwise (· ≤ ·) := by
  rw [placesL_plN, List.pairwise_map]
  exact (plN_sorted x w).imp fun h => by omega
theorem plN_cons (c : Nat) (x w : List Nat) : plN (c :: x) w = (if (c :: x).take w.length = w then [0] else []) ++ (plN x w).map (· + 1) := by
  unfold plN
  rw [List.length_cons, List.range_succ_eq_map, List.filter_cons, List.filter_map]
  simp only [List.drop_zero, beq_iff_eq]
  split
  · rfl
  · rfl
theorem plN_app (w b : List Nat) : ∀ a : List Nat, (∀ k, k < a.length → (a.drop k ++ b).take w.length ≠ w) → plN (a ++ b) w = (plN b w).map (· + a.length)
  | [], _ => by simp
  | c :: a, h => by
    have h0 := h 0 (by simp)
    have ih := plN_app w b a fun k hk => h (k + 1) (by simpa using hk)
    rw [List.cons_append, plN_cons, if_neg (by simpa using h0), List.nil_append, ih, List.map_map]
    refine List.map_congr_left fun k _ => ?_
    show k + a.length + 1 = k + (c :: a).length
    simp; omega

theorem code_form : ∀ n < 5, ∀ c ∈ signsL, code n c ≠ [] ∧ (code n c).headD 0 ∈ signsL ∧ ∀ d ∈ (code n c).tail, d ∉ signsL := by decide
theorem code_free : ∀ n < 5, ∀ c ∈ signsL, ∀ d ∈ signsL, (code n c).isPrefixOf (code n d) = true → c = d := by decide

theorem spelled_cons (n c : Nat) (x : List Nat) : spelledL n (c :: x) = code n c ++ spelledL n x := rfl
theorem spelled_prefix (n : Nat) (hn : n < 5) : ∀ y x : List Nat, (∀ c ∈ y, c ∈ signsL) → (∀ c ∈ x, c ∈ signsL) → (spelledL n y <+: spelledL n x ↔ y <+: x)
  | [], x, _, _ => by simp [spelledL]
  | c :: y, [], hy, _ => by
    have h1 := (code_form n hn c (hy c (.head _))).1
    rw [spelled_cons]
    constructor
    · intro h
      have h2 := List.prefix_nil.mp h
      exact absurd (List.append_eq_nil_iff.mp h2).1 h1
    · intro h; exact absurd (List.prefix_nil.mp h) (by simp)
  | c :: y, d :: x, hy, hx => by
    have hc := hy c (.head _)
    have hd := hx d (.head _)
    have ih := spelled_prefix n hn y x (fun e he => hy e (.tail _ he)) fun e he => hx e (.tail _ he)
    rw [spelled_cons, spelled_cons, List.cons_prefix_cons]
    constructor
    · intro h
      have h1 : code n c <+: code n d ++ spelledL n x := (List.prefix_append _ _).trans h
      have h2 : code n d <+: code n d ++ spelledL n x := List.prefix_append _ _
      have e : c = d := by
        rcases List.prefix_or_prefix_of_prefix h1 h2 with h3 | h3
        · exact code_free n hn c hc d hd (List.isPrefixOf_iff_prefix.mpr h3)
        · exact (code_free n hn d hd c hc (List.isPrefixOf_iff_prefix.mpr h3)).symm
      subst e
      exact ⟨rfl, ih.mp ((List.prefix_append_right_inj _).mp h)⟩
    · rintro ⟨rfl, h⟩
      exact (List.prefix_append_right_inj _).mpr (ih.mpr h)

theorem spelled_head (n : Nat) (hn : n < 5) (y : List Nat) (hne : y ≠ []) (hy : ∀ c ∈ y, c ∈ signsL) : ∃ h r, spelledL n y = h :: r ∧ h ∈ signsL := by
  cases y with
  | nil => exact absurd rfl hne
  | cons c y =>
    obtain ⟨h1, h2, _⟩ := code_form n hn c (hy c (.head _))
    rw [spelled_cons]
    revert h1 h2
    cases code n c with
    | nil => intro h _; exact absurd rfl h
    | cons a t => intro _ h; exact ⟨a, t ++ spelledL n y, rfl, h⟩

theorem plN_spelled (n : Nat) (hn : n < 5) (y : List Nat) (hne : y ≠ []) (hy : ∀ c ∈ y, c ∈ signsL) : ∀ x : List Nat, (∀ c ∈ x, c ∈ signsL) →
    plN (spelledL n x) (spelledL n y) = (plN x y).map fun k => (spelledL n (x.take k)).length
  | [], _ => rfl
  | c :: x, hx => by
    have ih := plN_spelled n hn y hne hy x fun e he => hx e (.tail _ he)
    have hp : ((spelledL n (c :: x)).take (spelledL n y).length = spelledL n y) ↔ (c :: x).take y.length = y := by
      have h1 := spelled_prefix n hn y (c :: x) hy hx
      rw [List.prefix_iff_eq_take, List.prefix_iff_eq_take] at h1
      exact ⟨fun h => (h1.mp h.symm).symm, fun h => (h1.mpr h.symm).symm⟩
    obtain ⟨h0, r0, e0, m0⟩ := spelled_head n hn y hne hy
    obtain ⟨f1, f2, f3⟩ := code_form n hn c (hx c (.head _))
    rw [plN_cons c x y, List.map_append]
    have e1 : ((if (c :: x).take y.length = y then [0] else []).map fun k => (spelledL n ((c :: x).take k)).length) = (if (c :: x).take y.length = y then [0] else []) := by
      split <;> rfl
    rw [e1, List.map_map]
    have e3 : (if (c :: x).take y.length = y then [0] else []) = (if (spelledL n (c :: x)).take (spelledL n y).length = spelledL n y then [0] else []) := by
      by_cases h : (c :: x).take y.length = y
      · rw [if_pos h, if_pos (hp.mpr h)]
      · rw [if_neg h, if_neg fun z => h (hp.mp z)]
    rw [e3, spelled_cons]
    have e2 : ((fun k => (spelledL n ((c :: x).take k)).length) ∘ fun k => k + 1) = fun k => (spelledL n (x.take k)).length + (code n c).length := by
      funext k
      show (spelledL n (c :: x.take k)).length = _
      rw [spelled_cons, List.length_append]; omega
    rw [e2]
    rcases ec : code n c with _ | ⟨a, t⟩
    · exact absurd ec f1
    rw [ec] at f3
    rw [List.cons_append, plN_cons, plN_app (spelledL n y) (spelledL n x) t, ih, List.map_map, List.map_map]
    · congr 1
    · intro k hk e
      rw [e0, List.drop_eq_getElem_cons hk] at e
      simp only [List.cons_append, List.length_cons, List.take_succ_cons, List.cons.injEq] at e
      exact f3 t[k] (List.getElem_mem hk) (e.1 ▸ m0)

theorem places_spelled (n : Nat) (hn : n < 5) (x y : List Nat) (hne : y ≠ []) (hy : ∀ c ∈ y, c ∈ signsL) (hx : ∀ c ∈ x, c ∈ signsL) :
    placesL (spelledL n x) (spelledL n y) = aheadL n x y := by
  unfold aheadL
  rw [placesL_plN, placesL_plN, plN_spelled n hn y hne hy x hx, List.map_map, List.map_map]
  rfl

theorem good_plain (n : Nat) (hn : n < 5) (x v : List Nat) (hx : ∀ c ∈ x, c ∈ signsL) (hne : v ≠ []) (hlen : v.length ≤ 400)
    (hv : ∀ d ∈ v, d < 128 ∧ d ≠ 42 ∧ d ≠ 63 ∧ d ≠ 91 ∧ d ≠ 92 ∧ d ≠ 33) : Good (rowsL (spelledL n x ++ [33])) v (placesL (spelledL n x) v) := by
  obtain ⟨hR, hs⟩ := rows_both (spelledL n x ++ [33])
  have hS := spelled_signs n hn x hx
  have hv33 : 33 ∉ v := fun h => (hv 33 h).2.2.2.2.2 rfl
  refine ⟨hne, hlen, fun c hc => (hv c hc).1, fun c hc => ⟨(hv c hc).2.1, (hv c hc).2.2.1, (hv c hc).2.2.2.1⟩, esc_bare_ok v fun c hc => (hv c hc).2.2.2.2.1, esc_head v fun c hc => (hv c hc).2.2.2.2.1, ?_, ?_, placesL_sorted _ _⟩
  · intro ys hp hys
    refine found_plain (m := 33) (M := 128) hR hs (by simp) ?_ (by decide) hv33 hp hys
    intro c hc
    rcases List.mem_append.mp hc with hc | hc
    · exact (hS c hc).1
    · rcases List.mem_singleton.mp hc with rfl; decide
  · exact places_plain hR (fun h => (hS 33 h).2.2.2.2.2 rfl) hne hv33

theorem plain_holds : Plain where
  same := fun n x hn _ h => write_spelled n hn x h
  len := fun n x hn h => ⟨spelled_ge n hn x h, spelled_len n x⟩
  rows := rows_plain
  bare := fun n x st hn hl h hst => by
    have e : (((spelledL n x).drop st).take 3).length = 3 := by
      rw [List.length_take, List.length_drop]; omega
    refine good_plain n hn x _ h (fun x => by rw [x] at e; simp at e) (by omega) fun d hd => spelled_signs n hn x h d (List.mem_of_mem_drop (List.mem_of_mem_take hd))
  word := fun n x y hn hl h hne hy hs => by
    rw [← places_spelled n hn x y hne hs h]
    have h1 := spelled_len n y
    refine good_plain n hn x _ h ?_ (by omega) (spelled_signs n hn y hs)
    obtain ⟨a, r, e, _⟩ := spelled_head n hn y hne hs
    rw [e]; simp
end Mine
end

section
open PySem PySem.W PyProof.Rows PySem.Calls
set_option maxRecDepth 100000
set_option linter.unusedVariables false
namespace Mine

noncomputable abbrev pw : Program := PySem.Challenge.pw_rx0130_01
noncomputable def qv : Program := view pw [0, 3, 6, 8, 9, 11, 12, 13, 14, 16, 17, 18, 19, 20, 21, 23, 24, 25, 26, 27, 28, 29, 30, 31]
noncomputable def looseV : List Str := ["_twin_re_1", "_special_chars_map"]
noncomputable def specL : List (Int × Option Int × Option (List Nat)) := [40, 41, 91, 93, 123, 125, 63, 42, 43, 45, 124, 94, 36, 92, 46, 38, 126, 35, 32, 9, 10, 13, 11, 12].map fun (k : Nat) => ((k : Int), some (k : Int), some [92, k])
/-- the table of special signs, looked at -/
noncomputable def specB (s : Shared) : Bool := match s.heap.nsMap mainGlobals "_special_chars_map" with
  | some (.ref a) => !(a == sysModules) && (match s.heap.get? a with
    | some ⟨.type "dict", none, .dict es _, sl⟩ => sl.isEmpty && decide (es.toList.map (fun e => (e.hash, (match e.key with | .int i _ => some i | _ => none), (match e.val with | .str s _ => some s.cps.toList | _ => none))) = specL)
    | _ => false)
  | _ => false
noncomputable def Xv (s : Shared) : Bool := xlAt qv [] s && recOk (RowW.records PySem.Challenge.rw_rx0130_01.row.toRowW) s

/-- the run of the top, told with the library's quick tables -/
noncomputable def openQ (p : Program) (w : World) (N : Nat) : Option Shared :=
  ((Fast.tw10274390034422433532 Fast.tw14364793385576792824 (opening p) w N (Fast.tw1435165496053646825 (opening p)).1 (Fast.tw1435165496053646825 (opening p)).2).bind (Fast.tw14289696077712309145 p)).bind fun s₀ =>
    match s₀.heap.isNs mainGlobals && s₀.gens.size == 0 with
    | true => (Fast.tw14082659384304107361 Fast.tw14364793385576792824 p w s₀.heap.objs.size (s₀.heap.nsMap mainGlobals "__annotations__") N s₀ (topStub p)).bind fun s₁ =>
      match staticsOk (importedModules p.main.body) s₀.heap s₁.heap && namesBound p s₁.heap && gensDone s₁ && laidKept s₀.heap s₁.heap with
      | true => some s₁
      | false => none
    | false => none
theorem openQ_eq (p : Program) (w : World) (N : Nat) : openEnds treeTable p w N = openQ p w N := by
  unfold openEnds fencedOpening openQ
  rw [← Fast.te10274390034422433532, ← Fast.te14364793385576792824, ← Fast.te1435165496053646825, ← Fast.te14289696077712309145, ← Fast.te14082659384304107361]
  rfl
noncomputable def looksQ (s : Shared) := (Fast.tw4187177175401517315 qv looseV (importedModules pw.main.body) Xv true s, specB s)
theorem looksQ_eq (s : Shared) : (openSeen qv looseV (importedModules pw.main.body) Xv true s, specB s) = looksQ s := by
  unfold looksQ
  rw [← Fast.te4187177175401517315]

noncomputable def LeftAt (w : World) : Prop := (openQ pw w 4250).map looksQ = some (openGood qv looseV, true)
set_option maxHeartbeats 0 in
theorem left_false_false : ∀ w : World, LeftAt ((w.withFollow "special-get-raises" false).withFollow "comprehension-iter-twice" false) := by
  intro w
  unfold LeftAt
  kernel_rfl

set_option maxHeartbeats 0 in
theorem left_false_true : ∀ w : World, LeftAt ((w.withFollow "special-get-raises" true).withFollow "comprehension-iter-twice" false) := by
  intro w
  unfold LeftAt
  kernel_rfl

set_option maxHeartbeats 0 in
theorem left_true_false : ∀ w : World, LeftAt ((w.withFollow "special-get-raises" false).withFollow "comprehension-iter-twice" true) := by
  intro w
  unfold LeftAt
  kernel_rfl

set_option maxHeartbeats 0 in
theorem left_true_true : ∀ w : World, LeftAt ((w.withFollow "special-get-raises" true).withFollow "comprehension-iter-twice" true) := by
  intro w
  unfold LeftAt
  kernel_rfl

theorem left_all : LeftO pw qv looseV Xv specB (fun _ => true) 4250 := by
  have h : ∀ w, LeftAt w := byRow2 "comprehension-iter-twice" (byRow2 "special-get-raises" (P := fun w => LeftAt (w.withFollow "comprehension-iter-twice" false)) left_false_false left_false_true)
    (byRow2 "special-get-raises" (P := fun w => LeftAt (w.withFollow "comprehension-iter-twice" true)) left_true_false left_true_true)
  intro w
  have h := h w
  unfold LeftAt at h
  rw [openQ_eq, show (fun s => (openSeen qv looseV (importedModules pw.main.body) Xv true s, specB s)) = looksQ from funext looksQ_eq]
  exact h
end Mine
end

section
open PySem PySem.W PyProof.Rows PySem.Calls
set_option maxRecDepth 100000
set_option linter.unusedVariables false
namespace Mine

noncomputable def posAtS : Stmt → Pos | .FunctionDef _ _ _ _ _ _ _ _ _ p => p | _ => default
noncomputable def recAt (i : Nat) : DefRec := ⟨nameOf (defAt i), argsOf (defAt i), bodyOf (defAt i), scopeOf (defAt i), posAtS (defAt i)⟩
noncomputable def recIdx : List Nat := [3, 6, 8, 9, 11, 12, 13, 14, 16, 17, 18, 19, 20, 21, 23, 24, 25, 26, 27, 28, 29, 30, 31]
theorem recs_eq : recsOf qv = recIdx.map recAt := by kernel_rfl

theorem fn_top {p : Program} {loose : List Str} {mean : ExcName → Option Value} {mg mb : Str → Option Value} {h : Heap} (T : Top p loose mean mg mb h) (e : recsOf p = recIdx.map recAt) (i : Nat) (hi : i ∈ recIdx) :
    ∃ f, mg (nameOf (defAt i)) = some (.ref f) ∧ FnAt h f (defAt i) := by
  obtain ⟨f, o, pm, cd, doc, h1, h2, h3, h4⟩ := T.fn (recAt i) (by rw [e]; exact List.mem_map_of_mem hi)
  exact ⟨f, h1, o, pm, cd, doc, h2, h3, h4⟩

/-- the table, kept -/
noncomputable def SpecT (h : Heap) : Prop := ∃ a o es ep, h.get? mainGlobals = some o ∧ o.data = .dict es ep ∧ nsFind es "_special_chars_map" = some (.ref a) ∧ SpecAt h a
theorem specT_keeps {h h' : Heap} (x : SpecT h) (k : ∀ b o, h.get? b = some o → h'.get? b = some o) : SpecT h' :=
  let ⟨a, o, es, ep, e1, e2, e3, e4⟩ := x; ⟨a, o, es, ep, k _ _ e1, e2, e3, e4.keeps k⟩
theorem specT_mg {h : Heap} {mg : Str → Option Value} (x : SpecT h) (G : h.Ns mainGlobals mg) : ∃ a, mg "_special_chars_map" = some (.ref a) ∧ SpecAt h a := by
  obtain ⟨a, o, es, ep, e1, e2, e3, e4⟩ := x
  obtain ⟨o', es', ep', f1, f2, _, f3⟩ := G
  rw [e1] at f1; cases f1
  rw [e2] at f2; cases f2
  exact ⟨a, by rw [← f3]; exact e3, e4⟩
theorem specT_of (s : Shared) (h : specB s = true) : SpecT s.heap := by
  unfold specB Heap.nsMap at h
  split at h
  · rename_i a ha
    split at ha
    · rename_i o ho
      split at ha
      · rename_i es ep hd
        rw [Bool.and_eq_true] at h
        obtain ⟨h1, h2⟩ := h
        split at h2
        · rename_i es' ep' sl he
          rw [Bool.and_eq_true, decide_eq_true_eq] at h2
          obtain ⟨h2, h3⟩ := h2
          have hs : sl = #[] := Array.isEmpty_iff.mp h2
          subst hs
          exact ⟨a, o, es, ep, ho, hd, ha, by simpa using h1, es', ep', he, h3⟩
        · cases h2
      · cases ha
    · cases ha
  · cases h

section
variable {prog : Program} {w : World} {A : Around} {E : Value → Shared → Prop} {s : Shared} {mg mb : Str → Option Value} {Q : Value → Shared → Prop}
theorem allI_of {vs : List Value} {ns : List Int} (hi : IntsAre vs ns) : AllI vs.toArray := fun i v e => by
  have h1 := of_intsAre hi
  have h2 := congrArg (·[i]?) h1
  simp only [List.getElem?_map] at h2
  rw [List.getElem?_toArray] at e
  rw [e] at h2
  cases e3 : ns[i]? with
  | none => rw [e3] at h2; simp at h2
  | some n =>
    rw [e3] at h2
    obtain ⟨t, rfl⟩ := ti_some (by simpa using h2 : ti v = some n)
    exact ⟨n, t, rfl⟩

theorem call_law {fa a : Addr} {vs : Array Value} (R : Rm A 7) (hfn : FnAt s.heap fa (defAt 31)) (G : Gl mg mb s.heap) (hl : s.heap.IsList a vs) (hv : AllI vs) (hsz : vs.size ≤ 1000)
    (hQ : ∀ h' tk, Sub s.heap h' → Q (.bool true) { s with heap := h', toks := tk }) : wpAny (model prog w) A (call (.ref fa) [.ref a]) Q E s := by
  refine enterC (k := 6) [("script", .ref a)] (fun L => [("text", L + 1 + 1 + 1), ("signs", L + 1 + 1), ("number", L + 1)]) (fun _ => none) (fun z => if z = "script" then some (.ref a) else none) R hfn G.nolimit ?_
    (hlook := fun L p hp => by simp only [List.mem_cons, List.not_mem_nil, or_false] at hp; rcases hp with rfl | rfl | rfl <;> rfl)
    (hkind := fun L p hp => by rcases List.mem_singleton.mp hp with rfl; exact .inl (by with_unfolding_all rfl))
  intro h₁ cd tk A' R' F
  exact law_walk (k := 0) (os := []) plain_holds R' G F rfl hl hv hsz fun h' tk F => hQ h' tk F.keep
end

theorem rm_caller : Rm callerA 7 := ⟨rfl, by decide, by decide⟩
end Mine
end

section
open PySem PySem.W PyProof.Rows PySem.Calls
set_option maxRecDepth 100000
set_option linter.unusedVariables false
namespace Mine

theorem blt_free : ∀ x ∈ bltNames, x ∉ startupNames ∧ x ∉ looseW qv looseV ∧ x ∉ (recsOf qv).map (·.name) ∧ x ∉ (litsOf qv).map (·.1) ∧ x ∉ (clssOf qv (looseW qv looseV)).map (·.name) := by decide +kernel

theorem walk_law {d : DefRec} {kwd : List (Str × PySem.Expr)} (hn : d.name = nameOf (defAt 31)) :
    WalkO qv looseV (XL qv []) (fun _ h => SpecT h) PySem.Challenge.rw_rx0130_01.row.toRowW d kwd fun f vs => PySem.call f vs := by
  intro w s₀ s₁ mg mb G Y fa o pm cd doc dV kV ho hd hcd hD hmg hg args vals as hpre hlay hrd hwl hlo
  have T := G.T
  obtain ⟨f, hf, hfn⟩ := fn_top T recs_eq 31 (by decide)
  rw [hn, hf] at hmg
  obtain rfl : f = fa := by injection hmg with q; injection q
  have Gl9 : Gl mg mb s₁.heap := ⟨T.g, T.b, T.nolimit, T.builtins, fun i hi => fn_top T recs_eq i (by revert i; decide), fun x hx => let ⟨a, b, c, d, e⟩ := blt_free x hx; T.free x a b c d e, specT_mg Y T.g⟩
  clear hd hcd hD ho hmg hn
  wrow_args hpre hlay hrd hwl hlo
  rename_i ns _ _ _ _ _ _ _ a vs _ hl _ _ _ hi _ hc _
  have hlen := IntsAre.length hi
  refine call_law rm_caller hfn Gl9 hl (allI_of hi) (by rw [List.size_toArray]; omega) fun h' tk k => GoodW.toG ⟨.inl ⟨.bool true, .bool true, [], rfl, ?_, .bool true, ?_, fun _ => ⟨.nil, fun a ha => nomatch ha⟩⟩, k, rfl, hg⟩
  · exact raisesW_false (by wrow_none_raised)
  · exact postW_of (by wrow_shape) (by wtm_val) (by w_fin)

set_option maxHeartbeats 0 in
theorem row_holds (k1 : PySem.Challenge.rw_rx0130_01.row.wellSaid = true) : PySem.Challenge.rw_rx0130_01.row.Holds := by
  refine holds_open (q := qv) (loose := looseV) (Xt := Xv) (XP := XL qv []) (Yf := specB) (Ya := fun _ => true) (YP := fun _ h => SpecT h) (N := 4250) left_all (fun w s e => specT_of s e) (fun w h h' x k => specT_keeps x k)
    (fun s e => xl_of s (Bool.and_eq_true_iff.mp e).1) XL.keeps (by rfl) (by rfl) (by rfl) (fun s e => recFacts_of (Bool.and_eq_true_iff.mp e).2) (by rfl) k1 (by decide +kernel) ⟨rfl, rfl, rfl, rfl, rfl, by decide +kernel⟩ ?hw ?hc
  case hw => w_witness2
  case hc => exact walk_law (by rfl)
end Mine
end

open PySem PySem.W PyProof.Rows
set_option maxRecDepth 100000 in
set_option maxHeartbeats 8000000 in
theorem PySem.Challenge.cw_rx0130_01_holds : PySem.Challenge.rw_rx0130_01.Holds := by
  o_law
  exact Mine.row_holds (by assumption)

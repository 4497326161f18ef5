import PyProof.Rows.All
import Wide.All
import OpenK.AllK
import Wide.FinOn
import PySem.Challenge.RW_qu0018_01
set_option Elab.async false
set_option maxRecDepth 100000
set_option maxHeartbeats 8000000

-- Hd
namespace Mine
open PySem PySem.W PyProof.Rows
open_top hd for PySem.Challenge.rw_qu0018_01
end Mine

-- A1
namespace Mine
open PySem PySem.Spec PySem.Calls PyProof.Rows PySem.W

section
variable {prog : Program} {w : World} {A : Around} {E : Value → Shared → Prop} {s : Shared} {K : Frag} {h₀ : Heap} {mg mb : Str → Option Value} {p : Program} {loose : List Str} {mean : ExcName → Option Value} {Q : Value → Shared → Prop}

/-- entering a def: `news` are the objects that it may turn; all else stands -/
theorem enter {name qual : Str} {params : Arguments} {body : List Stmt} {scope : Scope} {dV kV doc pm cdv ct oc : Value} {an od : Option Addr} {osl : Array (Option Value)} {f : Addr} {args : List Value} {kw : List (Str × Value)} {binds : List (Str × Value)}
    (news : List (Addr × Obj)) (X : K.In h₀) (T : Top p loose mean mg mb h₀) (st : ∀ b o, h₀.get? b = some o → s.heap.get? b = some o)
    (hN : ∀ q ∈ news, s.heap.get? q.1 = some q.2 ∧ h₀.get? q.1 = none)
    (ho : K.lookup f = some ⟨oc, od, .func (fnOf name qual params body scope dV kV doc pm an cdv ct), osl⟩) (hcd : codeIn K cdv qual = true) (hroom : A.depth < recursionLimit)
    (hbind : BindsTo s (fnOf name qual params body scope dV kV doc pm an cdv ct) ⟨args, kw⟩ binds) (hloc : ∀ y ∈ binds, scope.names.lookup y.1 = some .local)
    (h : ∀ g L' h₁, Fr g L' h₁ (fun y => binds.reverse.lookup y) → News g L' h₁ news → K.In g → Top p loose mean mg mb g →
      (∀ b o, s.heap.get? b = some o → b ∉ news.map (·.1) → g.get? b = some o) → (∀ b o, g.get? b = some o → s.heap.get? b = some o) →
      wpAny (model prog w) (A.deeper (envOf qual scope L' f cdv)) (execs body (envOf qual scope L' f cdv))
        (fun fl s' => Q (match fl with | .ret v => v | _ => .none) s') (fun _ _ => False) { s with heap := h₁, toks := s.toks + binds.length })
    (hco : scope.isCoroutine = false) (hgen : scope.isGenerator = false) (hk : scope.kind = .function)
    (hcell : ∀ x ∈ scope.names, x.2 ≠ .cell) : wpAny (model prog w) A (call (.ref f) args kw) Q E s := by
  have Xs : K.In s.heap := fun b o e => st b o (X b o e)
  refine wpAny_call (codeAny_call_def (fd := fnOf name qual params body scope dV kV doc pm an cdv ct) (body := body) (binds := binds) hroom (Xs _ _ ho) rfl (T.nolimit.keeps st) (codeRec_of Xs hcd) rfl hbind hcell hloc (fun h₁ hns hk₁ => ?_) hco hgen hk)
  have nm : ∀ b o, h₀.get? b = some o → b ∉ news.map (·.1) := fun b o e q => by
    obtain ⟨r, hr, rfl⟩ := List.mem_map.mp q
    rw [(hN r hr).2] at e; cases e
  have sg : ∀ b o, h₀.get? b = some o → (hideAll s.heap (news.map (·.1))).get? b = some o := fun b o e => hideAll_get _ (st b o e) (nm b o e)
  have F' : Fr (hideAll s.heap (news.map (·.1))) s.heap.objs.size h₁ (fun y => binds.reverse.lookup y) :=
    ⟨hns, fun b o e => hk₁ b o (of_hideAll _ e), Nat.le_of_eq (hideAll_size _ _)⟩
  have N' : News (hideAll s.heap (news.map (·.1))) s.heap.objs.size h₁ news := fun r hr =>
    ⟨hk₁ _ _ (hN r hr).1, Nat.ne_of_lt (Heap.lt_size (hN r hr).1), hideAll_none _ (List.mem_map_of_mem hr)⟩
  refine wpAny_mono (h _ _ h₁ F' N' (fun b o e => sg b o (X b o e)) (T.keeps sg) (fun b o e hb => hideAll_get _ e hb) (fun b o e => of_hideAll _ e)) (fun fl s' hq => ?_) (fun _ _ x => x.elim)
  exact hq

end

/-- all that stood stands, but what `t` names -/
def KB (t : List Addr) (h h' : Heap) : Prop := ∀ b o, h.get? b = some o → b ∉ t → h'.get? b = some o

theorem KB.of_fr {news : List (Addr × Obj)} {s g h' : Heap} {L : Addr} {m : Str → Option Value} (hg : ∀ b o, s.get? b = some o → b ∉ news.map (·.1) → g.get? b = some o) (F : Fr g L h' m) : KB (news.map (·.1)) s h' :=
  fun b o e hb => F.keep b o (hg b o e hb)
theorem KB.fr {t : List Addr} {h₀ h h' : Heap} {L : Addr} {m : Str → Option Value} (k : KB t h h') (F : Fr h₀ L h m) (hL : L ∉ t) (h0 : ∀ a ∈ t, h₀.get? a = none) : Fr h₀ L h' m := by
  obtain ⟨oL, es, ep, hL', r⟩ := F.ns
  refine ⟨⟨oL, es, ep, k L oL hL' hL, r⟩, fun b o e => k b o (F.keep b o e) fun q => ?_, F.above⟩
  rw [h0 b q] at e; cases e

end Mine
namespace Mine
open PySem PySem.Spec PySem.Calls PyProof.Rows PySem.W
/-- a goal at which the walk is to stop -/
structure Halt (P : Prop) : Prop where
  out : P
end Mine

-- B1
namespace Mine
open PySem PySem.Spec PySem.Calls PyProof.Rows PySem.W

/-- a pair as heapq weighs it -/
abbrev Pr := Int × Str
/-- two texts compared sign by sign: the kernel takes it far faster than the derived decision -/
def eqN : List Nat → List Nat → Bool
  | [], [] => true
  | a :: r, b :: q => Nat.beq a b && eqN r q
  | _, _ => false
theorem eqN_iff : ∀ (a b : List Nat), eqN a b = true ↔ a = b
  | [], [] => by simp [eqN]
  | [], _ :: _ => by simp [eqN]
  | _ :: _, [] => by simp [eqN]
  | a :: r, b :: q => by
    show (Nat.beq a b && eqN r q) = true ↔ _
    rw [Bool.and_eq_true, Nat.beq_eq, eqN_iff r q, List.cons.injEq]
def eqS (a b : Str) : Bool := eqN a.cps.toList b.cps.toList
theorem eqS_eq (a b : Str) : eqS a b = decide (a = b) := by
  have e : eqS a b = true ↔ a = b := by
    unfold eqS
    rw [eqN_iff]
    constructor
    · intro h
      obtain ⟨⟨x⟩⟩ := a
      obtain ⟨⟨y⟩⟩ := b
      dsimp only at h
      rw [h]
    · intro h; rw [h]
  by_cases h : a = b
  · rw [e.mpr h, decide_eq_true h]
  · rw [decide_eq_false h]
    cases q : eqS a b with
    | true => exact absurd (e.mp q) h
    | false => rfl
def pLt (a b : Pr) : Bool := if a.1 = b.1 then (if eqS a.2 b.2 then false else decide (a.2.cps.toList < b.2.cps.toList)) else decide (a.1 < b.1)
theorem pLt_eq (a b : Pr) : pLt a b = if a.1 = b.1 then (if a.2 = b.2 then false else decide (a.2.cps.toList < b.2.cps.toList)) else decide (a.1 < b.1) := by
  unfold pLt
  rw [eqS_eq]
  by_cases h : a.2 = b.2 <;> simp [h]

/-- the object of a pair -/
def IsPr (h : Heap) (v : Value) (p : Pr) : Prop := ∃ a o t u n, v = .ref a ∧ h.get? a = some o ∧ o.cls = .type "tuple" ∧ o.data = .seq #[.int p.1 t, .str p.2 u] n

section
variable {prog : Program} {w : World} {A : Around} {E : Value → Shared → Prop} {s : Shared}
theorem tuple_lt_tree {a b : Addr} {oa ob : Obj} {p q : Pr} {t u t' u' : Tok} {na nb : Nat} {P : Fin → Shared → Prop} (hoa : s.heap.get? a = some oa) (hda : oa.data = .seq #[.int p.1 t, .str p.2 u] na)
    (hob : s.heap.get? b = some ob) (hcb : ob.cls = .type "tuple") (hdb : ob.data = .seq #[.int q.1 t', .str q.2 u'] nb) (h : P (.done (.ret (.bool (pLt p q)))) s) :
    wpAny (model prog w) A (Builtin.«tuple.__lt__» ⟨[.ref a, .ref b], []⟩) P E s := by
  have hTb : s.TypeIs (.ref b) "tuple" := ⟨ob, hob, hcb⟩
  show wpAny _ _ (isInstance (.ref b) (.type "tuple") >>= _) _ _ s
  refine wpAny_bind (wpAny_isInstance hTb isSubtype_tuple_tuple ?_)
  simp only [Bool.not_true, Bool.false_eq_true, if_false]
  refine wpAny_bind (wpAny_tupleItemsOf hoa hda ?_)
  refine wpAny_bind (wpAny_tupleItemsOf hob hdb ?_)
  simp only [List.zip_cons_cons, List.zip_nil_right]
  refine wpAny_bind ?_
  rw [List.forIn_cons]
  refine wpAny_bind (wpAny_bind (wpAny_eqBool_int ?_))
  rw [pLt_eq] at h
  by_cases h1 : p.1 = q.1
  · rw [if_pos h1] at h
    simp only [h1, beq_self_eq_true, Bool.not_true, Bool.false_eq_true, if_false]
    refine wpAny_pure ?_
    dsimp only
    rw [List.forIn_cons]
    refine wpAny_bind (wpAny_bind (wpAny_eqBool_str ?_))
    by_cases h2 : p.2 = q.2
    · rw [if_pos h2] at h
      simp only [h2, decide_true, Bool.not_true, Bool.false_eq_true, if_false]
      refine wpAny_pure ?_
      dsimp only
      rw [List.forIn_nil]
      refine wpAny_pure ?_
      exact wpAny_pure h
    · rw [if_neg h2] at h
      simp only [decide_eq_false h2, Bool.not_false, if_true]
      refine wpAny_bind (wpAny_rule ?_)
      refine wpAny_bind (show wpAny _ _ (compareOp .Lt (.str p.2 u) (.str q.2 u')) _ _ s from lt_str ?_)
      refine wpAny_bind (wpAny_pure ?_)
      refine wpAny_pure ?_
      dsimp only
      refine wpAny_pure ?_
      exact wpAny_pure h
  · rw [if_neg h1] at h
    have e1 : (p.1 == q.1) = false := by simpa using h1
    simp only [e1, Bool.not_false, if_true]
    refine wpAny_bind (wpAny_rule ?_)
    refine wpAny_bind (show wpAny _ _ (compareOp .Lt (.int p.1 t) (.int q.1 t')) _ _ s from lt_int ?_)
    refine wpAny_bind (wpAny_pure ?_)
    refine wpAny_pure ?_
    dsimp only
    refine wpAny_pure ?_
    exact wpAny_pure h

theorem tup_lt {v v' : Value} {p q : Pr} {Q : Value → Shared → Prop} (hu : A.units < cLine) (ha : IsPr s.heap v p) (hb : IsPr s.heap v' q) (h : Q (.bool (pLt p q)) s) :
    wpAny (model prog w) A (compareOp .Lt v v') Q E s := by
  obtain ⟨a, oa, t, u, n, rfl, hoa, hca, hda⟩ := ha
  obtain ⟨b, ob, t', u', n', rfl, hob, hcb, hdb⟩ := hb
  have hTa : s.TypeIs (.ref a) "tuple" := ⟨oa, hoa, hca⟩
  have hTb : s.TypeIs (.ref b) "tuple" := ⟨ob, hob, hcb⟩
  refine cmp_ofLt (wpAny_richCompare_same_room (op := .Lt) hTa hTb F.slot_tuple_lt
      (wpAny_call_entry F.slot_tuple_lt hTa F.entry_tuple_lt (tuple_lt_tree hoa hda hob hcb hdb ⟨_, rfl, (fun e => nomatch e), h⟩) (F.args_tuple_lt_2 _ _)) hu)
end

end Mine

-- B2
namespace Mine
open PySem PySem.Spec PySem.Calls PyProof.Rows PySem.W

inductive HR (h : Heap) : List Value → List Pr → Prop
  | nil : HR h [] []
  | cons {v : Value} {p : Pr} {vs : List Value} {ks : List Pr} : IsPr h v p → HR h vs ks → HR h (v :: vs) (p :: ks)

theorem IsPr.mono {h h' : Heap} {v : Value} {p : Pr} (k : ∀ b o, h.get? b = some o → o.cls = .type "tuple" → h'.get? b = some o) (x : IsPr h v p) : IsPr h' v p := by
  obtain ⟨a, o, t, u, n, rfl, ho, hc, hd⟩ := x
  exact ⟨a, o, t, u, n, rfl, k a o ho hc, hc, hd⟩
theorem HR.mono {h h' : Heap} (k : ∀ b o, h.get? b = some o → o.cls = .type "tuple" → h'.get? b = some o) : ∀ {vs : List Value} {ks : List Pr}, HR h vs ks → HR h' vs ks
  | _, _, .nil => .nil
  | _, _, .cons x r => .cons (x.mono k) (HR.mono k r)
theorem HR.length {h : Heap} : ∀ {vs : List Value} {ks : List Pr}, HR h vs ks → vs.length = ks.length
  | _, _, .nil => rfl
  | _, _, .cons _ r => congrArg (· + 1) (HR.length r)
theorem HR.get {h : Heap} : ∀ {vs : List Value} {ks : List Pr}, HR h vs ks → ∀ {i : Nat} {p : Pr}, ks[i]? = some p → ∃ v, vs[i]? = some v ∧ IsPr h v p
  | _, _, .nil, i, p, e => by simp at e
  | _, _, .cons x r, 0, p, e => by simp at e; subst e; exact ⟨_, rfl, x⟩
  | _, _, .cons x r, i + 1, p, e => by simp at e; simpa using HR.get r e
theorem HR.set {h : Heap} {v : Value} {p : Pr} (x : IsPr h v p) : ∀ {vs : List Value} {ks : List Pr}, HR h vs ks → ∀ i : Nat, HR h (vs.set i v) (ks.set i p)
  | _, _, .nil, _ => .nil
  | _, _, .cons _ r, 0 => .cons x r
  | _, _, .cons y r, i + 1 => .cons y (HR.set x r i)

section
variable {prog : Program} {w : World} {A : Around} {E : Value → Shared → Prop} {s : Shared} {h₀ : Heap} {L D : Addr} {m : Str → Option Value} {news news' : List (Addr × Obj)} {vs : List Value} {n : Nat} {k : Int} {t u : Tok} {v : Value}
theorem it_list {value slice : Expr} {Q : Value → Shared → Prop} (N : News h₀ L s.heap news) (hm : (D, listOf vs.toArray n) ∈ news) (hx : vs[k.toNat]? = some v) (h0 : 0 ≤ k) (hhi : k < 2 ^ 63) (h : Q v s)
    (hs : subscripted slice false (.ref D) (.int k u) = operate [.ref D, .int k u] (getItem (.ref D) (.int k u)) := by with_unfolding_all rfl) :
    wpAny (model prog w) A (subscriptTail value slice (.ref D) (.int k u)) Q E s :=
  have hL : s.heap.IsList D vs.toArray := PySem.IsL.isList (n := n) (N _ hm).1
  tail_any hL.typeIs slot_list_getitem.lookup (wpAny_getItem_list hL h0 hhi (by simpa using hx) h) hs
theorem set_list {Q : Unit → Shared → Prop} (F : Fr h₀ L s.heap m) (N : News h₀ L s.heap news) (U : Upd D (listOf vs.toArray n) (listOf (vs.set k.toNat v).toArray n) news news') (h0 : 0 ≤ k) (h1 : k < vs.length) (hfit : k < 2 ^ 63)
    (h : ∀ h', Fr h₀ L h' m → News h₀ L h' news' → Q () { s with heap := h' }) :
    wpAny (model prog w) A (setItem (.ref D) (.int k t) v) Q E s := by
  obtain ⟨pre, post, rfl, rfl, a, b⟩ := U.split
  have z := N (D, listOf vs.toArray n) (List.mem_append.mpr (.inr (.head _)))
  have hs : vs.toArray.size = vs.length := by rw [List.size_toArray]
  refine ki_setAt z.1 h0 hfit (by omega) (h _ (F.change (Heap.SameBut.update ..) z.2.1 z.2.2) (ki_turn _ N a b ?_ ?_))
  · show vs.toArray.setIfInBounds k.toNat v = (vs.set k.toNat v).toArray
    apply Array.toList_inj.mp
    simp
  · simp
end

/-- the loop of _siftdown: the list, the place -/
def sdL : Nat → List Pr → Pr → Nat → Option (List Pr × Nat)
  | 0, _, _, _ => none
  | n + 1, ks, new, pos => if pos = 0 then some (ks, pos) else match ks[(pos - 1) / 2]? with
    | none => none
    | some par => if pLt new par then sdL n (ks.set pos par) new ((pos - 1) / 2) else some (ks, pos)
def siftdown (ks : List Pr) (pos : Nat) : Option (List Pr) := match ks[pos]? with
  | none => none
  | some new => match sdL (pos + 1) ks new pos with
    | none => none
    | some (ks', p') => if p' < ks'.length then some (ks'.set p' new) else none

end Mine

-- B3
namespace Mine
open PySem PySem.Spec PySem.Calls PyProof.Rows PySem.W
example : True := by
  w_top off
  trivial



theorem set_sub {vs vc : List Value} {v : Value} (h : ∀ x ∈ vc, x ∈ vs) (hv : v ∈ vs) (i : Nat) : ∀ x ∈ vc.set i v, x ∈ vs := fun x hx => by
  rcases List.mem_or_eq_of_mem_set hx with q | q
  · exact h x q
  · exact q ▸ hv
theorem tup_lt' {prog : Program} {w : World} {A : Around} {E : Value → Shared → Prop} {s : Shared} {g : Heap} {L : Addr} {m : Str → Option Value} {v v' : Value} {p q : Pr} {b : Bool} {Q : Value → Shared → Prop} (hu : A.units < cLine) (F : Fr g L s.heap m) (ha : IsPr g v p) (hb : IsPr g v' q) (e : pLt p q = b) (h : Q (.bool b) s) :
    wpAny (model prog w) A (compareOp .Lt v v') Q E s :=
  tup_lt hu (ha.mono fun b o e _ => F.keep b o e) (hb.mono fun b o e _ => F.keep b o e) (by rw [e]; exact h)
local macro_rules | `(tactic| walk_at "subscriptTail") => `(tactic| (k_here; (with_reducible show wpAny _ _ (subscriptTail _ _ (Value.ref _) (Value.int _ _)) _ _ _); k_dflt (refine' it_list ?k1 ?k2 ?k3 ?k4 ?k5 ?_ ?k6; (case k1 => k_asm); (case k2 => k_mem); (case k3 => with_reducible assumption); (case k4 => first | with_reducible assumption | omega); (case k5 => first | with_reducible assumption | omega); (case k6 => with_unfolding_all rfl); k_whole)))
local macro_rules | `(tactic| walk_at "setItem ref int") => `(tactic| (k_here; (with_reducible show wpAny _ _ (setItem (Value.ref _) (Value.int _ _) _) _ _ _); k_dflt (refine' set_list ?k1 ?k2 ?k3 ?k4 ?k5 ?k6 ?_; (case k1 => k_asm); (case k2 => k_asm); (case k3 => k_upd); (case k4 => first | with_reducible assumption | omega); (case k5 => first | with_reducible assumption | omega); (case k6 => first | with_reducible assumption | omega); k_whole); intro h' F' N'; (try k_sweep)))
local macro_rules | `(tactic| walk_at "compareOp Lt") => `(tactic| (k_here; k_dflt (refine' tup_lt' ?k1 ?k0 ?k2 ?k3 ?k4 ?_; (case k1 => (rw [units_deeper]; omega)); (case k0 => k_asm); (case k2 => assumption); (case k3 => assumption); (case k4 => assumption); k_whole)))
local macro_rules | `(tactic| walk_at "exec While Compare cons nil") => `(tactic| (k_here; refine Halt.out ?_))
local macro_rules | `(tactic| ksw_same) => `(tactic| (intro z h2 h3; (simp only [List.forall_mem_cons, List.not_mem_nil, false_implies, implies_true, and_true, ne_eq] at h2); (simp only [List.contains_cons, List.contains_nil, Bool.or_false, Bool.or_eq_false_iff, beq_eq_false_iff_ne, ne_eq] at h3); (simp [kstB, h2, h3]; done)))
theorem siftdown_call {w : World} {loose : List Str} {mean : ExcName → Option Value} {mg mb : Str → Option Value} {A : Around} {s : Shared} {h₀ : Heap} {Q E : Value → Shared → Prop}
    {a : Addr} {vs : List Value} {ks ks' : List Pr} {n p : Nat} {t0 t1 : Tok}
    (X : (hd.heap_39 w.params).In h₀) (T : Top hd.view_39 loose mean mg mb h₀) (st : ∀ b o, h₀.get? b = some o → s.heap.get? b = some o)
    (ha : s.heap.get? a = some (listOf vs.toArray n)) (h0 : h₀.get? a = none) (hr : HR s.heap vs ks) (hdp : A.depth + 1 < recursionLimit) (hun : A.units + 8 < cLine) (hlen : vs.length < 2 ^ 62)
    (e : siftdown ks p = some ks')
    (ret : ∀ h' tk' vs', KB [a] s.heap h' → h'.get? a = some (listOf vs'.toArray n) → HR h' vs' ks' → (∀ x ∈ vs', x ∈ vs) → Q .none { s with heap := h', toks := tk' }) :
    wpAny (model PySem.Challenge.pw_qu0018_01 w) A (call (.ref 35) [.ref a, .int 0 t0, .int p t1]) Q E s := by
  refine' enter (binds := [(Str.ofString "heap", .ref a), (Str.ofString "startpos", .int 0 t0), (Str.ofString "pos", .int p t1)]) [(a, listOf vs.toArray n)] X T st ?hN ?ho ?hcd (Nat.lt_of_succ_lt hdp) ?hbind ?hloc ?h ?hco ?hgen ?hk ?hcell
  case hN => intro q hq; rcases List.mem_singleton.mp hq with rfl; exact ⟨ha, h0⟩
  case ho => k_is
  case hcd => k_is
  case hbind => exact BindsTo.of_eq rfl
  case hloc => exact locs rfl
  case hco => exact rfl
  case hgen => exact rfl
  case hk => exact rfl
  case hcell => decide
  case h =>
    intro g L' h₁ F' N' X' T' hg hg'
    (try dsimp only)
    obtain ⟨new, en⟩ : ∃ new, ks[p]? = some new := by
      unfold siftdown at e
      cases q : ks[p]? with
      | none => rw [q] at e; cases e
      | some new => exact ⟨new, rfl⟩
    have eg : ∀ b o, s.heap.get? b = some o → o.cls = .type "tuple" → g.get? b = some o := fun b o q hc => hg b o q fun hm => by
      rcases List.mem_singleton.mp hm with rfl
      rw [ha] at q; cases q; exact absurd hc (by simp)
    have hrg : HR g vs ks := HR.mono eg hr
    obtain ⟨vn, hvn, ivn⟩ := hrg.get en
    have hp : p < vs.length := by
      have := List.getElem?_eq_some_iff.mp hvn
      exact this.1
    have hx : vs[((p : Nat) : Int).toNat]? = some vn := hvn
    k_steps
    refine ⟨?_⟩
    rename Fr _ _ _ _ => F1
    rename News _ _ _ _ => N1
    obtain ⟨⟨kse, pe⟩, es⟩ : ∃ r, sdL (p + 1) ks new p = some r := by
      unfold siftdown at e
      rw [en] at e
      dsimp only at e
      cases q : sdL (p + 1) ks new p with
      | none => rw [q] at e; cases e
      | some r => exact ⟨r, rfl⟩
    refine ksw_while (σ := List Value × Nat × Tok × Nat) (fun c => [(a, listOf c.1.toArray n)]) (fun c => [(Str.ofString "pos", .int c.2.1 c.2.2.1)]) (fun _ => True) [Str.ofString "parentpos", Str.ofString "parent"]
      (fun c => ∃ kc, HR g c.1 kc ∧ sdL c.2.2.2 kc new c.2.1 = some (kse, pe) ∧ c.1.length = vs.length ∧ c.2.1 < vs.length ∧ ∀ x ∈ c.1, x ∈ vs) (fun c => c.2.2.2) (vs, p, t1, p + 1) F1 N1 trivial ?hk ⟨ks, hrg, es, rfl, hp, fun _ h => h⟩ ?turn ?hE
    case hk => intro q hq; rcases List.mem_singleton.mp hq with rfl; rfl
    case hE => passes_own
    case turn =>
      rintro ⟨vc, pc, tc, fc⟩ u h tk _ ⟨kc, hrc, esc, hlc, hpc, hsub⟩ F2 N2
      dsimp only at esc hlc hpc hrc N2 F2 hsub ⊢
      clear F1 N1
      cases fc with
      | zero => cases esc
      | succ fc =>
      unfold sdL at esc
      have fin : ∀ (h' : Heap) (tk' : Nat) (m' : Str → Option Value), pc = pe → kc = kse → Fr g L' h' m' → News g L' h' [(a, listOf (vc.set (pc : Int).toNat vn).toArray n)] → Q .none { s with heap := h', toks := tk' } := by
        intro h' tk' m' e1 e2 F9 N9
        refine ret h' tk' (vc.set (pc : Int).toNat vn) ?_ (N9.get (.head _)) ?_ (set_sub hsub (List.mem_of_getElem? hvn) _)
        · exact fun b o q hb => F9.keep b o (hg b o q hb)
        · have e3 : ks' = kc.set pc new := by
            unfold siftdown at e
            rw [en] at e
            dsimp only at e
            rw [es] at e
            dsimp only at e
            split at e
            · cases e; rw [e1, e2]
            · cases e
          rw [e3]
          exact HR.mono (fun b o q _ => F9.keep b o q) (HR.set ivn hrc _)
      by_cases hz : pc = 0
      · rw [if_pos hz] at esc
        cases esc
        (try k_fold)
        k_steps
        exact fin _ _ _ rfl rfl (by assumption) (by assumption)
      · rw [if_neg hz] at esc
        cases q : kc[(pc - 1) / 2]? with
        | none => rw [q] at esc; cases esc
        | some par =>
        rw [q] at esc
        dsimp only at esc
        obtain ⟨vp, hvp, ivp⟩ := hrc.get q
        have hidx : ((pc : Int) - 1).fdiv (2 ^ Int.toNat 1) = (((pc - 1) / 2 : Nat) : Int) := by
          rw [Int.fdiv_eq_ediv_of_nonneg _ (by decide)]
          show ((pc : Int) - 1) / 2 = _
          omega
        have hx2 : vc[(((pc : Int) - 1).fdiv (2 ^ Int.toNat 1)).toNat]? = some vp := by rw [hidx]; exact hvp
        have hl2 : 0 ≤ ((pc : Int) - 1).fdiv (2 ^ Int.toNat 1) := by rw [hidx]; omega
        have hh2 : ((pc : Int) - 1).fdiv (2 ^ Int.toNat 1) < 2 ^ 63 := by rw [hidx]; omega
        cases hb : pLt new par with
        | true =>
          rw [hb, if_pos rfl] at esc
          (try k_fold)
          k_steps
          rename Fr _ _ _ _ => F9
          rename News _ _ _ _ => N9
          refine' ksw_end (vc.set (pc : Int).toNat vp, (pc - 1) / 2, ?tok, fc) F9 N9 (fun _ hp => hp) trivial ?hk ?hs ⟨kc.set pc par, HR.set ivp hrc _, esc, ?h1, ?h2, set_sub hsub (hsub _ (List.mem_of_getElem? hvp)) _⟩ (Nat.lt_succ_self _)
          case h1 => simpa using hlc
          case h2 => dsimp only; omega
          case hk =>
            intro q hq
            rcases List.mem_singleton.mp hq with rfl
            dsimp only
            rw [← hidx]
            rfl
          case hs => ksw_same
        | false =>
          rw [hb, if_neg (by simp)] at esc
          cases esc
          (try k_fold)
          k_steps
          exact fin _ _ _ rfl rfl (by assumption) (by assumption)
end Mine

-- B4
namespace Mine
open PySem PySem.Spec PySem.Calls PyProof.Rows PySem.W
example : True := by
  w_top off
  trivial

theorem len_l {prog : Program} {w : World} {A : Around} {E : Value → Shared → Prop} {s : Shared} {h₀ : Heap} {L D : Addr} {news : List (Addr × Obj)} {vs : List Value} {n : Nat} {Q : Value → Shared → Prop} (N : News h₀ L s.heap news) (hm : (D, listOf vs.toArray n) ∈ news) (hfit : vs.length < 2 ^ 62)
    (h : Q (.int vs.length (s.toks + 1)) { s with toks := s.toks + 1 + 1 }) : wpAny (model prog w) A (call (.builtin "len") [.ref D]) Q E s := by
  have e : (List.toArray vs).size = vs.length := List.size_toArray
  exact call_len_list (PySem.IsL.isList (n := n) (N _ hm).1) (by rw [e]; omega) (by rw [e]; exact h)

theorem KB.one {g h h' : Heap} {L a : Addr} {o o' : Obj} {m : Str → Option Value} (k : KB [a] h h') (F : Fr g L h m) (N : News g L h [(a, o)]) (ha : h'.get? a = some o') : Fr g L h' m ∧ News g L h' [(a, o')] := by
  have z := N _ (.head _)
  refine ⟨k.fr F (fun q => z.2.1 (List.mem_singleton.mp q).symm) (fun b hb => by rw [List.mem_singleton.mp hb]; exact z.2.2), fun p hp => ?_⟩
  rcases List.mem_singleton.mp hp with rfl
  exact ⟨ha, z.2⟩

/-- the loop of _siftup -/
def suL : Nat → List Pr → Nat → Option (List Pr × Nat)
  | 0, _, _ => none
  | n + 1, ks, pos => if 2 * pos + 1 < ks.length then match ks[2 * pos + 1]? with
      | none => none
      | some a => if 2 * pos + 1 + 1 < ks.length then match ks[2 * pos + 1 + 1]? with
          | none => none
          | some b => if pLt a b then suL n (ks.set pos a) (2 * pos + 1) else suL n (ks.set pos b) (2 * pos + 1 + 1)
        else suL n (ks.set pos a) (2 * pos + 1)
    else some (ks, pos)
def siftup (ks : List Pr) : Option (List Pr) := match ks[0]? with
  | none => none
  | some new => match suL (ks.length + 1) ks 0 with
    | none => none
    | some (ks', p') => if p' < ks'.length then siftdown (ks'.set p' new) p' else none

local macro_rules | `(tactic| walk_at "subscriptTail") => `(tactic| (k_here; (with_reducible show wpAny _ _ (subscriptTail _ _ (Value.ref _) (Value.int _ _)) _ _ _); k_dflt (refine' it_list ?k1 ?k2 ?k3 ?k4 ?k5 ?_ ?k6; (case k1 => k_asm); (case k2 => k_mem); (case k3 => with_reducible assumption); (case k4 => first | with_reducible assumption | omega); (case k5 => first | with_reducible assumption | omega); (case k6 => with_unfolding_all rfl); k_whole)))
local macro_rules | `(tactic| walk_at "setItem ref int") => `(tactic| (k_here; (with_reducible show wpAny _ _ (setItem (Value.ref _) (Value.int _ _) _) _ _ _); k_dflt (refine' set_list ?k1 ?k2 ?k3 ?k4 ?k5 ?k6 ?_; (case k1 => k_asm); (case k2 => k_asm); (case k3 => k_upd); (case k4 => first | with_reducible assumption | omega); (case k5 => first | with_reducible assumption | omega); (case k6 => first | with_reducible assumption | omega); k_whole); intro h' F' N'; (try k_sweep)))
local macro_rules | `(tactic| walk_at "compareOp Lt") => `(tactic| (k_here; k_dflt (refine' tup_lt' ?k1 ?k0 ?k2 ?k3 ?k4 ?_; (case k1 => (rw [units_deeper]; omega)); (case k0 => k_asm); (case k2 => assumption); (case k3 => assumption); (case k4 => assumption); k_whole)))
local macro_rules | `(tactic| walk_at "exec While Compare cons nil") => `(tactic| (k_here; refine Halt.out ?_))
local macro_rules | `(tactic| walk_at "call ref") => `(tactic| (k_here; refine Halt.out ?_))
local macro_rules | `(tactic| walk_at "call builtin:len") => `(tactic| (k_here; (with_reducible show wpAny _ _ (call (Value.builtin "len") [Value.ref _]) _ _ _); k_dflt (refine' len_l ?k1 ?k2 ?k3 ?_; (case k1 => k_asm); (case k2 => k_mem); (case k3 => with_reducible assumption); k_whole)))
local macro_rules | `(tactic| ksw_same) => `(tactic| (intro z h2 h3; (simp only [List.forall_mem_cons, List.not_mem_nil, false_implies, implies_true, and_true, ne_eq] at h2); (simp only [List.contains_cons, List.contains_nil, Bool.or_false, Bool.or_eq_false_iff, beq_eq_false_iff_ne, ne_eq] at h3); (simp [kstB, h2, h3]; done)))

theorem siftup_call {w : World} {loose : List Str} {mean : ExcName → Option Value} {mg mb : Str → Option Value} {A : Around} {s : Shared} {h₀ : Heap} {Q E : Value → Shared → Prop}
    {a : Addr} {vs : List Value} {ks ks' : List Pr} {n : Nat} {t0 : Tok}
    (X : (hd.heap_39 w.params).In h₀) (T : Top hd.view_39 loose mean mg mb h₀) (st : ∀ b o, h₀.get? b = some o → s.heap.get? b = some o)
    (ha : s.heap.get? a = some (listOf vs.toArray n)) (h0 : h₀.get? a = none) (hr : HR s.heap vs ks) (hdp : A.depth + 2 < recursionLimit) (hun : A.units + 11 < cLine) (hlen : vs.length < 2 ^ 62)
    (e : siftup ks = some ks')
    (ret : ∀ h' tk' vs', KB [a] s.heap h' → h'.get? a = some (listOf vs'.toArray n) → HR h' vs' ks' → (∀ x ∈ vs', x ∈ vs) → Q .none { s with heap := h', toks := tk' }) :
    wpAny (model PySem.Challenge.pw_qu0018_01 w) A (call (.ref 42) [.ref a, .int 0 t0]) Q E s := by
  refine' enter (binds := [(Str.ofString "heap", .ref a), (Str.ofString "pos", .int 0 t0)]) [(a, listOf vs.toArray n)] X T st ?hN ?ho ?hcd (by omega) ?hbind ?hloc ?h ?hco ?hgen ?hk ?hcell
  case hN => intro q hq; rcases List.mem_singleton.mp hq with rfl; exact ⟨ha, h0⟩
  case ho => k_is
  case hcd => k_is
  case hbind => exact BindsTo.of_eq rfl
  case hloc => exact locs rfl
  case hco => exact rfl
  case hgen => exact rfl
  case hk => exact rfl
  case hcell => decide
  case h =>
    intro g L' h₁ F' N' X' T' hg hg'
    (try dsimp only)
    obtain ⟨new, en⟩ : ∃ new, ks[0]? = some new := by
      unfold siftup at e
      cases q : ks[0]? with
      | none => rw [q] at e; cases e
      | some new => exact ⟨new, rfl⟩
    have eg : ∀ b o, s.heap.get? b = some o → o.cls = .type "tuple" → g.get? b = some o := fun b o q hc => hg b o q fun hm => by
      rcases List.mem_singleton.mp hm with rfl
      rw [ha] at q; cases q; exact absurd hc (by simp)
    have hrg : HR g vs ks := HR.mono eg hr
    obtain ⟨vn, hvn, ivn⟩ := hrg.get en
    have hp : 0 < vs.length := by
      have := List.getElem?_eq_some_iff.mp hvn
      exact this.1
    have hx : vs[(0 : Int).toNat]? = some vn := hvn
    (try k_fold)
    k_steps
    refine ⟨?_⟩
    rename Fr _ _ _ _ => F1
    rename News _ _ _ _ => N1
    obtain ⟨⟨kse, pe⟩, es⟩ : ∃ r, suL (ks.length + 1) ks 0 = some r := by
      unfold siftup at e
      rw [en] at e
      dsimp only at e
      cases q : suL (ks.length + 1) ks 0 with
      | none => rw [q] at e; cases e
      | some r => exact ⟨r, rfl⟩
    refine' ksw_while (σ := List Value × Nat × Tok × Tok × Nat) (fun c => [(a, listOf c.1.toArray n)]) (fun c => [(Str.ofString "pos", .int c.2.1 c.2.2.1), (Str.ofString "childpos", .int (2 * c.2.1 + 1) c.2.2.2.1)]) (fun _ => True) [Str.ofString "rightpos"]
      (fun c => ∃ kc, HR g c.1 kc ∧ suL c.2.2.2.2 kc c.2.1 = some (kse, pe) ∧ c.1.length = vs.length ∧ c.2.1 < vs.length ∧ ∀ x ∈ c.1, x ∈ vs) (fun c => c.2.2.2.2) (vs, 0, t0, ?tokc, ks.length + 1) F1 N1 trivial ?hk ⟨ks, hrg, es, rfl, hp, fun _ h => h⟩ ?turn ?hE
    case hk =>
      intro q hq
      rcases List.mem_cons.mp hq with rfl | hq
      · rfl
      · rcases List.mem_singleton.mp hq with rfl
        rfl
    case hE => passes_own
    case turn =>
      rintro ⟨vc, pc, tc, tc2, fc⟩ u h tk _ ⟨kc, hrc, esc, hlc, hpc, hsub⟩ F2 N2
      dsimp only at esc hlc hpc hrc N2 F2 hsub ⊢
      clear F1 N1
      have hkc := hrc.length
      cases fc with
      | zero => cases esc
      | succ fc =>
      unfold suL at esc
      by_cases hz : 2 * pc + 1 < kc.length
      · rw [if_pos hz] at esc
        cases q : kc[2 * pc + 1]? with
        | none => rw [q] at esc; cases esc
        | some par =>
        rw [q] at esc
        dsimp only at esc
        obtain ⟨vp, hvp, ivp⟩ := hrc.get q
        have hx2 : vc[(2 * (pc : Int) + 1).toNat]? = some vp := by
          rw [show (2 * (pc : Int) + 1).toNat = 2 * pc + 1 by omega]; exact hvp
        by_cases hy : 2 * pc + 1 + 1 < kc.length
        · rw [if_pos hy] at esc
          cases q2 : kc[2 * pc + 1 + 1]? with
          | none => rw [q2] at esc; cases esc
          | some par2 =>
          rw [q2] at esc
          dsimp only at esc
          obtain ⟨vp2, hvp2, ivp2⟩ := hrc.get q2
          have hx3 : vc[(2 * (pc : Int) + 1 + 1).toNat]? = some vp2 := by
            rw [show (2 * (pc : Int) + 1 + 1).toNat = 2 * pc + 1 + 1 by omega]; exact hvp2
          cases hb : pLt par par2 with
          | true =>
            rw [hb, if_pos rfl] at esc
            (try k_fold)
            k_steps
            rename Fr _ _ _ _ => F9
            rename News _ _ _ _ => N9
            refine' ksw_end (vc.set (pc : Int).toNat vp, 2 * pc + 1, ?tokA, ?tokA2, fc) F9 N9 (fun _ hp => hp) trivial ?hk ?hs ⟨kc.set pc par, HR.set ivp hrc _, esc, ?h1, ?h2, set_sub hsub (hsub _ (List.mem_of_getElem? hvp)) _⟩ (Nat.lt_succ_self _)
            case h1 => simpa using hlc
            case h2 => dsimp only; omega
            case hk =>
              have hc : ((2 * pc + 1 : Nat) : Int) = 2 * (pc : Int) + 1 := by omega
              intro q hq
              rcases List.mem_cons.mp hq with rfl | hq
              · dsimp only
                rw [hc]
                rfl
              · rcases List.mem_singleton.mp hq with rfl
                dsimp only
                rw [hc]
                rfl
            case hs => ksw_same
          | false =>
            rw [hb, if_neg (by simp)] at esc
            (try k_fold)
            k_steps
            rename Fr _ _ _ _ => F9
            rename News _ _ _ _ => N9
            refine' ksw_end (vc.set (pc : Int).toNat vp2, 2 * pc + 1 + 1, ?tokB, ?tokB2, fc) F9 N9 (fun _ hp => hp) trivial ?hk ?hs ⟨kc.set pc par2, HR.set ivp2 hrc _, esc, ?h1, ?h2, set_sub hsub (hsub _ (List.mem_of_getElem? hvp2)) _⟩ (Nat.lt_succ_self _)
            case h1 => simpa using hlc
            case h2 => dsimp only; omega
            case hk =>
              have hc : ((2 * pc + 1 + 1 : Nat) : Int) = 2 * (pc : Int) + 1 + 1 := by omega
              intro q hq
              rcases List.mem_cons.mp hq with rfl | hq
              · dsimp only
                rw [hc]
                rfl
              · rcases List.mem_singleton.mp hq with rfl
                dsimp only
                rw [hc]
                rfl
            case hs => ksw_same
        · rw [if_neg hy] at esc
          (try k_fold)
          k_steps
          rename Fr _ _ _ _ => F9
          rename News _ _ _ _ => N9
          refine' ksw_end (vc.set (pc : Int).toNat vp, 2 * pc + 1, ?tokC, ?tokC2, fc) F9 N9 (fun _ hp => hp) trivial ?hk ?hs ⟨kc.set pc par, HR.set ivp hrc _, esc, ?h1, ?h2, set_sub hsub (hsub _ (List.mem_of_getElem? hvp)) _⟩ (Nat.lt_succ_self _)
          case h1 => simpa using hlc
          case h2 => dsimp only; omega
          case hk =>
            have hc : ((2 * pc + 1 : Nat) : Int) = 2 * (pc : Int) + 1 := by omega
            intro q hq
            rcases List.mem_cons.mp hq with rfl | hq
            · dsimp only
              rw [hc]
              rfl
            · rcases List.mem_singleton.mp hq with rfl
              dsimp only
              rw [hc]
              rfl
          case hs => ksw_same
      · rw [if_neg hz] at esc
        obtain ⟨e4, e5⟩ : kc = kse ∧ pc = pe := by simpa using esc
        (try k_fold)
        k_steps
        refine ⟨?_⟩
        rename Fr _ _ _ _ => F9
        rename News _ _ _ _ => N9
        have e3 : siftdown (kc.set pc new) pc = some ks' := by
          unfold siftup at e
          rw [en] at e
          dsimp only at e
          rw [es] at e
          dsimp only at e
          rw [← e4, ← e5, if_pos (by omega)] at e
          exact e
        refine siftdown_call X' T' F9.keep (N9.get (.head _)) (N9.fresh (.head _)) (HR.mono (fun b o q _ => F9.keep b o q) (HR.set ivn hrc _)) (by rw [depth_deeper]; omega) (by rw [units_deeper]; omega) (by rw [List.length_set]; omega) e3 ?_
        intro h8 tk8 vs8 kb8 ha8 hr8 hs8
        obtain ⟨F8, N8⟩ := kb8.one F9 N9 ha8
        clear F9 N9
        k_steps
        refine ret _ _ vs8 ?_ ha8 hr8 (fun x hx => set_sub hsub (List.mem_of_getElem? hvn) _ x (hs8 x hx))
        exact fun b o q hb => F8.keep b o (hg b o q hb)
end Mine

-- B5
namespace Mine
open PySem PySem.Spec PySem.Calls PyProof.Rows PySem.W
example : True := by
  w_top off
  trivial

section
variable {prog : Program} {w : World} {A : Around} {E : Value → Shared → Prop} {s : Shared} {h₀ : Heap} {L D : Addr} {m : Str → Option Value} {news news' : List (Addr × Obj)} {vs vi : List Value} {n : Nat} {x vl : Value}
theorem app_l {Q : Value → Shared → Prop} (F : Fr h₀ L s.heap m) (N : News h₀ L s.heap news) (U : Upd D (listOf vs.toArray n) (listOf (vs ++ [x]).toArray (n + 1)) news news') (hfit : vs.length ≤ sizeLine)
    (h : ∀ h', Fr h₀ L h' m → News h₀ L h' news' → Q .none { s with heap := h' }) : wpAny (model prog w) A (call (.builtin "list.append") [.ref D, x]) Q E s := by
  have e : vs.toArray.push x = (vs ++ [x]).toArray := by simp
  rw [← e] at U
  exact append_K F N U h (by rw [List.size_toArray]; exact hfit)
theorem kl_last_app : ∀ (l : List Value) (y : Value), kl_last (l ++ [y]) = some (l, y)
  | [], _ => rfl
  | z :: r, y => by
    show (match kl_last (r ++ [y]) with | some (p, y) => some (z :: p, y) | none => some ([], z)) = _
    rw [kl_last_app r y]
theorem pop_l {Q : Value → Shared → Prop} (F : Fr h₀ L s.heap m) (N : News h₀ L s.heap news) (U : Upd D (listOf (vi ++ [vl]).toArray n) (listOf vi.toArray (n + 1)) news news') (hfit : (vi ++ [vl]).length ≤ sizeLine)
    (h : ∀ h', Fr h₀ L h' m → News h₀ L h' news' → Q vl { s with heap := h' }) : wpAny (model prog w) A (call (.builtin "list.pop") [.ref D]) Q E s :=
  kl_pop F N (kl_last_app vi vl) U hfit h
theorem truth_l {Q : Bool → Shared → Prop} (N : News h₀ L s.heap news) (hm : (D, listOf vs.toArray n) ∈ news) (hfit : vs.length < 2 ^ 62) (h : Q (!vs.isEmpty) { s with toks := s.toks + 1 + 1 }) : wpAny (model prog w) A (truthy (.ref D)) Q E s :=
  wpAny_truthy_list (PySem.IsL.isList (n := n) (N _ hm).1) (by rw [List.size_toArray]; omega) (by rw [List.isEmpty_toArray]; exact h)
theorem truth_c {Q : Bool → Shared → Prop} (N : News h₀ L s.heap news) (hm : (D, listOf (x :: vs).toArray n) ∈ news) (hfit : (x :: vs).length < 2 ^ 62) (h : Q true { s with toks := s.toks + 1 + 1 }) : wpAny (model prog w) A (truthy (.ref D)) Q E s :=
  truth_l N hm hfit h
theorem truth_n {Q : Bool → Shared → Prop} (N : News h₀ L s.heap news) (hm : (D, listOf [].toArray n) ∈ news) (h : Q false { s with toks := s.toks + 1 + 1 }) : wpAny (model prog w) A (truthy (.ref D)) Q E s :=
  truth_l N hm (by decide) h
end

theorem HR.append {h : Heap} : ∀ {vs : List Value} {ks : List Pr}, HR h vs ks → ∀ {vs' : List Value} {ks' : List Pr}, HR h vs' ks' → HR h (vs ++ vs') (ks ++ ks')
  | _, _, .nil, _, _, y => y
  | _, _, .cons x r, _, _, y => .cons x (HR.append r y)

theorem HR.split {h : Heap} {l : Pr} {ki : List Pr} : ∀ {vs : List Value}, HR h vs (ki ++ [l]) → ∃ vi vl, vs = vi ++ [vl] ∧ HR h vi ki ∧ IsPr h vl l := by
  induction ki with
  | nil =>
    intro vs x
    cases x with
    | cons x y =>
      cases y
      exact ⟨[], _, rfl, .nil, x⟩
  | cons k ki ih =>
    intro vs x
    cases x with
    | cons x y =>
      obtain ⟨vi, vl, e, a, b⟩ := ih y
      exact ⟨_ :: vi, vl, by rw [e]; rfl, .cons x a, b⟩

def heappush (ks : List Pr) (p : Pr) : Option (List Pr) := siftdown (ks ++ [p]) ks.length
def heappop : List Pr → Option (Pr × List Pr)
  | [] => none
  | x :: r => match r.getLast? with
    | none => some (x, [])
    | some l => match siftup ((x :: r).dropLast.set 0 l) with
      | none => none
      | some ks => some (x, ks)

local macro_rules | `(tactic| walk_at "subscriptTail") => `(tactic| (k_here; (with_reducible show wpAny _ _ (subscriptTail _ _ (Value.ref _) (Value.int _ _)) _ _ _); k_dflt (refine' it_list ?k1 ?k2 ?k3 ?k4 ?k5 ?_ ?k6; (case k1 => k_asm); (case k2 => k_mem); (case k3 => with_reducible assumption); (case k4 => first | with_reducible assumption | omega); (case k5 => first | with_reducible assumption | omega); (case k6 => with_unfolding_all rfl); k_whole)))
local macro_rules | `(tactic| walk_at "setItem ref int") => `(tactic| (k_here; (with_reducible show wpAny _ _ (setItem (Value.ref _) (Value.int _ _) _) _ _ _); k_dflt (refine' set_list ?k1 ?k2 ?k3 ?k4 ?k5 ?k6 ?_; (case k1 => k_asm); (case k2 => k_asm); (case k3 => k_upd); (case k4 => first | with_reducible assumption | omega); (case k5 => first | with_reducible assumption | omega); (case k6 => first | with_reducible assumption | omega); k_whole); intro h' F' N'; (try k_sweep)))
local macro_rules | `(tactic| walk_at "call ref") => `(tactic| (k_here; refine Halt.out ?_))
local macro_rules | `(tactic| walk_at "call builtin:len") => `(tactic| (k_here; (with_reducible show wpAny _ _ (call (Value.builtin "len") [Value.ref _]) _ _ _); k_dflt (refine' len_l ?k1 ?k2 ?k3 ?_; (case k1 => k_asm); (case k2 => k_mem); (case k3 => with_reducible assumption); k_whole)))
local macro_rules | `(tactic| walk_at "call builtin:list.append") => `(tactic| (k_here; k_dflt (refine' app_l ?k1 ?k2 ?k3 ?k4 ?_; (case k1 => k_asm); (case k2 => k_asm); (case k3 => k_upd); (case k4 => with_reducible assumption); k_whole); intro h' F' N'; (try k_sweep)))
local macro_rules | `(tactic| walk_at "call builtin:list.pop") => `(tactic| (k_here; k_dflt (refine' pop_l ?k1 ?k2 ?k3 ?k4 ?_; (case k1 => k_asm); (case k2 => k_asm); (case k3 => k_upd); (case k4 => with_reducible assumption); k_whole); intro h' F' N'; (try k_sweep)))
local macro_rules | `(tactic| walk_at "truthy ref") => `(tactic| (k_here; k_dflt (first | (refine' truth_c ?k1 ?k2 ?k3 ?_; (case k1 => k_asm); (case k2 => k_mem); (case k3 => with_reducible assumption); k_whole) | (refine' truth_n ?k1 ?k2 ?_; (case k1 => k_asm); (case k2 => k_mem); k_whole))))

theorem heappush_call {w : World} {loose : List Str} {mean : ExcName → Option Value} {mg mb : Str → Option Value} {A : Around} {s : Shared} {h₀ : Heap} {Q E : Value → Shared → Prop}
    {a : Addr} {vs : List Value} {v : Value} {ks ks' : List Pr} {p : Pr} {n : Nat}
    (X : (hd.heap_39 w.params).In h₀) (T : Top hd.view_39 loose mean mg mb h₀) (st : ∀ b o, h₀.get? b = some o → s.heap.get? b = some o)
    (ha : s.heap.get? a = some (listOf vs.toArray n)) (h0 : h₀.get? a = none) (hr : HR s.heap vs ks) (hv : IsPr s.heap v p) (hdp : A.depth + 2 < recursionLimit) (hun : A.units + 11 < cLine) (hlen : vs.length ≤ sizeLine)
    (e : heappush ks p = some ks')
    (ret : ∀ h' tk' vs' n', KB [a] s.heap h' → h'.get? a = some (listOf vs'.toArray n') → HR h' vs' ks' → (∀ x ∈ vs', x ∈ vs ++ [v]) → Q .none { s with heap := h', toks := tk' }) :
    wpAny (model PySem.Challenge.pw_qu0018_01 w) A (call (.ref 21) [.ref a, v]) Q E s := by
  refine' enter (binds := [(Str.ofString "heap", .ref a), (Str.ofString "item", v)]) [(a, listOf vs.toArray n)] X T st ?hN ?ho ?hcd (by omega) ?hbind ?hloc ?h ?hco ?hgen ?hk ?hcell
  case hN => intro q hq; rcases List.mem_singleton.mp hq with rfl; exact ⟨ha, h0⟩
  case ho => k_is
  case hcd => k_is
  case hbind => exact BindsTo.of_eq rfl
  case hloc => exact locs rfl
  case hco => exact rfl
  case hgen => exact rfl
  case hk => exact rfl
  case hcell => decide
  case h =>
    intro g L' h₁ F' N' X' T' hg hg'
    (try dsimp only)
    have eg : ∀ b o, s.heap.get? b = some o → o.cls = .type "tuple" → g.get? b = some o := fun b o q hc => hg b o q fun hm => by
      rcases List.mem_singleton.mp hm with rfl
      rw [ha] at q; cases q; exact absurd hc (by simp)
    have hrg : HR g (vs ++ [v]) (ks ++ [p]) := HR.mono eg (HR.append hr (.cons hv .nil))
    have hl := hr.length
    have hl2 : (vs ++ [v]).length < 2 ^ 62 := by rw [List.length_append, List.length_singleton]; rw [sizeLine] at hlen; omega
    (try k_fold)
    k_steps
    refine ⟨?_⟩
    rename Fr _ _ _ _ => F9
    rename News _ _ _ _ => N9
    have ei : ((((vs ++ [v]).length : Nat) : Int) - 1) = ((ks.length : Nat) : Int) := by rw [List.length_append, List.length_singleton]; omega
    rw [ei]
    refine siftdown_call X' T' F9.keep (N9.get (.head _)) (N9.fresh (.head _)) (HR.mono (fun b o q _ => F9.keep b o q) hrg) (by rw [depth_deeper]; omega) (by rw [units_deeper]; omega) hl2 e ?_
    intro h8 tk8 vs8 kb8 ha8 hr8 hs8
    obtain ⟨F8, N8⟩ := kb8.one F9 N9 ha8
    clear F9 N9
    k_steps
    refine ret _ _ vs8 _ ?_ ha8 hr8 hs8
    exact fun b o q hb => F8.keep b o (hg b o q hb)

theorem heappop_call {w : World} {loose : List Str} {mean : ExcName → Option Value} {mg mb : Str → Option Value} {A : Around} {s : Shared} {h₀ : Heap} {Q E : Value → Shared → Prop}
    {a : Addr} {vs : List Value} {ks ks' : List Pr} {p : Pr} {n : Nat}
    (X : (hd.heap_39 w.params).In h₀) (T : Top hd.view_39 loose mean mg mb h₀) (st : ∀ b o, h₀.get? b = some o → s.heap.get? b = some o)
    (ha : s.heap.get? a = some (listOf vs.toArray n)) (h0 : h₀.get? a = none) (hr : HR s.heap vs ks) (hdp : A.depth + 3 < recursionLimit) (hun : A.units + 14 < cLine) (hlen : vs.length ≤ sizeLine)
    (e : heappop ks = some (p, ks'))
    (ret : ∀ v h' tk' vs' n', KB [a] s.heap h' → h'.get? a = some (listOf vs'.toArray n') → HR h' vs' ks' → IsPr h' v p → (∀ x ∈ vs', x ∈ vs) → Q v { s with heap := h', toks := tk' }) :
    wpAny (model PySem.Challenge.pw_qu0018_01 w) A (call (.ref 28) [.ref a]) Q E s := by
  refine' enter (binds := [(Str.ofString "heap", .ref a)]) [(a, listOf vs.toArray n)] X T st ?hN ?ho ?hcd (by omega) ?hbind ?hloc ?h ?hco ?hgen ?hk ?hcell
  case hN => intro q hq; rcases List.mem_singleton.mp hq with rfl; exact ⟨ha, h0⟩
  case ho => k_is
  case hcd => k_is
  case hbind => exact BindsTo.of_eq rfl
  case hloc => exact locs rfl
  case hco => exact rfl
  case hgen => exact rfl
  case hk => exact rfl
  case hcell => decide
  case h =>
    intro g L' h₁ F' N' X' T' hg hg'
    (try dsimp only)
    have eg : ∀ b o, s.heap.get? b = some o → o.cls = .type "tuple" → g.get? b = some o := fun b o q hc => hg b o q fun hm => by
      rcases List.mem_singleton.mp hm with rfl
      rw [ha] at q; cases q; exact absurd hc (by simp)
    have hrg : HR g vs ks := HR.mono eg hr
    cases ks with
    | nil => cases e
    | cons x r =>
    unfold heappop at e
    dsimp only at e
    cases q : r.getLast? with
    | none =>
      rw [q] at e
      dsimp only at e
      have hr0 : r = [] := List.getLast?_eq_none_iff.mp q
      subst hr0
      obtain ⟨rfl, rfl⟩ : x = p ∧ ([] : List Pr) = ks' := by simpa using e
      obtain ⟨vi, vl, rfl, hvi, hvl⟩ := HR.split (ki := []) hrg
      cases hvi
      have h1 : ([] : List Value).length < 2 ^ 62 := by decide
      (try k_fold)
      k_steps
      rename Fr _ _ _ _ => F9
      rename News _ _ _ _ => N9
      refine ret vl _ _ [] _ ?_ (N9.get (.head _)) .nil (hvl.mono fun b o q _ => F9.keep b o q) (fun _ h => nomatch h)
      exact fun b o q hb => F9.keep b o (hg b o q hb)
    | some l =>
      rw [q] at e
      dsimp only at e
      obtain ⟨r0, hr0⟩ : ∃ r0, r = r0 ++ [l] := by
        obtain ⟨r0, hr0⟩ := List.getLast?_eq_some_iff.mp q
        exact ⟨r0, hr0⟩
      subst hr0
      have ed : (x :: (r0 ++ [l])).dropLast = x :: r0 := by
        rw [← List.cons_append, List.dropLast_concat]
      rw [ed] at e
      cases q2 : siftup ((x :: r0).set 0 l) with
      | none => rw [q2] at e; cases e
      | some k2 =>
      rw [q2] at e
      obtain ⟨rfl, rfl⟩ : x = p ∧ k2 = ks' := by simpa using e
      obtain ⟨vi, vl, rfl, hvi, hvl⟩ := HR.split (ki := x :: r0) hrg
      cases hvi with
      | @cons vx _ vr _ hvx hvr =>
      have h1 : (vx :: vr).length < 2 ^ 62 := by rw [sizeLine] at hlen; rw [List.length_append, List.length_singleton] at hlen; omega
      have h2 : (vx :: vr)[(0 : Int).toNat]? = some vx := rfl
      have h3 : 0 < ((vx :: vr).length : Int) := by rw [List.length_cons]; omega
      have h4 : HR g ((vx :: vr).set (0 : Int).toNat vl) ((x :: r0).set 0 l) := HR.set hvl (.cons hvx hvr) 0
      (try k_fold)
      k_steps
      refine ⟨?_⟩
      rename Fr _ _ _ _ => F9
      rename News _ _ _ _ => N9
      refine siftup_call X' T' F9.keep (N9.get (.head _)) (N9.fresh (.head _)) (HR.mono (fun b o q _ => F9.keep b o q) h4) (by rw [depth_deeper]; omega) (by rw [units_deeper]; omega) (by rw [List.length_set]; exact h1) q2 ?_
      intro h8 tk8 vs8 kb8 ha8 hr8 hs8
      obtain ⟨F8, N8⟩ := kb8.one F9 N9 ha8
      clear F9 N9
      k_steps
      refine ret vx _ _ vs8 _ ?_ ha8 hr8 (hvx.mono fun b o q _ => F8.keep b o q) (fun x hx => set_sub (fun y hy => List.mem_append_left _ hy) (List.mem_append_right _ (.head _)) _ x (hs8 x hx))
      exact fun b o q hb => F8.keep b o (hg b o q hb)
end Mine

-- C1
namespace Mine
open PySem PySem.Spec PySem.Calls PyProof.Rows PySem.W

/-- a turn's end -/
def TPost (h₀ : Heap) (L I : Addr) (oI : Obj) (Jn : (Str → Option Value) → List (Addr × Obj) → Prop) (s : Shared) (Q : Flow → Shared → Prop) (f : Flow) (s₂ : Shared) : Prop :=
  match f with
  | .ret v => Q (.ret v) s₂
  | .brk => Q .next s₂
  | _ => ∃ h' tk m' news', s₂ = { s with heap := h', toks := tk } ∧ Fr h₀ L h' m' ∧ News h₀ L h' ((I, oI) :: news') ∧ (∀ p ∈ news', p.1 ≠ I) ∧ Jn m' news'

theorem tpost {h₀ h' : Heap} {L I : Addr} {oI : Obj} {Jn : (Str → Option Value) → List (Addr × Obj) → Prop} {s : Shared} {Q : Flow → Shared → Prop} {tk : Nat} {m' : Str → Option Value} {news' : List (Addr × Obj)}
    (F : Fr h₀ L h' m') (N : News h₀ L h' ((I, oI) :: news')) (hI : ∀ p ∈ news', p.1 ≠ I) (j : Jn m' news') : TPost h₀ L I oI Jn s Q .next { s with heap := h', toks := tk } :=
  ⟨h', tk, m', news', rfl, F, N, hI, j⟩

section
variable {prog : Program} {w : World} {A : Around} {E : Value → Shared → Prop} {s : Shared} {env : Env} {h₀ : Heap} {x : Str} {body : List Stmt} {Q : Flow → Shared → Prop}

theorem for_walk {I : Addr} {fp : List Addr} {n : Nat} {P : Nat → Value → Prop} {St : Nat → Heap → Prop} {m : Str → Option Value} {news : List (Addr × Obj)} {ty : String} (kp : List (Addr × Obj)) (J : Nat → (Str → Option Value) → List (Addr × Obj) → Prop)
    (W : Walks prog w A I fp [I] n P St) (hty : ∀ i h, St i h → ∃ o, h.get? I = some o ∧ o.cls = .type ty) (hLf : env.locals ∉ fp) (hI : h₀.get? I = none)
    (hfp : ∀ b ∈ fp, b ≠ I → h₀.get? b = none → ∃ o, (b, o) ∈ kp) (hkp : ∀ i m nx, J i m nx → ∀ p ∈ kp, p ∈ nx)
    (hst : St 0 s.heap) (F : Fr h₀ env.locals s.heap m) (N : News h₀ env.locals s.heap news) (hn : ∀ p ∈ news, p.1 ≠ I) (h0 : J 0 m news)
    (turn : ∀ i v m₁ news₁ h tk oI, i < n → P i v → J i m₁ news₁ → (∀ p ∈ news₁, p.1 ≠ I) → oI.cls = .type ty → Fr h₀ env.locals h (fun y => if y = x then some v else m₁ y) → News h₀ env.locals h ((I, oI) :: news₁) →
      wpAny (model prog w) A (execs body env) (TPost h₀ env.locals I oI (J (i + 1)) s Q) E { s with heap := h, toks := tk })
    (done : ∀ m₁ news₁ h tk, J n m₁ news₁ → Fr h₀ env.locals h m₁ → News h₀ env.locals h news₁ → Q .next { s with heap := h, toks := tk }) :
    LoopAtV prog w A h₀ env x body Q E (.ref I) s := by
  refine ⟨I, fp, [I], n, P, St, m, news, J, rfl, W, hLf, fun b hb => by rw [List.mem_singleton.mp hb]; exact hI, fun p hp hb => hn p hp (List.mem_singleton.mp hb), hst, F, N, h0, ?_, fun h' tk m' news' F' N' _ hj => done m' news' h' tk hj F' N'⟩
  rintro i v m₁ news₁ s₁ own ⟨h, tk, rfl⟩ hi hP hJ hnI hof hoh hfo hst1 F1 N1
  obtain ⟨oI, hoI, hoc⟩ := hty _ _ hst1
  have hIo : (I, oI) ∈ own := by
    refine hfo I ?_ hI oI hoI
    exact W.sub I (.head _)
  have hown : ∀ p ∈ own, p = (I, oI) ∨ p ∈ kp := by
    intro p hp
    by_cases hpI : p.1 = I
    · left
      have := hoh p hp
      rw [hpI] at this
      have e : p.2 = oI := Option.some.inj (this.symm.trans hoI)
      exact Prod.ext hpI e
    · right
      have hpn : h₀.get? p.1 = none := (N1 p (List.mem_append_left _ hp)).2.2
      obtain ⟨o, ho⟩ := hfp p.1 (hof p hp) hpI hpn
      have hm := hkp _ _ _ hJ _ ho
      have e1 := (N1 _ (List.mem_append_right _ hm)).1
      have e2 := hoh p hp
      have e : o = p.2 := Option.some.inj (e1.symm.trans e2)
      rw [e] at ho
      exact ho
  have N2 : News h₀ env.locals h ((I, oI) :: news₁) := fun p hp => by
    rcases List.mem_cons.mp hp with rfl | hp
    · exact N1 _ (List.mem_append_left _ hIo)
    · exact N1 _ (List.mem_append_right _ hp)
  refine wpAny_mono (turn i v m₁ news₁ h tk oI hi hP hJ (fun p hp q => hnI p hp (List.mem_singleton.mpr q)) hoc F1 N2) (fun f s₂ q => ?_) fun _ _ x => x
  have key : (∃ h' tk m' news', s₂ = { s with heap := h', toks := tk } ∧ Fr h₀ env.locals h' m' ∧ News h₀ env.locals h' ((I, oI) :: news') ∧ (∀ p ∈ news', p.1 ≠ I) ∧ J (i + 1) m' news') → LoopStepU h₀ env.locals [I] own (J (i + 1)) { s with heap := h, toks := tk } .next s₂ := by
    rintro ⟨h', tk', m', news', rfl, F', N', hI', j'⟩
    refine ⟨rfl, h', tk', m', news', rfl, F', fun p hp => ?_, fun p hp hb => hI' p hp (List.mem_singleton.mp hb), j'⟩
    rcases List.mem_append.mp hp with hp | hp
    · rcases hown p hp with rfl | hp
      · exact N' _ (.head _)
      · exact N' _ (.tail _ (hkp _ _ _ j' _ hp))
    · exact N' _ (.tail _ hp)
  cases f with
  | ret v => exact q
  | brk => exact q
  | next => exact key q
  | cont => exact key q

theorem for_range {r : Addr} {a₀ b₀ : Int} {t₀ u₀ v₀ : Tok} {n : Nat} {m₀ : Str → Option Value} {news : List (Addr × Obj)} (J : Nat → (Str → Option Value) → List (Addr × Obj) → Prop)
    (hh : A.handled = none) (hr : IsRange s.heap r a₀ b₀ 1 t₀ u₀ v₀) (hsmall : Builtin.Range.small a₀ b₀ 1 = true) (hn : Builtin.Range.rangeSize a₀ b₀ 1 = (n : Int)) (F : Fr h₀ env.locals s.heap m₀) (N : News h₀ env.locals s.heap news) (h0 : J 0 m₀ news)
    (turn : ∀ i t m₁ news₁ h tk I oI, i < n → J i m₁ news₁ → (∀ p ∈ news₁, p.1 ≠ I) → oI.cls = .type "range_iterator" → Fr h₀ env.locals h (fun y => if y = x then some (.int (a₀ + (i : Nat)) t) else m₁ y) → News h₀ env.locals h ((I, oI) :: news₁) →
      wpAny (model prog w) A (execs body env) (TPost h₀ env.locals I oI (J (i + 1)) s Q) E { s with heap := h, toks := tk })
    (done : ∀ m₁ news₁ h tk, J n m₁ news₁ → Fr h₀ env.locals h m₁ → News h₀ env.locals h news₁ → Q .next { s with heap := h, toks := tk }) :
    wpAny (model prog w) A (pyIter (.ref r)) (fun it s₂ => LoopAtV prog w A h₀ env x body Q E it s₂) E s := by
  refine wpAny_pyIter_range hr hsmall ?_
  have W : Walks prog w A s.heap.objs.size [s.heap.objs.size] [s.heap.objs.size] n (fun i v => i < n ∧ ∃ t, v = .int (a₀ + i * 1) t)
      (fun i h => IsRangeIter h s.heap.objs.size (a₀ + (i : Nat) * 1) ((n : Int) - (i : Nat)) 1) := (Walks.range hh _ a₀ 1 n).bound
  refine for_walk (s := { s with heap := _ }) (ty := "range_iterator") [] J W (fun i h q => ⟨_, q, rfl⟩) ?_ (next_is_new F) ?_ (fun _ _ _ _ _ hp => nomatch hp) (by show IsRangeIter _ _ _ _ _; rw [hn]; simpa using Heap.get?_push_size _ rfl) (F.push _) (fun p hp => ⟨Heap.get?_push_of_some _ (N p hp).1, (N p hp).2⟩) ?_ h0 ?_ done
  · intro hm
    exact absurd F.ns.lt ((List.mem_singleton.mp hm) ▸ Nat.lt_irrefl _)
  · intro b hb hne
    exact absurd (List.mem_singleton.mp hb) hne
  · intro p hp hI
    exact absurd (Heap.lt_size (N p hp).1) (hI ▸ Nat.lt_irrefl _)
  · rintro i v m₁ news₁ h tk oI hi ⟨_, t, rfl⟩ hJ hI hc F1 N1
    have e1 : a₀ + (i : Int) * 1 = a₀ + (i : Int) := by omega
    rw [e1] at F1
    exact turn i t m₁ news₁ h tk _ oI hi hJ hI hc F1 N1

/-- over a list of the base -/
theorem for_list {l : Addr} {vs : List Value} {m₀ : Str → Option Value} {news : List (Addr × Obj)} (J : Nat → (Str → Option Value) → List (Addr × Obj) → Prop)
    (hh : A.handled = none) (hl : h₀.IsList l vs.toArray) (F : Fr h₀ env.locals s.heap m₀) (N : News h₀ env.locals s.heap news) (h0 : J 0 m₀ news)
    (turn : ∀ i v m₁ news₁ h tk I oI, vs[i]? = some v → J i m₁ news₁ → (∀ p ∈ news₁, p.1 ≠ I) → oI.cls = .type "list_iterator" → Fr h₀ env.locals h (fun y => if y = x then some v else m₁ y) → News h₀ env.locals h ((I, oI) :: news₁) →
      wpAny (model prog w) A (execs body env) (TPost h₀ env.locals I oI (J (i + 1)) s Q) E { s with heap := h, toks := tk })
    (done : ∀ m₁ news₁ h tk, J vs.length m₁ news₁ → Fr h₀ env.locals h m₁ → News h₀ env.locals h news₁ → Q .next { s with heap := h, toks := tk }) :
    wpAny (model prog w) A (pyIter (.ref l)) (fun it s₂ => LoopAtV prog w A h₀ env x body Q E it s₂) E s := by
  have hls : s.heap.IsList l vs.toArray := hl.at fun o e => F.keep l o e
  obtain ⟨ol, hol, hol2⟩ := id hl
  have hlt : l < h₀.objs.size := Heap.lt_size hol
  have hls' : l < s.heap.objs.size := Nat.lt_trans (Nat.lt_of_lt_of_le hlt F.above) F.ns.lt
  refine wpAny_pyIter_list hls ?_
  have W := Walks.list (prog := prog) (w := w) hh s.heap.objs.size l (Nat.ne_of_lt hls') vs.toArray
  refine for_walk (s := { s with heap := _ }) (ty := "list_iterator") [] J W (fun i h q => let ⟨o, a, b, _⟩ := q.1; ⟨o, a, b⟩) ?_ (next_is_new F) ?_ (fun _ _ _ _ _ hp => nomatch hp) ?_ (F.push _) (fun p hp => ⟨Heap.get?_push_of_some _ (N p hp).1, (N p hp).2⟩) ?_ h0 ?_ ?_
  · intro hm
    rcases List.mem_cons.mp hm with hm | hm
    · exact absurd F.ns.lt (hm ▸ Nat.lt_irrefl _)
    · have := F.above
      rw [List.mem_singleton.mp hm] at this
      exact absurd hlt (Nat.not_lt.mpr this)
  · intro b hb hne hb0
    rcases List.mem_cons.mp hb with hb | hb
    · exact absurd hb hne
    · rw [List.mem_singleton.mp hb, hol] at hb0; cases hb0
  · refine ⟨⟨_, Heap.get?_push_size _ rfl, rfl, rfl⟩, ?_⟩
    obtain ⟨o, ho, r⟩ := hls
    exact ⟨o, Heap.get?_push_of_some _ ho, r⟩
  · intro p hp hI
    exact absurd (Heap.lt_size (N p hp).1) (hI ▸ Nat.lt_irrefl _)
  · rintro i v m₁ news₁ h tk oI hi hP hJ hI hc F1 N1
    exact turn i v m₁ news₁ h tk _ oI (by simpa using hP) hJ hI hc F1 N1
  · intro m₁ news₁ h tk hj F1 N1
    exact done m₁ news₁ h tk (by simpa using hj) F1 N1

/-- over a text -/
theorem for_str {z : Str} {u : Tok} {m₀ : Str → Option Value} {news : List (Addr × Obj)} (J : Nat → (Str → Option Value) → List (Addr × Obj) → Prop)
    (hh : A.handled = none) (F : Fr h₀ env.locals s.heap m₀) (N : News h₀ env.locals s.heap news) (h0 : J 0 m₀ news)
    (turn : ∀ i c t m₁ news₁ h tk I oI, z.cps[i]? = some c → J i m₁ news₁ → (∀ p ∈ news₁, p.1 ≠ I) → (oI.cls = .type "str_ascii_iterator" ∨ oI.cls = .type "str_iterator") → Fr h₀ env.locals h (fun y => if y = x then some (.str ⟨#[c]⟩ t) else m₁ y) → News h₀ env.locals h ((I, oI) :: news₁) →
      wpAny (model prog w) A (execs body env) (TPost h₀ env.locals I oI (J (i + 1)) s Q) E { s with heap := h, toks := tk })
    (done : ∀ m₁ news₁ h tk, J z.cps.size m₁ news₁ → Fr h₀ env.locals h m₁ → News h₀ env.locals h news₁ → Q .next { s with heap := h, toks := tk }) :
    wpAny (model prog w) A (pyIter (.str z u)) (fun it s₂ => LoopAtV prog w A h₀ env x body Q E it s₂) E s := by
  have side : ∀ (o : Obj), env.locals ∉ [s.heap.objs.size] ∧ (∀ p ∈ news, p.1 ≠ s.heap.objs.size) := fun o =>
    ⟨fun hm => absurd F.ns.lt ((List.mem_singleton.mp hm) ▸ Nat.lt_irrefl _), fun p hp hI => absurd (Heap.lt_size (N p hp).1) (hI ▸ Nat.lt_irrefl _)⟩
  cases ha : z.cps.all (· < 128)
  · refine wpAny_pyIter_wide ha ?_
    refine for_walk (s := { s with heap := _ }) (ty := "str_iterator") [] J (Walks.strWide hh _ z u) (fun i h q => let ⟨o, a, b, _⟩ := q; ⟨o, a, b⟩) (side default).1 (next_is_new F) (fun b hb hne => absurd (List.mem_singleton.mp hb) hne) (fun _ _ _ _ _ hp => nomatch hp) ⟨_, Heap.get?_push_size _ rfl, rfl, rfl⟩ (F.push _) (fun p hp => ⟨Heap.get?_push_of_some _ (N p hp).1, (N p hp).2⟩) (side default).2 h0 ?_ done
    rintro i v m₁ news₁ h tk oI hi ⟨c, t, hc, rfl⟩ hJ hI ho F1 N1
    exact turn i c t m₁ news₁ h tk _ oI hc hJ hI (.inr ho) F1 N1
  · refine wpAny_pyIter_ascii ha ?_
    refine for_walk (s := { s with heap := _ }) (ty := "str_ascii_iterator") [] J (Walks.strAscii hh _ z u) (fun i h q => let ⟨o, a, b, _⟩ := q; ⟨o, a, b⟩) (side default).1 (next_is_new F) (fun b hb hne => absurd (List.mem_singleton.mp hb) hne) (fun _ _ _ _ _ hp => nomatch hp) ⟨_, Heap.get?_push_size _ rfl, rfl, rfl⟩ (F.push _) (fun p hp => ⟨Heap.get?_push_of_some _ (N p hp).1, (N p hp).2⟩) (side default).2 h0 ?_ done
    rintro i v m₁ news₁ h tk oI hi ⟨c, t, hc, rfl⟩ hJ hI ho F1 N1
    exact turn i c t m₁ news₁ h tk _ oI hc hJ hI (.inl ho) F1 N1
end
theorem News.apart {h₀ h : Heap} {L : Addr} {news : List (Addr × Obj)} (N : News h₀ L h news) {p q : Addr × Obj} (hp : p ∈ news) (hq : q ∈ news) (hc : p.2.cls ≠ q.2.cls) : p.1 ≠ q.1 := by
  intro e
  have a := (N p hp).1
  rw [e, (N q hq).1] at a
  exact hc (congrArg Obj.cls (Option.some.inj a)).symm
end Mine

-- C2
namespace Mine
open PySem PySem.Spec PySem.Calls PyProof.Rows PySem.W
example : True := by
  w_top off
  trivial

def IsPrN (tups : List (Addr × Obj)) (v : Value) (p : Pr) : Prop := ∃ a o t u n, v = .ref a ∧ (a, o) ∈ tups ∧ o.cls = .type "tuple" ∧ o.data = .seq #[.int p.1 t, .str p.2 u] n
inductive HN (tups : List (Addr × Obj)) : List Value → List Pr → Prop
  | nil : HN tups [] []
  | cons {v : Value} {p : Pr} {vs : List Value} {ks : List Pr} : IsPrN tups v p → HN tups vs ks → HN tups (v :: vs) (p :: ks)
theorem HN.mono {t t' : List (Addr × Obj)} (k : ∀ p ∈ t, p ∈ t') {vs : List Value} {ks : List Pr} (x : HN t vs ks) : HN t' vs ks := by
  induction x with
  | nil => exact .nil
  | cons x _ ih =>
    obtain ⟨a, o, t, u, n, e, ho, hc, hd⟩ := x
    exact .cons ⟨a, o, t, u, n, e, k _ ho, hc, hd⟩ ih
theorem HN.app {t : List (Addr × Obj)} {v : Value} {p : Pr} (y : IsPrN t v p) {vs : List Value} {ks : List Pr} (x : HN t vs ks) : HN t (vs ++ [v]) (ks ++ [p]) := by
  induction x with
  | nil => exact .cons y .nil
  | cons x _ ih => exact .cons x ih
theorem HN.toHR {g h : Heap} {L : Addr} {t : List (Addr × Obj)} (N : News g L h t) {vs : List Value} {ks : List Pr} (x : HN t vs ks) : HR h vs ks := by
  induction x with
  | nil => exact .nil
  | cons x _ ih =>
    obtain ⟨a, o, t, u, n, e, ho, hc, hd⟩ := x
    exact .cons ⟨a, o, t, u, n, e, (N _ ho).1, hc, hd⟩ ih
theorem HN.length {t : List (Addr × Obj)} {vs : List Value} {ks : List Pr} (x : HN t vs ks) : vs.length = ks.length := by
  induction x with
  | nil => rfl
  | cons _ _ ih => rw [List.length_cons, List.length_cons, ih]

theorem kstB_self {m : Str → Option Value} {ps : List (Str × Value)} (h : ∀ p ∈ ps, m p.1 = some p.2) : kstB m ps = m := funext fun _ => kstB_eq h fun _ => rfl


def minAt (x : Str) : Nat := argBest (fun i j => decide ([x.cps[i]?.getD 0] < [x.cps[j]?.getD 0])) (x.cps.size - 1)
def minS (x : Str) : Str := ⟨#[x.cps[minAt x]?.getD 0]⟩
section
variable {prog : Program} {w : World} {A : Around} {E : Value → Shared → Prop} {s : Shared} {x : Str} {t : Tok} {Q : Value → Shared → Prop}
theorem min_str (hh : A.handled = none) (hne : 0 < x.cps.size) (h : ∀ u h' tk, (∀ b o, s.heap.get? b = some o → h'.get? b = some o) → Q (.str (minS x) u) { s with heap := h', toks := tk }) :
    wpAny (model prog w) A (call (.builtin "min") [.str x t]) Q E s := by
  refine call_min_walk (wpAny_pyIter_str fun o St W hst => ?_)
  refine ⟨_, _, _, _, _, _, fun i j => decide ([x.cps[i]?.getD 0] < [x.cps[j]?.getD 0]), rfl, W _ hh, hst, ?_, hne, ?_, ?_⟩
  · intro b hb
    rw [List.mem_singleton.mp hb]
    show s.heap.objs.size < (s.heap.push o).objs.size
    rw [Heap.size_push]
    exact Nat.lt_succ_self _
  · rintro i j vi vj s' Q' E' ⟨ci, ui, hi, rfl⟩ ⟨cj, uj, hj, rfl⟩ hQ
    refine (lt_str ?_ : wpAny _ _ (compareOp .Lt _ _) _ _ _)
    have e1 : x.cps[i]?.getD 0 = ci := by rw [hi]; rfl
    have e2 : x.cps[j]?.getD 0 = cj := by rw [hj]; rfl
    dsimp only at hQ
    rw [e1, e2] at hQ
    exact hQ
  · rintro v h' tk ⟨c, u, hc, rfl⟩ hk
    have e : minS x = ⟨#[c]⟩ := by
      unfold minS
      have : x.cps[minAt x]?.getD 0 = c := by unfold minAt; rw [hc]; rfl
      rw [this]
    rw [← e]
    refine h u h' tk fun b o' hb => hk b o' ?_ (Heap.get?_push_of_some _ hb)
    intro hm
    rw [List.mem_singleton.mp hm] at hb
    exact absurd (Heap.lt_size hb) (Nat.lt_irrefl _)
theorem keep_fr {h₀ h h' : Heap} {L : Addr} {m : Str → Option Value} (F : Fr h₀ L h m) (k : ∀ b o, h.get? b = some o → h'.get? b = some o) : Fr h₀ L h' m := by
  obtain ⟨oL, es, ep, hL, r⟩ := F.ns
  exact ⟨⟨oL, es, ep, k _ _ hL, r⟩, fun b o e => k b o (F.keep b o e), F.above⟩
theorem keep_news {h₀ h h' : Heap} {L : Addr} {news : List (Addr × Obj)} (N : News h₀ L h news) (k : ∀ b o, h.get? b = some o → h'.get? b = some o) : News h₀ L h' news :=
  fun p hp => ⟨k _ _ (N p hp).1, (N p hp).2⟩
theorem ne_size (h : (x != Str.ofString "") = true) : 0 < x.cps.size := by
  rcases Nat.eq_zero_or_pos x.cps.size with e | e
  · have : x = Str.ofString "" := by
      apply Str.ext'
      rw [Array.size_eq_zero_iff] at e
      rw [e]
      decide
    subst this
    exact absurd h (by decide)
  · exact e
theorem min_N {h₀ : Heap} {L : Addr} {m : Str → Option Value} {news : List (Addr × Obj)} (F : Fr h₀ L s.heap m) (N : News h₀ L s.heap news) (hh : A.handled = none) (hne : (x != Str.ofString "") = true)
    (h : ∀ u h' tk, Fr h₀ L h' m → News h₀ L h' news → Q (.str (minS x) u) { s with heap := h', toks := tk }) : wpAny (model prog w) A (call (.builtin "min") [.str x t]) Q E s :=
  min_str hh (ne_size hne) fun u h' tk k => h u h' tk (keep_fr F k) (keep_news N k)
end

def lowerAt (o : Str) (x y : Int) : List Pr := if (Txt.item o y).cps.toList < (Txt.item o x).cps.toList then
    [(if (Txt.slice o (some (x + 1)) (some y) != Str.ofString "") = true then (if (Txt.item o x).cps.toList < (minS (Txt.slice o (some (x + 1)) (some y))).cps.toList then 1 else 2) else 0,
      Txt.slice o none (some x) ++ Txt.item o y ++ Txt.slice o (some (x + 1)) (some y) ++ Txt.item o x ++ Txt.slice o (some (y + 1)) none)]
  else []
def lowerRow (o : Str) (i n : Nat) : List Pr := (List.range n).flatMap fun (k : Nat) => lowerAt o (0 + (k : Int)) (1 + (i : Int))
def lowerTo (o : Str) (n : Nat) : List Pr := (List.range n).flatMap fun i => lowerRow o i (1 + i)
theorem lowerRow_succ (o : Str) (i n : Nat) : lowerRow o i (n + 1) = lowerRow o i n ++ lowerAt o (0 + (n : Int)) (1 + (i : Int)) := by
  unfold lowerRow; rw [List.range_succ, List.flatMap_append]; simp
theorem lowerTo_succ (o : Str) (n : Nat) : lowerTo o (n + 1) = lowerTo o n ++ lowerRow o n (1 + n) := by
  unfold lowerTo; rw [List.range_succ, List.flatMap_append]; simp

theorem app_last {prog : Program} {w : World} {A : Around} {E : Value → Shared → Prop} {s : Shared} {g : Heap} {L l D I I2 : Addr} {tO oI o2 : Obj} {vs : List Value} {n : Nat} {tups : List (Addr × Obj)} {m : Str → Option Value} {Q : Value → Shared → Prop}
    (F : Fr g L s.heap m) (N : News g L s.heap ((D, tO) :: (I2, o2) :: (I, oI) :: (l, listOf vs.toArray n) :: tups)) (hD : tO.cls = .type "tuple") (h2 : o2.cls = .type "range_iterator") (h1 : oI.cls = .type "range_iterator") (ht : ∀ p ∈ tups, p.2.cls = .type "tuple") (hlen : vs.length ≤ 1000)
    (h : ∀ h', Fr g L h' m → News g L h' ((I2, o2) :: (I, oI) :: (l, listOf (vs ++ [Value.ref D]).toArray (n + 1)) :: (D, tO) :: tups) → Q .none { s with heap := h' }) :
    wpAny (model prog w) A (call (.builtin "list.append") [.ref l, .ref D]) Q E s := by
  have N1 : News g L s.heap ((l, listOf vs.toArray n) :: (D, tO) :: (I2, o2) :: (I, oI) :: tups) := fun p hp => N p (by
    simp only [List.mem_cons] at hp ⊢
    rcases hp with h | h | h | h | h <;> simp [h])
  have hc : ∀ p ∈ (D, tO) :: (I2, o2) :: (I, oI) :: tups, p.2.cls ≠ (listOf vs.toArray n).cls := by
    intro p hp
    simp only [List.mem_cons] at hp
    rcases hp with rfl | rfl | rfl | hp
    · rw [hD]; simp
    · rw [h2]; simp
    · rw [h1]; simp
    · rw [ht p hp]; simp
  refine app_l F N1 (Upd.head fun p hp => News.apart N1 (.tail _ hp) (.head _) (hc p hp)) (Nat.le_trans hlen (by rw [sizeLine]; decide)) fun h' F' N' => h h' F' fun p hp => N' p (by
    simp only [List.mem_cons] at hp ⊢
    rcases hp with h | h | h | h | h <;> simp [h])

local macro_rules | `(tactic| walk_at "call builtin:list.append") => `(tactic| (k_here; refine Halt.out ?_))
local macro_rules | `(tactic| walk_at "call builtin:min") => `(tactic| (k_here; k_dflt (refine' min_N ?k1 ?k2 ?k3 ?k4 ?_; (case k1 => k_asm); (case k2 => k_asm); (case k3 => assumption); (case k4 => with_reducible assumption); k_whole); intro _ _ _ F' N'; (try k_sweep)))
local macro_rules | `(tactic| walk_at "pyIter ref") => `(tactic| (k_here; refine Halt.out ?_))
local macro_rules | `(tactic| walk_at "call type:range") => `(tactic| (k_here; (rename Fr _ _ _ _ => F'); (rename News _ _ _ _ => N'); first
  | (with_unfolding_all refine range1_rows F' N' ?_; intro _ _ _ _ _ _ _ _ _; clear F' N')
  | (with_unfolding_all refine range2_rows F' N' ?_; intro _ _ _ _ _ _ _ _ _; clear F' N')))
theorem lower_call {w : World} {loose : List Str} {mean : ExcName → Option Value} {mg mb : Str → Option Value} {A : Around} {s : Shared} {h₀ : Heap} {Q E : Value → Shared → Prop}
    {o : Str} {t : Tok}
    (X : (hd.heap_39 w.params).In h₀) (T : Top hd.view_39 loose mean mg mb h₀) (st : ∀ b o, h₀.get? b = some o → s.heap.get? b = some o)
    (hh : A.handled = none) (hdp : A.depth + 3 < recursionLimit) (hun : A.units + 14 < cLine) (ho : o.length = 4)
    (ret : ∀ l vs n tups h' tk', (∀ b o, s.heap.get? b = some o → h'.get? b = some o) → (∀ p ∈ (l, listOf vs.toArray n) :: tups, h'.get? p.1 = some p.2 ∧ s.heap.get? p.1 = none) → HN tups vs (lowerTo o 3) → (∀ p ∈ tups, p.2.cls = .type "tuple") → Q (.ref l) { s with heap := h', toks := tk' }) :
    wpAny (model PySem.Challenge.pw_qu0018_01 w) A (call (.ref 72) [.str o t]) Q E s := by
  refine' enter (binds := [(Str.ofString "order", .str o t)]) [] X T st ?hN ?ho ?hcd (by omega) ?hbind ?hloc ?h ?hco ?hgen ?hk ?hcell
  case hN => intro q hq; cases hq
  case ho => k_is
  case hcd => k_is
  case hbind => exact BindsTo.of_eq rfl
  case hloc => exact locs rfl
  case hco => exact rfl
  case hgen => exact rfl
  case hk => exact rfl
  case hcell => decide
  case h =>
    intro g L' h₁ F' N' X' T' hg hg'
    (try dsimp only)
    (try k_fold)
    k_steps
    refine ⟨?_⟩
    rename IsRange _ _ _ _ _ _ _ _ => rg
    rename Fr _ _ _ _ => F1
    rename News _ _ _ _ => N1
    rename_i tk1 l h2 l1 h1' hh1 tk3 t1 u1 v1 kpp
    refine for_range (n := 3) (fun i m nx => ∃ vs n tups, nx = (l, listOf vs.toArray n) :: tups ∧ HN tups vs (lowerTo o i) ∧ (∀ p ∈ tups, p.2.cls = .type "tuple") ∧ vs.length ≤ 4 * i ∧ m (Str.ofString "order") = some (.str o t) ∧ m (Str.ofString "lower") = some (.ref l))
      hh rg (by decide) rfl F1 N1 ⟨[], 0, [], rfl, .nil, (fun _ hp => nomatch hp), Nat.le_refl _, rfl, rfl⟩ ?turn ?done
    case turn =>
      rintro i ti m₁ nx h tk I oI hi ⟨vs, n, tups, rfl, hn, htc, hlv, hm1, hm2⟩ hnI hoI F2 N2
      rw [← kstB_self (m := m₁) (ps := [(Str.ofString "order", .str o t), (Str.ofString "lower", .ref l)]) (by
        intro p hp
        rcases List.mem_cons.mp hp with rfl | hp
        · exact hm1
        · rcases List.mem_singleton.mp hp with rfl
          exact hm2)] at F2
      clear F1 N1
      (try k_fold)
      k_steps
      refine ⟨?_⟩
      rename IsRange _ _ _ _ _ _ _ _ => rg2
      rename Fr _ _ _ _ => F3
      rename News _ _ _ _ => N3
      refine for_range (n := 1 + i) (fun k m nx => ∃ vs n tups, nx = (I, oI) :: (l, listOf vs.toArray n) :: tups ∧ HN tups vs (lowerTo o i ++ lowerRow o i k) ∧ (∀ p ∈ tups, p.2.cls = .type "tuple") ∧ vs.length ≤ 4 * i + k ∧ m (Str.ofString "order") = some (.str o t) ∧ m (Str.ofString "lower") = some (.ref l) ∧ m (Str.ofString "j") = some (.int (1 + (i : Nat)) ti))
        hh rg2 (small_one (by omega) (by omega) (by omega) (by omega)) (by rw [rangeSize_nat]; omega) F3 N3 ⟨vs, n, tups, rfl, by simpa [lowerRow] using hn, htc, hlv, rfl, rfl, rfl⟩ ?turn2 ?done2
      case turn2 =>
        rintro k tk2 m₂ nx h5 tk5 I2 oI2 hk ⟨vs, n, tups, rfl, hn, htc, hlv, hm1, hm2, hm3⟩ hnI2 hoI2 F4 N4
        rw [← kstB_self (m := m₂) (ps := [(Str.ofString "order", .str o t), (Str.ofString "lower", .ref l), (Str.ofString "j", .int (1 + (i : Nat)) ti)]) (by
          intro p hp
          rcases List.mem_cons.mp hp with rfl | hp
          · exact hm1
          · rcases List.mem_cons.mp hp with rfl | hp
            · exact hm2
            · rcases List.mem_singleton.mp hp with rfl
              exact hm3)] at F4
        clear F3 N3
        (try k_fold)
        k_steps
        case _ =>
          refine ⟨?_⟩
          rename Fr _ _ _ _ => F5
          rename News _ _ _ _ => N5
          refine app_last F5 N5 rfl hoI2 hoI htc (by omega) ?_
          intro h6 F6 N6
          clear F5 N5
          k_steps
          refine tpost F6 N6 ?_ ⟨_, _, _, rfl, ?_, ?_, ?_, rfl, rfl, rfl⟩
          · have hx := N6
            intro p hp
            rcases List.mem_cons.mp hp with rfl | hp
            · exact hnI2 _ (.head _)
            · refine News.apart N6 (.tail _ (.tail _ hp)) (.head _) ?_
              rw [hoI2]
              rcases List.mem_cons.mp hp with rfl | hp
              · simp
              · rcases List.mem_cons.mp hp with rfl | hp
                · simp
                · rw [htc p hp]; simp
          · rw [lowerRow_succ, ← List.append_assoc]
            have e9 : lowerAt o (0 + (k : Int)) (1 + (i : Int)) = [(1, Txt.slice o none (some (0 + (k : Int))) ++ Txt.item o (1 + (i : Int)) ++ Txt.slice o (some (0 + (k : Int) + 1)) (some (1 + (i : Int))) ++ Txt.item o (0 + (k : Int)) ++ Txt.slice o (some (1 + (i : Int) + 1)) none)] := by
              unfold lowerAt
              rw [if_pos (by assumption), if_pos (by assumption), if_pos (by assumption)]
            rw [e9]
            exact HN.app ⟨_, _, _, _, _, rfl, .head _, rfl, rfl⟩ (HN.mono (fun p hp => .tail _ hp) hn)
          · intro p hp
            rcases List.mem_cons.mp hp with rfl | hp
            · rfl
            · exact htc p hp
          · rw [List.length_append, List.length_singleton]; omega
        case _ =>
          refine ⟨?_⟩
          rename Fr _ _ _ _ => F5
          rename News _ _ _ _ => N5
          refine app_last F5 N5 rfl hoI2 hoI htc (by omega) ?_
          intro h6 F6 N6
          clear F5 N5
          k_steps
          refine tpost F6 N6 ?_ ⟨_, _, _, rfl, ?_, ?_, ?_, rfl, rfl, rfl⟩
          · have hx := N6
            intro p hp
            rcases List.mem_cons.mp hp with rfl | hp
            · exact hnI2 _ (.head _)
            · refine News.apart N6 (.tail _ (.tail _ hp)) (.head _) ?_
              rw [hoI2]
              rcases List.mem_cons.mp hp with rfl | hp
              · simp
              · rcases List.mem_cons.mp hp with rfl | hp
                · simp
                · rw [htc p hp]; simp
          · rw [lowerRow_succ, ← List.append_assoc]
            have e9 : lowerAt o (0 + (k : Int)) (1 + (i : Int)) = [(2, Txt.slice o none (some (0 + (k : Int))) ++ Txt.item o (1 + (i : Int)) ++ Txt.slice o (some (0 + (k : Int) + 1)) (some (1 + (i : Int))) ++ Txt.item o (0 + (k : Int)) ++ Txt.slice o (some (1 + (i : Int) + 1)) none)] := by
              unfold lowerAt
              rw [if_pos (by assumption), if_pos (by assumption), if_neg (by assumption)]
            rw [e9]
            exact HN.app ⟨_, _, _, _, _, rfl, .head _, rfl, rfl⟩ (HN.mono (fun p hp => .tail _ hp) hn)
          · intro p hp
            rcases List.mem_cons.mp hp with rfl | hp
            · rfl
            · exact htc p hp
          · rw [List.length_append, List.length_singleton]; omega
        case _ =>
          refine ⟨?_⟩
          rename Fr _ _ _ _ => F5
          rename News _ _ _ _ => N5
          refine app_last F5 N5 rfl hoI2 hoI htc (by omega) ?_
          intro h6 F6 N6
          clear F5 N5
          k_steps
          refine tpost F6 N6 ?_ ⟨_, _, _, rfl, ?_, ?_, ?_, rfl, rfl, rfl⟩
          · have hx := N6
            intro p hp
            rcases List.mem_cons.mp hp with rfl | hp
            · exact hnI2 _ (.head _)
            · refine News.apart N6 (.tail _ (.tail _ hp)) (.head _) ?_
              rw [hoI2]
              rcases List.mem_cons.mp hp with rfl | hp
              · simp
              · rcases List.mem_cons.mp hp with rfl | hp
                · simp
                · rw [htc p hp]; simp
          · rw [lowerRow_succ, ← List.append_assoc]
            have e9 : lowerAt o (0 + (k : Int)) (1 + (i : Int)) = [(0, Txt.slice o none (some (0 + (k : Int))) ++ Txt.item o (1 + (i : Int)) ++ Txt.slice o (some (0 + (k : Int) + 1)) (some (1 + (i : Int))) ++ Txt.item o (0 + (k : Int)) ++ Txt.slice o (some (1 + (i : Int) + 1)) none)] := by
              unfold lowerAt
              rw [if_pos (by assumption), if_neg (by simp_all)]
            rw [e9]
            exact HN.app ⟨_, _, _, _, _, rfl, .head _, rfl, rfl⟩ (HN.mono (fun p hp => .tail _ hp) hn)
          · intro p hp
            rcases List.mem_cons.mp hp with rfl | hp
            · rfl
            · exact htc p hp
          · rw [List.length_append, List.length_singleton]; omega
        case _ =>
          rename Fr _ _ _ _ => F5
          rename News _ _ _ _ => N5
          refine tpost F5 N5 hnI2 ⟨vs, n, tups, rfl, ?_, htc, by omega, rfl, rfl, rfl⟩
          rw [lowerRow_succ, ← List.append_assoc]
          have e9 : lowerAt o (0 + (k : Int)) (1 + (i : Int)) = [] := by
            unfold lowerAt
            rw [if_neg (by assumption)]
          rw [e9, List.append_nil]
          exact hn
      case done2 =>
        rintro m₂ nx h5 tk5 ⟨vs, n, tups, rfl, hn, htc, hlv, hm1, hm2, hm3⟩ F4 N4
        clear F3 N3
        k_steps
        refine tpost F4 N4 ?_ ⟨vs, n, tups, rfl, by rw [lowerTo_succ]; exact hn, htc, by omega, hm1, hm2⟩
        intro p hp
        refine News.apart N4 (.tail _ hp) (.head _) ?_
        rw [hoI]
        rcases List.mem_cons.mp hp with rfl | hp
        · simp
        · rw [htc p hp]; simp
    case done =>
      rintro m₂ nx h5 tk5 ⟨vs, n, tups, rfl, hn, htc, hlv, hm1, hm2⟩ F4 N4
      rw [← kstB_self (m := m₂) (ps := [(Str.ofString "lower", .ref l)]) (by
        intro p hp
        rcases List.mem_singleton.mp hp with rfl
        exact hm2)] at F4
      clear F1 N1
      k_steps
      refine ret l vs n tups _ _ (fun b o q => F4.keep b o (hg b o q (fun h => nomatch h))) (fun p hp => ⟨(N4 p hp).1, ?_⟩) hn htc
      cases q : s.heap.get? p.1 with
      | none => rfl
      | some o' =>
        have := (N4 p hp).2.2
        rw [hg _ _ q (fun h => nomatch h)] at this
        cases this
end Mine

-- C3
namespace Mine
open PySem PySem.Spec PySem.Calls PyProof.Rows PySem.W
example : True := by
  w_top off
  trivial

def insS (l : List Str) (x : Int) (y : Str) : List Str :=
  l.take (if x < 0 then (x + (l.length : Int)).toNat else min x.toNat l.length) ++ y :: l.drop (if x < 0 then (x + (l.length : Int)).toNat else min x.toNat l.length)
theorem strs_append : ∀ {vs : List Value} {xs : List Str}, StrsAre vs xs → ∀ {vs' : List Value} {xs' : List Str}, StrsAre vs' xs' → StrsAre (vs ++ vs') (xs ++ xs')
  | _, _, .nil, _, _, y => y
  | _, _, .cons a b r, _, _, y => .cons a b (strs_append r y)
theorem strs_len : ∀ {vs : List Value} {xs : List Str}, StrsAre vs xs → vs.length = xs.length
  | _, _, .nil => rfl
  | _, _, .cons _ _ r => congrArg (· + 1) (strs_len r)
theorem strs_take {vs : List Value} {xs : List Str} (h : StrsAre vs xs) : ∀ k, StrsAre (vs.take k) (xs.take k) := by
  induction h with
  | nil => intro k; rw [List.take_nil, List.take_nil]; exact .nil
  | cons y t _ ih =>
    intro k
    cases k with
    | zero => exact .nil
    | succ k => exact .cons y t (ih k)
theorem strs_drop {vs : List Value} {xs : List Str} (h : StrsAre vs xs) : ∀ k, StrsAre (vs.drop k) (xs.drop k) := by
  induction h with
  | nil => intro k; rw [List.drop_nil, List.drop_nil]; exact .nil
  | cons y t h ih =>
    intro k
    cases k with
    | zero => exact .cons y t h
    | succ k => exact ih k
theorem strs_ins {vs : List Value} {xs : List Str} (h : StrsAre vs xs) (x : Int) (y : Str) (t : Tok) : StrsAre (kl_ins vs x (.str y t)) (insS xs x y) := by
  unfold kl_ins insS
  rw [strs_len h]
  exact strs_append (strs_take h _) (.cons y t (strs_drop h _))

def orderTo (bs : List Int) : Nat → List Str
  | 0 => []
  | k + 1 => insS (orderTo bs k) (0 + (k : Int) - bs.getD (0 + (k : Int)).toNat 0) (Txt.item (Str.ofString "abcd") (0 + (k : Int)))
def orderF (bs : List Int) : Str := Txt.join (Str.ofString "") (orderTo bs 4)

theorem insS_w (l : List Str) (x : Int) (y : Str) : ((insS l x y).map (·.length)).sum = (l.map (·.length)).sum + y.length ∧ (insS l x y).length = l.length + 1 := by
  unfold insS
  generalize (if x < 0 then (x + (l.length : Int)).toNat else min x.toNat l.length) = k
  constructor
  · have e := List.take_append_drop k l
    rw [List.map_append, List.map_cons, List.sum_append, List.sum_cons]
    have e2 : (l.map (·.length)).sum = ((l.take k).map (·.length)).sum + ((l.drop k).map (·.length)).sum := by
      rw [← List.sum_append, ← List.map_append, e]
    rw [e2]; omega
  · rw [List.length_append, List.length_cons, List.length_take, List.length_drop]; omega
theorem item_abcd (k : Nat) (h : k < 4) : (Txt.item (Str.ofString "abcd") (0 + (k : Int))).length = 1 := by
  rcases Nat.lt_or_ge k 1 with h1 | h1
  · obtain rfl : k = 0 := by omega
    decide
  rcases Nat.lt_or_ge k 2 with h2 | h2
  · obtain rfl : k = 1 := by omega
    decide
  rcases Nat.lt_or_ge k 3 with h3 | h3
  · obtain rfl : k = 2 := by omega
    decide
  · obtain rfl : k = 3 := by omega
    decide
theorem orderTo_w (bs : List Int) : ∀ k, k ≤ 4 → ((orderTo bs k).map (·.length)).sum = k ∧ (orderTo bs k).length = k
  | 0, _ => ⟨rfl, rfl⟩
  | k + 1, h => by
    obtain ⟨a, b⟩ := orderTo_w bs k (by omega)
    unfold orderTo
    obtain ⟨c, d⟩ := insS_w (orderTo bs k) (0 + (k : Int) - bs.getD (0 + (k : Int)).toNat 0) (Txt.item (Str.ofString "abcd") (0 + (k : Int)))
    rw [c, d, a, b, item_abcd k (by omega)]
    exact ⟨rfl, rfl⟩

local macro_rules | `(tactic| walk_at "pyIter ref") => `(tactic| (k_here; refine Halt.out ?_))
local macro_rules | `(tactic| walk_at "call builtin:list.insert") => `(tactic| (k_here; refine Halt.out ?_))
local macro_rules | `(tactic| walk_at "call builtin:str.join") => `(tactic| (k_here; refine Halt.out ?_))

theorem order_call {w : World} {loose : List Str} {mean : ExcName → Option Value} {mg mb : Str → Option Value} {A : Around} {s : Shared} {h₀ : Heap} {Q E : Value → Shared → Prop}
    {l : Addr} {vs : List Value} {bs : List Int}
    (X : (hd.heap_39 w.params).In h₀) (T : Top hd.view_39 loose mean mg mb h₀) (st : ∀ b o, h₀.get? b = some o → s.heap.get? b = some o)
    (hh : A.handled = none) (hdp : A.depth + 3 < recursionLimit) (hl : s.heap.IsList l vs.toArray) (hi : IntsAre vs bs) (h4 : bs.length = 4) (hbd : ∀ i, i < 4 → 0 ≤ bs.getD i 0 ∧ bs.getD i 0 < 10)
    (ret : ∀ h' tk' t', (∀ b o, s.heap.get? b = some o → h'.get? b = some o) → Q (.str (orderF bs) t') { s with heap := h', toks := tk' }) :
    wpAny (model PySem.Challenge.pw_qu0018_01 w) A (call (.ref 65) [.ref l]) Q E s := by
  refine' enter (binds := [(Str.ofString "behind", .ref l)]) [] X T st ?hN ?ho ?hcd (by omega) ?hbind ?hloc ?h ?hco ?hgen ?hk ?hcell
  case hN => intro q hq; cases hq
  case ho => k_is
  case hcd => k_is
  case hbind => exact BindsTo.of_eq rfl
  case hloc => exact locs rfl
  case hco => exact rfl
  case hgen => exact rfl
  case hk => exact rfl
  case hcell => decide
  case h =>
    intro g L' h₁ F' N' X' T' hg hg'
    (try dsimp only)
    have hlg : g.IsList l vs.toArray := hl.at fun o e => hg _ _ e (fun h => nomatch h)
    (try k_fold)
    k_steps
    refine ⟨?_⟩
    rename IsRange _ _ _ _ _ _ _ _ => rg
    rename Fr _ _ _ _ => F1
    rename News _ _ _ _ => N1
    rename_i r h2 l1 h1' Fo No hh1 tk3 t1 u1 v1 kpp
    refine for_range (n := 4) (fun i m nx => ∃ rs n, nx = [(r, listOf rs.toArray n)] ∧ StrsAre rs (orderTo bs i) ∧ rs.length = i ∧ m (Str.ofString "behind") = some (.ref l) ∧ m (Str.ofString "row") = some (.ref r))
      hh rg (by decide) rfl F1 N1 ⟨[], 0, rfl, .nil, rfl, rfl, rfl⟩ ?turn ?done
    case turn =>
      rintro i ti m₁ nx h tk I oI hi4 ⟨rs, n, rfl, hn, hlv, hm1, hm2⟩ hnI hoI F2 N2
      rw [← kstB_self (m := m₁) (ps := [(Str.ofString "behind", .ref l), (Str.ofString "row", .ref r)]) (by
        intro p hp
        rcases List.mem_cons.mp hp with rfl | hp
        · exact hm1
        · rcases List.mem_singleton.mp hp with rfl
          exact hm2)] at F2
      clear F1 N1 Fo No
      (try k_fold)
      k_steps
      refine ⟨?_⟩
      rename Fr _ _ _ _ => F5
      rename News _ _ _ _ => N5
      have hbi := hbd (0 + (i : Int)).toNat (by omega)
      have hne : I ≠ r := fun e => hnI _ (.head _) e.symm
      refine kl_insert F5 N5 (l := kl_ins rs (0 + (i : Int) - bs.getD (0 + (i : Int)).toNat 0) (.str (Txt.item (Str.ofString "abcd") (0 + (i : Int))) _)) ?hf rfl (Upd.tail hne (Upd.head fun _ h => nomatch h)) (by show rs.length ≤ _; rw [hlv, sizeLine]; omega) ?hk
      case hf => simp only [Builtin.List.listFitsIndex, Bool.and_eq_true, decide_eq_true_eq]; omega
      case hk =>
        intro h6 F6 N6
        clear F5 N5
        k_steps
        refine tpost F6 N6 ?_ ⟨_, _, rfl, strs_ins hn _ _ _, ?_, rfl, rfl⟩
        · intro p hp
          rcases List.mem_singleton.mp hp with rfl
          exact Ne.symm hne
        · rw [kl_ins_length, hlv]
    case done =>
      rintro m₂ nx h5 tk5 ⟨rs, n, rfl, hn, hlv, hm1, hm2⟩ F4 N4
      rw [← kstB_self (m := m₂) (ps := [(Str.ofString "row", .ref r)]) (by
        intro p hp
        rcases List.mem_singleton.mp hp with rfl
        exact hm2)] at F4
      clear F1 N1 Fo No
      k_steps
      refine ⟨?_⟩
      refine join_listC (PySem.IsL.isList (n := n) (N4 _ (.head _)).1) hn (by decide) ?hok ?hq
      case hok =>
        obtain ⟨a, b⟩ := orderTo_w bs 4 (Nat.le_refl _)
        rw [a, b]
        decide
      case hq =>
        intro t9 k9
        exact ret _ _ _ fun b o q => F4.keep b o (hg b o q (fun h => nomatch h))
end Mine

-- C5
namespace Mine
open PySem PySem.Spec PySem.Calls PyProof.Rows PySem.W

theorem HN.get {t : List (Addr × Obj)} {vs : List Value} {ks : List Pr} (x : HN t vs ks) : ∀ {i : Nat} {v : Value}, vs[i]? = some v → ∃ p, ks[i]? = some p ∧ IsPrN t v p := by
  induction x with
  | nil => intro i v h; simp at h
  | cons x _ ih =>
    intro i v h
    cases i with
    | zero => simp at h; subst h; exact ⟨_, rfl, x⟩
    | succ i => simp at h; simpa using ih h

section
variable {prog : Program} {w : World} {A : Around} {E : Value → Shared → Prop} {s : Shared} {env : Env} {h₀ : Heap} {Q : Flow → Shared → Prop}

theorem letGo_list {target : Expr} {It : Addr} {v : Value} {oI : Obj} {R : Unit → Shared → Prop} (hI : s.heap.get? It = some oI) (hc : oI.cls = .type "list_iterator") (h : R () s) :
    wpAny (model prog w) A (letOwnedTupleGo target (.ref It) v) R E s := by
  unfold letOwnedTupleGo
  split
  · cases v with
    | ref a =>
      dsimp only
      refine wpAny_bind (wpAny_load hI ?_)
      rw [hc]
      split
      · rename_i n vs heq _
        injection heq with heq
        subst heq
        rw [if_neg (by simp)]
        exact wpAny_pure h
      · exact wpAny_pure h
    | _ => exact wpAny_pure h
  · cases v with
    | ref a =>
      dsimp only
      refine wpAny_bind (wpAny_load hI ?_)
      rw [hc]
      split
      · rename_i n vs heq _
        injection heq with heq
        subst heq
        rw [if_neg (by simp)]
        exact wpAny_pure h
      · exact wpAny_pure h
    | _ => exact wpAny_pure h
  · exact wpAny_pure h

/-- a for over a list of pairs of the ledger, its two names -/
theorem loop_tup {xa xb : Str} {pa pb tp : Pos} {kx : Nat} {body : List Stmt} {l : Addr} {vs : List Value} {nn : Nat} {ks : List Pr} {tups : List (Addr × Obj)} {m : Str → Option Value} {news : List (Addr × Obj)}
    (J : Nat → (Str → Option Value) → List (Addr × Obj) → Prop)
    (hh : A.handled = none) (hxa : env.kindOf xa = some .local) (hxb : env.kindOf xb = some .local)
    (hp : (env.scope.kind == .class || (env.scope.kind == .module && env.locals != env.globals)) = false)
    (F : Fr h₀ env.locals s.heap m) (N : News h₀ env.locals s.heap news) (hn : HN tups vs ks)
    (hl : ∀ i m nx, J i m nx → (l, listOf vs.toArray nn) ∈ nx) (ht : ∀ i m nx, J i m nx → ∀ p ∈ tups, p ∈ nx) (h0 : J 0 m news)
    (step : ∀ i k ta tb m₁ nx h tk It oI, ks[i]? = some k → J i m₁ nx → (∀ p ∈ nx, p.1 ≠ It) → oI.cls = .type "list_iterator" →
      Fr h₀ env.locals h (fun y => if y = xb then some (.str k.2 tb) else if y = xa then some (.int k.1 ta) else m₁ y) → News h₀ env.locals h ((It, oI) :: nx) →
      wpAny (model prog w) A (execs body env) (TPost h₀ env.locals It oI (J (i + 1)) s Q) E { s with heap := h, toks := tk })
    (done : ∀ m₁ nx h tk, J vs.length m₁ nx → Fr h₀ env.locals h m₁ → News h₀ env.locals h nx → Q .next { s with heap := h, toks := tk })
    (hE : PassesOwn (model prog w) A env E) :
    wpAny (model prog w) A (pyIter (.ref l)) (fun it s₂ => codeAny (model prog w) A (.forLoop (.Tuple [.Name xa pa, .Name xb pb] kx tp) it body [] env) (fun r s' => match r with | .ok f => Q f s' | .error e => cameBackBy (model prog w) A env E e s') s₂) E s := by
  have hls : s.heap.IsList l vs.toArray := PySem.IsL.isList (n := nn) (N _ (hl _ _ _ h0)).1
  refine wpAny_pyIter_list hls ?_
  obtain ⟨It, hIt⟩ : ∃ It, It = s.heap.objs.size := ⟨_, rfl⟩
  rw [← hIt]
  have hnI : ∀ p ∈ news, p.1 ≠ It := fun p hp q => absurd (Heap.lt_size (N p hp).1) (by rw [q, hIt]; exact Nat.lt_irrefl _)
  have hI0 : h₀.get? It = none := hIt ▸ next_is_new F
  have hIL : env.locals ≠ It := fun q => absurd F.ns.lt (by rw [q, hIt]; exact Nat.lt_irrefl _)
  refine codeAny_forLoop_any
    (fun k s' => ∃ h' tk m' nx i, s' = { s with heap := h', toks := tk } ∧ h'.IsListIter It l i ∧ Fr h₀ env.locals h' m' ∧ News h₀ env.locals h' nx ∧ (∀ p ∈ nx, p.1 ≠ It) ∧ J i m' nx ∧ i ≤ vs.length ∧ k = vs.length + 1 - i) ?_ (vs.length + 1)
    ⟨_, s.toks, m, news, 0, rfl, ⟨_, by rw [hIt]; exact Heap.get?_push_size _ rfl, rfl, rfl⟩, F.push _, fun p hp => ⟨Heap.get?_push_of_some _ (N p hp).1, (N p hp).2⟩, hnI, h0, Nat.zero_le _, rfl⟩
  rintro k s' ⟨h', tk, m', nx, i, rfl, hit, F', N', hnx, hJ, hi, rfl⟩
  have hll : h'.IsList l vs.toArray := PySem.IsL.isList (n := nn) (N' _ (hl _ _ _ hJ)).1
  by_cases hlt : i < vs.length
  · obtain ⟨v, hv⟩ : ∃ v, vs[i]? = some v := ⟨vs[i], by simp [hlt]⟩
    obtain ⟨p, hpk, a, o, ta, tb, n', rfl, hmo, hoc, hod⟩ := hn.get hv
    refine wpAny_pyNext_list_item hit hll (x := .ref a) (by simpa using hv) fun h₁ hit₁ hs₁ => ?_
    have F₁ : Fr h₀ env.locals h₁ m' := ⟨F'.ns.sameBut hs₁ hIL, fun b o e => (hs₁.2 b fun q => by rw [q, hI0] at e; cases e).trans (F'.keep b o e), F'.above⟩
    have N₁ : News h₀ env.locals h₁ nx := fun q hq => ⟨(hs₁.2 _ (hnx q hq)).trans (N' q hq).1, (N' q hq).2⟩
    obtain ⟨oI, hoI, hoIc, hoId⟩ := id hit₁
    have NI : News h₀ env.locals h₁ ((It, oI) :: nx) := fun q hq => by
      rcases List.mem_cons.mp hq with rfl | hq
      · exact ⟨hoI, Ne.symm hIL, hI0⟩
      · exact N₁ q hq
    refine letGo_list hoI hoIc ?_
    have hT : IsTup h₁ a #[.int p.1 ta, .str p.2 tb] := ⟨o, (N₁ _ (ht _ _ _ hJ _ hmo)).1, hoc, n', hod⟩
    refine unpackN_ F₁ NI hT hh rfl rfl fun h₂ F₂ N₂ => ?_
    refine assignInOrder_cons ?_
    refine wpAny_assign_Name (wpAny_storeName_local hxa F₂.ns (fun h₃ hn₃ hs₃ => ?_) hp)
    have F₃ := F₂.set hn₃ hs₃
    have N₃ := N₂.set hs₃
    refine assignInOrder_cons ?_
    refine wpAny_assign_Name (wpAny_storeName_local hxb F₃.ns (fun h₄ hn₄ hs₄ => ?_) hp)
    have F₄ := F₃.set hn₄ hs₄
    have N₄ := N₃.set hs₄
    refine assignInOrder_nil ?_
    have body := step i p ta tb m' nx h₄ (tk + 1 + 1) It oI hpk hJ hnx hoIc F₄ N₄
    refine wpAny_passesOwn hE ?_
    refine wpAny_mono body (fun f s₃ h₃ => ?_) fun _ _ x => x
    have key : (∃ h' tk m' news', s₃ = { s with heap := h', toks := tk } ∧ Fr h₀ env.locals h' m' ∧ News h₀ env.locals h' ((It, oI) :: news') ∧ (∀ p ∈ news', p.1 ≠ It) ∧ J (i + 1) m' news') →
        ∃ m, m < vs.length + 1 - i ∧ ∃ h' tk m' nx i, s₃ = { s with heap := h', toks := tk } ∧ h'.IsListIter It l i ∧ Fr h₀ env.locals h' m' ∧ News h₀ env.locals h' nx ∧ (∀ p ∈ nx, p.1 ≠ It) ∧ J i m' nx ∧ i ≤ vs.length ∧ m = vs.length + 1 - i := by
      rintro ⟨h', tk', m', news', rfl, F', N', hI', j'⟩
      exact ⟨vs.length + 1 - (i + 1), by omega, h', tk', m', news', i + 1, rfl, ⟨oI, (N' _ (.head _)).1, hoIc, hoId⟩, F', fun p hp => N' p (.tail _ hp), hI', j', hlt, rfl⟩
    cases f with
    | ret v => exact h₃
    | brk => exact h₃
    | next => exact key h₃
    | cont => exact key h₃
  · have hin : i = vs.length := by omega
    subst hin
    refine wpAny_pyNext_list_end hh hit hll (by simp) fun h₁ he₁ => wpAny_execs_nil ?_
    have F₁ : Fr h₀ env.locals h₁ m' := by
      obtain ⟨oL, a1, a2, hL, a3⟩ := F'.ns
      exact ⟨⟨oL, a1, a2, he₁ _ _ hIL hL, a3⟩, fun b o e => he₁ b o (fun q => by rw [q, hI0] at e; cases e) (F'.keep b o e), F'.above⟩
    exact done m' nx h₁ tk hJ F₁ fun q hq => ⟨he₁ _ _ (hnx q hq) (N' q hq).1, (N' q hq).2⟩
end
end Mine

-- C4
namespace Mine
open PySem PySem.Spec PySem.Calls PyProof.Rows PySem.W PyProof.V
example : True := by
  w_top off
  trivial

/-- a dict of texts and ints, as plain data -/
abbrev SD := List (Str × Int)
def getS : SD → Str → Option Int
  | [], _ => none
  | (a, b) :: r, k => if eqS a k then some b else getS r k
def putS (D : SD) (k : Str) (v : Int) : SD := if D.any (fun p => eqS p.1 k) then D.map (fun p => if eqS p.1 k then (p.1, v) else p) else D ++ [(k, v)]
theorem getS_cons (a : Str) (b : Int) (r : SD) (k : Str) : getS ((a, b) :: r) k = if a = k then some b else getS r k := by
  show (if eqS a k = true then some b else getS r k) = _
  rw [eqS_eq]
  by_cases h : a = k <;> simp [h]
theorem putS_eq (D : SD) (k : Str) (v : Int) : putS D k v = if D.any (fun p => p.1 = k) then D.map (fun p => if p.1 = k then (p.1, v) else p) else D ++ [(k, v)] := by
  unfold putS
  simp only [eqS_eq, decide_eq_true_eq]
def encD (D : SD) : List (PyData × PyData) := D.map fun p => (PyData.str p.1, PyData.int p.2)
theorem encD_lookup (D : SD) (k : Str) : lookup (.str k) (encD D) = (getS D k).map PyData.int := by
  induction D with
  | nil => rfl
  | cons p r ih =>
    obtain ⟨a, b⟩ := p
    show (if PySem.Spec.same (.str a) (.str k) then some (PyData.int b) else lookup (.str k) (encD r)) = _
    rw [same_str, ih]
    rw [getS_cons]
    by_cases h : a = k <;> simp [h]
theorem encD_put (D : SD) (k : Str) (v : Int) : putD (.str k) (.int v) (encD D) = encD (putS D k v) := by
  rw [putS_eq]
  unfold putD encD
  have e : (D.map fun p => (PyData.str p.1, PyData.int p.2)).any (fun p => PySem.Spec.same p.1 (.str k)) = D.any (fun p => p.1 = k) := by
    rw [List.any_map]
    rfl
  rw [e]
  split
  · rw [List.map_map, List.map_map]
    congr 1
    funext p
    by_cases h : p.1 = k <;> simp [same_str, h]
  · rw [List.map_append]; rfl
theorem putS_len (D : SD) (k : Str) (v : Int) : (putS D k v).length ≤ D.length + 1 := by
  unfold putS
  split
  · rw [List.length_map]; omega
  · rw [List.length_append]; simp

def pushAll (worst : Int) : List Pr → SD → List Pr → Option (SD × List Pr)
  | [], dN, ks => some (dN, ks)
  | p :: r, dN, ks => if (1000 < ks.length ∨ 1000 < dN.length) then none else
    if max worst p.1 < (getS dN p.2).getD 3 then match heappush ks (max worst p.1, p.2) with
      | none => none
      | some ks' => pushAll worst r (putS dN p.2 (max worst p.1)) ks'
    else pushAll worst r dN ks
def toldL : Nat → SD → SD → List Pr → Option SD
  | 0, _, _, _ => none
  | n + 1, dT, dN, ks => if 1000 < ks.length ∨ 1000 < dT.length then none else match ks with
    | [] => some dT
    | k :: kr => match heappop (k :: kr) with
      | none => none
      | some (p, ks1) => if (getS dT p.2).isSome then toldL n dT dN ks1 else if p.2.length = 4 then
          match pushAll p.1 (lowerTo p.2 3) dN ks1 with
          | none => none
          | some (dN', ks2) => toldL n (putS dT p.2 p.1) dN' ks2
        else none
def toldF (o : Str) : Option SD := toldL 200 [] [(o, 0)] [(0, o)]

def IsD (prog : Program) (w : World) (o : Obj) (D : SD) : Prop := ∃ kvs, o.IsDictOf (strKind prog w) kvs ∧ FlatPairs PyData.str kvs (encD D)

theorem IsD.cls {prog : Program} {w : World} {o : Obj} {D : SD} (h : IsD prog w o D) : o.cls = .type "dict" := by
  obtain ⟨kvs, ⟨es, ep, x, _⟩, _⟩ := h
  exact x.1
section
variable {prog : Program} {w : World} {A : Around} {E : Value → Shared → Prop} {s : Shared} {g : Heap} {L d : Addr} {m : Str → Option Value} {news : List (Addr × Obj)} {o : Obj} {D : SD} {x : Str} {t : Tok}
theorem IsD.tab (N : News g L s.heap news) (hm : (d, o) ∈ news) (lo : (d == sysModules) = false) (i : IsD prog w o D) : StrTab prog w s.heap d (encD D) := by
  obtain ⟨kvs, a, b⟩ := i
  exact TabAt.ofObj lo (N _ hm).1 a b
theorem notin_d {b : Bool} {Q : Value → Shared → Prop} (N : News g L s.heap news) (hm : (d, o) ∈ news) (lo : (d == sysModules) = false) (i : IsD prog w o D) (hb : (getS D x).isSome = b)
    (h : Q (.bool (!b)) { s with toks := s.toks + 1 }) : wpAny (model prog w) A (compareOp .NotIn (.str x t) (.ref d)) Q E s := by
  refine notin_strTab (i.tab N hm lo) ?_
  rw [encD_lookup, Option.isSome_map, hb]
  exact h
theorem meth_d {pl : Sem Bool} {Q : Value × List Value → Shared → Prop} (N : News g L s.heap news) (hm : (d, o) ∈ news) (lo : (d == sysModules) = false) (i : IsD prog w o D) (h : Q (.builtin "dict.get", [.ref d]) s) :
    wpAny (model prog w) A (getMethod (.ref d) "get" pl) Q E s := getMethod_strTab_get (i.tab N hm lo) h
theorem get_d {z : Int} {u : Tok} {Q : Value → Shared → Prop} (N : News g L s.heap news) (hm : (d, o) ∈ news) (lo : (d == sysModules) = false) (i : IsD prog w o D)
    (h : ∀ t', Q (.int ((getS D x).getD z) t') { s with toks := s.toks + 1 }) : wpAny (model prog w) A (call (.builtin "dict.get") [.ref d, .str x t, .int z u]) Q E s := by
  refine call_get2_strTab (i.tab N hm lo) (Flat.int z u) fun v hv => ?_
  rw [encD_lookup] at hv
  have e : (Option.map PyData.int (getS D x)).getD (.int z) = .int ((getS D x).getD z) := by cases getS D x <;> rfl
  rw [e] at hv
  have r := hv {}
  cases r
  exact h _
theorem set_d {v : Int} {u : Tok} {Q : Unit → Shared → Prop} {gg : Obj → List (Addr × Obj)} (F : Fr g L s.heap m) (N : News g L s.heap news) (U : UpdF d o news gg) (i : IsD prog w o D) (hlen : D.length ≤ 1000)
    (h : ∀ h' o', Fr g L h' m → News g L h' (gg o') → IsD prog w o' (putS D x v) → Q () { s with heap := h', toks := s.toks + 1 }) :
    wpAny (model prog w) A (setItem (.ref d) (.str x t) (.int v u)) Q E s := by
  obtain ⟨kvs, a, b⟩ := i
  refine setItem_K same_str (strKind_is prog w x t) (Flat.int v u) F N U a b (fun h' o' F' N' a' b' => h h' o' F' N' ⟨_, a', ?_⟩) ?_
  · rw [← encD_put]; exact b'
  · rw [show (encD D).length = D.length from List.length_map ..]
    exact Nat.le_trans hlen (by rw [sizeLine]; decide)
end
theorem KB.news {a : Addr} {g h h' : Heap} {L : Addr} {o o' : Obj} {news news' : List (Addr × Obj)} (k : KB [a] h h') (N : News g L h news) (U : Upd a o o' news news') (ha : h'.get? a = some o') : News g L h' news' := by
  obtain ⟨pre, post, rfl, rfl, x, y⟩ := U.split
  intro p hp
  rcases List.mem_append.mp hp with q | q
  · have z := N p (List.mem_append_left _ q)
    exact ⟨k _ _ z.1 (fun m => x p q (List.mem_singleton.mp m)), z.2⟩
  · rcases List.mem_cons.mp q with rfl | q
    · have z := N (a, o) (List.mem_append_right _ (.head _))
      exact ⟨ha, z.2⟩
    · have z := N p (List.mem_append_right _ (.tail _ q))
      exact ⟨k _ _ z.1 (fun m => y p q (List.mem_singleton.mp m)), z.2⟩
theorem told_push {g h h' : Heap} {L D It td nd hp lw : Addr} {tO oI oT oN oL : Obj} {vs vs' : List Value} {nn n' : Nat} {tps : List (Addr × Obj)} (N : News g L h ((D, tO) :: (It, oI) :: (td, oT) :: (nd, oN) :: (hp, listOf vs.toArray nn) :: (lw, oL) :: tps)) (kb : KB [hp] h h') (ha : h'.get? hp = some (listOf vs'.toArray n'))
    (hD : tO.cls = .type "tuple") (hI : oI.cls = .type "list_iterator") (cT : oT.cls = .type "dict") (cN : oN.cls = .type "dict") (hlw : lw ≠ hp) (htp : ∀ q ∈ tps, q.2.cls = .type "tuple") :
    News g L h' ((It, oI) :: (td, oT) :: (nd, oN) :: (hp, listOf vs'.toArray n') :: (lw, oL) :: (D, tO) :: tps) := by
  have mh : (hp, listOf vs.toArray nn) ∈ (D, tO) :: (It, oI) :: (td, oT) :: (nd, oN) :: (hp, listOf vs.toArray nn) :: (lw, oL) :: tps := .tail _ (.tail _ (.tail _ (.tail _ (.head _))))
  have zh := N _ mh
  have old : ∀ q, q ∈ (D, tO) :: (It, oI) :: (td, oT) :: (nd, oN) :: (hp, listOf vs.toArray nn) :: (lw, oL) :: tps → q.1 ≠ hp → h'.get? q.1 = some q.2 ∧ q.1 ≠ L ∧ g.get? q.1 = none := fun q hq hne =>
    ⟨kb _ _ (N q hq).1 (fun m => hne (List.mem_singleton.mp m)), (N q hq).2⟩
  have byc : ∀ q, q ∈ (D, tO) :: (It, oI) :: (td, oT) :: (nd, oN) :: (hp, listOf vs.toArray nn) :: (lw, oL) :: tps → q.2.cls ≠ .type "list" → h'.get? q.1 = some q.2 ∧ q.1 ≠ L ∧ g.get? q.1 = none := fun q hq hc =>
    old q hq (News.apart N hq mh hc)
  intro q hq
  rcases List.mem_cons.mp hq with rfl | hq
  · exact byc _ (.tail _ (.head _)) (by rw [hI]; simp)
  rcases List.mem_cons.mp hq with rfl | hq
  · exact byc _ (.tail _ (.tail _ (.head _))) (by rw [cT]; simp)
  rcases List.mem_cons.mp hq with rfl | hq
  · exact byc _ (.tail _ (.tail _ (.tail _ (.head _)))) (by rw [cN]; simp)
  rcases List.mem_cons.mp hq with rfl | hq
  · exact ⟨ha, zh.2⟩
  rcases List.mem_cons.mp hq with rfl | hq
  · exact old _ (.tail _ (.tail _ (.tail _ (.tail _ (.tail _ (.head _)))))) hlw
  rcases List.mem_cons.mp hq with rfl | hq
  · exact byc _ (.head _) (by rw [hD]; simp)
  · exact byc _ (.tail _ (.tail _ (.tail _ (.tail _ (.tail _ (.tail _ hq)))))) (by rw [htp q hq]; simp)
theorem perm4 {g h : Heap} {L : Addr} {a b c d : Addr × Obj} (N : News g L h [a, b, c, d]) : News g L h (d :: c :: a :: [b]) := fun p hp => N p (by
  simp only [List.mem_cons, List.not_mem_nil, or_false] at hp ⊢
  rcases hp with h | h | h | h <;> simp [h])
theorem HN.of_sub {g h : Heap} {L : Addr} {tups : List (Addr × Obj)} (N : News g L h tups) {vs : List Value} {ks : List Pr} (x : HN tups vs ks) {vs' : List Value} {ks' : List Pr} (y : HR h vs' ks') (hs : ∀ v ∈ vs', v ∈ vs) : HN tups vs' ks' := by
  have mem : ∀ {vs : List Value} {ks : List Pr}, HN tups vs ks → ∀ v ∈ vs, ∃ p, IsPrN tups v p := by
    intro vs ks x
    induction x with
    | nil => intro v hv; cases hv
    | cons x _ ih =>
      intro v hv
      rcases List.mem_cons.mp hv with rfl | hv
      · exact ⟨_, x⟩
      · exact ih v hv
  induction y with
  | nil => exact .nil
  | @cons v p vs' ks' hv _ ih =>
    refine .cons ?_ (ih fun v hv => hs v (.tail _ hv))
    obtain ⟨q, a, o, t, u, n, e, ho, hc, hd⟩ := mem x v (hs v (.head _))
    obtain ⟨a', o', t', u', n', e', ho', hc', hd'⟩ := hv
    have ea : a = a' := by rw [e] at e'; injection e'
    subst ea
    have eo : o = o' := Option.some.inj ((N _ ho).1.symm.trans ho')
    subst eo
    exact ⟨a, o, t', u', n', e, ho, hc, hd'⟩

local macro_rules | `(tactic| walk_at "call builtin:len") => `(tactic| (k_here; (with_reducible show wpAny _ _ (call (Value.builtin "len") [Value.ref _]) _ _ _); k_dflt (refine' len_l ?k1 ?k2 ?k3 ?_; (case k1 => k_asm); (case k2 => k_mem); (case k3 => with_reducible assumption); k_whole)))
local macro_rules | `(tactic| walk_at "truthy ref") => `(tactic| (k_here; k_dflt (first | (refine' truth_c ?k1 ?k2 ?k3 ?_; (case k1 => k_asm); (case k2 => k_mem); (case k3 => with_reducible assumption); k_whole) | (refine' truth_n ?k1 ?k2 ?_; (case k1 => k_asm); (case k2 => k_mem); k_whole))))
theorem max_m {prog : Program} {w : World} {A : Around} {E : Value → Shared → Prop} {s : Shared} {g : Heap} {L : Addr} {m : Str → Option Value} {news : List (Addr × Obj)} {a b : Int} {t u : Tok} {Q : Value → Shared → Prop} (F : Fr g L s.heap m) (N : News g L s.heap news) (hh : A.handled = none)
    (h : ∀ h' tk t', Fr g L h' m → News g L h' news → Q (.int (max a b) t') { s with heap := h', toks := tk }) : wpAny (model prog w) A (call (.builtin "max") [.int a t, .int b u]) Q E s := by
  refine max_two_ints hh fun h' tk k => ?_
  by_cases hc : b > a
  · rw [if_pos hc, show b = max a b by omega]
    exact h h' tk u (keep_fr F k) (keep_news N k)
  · rw [if_neg hc, show a = max a b by omega]
    exact h h' tk t (keep_fr F k) (keep_news N k)
local macro_rules | `(tactic| walk_at "call builtin:max") => `(tactic| (k_here; k_dflt (refine' max_m ?k1 ?k2 ?k3 ?_; (case k1 => k_asm); (case k2 => k_asm); (case k3 => assumption); k_whole); intro h' tk' t' F' N'; (try k_sweep)))
local macro_rules | `(tactic| walk_at "compareOp NotIn") => `(tactic| (k_here; k_dflt (refine' notin_d ?k1 ?k2 ?k3 ?k4 ?k5 ?_; (case k1 => k_asm); (case k2 => k_mem); (case k3 => assumption); (case k4 => assumption); (case k5 => assumption); k_whole)))
local macro_rules | `(tactic| walk_at "getMethod ref") => `(tactic| (k_here; (with_reducible show wpAny _ _ (getMethod (Value.ref _) (PySem.Str.ofString "get") _) _ _ _); k_dflt (refine' meth_d ?k1 ?k2 ?k3 ?k4 ?_; (case k1 => k_asm); (case k2 => k_mem); (case k3 => assumption); (case k4 => assumption); k_whole)))
local macro_rules | `(tactic| walk_at "call builtin:dict.get") => `(tactic| (k_here; k_dflt (refine' get_d ?k1 ?k2 ?k3 ?k4 ?_; (case k1 => k_asm); (case k2 => k_mem); (case k3 => assumption); (case k4 => assumption); k_whole); intro _))
local macro_rules | `(tactic| walk_at "assign Tuple") => `(tactic| (k_here; (with_reducible show wpAny _ _ (assign (Expr.Tuple _ _ _) _ (Value.ref _)) _ _ _); k_dflt (refine' unpackN_ ?k1 ?k2 ?k3 ?k4 ?k5 ?k6 ?_; (case k1 => k_asm); (case k2 => k_asm); (case k3 => with_reducible assumption); (case k4 => assumption); (case k5 => exact rfl); (case k6 => exact rfl); k_whole); intro h' F' N'; (try k_sweep)))
local macro_rules | `(tactic| walk_at "setItem ref str") => `(tactic| (k_here; refine Halt.out ?_))
local macro_rules | `(tactic| walk_at "exec For Tuple Call cons nil") => `(tactic| (k_here; refine Halt.out ?_))
local macro_rules | `(tactic| walk_at "exec While Name cons nil") => `(tactic| (k_here; refine Halt.out ?_))
local macro_rules | `(tactic| walk_at "call ref") => `(tactic| (k_here; refine Halt.out ?_))
local macro_rules | `(tactic| walk_at "eval Dict cons") => `(tactic| (k_here; k_dflt (refine' kdn_eval (knd := PySem.strKind _ _) ?F ?N ?b ?a ?l ?e ?n ?_; (case F => k_asm); (case N => k_asm); (case b => exact Top.nolimit (by k_asm)); (case a => rfl); (case l => rfl); (case e => exact List.cons_ne_nil _ _); (case n => exact Nat.le_of_ble_eq_true rfl); k_whole); intro d' h' o' F' N' l1 lo' hd'; (try k_lt l1); (try k_sweep)))
theorem told_call {w : World} {loose : List Str} {mean : ExcName → Option Value} {mg mb : Str → Option Value} {A : Around} {s : Shared} {h₀ : Heap} {Q E : Value → Shared → Prop}
    {o : Str} {t : Tok}
    (X : (hd.heap_39 w.params).In h₀) (T : Top hd.view_39 loose mean mg mb h₀) (st : ∀ b o, h₀.get? b = some o → s.heap.get? b = some o)
    (hh : A.handled = none) (hdp : A.depth + 5 < recursionLimit) (hun : A.units + 30 < cLine) {res : SD} (e : toldF o = some res)
    (ret : ∀ td oT h' tk', (∀ b o, s.heap.get? b = some o → h'.get? b = some o) → h'.get? td = some oT → s.heap.get? td = none → (td == sysModules) = false → IsD PySem.Challenge.pw_qu0018_01 w oT res → Q (.ref td) { s with heap := h', toks := tk' }) :
    wpAny (model PySem.Challenge.pw_qu0018_01 w) A (call (.ref 79) [.str o t]) Q E s := by
  refine' enter (binds := [(Str.ofString "start", .str o t)]) [] X T st ?hN ?ho ?hcd (by omega) ?hbind ?hloc ?h ?hco ?hgen ?hk ?hcell
  case hN => intro q hq; cases hq
  case ho => k_is
  case hcd => k_is
  case hbind => exact BindsTo.of_eq rfl
  case hloc => exact locs rfl
  case hco => exact rfl
  case hgen => exact rfl
  case hk => exact rfl
  case hcell => decide
  case h =>
    intro g L' h₁ F' N' X' T' hg hg'
    (try dsimp only)
    (try k_fold)
    k_steps
    refine ⟨?_⟩
    rename Fr _ _ _ _ => F1
    rename News _ _ _ _ => N1
    rename_i td hT oT loT hsT fsT hiT fiT trT hT2 nd h5 oN0 lo hd0 l12 h4 oN hdN hfN h3 D h2 l11 hp h1' l1 hx
    refine While_inv2 (n₀ := 200) (fun n m nx => ∃ oT oN vs nn tups dT dN ks, nx = (td, oT) :: (nd, oN) :: (hp, listOf vs.toArray nn) :: tups ∧ IsD PySem.Challenge.pw_qu0018_01 w oT dT ∧ IsD PySem.Challenge.pw_qu0018_01 w oN dN ∧ HN tups vs ks ∧ (∀ p ∈ tups, p.2.cls = .type "tuple") ∧ toldL n dT dN ks = some res ∧
        m (Str.ofString "told") = some (.ref td) ∧ m (Str.ofString "noted") = some (.ref nd) ∧ m (Str.ofString "heap") = some (.ref hp))
      F1 (perm4 N1) ?J ?turn ?hE
    case hE => passes_own
    case J =>
      refine ⟨oT, oN, [Value.ref D], 0, _, [], [(o, 0)], [(0, o)], rfl, ⟨[], hsT, fsT⟩, ⟨_, hdN, hfN⟩, .cons ⟨D, _, _, _, _, rfl, .head _, rfl, rfl⟩ .nil, ?_, e, rfl, rfl, rfl⟩
      intro p hp
      rcases List.mem_singleton.mp hp with rfl
      rfl
    case turn =>
      clear F1 N1 hsT fsT hiT fiT hd0 hdN hfN oN0 oN oT e
      rintro n m₁ nx h tk F2 N2 ⟨oT, oN, vs, nn, tups, dT, dN, ks, rfl, iT, iN, hn, htc, e, hm1, hm2, hm3⟩
      rw [← kstB_self (m := m₁) (ps := [(Str.ofString "told", .ref td), (Str.ofString "noted", .ref nd), (Str.ofString "heap", .ref hp)]) (by
        intro p hp
        rcases List.mem_cons.mp hp with rfl | hp
        · exact hm1
        · rcases List.mem_cons.mp hp with rfl | hp
          · exact hm2
          · rcases List.mem_singleton.mp hp with rfl
            exact hm3)] at F2
      cases n with
      | zero => cases e
      | succ n =>
      unfold toldL at e
      split at e
      · cases e
      rename_i hsz
      have hl := hn.length
      cases ks with
      | nil =>
        cases hn
        obtain rfl : dT = res := by simpa using e
        (try k_fold)
        k_steps
        rename Fr _ _ _ _ => F4
        rename News _ _ _ _ => N4
        have z := N4 _ (.head _)
        refine ret td oT _ _ (fun b o q => F4.keep b o (hg b o q (fun h => nomatch h))) z.1 ?_ loT iT
        cases q : s.heap.get? td with
        | none => rfl
        | some o' =>
          have := z.2.2
          rw [hg _ _ q (fun h => nomatch h)] at this
          cases this
      | cons k kr =>
      cases hn with
      | @cons v _ vr _ hv hvr =>
      have hfit : (v :: vr).length < 2 ^ 62 := by omega
      dsimp only at e
      cases q : heappop (k :: kr) with
      | none => rw [q] at e; cases e
      | some r =>
      obtain ⟨p, ks1⟩ := r
      rw [q] at e
      dsimp only at e
      have hn : HN tups (v :: vr) (k :: kr) := .cons hv hvr
      have cT := iT.cls
      have cN := iN.cls
      (try k_fold)
      k_steps
      refine ⟨?_⟩
      rename Fr _ _ _ _ => F3
      rename News _ _ _ _ => N3
      have ap : ∀ q ∈ (td, oT) :: (nd, oN) :: tups, q.1 ≠ hp := by
        intro q hq
        refine News.apart N3 (p := q) (q := (hp, listOf (v :: vr).toArray nn)) ?_ (.tail _ (.tail _ (.head _))) ?_
        · rcases List.mem_cons.mp hq with rfl | hq
          · exact .head _
          · rcases List.mem_cons.mp hq with rfl | hq
            · exact .tail _ (.head _)
            · exact .tail _ (.tail _ (.tail _ hq))
        · rcases List.mem_cons.mp hq with rfl | hq
          · rw [cT]; simp
          · rcases List.mem_cons.mp hq with rfl | hq
            · rw [cN]; simp
            · rw [htc q hq]; simp
      have zh := N3 (hp, listOf (v :: vr).toArray nn) (.tail _ (.tail _ (.head _)))
      refine heappop_call X' T' F3.keep zh.1 zh.2.2 (HN.toHR (fun p hp => N3 p (.tail _ (.tail _ (.tail _ hp)))) hn) (by rw [depth_deeper]; omega) (by rw [units_deeper]; omega) (by rw [sizeLine]; omega) q ?_
      intro v8 h8 tk8 vs8 n8 kb8 ha8 hr8 hv8 hs8
      have F8 : Fr g L' h8 _ := kb8.fr F3 (fun m => zh.2.1 (List.mem_singleton.mp m).symm) (fun b hb => by rw [List.mem_singleton.mp hb]; exact zh.2.2)
      have N8 : News g L' h8 ((td, oT) :: (nd, oN) :: (hp, listOf vs8.toArray n8) :: tups) := kb8.news N3 (.tail (ap _ (.head _)) (.tail (ap _ (.tail _ (.head _))) (.head fun p hp => ap p (.tail _ (.tail _ hp))))) ha8
      have hn8 : HN tups vs8 ks1 := HN.of_sub (fun p hp => N8 p (.tail _ (.tail _ (.tail _ hp)))) hn hr8 hs8
      obtain ⟨a8, o8, ta, tb, nn8, rfl, ho8, hc8, hd8⟩ := hv8
      have hT8 : IsTup h8 a8 #[.int p.1 ta, .str p.2 tb] := ⟨o8, ho8, hc8, nn8, hd8⟩
      clear F3 N3 ap zh kb8 hr8 hs8 hn hv hvr hfit hl ho8
      cases hb : (getS dT p.2).isSome with
      | true =>
        rw [hb, if_pos rfl] at e
        (try k_fold)
        k_steps
        rename Fr _ _ _ _ => F4
        rename News _ _ _ _ => N4
        exact ⟨_, _, _, _, n, rfl, F4, N4, Nat.lt_succ_self _, oT, oN, vs8, n8, tups, dT, dN, ks1, rfl, iT, iN, hn8, htc, e, rfl, rfl, rfl⟩
      | false =>
        rw [hb, if_neg (by simp)] at e
        split at e
        case isFalse => cases e
        rename_i hp4
        cases qp : pushAll p.1 (lowerTo p.2 3) dN ks1 with
        | none => rw [qp] at e; cases e
        | some r =>
        obtain ⟨dN', ks2⟩ := r
        rw [qp] at e
        dsimp only at e
        (try k_fold)
        k_steps
        refine ⟨?_⟩
        rename Fr _ _ _ _ => F4
        rename News _ _ _ _ => N4
        have apt : ∀ q ∈ (nd, oN) :: (hp, listOf vs8.toArray n8) :: tups, q.1 ≠ td := by
          intro q hq
          rcases List.mem_cons.mp hq with rfl | hq
          · exact Nat.ne_of_gt l12
          · refine News.apart N4 (p := q) (q := (td, oT)) (.tail _ (.tail _ hq)) (.head _) ?_
            rcases List.mem_cons.mp hq with rfl | hq
            · rw [cT]; simp
            · rw [htc q hq, cT]; simp
        refine set_d F4 N4 (UpdF.head apt) iT (by omega) ?_
        intro h9 oT9 F9 N9 iT9
        have cT9 := iT9.cls
        clear F4 N4 apt iT hT8
        k_steps
        refine ⟨?_⟩
        refine wpAny_For ?_ (by intro _; rfl)
        (try k_fold)
        k_steps
        refine ⟨?_⟩
        rename Fr _ _ _ _ => F4
        rename News _ _ _ _ => N4
        refine lower_call X' T' F4.keep hh (by rw [depth_deeper]; omega) (by rw [units_deeper]; omega) hp4 ?_
        intro lw vsL nL tupL h10 tk10 k10 hN10 hnL htL
        have F10 := keep_fr F4 k10
        have N10 : News g L' h10 ((td, oT9) :: (nd, oN) :: (hp, listOf vs8.toArray n8) :: (lw, listOf vsL.toArray nL) :: (tupL ++ tups)) := by
          have N5 := keep_news N4 k10
          have fresh : ∀ q ∈ (lw, listOf vsL.toArray nL) :: tupL, h10.get? q.1 = some q.2 ∧ q.1 ≠ L' ∧ g.get? q.1 = none := by
            intro q hq
            obtain ⟨z1, z2⟩ := hN10 q hq
            refine ⟨z1, fun eq => ?_, ?_⟩
            · obtain ⟨oL, _, _, hL, _⟩ := F4.ns
              rw [eq, hL] at z2; cases z2
            · cases zz : g.get? q.1 with
              | none => rfl
              | some ob => rw [F4.keep _ _ zz] at z2; cases z2
          intro q hq
          rcases List.mem_cons.mp hq with rfl | hq
          · exact N5 _ (.head _)
          rcases List.mem_cons.mp hq with rfl | hq
          · exact N5 _ (.tail _ (.head _))
          rcases List.mem_cons.mp hq with rfl | hq
          · exact N5 _ (.tail _ (.tail _ (.head _)))
          rcases List.mem_cons.mp hq with rfl | hq
          · exact fresh _ (.head _)
          rcases List.mem_append.mp hq with hq | hq
          · exact fresh _ (.tail _ hq)
          · exact N5 _ (.tail _ (.tail _ (.tail _ hq)))
        have hlw : lw ≠ hp := fun eq => by
          have z2 := (hN10 _ (.head _)).2
          rw [show ((lw, listOf vsL.toArray nL) : Addr × Obj).1 = hp from eq, (N4 _ (.tail _ (.tail _ (.head _)))).1] at z2
          cases z2
        clear F4 N4 hN10 k10
        refine loop_tup (ks := lowerTo p.2 3) (l := lw) (vs := vsL) (nn := nL) (tups := tupL) (fun i m nx => ∃ oN vs nn tps dN ks, nx = (td, oT9) :: (nd, oN) :: (hp, listOf vs.toArray nn) :: (lw, listOf vsL.toArray nL) :: tps ∧ (∀ q ∈ tupL, q ∈ tps) ∧
            IsD PySem.Challenge.pw_qu0018_01 w oN dN ∧ HN tps vs ks ∧ (∀ q ∈ tps, q.2.cls = .type "tuple") ∧ pushAll p.1 ((lowerTo p.2 3).drop i) dN ks = some (dN', ks2) ∧
            m (Str.ofString "told") = some (.ref td) ∧ m (Str.ofString "noted") = some (.ref nd) ∧ m (Str.ofString "heap") = some (.ref hp) ∧ m (Str.ofString "worst") = some (.int p.1 ta))
          hh rfl rfl rfl F10 N10 hnL ?hl ?ht ?h0 ?step ?done ?hE
        case hl => rintro i m nx ⟨oN, vs, nn, tps, dN, ks, rfl, _⟩; exact .tail _ (.tail _ (.tail _ (.head _)))
        case ht => rintro i m nx ⟨oN, vs, nn, tps, dN, ks, rfl, hs, _⟩ q hq; exact .tail _ (.tail _ (.tail _ (.tail _ (hs q hq))))
        case h0 =>
          refine ⟨oN, vs8, n8, tupL ++ tups, dN, ks1, rfl, fun q hq => List.mem_append_left _ hq, iN, hn8.mono fun q hq => List.mem_append_right _ hq, ?_, qp, rfl, rfl, rfl, rfl⟩
          intro q hq
          rcases List.mem_append.mp hq with hq | hq
          · exact htL q hq
          · exact htc q hq
        case hE => passes_own
        case done =>
          clear F10 N10 iN hn8 qp cN
          rintro m₂ nx h11 tk11 ⟨oN, vs, nn, tps, dN, ks, rfl, hsub, iN, hn, htp, epu, hm1', hm2', hm3', hm4'⟩ F11 N11
          have ed : (lowerTo p.2 3).drop vsL.length = [] := by
            rw [hnL.length, List.drop_length]
          rw [ed] at epu
          obtain ⟨rfl, rfl⟩ : dN = dN' ∧ ks = ks2 := by simpa [pushAll] using epu
          k_steps
          refine ⟨_, _, _, _, n, rfl, F11, ?_, Nat.lt_succ_self _, oT9, oN, vs, nn, tps, _, dN, ks, rfl, iT9, iN, hn, htp, e, hm1', hm2', hm3'⟩
          intro q hq
          rcases List.mem_cons.mp hq with rfl | hq
          · exact N11 _ (.head _)
          rcases List.mem_cons.mp hq with rfl | hq
          · exact N11 _ (.tail _ (.head _))
          rcases List.mem_cons.mp hq with rfl | hq
          · exact N11 _ (.tail _ (.tail _ (.head _)))
          · exact N11 _ (.tail _ (.tail _ (.tail _ (.tail _ hq))))
        case step =>
          clear F10 N10 iN hn8 qp cN
          rintro i k ta' tb' m₂ nx h11 tk11 It oI hk ⟨oN, vs, nn, tps, dN, ks, rfl, hsub, iN, hn, htp, epu, hm1', hm2', hm3', hm4'⟩ hnI hoI F11 N11
          rw [← kstB_self (m := m₂) (ps := [(Str.ofString "told", .ref td), (Str.ofString "noted", .ref nd), (Str.ofString "heap", .ref hp), (Str.ofString "worst", .int p.1 ta)]) (by
            intro q hq
            rcases List.mem_cons.mp hq with rfl | hq
            · exact hm1'
            rcases List.mem_cons.mp hq with rfl | hq
            · exact hm2'
            rcases List.mem_cons.mp hq with rfl | hq
            · exact hm3'
            rcases List.mem_singleton.mp hq with rfl
            exact hm4')] at F11
          have ed : (lowerTo p.2 3).drop i = k :: (lowerTo p.2 3).drop (i + 1) := by
            obtain ⟨hlt, hk'⟩ := List.getElem?_eq_some_iff.mp hk
            rw [List.drop_eq_getElem_cons hlt, hk']
          rw [ed] at epu
          unfold pushAll at epu
          split at epu
          · cases epu
          rename_i hsz2
          by_cases hc : max p.1 k.1 < (getS dN k.2).getD 3
          · rw [if_pos hc] at epu
            cases qh : heappush ks (max p.1 k.1, k.2) with
            | none => rw [qh] at epu; cases epu
            | some ks' =>
            rw [qh] at epu
            dsimp only at epu
            have cN := iN.cls
            have hll := hn.length
            (try k_fold)
            k_steps
            refine ⟨?_⟩
            rename Fr _ _ _ _ => F12
            rename News _ _ _ _ => N12
            have apn : ∀ q ∈ (hp, listOf vs.toArray nn) :: (lw, listOf vsL.toArray nL) :: tps, q.1 ≠ nd := by
              intro q hq
              refine News.apart N12 (p := q) (q := (nd, oN)) (.tail _ (.tail _ (.tail _ hq))) (.tail _ (.tail _ (.head _))) ?_
              rcases List.mem_cons.mp hq with rfl | hq
              · rw [cN]; simp
              rcases List.mem_cons.mp hq with rfl | hq
              · rw [cN]; simp
              · rw [htp q hq, cN]; simp
            refine set_d F12 N12 (UpdF.tail (Ne.symm (hnI _ (.tail _ (.head _)))) (UpdF.tail (Nat.ne_of_lt l12) (UpdF.head apn))) iN (by omega) ?_
            intro h13 oN13 F13 N13 iN13
            have cN13 := iN13.cls
            clear F12 N12 apn iN
            k_steps
            refine ⟨?_⟩
            rename Fr _ _ _ _ => F14
            rename News _ _ _ _ => N14
            have zh := N14 (hp, listOf vs.toArray nn) (.tail _ (.tail _ (.tail _ (.tail _ (.head _)))))
            refine heappush_call (p := (max p.1 k.1, k.2)) X' T' F14.keep zh.1 zh.2.2 (HN.toHR (fun q hq => N14 q (.tail _ (.tail _ (.tail _ (.tail _ (.tail _ (.tail _ hq))))))) hn) ⟨_, _, _, _, _, rfl, (N14 _ (.head _)).1, rfl, rfl⟩ (by rw [depth_deeper]; omega) (by rw [units_deeper]; omega) (by rw [sizeLine]; omega) qh ?_
            intro h15 tk15 vs15 n15 kb15 ha15 hr15 hs15
            have F15 := kb15.fr F14 (fun m => zh.2.1 (List.mem_singleton.mp m).symm) (fun b hb => by rw [List.mem_singleton.mp hb]; exact zh.2.2)
            have N15 := told_push N14 kb15 ha15 rfl hoI cT9 cN13 hlw htp
            have hn15 := HN.of_sub (fun q hq => N15 q (.tail _ (.tail _ (.tail _ (.tail _ (.tail _ hq)))))) (HN.app (p := (max p.1 k.1, k.2)) ⟨_, _, _, _, _, rfl, .head _, rfl, rfl⟩ (hn.mono fun q hq => .tail _ hq)) hr15 hs15
            have hDI := News.apart N14 (.head _) (.tail _ (.head _)) (by rw [hoI]; simp)
            clear F14 N14 zh kb15
            k_steps
            refine tpost F15 N15 ?_ ⟨oN13, vs15, n15, _, _, ks', rfl, fun q hq => .tail _ (hsub q hq), iN13, hn15, ?_, epu, rfl, rfl, rfl, rfl⟩
            · intro q hq
              rcases List.mem_cons.mp hq with rfl | hq
              · exact hnI _ (.head _)
              rcases List.mem_cons.mp hq with rfl | hq
              · exact hnI (nd, oN) (.tail _ (.head _))
              rcases List.mem_cons.mp hq with rfl | hq
              · exact hnI (hp, listOf vs.toArray nn) (.tail _ (.tail _ (.head _)))
              rcases List.mem_cons.mp hq with rfl | hq
              · exact hnI _ (.tail _ (.tail _ (.tail _ (.head _))))
              rcases List.mem_cons.mp hq with rfl | hq
              · exact hDI
              · exact hnI _ (.tail _ (.tail _ (.tail _ (.tail _ hq))))
            · intro q hq
              rcases List.mem_cons.mp hq with rfl | hq
              · rfl
              · exact htp q hq
          · rw [if_neg hc] at epu
            (try k_fold)
            k_steps
            rename Fr _ _ _ _ => F12
            rename News _ _ _ _ => N12
            exact tpost F12 N12 hnI ⟨oN, vs, nn, tps, dN, ks, rfl, hsub, iN, hn, htp, epu, rfl, rfl, rfl, rfl⟩
end Mine

-- D1
namespace Mine
open PySem PySem.Spec PySem.Calls PyProof.Rows PySem.W
example : True := by
  w_top off
  trivial


section
variable {prog : Program} {w : World} {A : Around} {E : Value → Shared → Prop} {s : Shared} {env : Env} {h₀ : Heap} {x : Str} {body : List Stmt} {Q : Flow → Shared → Prop}
/-- over a list of the ledger that stays as it is -/
theorem for_listN {l : Addr} {vs : List Value} {nn : Nat} {m₀ : Str → Option Value} {news : List (Addr × Obj)} (J : Nat → (Str → Option Value) → List (Addr × Obj) → Prop)
    (hh : A.handled = none) (hl : ∀ i m nx, J i m nx → (l, listOf vs.toArray nn) ∈ nx) (F : Fr h₀ env.locals s.heap m₀) (N : News h₀ env.locals s.heap news) (h0 : J 0 m₀ news)
    (turn : ∀ i v m₁ news₁ h tk I oI, vs[i]? = some v → J i m₁ news₁ → (∀ p ∈ news₁, p.1 ≠ I) → oI.cls = .type "list_iterator" → Fr h₀ env.locals h (fun y => if y = x then some v else m₁ y) → News h₀ env.locals h ((I, oI) :: news₁) →
      wpAny (model prog w) A (execs body env) (TPost h₀ env.locals I oI (J (i + 1)) s Q) E { s with heap := h, toks := tk })
    (done : ∀ m₁ news₁ h tk, J vs.length m₁ news₁ → Fr h₀ env.locals h m₁ → News h₀ env.locals h news₁ → Q .next { s with heap := h, toks := tk }) :
    wpAny (model prog w) A (pyIter (.ref l)) (fun it s₂ => LoopAtV prog w A h₀ env x body Q E it s₂) E s := by
  have zl := N _ (hl _ _ _ h0)
  have hls : s.heap.IsList l vs.toArray := PySem.IsL.isList (n := nn) zl.1
  have hls' : l < s.heap.objs.size := Heap.lt_size zl.1
  refine wpAny_pyIter_list hls ?_
  have W := Walks.list (prog := prog) (w := w) hh s.heap.objs.size l (Nat.ne_of_lt hls') vs.toArray
  refine for_walk (s := { s with heap := _ }) (ty := "list_iterator") [(l, listOf vs.toArray nn)] J W (fun i h q => let ⟨o, a, b, _⟩ := q.1; ⟨o, a, b⟩) ?_ (next_is_new F) ?_ (fun i m nx j p hp => by rcases List.mem_singleton.mp hp with rfl; exact hl _ _ _ j) ?_ (F.push _) (fun p hp => ⟨Heap.get?_push_of_some _ (N p hp).1, (N p hp).2⟩) ?_ h0 ?_ ?_
  · intro hm
    rcases List.mem_cons.mp hm with hm | hm
    · exact absurd F.ns.lt (hm ▸ Nat.lt_irrefl _)
    · exact zl.2.1 (List.mem_singleton.mp hm).symm
  · intro b hb hne hb0
    rcases List.mem_cons.mp hb with hb | hb
    · exact absurd hb hne
    · exact ⟨listOf vs.toArray nn, by rw [List.mem_singleton.mp hb]; exact .head _⟩
  · refine ⟨⟨_, Heap.get?_push_size _ rfl, rfl, rfl⟩, ?_⟩
    obtain ⟨o, ho, r⟩ := hls
    exact ⟨o, Heap.get?_push_of_some _ ho, r⟩
  · intro p hp hI
    exact absurd (Heap.lt_size (N p hp).1) (hI ▸ Nat.lt_irrefl _)
  · rintro i v m₁ news₁ h tk oI hi hP hJ hI hc F1 N1
    exact turn i v m₁ news₁ h tk _ oI (by simpa using hP) hJ hI hc F1 N1
  · intro m₁ news₁ h tk hj F1 N1
    exact done m₁ news₁ h tk (by simpa using hj) F1 N1
end

section
open PySem.Builtin.Str PySem.Builtin
def findIn (x y : Str) (i j : Int) : Int := match occurrences x y (fromIndex x.length i) (min (fromIndex x.length j) x.length) 1 with | k :: _ => (k : Int) | [] => -1
theorem gives_find4 (x y : Str) (i j : Int) (t u v z : Tok) : Gives («str.find» ⟨[.str x t, .str y u, .int i v, .int j z], []⟩) (.int (findIn x y i j)) := by
  show Gives (match occurrences x y (fromIndex x.length i) (min (fromIndex x.length j) x.length) 1 with | k :: _ => retInt k | [] => (do rule "str.find.not-found"; retInt (-1))) _
  unfold findIn
  cases occurrences x y (fromIndex x.length i) (min (fromIndex x.length j) x.length) 1 with
  | nil => exact .rule (.of_eq rfl)
  | cons k _ => exact .of_eq rfl
theorem find4 {prog : Program} {w : World} {A : Around} {E : Value → Shared → Prop} {s : Shared} {x y : Str} {i j : Int} {t u v z : Tok} {Q : Value → Shared → Prop} (hq : Q (.int (findIn x y i j) s.toks) { s with toks := s.toks + 1 }) :
    wpAny (model prog w) A (call (.builtin "str.find") [.str x t, .str y u, .int i v, .int j z]) Q E s :=
  call_gives F.slot_str_find (typeIs_str _ _ _) F.entry_str_find (F.args_str_find_4 _ _ _ _) (gives_find4 x y i j t u v z) hq
end
/-- the pieces found one behind the other -/
def ellL (got : Str) (ep : Int) : List Str → Int → Bool
  | [], _ => true
  | w :: r, sp => if findIn got w sp ep < 0 then false else ellL got ep r (findIn got w sp ep + w.length)
def ellF (x y got : Str) : Bool := ellL got got.length [Str.ofString "", x, y, Str.ofString ""] 0

theorem strs_get {vs : List Value} {xs : List Str} (h : StrsAre vs xs) : ∀ {i : Nat} {v : Value}, vs[i]? = some v → ∃ y t, v = .str y t ∧ xs[i]? = some y := by
  induction h with
  | nil => intro i v e; simp at e
  | cons y t _ ih =>
    intro i v e
    cases i with
    | zero => simp at e; subst e; exact ⟨y, t, rfl, rfl⟩
    | succ i => simp at e; simpa using ih e
local macro_rules | `(tactic| walk_at "unpackItems") => `(tactic| (k_here; k_dflt (refine' unpackItemsN_ ?k1 ?k2 ?k3 ?k4 ?k5 ?_; (case k1 => k_asm); (case k2 => k_asm); (case k3 => exact News.isTup (by k_asm) (by k_mem)); (case k4 => assumption); (case k5 => exact rfl); k_whole); intro h' F' N'; (try k_sweep)))
local macro_rules | `(tactic| walk_at "call builtin:str.find") => `(tactic| (k_here; (with_reducible show wpAny _ _ (call (Value.builtin "str.find") [_, _, _, _]) _ _ _); k_dflt (refine find4 ?_)))
local macro_rules | `(tactic| walk_at "exec Assert") => `(tactic| (k_here; refine Halt.out ?_))
local macro_rules | `(tactic| walk_at "assign Tuple") => `(tactic| (k_here; (with_reducible show wpAny _ _ (assign (Expr.Tuple _ _ _) _ (Value.ref _)) _ _ _); k_dflt (refine' unpackN_ ?k1 ?k2 ?k3 ?k4 ?k5 ?k6 ?_; (case k1 => k_asm); (case k2 => k_asm); (case k3 => exact News.isTup (by k_asm) (by k_mem)); (case k4 => assumption); (case k5 => exact rfl); (case k6 => exact rfl); k_whole); intro h' F' N'; (try k_sweep)))
local macro_rules | `(tactic| walk_at "pyIter ref") => `(tactic| (k_here; refine Halt.out ?_))
theorem ell_call {w : World} {loose : List Str} {mean : ExcName → Option Value} {mg mb : Str → Option Value} {A : Around} {s : Shared} {h₀ : Heap} {Q E : Value → Shared → Prop}
    {wnt got : Str} {t u : Tok}
    (X : (hd.heap_39 w.params).In h₀) (T : Top hd.view_39 loose mean mg mb h₀) (st : ∀ b o, h₀.get? b = some o → s.heap.get? b = some o)
    (hh : A.handled = none) (hdp : A.depth + 3 < recursionLimit) (hun : A.units + 14 < cLine) (hg4 : got.length = 4) (hw : wnt.length = 11) {x y : Str} (hx1 : x.length ≤ 100) (hy1 : y.length ≤ 100) (ho : (Builtin.Str.occurrences wnt (Str.ofString "...") 0 wnt.length 1).isEmpty = false) (hsp : Txt.split wnt (Str.ofString "...") = [Str.ofString "", x, y, Str.ofString ""])
    (ret : ∀ h' tk', (∀ b o, s.heap.get? b = some o → h'.get? b = some o) → Q (.bool (ellF x y got)) { s with heap := h', toks := tk' }) :
    wpAny (model PySem.Challenge.pw_qu0018_01 w) A (call (.ref 58) [.str wnt t, .str got u]) Q E s := by
  refine' enter (binds := [(Str.ofString "want", .str wnt t), (Str.ofString "got", .str got u)]) [] X T st ?hN ?ho ?hcd (by omega) ?hbind ?hloc ?h ?hco ?hgen ?hk ?hcell
  case hN => intro q hq; cases hq
  case ho => k_is
  case hcd => k_is
  case hbind => exact BindsTo.of_eq rfl
  case hloc => exact locs rfl
  case hco => exact rfl
  case hgen => exact rfl
  case hk => exact rfl
  case hcell => decide
  case h =>
    intro g L' h₁ F' N' X' T' hg hg'
    (try dsimp only)
    (try k_fold)
    k_steps
    refine ⟨?_⟩
    rename List.map _ _ = Txt.split _ _ => hlk
    rw [hsp] at hlk
    rename Fr _ _ _ _ => F1
    rename News _ _ _ _ => N1
    rename_i l h2 k2 sa sb sc h3
    dsimp only at F1 N1 ⊢
    clear sc sa sb
    generalize h₁.objs.size = lw at F1 N1
    obtain ⟨t1, t2, t3, t4, rfl⟩ : ∃ t1 t2 t3 t4, l = [(Str.ofString "", t1), (x, t2), (y, t3), (Str.ofString "", t4)] := by
      match l, hlk with
      | [(_, t1), (_, t2), (_, t3), (_, t4)], e =>
        simp only [List.map_cons, List.map_nil, List.cons.injEq, and_true] at e
        obtain ⟨rfl, rfl, rfl, rfl⟩ := e
        exact ⟨t1, t2, t3, t4, rfl⟩
    have N2 : News g L' h3 [(lw, listOf [Value.str (Str.ofString "") t1, Value.str x t2, Value.str y t3, Value.str (Str.ofString "") t4].toArray 0)] := N1
    clear N1
    refine wpAny_Assert_holds ?_
    k_steps
    refine ⟨?_⟩
    rename Fr _ _ _ _ => F3
    rename News _ _ _ _ => N3
    have N4 : News g L' _ [(lw, listOf [Value.str (Str.ofString "") t1, Value.str x t2, Value.str y t3, Value.str (Str.ofString "") t4].toArray 0)] := fun p hp => N3 p (.tail _ hp)
    have sa : StrsAre [Value.str (Str.ofString "") t1, Value.str x t2, Value.str y t3, Value.str (Str.ofString "") t4] [Str.ofString "", x, y, Str.ofString ""] := .cons _ _ (.cons _ _ (.cons _ _ (.cons _ _ .nil)))
    refine for_listN (fun i m nx => nx = [(lw, listOf [Value.str (Str.ofString "") t1, Value.str x t2, Value.str y t3, Value.str (Str.ofString "") t4].toArray 0)] ∧ ∃ sp ts te, m (Str.ofString "startpos") = some (.int sp ts) ∧ m (Str.ofString "endpos") = some (.int got.length te) ∧ m (Str.ofString "got") = some (.str got u) ∧
        ellL got got.length ([Str.ofString "", x, y, Str.ofString ""].drop i) sp = ellF x y got) hh (fun i m nx j => by rw [j.1]; exact .head _) F3 N4 ⟨rfl, 0, _, _, rfl, rfl, rfl, rfl⟩ ?turn ?done
    case done =>
      rintro m₂ nx h5 tk5 ⟨rfl, sp, ts, te, hm1, hm2, hm3, hel⟩ F4 N5
      have hr : ellF x y got = true := hel.symm
      k_steps
      rw [← hr]
      exact ret _ _ fun b o q => F4.keep b o (hg b o q (fun h => nomatch h))
    case turn =>
      rintro i v m₂ nx h5 tk5 I oI hi ⟨rfl, sp, ts, te, hm1, hm2, hm3, hel⟩ hnI hoI F4 N5
      obtain ⟨wi, ti, rfl, hwi⟩ := strs_get sa hi
      have hwl : wi.length ≤ 100 := by
        have := List.mem_of_getElem? hwi
        simp only [List.mem_cons, List.not_mem_nil, or_false] at this
        rcases this with h | h | h | h
        · rw [h]; decide
        · rw [h]; exact hx1
        · rw [h]; exact hy1
        · rw [h]; decide
      have ed : [Str.ofString "", x, y, Str.ofString ""].drop i = wi :: [Str.ofString "", x, y, Str.ofString ""].drop (i + 1) := by
        obtain ⟨hlt, hk'⟩ := List.getElem?_eq_some_iff.mp hwi
        rw [List.drop_eq_getElem_cons hlt, hk']
      rw [ed] at hel
      unfold ellL at hel
      rw [← kstB_self (m := m₂) (ps := [(Str.ofString "startpos", .int sp ts), (Str.ofString "endpos", .int got.length te), (Str.ofString "got", .str got u)]) (by
        intro p hp
        rcases List.mem_cons.mp hp with rfl | hp
        · exact hm1
        rcases List.mem_cons.mp hp with rfl | hp
        · exact hm2
        rcases List.mem_singleton.mp hp with rfl
        exact hm3)] at F4
      clear F3 N3 N4
      by_cases hc : findIn got wi sp got.length < 0
      · rw [if_pos hc] at hel
        (try k_fold)
        k_steps
        rename Fr _ _ _ _ => F6
        dsimp only
        rw [hel]
        exact ret _ _ fun b o q => F6.keep b o (hg b o q (fun h => nomatch h))
      · rw [if_neg hc] at hel
        (try k_fold)
        k_steps
        rename Fr _ _ _ _ => F6
        rename News _ _ _ _ => N6
        exact tpost F6 N6 hnI ⟨rfl, _, _, _, rfl, rfl, rfl, hel⟩
end Mine

-- D2
namespace Mine
open PySem PySem.Spec PySem.Calls PyProof.Rows PySem.W
example : True := by
  w_top off
  trivial

/-- a text of three dots, x, three dots, y, three dots -/
structure Pat (p : Str) (x y : Str) : Prop where
  len : p.length = 11
  x1 : x.length ≤ 100
  y1 : y.length ≤ 100
  occ : (Builtin.Str.occurrences p (Str.ofString "...") 0 p.length 1).isEmpty = false
  spl : Txt.split p (Str.ofString "...") = [Str.ofString "", x, y, Str.ofString ""]
def keepsF (ps : List (Str × Str)) (got : Str) : Bool := ps.all fun p => ellF p.1 p.2 got
inductive Pats : List Value → List (Str × Str) → Prop
  | nil : Pats [] []
  | cons {p x y : Str} {t : Tok} {vs : List Value} {ps : List (Str × Str)} : Pat p x y → Pats vs ps → Pats (.str p t :: vs) ((x, y) :: ps)
theorem Pats.get {vs : List Value} {ps : List (Str × Str)} (h : Pats vs ps) : ∀ {i : Nat} {v : Value}, vs[i]? = some v → ∃ p x y t, v = .str p t ∧ Pat p x y ∧ ps[i]? = some (x, y) := by
  induction h with
  | nil => intro i v e; simp at e
  | @cons p x y t _ _ hp _ ih =>
    intro i v e
    cases i with
    | zero => simp at e; subst e; exact ⟨p, x, y, t, rfl, hp, rfl⟩
    | succ i => simp at e; simpa using ih e
theorem Pats.length {vs : List Value} {ps : List (Str × Str)} (h : Pats vs ps) : vs.length = ps.length := by
  induction h with
  | nil => rfl
  | cons _ _ ih => rw [List.length_cons, List.length_cons, ih]

local macro_rules | `(tactic| walk_at "pyIter ref") => `(tactic| (k_here; refine Halt.out ?_))
local macro_rules | `(tactic| walk_at "exec For Name Name cons nil") => `(tactic| (k_here; (rename Fr _ _ _ _ => lF'); (with_unfolding_all refine' For_invVF lF' ?k1 ?k2 ?_; (case k1 => exact rfl); (case k2 => exact rfl); k_whole)))
local macro_rules | `(tactic| walk_at "call ref") => `(tactic| (k_here; refine Halt.out ?_))
theorem keeps_call {w : World} {loose : List Str} {mean : ExcName → Option Value} {mg mb : Str → Option Value} {A : Around} {s : Shared} {h₀ : Heap} {Q E : Value → Shared → Prop}
    {l : Addr} {vs : List Value} {ps : List (Str × Str)} {got : Str} {u : Tok}
    (X : (hd.heap_39 w.params).In h₀) (T : Top hd.view_39 loose mean mg mb h₀) (st : ∀ b o, h₀.get? b = some o → s.heap.get? b = some o)
    (hh : A.handled = none) (hdp : A.depth + 5 < recursionLimit) (hun : A.units + 24 < cLine) (hg4 : got.length = 4) (hl : s.heap.IsList l vs.toArray) (hps : Pats vs ps)
    (ret : ∀ h' tk', (∀ b o, s.heap.get? b = some o → h'.get? b = some o) → Q (.bool (keepsF ps got)) { s with heap := h', toks := tk' }) :
    wpAny (model PySem.Challenge.pw_qu0018_01 w) A (call (.ref 86) [.ref l, .str got u]) Q E s := by
  refine' enter (binds := [(Str.ofString "patterns", .ref l), (Str.ofString "order", .str got u)]) [] X T st ?hN ?ho ?hcd (by omega) ?hbind ?hloc ?h ?hco ?hgen ?hk ?hcell
  case hN => intro q hq; cases hq
  case ho => k_is
  case hcd => k_is
  case hbind => exact BindsTo.of_eq rfl
  case hloc => exact locs rfl
  case hco => exact rfl
  case hgen => exact rfl
  case hk => exact rfl
  case hcell => decide
  case h =>
    intro g L' h₁ F' N' X' T' hg hg'
    (try dsimp only)
    have hlg : g.IsList l vs.toArray := hl.at fun o e => hg _ _ e (fun h => nomatch h)
    (try k_fold)
    k_steps
    refine ⟨?_⟩
    rename Fr _ _ _ _ => F1
    rename News _ _ _ _ => N1
    refine for_list (fun i m nx => nx = [] ∧ m (Str.ofString "order") = some (.str got u) ∧ keepsF (ps.drop i) got = keepsF ps got) hh hlg F1 N1 ⟨rfl, rfl, rfl⟩ ?turn ?done
    case done =>
      rintro m₂ nx h5 tk5 ⟨rfl, hm1, hel⟩ F4 N5
      have hr : keepsF ps got = true := by rw [← hel, hps.length, List.drop_length]; rfl
      k_steps
      rw [← hr]
      exact ret _ _ fun b o q => F4.keep b o (hg b o q (fun h => nomatch h))
    case turn =>
      rintro i v m₂ nx h5 tk5 I oI hi ⟨rfl, hm1, hel⟩ hnI hoI F4 N5
      obtain ⟨p, x, y, t, rfl, hp, hpi⟩ := hps.get hi
      have ed : ps.drop i = (x, y) :: ps.drop (i + 1) := by
        obtain ⟨hlt, hk'⟩ := List.getElem?_eq_some_iff.mp hpi
        rw [List.drop_eq_getElem_cons hlt, hk']
      have hel2 : (ellF x y got && keepsF (ps.drop (i + 1)) got) = keepsF ps got := by rw [← hel, ed]; rfl
      rw [← kstB_self (m := m₂) (ps := [(Str.ofString "order", .str got u)]) (by
        intro p hp
        rcases List.mem_singleton.mp hp with rfl
        exact hm1)] at F4
      clear F1 N1
      (try k_fold)
      k_steps
      refine ⟨?_⟩
      refine ell_call X' T' F4.keep hh (by rw [depth_deeper]; omega) (by rw [units_deeper]; omega) hg4 hp.len hp.x1 hp.y1 hp.occ hp.spl ?_
      intro h6 tk6 k6
      have F6 := keep_fr F4 k6
      have N6 := keep_news N5 k6
      clear F4 N5
      cases hb : ellF x y got with
      | true =>
        rw [hb] at hel2
        k_steps
        rename Fr _ _ _ _ => F7
        rename News _ _ _ _ => N7
        exact tpost F7 N7 (fun _ h => nomatch h) ⟨rfl, rfl, hel2⟩
      | false =>
        rw [hb] at hel2
        have hr : keepsF ps got = false := by rw [← hel2]; rfl
        k_steps
        rename Fr _ _ _ _ => F7
        dsimp only
        rw [← hr]
        exact ret _ _ fun b o q => F7.keep b o (hg b o q (fun h => nomatch h))
end Mine

-- D3
namespace Mine
open PySem PySem.Spec PySem.Calls PyProof.Rows PySem.W
example : True := by
  w_top off
  trivial
local macro_rules | `(tactic| walk_at "no such step") => `(tactic| fail)

def bisL : Nat → List Str → Str → Nat → Nat → Option Nat
  | 0, _, _, _, _ => none
  | n + 1, xs, c, lo, hi => if lo < hi then match xs[(lo + hi) / 2]? with
      | none => none
      | some y => if y.cps.toList < c.cps.toList then bisL n xs c ((lo + hi) / 2 + 1) hi else bisL n xs c lo ((lo + hi) / 2)
    else some lo
theorem strs_at {vs : List Value} {xs : List Str} (h : StrsAre vs xs) : ∀ {i : Nat} {y : Str}, xs[i]? = some y → ∃ t, vs[i]? = some (.str y t) := by
  induction h with
  | nil => intro i y e; simp at e
  | cons y t _ ih =>
    intro i z e
    cases i with
    | zero => simp at e; subst e; exact ⟨t, rfl⟩
    | succ i => simp at e; simpa using ih e

theorem it_base {prog : Program} {w : World} {A : Around} {E : Value → Shared → Prop} {s : Shared} {g : Heap} {L D : Addr} {m : Str → Option Value} {vs : List Value} {k : Int} {u : Tok} {v : Value} {value slice : Expr} {Q : Value → Shared → Prop} (F : Fr g L s.heap m) (hl : g.IsList D vs.toArray) (hx : vs[k.toNat]? = some v) (h0 : 0 ≤ k) (hhi : k < 2 ^ 63) (h : Q v s)
    (hs : subscripted slice false (.ref D) (.int k u) = operate [.ref D, .int k u] (getItem (.ref D) (.int k u)) := by with_unfolding_all rfl) :
    wpAny (model prog w) A (subscriptTail value slice (.ref D) (.int k u)) Q E s :=
  have hL : s.heap.IsList D vs.toArray := hl.at fun o e => F.keep _ _ e
  tail_any hL.typeIs slot_list_getitem.lookup (wpAny_getItem_list hL h0 hhi (by simpa using hx) h) hs
theorem len_b {prog : Program} {w : World} {A : Around} {E : Value → Shared → Prop} {s : Shared} {g : Heap} {L D : Addr} {m : Str → Option Value} {vs : List Value} {Q : Value → Shared → Prop} (F : Fr g L s.heap m) (hl : g.IsList D vs.toArray) (hfit : vs.length < 2 ^ 62)
    (h : Q (.int vs.length (s.toks + 1)) { s with toks := s.toks + 1 + 1 }) : wpAny (model prog w) A (call (.builtin "len") [.ref D]) Q E s := by
  have e : (List.toArray vs).size = vs.length := List.size_toArray
  exact call_len_list (hl.at fun o e => F.keep _ _ e) (by rw [e]; omega) (by rw [e]; exact h)

local macro_rules | `(tactic| walk_at "subscriptTail") => `(tactic| (k_here; (with_reducible show wpAny _ _ (subscriptTail _ _ (Value.ref _) (Value.int _ _)) _ _ _); k_dflt (refine' it_base ?k1 ?k2 ?k3 ?k4 ?k5 ?_ ?k6; (case k1 => k_asm); (case k2 => with_reducible assumption); (case k3 => with_reducible assumption); (case k4 => first | with_reducible assumption | omega); (case k5 => first | with_reducible assumption | omega); (case k6 => with_unfolding_all rfl); k_whole)))
local macro_rules | `(tactic| walk_at "call builtin:len") => `(tactic| (k_here; (with_reducible show wpAny _ _ (call (Value.builtin "len") [Value.ref _]) _ _ _); k_dflt (refine' len_b ?k1 ?k2 ?k3 ?_; (case k1 => k_asm); (case k2 => with_reducible assumption); (case k3 => with_reducible assumption); k_whole)))
local macro_rules | `(tactic| walk_at "exec While Compare cons nil") => `(tactic| (k_here; refine Halt.out ?_))
local macro_rules | `(tactic| ksw_same) => `(tactic| (intro z h2 h3; (simp only [List.forall_mem_cons, List.not_mem_nil, false_implies, implies_true, and_true, ne_eq] at h2); (simp only [List.contains_cons, List.contains_nil, Bool.or_false, Bool.or_eq_false_iff, beq_eq_false_iff_ne, ne_eq] at h3); (simp [kstB, h2, h3]; done)))

theorem bis_call {w : World} {loose : List Str} {mean : ExcName → Option Value} {mg mb : Str → Option Value} {A : Around} {s : Shared} {h₀ : Heap} {Q E : Value → Shared → Prop}
    {l : Addr} {vs : List Value} {xs : List Str} {c : Str} {t : Tok} {r : Nat}
    (X : (hd.heap_39 w.params).In h₀) (T : Top hd.view_39 loose mean mg mb h₀) (st : ∀ b o, h₀.get? b = some o → s.heap.get? b = some o)
    (hdp : A.depth + 2 < recursionLimit) (hl : s.heap.IsList l vs.toArray) (hs : StrsAre vs xs) (hlen : vs.length < 1000) (e : bisL 10 xs c 0 vs.length = some r)
    (ret : ∀ h' tk' t', (∀ b o, s.heap.get? b = some o → h'.get? b = some o) → Q (.int r t') { s with heap := h', toks := tk' }) :
    wpAny (model PySem.Challenge.pw_qu0018_01 w) A (call (.ref 51) [.ref l, .str c t]) Q E s := by
  refine' enter (binds := [(Str.ofString "a", .ref l), (Str.ofString "x", .str c t), (Str.ofString "lo", .int 0 233), (Str.ofString "hi", .none), (Str.ofString "key", .none)]) [] X T st ?hN ?ho ?hcd (by omega) ?hbind ?hloc ?h ?hco ?hgen ?hk ?hcell
  case hN => intro q hq; cases hq
  case ho => k_is
  case hcd => k_is
  case hbind => exact kp_binds (K := hd.heap_39 w.params) (fun b o e => st b o (X b o e)) (fun _ => rfl)
  case hloc => exact locs rfl
  case hco => exact rfl
  case hgen => exact rfl
  case hk => exact rfl
  case hcell => decide
  case h =>
    intro g L' h₁ F' N' X' T' hg hg'
    (try dsimp only)
    have hlg : g.IsList l vs.toArray := hl.at fun o e => hg _ _ e (fun h => nomatch h)
    have hfit : vs.length < 2 ^ 62 := by omega
    have hxl := strs_len hs
    (try k_fold)
    k_steps
    refine ⟨?_⟩
    rename Fr _ _ _ _ => F1
    rename News _ _ _ _ => N1
    refine' ksw_while (σ := Nat × Tok × Nat × Tok × Nat) (fun c => []) (fun c => [(Str.ofString "lo", .int c.1 c.2.1), (Str.ofString "hi", .int c.2.2.1 c.2.2.2.1)]) (fun _ => True) [Str.ofString "mid"]
      (fun d => bisL d.2.2.2.2 xs c d.1 d.2.2.1 = some r ∧ d.2.2.1 ≤ vs.length ∧ d.1 ≤ vs.length) (fun d => d.2.2.2.2) (0, 233, vs.length, ?tokh, 10) F1 N1 trivial ?hk ⟨e, Nat.le_refl _, Nat.zero_le _⟩ ?turn ?hE
    case hk =>
      intro q hq
      rcases List.mem_cons.mp hq with rfl | hq
      · rfl
      · rcases List.mem_singleton.mp hq with rfl
        rfl
    case hE => passes_own
    case turn =>
      rintro ⟨lo, tl, hi, th, fc⟩ u h tk _ ⟨esc, hhi, hlo⟩ F2 N2
      dsimp only at esc hhi hlo N2 F2 ⊢
      clear F1 N1
      cases fc with
      | zero => cases esc
      | succ fc =>
      unfold bisL at esc
      by_cases hz : lo < hi
      · rw [if_pos hz] at esc
        cases q : xs[(lo + hi) / 2]? with
        | none => rw [q] at esc; cases esc
        | some y =>
        rw [q] at esc
        dsimp only at esc
        obtain ⟨ty, hy⟩ := strs_at hs q
        have hidx : ((lo : Int) + (hi : Int)).fdiv 2 = (((lo + hi) / 2 : Nat) : Int) := by
          rw [Int.fdiv_eq_ediv_of_nonneg _ (by decide)]
          omega
        have hx2 : vs[(((lo : Int) + (hi : Int)).fdiv 2).toNat]? = some (.str y ty) := by rw [hidx]; exact hy
        have hl2 : 0 ≤ ((lo : Int) + (hi : Int)).fdiv 2 := by rw [hidx]; omega
        have hh2 : ((lo : Int) + (hi : Int)).fdiv 2 < 2 ^ 63 := by rw [hidx]; omega
        have hgd : xs.getD (((lo : Int) + (hi : Int)).fdiv 2).toNat Str.empty = y := by
          rw [hidx, List.getD_eq_getElem?_getD, Int.toNat_natCast, q]; rfl
        (try k_fold)
        k_steps
        case _ =>
          rename Fr _ _ _ _ => F9
          rename News _ _ _ _ => N9
          have hcm : (xs.getD (((lo : Int) + (hi : Int)).fdiv 2).toNat Str.empty).cps.toList < c.cps.toList := by assumption
          rw [hgd] at hcm
          rw [if_pos hcm] at esc
          refine' ksw_end ((lo + hi) / 2 + 1, ?tokA, hi, th, fc) F9 N9 (fun _ hp => nomatch hp) trivial ?hk ?hs ⟨esc, hhi, ?h2⟩ (Nat.lt_succ_self _)
          case h2 => dsimp only; omega
          case hk =>
            have hc : (((lo + hi) / 2 + 1 : Nat) : Int) = ((lo : Int) + (hi : Int)).fdiv 2 + 1 := by rw [hidx]; omega
            intro q hq
            rcases List.mem_cons.mp hq with rfl | hq
            · dsimp only
              rw [hc]
              rfl
            · rcases List.mem_singleton.mp hq with rfl
              rfl
          case hs => ksw_same
        case _ =>
          rename Fr _ _ _ _ => F9
          rename News _ _ _ _ => N9
          have hcm : ¬ (xs.getD (((lo : Int) + (hi : Int)).fdiv 2).toNat Str.empty).cps.toList < c.cps.toList := by assumption
          rw [hgd] at hcm
          rw [if_neg hcm] at esc
          refine' ksw_end (lo, tl, (lo + hi) / 2, ?tokB, fc) F9 N9 (fun _ hp => nomatch hp) trivial ?hk ?hs ⟨esc, ?h2, hlo⟩ (Nat.lt_succ_self _)
          case h2 => dsimp only; omega
          case hk =>
            intro q hq
            rcases List.mem_cons.mp hq with rfl | hq
            · rfl
            · rcases List.mem_singleton.mp hq with rfl
              dsimp only
              rw [← hidx]
              rfl
          case hs => ksw_same
      · rw [if_neg hz] at esc
        obtain rfl : lo = r := by simpa using esc
        (try k_fold)
        k_steps
        rename Fr _ _ _ _ => F9
        exact ret _ _ _ fun b o q => F9.keep b o (hg b o q (fun h => nomatch h))
end Mine

-- D4
namespace Mine
open PySem PySem.Spec PySem.Calls PyProof.Rows PySem.W
example : True := by
  w_top off
  trivial
theorem bisL_le (xs : List Str) (c : Str) (k : Nat) : ∀ n lo hi, lo ≤ hi → bisL n xs c lo hi = some k → k ≤ hi
  | 0, _, _, _, e => by cases e
  | n + 1, lo, hi, h, e => by
    unfold bisL at e
    split at e
    · rename_i hlt
      cases q : xs[(lo + hi) / 2]? with
      | none => rw [q] at e; cases e
      | some y =>
        rw [q] at e
        dsimp only at e
        split at e
        · exact bisL_le xs c k n _ _ (by omega) e
        · exact Nat.le_trans (bisL_le xs c k n _ _ (by omega) e) (by omega)
    · obtain rfl : lo = k := by simpa using e
      exact h
def revF (o : Str) : Str := Txt.sliceBy o (some (2, 0)) none (-1, 0)
def withinL (bs : List Int) : List Nat → List Str → Option Bool
  | [], _ => some true
  | c :: r, seen => match bisL 10 seen ⟨#[c]⟩ 0 seen.length with
    | none => none
    | some k => if 0 ≤ Txt.find (Str.ofString "abcd") ⟨#[c]⟩ ∧ Txt.find (Str.ofString "abcd") ⟨#[c]⟩ < bs.length then
        if bs.getD (Txt.find (Str.ofString "abcd") ⟨#[c]⟩).toNat 0 < (k : Int) then some false else withinL bs r (insS seen k ⟨#[c]⟩)
      else none
def withinF (o : Str) (bs : List Int) : Option Bool := withinL bs (revF o).cps.toList [Txt.item o 3]
theorem index_f {prog : Program} {w : World} {A : Around} {E : Value → Shared → Prop} {s : Shared} {x y : Str} {t u : Tok} {Q : Value → Shared → Prop} (hA : A.handled = none) (h0 : 0 ≤ Txt.find x y) (hq : Q (.int (Txt.find x y) s.toks) { s with toks := s.toks + 1 }) :
    wpAny (model prog w) A (call (.builtin "str.index") [.str x t, .str y u]) Q E s :=
  index_or hA (fun e => absurd e (by omega)) fun _ _ => hq
local macro_rules | `(tactic| walk_at "call builtin:str.index") => `(tactic| (k_here; k_dflt (refine' index_f ?k1 ?k2 ?_; (case k1 => assumption); (case k2 => with_reducible assumption); k_whole)))
local macro_rules | `(tactic| walk_at "call builtin:list.insert") => `(tactic| (k_here; refine Halt.out ?_))
local macro_rules | `(tactic| walk_at "pyIter str") => `(tactic| (k_here; refine Halt.out ?_))
local macro_rules | `(tactic| walk_at "call ref") => `(tactic| (k_here; refine Halt.out ?_))
local macro_rules | `(tactic| walk_at "exec For Name Subscript cons nil") => `(tactic| (k_here; (rename Fr _ _ _ _ => lF'); (with_unfolding_all refine' For_invVF lF' ?k1 ?k2 ?_; (case k1 => exact rfl); (case k2 => exact rfl); k_whole)))

theorem within_call {w : World} {loose : List Str} {mean : ExcName → Option Value} {mg mb : Str → Option Value} {A : Around} {s : Shared} {h₀ : Heap} {Q E : Value → Shared → Prop}
    {l : Addr} {vs : List Value} {bs : List Int} {o : Str} {u : Tok}
    (X : (hd.heap_39 w.params).In h₀) (T : Top hd.view_39 loose mean mg mb h₀) (st : ∀ b o, h₀.get? b = some o → s.heap.get? b = some o)
    (hh : A.handled = none) (hdp : A.depth + 5 < recursionLimit) (hun : A.units + 24 < cLine) (ho : o.length = 4) (hl : s.heap.IsList l vs.toArray) (hi : IntsAre vs bs) (h4 : bs.length = 4) (hrev : (revF o).cps.size ≤ 10) {res : Bool} (e : withinF o bs = some res)
    (ret : ∀ h' tk', (∀ b o, s.heap.get? b = some o → h'.get? b = some o) → Q (.bool res) { s with heap := h', toks := tk' }) :
    wpAny (model PySem.Challenge.pw_qu0018_01 w) A (call (.ref 93) [.str o u, .ref l]) Q E s := by
  refine' enter (binds := [(Str.ofString "order", .str o u), (Str.ofString "behind", .ref l)]) [] X T st ?hN ?ho ?hcd (by omega) ?hbind ?hloc ?h ?hco ?hgen ?hk ?hcell
  case hN => intro q hq; cases hq
  case ho => k_is
  case hcd => k_is
  case hbind => exact BindsTo.of_eq rfl
  case hloc => exact locs rfl
  case hco => exact rfl
  case hgen => exact rfl
  case hk => exact rfl
  case hcell => decide
  case h =>
    intro g L' h₁ F' N' X' T' hg hg'
    (try dsimp only)
    have hlg : g.IsList l vs.toArray := hl.at fun o e => hg _ _ e (fun h => nomatch h)
    (try k_fold)
    k_steps
    refine ⟨?_⟩
    rename Fr _ _ _ _ => F1
    rename News _ _ _ _ => N1
    rename_i sn h2 l1 h3 Fx Nx h4 tt cc
    refine for_str (z := revF o) (fun i m nx => ∃ sv n xs, nx = [(sn, listOf sv.toArray n)] ∧ StrsAre sv xs ∧ sv.length = 1 + i ∧ withinL bs ((revF o).cps.toList.drop i) xs = some res ∧ m (Str.ofString "seen") = some (.ref sn) ∧ m (Str.ofString "behind") = some (.ref l))
      hh F1 N1 ⟨[_], 0, [_], rfl, .cons _ _ .nil, rfl, e, rfl, rfl⟩ ?turn ?done
    case done =>
      rintro m₂ nx h5 tk5 ⟨sv, n, xs, rfl, hs, hlv, hel, hm1, hm2⟩ F4 N5
      have hr : res = true := by
        rw [← Array.length_toList, List.drop_length] at hel
        simpa [withinL] using hel.symm
      subst hr
      k_steps
      exact ret _ _ fun b o q => F4.keep b o (hg b o q (fun h => nomatch h))
    case turn =>
      rintro i c tc m₂ nx h5 tk5 I oI hic ⟨sv, n, xs, rfl, hs, hlv, hel, hm1, hm2⟩ hnI hoI F4 N5
      have ed : (revF o).cps.toList.drop i = c :: (revF o).cps.toList.drop (i + 1) := by
        have hic' : (revF o).cps.toList[i]? = some c := by rw [Array.getElem?_toList]; exact hic
        obtain ⟨hlt, hk'⟩ := List.getElem?_eq_some_iff.mp hic'
        rw [List.drop_eq_getElem_cons hlt, hk']
      rw [ed] at hel
      unfold withinL at hel
      rw [← strs_len hs] at hel
      cases qb : bisL 10 xs ⟨#[c]⟩ 0 sv.length with
      | none => rw [qb] at hel; cases hel
      | some k =>
      rw [qb] at hel
      dsimp only at hel
      split at hel
      case isFalse => cases hel
      rename_i hfi
      obtain ⟨hf0, hf1⟩ := hfi
      rw [← kstB_self (m := m₂) (ps := [(Str.ofString "seen", .ref sn), (Str.ofString "behind", .ref l)]) (by
        intro p hp
        rcases List.mem_cons.mp hp with rfl | hp
        · exact hm1
        rcases List.mem_singleton.mp hp with rfl
        exact hm2)] at F4
      clear F1 N1 Fx Nx
      (try k_fold)
      k_steps
      refine ⟨?_⟩
      have hi10 : i < 10 := by
        have := (Array.getElem?_eq_some_iff.mp hic).1
        omega
      refine bis_call X' T' F4.keep (by rw [depth_deeper]; omega) (PySem.IsL.isList (n := n) (N5 _ (.tail _ (.head _))).1) hs (by omega) qb ?_
      intro h6 tk6 t6 k6
      have F6 := keep_fr F4 k6
      have N6 := keep_news N5 k6
      clear F4 N5
      by_cases hc : bs.getD (Txt.find (Str.ofString "abcd") ⟨#[c]⟩).toNat 0 < (k : Int)
      · rw [if_pos hc] at hel
        obtain rfl : false = res := by simpa using hel
        k_steps
        rename Fr _ _ _ _ => F7
        exact ret _ _ fun b o q => F7.keep b o (hg b o q (fun h => nomatch h))
      · rw [if_neg hc] at hel
        have hkl := bisL_le _ _ _ _ _ _ (Nat.zero_le _) qb
        k_steps
        refine ⟨?_⟩
        rename Fr _ _ _ _ => F7
        rename News _ _ _ _ => N7
        have hne : I ≠ sn := fun e => hnI _ (.head _) e.symm
        refine kl_insert F7 N7 (l := kl_ins sv (k : Int) (.str ⟨#[c]⟩ _)) ?hf rfl (Upd.tail hne (Upd.head fun _ h => nomatch h)) (by show sv.length ≤ _; rw [hlv, sizeLine]; omega) ?hk
        case hf => simp only [Builtin.List.listFitsIndex, Bool.and_eq_true, decide_eq_true_eq]; omega
        case hk =>
          intro h8 F8 N8
          clear F7 N7
          k_steps
          refine tpost F8 N8 ?_ ⟨_, _, _, rfl, strs_ins hs _ _ _, ?_, hel, rfl, rfl⟩
          · intro p hp
            rcases List.mem_singleton.mp hp with rfl
            exact Ne.symm hne
          · rw [kl_ins_length, hlv]; omega
end Mine

-- D5
namespace Mine
open PySem PySem.Spec PySem.Calls PyProof.Rows PySem.W
def insN (x : Nat) : List Nat → List Nat
  | [] => [x]
  | y :: r => if y < x then y :: insN x r else x :: y :: r
def sortN : List Nat → List Nat
  | [] => []
  | x :: r => insN x (sortN r)
theorem insN_perm (x : Nat) : ∀ l, (insN x l).Perm (x :: l)
  | [] => .refl _
  | y :: r => by
    unfold insN; split
    · exact ((insN_perm x r).cons y).trans (.swap _ _ _)
    · exact .refl _
theorem sortN_perm : ∀ l, (sortN l).Perm l
  | [] => .refl _
  | x :: r => (insN_perm x _).trans ((sortN_perm r).cons x)
theorem insN_rises (x : Nat) : ∀ l : List Nat, l.Pairwise (· ≤ ·) → (insN x l).Pairwise (· ≤ ·)
  | [], _ => by simp [insN]
  | y :: r, h => by
    obtain ⟨h1, h2⟩ := List.pairwise_cons.mp h
    unfold insN; split
    · refine List.pairwise_cons.mpr ⟨fun z hz => ?_, insN_rises x r h2⟩
      rcases List.mem_cons.mp ((insN_perm x r).mem_iff.mp hz) with rfl | hz
      · omega
      · exact h1 z hz
    · refine List.pairwise_cons.mpr ⟨fun z hz => ?_, h⟩
      rcases List.mem_cons.mp hz with rfl | hz
      · omega
      · have := h1 z hz; omega
theorem sortN_rises : ∀ l, (sortN l).Pairwise (· ≤ ·)
  | [] => .nil
  | x :: r => insN_rises x _ (sortN_rises r)
def oneC (c : Nat) : Str := ⟨#[c]⟩
def codeC (x : Str) : Nat := x.cps[0]?.getD 0
def sortS (x : Str) : List Str := (sortN x.cps.toList).map oneC
theorem rising_codes : ∀ (l : List Nat) (p : Nat), risingS (oneC p) (l.map oneC) = true → (p :: l).Pairwise (· ≤ ·)
  | [], p, _ => by simp
  | x :: r, p, h => by
    have h' : (!ltCps [x] [p] && risingS (oneC x) (r.map oneC)) = true := h
    rw [Bool.and_eq_true] at h'
    have ih := rising_codes r x h'.2
    have hpx : p ≤ x := by
      have := h'.1
      simp only [ltCps, Bool.not_eq_true', Bool.or_eq_false_iff, decide_eq_false_iff_not] at this
      omega
    refine List.pairwise_cons.mpr ⟨fun z hz => ?_, ih⟩
    rcases List.mem_cons.mp hz with rfl | hz
    · exact hpx
    · exact Nat.le_trans hpx ((List.pairwise_cons.mp ih).1 z hz)
theorem sortS_eq {x : Str} {ss : List Str} (hp : ss.Perm (x.cps.toList.map oneC)) (hs : sortedS ss = true) : ss = sortS x := by
  have e1 : (ss.map codeC).map oneC = ss := by
    rw [List.map_map]
    have : ∀ s ∈ ss, (oneC ∘ codeC) s = id s := fun s hm => by
      obtain ⟨c, _, rfl⟩ := List.mem_map.mp (hp.mem_iff.mp hm)
      rfl
    rw [List.map_congr_left this, List.map_id]
  have hp2 : (ss.map codeC).Perm x.cps.toList := by
    have := hp.map codeC
    rwa [List.map_map, show codeC ∘ oneC = id from rfl, List.map_id] at this
  have hr : (ss.map codeC).Pairwise (· ≤ ·) := by
    generalize ss.map codeC = l at e1
    subst e1
    cases l with
    | nil => exact .nil
    | cons p r => exact rising_codes r p hs
  have := List.Perm.eq_of_pairwise (fun _ _ _ _ a b => Nat.le_antisymm a b) hr (sortN_rises x.cps.toList) (hp2.trans (sortN_perm _).symm)
  rw [← e1, this]; rfl
theorem strs_of : ∀ (cs : List Nat) (vs : List Value), vs.length = cs.length → (∀ (j : Nat) (v : Value), vs[j]? = some v → ∃ c u, cs[j]? = some c ∧ v = Value.str ⟨#[c]⟩ u) → StrsAre vs (cs.map oneC)
  | [], [], _, _ => .nil
  | c :: cs, v :: vs, hl, h => by
    obtain ⟨c', u, e, rfl⟩ := h 0 v rfl
    cases e
    exact .cons _ _ (strs_of cs vs (by simpa using hl) fun j v e => h (j + 1) v e)
section
variable {prog : Program} {w : World} {A : Around} {E : Value → Shared → Prop} {s : Shared} {h₀ : Heap} {L : Addr} {m : Str → Option Value} {news : List (Addr × Obj)} {Q : Value → Shared → Prop}
theorem sorted_s {x : Str} {t : Tok} (hh : A.handled = none) (F : Fr h₀ L s.heap m) (N : News h₀ L s.heap news) (hx : x.cps.size < 64)
    (h : ∀ D vs e h' tk, Fr h₀ L h' m → News h₀ L h' ((D, listOf vs.toArray e) :: news) → (∀ q ∈ news, q.1 < D) → StrsAre vs (sortS x) → Q (.ref D) { s with heap := h', toks := tk }) :
    wpAny (model prog w) A (call (.builtin "sorted") [.str x t]) Q E s := by
  refine call_function_entry kind_sorted plain_sorted entry_sorted (args_sorted1 _) ?_
  unfold Builtin.«sorted»
  refine wpAny_bind (m := checkCount "sorted" 1 1 _) (wpAny_pure ?_)
  refine wpAny_bind (wpAny_collect_str (A := A.in1) hh x t (fun s' acc hk hg hd ho hacc => ?_) (by rw [sizeLine]; omega))
  obtain ⟨g, gens, drawn, toks, os⟩ := s'
  dsimp only at hk hg hd ho
  subst hg hd ho
  have hl : acc.toList.length = x.cps.toList.length := by rw [Array.length_toList, Array.length_toList]; exact hacc.1
  have hS : StrsAre acc.toList (x.cps.toList.map oneC) := strs_of _ _ hl fun j v e => by
    obtain ⟨c, u, e1, e2⟩ := hacc.2 j v (by rw [← Array.getElem?_toList]; exact e)
    exact ⟨c, u, by rw [Array.getElem?_toList]; exact e1, e2⟩
  refine wpAny_bind (wpAny_newList ?_ (by rw [hl, Array.length_toList, sizeLine]; omega))
  have hoL : (g.push (seqObj "list" acc.toList.toArray 0)).get? g.objs.size = some (seqObj "list" acc.toList.toArray 0) := Heap.get?_push_size _ rfl
  refine wpAny_bind (wpAny_holding (wpAny_call_entry slot_list_sort ⟨_, hoL, rfl⟩ entry_list_sort (list_sort_treeK strKind_oneLt hoL hS.keysOf (fun v₁ v₂ rest e => keyKind_strs (by rw [← e]; exact hS)) (by rw [hl, Array.length_toList]; exact hx) fun st' a1 a2 => ⟨_, rfl, ?_⟩) (args_list_sort _)))
  refine wpAny_pure ⟨_, rfl, ?_⟩
  obtain ⟨ss', b1, b2, b3⟩ := sorted_out_str hS a1 a2
  rw [sortS_eq b2 b3] at b1
  have key : ∀ b o, g.get? b = some o → (sortedHeap (g.push (seqObj "list" acc.toList.toArray 0)) g.objs.size acc.toList ((arrOf st').map (·.2))).get? b = some o := fun b o e => by
    have hlt := Heap.lt_size e
    rw [sortedHeap_old (Nat.ne_of_lt hlt) (by rw [Heap.size_push]; exact Nat.lt_succ_of_lt hlt)]
    exact Heap.get?_push_of_some _ e
  obtain ⟨e', he⟩ := sortedHeap_at (out := (arrOf st').map (·.2)) hoL
  have Fg := keep_fr F hk
  refine h g.objs.size ((arrOf st').map (·.2)).toList e' _ _ (keep_fr Fg key) (fun p hp => ?_) (fun q hq => Heap.lt_size (hk _ _ (N q hq).1)) b1
  rcases List.mem_cons.mp hp with rfl | hp
  · exact ⟨by rw [Array.toArray_toList]; exact he, Nat.ne_of_gt Fg.ns.lt, next_is_new Fg⟩
  · exact ⟨key _ _ (hk _ _ (N p hp).1), (N p hp).2⟩
end
end Mine

-- D6
namespace Mine
open PySem PySem.Spec PySem.Calls PyProof.Rows PySem.W PyProof.Rows.LCg
def TestEnd (prog : Program) (w : World) (A : Around) (envC : Env) (elt : PySem.Expr) (T : Bool) (P : Value → Prop) (E' : Value → Shared → Prop) (s : Shared) (okb : Bool) (s₃ : Shared) : Prop :=
  ∃ h₃ tk₃, s₃ = { s with heap := h₃, toks := tk₃ } ∧ (∀ b o, s.heap.get? b = some o → h₃.get? b = some o) ∧ okb = T ∧
    (okb = true → wpAny (model prog w) A (eval elt envC) (fun v s₄ => ∃ h₄ tk₄, s₄ = { s with heap := h₄, toks := tk₄ } ∧ (∀ b o, h₃.get? b = some o → h₄.get? b = some o) ∧ P v) E' s₃)
section
variable {prog : Program} {w : World} {A : Around} {E : Value → Shared → Prop} {s : Shared} {h₀ : Heap} {L : Addr} {m : Str → Option Value} {env : Env}
theorem pair_comp {elt iter c : PySem.Expr} {a b : Str} {pa pb tp : Pos} {kk : Nat} {scope : Scope} {cl : List (Str × Addr)} {pos : Pos} {Q : Value → Shared → Prop}
    (_F₀ : Fr h₀ L s.heap m) (hh : A.handled = none) (hclos : closureFor scope env = pure cl) (hcell : ∀ y ∈ scope.names, y.2 ≠ .cell) (hkind : scope.kind = .function)
    (hnames : ∀ y ∈ scope.names, y.2 = .local → scope.names.lookup y.1 = some .local) (hxa : scope.names.lookup a = some .local) (hxb : scope.names.lookup b = some .local) (hab : ¬ a = b)
    (h : wpAny (model prog w) A (eval iter env) (fun xv s₁ => ∃ I fp wr n St Mid news, ∃ (xs ys : Array Value) (T : Nat → Bool) (P : Value → Prop), xv = .ref I ∧
      WalksT prog w A I fp wr n (fun i vals => ∃ x y, xs[i]? = some x ∧ ys[i]? = some y ∧ vals = #[x, y]) St Mid ∧ n ≤ sizeLine ∧ St 0 s₁.heap ∧ (∀ b ∈ fp, b < s₁.heap.objs.size) ∧ (∀ b ∈ wr, b ≠ L ∧ h₀.get? b = none) ∧
      Fr h₀ L s₁.heap m ∧ News h₀ L s₁.heap news ∧ (∀ p ∈ news, p.1 ∉ wr) ∧
      (∀ (i : Nat) x y C oC m₂ g tk E', xs[i]? = some x → ys[i]? = some y → NsObj oC m₂ → m₂ a = some x → m₂ b = some y → Fr h₀ L g m → News h₀ L g ((C, oC) :: news) → (∀ p ∈ news, p.1 ≠ C) →
        wpAny (model prog w) A (isTrue c (compEnvC scope cl C env) (eval c (compEnvC scope cl C env))) (TestEnd prog w A (compEnvC scope cl C env) elt (T i) P E' { s₁ with heap := g, toks := tk }) E' { s₁ with heap := g, toks := tk }) ∧
      (∀ D g tk vs, Fr h₀ L g m → News h₀ L g ((D, lst vs) :: news) → (∀ p ∈ news, p.1 ≠ D) → vs.length = ((List.range n).filter T).length → (∀ v ∈ vs, P v) → Q (.ref D) { s₁ with heap := g, toks := tk })) E s)
    (hs : ∀ x, foldedSetIterable iter env x = pure x := by intro _; rfl) :
    wpAny (model prog w) A (eval (.ListComp elt [⟨.Tuple [.Name a pa, .Name b pb] kk tp, iter, [c], 0⟩] scope pos) env) Q E s := by
  rw [eval_ListComp]
  refine wpAny_comprehension_free (use := none) rfl hs hclos hkind hnames (wpAny_mono h (fun xv s₂ h₁ => ?_) fun _ _ e => e)
  obtain ⟨I, fp, wr, n, St, Mid, news, xs, ys, T, P, rfl, W, hsz, hst, hfp, hwr, F, N, hnw, turn, fin⟩ := h₁
  refine W.self 0 _ _ _ hst ?_
  refine wpAny_newObj_type (wpAny_newFunctionEnv hcell (by intro y hy; simp at hy) (fun h₁ hns₁ hsb₁ => ?_) hkind)
  dsimp only at hns₁ hsb₁ ⊢
  generalize hH2 : s₂.heap.push { cls := .type "list", dict := none, data := .seq ([] : List Value).toArray } = H2 at hns₁ hsb₁ ⊢
  have hC : H2.objs.size = s₂.heap.objs.size + 1 := by rw [← hH2, Heap.size_push]
  have hDC : s₂.heap.objs.size ≠ H2.objs.size := by rw [hC]; exact Nat.ne_of_lt (Nat.lt_succ_self _)
  have below : ∀ b, b < s₂.heap.objs.size → b ≠ H2.objs.size ∧ b ≠ s₂.heap.objs.size := fun b hb => ⟨by rw [hC]; exact Nat.ne_of_lt (Nat.lt_succ_of_lt hb), Nat.ne_of_lt hb⟩
  have old : ∀ b o, s₂.heap.get? b = some o → h₁.get? b = some o := fun b o e => hsb₁.extBut b o (below b (Heap.lt_size e)).1 (Heap.get?_push_of_some _ (hH2 ▸ Heap.get?_push_of_some _ e))
  have hacc : h₁.get? s₂.heap.objs.size = some (lst []) := hsb₁.extBut _ _ hDC (Heap.get?_push_of_some _ (hH2 ▸ Heap.get?_push_size _ rfl))
  have fresh₀ : ∀ a, s₂.heap.objs.size ≤ a → h₀.get? a = none := fun a ha => by
    cases e : h₀.get? a with
    | none => rfl
    | some o' => exact absurd (Heap.lt_size (F.keep a o' e)) (Nat.not_lt.mpr ha)
  have hD₀ : h₀.get? s₂.heap.objs.size = none := fresh₀ _ (Nat.le_refl _)
  have hC₀ : h₀.get? H2.objs.size = none := fresh₀ _ (by rw [hC]; exact Nat.le_succ _)
  have hDL : s₂.heap.objs.size ≠ L := Ne.symm (below L F.ns.lt).2
  have hCL : H2.objs.size ≠ L := Ne.symm (below L F.ns.lt).1
  have hDw : s₂.heap.objs.size ∉ wr := fun hm => Nat.lt_irrefl _ (hfp _ (W.sub _ hm))
  have hCw : H2.objs.size ∉ wr := fun hm => absurd (hfp _ (W.sub _ hm)) (by rw [hC]; exact Nat.not_lt.mpr (Nat.le_succ _))
  have hLw : L ∉ wr := fun hm => (hwr _ hm).1 rfl
  have F2 : ∀ g, (∀ b o, b ∉ wr → s₂.heap.get? b = some o → g.get? b = some o) → Fr h₀ L g m := fun g hk =>
    ⟨F.ns.at' fun o e => hk _ o hLw e, fun b o e => hk b o (fun hm => by rw [(hwr _ hm).2] at e; cases e) (F.keep b o e), F.above⟩
  have N2 : ∀ g, (∀ b o, b ∉ wr → s₂.heap.get? b = some o → g.get? b = some o) → News h₀ L g news := fun g hk p hp => ⟨hk _ _ (hnw p hp) (N p hp).1, (N p hp).2⟩
  have loop : ∀ s₃ : Shared, s₃ = { s₂ with heap := h₁, toks := s₂.toks + ([] : List (Str × Value)).length } →
      codeAny (model prog w) A (.compLoop (.ListComp elt [⟨.Tuple [.Name a pa, .Name b pb] kk tp, iter, [c], 0⟩] scope pos) 0 (.ref I) (.ref s₂.heap.objs.size) (compEnvC scope cl H2.objs.size env))
        (compPost (model prog w) A E none Q (.ref s₂.heap.objs.size) H2.objs.size) s₃ := by
    rintro s₃ rfl
    refine kct_loop
      (fun k s' => ∃ h' tk i vs m', s' = { s₂ with heap := h', toks := tk } ∧ i ≤ n ∧ k = n + 1 - i ∧ vs.length = ((List.range i).filter T).length ∧ (∀ v ∈ vs, P v) ∧ St i h' ∧ h'.Ns H2.objs.size m' ∧
        h'.get? s₂.heap.objs.size = some (lst vs) ∧ (∀ b o, b ∉ wr → s₂.heap.get? b = some o → h'.get? b = some o)) ?_ (n + 1)
      ⟨h₁, _, 0, [], _, rfl, Nat.zero_le _, rfl, rfl, fun _ h => (nomatch h), W.frame 0 _ _ hst fun b _ o e => old b o e, hns₁, hacc, fun b o _ e => old b o e⟩
    rintro k s' ⟨h', tk, i, vs, m', rfl, hi, rfl, hvl, hvP, hst', hn', hD', hk'⟩
    by_cases hlt : i < n
    · refine W.item i _ _ _ hlt hst' fun Tt vals g₂ tk₂ hPt hle hT hMid hk₂ => ?_
      obtain ⟨x, y, hPx, hPy, rfl⟩ := hPt
      refine W.go _ _ _ i Tt _ _ _ hMid fun g₃ hst₃ hk₃ => ?_
      have hT₃ : g₃.IsTuple Tt #[x, y] := hT.at fun o e => hk₃ _ o (W.apart i Tt _ hMid) e
      have up₃ : ∀ b o, b ∉ wr → h'.get? b = some o → g₃.get? b = some o := fun b o hb e => hk₃ b o hb (hk₂ b o hb e)
      refine kcp_assign (env := compEnvC scope cl H2.objs.size env) hh hT₃ (lookup_relabel_local hxa) (lookup_relabel_local hxb) (by simp [compEnvC, relabel, hkind]) (hn'.at' fun o e => up₃ _ o hCw e) fun g₄ tk₄ hn₄ hs₄ => ?_
      have up₄ : ∀ b o, b ≠ H2.objs.size → b ∉ wr → h'.get? b = some o → g₄.get? b = some o := fun b o h1 h2 e => hs₄ b o h1 (up₃ b o h2 e)
      have st₄ : St (i + 1) g₄ := W.frame _ _ _ hst₃ fun b hb o e => hs₄ b o (below b (hfp b hb)).1 e
      have k₄ : ∀ b o, b ∉ wr → s₂.heap.get? b = some o → g₄.get? b = some o := fun b o hb e => up₄ b o (below b (Heap.lt_size e)).1 hb (hk' b o hb e)
      have D₄ := up₄ _ _ hDC hDw hD'
      obtain ⟨oC, heC, hoC⟩ := ns_obj hn₄
      have N₄ : News h₀ L g₄ ((H2.objs.size, oC) :: news) := fun p hp => by
        rcases List.mem_cons.mp hp with rfl | hp
        · exact ⟨heC, hCL, hC₀⟩
        · exact N2 g₄ k₄ p hp
      refine wpAny_mono (turn i x y H2.objs.size oC _ g₄ tk₄ _ hPx hPy hoC (by simp [hab]) (by simp) (F2 g₄ k₄) N₄ (fun p hp => (below _ (Heap.lt_size (N p hp).1)).1)) (fun okb s₅ h₅ => ?_) fun _ _ e => e
      obtain ⟨g₅, tk₅, rfl, hk₅, rfl, helt⟩ := h₅
      dsimp only at hk₅
      have ext : ∀ g, (∀ b o, g₄.get? b = some o → g.get? b = some o) → St (i + 1) g := fun g hk => W.frame _ _ _ st₄ fun b _ o e => hk b o e
      have step : (List.range (i + 1)).filter T = (List.range i).filter T ++ (if T i = true then [i] else []) := by
        rw [List.range_succ, List.filter_append]; congr 1
        simp only [List.filter_cons, List.filter_nil]
      cases hTi : T i with
      | false =>
        simp only [Bool.false_eq_true, if_false]
        exact ⟨n + 1 - (i + 1), by omega, g₅, tk₅, i + 1, vs, _, rfl, hlt, rfl, by rw [step, hTi]; simpa using hvl, hvP, ext g₅ hk₅, hoC.ns (hk₅ _ _ heC), hk₅ _ _ D₄, fun b o hb e => hk₅ b o (k₄ b o hb e)⟩
      | true =>
        simp only [if_true]
        refine wpAny_mono (helt hTi) (fun v s₆ h₆ => ?_) fun _ _ e => e
        obtain ⟨g₆, tk₆, rfl, hk₆, hPv⟩ := h₆
        have kk₆ : ∀ b o, g₄.get? b = some o → g₆.get? b = some o := fun b o e => hk₆ b o (hk₅ b o e)
        refine append_at (hsz := by
          show vs.toArray.size ≤ sizeLine
          rw [List.size_toArray, hvl]
          exact Nat.le_trans (List.length_filter_le _ _) (by rw [List.length_range]; exact Nat.le_trans hi hsz)) (kk₆ _ _ D₄) fun g₇ hs₇ hD₇ => ?_
        refine ⟨n + 1 - (i + 1), by omega, g₇, tk₆, i + 1, vs ++ [v], _, rfl, hlt, rfl, by rw [step, hTi, List.length_append, List.length_append, hvl]; rfl, ?_, W.frame _ _ _ (ext g₆ kk₆) fun b hb o e => hs₇.extBut b o (below b (hfp b hb)).2 e,
          hoC.ns (hs₇.extBut _ _ (Ne.symm hDC) (kk₆ _ _ heC)), hD₇.trans (congrArg some (lst_snoc vs v)), fun b o hb e => hs₇.extBut b o (below b (Heap.lt_size e)).2 (kk₆ b o (k₄ b o hb e))⟩
        intro u hu
        rcases List.mem_append.mp hu with hu | hu
        · exact hvP u hu
        · rw [List.mem_singleton.mp hu]; exact hPv
    · have hin : i = n := Nat.le_antisymm hi (Nat.not_lt.mp hlt)
      subst hin
      refine W.done _ _ _ hst' fun g tk₂ hk₂ => ?_
      refine ⟨m', hn'.at' fun o e => hk₂ _ o hCw e, fun g' hs' => ?_⟩
      have k9 : ∀ b o, b ∉ wr → s₂.heap.get? b = some o → g'.get? b = some o := fun b o hb e => hs'.extBut b o (below b (Heap.lt_size e)).1 (hk₂ b o hb (hk' b o hb e))
      refine fin _ g' tk₂ vs (F2 g' k9) (fun p hp => ?_) (fun p hp => (below _ (Heap.lt_size (N p hp).1)).2) hvl hvP
      rcases List.mem_cons.mp hp with rfl | hp
      · exact ⟨hs'.extBut _ _ hDC (hk₂ _ _ hDw hD'), hDL, hD₀⟩
      · exact N2 g' k9 p hp
  exact codeAny_compStart_list (loop _ rfl) (W.self 0 _ _ _ (W.frame 0 _ _ hst fun b _ o e => old b o e) (loop _ rfl))
end
end Mine

-- D7
namespace Mine
open PySem PySem.Spec PySem.Calls PyProof.Rows PySem.W PyProof.Rows.LCg
example : True := by
  w_top off
  trivial
local macro_rules | `(tactic| walk_at "no such step") => `(tactic| fail)
def gtAt (a b : List Str) (i : Nat) : Bool := match a[i]?, b[i]? with
  | some x, some y => decide (y.cps.toList < x.cps.toList)
  | _, _ => false
def cutS (o : Str) (i : Nat) : Str := Txt.slice o none (some (1 + (i : Int)))
def rowN (o p : Str) (i : Nat) : Nat := ((List.range (min (sortS (cutS o i)).length (sortS (cutS p i)).length)).filter (gtAt (sortS (cutS o i)) (sortS (cutS p i)))).length
def belowF (o p : Str) : Bool := (List.range 3).all fun i => rowN o p i == 0
local macro_rules | `(tactic| walk_at "pyIter ref") => `(tactic| (k_here; refine Halt.out ?_))
local macro_rules | `(tactic| walk_at "call builtin:sorted") => `(tactic| (k_here; refine Halt.out ?_))
local macro_rules | `(tactic| walk_at "call type:zip") => `(tactic| (k_here; refine Halt.out ?_))
local macro_rules | `(tactic| walk_at "eval ListComp") => `(tactic| (k_here; refine Halt.out ?_))
local macro_rules | `(tactic| walk_at "compareOp NotEq ref ref") => `(tactic| (k_here; refine Halt.out ?_))
theorem below_call {w : World} {loose : List Str} {mean : ExcName → Option Value} {mg mb : Str → Option Value} {A : Around} {s : Shared} {h₀ : Heap} {Q E : Value → Shared → Prop}
    {o p : Str} {u t : Tok}
    (X : (hd.heap_39 w.params).In h₀) (T : Top hd.view_39 loose mean mg mb h₀) (st : ∀ b o, h₀.get? b = some o → s.heap.get? b = some o)
    (hh : A.handled = none) (hdp : A.depth + 5 < recursionLimit) (hun : A.units + 100 < cLine) (ho4 : o.length = 4) (hp4 : p.length = 4) (ho : ∀ i, i < 3 → (cutS o i).cps.size < 64) (hp : ∀ i, i < 3 → (cutS p i).cps.size < 64)
    (ret : ∀ h' tk', (∀ b o, s.heap.get? b = some o → h'.get? b = some o) → Q (.bool (belowF o p)) { s with heap := h', toks := tk' }) :
    wpAny (model PySem.Challenge.pw_qu0018_01 w) A (call (.ref 98) [.str o u, .str p t]) Q E s := by
  refine' enter (binds := [(Str.ofString "order", .str o u), (Str.ofString "start", .str p t)]) [] X T st ?hN ?ho ?hcd (by omega) ?hbind ?hloc ?h ?hco ?hgen ?hk ?hcell
  case hN => intro q hq; cases hq
  case ho => k_is
  case hcd => k_is
  case hbind => exact BindsTo.of_eq rfl
  case hloc => exact locs rfl
  case hco => exact rfl
  case hgen => exact rfl
  case hk => exact rfl
  case hcell => decide
  case h =>
    intro g L' h₁ F' N' X' T' hg hg'
    (try dsimp only)
    (try k_fold)
    k_steps
    refine ⟨?_⟩
    rename IsRange _ _ _ _ _ _ _ _ => rg
    rename Fr _ _ _ _ => F1
    rename News _ _ _ _ => N1
    refine for_range (n := 3) (fun i m nx => nx = [] ∧ (∀ j, j < i → rowN o p j = 0) ∧ m (Str.ofString "order") = some (.str o u) ∧ m (Str.ofString "start") = some (.str p t))
      hh rg (by decide) rfl F1 N1 ⟨rfl, fun j h => absurd h (Nat.not_lt_zero _), rfl, rfl⟩ ?turn ?done
    case done =>
      rintro m₂ nx h5 tk5 ⟨rfl, hall, hm1, hm2⟩ F4 N5
      have eb : belowF o p = true := by
        unfold belowF
        rw [List.all_eq_true]
        intro j hj
        rw [hall j (List.mem_range.mp hj)]; rfl
      rw [eb] at ret
      k_steps
      exact ret _ _ fun b o q => F4.keep b o (hg b o q (fun h => nomatch h))
    case turn =>
      rintro i ti m₁ nx h tk I oI hi ⟨rfl, hall, hm1, hm2⟩ hnI hoI F2 N2
      rw [← kstB_self (m := m₁) (ps := [(Str.ofString "order", .str o u), (Str.ofString "start", .str p t)]) (by
        intro p hp
        rcases List.mem_cons.mp hp with rfl | hp
        · exact hm1
        · rcases List.mem_singleton.mp hp with rfl
          exact hm2)] at F2
      clear F1 N1
      (try k_fold)
      k_steps
      refine ⟨?_⟩
      rename Fr _ _ _ _ => F3
      refine pair_comp F3 hh rfl (by decide) rfl (by decide) rfl rfl (by decide) ?_
      k_steps
      refine ⟨?_⟩
      rename Fr _ _ _ _ => F4
      rename News _ _ _ _ => N3
      refine sorted_s (x := cutS o i) hh F4 N3 (ho i hi) ?_
      intro D1 vs1 e1 h7 tk7 F5 N5 lt1 S1
      (try clear F4 N3); (try clear F3); (try clear F2); (try clear N2)
      k_steps
      refine ⟨?_⟩
      rename Fr _ _ _ _ => F4
      rename News _ _ _ _ => N3
      refine sorted_s (x := cutS p i) hh F4 N3 (hp i hi) ?_
      intro D2 vs2 e2 h8 tk8 F6 N6 lt2 S2
      clear F4 N3; (try clear F5); (try clear N5)
      k_steps
      refine ⟨?_⟩
      have hl1 : h8.IsList D1 vs1.toArray := PySem.IsL.isList (n := e1) (N6 _ (.tail _ (.head _))).1
      have hl2 : h8.IsList D2 vs2.toArray := PySem.IsL.isList (n := e2) (N6 _ (.head _)).1
      have z1 : D1 < h8.objs.size := Heap.lt_size (N6 _ (.tail _ (.head _))).1
      have z2 : D2 < h8.objs.size := Heap.lt_size (N6 _ (.head _)).1
      refine call_zip_2 hl1 hl2 fun h9 a1 a2 a3 a4 a5 a6 k9 => ?_
      dsimp only at a1 a2 a3 a4 a5 a6 k9 ⊢
      have F7 := keep_fr F6 k9
      have N7 := keep_news N6 k9
      have fr : ∀ a, h8.objs.size ≤ a → a ≠ L' ∧ g.get? a = none := fun a ha => ⟨Nat.ne_of_gt (Nat.lt_of_lt_of_le F6.ns.lt ha), by
        cases e : g.get? a with
        | none => rfl
        | some o' => exact absurd (Heap.lt_size (F6.keep a o' e)) (Nat.not_lt.mpr ha)⟩
      have za : ZipApart (h8.objs.size + 4) (h8.objs.size + 2) (h8.objs.size + 3) h8.objs.size (h8.objs.size + 1) D1 D2 := by
        constructor <;> (unfold Addr at *; omega)
      refine ⟨h8.objs.size + 4, _, _, _, _, _, _, vs1.toArray, vs2.toArray, gtAt (sortS (cutS o i)) (sortS (cutS p i)), fun v => ∃ tt, v = .int 1 tt, rfl,
        WalksT.zip2 (by exact hh) (h8.objs.size + 4) (h8.objs.size + 2) (h8.objs.size + 3) h8.objs.size (h8.objs.size + 1) D1 D2 za vs1.toArray vs2.toArray, ?_, ?_, ?_, ?_, F7, N7, ?_, ?_, ?_⟩
      · have := strs_len S1
        have e2 : (sortS (cutS o i)).length = (cutS o i).cps.size := by
          unfold sortS
          rw [List.length_map, (sortN_perm _).length_eq, Array.length_toList]
        have := ho i hi
        rw [List.size_toArray, List.size_toArray, sizeLine]
        omega
      · exact ⟨a1, a2, ⟨_, _, a3⟩, a4, a5, hl1.at fun o e => k9 _ o e, hl2.at fun o e => k9 _ o e⟩
      · intro b hb
        rw [a6]
        simp only [List.mem_cons, List.not_mem_nil, or_false] at hb
        unfold Addr at *
        omega
      · intro b hb
        apply fr
        simp only [List.mem_cons, List.not_mem_nil, or_false] at hb
        unfold Addr at *
        omega
      · intro q hq hm
        have := Heap.lt_size (N6 q hq).1
        simp only [List.mem_cons, List.not_mem_nil, or_false] at hm
        unfold Addr at *
        omega
      · intro i1 x y C oC m₂ g2 tk2 E' hx hy hoC hmx hmy F8 N8 hne
        obtain ⟨x1, tx, rfl, hx1⟩ := strs_get S1 (by simpa using hx)
        obtain ⟨y1, ty, rfl, hy1⟩ := strs_get S2 (by simpa using hy)
        have eT : gtAt (sortS (cutS o i)) (sortS (cutS p i)) i1 = decide (y1.cps.toList < x1.cps.toList) := by
          unfold gtAt; rw [hx1, hy1]
        rw [eT]
        clear F6 N6 F7 N7
        k_steps
        refine ⟨g2, _, rfl, fun b o e => e, rfl, fun _ => ?_⟩
        k_steps
      · intro D g2 tk2 vs F8 N8 hne hlen hP
        clear F6 N6 F7 N7
        rw [List.size_toArray, List.size_toArray, strs_len S1, strs_len S2] at hlen
        change vs.length = rowN o p i at hlen
        have hI1 : IntsAre vs (vs.map fun _ => 1) := by
          clear hlen N8
          induction vs with
          | nil => exact .nil
          | cons v r ih =>
            obtain ⟨tt, rfl⟩ := hP v (.head _)
            exact .cons _ _ (ih fun v hv => hP v (.tail _ hv))
        have nd1 : I ≠ D := hne _ (.tail _ (.tail _ (.head _)))
        k_steps
        refine ⟨?_⟩
        rename Fr _ _ _ _ => F9
        rename News _ _ _ _ => N9
        refine ke_ne_ints (ns := vs.map fun _ => 1) (ms := []) (xs := vs) (ys := []) ?ha ?hb hI1 .nil ?hu ?hq
        case ha => exact ⟨_, (N9 _ (.tail _ (.head _))).1, rfl, vs.length, rfl⟩
        case hb => exact ⟨_, (N9 _ (.head _)).1, rfl, 0, rfl⟩
        case hu => show A.units + 3 + 64 < cLine; omega
        have eq : (!decide ((vs.map fun _ => (1 : Int)) = [])) = !(rowN o p i == 0) := by
          rw [← hlen]
          cases vs <;> rfl
        rw [eq]
        cases hr : rowN o p i == 0 with
        | true =>
          have hr0 : rowN o p i = 0 := by simpa using hr
          k_steps
          have N10 : News g L' _ [(I, oI)] := fun p hp => N9 p (by
            rw [List.mem_singleton.mp hp]
            exact .tail _ (.tail _ (.tail _ (.tail _ (.head _)))))
          refine tpost F9 N10 (fun p hp => nomatch hp) ⟨rfl, fun j hj => ?_, rfl, rfl⟩
          rcases Nat.lt_succ_iff_lt_or_eq.mp hj with h | rfl
          · exact hall j h
          · exact hr0
        | false =>
          have eb : belowF o p = false := by
            unfold belowF
            rw [List.all_eq_false]
            exact ⟨i, List.mem_range.mpr hi, by rw [hr]; decide⟩
          rw [eb] at ret
          k_steps
          rename Fr _ _ _ _ => F10
          exact ret _ _ fun b o q => F10.keep b o (hg b o q (fun h => nomatch h))
end Mine

-- E0
namespace Mine
open PySem PySem.Spec PySem.Calls PyProof.Rows PySem.W PyProof.Rows.LCg
theorem ints_all {vs : List Value} {ns : List Int} (h : IntsAre vs ns) : ∀ v ∈ vs, ∃ n t, v = Value.int n t := by
  induction h with
  | nil => intro v hv; cases hv
  | cons n t _ ih =>
    intro v hv
    rcases List.mem_cons.mp hv with rfl | hv
    · exact ⟨_, _, rfl⟩
    · exact ih v hv
theorem ints_of : ∀ (l : List Value), (∀ v ∈ l, ∃ n t, v = Value.int n t) → ∃ ms, IntsAre l ms
  | [], _ => ⟨[], .nil⟩
  | v :: r, h => by
    obtain ⟨n, t, rfl⟩ := h v (.head _)
    obtain ⟨ms, hm⟩ := ints_of r fun v hv => h v (.tail _ hv)
    exact ⟨n :: ms, .cons _ _ hm⟩
theorem ints_pick {vs : List Value} {ns : List Int} (h : IntsAre vs ns) (lo hi st : Option Int) : ∃ ms, IntsAre (slicePick vs.toArray lo hi st).toList ms := by
  refine ints_of _ fun v hv => ints_all h v ?_
  unfold slicePick at hv
  rw [List.toList_toArray] at hv
  obtain ⟨i, _, e⟩ := List.mem_filterMap.mp hv
  rw [List.getElem?_toArray] at e
  exact List.mem_of_getElem? e
section
variable {prog : Program} {w : World} {A : Around} {E : Value → Shared → Prop} {s : Shared} {h₀ : Heap} {L : Addr} {m : Str → Option Value} {news : List (Addr × Obj)} {Q : Value → Shared → Prop}
theorem sum_pick {l : Addr} {vs : List Value} {ns : List Int} {lo hi st : Option Int} (hh : A.handled = none) (F : Fr h₀ L s.heap m) (N : News h₀ L s.heap news)
    (hm : (l, ({ cls := Value.type "list", data := Data.seq (slicePick vs.toArray lo hi st) } : Obj)) ∈ news) (hi' : IntsAre vs ns)
    (h : ∀ z t' h' tk, Fr h₀ L h' m → News h₀ L h' news → Q (.int z t') { s with heap := h', toks := tk }) :
    wpAny (model prog w) A (call (.builtin "sum") [.ref l]) Q E s := by
  obtain ⟨ms, hms⟩ := ints_pick hi' lo hi st
  have hl : s.heap.IsList l (slicePick vs.toArray lo hi st).toList.toArray := by
    rw [Array.toArray_toList]; exact ⟨_, (N _ hm).1, rfl, 0, rfl⟩
  exact sumK hh F N hl hms (fun h' tk t' F' N' => h _ t' h' tk F' N')
end
end Mine

-- P2
namespace Mine
open PySem PySem.Spec PySem.Calls PyProof.Rows PySem.W
def pairs6 : List (Str × Str) := [(Str.ofString "a", Str.ofString "b"), (Str.ofString "a", Str.ofString "c"), (Str.ofString "b", Str.ofString "c"), (Str.ofString "a", Str.ofString "d"), (Str.ofString "b", Str.ofString "d"), (Str.ofString "c", Str.ofString "d")]
def nBs (n : Nat) : List Int := [0, (n : Int) % 2, (n : Int) / 2 % 3, (n : Int) / 6]
def cutOK (o : Str) : Bool := o.length == 4 && decide ((revF o).cps.size ≤ 10) && (List.range 3).all fun i => decide ((cutS o i).cps.size < 64)
def chkN (bs : List Int) (start : Str) (ps : List (Str × Str)) (res : SD) (n : Nat) : Bool :=
  let o := orderF (nBs n)
  let q := (getS res o).getD 3
  cutOK o && keepsF ps o == decide (q = 0) && withinF o bs == some (decide (q ≤ 1)) && belowF o start == decide (q ≤ 2)
/-- the 24 orders, written out; which of the six patterns each one keeps -/
def oTab : List Str := [⟨#[97, 98, 99, 100]⟩, ⟨#[98, 97, 99, 100]⟩, ⟨#[97, 99, 98, 100]⟩, ⟨#[98, 99, 97, 100]⟩, ⟨#[99, 97, 98, 100]⟩, ⟨#[99, 98, 97, 100]⟩, ⟨#[97, 98, 100, 99]⟩, ⟨#[98, 97, 100, 99]⟩, ⟨#[97, 99, 100, 98]⟩, ⟨#[98, 99, 100, 97]⟩, ⟨#[99, 97, 100, 98]⟩, ⟨#[99, 98, 100, 97]⟩, ⟨#[97, 100, 98, 99]⟩, ⟨#[98, 100, 97, 99]⟩, ⟨#[97, 100, 99, 98]⟩, ⟨#[98, 100, 99, 97]⟩, ⟨#[99, 100, 97, 98]⟩, ⟨#[99, 100, 98, 97]⟩, ⟨#[100, 97, 98, 99]⟩, ⟨#[100, 98, 97, 99]⟩, ⟨#[100, 97, 99, 98]⟩, ⟨#[100, 98, 99, 97]⟩, ⟨#[100, 99, 97, 98]⟩, ⟨#[100, 99, 98, 97]⟩]
def eTab : List (List Bool) := [[true, true, true, true, true, true], [false, true, true, true, true, true], [true, true, false, true, true, true], [false, false, true, true, true, true], [true, false, false, true, true, true], [false, false, false, true, true, true], [true, true, true, true, true, false], [false, true, true, true, true, false], [true, true, false, true, false, true], [false, false, true, false, true, true], [true, false, false, true, false, true], [false, false, false, false, true, true], [true, true, true, true, false, false], [false, true, true, false, true, false], [true, true, false, true, false, false], [false, false, true, false, true, false], [true, false, false, false, false, true], [false, false, false, false, false, true], [true, true, true, false, false, false], [false, true, true, false, false, false], [true, true, false, false, false, false], [false, false, true, false, false, false], [true, false, false, false, false, false], [false, false, false, false, false, false]]
def ordT (n : Nat) : Str := oTab.getD n (Str.ofString "")
def implB : List Bool → List Bool → Bool
  | a :: r, b :: q => (!a || b) && implB r q
  | _, _ => true
def chkM (s : Nat) (res : SD) (n : Nat) : Bool :=
  let o := ordT n
  let q := (getS res o).getD 3
  implB (eTab.getD s []) (eTab.getD n []) == decide (q = 0) && withinF o (nBs s) == some (decide (q ≤ 1)) && belowF o (ordT s) == decide (q ≤ 2)
def chkS (s : Nat) : Bool := match toldF (ordT s) with
  | none => false
  | some res => (List.range 24).all fun n => chkM s res n
theorem ord_all : ((List.range 24).all fun n => decide (orderF (nBs n) = ordT n)) = true := by decide +kernel
theorem cut_all : ((List.range 24).all fun n => cutOK (ordT n)) = true := by decide +kernel
theorem ell_all : ((List.range 24).all fun n => decide (pairs6.map (fun p => ellF p.1 p.2 (ordT n)) = eTab.getD n [])) = true := by decide +kernel
theorem chk_s0 : chkS 0 = true := by decide +kernel
theorem chk_s1 : chkS 1 = true := by decide +kernel
theorem chk_s2 : chkS 2 = true := by decide +kernel
theorem chk_s3 : chkS 3 = true := by decide +kernel
theorem chk_s4 : chkS 4 = true := by decide +kernel
theorem chk_s5 : chkS 5 = true := by decide +kernel
theorem chk_s6 : chkS 6 = true := by decide +kernel
theorem chk_s7 : chkS 7 = true := by decide +kernel
theorem chk_s8 : chkS 8 = true := by decide +kernel
theorem chk_s9 : chkS 9 = true := by decide +kernel
theorem chk_s10 : chkS 10 = true := by decide +kernel
theorem chk_s11 : chkS 11 = true := by decide +kernel
theorem chk_s12 : chkS 12 = true := by decide +kernel
theorem chk_s13 : chkS 13 = true := by decide +kernel
theorem chk_s14 : chkS 14 = true := by decide +kernel
theorem chk_s15 : chkS 15 = true := by decide +kernel
theorem chk_s16 : chkS 16 = true := by decide +kernel
theorem chk_s17 : chkS 17 = true := by decide +kernel
theorem chk_s18 : chkS 18 = true := by decide +kernel
theorem chk_s19 : chkS 19 = true := by decide +kernel
theorem chk_s20 : chkS 20 = true := by decide +kernel
theorem chk_s21 : chkS 21 = true := by decide +kernel
theorem chk_s22 : chkS 22 = true := by decide +kernel
theorem chk_s23 : chkS 23 = true := by decide +kernel
theorem chk_every : ∀ s, s < 24 → chkS s = true
  | 0, _ => chk_s0
  | 1, _ => chk_s1
  | 2, _ => chk_s2
  | 3, _ => chk_s3
  | 4, _ => chk_s4
  | 5, _ => chk_s5
  | 6, _ => chk_s6
  | 7, _ => chk_s7
  | 8, _ => chk_s8
  | 9, _ => chk_s9
  | 10, _ => chk_s10
  | 11, _ => chk_s11
  | 12, _ => chk_s12
  | 13, _ => chk_s13
  | 14, _ => chk_s14
  | 15, _ => chk_s15
  | 16, _ => chk_s16
  | 17, _ => chk_s17
  | 18, _ => chk_s18
  | 19, _ => chk_s19
  | 20, _ => chk_s20
  | 21, _ => chk_s21
  | 22, _ => chk_s22
  | 23, _ => chk_s23
  | _ + 24, h => absurd h (by omega)
end Mine

-- P3
namespace Mine
open PySem PySem.Spec PySem.Calls PyProof.Rows PySem.W
theorem cutOK.len {o : Str} (h : cutOK o = true) : o.length = 4 := by
  unfold cutOK at h
  simp only [Bool.and_eq_true, beq_iff_eq] at h
  exact h.1.1
theorem cutOK.rev {o : Str} (h : cutOK o = true) : (revF o).cps.size ≤ 10 := by
  unfold cutOK at h
  simp only [Bool.and_eq_true, decide_eq_true_eq] at h
  exact h.1.2
theorem cutOK.cut {o : Str} (h : cutOK o = true) : ∀ i, i < 3 → (cutS o i).cps.size < 64 := by
  unfold cutOK at h
  simp only [Bool.and_eq_true, List.all_eq_true, decide_eq_true_eq] at h
  exact fun i hi => h.2 i (List.mem_range.mpr hi)
theorem ord_at {n : Nat} (h : n < 24) : orderF (nBs n) = ordT n := of_decide_eq_true (List.all_eq_true.mp ord_all n (List.mem_range.mpr h))
theorem cut_at {n : Nat} (h : n < 24) : cutOK (ordT n) = true := List.all_eq_true.mp cut_all n (List.mem_range.mpr h)
theorem ell_at {n : Nat} (h : n < 24) : pairs6.map (fun p => ellF p.1 p.2 (ordT n)) = eTab.getD n [] := of_decide_eq_true (List.all_eq_true.mp ell_all n (List.mem_range.mpr h))
theorem keeps_filter (o st : Str) : ∀ ps : List (Str × Str), keepsF (ps.filter fun p => ellF p.1 p.2 st) o = implB (ps.map fun p => ellF p.1 p.2 st) (ps.map fun p => ellF p.1 p.2 o)
  | [] => rfl
  | p :: r => by
    rw [List.filter_cons, List.map_cons, List.map_cons]
    show _ = ((!ellF p.1 p.2 st || ellF p.1 p.2 o) && implB _ _)
    rw [← keeps_filter o st r]
    cases ellF p.1 p.2 st with
    | true => rfl
    | false => rfl
theorem nBs_of {b1 b2 b3 : Int} (h1 : 0 ≤ b1) (h1' : b1 < 2) (h2 : 0 ≤ b2) (h2' : b2 < 3) (h3 : 0 ≤ b3) (h3' : b3 < 4) : ∃ s, s < 24 ∧ nBs s = [0, b1, b2, b3] := by
  refine ⟨(b1 + 2 * b2 + 6 * b3).toNat, by omega, ?_⟩
  unfold nBs
  rw [Int.toNat_of_nonneg (by omega)]
  rw [show (b1 + 2 * b2 + 6 * b3) % 2 = b1 by omega, show (b1 + 2 * b2 + 6 * b3) / 2 % 3 = b2 by omega, show (b1 + 2 * b2 + 6 * b3) / 6 = b3 by omega]
theorem chk_told {b1 b2 b3 : Int} (h1 : 0 ≤ b1) (h1' : b1 < 2) (h2 : 0 ≤ b2) (h2' : b2 < 3) (h3 : 0 ≤ b3) (h3' : b3 < 4) :
    cutOK (orderF [0, b1, b2, b3]) = true ∧ ∃ res, toldF (orderF [0, b1, b2, b3]) = some res ∧ ∀ n, n < 24 → chkN [0, b1, b2, b3] (orderF [0, b1, b2, b3]) (pairs6.filter fun p => ellF p.1 p.2 (orderF [0, b1, b2, b3])) res n = true := by
  obtain ⟨s, hs, e⟩ := nBs_of h1 h1' h2 h2' h3 h3'
  rw [← e, ord_at hs]
  refine ⟨cut_at hs, ?_⟩
  have h := chk_every s hs
  unfold chkS at h
  cases q : toldF (ordT s) with
  | none => rw [q] at h; exact absurd h Bool.false_ne_true
  | some res =>
    rw [q] at h
    dsimp only at h
    refine ⟨res, rfl, fun n hn => ?_⟩
    have z := List.all_eq_true.mp h n (List.mem_range.mpr hn)
    unfold chkM at z
    unfold chkN
    dsimp only at z ⊢
    rw [ord_at hn, keeps_filter, ell_at hs, ell_at hn, cut_at hn, Bool.true_and]
    exact z
end Mine

-- P4
namespace Mine
open PySem PySem.Spec PySem.Calls PyProof.Rows PySem.W
theorem nBs_fm (i : Nat) : [(0 : Int), (0 + (i : Int)).fmod 2, ((0 + (i : Int)).fdiv 2).fmod 3, (0 + (i : Int)).fdiv 6] = nBs i := by
  unfold nBs
  rw [Int.zero_add, Int.fmod_eq_emod_of_nonneg _ (by decide), Int.fmod_eq_emod_of_nonneg _ (by decide), Int.fdiv_eq_ediv_of_nonneg _ (by decide), Int.fdiv_eq_ediv_of_nonneg _ (by decide)]
theorem nBs_bd {n : Nat} (h : n < 24) : ∀ i, i < 4 → 0 ≤ (nBs n).getD i 0 ∧ (nBs n).getD i 0 < 10 := by
  intro i hi
  unfold nBs
  rcases i with _ | _ | _ | _ | i
  · exact ⟨Int.le_refl _, by show (0 : Int) < 10; decide⟩
  · show 0 ≤ (n : Int) % 2 ∧ (n : Int) % 2 < 10; omega
  · show 0 ≤ (n : Int) / 2 % 3 ∧ (n : Int) / 2 % 3 < 10; omega
  · show 0 ≤ (n : Int) / 6 ∧ (n : Int) / 6 < 10; omega
  · omega
theorem chkN_parts {bs : List Int} {start : Str} {ps : List (Str × Str)} {res : SD} {n : Nat} (h : chkN bs start ps res n = true) :
    cutOK (orderF (nBs n)) = true ∧ keepsF ps (orderF (nBs n)) = decide ((getS res (orderF (nBs n))).getD 3 = 0) ∧ withinF (orderF (nBs n)) bs = some (decide ((getS res (orderF (nBs n))).getD 3 ≤ 1)) ∧ belowF (orderF (nBs n)) start = decide ((getS res (orderF (nBs n))).getD 3 ≤ 2) := by
  unfold chkN at h
  dsimp only at h
  simp only [Bool.and_eq_true, beq_iff_eq] at h
  exact ⟨h.1.1.1, h.1.1.2, h.1.2, h.2⟩
end Mine
namespace Mine
theorem bad_eq {z k : Int} (h : (decide (z = k) != (z == k)) = true) : False := by
  by_cases e : z = k <;> simp [e] at h
theorem bad_xx {b : Bool} (h : (b != b) = true) : False := by
  cases b <;> cases h
end Mine

-- N1
namespace Mine
open PySem PySem.Spec PySem.Calls PyProof.Rows PySem.W PyProof.Rows.LCg
abbrev nestE (elt it1 it2 c : PySem.Expr) (y x : Str) (py px : Pos) (scope : Scope) (pos : Pos) : PySem.Expr := .ListComp elt [⟨.Name y py, it1, [], 0⟩, ⟨.Name x px, it2, [c], 0⟩] scope pos
theorem turn_out (elt it1 it2 c : PySem.Expr) (y x : Str) (py px : Pos) (scope : Scope) (pos : Pos) (it acc : Value) (env : Env) :
    compTurn (nestE elt it1 it2 c y x py px scope pos) 0 it acc env = (standAt it1.pos >>= fun _ => pyNext it >>= fun r => match r with
      | none => pure (.done .next)
      | some v => letOwnedTupleGo (.Name y py) it v >>= fun _ => assign (.Name y py) env v >>= fun _ =>
        eval it2 env >>= fun a => standAt it2.pos >>= fun _ => foldedSetIterable it2 env a >>= fun a => holding [a] (pyIter a) >>= fun i => runOwn (.compStart (nestE elt it1 it2 c y x py px scope pos) 1 i acc env) env >>= fun _ =>
          again (.compLoop (nestE elt it1 it2 c y x py px scope pos) 0 it acc env)) := by rfl
theorem turn_in (elt it1 it2 c : PySem.Expr) (y x : Str) (py px : Pos) (scope : Scope) (pos : Pos) (it acc : Value) (env : Env) :
    compTurn (nestE elt it1 it2 c y x py px scope pos) 1 it acc env = (do
      standAt it2.pos
      match ← pyNext it with
      | none => pure (.done .next)
      | some v =>
        letOwnedTupleGo (.Name x px) it v
        assign (.Name x px) env v
        let mut ok := true
        for c in [c] do
          if ok then ok ← isTrue c env (eval c env)
        if ok then
          (do let _ ← call (.builtin "list.append") [acc, ← eval elt env])
        again (.compLoop (nestE elt it1 it2 c y x py px scope pos) 1 it acc env)) := by rfl
section
variable {prog : Program} {w : World} {A : Around} {E : Value → Shared → Prop} {s : Shared} {elt it1 it2 c : PySem.Expr} {y x : Str} {py px : Pos} {scope : Scope} {pos : Pos} {it acc : Value} {env : Env} {R : Result → Shared → Prop}
theorem in_loop (I : Nat → Shared → Prop)
    (turn : ∀ n s, I n s → wpAny (model prog w) A (pyNext it) (fun r s₁ => match r with
      | none => R (.ok .next) s₁
      | some v => wpAny (model prog w) A (assign (.Name x px) env v) (fun _ s₂ =>
          wpAny (model prog w) A (isTrue c env (eval c env)) (fun ok s₃ => if ok = true then wpAny (model prog w) A (eval elt env) (fun a s₄ =>
            wpAny (model prog w) A (call (.builtin "list.append") [acc, a]) (fun _ s₅ => ∃ m, m < n ∧ I m s₅) (notedBy (model prog w) A env fun e s' => R (.error e) s') s₄) (notedBy (model prog w) A env fun e s' => R (.error e) s') s₃
            else ∃ m, m < n ∧ I m s₃) (notedBy (model prog w) A env fun e s' => R (.error e) s') s₂)
          (notedBy (model prog w) A env fun e s' => R (.error e) s') s₁) (notedBy (model prog w) A env fun e s' => R (.error e) s') s)
    (n : Nat) (h : I n s) : codeAny (model prog w) A (.compLoop (nestE elt it1 it2 c y x py px scope pos) 1 it acc env) R s := by
  refine codeAny_loop rfl I (fun n s hI => ?_) n h
  show wpAny _ A ((compTurn (nestE elt it1 it2 c y x py px scope pos) 1 it acc env).onRaise (fun x => do noteFrame x env; theTreesLotGoes x)) _ _ s
  refine wpAny_noted ?_
  rw [turn_in]
  refine wpAny_bind (wpAny_standAt (wpAny_bind (wpAny_mono (turn n s hI) (fun r s₁ h₁ => ?_) fun _ _ h' => h')))
  cases r with
  | none => exact wpAny_pure h₁
  | some v =>
    refine wpAny_bind (wpAny_of_eq (rfl : letOwnedTupleGo (.Name x px) it v = pure ()) ?_)
    refine wpAny_bind (wpAny_mono h₁ (fun _ s₂ h₂ => ?_) fun _ _ h' => h')
    refine wpAny_bind (wpAny_tests_one (wpAny_mono h₂ (fun okb s₃ h₃ => ?_) fun _ _ h' => h'))
    cases okb with
    | false => exact wpAny_pure ⟨rfl, h₃⟩
    | true => exact wpAny_bind (wpAny_bind (wpAny_mono h₃ (fun x s₄ h₄ => wpAny_bind (wpAny_mono h₄ (fun _ s₅ h₅ => wpAny_pure (wpAny_pure ⟨rfl, h₅⟩)) fun _ _ h' => h')) fun _ _ h' => h'))
theorem start_in (h0 : codeAny (model prog w) A (.compLoop (nestE elt it1 it2 c y x py px scope pos) 1 it acc env) R s)
    (h : wpAny (model prog w) A (pyIter it) (fun it' s' => codeAny (model prog w) A (.compLoop (nestE elt it1 it2 c y x py px scope pos) 1 it' acc env) R s')
      (notedBy (model prog w) A env fun x s' => R (.error x) s') s) :
    codeAny (model prog w) A (.compStart (nestE elt it1 it2 c y x py px scope pos) 1 it acc env) R s := by
  refine codeAny_of_tree ?_
  show wpAny _ _ ((compStart (nestE elt it1 it2 c y x py px scope pos) 1 it acc env).onRaise (fun x => do noteFrame x env; standAt theWindowsPlace)) _ _ s
  refine wpAny_notedAt ?_
  unfold compStart
  show wpAny _ _ (ask >>= _) _ _ s
  refine wpAny_bind (wpAny_askSetting (wpAny_ite ?_))
  split
  · first
      | exact wpAny_bind (wpAny_pure (wpAny_pure (And.intro rfl h0)))
      | exact wpAny_pure (And.intro rfl h0)
  · first
      | exact wpAny_bind (wpAny_rule (wpAny_bind (wpAny_standAt (wpAny_bind (wpAny_mono h (fun it' s' h' => wpAny_pure (And.intro rfl h')) fun _ _ x => x)))))
      | (refine wpAny_bind (wpAny_rule ?_); show wpAny _ _ (standAt it2.pos >>= _) _ _ s; exact wpAny_bind (wpAny_standAt (wpAny_bind (wpAny_mono h (fun it' s' h' => wpAny_pure (And.intro rfl h')) fun _ _ x => x))))
theorem out_loop (I : Nat → Shared → Prop) (hs : ∀ a, foldedSetIterable it2 env a = pure a)
    (turn : ∀ n s, I n s → wpAny (model prog w) A (pyNext it) (fun r s₁ => match r with
      | none => R (.ok .next) s₁
      | some v => wpAny (model prog w) A (assign (.Name y py) env v) (fun _ s₂ =>
          wpAny (model prog w) A (eval it2 env) (fun a s₃ => wpAny (model prog w) A (pyIter a) (fun i s₄ =>
            codeAny (model prog w) (A.mark none) (.compStart (nestE elt it1 it2 c y x py px scope pos) 1 i acc env) (fun r s' => match r with
              | .ok _ => ∃ m, m < n ∧ I m s'
              | .error e => cameBackBy (model prog w) A env (notedBy (model prog w) A env fun e s' => R (.error e) s') e s') s₄) (notedBy (model prog w) A env fun e s' => R (.error e) s') s₃) (notedBy (model prog w) A env fun e s' => R (.error e) s') s₂)
          (notedBy (model prog w) A env fun e s' => R (.error e) s') s₁) (notedBy (model prog w) A env fun e s' => R (.error e) s') s)
    (n : Nat) (h : I n s) : codeAny (model prog w) A (.compLoop (nestE elt it1 it2 c y x py px scope pos) 0 it acc env) R s := by
  refine codeAny_loop rfl I (fun n s hI => ?_) n h
  show wpAny _ A ((compTurn (nestE elt it1 it2 c y x py px scope pos) 0 it acc env).onRaise (fun x => do noteFrame x env; theTreesLotGoes x)) _ _ s
  refine wpAny_noted ?_
  rw [turn_out]
  refine wpAny_bind (wpAny_standAt (wpAny_bind (wpAny_mono (turn n s hI) (fun r s₁ h₁ => ?_) fun _ _ h' => h')))
  cases r with
  | none => exact wpAny_pure h₁
  | some v =>
    refine wpAny_bind (wpAny_of_eq (rfl : letOwnedTupleGo (.Name y py) it v = pure ()) ?_)
    refine wpAny_bind (wpAny_mono h₁ (fun _ s₂ h₂ => ?_) fun _ _ h' => h')
    refine wpAny_bind (wpAny_mono h₂ (fun a s₃ h₃ => ?_) fun _ _ h' => h')
    refine wpAny_bind (wpAny_standAt (wpAny_bind (wpAny_of_eq (hs a) (wpAny_bind (wpAny_holding (wpAny_mono h₃ (fun i s₄ h₄ => ?_) fun _ _ h' => h'))))))
    refine wpAny_bind (wpAny_runOwn (codeAny_mono h₄ fun r s' hr => ?_))
    cases r with
    | ok f => exact wpAny_pure ⟨rfl, hr⟩
    | error e => exact hr
end
end Mine

-- N2
namespace Mine
open PySem PySem.Spec PySem.Calls PyProof.Rows PySem.W PyProof.Rows.LCg
theorem strs_snoc {vs : List Value} {xs : List Str} (h : StrsAre vs xs) (x : Str) (t : Tok) : StrsAre (vs ++ [.str x t]) (xs ++ [x]) := by
  induction h with
  | nil => exact .cons _ _ .nil
  | cons y u _ ih => exact .cons _ _ ih
theorem take_one {α : Type} {l : List α} {i : Nat} {a : α} (h : l[i]? = some a) : l.take (i + 1) = l.take i ++ [a] := by
  rw [List.take_add_one, h]; rfl
section
variable {prog : Program} {w : World} {A : Around} {E : Value → Shared → Prop} {s : Shared} {h₀ : Heap} {L : Addr} {m : Str → Option Value} {env : Env} {news : List (Addr × Obj)}
theorem nest_assign {elt it1 it2 c : PySem.Expr} {y x v : Str} {py px pv : Pos} {scope : Scope} {cl : List (Str × Addr)} {pos spos : Pos} {Q : Flow → Shared → Prop} {z1 z2 : Str} (T : Nat → Nat → Bool) (G : Nat → Nat → Str)
    (F : Fr h₀ L s.heap m) (N : News h₀ L s.heap news) (hh : A.handled = none) (hLe : env.locals = L) (hsw : swapsWith (nestE elt it1 it2 c y x py px scope pos) (some (.Name v pv)) spos.line env = pure true)
    (hv : env.kindOf v = some .local) (hp : (env.scope.kind == .class || (env.scope.kind == .module && env.locals != env.globals)) = false) (hclos : closureFor scope env = pure cl) (hcell : ∀ y ∈ scope.names, y.2 ≠ .cell) (hkind : scope.kind = .function)
    (hnames : ∀ y ∈ scope.names, y.2 = .local → scope.names.lookup y.1 = some .local) (hxa : scope.names.lookup y = some .local) (hxb : scope.names.lookup x = some .local) (hab : ¬ y = x)
    (hz1 : z1.cps.size ≤ 10) (hz2 : z2.cps.size ≤ 10) (hs1 : ∀ x, foldedSetIterable it1 env x = pure x) (hs2 : ∀ C a, foldedSetIterable it2 (compEnvC scope cl C env) a = pure a)
    (h1 : wpAny (model prog w) A (eval it1 env) (fun v s' => ∃ t tk, v = .str z1 t ∧ s' = { s with toks := tk }) E s)
    (h2 : ∀ C s' E', wpAny (model prog w) A (eval it2 (compEnvC scope cl C env)) (fun v s'' => ∃ t tk, v = .str z2 t ∧ s'' = { s' with toks := tk }) E' s')
    (turn : ∀ cy cx ty tx C oC m₂ g tk E', cy ∈ z1.cps.toList → cx ∈ z2.cps.toList → NsObj oC m₂ → m₂ y = some (.str ⟨#[cy]⟩ ty) → m₂ x = some (.str ⟨#[cx]⟩ tx) → Fr h₀ L g m → News h₀ L g ((C, oC) :: news) → (∀ p ∈ news, p.1 ≠ C) →
      wpAny (model prog w) A (isTrue c (compEnvC scope cl C env) (eval c (compEnvC scope cl C env))) (TestEnd prog w A (compEnvC scope cl C env) elt (T cy cx) (fun v => ∃ t, v = .str (G cy cx) t) E' { s with heap := g, toks := tk }) E' { s with heap := g, toks := tk })
    (fin : ∀ D g tk vs, Fr h₀ L g (fun z => if z = v then some (.ref D) else m z) → News h₀ L g ((D, lst vs) :: news) → (∀ p ∈ news, p.1 ≠ D) → StrsAre vs (z1.cps.toList.flatMap fun cy => (z2.cps.toList.filter (T cy)).map (G cy)) → Q .next { s with heap := g, toks := tk }) :
    wpAny (model prog w) A (exec (.Assign [.Name v pv] (nestE elt it1 it2 c y x py px scope pos) spos) env) Q E s := by
  subst hLe
  rw [exec_Assign_Name_used _ _ _ _ hsw]
  refine wpAny_bind (wpAny_standAt (wpAny_bind ?_))
  show wpAny _ A (do let _ ← comprehension (nestE elt it1 it2 c y x py px scope pos) scope env _ (newList []) false (eval it1 env) (some (assign (.Name v pv) env))) _ _ s
  refine wpAny_bind (wpAny_mono (wpAny_comprehension_free (use := some (assign (.Name v pv) env)) (Q := fun _ s' => Q .next s') rfl hs1 hclos hkind hnames
    (wpAny_mono h1 (fun xv s₁ h₁ => ?_) fun _ _ e => e)) (fun _ s' hq => wpAny_pure (wpAny_pure hq)) fun _ _ e => e)
  obtain ⟨t1, tk1, rfl, rfl⟩ := h₁
  refine wpAny_pyIter_str fun o1 St1 W1' hst1 => ?_
  have W1 := W1' A hh
  dsimp only at W1 hst1 ⊢
  generalize hI1 : s.heap.objs.size = I1 at W1 hst1 ⊢
  generalize hH1 : s.heap.push o1 = H1 at hst1 ⊢
  have hH1s : H1.objs.size = I1 + 1 := by rw [← hH1, Heap.size_push, hI1]
  refine wpAny_newObj_type (wpAny_newFunctionEnv hcell (by intro y hy; simp at hy) (fun g₁ hns₁ hsb₁ => ?_) hkind)
  dsimp only at hns₁ hsb₁ ⊢
  generalize hH2 : H1.push { cls := .type "list", dict := none, data := .seq ([] : List Value).toArray } = H2 at hns₁ hsb₁ ⊢
  have hC : H2.objs.size = I1 + 2 := by rw [← hH2, Heap.size_push, hH1s]
  rw [hH1s]
  rw [hC] at hns₁ hsb₁ ⊢
  have old1 : ∀ b o, H1.get? b = some o → g₁.get? b = some o := fun b o e => by
    have hlt := Heap.lt_size e
    rw [hH1s] at hlt
    exact hsb₁.extBut b o (by unfold Addr at *; omega) (Heap.get?_push_of_some _ (hH2 ▸ Heap.get?_push_of_some _ e))
  have old : ∀ b o, s.heap.get? b = some o → g₁.get? b = some o := fun b o e => old1 b o (hH1 ▸ Heap.get?_push_of_some _ e)
  have hacc : g₁.get? (I1 + 1) = some (lst []) := hsb₁.extBut _ _ (by unfold Addr at *; omega) (Heap.get?_push_of_some _ (hH2 ▸ hH1s ▸ Heap.get?_push_size _ rfl))
  have lt0 : ∀ b o, s.heap.get? b = some o → b < I1 := fun b o e => hI1 ▸ Heap.lt_size e
  have hLlt : env.locals < I1 := hI1 ▸ F.ns.lt
  have fresh₀ : ∀ a, I1 ≤ a → h₀.get? a = none := fun a ha => by
    cases e : h₀.get? a with
    | none => rfl
    | some o' => exact absurd (lt0 a o' (F.keep a o' e)) (Nat.not_lt.mpr ha)
  have F2 : ∀ g, (∀ b o, s.heap.get? b = some o → g.get? b = some o) → Fr h₀ env.locals g m := fun g hk => keep_fr F hk
  have N2 : ∀ g, (∀ b o, s.heap.get? b = some o → g.get? b = some o) → News h₀ env.locals g news := fun g hk => keep_news N hk
  have loop : ∀ s₃ : Shared, (∃ tk, s₃ = { s with heap := g₁, toks := tk }) →
      codeAny (model prog w) A (.compLoop (nestE elt it1 it2 c y x py px scope pos) 0 (.ref I1) (.ref (I1 + 1)) (compEnvC scope cl (I1 + 2) env))
        (compPost (model prog w) A E (some (assign (.Name v pv) env)) (fun _ s' => Q .next s') (.ref (I1 + 1)) (I1 + 2)) s₃ := by
    rintro s₃ ⟨tk3, rfl⟩
    refine out_loop
      (fun k s' => ∃ h' tk i vs m', s' = { s with heap := h', toks := tk } ∧ i ≤ z1.cps.size ∧ k = z1.cps.size + 1 - i ∧ vs.length ≤ i * 10 ∧ StrsAre vs ((z1.cps.toList.take i).flatMap fun cy => (z2.cps.toList.filter (T cy)).map (G cy)) ∧ St1 i h' ∧ h'.Ns (I1 + 2) m' ∧
        h'.get? (I1 + 1) = some (lst vs) ∧ (∀ b o, s.heap.get? b = some o → h'.get? b = some o)) (hs2 _) ?_ (z1.cps.size + 1)
      ⟨g₁, _, 0, [], _, rfl, Nat.zero_le _, rfl, Nat.zero_le _, .nil, W1.frame 0 _ _ hst1 fun b _ o e => old1 b o e, hns₁, hacc, old⟩
    rintro k s' ⟨h', tk, i, vs, m', rfl, hi, rfl, hvl, hvs, hst', hn', hD', hk'⟩
    by_cases hlt : i < z1.cps.size
    · refine W1.item i _ _ _ hlt hst' fun v g₂ tk₂ hv hst₂ hk₂ => ?_
      obtain ⟨cy, ty, hcy, rfl⟩ := hv
      have up₂ : ∀ b o, b ≠ I1 → h'.get? b = some o → g₂.get? b = some o := fun b o hb e => hk₂ b o (by simpa using hb) e
      refine wpAny_assign_Name (wpAny_storeName_local (lookup_relabel_local hxa) (hn'.at' fun o e => up₂ _ o (by unfold Addr at *; omega) e) (fun g₃ hn₃ hs₃ => ?_) (by simp [compEnvC, relabel, hkind]))
      have nI : I1 ≠ I1 + 2 := by omega
      have up₃ : ∀ b o, b ≠ I1 → b ≠ I1 + 2 → h'.get? b = some o → g₃.get? b = some o := fun b o hb hb2 e => hs₃.extBut b o hb2 (up₂ b o hb e)
      have st₃ : St1 (i + 1) g₃ := W1.frame _ _ _ hst₂ fun b hb o e => hs₃.extBut b o (by rw [List.mem_singleton.mp hb]; exact nI) e
      refine wpAny_mono (h2 (I1 + 2) _ _) (fun a s₄ h₄ => ?_) fun _ _ e => e
      obtain ⟨t2, tk4, rfl, rfl⟩ := h₄
      refine wpAny_pyIter_str fun o2 St2 W2' hst2 => ?_
      rw [Around.mark_none]
      have W2 := W2' A hh
      dsimp only at W2 hst2 ⊢
      have hI2 : I1 + 2 < g₃.objs.size := hn₃.lt
      generalize hI2e : g₃.objs.size = I2 at W2 hst2 hI2 ⊢
      generalize hG : g₃.push o2 = g₄ at hst2 ⊢
      have old4 : ∀ b o, g₃.get? b = some o → g₄.get? b = some o := fun b o e => hG ▸ Heap.get?_push_of_some _ e
      have kp4 : ∀ b o, s.heap.get? b = some o → g₄.get? b = some o := fun b o e => by
        have := lt0 b o e
        exact old4 b o (up₃ b o (by unfold Addr at *; omega) (by unfold Addr at *; omega) (hk' b o e))
      refine (fun l => start_in l (W2.self 0 _ _ _ hst2 l)) ?_
      refine in_loop
        (fun k s' => ∃ h' tk j us m', s' = { s with heap := h', toks := tk } ∧ j ≤ z2.cps.size ∧ k = z2.cps.size + 1 - j ∧ us.length ≤ i * 10 + j ∧
          StrsAre us (((z1.cps.toList.take i).flatMap fun cy => (z2.cps.toList.filter (T cy)).map (G cy)) ++ ((z2.cps.toList.take j).filter (T cy)).map (G cy)) ∧ St1 (i + 1) h' ∧ St2 j h' ∧ h'.Ns (I1 + 2) m' ∧ m' y = some (.str ⟨#[cy]⟩ ty) ∧
          h'.get? (I1 + 1) = some (lst us) ∧ (∀ b o, s.heap.get? b = some o → h'.get? b = some o)) ?_ (z2.cps.size + 1)
        ⟨g₄, _, 0, vs, _, rfl, Nat.zero_le _, rfl, hvl, by simpa using hvs, W1.frame _ _ _ st₃ fun b _ o e => old4 b o e, hst2, hn₃.at' fun o e => old4 _ o e, by simp, old4 _ _ (up₃ _ _ (by unfold Addr at *; omega) (by unfold Addr at *; omega) hD'), kp4⟩
      rintro k s' ⟨q', tq, j, us, mq, rfl, hj, rfl, hul, hus, hq1, hq2, hqn, hqy, hqD, hqk⟩
      by_cases hlt2 : j < z2.cps.size
      · refine W2.item j _ _ _ hlt2 hq2 fun v g₅ tk₅ hv hst₅ hk₅ => ?_
        obtain ⟨cx, tx, hcx, rfl⟩ := hv
        have up₅ : ∀ b o, b ≠ I2 → q'.get? b = some o → g₅.get? b = some o := fun b o hb e => hk₅ b o (by simpa using hb) e
        refine wpAny_assign_Name (wpAny_storeName_local (lookup_relabel_local hxb) (hqn.at' fun o e => up₅ _ o (by unfold Addr at *; omega) e) (fun g₆ hn₆ hs₆ => ?_) (by simp [compEnvC, relabel, hkind]))
        have up₆ : ∀ b o, b ≠ I2 → b ≠ I1 + 2 → q'.get? b = some o → g₆.get? b = some o := fun b o hb hb2 e => hs₆.extBut b o hb2 (up₅ b o hb e)
        have k₆ : ∀ b o, s.heap.get? b = some o → g₆.get? b = some o := fun b o e => by
          have := lt0 b o e
          exact up₆ b o (by unfold Addr at *; omega) (by unfold Addr at *; omega) (hqk b o e)
        have s1₆ : St1 (i + 1) g₆ := W1.frame _ _ _ hq1 fun b hb o e => by
          rw [List.mem_singleton.mp hb] at e ⊢
          exact up₆ _ o (by unfold Addr at *; omega) (by unfold Addr at *; omega) e
        have s2₆ : St2 (j + 1) g₆ := W2.frame _ _ _ hst₅ fun b hb o e => by
          rw [List.mem_singleton.mp hb] at e ⊢
          exact hs₆.extBut _ o (show I2 ≠ I1 + 2 by unfold Addr at *; omega) e
        have D₆ := up₆ _ _ (by unfold Addr at *; omega) (by unfold Addr at *; omega) hqD
        obtain ⟨oC, heC, hoC⟩ := ns_obj hn₆
        have N₆ : News h₀ env.locals g₆ ((I1 + 2, oC) :: news) := fun p hp => by
          rcases List.mem_cons.mp hp with rfl | hp
          · exact ⟨heC, by unfold Addr at *; omega, fresh₀ _ (by unfold Addr at *; omega)⟩
          · exact N2 g₆ k₆ p hp
        have hcyl : z1.cps.toList[i]? = some cy := by rw [Array.getElem?_toList]; exact hcy
        have hcxl : z2.cps.toList[j]? = some cx := by rw [Array.getElem?_toList]; exact hcx
        refine wpAny_mono (turn cy cx ty tx (I1 + 2) oC _ g₆ _ _ (List.mem_of_getElem? hcyl) (List.mem_of_getElem? hcxl) hoC (by simp [hab, hqy]) (by simp) (F2 g₆ k₆) N₆ (fun p hp => by
          have := lt0 _ _ (N p hp).1
          unfold Addr at *; omega)) (fun okb s₇ h₇ => ?_) fun _ _ e => e
        obtain ⟨g₇, tk₇, rfl, hk₇, rfl, helt⟩ := h₇
        dsimp only at hk₇
        have hstep : ((z2.cps.toList.take (j + 1)).filter (T cy)).map (G cy) = ((z2.cps.toList.take j).filter (T cy)).map (G cy) ++ (if T cy cx = true then [G cy cx] else []) := by
          rw [take_one hcxl, List.filter_append, List.map_append]
          congr 1
          simp only [List.filter_cons, List.filter_nil]
          split <;> rfl
        cases hT : T cy cx with
        | false =>
          simp only [Bool.false_eq_true, if_false]
          refine ⟨z2.cps.size + 1 - (j + 1), by omega, g₇, tk₇, j + 1, us, _, rfl, hlt2, rfl, by omega, ?_, W1.frame _ _ _ s1₆ fun b _ o e => hk₇ b o e, W2.frame _ _ _ s2₆ fun b _ o e => hk₇ b o e, hoC.ns (hk₇ _ _ heC), by simp [hab, hqy], hk₇ _ _ D₆, fun b o e => hk₇ b o (k₆ b o e)⟩
          rw [hstep, hT]; simpa using hus
        | true =>
          simp only [if_true]
          refine wpAny_mono (helt hT) (fun v s₈ h₈ => ?_) fun _ _ e => e
          obtain ⟨g₈, tk₈, rfl, hk₈, tv, rfl⟩ := h₈
          have kk₈ : ∀ b o, g₆.get? b = some o → g₈.get? b = some o := fun b o e => hk₈ b o (hk₇ b o e)
          refine append_at (hsz := by
            show us.toArray.size ≤ sizeLine
            rw [List.size_toArray, sizeLine]
            omega) (kk₈ _ _ D₆) fun g₉ hs₉ hD₉ => ?_
          refine ⟨z2.cps.size + 1 - (j + 1), by omega, g₉, tk₈, j + 1, us ++ [.str (G cy cx) tv], _, rfl, hlt2, rfl, by rw [List.length_append, List.length_singleton]; omega, ?_, W1.frame _ _ _ s1₆ fun b hb o e => ?_, W2.frame _ _ _ s2₆ fun b hb o e => ?_,
            hoC.ns (hs₉.extBut _ _ (by unfold Addr at *; omega) (kk₈ _ _ heC)), by simp [hab, hqy], hD₉.trans (congrArg some (lst_snoc us _)), fun b o e => ?_⟩
          · rw [hstep, hT, ← List.append_assoc]
            exact strs_snoc hus _ _
          · rw [List.mem_singleton.mp hb] at e ⊢
            exact hs₉.extBut _ o (by unfold Addr at *; omega) (kk₈ _ o e)
          · rw [List.mem_singleton.mp hb] at e ⊢
            exact hs₉.extBut _ o (by unfold Addr at *; omega) (kk₈ _ o e)
          · have := lt0 b o e
            exact hs₉.extBut b o (by unfold Addr at *; omega) (kk₈ b o (k₆ b o e))
      · have hin : j = z2.cps.size := Nat.le_antisymm hj (Nat.not_lt.mp hlt2)
        subst hin
        refine W2.done _ _ _ hq2 fun g tk₂ hk₂ => ?_
        have up₂ : ∀ b o, b ≠ I2 → q'.get? b = some o → g.get? b = some o := fun b o hb e => hk₂ b o (by simpa using hb) e
        have hcyl : z1.cps.toList[i]? = some cy := by rw [Array.getElem?_toList]; exact hcy
        refine ⟨z1.cps.size + 1 - (i + 1), by omega, g, tk₂, i + 1, us, mq, rfl, hlt, rfl, by omega, ?_, W1.frame _ _ _ hq1 fun b hb o e => ?_, hqn.at' fun o e => up₂ _ o (by unfold Addr at *; omega) e, up₂ _ _ (by unfold Addr at *; omega) hqD, fun b o e => ?_⟩
        · rw [take_one hcyl, List.flatMap_append]
          rw [← Array.length_toList, List.take_length] at hus
          simpa using hus
        · rw [List.mem_singleton.mp hb] at e ⊢
          exact up₂ _ o (by unfold Addr at *; omega) e
        · have := lt0 b o e
          exact up₂ b o (by unfold Addr at *; omega) (hqk b o e)
    · have hin : i = z1.cps.size := Nat.le_antisymm hi (Nat.not_lt.mp hlt)
      subst hin
      refine W1.done _ _ _ hst' fun g tk₂ hk₂ => ?_
      have up₂ : ∀ b o, b ≠ I1 → h'.get? b = some o → g.get? b = some o := fun b o hb e => hk₂ b o (by simpa using hb) e
      have kg : ∀ b o, s.heap.get? b = some o → g.get? b = some o := fun b o e => by
        have := lt0 b o e
        exact up₂ b o (by unfold Addr at *; omega) (hk' b o e)
      have F' := F2 g kg
      show wpAny _ A (assign (.Name v pv) env (.ref (I1 + 1))) _ _ _
      refine wpAny_assign_Name (wpAny_storeName_local hv F'.ns (fun g₂ hn₂ hs₂ => ?_) hp)
      have hL₀ : h₀.get? env.locals = none := Heap.get?_none_of_le F'.above
      have F₂ : Fr h₀ env.locals g₂ (fun z => if z = v then some (.ref (I1 + 1)) else m z) := ⟨hn₂, fun b o e => hs₂.extBut b o (fun q => by rw [q, hL₀] at e; cases e) (F'.keep b o e), F'.above⟩
      have hCL : I1 + 2 ≠ env.locals := by unfold Addr at *; omega
      have hDL : I1 + 1 ≠ env.locals := by unfold Addr at *; omega
      have hnC : g.Ns (I1 + 2) m' := hn'.at' fun o e => up₂ _ o (by unfold Addr at *; omega) e
      have hDg : g.get? (I1 + 1) = some (lst vs) := up₂ _ _ (by unfold Addr at *; omega) hD'
      rw [← Array.length_toList, List.take_length] at hvs
      refine ⟨m', hnC.sameBut hs₂ hCL, fun g' hs' => fin _ g' _ vs (F₂.change hs' hCL (fresh₀ _ (by unfold Addr at *; omega))) (fun p hp => ?_) (fun p hp => ?_) hvs⟩
      · rcases List.mem_cons.mp hp with rfl | hp
        · exact ⟨hs'.extBut _ _ (by show I1 + 1 ≠ I1 + 2; omega) (hs₂.extBut _ _ hDL hDg), hDL, fresh₀ _ (by unfold Addr at *; omega)⟩
        · have z := N2 g kg p hp
          have := lt0 _ _ (N p hp).1
          exact ⟨hs'.extBut _ _ (by unfold Addr at *; omega) (hs₂.extBut _ _ z.2.1 z.1), z.2⟩
      · have := lt0 _ _ (N p hp).1
        unfold Addr at *; omega
  exact codeAny_compStart_list (loop _ ⟨_, rfl⟩) (W1.self 0 _ _ _ (W1.frame 0 _ _ hst1 fun b _ o e => old1 b o e) (loop _ ⟨_, rfl⟩))
end
end Mine

-- N3
namespace Mine
open PySem PySem.Spec PySem.Calls PyProof.Rows PySem.W PyProof.Rows.LCg
def joinG (cy cx : Nat) : Str := Txt.join (Str.ofString "...") [Str.ofString "", ⟨#[cx]⟩, ⟨#[cy]⟩, Str.ofString ""]
theorem lst_isList {h₀ h : Heap} {L l : Addr} {news : List (Addr × Obj)} {xs : List Value} (N : News h₀ L h news) (hm : (l, lst xs) ∈ news) : h.IsList l xs.toArray :=
  ⟨_, (N _ hm).1, rfl, xs.length, rfl⟩
section
variable {prog : Program} {w : World} {A : Around} {E : Value → Shared → Prop} {s : Shared} {h₀ : Heap} {L : Addr} {m : Str → Option Value} {news : List (Addr × Obj)}
/-- a list display: nothing that stood is turned -/
theorem newlist_keep {vs : List Value} {Q : Value → Shared → Prop} (F : Fr h₀ L s.heap m) (N : News h₀ L s.heap news) (hsz : vs.length ≤ sizeLine)
    (h : ∀ l h', (∀ b o, s.heap.get? b = some o → h'.get? b = some o) → h'.IsList l vs.toArray → Fr h₀ L h' m → News h₀ L h' news → Q (.ref l) { s with heap := h' }) :
    wpAny (model prog w) A (newList vs) Q E s :=
  wpAny_newList (h _ _ (fun _ _ e => Heap.get?_push_of_some _ e) ⟨_, Heap.get?_push_size _ rfl, rfl, 0, rfl⟩ (F.push _) (keep_news N fun _ _ e => Heap.get?_push_of_some _ e)) hsz
end
end Mine

-- N4
namespace Mine
open PySem PySem.Spec PySem.Calls PyProof.Rows PySem.W PyProof.Rows.LCg
section
variable {prog : Program} {w : World} {A : Around} {E : Value → Shared → Prop} {s : Shared} {h₀ : Heap} {L : Addr} {m : Str → Option Value} {env : Env} {news : List (Addr × Obj)}
theorem test_assign {elt iter c : PySem.Expr} {x v : Str} {px pv : Pos} {scope : Scope} {cl : List (Str × Addr)} {pos spos : Pos} {Q : Flow → Shared → Prop} {ax : Addr} {its : List Value} (T : Value → Bool)
    (F : Fr h₀ L s.heap m) (N : News h₀ L s.heap news) (hh : A.handled = none) (hLe : env.locals = L) (hsw : swapsWith (.ListComp elt [⟨.Name x px, iter, [c], 0⟩] scope pos) (some (.Name v pv)) spos.line env = pure true)
    (hv : env.kindOf v = some .local) (hp : (env.scope.kind == .class || (env.scope.kind == .module && env.locals != env.globals)) = false) (hclos : closureFor scope env = pure cl) (hcell : ∀ y ∈ scope.names, y.2 ≠ .cell) (hkind : scope.kind = .function)
    (hnames : ∀ y ∈ scope.names, y.2 = .local → scope.names.lookup y.1 = some .local) (hx : scope.names.lookup x = some .local)
    (hs1 : ∀ x, foldedSetIterable iter env x = pure x) (hl : s.heap.IsList ax its.toArray) (hsz : its.length ≤ sizeLine)
    (h1 : wpAny (model prog w) A (eval iter env) (fun v s' => ∃ tk, v = .ref ax ∧ s' = { s with toks := tk }) E s)
    (turn : ∀ (i : Nat) u C oC m₂ g tk E', its[i]? = some u → NsObj oC m₂ → m₂ x = some u → Fr h₀ L g m → News h₀ L g ((C, oC) :: news) → (∀ p ∈ news, p.1 ≠ C) →
      wpAny (model prog w) A (isTrue c (compEnvC scope cl C env) (eval c (compEnvC scope cl C env))) (TestEnd prog w A (compEnvC scope cl C env) elt (T u) (fun v => v = u) E' { s with heap := g, toks := tk }) E' { s with heap := g, toks := tk })
    (fin : ∀ D g tk, Fr h₀ L g (fun z => if z = v then some (.ref D) else m z) → News h₀ L g ((D, lst (its.filter T)) :: news) → (∀ p ∈ news, p.1 ≠ D) → Q .next { s with heap := g, toks := tk }) :
    wpAny (model prog w) A (exec (.Assign [.Name v pv] (.ListComp elt [⟨.Name x px, iter, [c], 0⟩] scope pos) spos) env) Q E s := by
  subst hLe
  rw [exec_Assign_Name_used _ _ _ _ hsw]
  refine wpAny_bind (wpAny_standAt (wpAny_bind ?_))
  show wpAny _ A (do let _ ← comprehension (.ListComp elt [⟨.Name x px, iter, [c], 0⟩] scope pos) scope env _ (newList []) false (eval iter env) (some (assign (.Name v pv) env))) _ _ s
  refine wpAny_bind (wpAny_mono (wpAny_comprehension_free (use := some (assign (.Name v pv) env)) (Q := fun _ s' => Q .next s') rfl hs1 hclos hkind hnames
    (wpAny_mono h1 (fun xv s₁ h₁ => ?_) fun _ _ e => e)) (fun _ s' hq => wpAny_pure (wpAny_pure hq)) fun _ _ e => e)
  obtain ⟨tk1, rfl, rfl⟩ := h₁
  have hlt : ax < s.heap.objs.size := by obtain ⟨_, e, _⟩ := hl; exact Heap.lt_size e
  refine wpAny_pyIter_list hl ?_
  dsimp only
  have W := Walks.list (prog := prog) (w := w) hh s.heap.objs.size ax (Nat.ne_of_lt hlt) its.toArray
  have hst1 : (s.heap.push { cls := .type "list_iterator", data := .fields #[.ref ax, .int 0 0] }).IsListIter s.heap.objs.size ax 0 ∧ (s.heap.push { cls := .type "list_iterator", data := .fields #[.ref ax, .int 0 0] }).IsList ax its.toArray := ⟨⟨_, Heap.get?_push_size _ rfl, rfl, rfl⟩, hl.push _⟩
  generalize hI1 : s.heap.objs.size = I1 at W hst1 hlt ⊢
  generalize hH1 : s.heap.push { cls := .type "list_iterator", data := .fields #[.ref ax, .int 0 0] } = H1 at hst1 ⊢
  have hH1s : H1.objs.size = I1 + 1 := by rw [← hH1, Heap.size_push, hI1]
  refine wpAny_newObj_type (wpAny_newFunctionEnv hcell (by intro y hy; simp at hy) (fun g₁ hns₁ hsb₁ => ?_) hkind)
  dsimp only at hns₁ hsb₁ ⊢
  generalize hH2 : H1.push { cls := .type "list", dict := none, data := .seq ([] : List Value).toArray } = H2 at hns₁ hsb₁ ⊢
  have hC : H2.objs.size = I1 + 2 := by rw [← hH2, Heap.size_push, hH1s]
  rw [hH1s]
  rw [hC] at hns₁ hsb₁ ⊢
  have old1 : ∀ b o, H1.get? b = some o → g₁.get? b = some o := fun b o e => by
    have hlt := Heap.lt_size e
    rw [hH1s] at hlt
    exact hsb₁.extBut b o (by unfold Addr at *; omega) (Heap.get?_push_of_some _ (hH2 ▸ Heap.get?_push_of_some _ e))
  have old : ∀ b o, s.heap.get? b = some o → g₁.get? b = some o := fun b o e => old1 b o (hH1 ▸ Heap.get?_push_of_some _ e)
  have hacc : g₁.get? (I1 + 1) = some (lst []) := hsb₁.extBut _ _ (by unfold Addr at *; omega) (Heap.get?_push_of_some _ (hH2 ▸ hH1s ▸ Heap.get?_push_size _ rfl))
  have lt0 : ∀ b o, s.heap.get? b = some o → b < I1 := fun b o e => hI1 ▸ Heap.lt_size e
  have hLlt : env.locals < I1 := hI1 ▸ F.ns.lt
  have fresh₀ : ∀ a, I1 ≤ a → h₀.get? a = none := fun a ha => by
    cases e : h₀.get? a with
    | none => rfl
    | some o' => exact absurd (lt0 a o' (F.keep a o' e)) (Nat.not_lt.mpr ha)
  have F2 : ∀ g, (∀ b o, s.heap.get? b = some o → g.get? b = some o) → Fr h₀ env.locals g m := fun g hk => keep_fr F hk
  have N2 : ∀ g, (∀ b o, s.heap.get? b = some o → g.get? b = some o) → News h₀ env.locals g news := fun g hk => keep_news N hk
  have loop : ∀ s₃ : Shared, (∃ tk, s₃ = { s with heap := g₁, toks := tk }) →
      codeAny (model prog w) A (.compLoop (.ListComp elt [⟨.Name x px, iter, [c], 0⟩] scope pos) 0 (.ref I1) (.ref (I1 + 1)) (compEnvC scope cl (I1 + 2) env))
        (compPost (model prog w) A E (some (assign (.Name v pv) env)) (fun _ s' => Q .next s') (.ref (I1 + 1)) (I1 + 2)) s₃ := by
    rintro s₃ ⟨tk3, rfl⟩
    refine codeAny_compLoop_tests
      (fun k s' => ∃ h' tk i m', s' = { s with heap := h', toks := tk } ∧ i ≤ its.length ∧ k = its.length + 1 - i ∧ (h'.IsListIter I1 ax i ∧ h'.IsList ax its.toArray) ∧ h'.Ns (I1 + 2) m' ∧
        h'.get? (I1 + 1) = some (lst ((its.take i).filter T)) ∧ (∀ b o, s.heap.get? b = some o → h'.get? b = some o)) ?_ (its.length + 1)
      ⟨g₁, _, 0, _, rfl, Nat.zero_le _, rfl, W.frame 0 _ _ hst1 fun b _ o e => old1 b o e, hns₁, hacc, old⟩
    rintro k s' ⟨h', tk, i, m', rfl, hi, rfl, hst', hn', hD', hk'⟩
    by_cases hlt2 : i < its.length
    · refine W.item i _ _ _ (by simpa using hlt2) hst' fun u g₂ tk₂ hu hst₂ hk₂ => ?_
      have hu' : its[i]? = some u := by simpa using hu
      have up₂ : ∀ b o, b ≠ I1 → h'.get? b = some o → g₂.get? b = some o := fun b o hb e => hk₂ b o (by simpa using hb) e
      refine wpAny_assign_Name (wpAny_storeName_local (lookup_relabel_local hx) (hn'.at' fun o e => up₂ _ o (by unfold Addr at *; omega) e) (fun g₃ hn₃ hs₃ => ?_) (by simp [compEnvC, relabel, hkind]))
      refine wpAny_tests_one ?_
      have up₃ : ∀ b o, b ≠ I1 → b ≠ I1 + 2 → h'.get? b = some o → g₃.get? b = some o := fun b o hb hb2 e => hs₃.extBut b o hb2 (up₂ b o hb e)
      have st₃ : g₃.IsListIter I1 ax (i + 1) ∧ g₃.IsList ax its.toArray := W.frame _ _ _ hst₂ fun b hb o e => hs₃.extBut b o (by
        show b ≠ I1 + 2
        rcases List.mem_cons.mp hb with rfl | hb
        · unfold Addr at *; omega
        · rw [List.mem_singleton.mp hb]; unfold Addr at *; omega) e
      have k₃ : ∀ b o, s.heap.get? b = some o → g₃.get? b = some o := fun b o e => by
        have := lt0 b o e
        exact up₃ b o (by unfold Addr at *; omega) (by unfold Addr at *; omega) (hk' b o e)
      have D₃ := up₃ _ _ (by unfold Addr at *; omega) (by unfold Addr at *; omega) hD'
      obtain ⟨oC, heC, hoC⟩ := ns_obj hn₃
      have N₃ : News h₀ env.locals g₃ ((I1 + 2, oC) :: news) := fun p hp => by
        rcases List.mem_cons.mp hp with rfl | hp
        · exact ⟨heC, by unfold Addr at *; omega, fresh₀ _ (by unfold Addr at *; omega)⟩
        · exact N2 g₃ k₃ p hp
      refine wpAny_mono (turn i u (I1 + 2) oC _ g₃ _ _ hu' hoC (by simp) (F2 g₃ k₃) N₃ (fun p hp => by
          have := lt0 _ _ (N p hp).1
          unfold Addr at *; omega)) (fun okb s₇ h₇ => ?_) fun _ _ e => e
      obtain ⟨g₇, tk₇, rfl, hk₇, rfl, helt⟩ := h₇
      dsimp only at hk₇
      have hstep : (its.take (i + 1)).filter T = (its.take i).filter T ++ (if T u = true then [u] else []) := take_succ_filter T its i u hu'
      cases hT : T u with
      | false =>
        simp only [Bool.false_eq_true, if_false]
        refine ⟨its.length + 1 - (i + 1), by omega, g₇, tk₇, i + 1, _, rfl, hlt2, rfl, W.frame _ _ _ st₃ fun b _ o e => hk₇ b o e, hoC.ns (hk₇ _ _ heC), ?_, fun b o e => hk₇ b o (k₃ b o e)⟩
        rw [hstep, hT]
        simpa using hk₇ _ _ D₃
      | true =>
        simp only [if_true]
        refine wpAny_mono (helt hT) (fun v s₈ h₈ => ?_) fun _ _ e => e
        obtain ⟨g₈, tk₈, rfl, hk₈, rfl⟩ := h₈
        have kk₈ : ∀ b o, g₃.get? b = some o → g₈.get? b = some o := fun b o e => hk₈ b o (hk₇ b o e)
        refine append_at (hsz := by
          show (List.filter T (List.take i its)).toArray.size ≤ sizeLine
          rw [List.size_toArray]
          exact Nat.le_trans (List.length_filter_le _ _) (Nat.le_trans (by rw [List.length_take]; omega) hsz)) (kk₈ _ _ D₃) fun g₉ hs₉ hD₉ => ?_
        refine ⟨its.length + 1 - (i + 1), by omega, g₉, tk₈, i + 1, _, rfl, hlt2, rfl, W.frame _ _ _ st₃ fun b hb o e => ?_,
          hoC.ns (hs₉.extBut _ _ (by unfold Addr at *; omega) (kk₈ _ _ heC)), ?_, fun b o e => ?_⟩
        · refine hs₉.extBut _ o ?_ (kk₈ _ o e)
          rcases List.mem_cons.mp hb with rfl | hb
          · unfold Addr at *; omega
          · rw [List.mem_singleton.mp hb]; unfold Addr at *; omega
        · rw [hstep, hT]
          exact hD₉.trans (congrArg some (lst_snoc _ _))
        · have := lt0 b o e
          exact hs₉.extBut b o (by unfold Addr at *; omega) (kk₈ b o (k₃ b o e))
    · have hin : i = its.length := Nat.le_antisymm hi (Nat.not_lt.mp hlt2)
      subst hin
      refine W.done _ _ _ (by simpa using hst') fun g tk₂ hk₂ => ?_
      have up₂ : ∀ b o, b ≠ I1 → h'.get? b = some o → g.get? b = some o := fun b o hb e => hk₂ b o (by simpa using hb) e
      have kg : ∀ b o, s.heap.get? b = some o → g.get? b = some o := fun b o e => by
        have := lt0 b o e
        exact up₂ b o (by unfold Addr at *; omega) (hk' b o e)
      have F' := F2 g kg
      show wpAny _ A (assign (.Name v pv) env (.ref (I1 + 1))) _ _ _
      refine wpAny_assign_Name (wpAny_storeName_local hv F'.ns (fun g₂ hn₂ hs₂ => ?_) hp)
      have hL₀ : h₀.get? env.locals = none := Heap.get?_none_of_le F'.above
      have F₂ : Fr h₀ env.locals g₂ (fun z => if z = v then some (.ref (I1 + 1)) else m z) := ⟨hn₂, fun b o e => hs₂.extBut b o (fun q => by rw [q, hL₀] at e; cases e) (F'.keep b o e), F'.above⟩
      have hCL : I1 + 2 ≠ env.locals := by unfold Addr at *; omega
      have hDL : I1 + 1 ≠ env.locals := by unfold Addr at *; omega
      have hnC : g.Ns (I1 + 2) m' := hn'.at' fun o e => up₂ _ o (by unfold Addr at *; omega) e
      have hDg : g.get? (I1 + 1) = some (lst (its.filter T)) := by
        rw [List.take_length] at hD'
        exact up₂ _ _ (by unfold Addr at *; omega) hD'
      refine ⟨m', hnC.sameBut hs₂ hCL, fun g' hs' => fin _ g' _ (F₂.change hs' hCL (fresh₀ _ (by unfold Addr at *; omega))) (fun p hp => ?_) (fun p hp => ?_)⟩
      · rcases List.mem_cons.mp hp with rfl | hp
        · exact ⟨hs'.extBut _ _ (by show I1 + 1 ≠ I1 + 2; omega) (hs₂.extBut _ _ hDL hDg), hDL, fresh₀ _ (by unfold Addr at *; omega)⟩
        · have z := N2 g kg p hp
          have := lt0 _ _ (N p hp).1
          exact ⟨hs'.extBut _ _ (by unfold Addr at *; omega) (hs₂.extBut _ _ z.2.1 z.1), z.2⟩
      · have := lt0 _ _ (N p hp).1
        unfold Addr at *; omega
  exact codeAny_compStart_list (loop _ ⟨_, rfl⟩) (W.self 0 _ _ _ (W.frame 0 _ _ hst1 fun b _ o e => old1 b o e) (loop _ ⟨_, rfl⟩))
end
end Mine

-- N5
namespace Mine
open PySem PySem.Spec PySem.Calls PyProof.Rows PySem.W PyProof.Rows.LCg
def ltC (cy cx : Nat) : Bool := decide ((⟨#[cx]⟩ : Str).cps.toList < (⟨#[cy]⟩ : Str).cps.toList)
def joinP (p : Str × Str) : Str := Txt.join (Str.ofString "...") [Str.ofString "", p.1, p.2, Str.ofString ""]
def patB (p : Str × Str) : Bool := (joinP p).length == 11 && decide (p.1.length ≤ 100) && decide (p.2.length ≤ 100) && (Builtin.Str.occurrences (joinP p) (Str.ofString "...") 0 (joinP p).length 1).isEmpty == false && decide (Txt.split (joinP p) (Str.ofString "...") = [Str.ofString "", p.1, p.2, Str.ofString ""])
theorem patB_pat {p : Str × Str} (h : patB p = true) : Pat (joinP p) p.1 p.2 := by
  unfold patB at h
  simp only [Bool.and_eq_true, beq_iff_eq, decide_eq_true_eq] at h
  exact ⟨h.1.1.1.1, h.1.1.1.2, h.1.1.2, h.1.2, h.2⟩
theorem pats6_ok : (pairs6.all patB) = true := by decide +kernel
theorem pats6_eq : (List.flatMap (fun cy => List.map (joinG cy) (List.filter (ltC cy) (Str.ofString "abc").cps.toList)) (Str.ofString "bcd").cps.toList) = pairs6.map joinP := by decide +kernel
theorem pats_strs : ∀ (ps : List (Str × Str)), (ps.all patB) = true → ∀ vs, StrsAre vs (ps.map joinP) → Pats vs ps
  | [], _, vs, h => by cases h; exact .nil
  | p :: r, hb, vs, h => by
    rw [List.all_cons, Bool.and_eq_true] at hb
    rw [List.map_cons] at h
    cases h with
    | cons _ t h => exact .cons (patB_pat hb.1) (pats_strs r hb.2 _ h)
theorem pats_of {vs : List Value} (h : StrsAre vs (List.flatMap (fun cy => List.map (joinG cy) (List.filter (ltC cy) (Str.ofString "abc").cps.toList)) (Str.ofString "bcd").cps.toList)) : Pats vs pairs6 := by
  rw [pats6_eq] at h
  exact pats_strs _ pats6_ok _ h
def tF (st : Str) : Value → Bool
  | .str p _ => match Txt.split p (Str.ofString "...") with
    | [_, x, y, _] => ellF x y st
    | _ => false
  | _ => false
theorem tF_pat {p x y st : Str} {t : Tok} (h : Pat p x y) : tF st (.str p t) = ellF x y st := by
  unfold tF
  dsimp only
  rw [h.spl]
theorem Pats.filter {vs : List Value} {ps : List (Str × Str)} (h : Pats vs ps) (st : Str) : Pats (vs.filter (tF st)) (ps.filter fun p => ellF p.1 p.2 st) := by
  induction h with
  | nil => exact .nil
  | @cons p x y t vs ps hp _ ih =>
    rw [List.filter_cons, List.filter_cons, tF_pat hp]
    dsimp only
    cases ellF x y st with
    | true => exact .cons hp ih
    | false => exact ih
end Mine

-- E1
namespace Mine
open PySem PySem.Spec PySem.Calls PyProof.Rows PySem.W PyProof.Rows.LCg
example : True := by
  w_top off
  trivial
local macro_rules | `(tactic| walk_at "eval ListComp") => `(tactic| (k_here; k_dflt (refine LCg.ListComp_U (F₀ := by k_asm) (by with_unfolding_all rfl) (by decide) (by rfl) (by decide) (by rfl) ?_)))
local macro_rules | `(tactic| walk_at "CompSrc") => `(tactic| (k_here; k_dflt (refine LCg.CompSrc.range (n := 3) (by rfl) (by k_asm) (by k_asm) (by assumption) (by decide) (by rfl) (by decide) ?_); intro g'))
local macro_rules | `(tactic| walk_at "call ref") => `(tactic| (k_here; refine Halt.out ?_))
local macro_rules | `(tactic| walk_at "call builtin:sum") => `(tactic| (k_here; k_dflt (refine' sum_pick ?k1 ?k2 ?k3 ?k4 ?k5 ?_; (case k1 => rfl); (case k2 => k_asm); (case k3 => k_asm); (case k4 => k_mem); (case k5 => assumption); k_whole); intro z' t' h' tk' F' N'; (try k_sweep)))
local macro_rules | `(tactic| walk_at "CompRest") => `(tactic| (k_here; refine Halt.out ?_))
theorem news_add {h₀ h h' : Heap} {L td : Addr} {oT : Obj} {m : Str → Option Value} {news : List (Addr × Obj)} (F : Fr h₀ L h m) (N : News h₀ L h' news) (h1 : h'.get? td = some oT) (h2 : h.get? td = none) : News h₀ L h' ((td, oT) :: news) := by
  intro p hp
  rcases List.mem_cons.mp hp with rfl | hp
  · refine ⟨h1, fun e => ?_, ?_⟩
    · obtain ⟨oL, _, _, hL, _⟩ := F.ns
      have e' : td = L := e
      rw [e', hL] at h2; cases h2
    · cases e : h₀.get? td with
      | none => rfl
      | some o => rw [F.keep _ _ e] at h2; cases h2
  · exact N p hp
theorem gen_end {h₀ : Heap} {L I C D : Addr} {m : Str → Option Value} {s₁ s₂ : Shared} {oI oC oD : Obj} {S : List (Addr × Obj) → Prop} {rest : Value → List (Addr × Obj) → Prop} {y : Value} (b : Int) {z : Int} {t : Tok} (e : y = .int z t) (h1 : 0 ≤ z) (h2 : z < b)
    (h : ∀ z t, 0 ≤ z → z < b → CompEnd h₀ L m s₁ I oI C oC D oD S rest (.int z t) s₂) : CompEnd h₀ L m s₁ I oI C oC D oD S rest y s₂ := by
  subst e
  exact h z t h1 h2
local macro_rules | `(tactic| walk_at "exec Assign cons ListComp") => `(tactic| (k_here; refine Halt.out ?_))
local macro_rules | `(tactic| walk_at "pyIter ref") => `(tactic| (k_here; refine Halt.out ?_))
local macro_rules | `(tactic| walk_at "newList") => `(tactic| (k_here; (with_reducible show wpAny _ _ (newList [Value.str _ _, Value.str _ _, Value.str _ _, Value.str _ _]) _ _ _); refine Halt.out ?_))
local macro_rules | `(tactic| walk_at "getMethod ref") => `(tactic| (k_here; (with_reducible show wpAny _ _ (getMethod (Value.ref _) (PySem.Str.ofString "get") _) _ _ _); k_dflt (refine' meth_d ?k1 ?k2 ?k3 ?k4 ?_; (case k1 => k_asm); (case k2 => k_mem); (case k3 => with_reducible assumption); (case k4 => with_reducible assumption); k_whole)))
local macro_rules | `(tactic| walk_at "call builtin:dict.get") => `(tactic| (k_here; k_dflt (refine' get_d ?k1 ?k2 ?k3 ?k4 ?_; (case k1 => k_asm); (case k2 => k_mem); (case k3 => with_reducible assumption); (case k4 => with_reducible assumption); k_whole); intro _))
theorem fin : PySem.Challenge.rw_qu0018_01.Holds := hd (by
  k_go0
  k_steps
  refine ⟨?_⟩
  rename Fr _ _ _ _ => F1
  rename News _ _ _ _ => N1
  refine LCg.CompRest.succ ?_
  rintro v I1 oI1 C1 oC1 D1 mm1 h1 tk1 E1 ⟨t1, rfl⟩ hoC1 hx1 F N off ne1
  clear F1 N1
  k_steps
  rename Fr _ _ _ _ => F1
  rename News _ _ _ _ => N1
  refine gen_end 2 rfl (Int.fmod_nonneg_of_pos _ (by decide)) (Int.lt_of_lt_of_le (Int.fmod_lt_of_pos _ (by decide)) (by decide)) ?_
  intro b1 u1 hb1 hc1
  refine LCg.CompEnd.intro F1 N1 _ (fun p hp => .tail _ (.tail _ hp)) off trivial ?_
  (try clear F); (try clear N)
  refine LCg.CompRest.succ ?_
  rintro v I2 oI2 C2 oC2 D2 mm2 h2 tk2 E2 ⟨t2, rfl⟩ hoC2 hx2 F N off ne2
  clear F1 N1
  k_steps
  rename Fr _ _ _ _ => F1
  rename News _ _ _ _ => N1
  refine gen_end 3 rfl (Int.fmod_nonneg_of_pos _ (by decide)) (Int.lt_of_lt_of_le (Int.fmod_lt_of_pos _ (by decide)) (by decide)) ?_
  intro b2 u2 hb2 hc2
  refine LCg.CompEnd.intro F1 N1 _ (fun p hp => .tail _ (.tail _ hp)) off trivial ?_
  (try clear F); (try clear N)
  refine LCg.CompRest.succ ?_
  rintro v I3 oI3 C3 oC3 D3 mm3 h3 tk3 E3 ⟨t3, rfl⟩ hoC3 hx3 F N off ne3
  clear F1 N1
  k_steps
  rename Fr _ _ _ _ => F1
  rename News _ _ _ _ => N1
  refine gen_end 4 rfl (Int.fmod_nonneg_of_pos _ (by decide)) (Int.lt_of_lt_of_le (Int.fmod_lt_of_pos _ (by decide)) (by decide)) ?_
  intro b3 u3 hb3 hc3
  refine LCg.CompEnd.intro F1 N1 _ (fun p hp => .tail _ (.tail _ hp)) off trivial ?_
  (try clear F); (try clear N)
  refine LCg.CompRest.zero ?_
  intro D h tk F N off
  clear F1 N1
  (try simp only [List.nil_append, List.cons_append] at N)
  k_steps
  refine ⟨?_⟩
  rename Fr _ _ _ _ => F1
  rename News _ _ _ _ => N1
  rename (hd.heap_39 _).In _ => KX
  rename Top _ _ _ _ _ _ => TT
  obtain ⟨hcut, res, hres, hall⟩ := chk_told hb1 hc1 hb2 hc2 hb3 hc3
  refine order_call (bs := [0, b1, b2, b3]) KX TT F1.keep rfl (by rw [depth_deeper]; decide) (hl := kso_isList N1 (.head _) rfl) (hi := .cons _ _ (.cons _ _ (.cons _ _ (.cons _ _ .nil)))) rfl ?hbd ?ret
  case hbd =>
    intro i hi
    rcases i with _ | _ | _ | _ | i
    · exact ⟨Int.le_refl _, by show (0 : Int) < 10; decide⟩
    · exact ⟨hb1, by show b1 < 10; omega⟩
    · exact ⟨hb2, by show b2 < 10; omega⟩
    · exact ⟨hb3, by show b3 < 10; omega⟩
    · omega
  case ret =>
    intro h9 tk9 t9 k9
    have F2 := keep_fr F1 k9
    have N2 := keep_news N1 k9
    clear F1 N1
    (try clear F N)
    have hlen := cutOK.len hcut
    generalize orderF [0, b1, b2, b3] = st at *
    k_steps
    refine ⟨?_⟩
    rename Fr _ _ _ _ => F1
    rename News _ _ _ _ => N1
    refine told_call KX TT F1.keep rfl (by rw [depth_deeper]; decide) (by rw [units_deeper]; decide) hres ?_
    intro td oT h10 tk10 k10 hT1 hT2 hT3 hT5
    have hT4 : IsD PySem.Challenge.rw_qu0018_01.row.prog _ oT res := hT5
    clear hT5
    have F3 := keep_fr F1 k10
    have N3 := news_add F1 (keep_news N1 k10) hT1 hT2
    clear F1 N1
    k_steps
    rename Fr _ _ _ _ => F1
    rename News _ _ _ _ => N1
    refine ⟨?_⟩
    refine nest_assign (z1 := Str.ofString "bcd") (z2 := Str.ofString "abc") ltC joinG F1 N1 rfl rfl (by with_unfolding_all rfl) rfl rfl (by with_unfolding_all rfl) (by decide) rfl (by decide) rfl rfl (by decide) (by decide) (by decide) (fun _ => rfl) (fun _ _ => rfl) ?h1 ?h2 ?turn ?fin
    case h1 =>
      k_steps
    case h2 =>
      intro C s' E'
      obtain ⟨hq1, hq2, hq3, hq4, hq5⟩ := s'
      k_steps
    case turn =>
      intro cy cx ty tx C oC m₂ g tk E' hy hx hoC hmy hmx F4 N4 hne
      clear F1 N1
      (try clear F3 N3)
      k_steps
      refine ⟨g, _, rfl, fun b o e => e, rfl, fun _ => ?_⟩
      k_steps
      refine ⟨?_⟩
      refine newlist_keep F4 N4 (Nat.le_of_ble_eq_true rfl) ?_
      intro l4 g4 kg4 hL4 F5 N5
      clear F4 N4
      k_steps
      refine join_listC hL4 (.cons _ _ (.cons _ _ (.cons _ _ (.cons _ _ .nil)))) (by decide) ?hok ?hq
      case hok => exact Nat.le_of_ble_eq_true rfl
      case hq => exact fun _ _ => ⟨_, _, rfl, fun b o e => kg4 b o e, _, rfl⟩
    case fin =>
      intro D2 g tk2 vs F4 N4 hne hvs
      clear F1 N1
      (try clear F3 N3)
      have hP := pats_of hvs
      k_steps
      refine ⟨?_⟩
      rename Fr _ _ _ _ => F1
      rename News _ _ _ _ => N1
      refine test_assign (ax := D2) (its := vs) (tF st) F1 N1 rfl rfl (by with_unfolding_all rfl) rfl rfl (by with_unfolding_all rfl) (by decide) rfl (by decide) rfl (fun _ => rfl) (kso_isList N1 (.head _) rfl) ?hsz ?h1 ?turn ?fin
      case hsz => rw [hP.length]; decide
      case h1 =>
        k_steps
      case turn =>
        intro i u C oC m₂ g2 tk3 E' hu hoC hmx F5 N5 hne2
        obtain ⟨p, x, y, t, rfl, hpat, hps⟩ := hP.get hu
        clear F1 N1; (try clear F4 N4)
        k_steps
        refine ⟨?_⟩
        refine ell_call KX TT F5.keep rfl (by rw [depth_deeper]; decide) (by rw [units_deeper]; decide) hlen hpat.len hpat.x1 hpat.y1 hpat.occ hpat.spl ?_
        intro h11 tk11 k11
        have F6 := keep_fr F5 k11
        have N6 := keep_news N5 k11
        clear F5 N5
        k_steps
        refine ⟨h11, _, rfl, fun b o e => k11 b o e, ?_, fun _ => ?_⟩
        · rw [tF_pat hpat]; cases ellF x y st <;> rfl
        · rename Fr _ _ _ _ => F7
          rename News _ _ _ _ => N7
          k_steps
      case fin =>
        intro D3 g3 tk3 F5 N5 hne2
        clear F1 N1; (try clear F4 N4)
        have hPF := hP.filter st
        k_steps
        refine ⟨?_⟩
        rename IsRange _ _ _ _ _ _ _ _ => rg
        rename Fr _ _ _ _ => F6
        rename News _ _ _ _ => N6
        have hlD3 := lst_isList N6 (.head _)
        refine for_range (n := 24) (fun i m nx => nx = _ ∧ m (Str.ofString "behind") = some (.ref _) ∧ m (Str.ofString "told") = some (.ref td) ∧ m (Str.ofString "patterns") = some (.ref D3))
          rfl rg (by decide) rfl F6 N6 ⟨rfl, rfl, rfl, rfl⟩ ?turn ?done
        case done =>
          rintro m₂ nx h5 tk5 ⟨rfl, hm1, hm2, hm3⟩ F7 N7
          clear F6 N6
          k_steps
        case turn =>
          rintro i ti m₁ nx h tk I oI hi24 ⟨rfl, hm1, hm2, hm3⟩ hnI hoI F7 N7
          clear F6 N6
          rw [← kstB_self (m := m₁) (ps := [(Str.ofString "behind", _), (Str.ofString "told", _), (Str.ofString "patterns", _)]) (by
            intro p hp
            rcases List.mem_cons.mp hp with rfl | hp
            · exact hm1
            rcases List.mem_cons.mp hp with rfl | hp
            · exact hm2
            rcases List.mem_singleton.mp hp with rfl
            exact hm3)] at F7
          k_steps
          refine ⟨?_⟩
          rename Fr _ _ _ _ => F8
          rename News _ _ _ _ => N8
          refine order_call (bs := [(0 : Int), (0 + (i : Int)).fmod 2, ((0 + (i : Int)).fdiv 2).fmod 3, (0 + (i : Int)).fdiv 6]) KX TT F8.keep rfl (by rw [depth_deeper]; decide) (hl := kso_isList N8 (.head _) rfl) (hi := .cons _ _ (.cons _ _ (.cons _ _ (.cons _ _ .nil)))) rfl (by rw [nBs_fm]; exact nBs_bd hi24) ?_
          rw [nBs_fm i]
          obtain ⟨hco, hck, hcw, hcb⟩ := chkN_parts (hall i hi24)
          generalize orderF (nBs i) = od at hco hck hcw hcb ⊢
          have hco4 := cutOK.len hco
          intro h12 tk12 t12 k12
          have F9 := keep_fr F8 k12
          have N9 := keep_news N8 k12
          clear F8 N8
          k_steps
          refine ⟨?_⟩
          rename Fr _ _ _ _ => F8
          rename News _ _ _ _ => N8
          refine keeps_call KX TT F8.keep rfl (by rw [depth_deeper]; decide) (by rw [units_deeper]; decide) hco4 (lst_isList N8 (.tail _ (.tail _ (.head _)))) hPF ?_
          intro h13 tk13 k13
          have F9 := keep_fr F8 k13
          have N9 := keep_news N8 k13
          clear F8 N8
          rw [hck]
          k_steps
          · rename (_ != _) = true => hbad
            exact (bad_eq hbad).elim
          refine ⟨?_⟩
          rename Fr _ _ _ _ => F8
          rename News _ _ _ _ => N8
          refine within_call KX TT F8.keep rfl (by rw [depth_deeper]; decide) (by rw [units_deeper]; decide) hco4 (kso_isList N8 (.tail _ (.tail _ (.tail _ (.tail _ (.tail _ (.head _)))))) rfl) (.cons _ _ (.cons _ _ (.cons _ _ (.cons _ _ .nil)))) rfl (cutOK.rev hco) hcw ?_
          intro h14 tk14 k14
          have F9 := keep_fr F8 k14
          have N9 := keep_news N8 k14
          clear F8 N8
          k_steps
          · rename (_ != _) = true => hbad
            exact (bad_xx hbad).elim
          refine ⟨?_⟩
          rename Fr _ _ _ _ => F8
          rename News _ _ _ _ => N8
          refine below_call KX TT F8.keep rfl (by rw [depth_deeper]; decide) (by rw [units_deeper]; decide) hco4 hlen (cutOK.cut hco) (cutOK.cut hcut) ?_
          intro h15 tk15 k15
          have F9 := keep_fr F8 k15
          have N9 := keep_news N8 k15
          clear F8 N8
          rw [hcb]
          k_steps
          · rename (_ != _) = true => hbad
            exact (bad_xx hbad).elim
          exact tpost F9 (fun p hp => N9 p (.tail _ hp)) (fun p hp => hnI p hp) ⟨rfl, rfl, rfl, rfl⟩)
end Mine

theorem PySem.Challenge.cw_qu0018_01_holds : PySem.Challenge.rw_qu0018_01.Holds :=
  Mine.fin

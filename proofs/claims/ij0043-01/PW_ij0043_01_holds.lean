import PyProof.Rows.All
import Wide.All
import OpenK.AllK
import Wide.FinOn
import KE.KSortTup
import PyProof.EqAt
import KE.KMinKey
import KE.KRevIter
import KE.KLcPair
import PyProof.ZipIter
import PyProof.Rows.ZipGen
import PySem.Challenge.RW_ij0043_01
set_option Elab.async false
namespace Mine
section
open PySem PySem.W PyProof.Rows
set_option maxRecDepth 100000
set_option maxHeartbeats 8000000
open_top hd for PySem.Challenge.rw_ij0043_01
end
section
local macro_rules | `(tactic| walk_at "call builtin:len") => `(tactic| k_dflt (k_extra "call builtin:len"))
local macro_rules | `(tactic| walk_at "subscriptTail") => `(tactic| k_dflt (k_extra "subscriptTail"))
local macro_rules | `(tactic| walk_at "binaryOp RShift int int") => `(tactic| k_dflt (k_extra "binaryOp RShift int int"))
local macro_rules | `(tactic| walk_at "setItem ref int") => `(tactic| k_dflt (k_extra "setItem ref int"))
local macro_rules | `(tactic| walk_at "call builtin:list.append") => `(tactic| k_dflt (k_extra "call builtin:list.append"))
local macro_rules | `(tactic| walk_at "call builtin:list.pop") => `(tactic| k_dflt (k_extra "call builtin:list.pop"))
local macro_rules | `(tactic| walk_at "truthy ref") => `(tactic| k_dflt (k_extra "truthy ref"))
local macro_rules | `(tactic| walk_at "CompSrcT") => `(tactic| k_dflt (k_extra "CompSrcT"))
local macro_rules | `(tactic| walk_at "CompSrc") => `(tactic| k_dflt (k_extra "CompSrc"))
local macro_rules | `(tactic| walk_at "CompEnd") => `(tactic| k_dflt (k_extra "CompEnd"))
local macro_rules | `(tactic| walk_at "pyIter ref") => `(tactic| k_dflt (k_extra "pyIter ref"))
local macro_rules | `(tactic| walk_at "call ref") => `(tactic| k_dflt (k_extra "call ref"))
local macro_rules | `(tactic| walk_at "compareOp Eq ref ref") => `(tactic| k_dflt (k_extra "compareOp Eq ref ref"))
local macro_rules | `(tactic| walk_at "compareOp NotEq ref ref") => `(tactic| k_dflt (k_extra "compareOp NotEq ref ref"))
local macro_rules | `(tactic| walk_at "binaryOp FloorDiv int int") => `(tactic| k_dflt (k_extra "binaryOp FloorDiv int int"))
local macro_rules | `(tactic| walk_at "execs cons") => `(tactic| k_dflt (k_extra "execs cons"))
local macro_rules | `(tactic| walk_at "exec For Name Name cons nil") => `(tactic| k_dflt (k_extra "exec For Name Name cons nil"))
local macro_rules | `(tactic| walk_at "newList") => `(tactic| k_dflt (k_extra "newList"))
local macro_rules | `(tactic| walk_at "eval ListComp") => `(tactic| k_dflt (k_extra "eval ListComp"))
local macro_rules | `(tactic| walk_at "eval Dict") => `(tactic| k_dflt (k_extra "eval Dict"))
local macro_rules | `(tactic| walk_at "CompSrcS") => `(tactic| k_dflt (k_extra "CompSrcS"))
local macro_rules | `(tactic| walk_at "exec Try") => `(tactic| k_dflt (k_extra "exec Try"))
local macro_rules | `(tactic| walk_at "exec Assign cons ListComp") => `(tactic| k_dflt (k_extra "exec Assign cons ListComp"))
local macro_rules | `(tactic| walk_at "newTuple") => `(tactic| k_dflt (k_extra "newTuple"))
local macro_rules | `(tactic| walk_at "SrcZ") => `(tactic| k_dflt (k_extra "SrcZ"))
local macro_rules | `(tactic| walk_at "ZEnd") => `(tactic| k_dflt (k_extra "ZEnd"))
local macro_rules | `(tactic| walk_at "call builtin:sorted") => `(tactic| k_dflt (k_extra "call builtin:sorted"))
section
set_option maxRecDepth 100000
set_option maxHeartbeats 4000000
open PySem PySem.W PySem.Calls PyProof.Rows
noncomputable def IsS (v : Value) : Prop := ∃ x t, v = .str x t
noncomputable def strOf : Value → Str
  | .str x _ => x
  | _ => Str.empty
noncomputable def ltV (a b : Value) : Bool := decide ((strOf a).cps.toList < (strOf b).cps.toList)
section
variable {prog : Program} {w : World} {A : Around} {E : Value → Shared → Prop} {s : Shared} {h₀ : Heap} {L D : Addr} {m : Str → Option Value} {news news' : List (Addr × Obj)} {vs : List Value} {n : Nat} {k : Int} {t u : Tok}
theorem g_sub {value slice : PySem.Expr} {Q : Value → Shared → Prop} (N : News h₀ L s.heap news) (hm : (D, listOf vs.toArray n) ∈ news) (h0 : 0 ≤ k) (h1 : k < vs.length) (hfit : k < 2 ^ 63) (h : Q (vs.getD k.toNat .none) s)
    (hs : subscripted slice false (.ref D) (.int k u) = operate [.ref D, .int k u] (getItem (.ref D) (.int k u)) := by with_unfolding_all rfl) :
    wpAny (model prog w) A (subscriptTail value slice (.ref D) (.int k u)) Q E s := by
  have hl : s.heap.IsList D vs.toArray := PySem.IsL.isList (n := n) (N _ hm).1
  have hx : k.toNat < vs.length := by omega
  refine tail_any hl.typeIs slot_list_getitem.lookup (wpAny_getItem_list hl h0 hfit (x := vs.getD k.toNat .none) ?_ h) hs
  simp [List.getD_eq_getElem?_getD, hx]
theorem g_set {x : Value} {Q : Unit → Shared → Prop} (F : Fr h₀ L s.heap m) (N : News h₀ L s.heap news) (U : Upd D (listOf vs.toArray n) (listOf (vs.set k.toNat x).toArray n) news news') (h0 : 0 ≤ k) (h1 : k < vs.length) (hfit : k < 2 ^ 63)
    (h : ∀ h', Fr h₀ L h' m → News h₀ L h' news' → Q () { s with heap := h' }) :
    wpAny (model prog w) A (setItem (.ref D) (.int k t) x) Q E s := by
  obtain ⟨pre, post, rfl, rfl, a, b⟩ := U.split
  have z := N (D, listOf vs.toArray n) (List.mem_append.mpr (.inr (.head _)))
  refine ki_setAt z.1 h0 hfit (by rw [List.size_toArray]; exact h1) (h _ (F.change (Heap.SameBut.update ..) z.2.1 z.2.2) (ki_turn _ N a b ?_ ?_))
  · show vs.toArray.setIfInBounds k.toNat x = (vs.set k.toNat x).toArray
    apply Array.toList_inj.mp
    simp
  · simp
theorem g_ltS {a b : Value} {Q : Value → Shared → Prop} (ha : IsS a) (hb : IsS b) (h : Q (.bool (ltV a b)) s) : wpAny (model prog w) A (compareOp .Lt a b) Q E s := by
  obtain ⟨x, t, rfl⟩ := ha
  obtain ⟨y, u, rfl⟩ := hb
  exact lt_str h
theorem g_shr1 {a : Int} {Q : Value → Shared → Prop} (h0 : 0 ≤ a) (h : ∀ t tk, Q (.int (a / 2) t) { s with toks := tk }) : wpAny (model prog w) A (binaryOp .RShift (.int a t) (.int 1 u)) Q E s := by
  refine rshift_int (by decide) ?_
  have e : a.fdiv (2 ^ Int.toNat 1) = a / 2 := by
    rw [Int.fdiv_eq_ediv_of_nonneg _ (by decide)]; rfl
  rw [e]
  exact h _ _
theorem g_len {Q : Value → Shared → Prop} (N : News h₀ L s.heap news) (hm : (D, listOf vs.toArray n) ∈ news) (hfit : vs.length < 2 ^ 62) (h : ∀ t tk, Q (.int vs.length t) { s with toks := tk }) :
    wpAny (model prog w) A (call (.builtin "len") [.ref D]) Q E s := by
  have hl : s.heap.IsList D vs.toArray := PySem.IsL.isList (n := n) (N _ hm).1
  refine PyProof.Rows.len_list hl (by rw [List.size_toArray]; omega) ?_
  rw [List.size_toArray]
  exact h _ _
theorem g_app {x : Value} {Q : Value → Shared → Prop} (F : Fr h₀ L s.heap m) (N : News h₀ L s.heap news) (U : Upd D (listOf vs.toArray n) (listOf (vs ++ [x]).toArray (n + 1)) news news') (hz : vs.length ≤ 1000)
    (h : ∀ h', Fr h₀ L h' m → News h₀ L h' news' → Q .none { s with heap := h' }) : wpAny (model prog w) A (call (.builtin "list.append") [.ref D, x]) Q E s := by
  refine append_K (its := vs.toArray) (n := n) F N ?_ h (by rw [List.size_toArray, sizeLine_eq]; omega)
  rw [List.push_toArray]
  exact U
theorem kl_last_getD : ∀ {vs : List Value}, 0 < vs.length → kl_last vs = some (vs.dropLast, vs.getD (vs.length - 1) .none)
  | [], h => absurd h (Nat.lt_irrefl 0)
  | [_], _ => rfl
  | a :: b :: r, _ => by
    show (match kl_last (b :: r) with | some (q, z) => some (a :: q, z) | none => some ([], a)) = _
    rw [kl_last_getD (vs := b :: r) (Nat.succ_pos _)]
    simp
theorem g_pop {Q : Value → Shared → Prop} (F : Fr h₀ L s.heap m) (N : News h₀ L s.heap news) (U : Upd D (listOf vs.toArray n) (listOf vs.dropLast.toArray (n + 1)) news news') (hne : 0 < vs.length) (hz : vs.length ≤ 1000)
    (h : ∀ h', Fr h₀ L h' m → News h₀ L h' news' → Q (vs.getD (vs.length - 1) .none) { s with heap := h' }) : wpAny (model prog w) A (call (.builtin "list.pop") [.ref D]) Q E s :=
  kl_pop F N (p := vs.dropLast) (y := vs.getD (vs.length - 1) .none) (by simpa using kl_last_getD hne) U (by rw [sizeLine_eq]; simp; omega) h
theorem g_truthy {Q : Bool → Shared → Prop} (N : News h₀ L s.heap news) (hm : (D, listOf vs.toArray n) ∈ news) (hfit : vs.length < 2 ^ 62) (h : ∀ tk, Q (decide (0 < vs.length)) { s with toks := tk }) :
    wpAny (model prog w) A (truthy (.ref D)) Q E s := by
  have hl : s.heap.IsList D vs.toArray := PySem.IsL.isList (n := n) (N _ hm).1
  refine wpAny_truthy_list hl (by rw [List.size_toArray]; omega) ?_
  have e : (!vs.toArray.isEmpty) = decide (0 < vs.length) := by cases vs <;> simp
  rw [e]
  exact h _
theorem isS_getD {i : Nat} (h : ∀ v ∈ vs, IsS v) (hi : i < vs.length) : IsS (vs.getD i .none) := by
  refine h _ ?_
  rw [List.getD_eq_getElem?_getD, List.getElem?_eq_getElem hi]
  exact List.getElem_mem hi
end
theorem isS_set {vs : List Value} {i : Nat} {x : Value} (h : ∀ v ∈ vs, IsS v) (hx : IsS x) : ∀ v ∈ vs.set i x, IsS v := by
  intro v hv
  rcases List.mem_or_eq_of_mem_set hv with hv | rfl
  · exact h v hv
  · exact hx
noncomputable def sdown (lt : Value → Value → Bool) (x : Value) (st : Nat) : Nat → Nat → List Value → List Value
  | 0, pos, vs => vs.set pos x
  | f + 1, pos, vs => if st < pos then (if lt x (vs.getD ((pos - 1) / 2) .none) then sdown lt x st f ((pos - 1) / 2) (vs.set pos (vs.getD ((pos - 1) / 2) .none)) else vs.set pos x) else vs.set pos x
theorem sdown_fuel (lt : Value → Value → Bool) (x : Value) (st : Nat) : ∀ (f g pos : Nat) (vs : List Value), pos ≤ f → pos ≤ g → sdown lt x st f pos vs = sdown lt x st g pos vs
  | 0, 0, _, _, _, _ => rfl
  | 0, g + 1, pos, vs, hf, _ => by
    have : pos = 0 := by omega
    subst this
    rw [sdown, sdown, if_neg (Nat.not_lt_zero _)]
  | f + 1, 0, pos, vs, _, hg => by
    have : pos = 0 := by omega
    subst this
    rw [sdown, sdown, if_neg (Nat.not_lt_zero _)]
  | f + 1, g + 1, pos, vs, hf, hg => by
    rw [sdown, sdown, sdown_fuel lt x st f g ((pos - 1) / 2) _ (by omega) (by omega)]
theorem sdown_go {lt : Value → Value → Bool} {x : Value} {st pos : Nat} {vs : List Value} (h : st < pos) (hl : lt x (vs.getD ((pos - 1) / 2) .none) = true) :
    sdown lt x st pos pos vs = sdown lt x st ((pos - 1) / 2) ((pos - 1) / 2) (vs.set pos (vs.getD ((pos - 1) / 2) .none)) := by
  obtain ⟨p, rfl⟩ : ∃ p, pos = p + 1 := ⟨pos - 1, by omega⟩
  rw [sdown, if_pos h, if_pos hl]
  exact sdown_fuel _ _ _ _ _ _ _ (by omega) (by omega)
theorem sdown_stop {lt : Value → Value → Bool} {x : Value} {st pos : Nat} {vs : List Value} (hl : st < pos → lt x (vs.getD ((pos - 1) / 2) .none) = false) :
    sdown lt x st pos pos vs = vs.set pos x := by
  cases pos with
  | zero => rw [sdown]
  | succ p =>
    rw [sdown]
    by_cases h : st < p + 1
    · rw [if_pos h, if_neg (by rw [hl h]; exact Bool.false_ne_true)]
    · rw [if_neg h]
noncomputable abbrev CmpSpec (prog : Program) (w : World) (rest : List (Addr × Obj)) (P : Value → Prop) (lt : Value → Value → Bool) : Prop :=
  ∀ (A : Around) (s' : Shared) (Q E : Value → Shared → Prop) (a b : Value), P a → P b → (∀ p ∈ rest, s'.heap.get? p.1 = some p.2) → A.units + 200 < cLine →
    (∀ tk, Q (.bool (lt a b)) { s' with toks := tk }) → wpAny (model prog w) A (compareOp .Lt a b) Q E s'
theorem cmpSpec_str {prog : Program} {w : World} {rest : List (Addr × Obj)} : CmpSpec prog w rest IsS ltV :=
  fun _ s' _ _ _ _ ha hb _ _ h => g_ltS ha hb (h s'.toks)
theorem p_getD {P : Value → Prop} {vs : List Value} {i : Nat} (h : ∀ v ∈ vs, P v) (hi : i < vs.length) : P (vs.getD i .none) := by
  refine h _ ?_
  rw [List.getD_eq_getElem?_getD, List.getElem?_eq_getElem hi]
  exact List.getElem_mem hi
theorem p_set {P : Value → Prop} {vs : List Value} {i : Nat} {x : Value} (h : ∀ v ∈ vs, P v) (hx : P x) : ∀ v ∈ vs.set i x, P v := by
  intro v hv
  rcases List.mem_or_eq_of_mem_set hv with hv | rfl
  · exact h v hv
  · exact hx
theorem sdown_length (lt : Value → Value → Bool) (x : Value) (st : Nat) : ∀ (f pos : Nat) (vs : List Value), (sdown lt x st f pos vs).length = vs.length
  | 0, _, _ => List.length_set ..
  | f + 1, pos, vs => by
    rw [sdown]
    split
    · split
      · rw [sdown_length lt x st f, List.length_set]
      · rw [List.length_set]
    · rw [List.length_set]
theorem sdown_all {P : Value → Prop} (lt : Value → Value → Bool) (x : Value) (st : Nat) (hx : P x) : ∀ (f pos : Nat) (vs : List Value), pos < vs.length → (∀ v ∈ vs, P v) → ∀ v ∈ sdown lt x st f pos vs, P v
  | 0, _, _, _, h => p_set h hx
  | f + 1, pos, vs, hp, h => by
    rw [sdown]
    split
    · split
      · exact sdown_all lt x st hx f _ _ (by rw [List.length_set]; omega) (p_set h (p_getD h (by omega)))
      · exact p_set h hx
    · exact p_set h hx
noncomputable def spick (lt : Value → Value → Bool) (vs : List Value) (c : Nat) : Nat := if c + 1 < vs.length ∧ lt (vs.getD c .none) (vs.getD (c + 1) .none) = false then c + 1 else c
noncomputable def shole (lt : Value → Value → Bool) : Nat → Nat → List Value → Nat × List Value
  | 0, pos, vs => (pos, vs)
  | f + 1, pos, vs => if 2 * pos + 1 < vs.length then shole lt f (spick lt vs (2 * pos + 1)) (vs.set pos (vs.getD (spick lt vs (2 * pos + 1)) .none)) else (pos, vs)
theorem spick_ge (lt : Value → Value → Bool) (vs : List Value) (c : Nat) : c ≤ spick lt vs c := by unfold spick; split <;> omega
theorem spick_lt (lt : Value → Value → Bool) (vs : List Value) (c : Nat) (h : c < vs.length) : spick lt vs c < vs.length := by unfold spick; split <;> omega
theorem shole_fuel (lt : Value → Value → Bool) : ∀ (f g pos : Nat) (vs : List Value), vs.length ≤ f + pos → vs.length ≤ g + pos → shole lt f pos vs = shole lt g pos vs
  | 0, 0, _, _, _, _ => rfl
  | 0, g + 1, pos, vs, hf, _ => by rw [shole, shole, if_neg (by omega)]
  | f + 1, 0, pos, vs, _, hg => by rw [shole, shole, if_neg (by omega)]
  | f + 1, g + 1, pos, vs, hf, hg => by
    rw [shole, shole]
    have h1 := spick_ge lt vs (2 * pos + 1)
    rw [shole_fuel lt f g _ _ (by rw [List.length_set]; omega) (by rw [List.length_set]; omega)]
theorem shole_go {lt : Value → Value → Bool} {pos n : Nat} {vs : List Value} (hn : vs.length = n) (h : 2 * pos + 1 < n) :
    shole lt n pos vs = shole lt n (spick lt vs (2 * pos + 1)) (vs.set pos (vs.getD (spick lt vs (2 * pos + 1)) .none)) := by
  obtain ⟨f, e⟩ : ∃ f, n = f + 1 := ⟨n - 1, by omega⟩
  have h1 := spick_ge lt vs (2 * pos + 1)
  rw [shole_fuel lt n (f + 1) pos vs (by omega) (by omega), shole, if_pos (by omega)]
  exact shole_fuel _ _ _ _ _ (by rw [List.length_set]; omega) (by rw [List.length_set]; omega)
theorem shole_right {lt : Value → Value → Bool} {pos n : Nat} {vs : List Value} (hn : vs.length = n) (h : 2 * pos + 2 < n) (hl : lt (vs.getD (2 * pos + 1) .none) (vs.getD (2 * pos + 2) .none) = false) :
    shole lt n pos vs = shole lt n (2 * pos + 2) (vs.set pos (vs.getD (2 * pos + 2) .none)) := by
  have e : spick lt vs (2 * pos + 1) = 2 * pos + 2 := by unfold spick; rw [if_pos ⟨by omega, hl⟩]
  rw [shole_go hn (by omega), e]
theorem shole_left {lt : Value → Value → Bool} {pos n : Nat} {vs : List Value} (hn : vs.length = n) (h : 2 * pos + 1 < n) (hl : 2 * pos + 2 < n → lt (vs.getD (2 * pos + 1) .none) (vs.getD (2 * pos + 2) .none) = true) :
    shole lt n pos vs = shole lt n (2 * pos + 1) (vs.set pos (vs.getD (2 * pos + 1) .none)) := by
  have e : spick lt vs (2 * pos + 1) = 2 * pos + 1 := by
    unfold spick
    rw [if_neg]
    rintro ⟨h1, h2⟩
    rw [hl (by omega)] at h2
    cases h2
  rw [shole_go hn h, e]
theorem getD_set_self {vs : List Value} {i : Nat} {x : Value} (h : i < vs.length) : (vs.set i x).getD i .none = x := by
  rw [List.getD_eq_getElem?_getD, List.getElem?_set_self h]; rfl
theorem shole_stop {lt : Value → Value → Bool} {pos : Nat} {vs : List Value} (f : Nat) (h : ¬ 2 * pos + 1 < vs.length) : shole lt f pos vs = (pos, vs) := by
  cases f with
  | zero => rfl
  | succ f => rw [shole, if_neg h]
theorem shole_length (lt : Value → Value → Bool) : ∀ (f pos : Nat) (vs : List Value), (shole lt f pos vs).2.length = vs.length
  | 0, _, _ => rfl
  | f + 1, pos, vs => by
    rw [shole]
    split
    · rw [shole_length lt f, List.length_set]
    · rfl
noncomputable def sup (lt : Value → Value → Bool) (pos : Nat) (vs : List Value) : List Value :=
  sdown lt (vs.getD pos .none) pos (shole lt vs.length pos vs).1 (shole lt vs.length pos vs).1 ((shole lt vs.length pos vs).2.set (shole lt vs.length pos vs).1 (vs.getD pos .none))
theorem sup_of {lt : Value → Value → Bool} {pos p : Nat} {vs vs1 : List Value} (h : shole lt vs.length pos vs = (p, vs1)) :
    sup lt pos vs = sdown lt (vs.getD pos .none) pos p p (vs1.set p (vs.getD pos .none)) := by
  unfold sup
  rw [h]
theorem sup_length (lt : Value → Value → Bool) (pos : Nat) (vs : List Value) : (sup lt pos vs).length = vs.length := by
  unfold sup
  rw [sdown_length, List.length_set, shole_length]
noncomputable def hify (f : Value → Value → Bool) : Nat → List Value → List Value
  | 0, vs => vs
  | i + 1, vs => hify f i (sup f i vs)
noncomputable def heapedB (lt : Value → Value → Bool) (vs : List Value) : Bool := (List.range' 1 (vs.length - 1)).all fun k => !lt (vs.getD k .none) (vs.getD ((k - 1) / 2) .none)
noncomputable def hpop (lt : Value → Value → Bool) (vs : List Value) : List Value := if vs.length = 1 then [] else sup lt 0 (vs.dropLast.set 0 (vs.getD (vs.length - 1) .none))
end
section
set_option maxRecDepth 100000
set_option maxHeartbeats 4000000
open PySem PySem.W PySem.Calls PyProof.Rows
section
variable {prog : Program} {w : World} {A : Around} {E : Value → Shared → Prop} {Q : Flow → Shared → Prop} {s : Shared} {env : Env} {h₀ : Heap} {L : Addr} {x : Str} {body : List Stmt}
noncomputable def GEnd {σ : Type} (h₀ : Heap) (L : Addr) (x : Str) (Led : σ → List (Addr × Obj)) (ps : σ → List (Str × Value)) (stored : List Str) (m₀ : Str → Option Value) (P : σ → Prop) (own : List (Addr × Obj)) (wr : List Addr) (s₁ s₂ : Shared) : Prop :=
  ∃ (c' : σ) (h' : Heap) (tk : Nat) (m' : Str → Option Value) (news' : List (Addr × Obj)), s₂ = { s₁ with heap := h', toks := tk } ∧ Fr h₀ L h' m' ∧ News h₀ L h' news' ∧ (∀ p ∈ Led c', p ∈ news') ∧ (∀ p ∈ own, p ∈ news') ∧ (∀ p ∈ Led c', p.1 ∉ wr) ∧
    (∀ p ∈ ps c', m' p.1 = some p.2) ∧ (∀ z, z ≠ x → (∀ p ∈ ps c', z ≠ p.1) → stored.contains z = false → m' z = m₀ z) ∧ P c'
noncomputable def GPost {σ : Type} (h₀ : Heap) (L : Addr) (x : Str) (Led : σ → List (Addr × Obj)) (ps : σ → List (Str × Value)) (stored : List Str) (m₀ : Str → Option Value) (P : σ → Prop) (own : List (Addr × Obj)) (wr : List Addr) (s₁ : Shared) (Q : Flow → Shared → Prop) (f : Flow) (s₂ : Shared) : Prop :=
  match f with
  | .ret v => Q (.ret v) s₂
  | .brk => Q .next s₂
  | _ => GEnd h₀ L x Led ps stored m₀ P own wr s₁ s₂
theorem g_end {σ : Type} {Led : σ → List (Addr × Obj)} {ps : σ → List (Str × Value)} {stored : List Str} {m₀ m' : Str → Option Value} {P : σ → Prop} {own news' : List (Addr × Obj)} {wr : List Addr} {s₁ : Shared} {h' : Heap} {tk : Nat} (c' : σ)
    (F : Fr h₀ L h' m') (N : News h₀ L h' news') (hn : ∀ p ∈ Led c', p ∈ news') (ho : ∀ p ∈ own, p ∈ news') (hw : ∀ p ∈ Led c', p.1 ∉ wr) (hk : ∀ p ∈ ps c', m' p.1 = some p.2)
    (hr : ∀ z, z ≠ x → (∀ p ∈ ps c', z ≠ p.1) → stored.contains z = false → m' z = m₀ z) (hp : P c') : GEnd h₀ L x Led ps stored m₀ P own wr s₁ { s₁ with heap := h', toks := tk } :=
  ⟨c', h', tk, m', news', rfl, F, N, hn, ho, hw, hk, hr, hp⟩
theorem g_for {σ : Type} {I : Addr} {fp wr : List Addr} {n : Nat} {Pv : Nat → Value → Prop} {St : Nat → Heap → Prop} {m₀ : Str → Option Value} (Led : σ → List (Addr × Obj)) (ps : σ → List (Str × Value)) (stored : List Str) (P : Nat → σ → Prop) (c₀ : σ)
    (W : Walks prog w A I fp wr n Pv St) (hLf : env.locals ∉ fp) (hwr : ∀ b ∈ wr, h₀.get? b = none) (hnw : ∀ p ∈ Led c₀, p.1 ∉ wr) (hst : St 0 s.heap)
    (F : Fr h₀ env.locals s.heap m₀) (N : News h₀ env.locals s.heap (Led c₀)) (hk : ∀ p ∈ ps c₀, m₀ p.1 = some p.2) (hp : P 0 c₀)
    (turn : ∀ (c : σ) (i : Nat) (v : Value) (u : Str → Option Value) h tk own, i < n → Pv i v → P i c → (∀ p ∈ Led c, p.1 ∉ wr) → (∀ p ∈ own, p.1 ∈ fp) → (∀ b ∈ fp, h₀.get? b = none → ∀ o, h.get? b = some o → (b, o) ∈ own) → St (i + 1) h →
      Fr h₀ env.locals h (fun y => if y = x then some v else kstB (fun z => if stored.contains z then u z else m₀ z) (ps c) y) → News h₀ env.locals h (Led c ++ own) →
      wpAny (model prog w) A (execs body env) (GPost h₀ env.locals x Led ps stored m₀ (P (i + 1)) own wr { s with heap := h, toks := tk } Q) E { s with heap := h, toks := tk })
    (done : ∀ (c : σ) (u : Str → Option Value) h tk, P n c → Fr h₀ env.locals h (fun y => if y = x then u y else kstB (fun z => if stored.contains z then u z else m₀ z) (ps c) y) → News h₀ env.locals h (Led c) → Q .next { s with heap := h, toks := tk }) :
    LoopAtV prog w A h₀ env x body Q E (.ref I) s := by
  refine ⟨I, fp, wr, n, Pv, St, m₀, Led c₀, fun i m nx => ∃ c : σ, nx = Led c ∧ (∀ p ∈ ps c, m p.1 = some p.2) ∧ (∀ z, z ≠ x → (∀ p ∈ ps c, z ≠ p.1) → stored.contains z = false → m z = m₀ z) ∧ P i c, rfl, W, hLf, hwr, hnw, hst, F, N, ⟨c₀, rfl, hk, fun _ _ _ _ => rfl, hp⟩, ?_, ?_⟩
  · rintro i v m₁ nx s₁ own ⟨h, tk, rfl⟩ hi hv ⟨c, rfl, h1, h2, hp'⟩ hnw' hown _ hcov hst' F₁ N₁
    have em : (fun y => if y = x then some v else kstB (fun z => if stored.contains z then m₁ z else m₀ z) (ps c) y) = fun y => if y = x then some v else m₁ y := by
      funext y
      by_cases hy : y = x
      · rw [if_pos hy, if_pos hy]
      · rw [if_neg hy, if_neg hy]
        refine kstB_eq h1 fun hn => ?_
        show (if stored.contains y = true then m₁ y else m₀ y) = m₁ y
        cases h3 : stored.contains y with
        | true => simp
        | false => simp only [Bool.false_eq_true, if_false]; exact (h2 y hy hn h3).symm
    refine wpAny_mono (turn c i v m₁ h tk own hi hv hp' hnw' hown hcov hst' (by rw [em]; exact F₁) fun p hp => N₁ p ((List.mem_append.mp hp).elim (List.mem_append_right _) (List.mem_append_left _))) (fun f s₂ q => ?_) fun _ _ e => e
    have fin : GEnd h₀ env.locals x Led ps stored m₀ (P (i + 1)) own wr { s with heap := h, toks := tk } s₂ → LoopStepU h₀ env.locals wr own (fun m nx => ∃ c : σ, nx = Led c ∧ (∀ p ∈ ps c, m p.1 = some p.2) ∧ (∀ z, z ≠ x → (∀ p ∈ ps c, z ≠ p.1) → stored.contains z = false → m z = m₀ z) ∧ P (i + 1) c) { s with heap := h, toks := tk } .next s₂ := by
      rintro ⟨c', h', tk', m', news', e, F', N', hn, ho, hw, hk9, hr9, hp9⟩
      exact ⟨rfl, h', tk', m', Led c', e, F', fun p hp => N' p ((List.mem_append.mp hp).elim (ho p) (hn p)), hw, c', rfl, hk9, hr9, hp9⟩
    cases f with
    | ret v => exact .ret q
    | brk => exact .brk q
    | next => exact .next (fin q)
    | cont => exact .cont (fin q)
  · rintro h' tk m' nx F' N' _ ⟨c, rfl, h1, h2, hp'⟩
    refine done c m' h' tk hp' ?_ N'
    have em : (fun y => if y = x then m' y else kstB (fun z => if stored.contains z then m' z else m₀ z) (ps c) y) = m' := by
      funext y
      by_cases hy : y = x
      · rw [if_pos hy]
      · rw [if_neg hy]
        refine kstB_eq h1 fun hn => ?_
        show (if stored.contains y = true then m' y else m₀ y) = m' y
        cases h3 : stored.contains y with
        | true => simp
        | false => simp only [Bool.false_eq_true, if_false]; exact (h2 y hy hn h3).symm
    rw [em]
    exact F'
end
theorem sub_ri_reversed : isSubtype (.type "range_iterator") (.type "reversed") = pure false := by rw [isSubtype_type]; kernel_rfl
section
variable {prog : Program} {w : World} {A : Around} {E : Value → Shared → Prop} {s : Shared}
noncomputable abbrev ritObj (b : Int) : Obj := { cls := .type "range_iterator", data := .fields #[rawInt (b - 1), rawInt b, rawInt (-1)] }
theorem call_range_reversed {r : Addr} {b : Int} {t u v : Tok} {Q : Value → Shared → Prop} (hr : IsRange s.heap r 0 b 1 t u v) (h0 : 0 ≤ b) (h1 : b ≤ 1000)
    (h : Q (.ref s.heap.objs.size) { s with heap := s.heap.push (ritObj b) }) : wpAny (model prog w) A (call (.builtin "range.__reversed__") [.ref r]) Q E s := by
  have hT : s.TypeIs (.ref r) "range" := ⟨_, hr, rfl⟩
  refine wpAny_call_entry F.slot_range_reversed hT F.entry_range_reversed ?_ (F.args_range_reversed_1 _)
  unfold Builtin.«range.__reversed__»
  refine wpAny_bind (wpAny_of_eq (a := Value.ref r) rfl ?_)
  show wpAny _ _ (Builtin.Range.rangeFields (.ref r) >>= _) _ _ s
  unfold Builtin.Range.rangeFields
  refine wpAny_bind ?_
  refine wpAny_bind (wpAny_field hr rfl (x := .int 0 t) rfl ?_)
  refine wpAny_bind (wpAny_of_eq (a := some (0 : Int)) rfl ?_)
  refine wpAny_bind (wpAny_field hr rfl (x := .int b u) rfl ?_)
  refine wpAny_bind (wpAny_of_eq (a := some b) rfl ?_)
  refine wpAny_bind (wpAny_field hr rfl (x := .int 1 v) rfl ?_)
  refine wpAny_bind (wpAny_of_eq (a := some (1 : Int)) rfl ?_)
  refine wpAny_pure ?_
  have hn : Builtin.Range.rangeSize 0 b 1 = b := by
    unfold Builtin.Range.rangeSize
    rw [if_pos (by decide)]
    split <;> omega
  have hsm : (Builtin.Range.rangeFitsLong 0 && Builtin.Range.rangeFitsLong b && Builtin.Range.rangeFitsLong 1 && Builtin.Range.rangeFitsLong (-1) && Builtin.Range.rangeFitsLong (0 - 1) && Builtin.Range.rangeFitsLong b) = true := by
    unfold Builtin.Range.rangeFitsLong
    simp only [Bool.and_eq_true, decide_eq_true_eq]
    omega
  dsimp only
  rw [hn, hsm]
  simp only [Bool.not_true, Bool.false_eq_true, if_false, if_true]
  have e1 : (0 : Int) + (b - 1) * 1 = b - 1 := by omega
  rw [e1]
  exact wpAny_bind (wpAny_newObj_type (wpAny_pure ⟨_, rfl, h⟩))
theorem code_reversed_new_range {r : Addr} {b : Int} {t u v : Tok} {Q₁ : Value → Shared → Prop} (hr : IsRange s.heap r 0 b 1 t u v) (h0 : 0 ≤ b) (h1 : b ≤ 1000)
    (h : Q₁ (.ref s.heap.objs.size) { s with heap := s.heap.push (ritObj b) }) :
    codeAny (model prog w) A (.call (.builtin "reversed.__new__") ⟨[.type "reversed", .ref r], []⟩) (wants Q₁ E) s := by
  have hT : s.TypeIs (.ref r) "range" := ⟨_, hr, rfl⟩
  refine codeAny_of_tree ?_
  show wpAny _ A.in1 (do checkBuiltinCall "reversed.__new__" ⟨[.type "reversed", .ref r], []⟩; again (.builtin "reversed.__new__" ⟨[.type "reversed", .ref r], []⟩)) _ _ s
  refine wpAny_bind (wpAny_of_eq (F.newCall_reversed_1 _) (wpAny_pure ⟨plainId_quiet F.plain_reversed_new _, codeAny_builtin F.entry_reversed_new ?_⟩))
  rw [Around.under_plainId F.plain_reversed_new _]
  unfold Builtin.«reversed.__new__»
  refine wpAny_bind (wpAny_of_eq (newClass_reversed _) ?_)
  dsimp only
  refine wpAny_bind (wpAny_of_eq (a := ()) (by first | rfl | kernel_rfl) ?_)
  refine wpAny_bind (wpAny_of_eq (a := ()) (by first | rfl | kernel_rfl) ?_)
  refine wpAny_bind (wpAny_specialOf hT F.slot_range_reversed.lookup ?_)
  dsimp only
  refine wpAny_bind (wpAny_of_eq (F.slot_range_reversed.bind _) ?_)
  dsimp only
  rw [if_neg (show ¬ ((Value.builtin "range.__reversed__" == Value.none) = true) from Bool.false_ne_true)]
  refine wpAny_bind (wpAny_rule ?_)
  refine wpAny_bind (m := runValue (.call (.builtin "range.__reversed__") ⟨[.ref r], []⟩)) (show wpAny _ _ (call (.builtin "range.__reversed__") [.ref r]) _ _ _ from call_range_reversed hr h0 h1 ?_)
  first
  | exact wpAny_pure h
  | exact wpAny_bind (wpAny_pure (wpAny_pure h))
theorem call_reversed_range {r : Addr} {b : Int} {t u v : Tok} {Q : Value → Shared → Prop} (hr : IsRange s.heap r 0 b 1 t u v) (h0 : 0 ≤ b) (h1 : b ≤ 1000)
    (h : Q (.ref s.heap.objs.size) { s with heap := s.heap.push (ritObj b) }) : wpAny (model prog w) A (call (.type "reversed") [.ref r]) Q E s := by
  refine callType_other (U := "range_iterator") (Q₁ := fun obj s₁ => obj = .ref s.heap.objs.size ∧ s₁ = { s with heap := s.heap.push (ritObj b) }) (by decide +kernel) F.create_reversed ⟨_, _, F.mro_reversed⟩ F.made_reversed sub_ri_reversed (F.typeCall_reversed_1 _) (code_reversed_new_range hr h0 h1 ⟨rfl, rfl⟩) ?_
  rintro obj s₁ ⟨rfl, rfl⟩
  exact ⟨⟨_, Heap.get?_push_size _ rfl, rfl⟩, h⟩
theorem g_reversed {h₀ : Heap} {L : Addr} {m : Str → Option Value} {news : List (Addr × Obj)} {r : Addr} {b : Int} {t u v : Tok} {Q : Value → Shared → Prop} (F : Fr h₀ L s.heap m) (N : News h₀ L s.heap news) (hr : IsRange s.heap r 0 b 1 t u v) (h0 : 0 ≤ b) (h1 : b ≤ 1000)
    (h : ∀ D h', Fr h₀ L h' m → News h₀ L h' ((D, ritObj b) :: news) → (∀ p ∈ news, p.1 < D) → Q (.ref D) { s with heap := h' }) : wpAny (model prog w) A (call (.type "reversed") [.ref r]) Q E s :=
  call_reversed_range hr h0 h1 (h _ _ (F.push _) (N.push F _) fun p hp => Heap.lt_size (N p hp).1)
end
theorem g_fdiv2 {prog : Program} {w : World} {A : Around} {E : Value → Shared → Prop} {s : Shared} {a : Int} {t u : Tok} {Q : Value → Shared → Prop} (h : ∀ t tk, Q (.int (a / 2) t) { s with toks := tk }) : wpAny (model prog w) A (binaryOp .FloorDiv (.int a t) (.int 2 u)) Q E s := by
  refine floordiv_int (by decide) ?_
  rw [Int.fdiv_eq_ediv_of_nonneg _ (by decide)]
  exact h _ _
theorem CmpSpec.more {prog : Program} {w : World} {rest rest' : List (Addr × Obj)} {P : Value → Prop} {lt : Value → Value → Bool} (h : CmpSpec prog w rest P lt) (hs : ∀ p ∈ rest, p ∈ rest') : CmpSpec prog w rest' P lt :=
  fun A s' Q E a b ha hb hr hu hq => h A s' Q E a b ha hb (fun p hp => hr p (hs p hp)) hu hq
theorem sup_all {P : Value → Prop} {lt : Value → Value → Bool} {pos : Nat} {vs : List Value} (h : ∀ v ∈ vs, P v) (hp : pos < vs.length) : ∀ v ∈ sup lt pos vs, P v := by
  have hx : P (vs.getD pos .none) := p_getD h hp
  have go : ∀ (f pos : Nat) (vs : List Value), pos < vs.length → (∀ v ∈ vs, P v) → (∀ v ∈ (shole lt f pos vs).2, P v) ∧ (shole lt f pos vs).1 < vs.length := by
    intro f
    induction f with
    | zero => intro pos vs hp h; exact ⟨h, hp⟩
    | succ f ih =>
      intro pos vs hp h
      rw [shole]
      split
      · have hb := spick_lt lt vs (2 * pos + 1) (by omega)
        have q := ih (spick lt vs (2 * pos + 1)) (vs.set pos (vs.getD (spick lt vs (2 * pos + 1)) .none)) (by rw [List.length_set]; exact hb) (p_set h (p_getD h hb))
        rw [List.length_set] at q
        exact q
      · exact ⟨h, hp⟩
  obtain ⟨h1, h2⟩ := go vs.length pos vs hp h
  unfold sup
  exact sdown_all lt _ _ hx _ _ _ (by rw [List.length_set, shole_length]; exact h2) (p_set h1 hx)
theorem execs_cons_toks {M : Model} {A : Around} {E : Value → Shared → Prop} {s : Shared} {env : Env} {st : Stmt} {rest : List Stmt} {Q : Flow → Shared → Prop} (hn : 1 ≤ s.toks)
    (h : wpAny M A (exec st env) (fun f s' => match f with | .next => 1 ≤ s'.toks → wpAny M A (execs rest env) Q E s' | f => Q f s') E s) : wpAny M A (execs (st :: rest) env) Q E s := by
  refine wpAny_execs_cons (wpAny_mono (wpAny_toks_of hn h) (fun f s' x => ?_) fun _ _ x => x.2)
  obtain ⟨x1, x2⟩ := x
  cases f with
  | next => exact x2 x1
  | _ => exact x2
theorem g_truthyK {prog : Program} {w : World} {A : Around} {E : Value → Shared → Prop} {s : Shared} {K : Frag} {h₀ : Heap} {L d : Addr} {m : Str → Option Value} {n : Nat} {Q : Bool → Shared → Prop} (F : Fr h₀ L s.heap m) (X : K.In h₀)
    (hl : K.lookup d = some ⟨.type "dict", none, .dict #[] n, #[]⟩) (hd : (d == sysModules) = false) (h : ∀ tk, Q false { s with toks := tk }) : wpAny (model prog w) A (truthy (.ref d)) Q E s := by
  refine wpAny_truthy_dict (knd := strKind prog w) (kvs := []) hd ?_ (by decide) (h _)
  have ho := (X.keeps F.keep) _ _ hl
  exact ⟨_, #[], n, ho, ⟨rfl, rfl, rfl⟩, rfl, (by intro e he; simp at he), (by first | exact .nil | trivial | simp [Pairs]), List.nodup_nil⟩
end
section
set_option maxRecDepth 100000
set_option maxHeartbeats 4000000
open PySem PySem.W PySem.Calls PyProof.Rows PyProof.Rows.LCg PyProof.Rows.LCt
theorem compEnd_mono {h₀ : Heap} {L : Addr} {m : Str → Option Value} {s₁ : Shared} {I : Addr} {oI : Obj} {C : Addr} {oC : Obj} {D : Addr} {oD : Obj} {S : List (Addr × Obj) → Prop} {rest rest' : Value → List (Addr × Obj) → Prop} {y : Value} {s₂ : Shared}
    (h : CompEnd h₀ L m s₁ I oI C oC D oD S rest y s₂) (hr : ∀ news', rest y news' → rest' y news') : CompEnd h₀ L m s₁ I oI C oC D oD S rest' y s₂ := by
  obtain ⟨h', tk, news', e, F, N, o, hS, r⟩ := h
  exact ⟨h', tk, news', e, F, N, o, hS, hr _ r⟩
section
variable {prog : Program} {w : World} {A : Around} {s : Shared} {h₀ : Heap} {L : Addr} {m : Str → Option Value} {env : Env} {ct elt : Expr} {x : Str} {scope : Scope} {cl : List (Str × Addr)} {S : List (Addr × Obj) → Prop} {P : Nat → Value → Prop} {Fin : List Value → List (Addr × Obj) → Prop}
theorem restT_inv (n : Nat) (Inv : Nat → List Value → List (Addr × Obj) → Prop) {news : List (Addr × Obj)} (h0 : Inv 0 [] news)
    (step : ∀ i ys news, i < n → Inv i ys news → ∀ v I oI C oC D m₂ h tk (E' : Value → Shared → Prop), P i v → NsObj oC m₂ → m₂ x = some v → Fr h₀ L h m → News h₀ L h ((I, oI) :: (C, oC) :: (D, lst ys) :: news) → Off3 I C D news → ((@Ne Nat I C) ∧ (@Ne Nat I D) ∧ (@Ne Nat C D)) →
      wpAny (model prog w) A (isTrue ct (compEnvC scope cl C env) (eval ct (compEnvC scope cl C env))) (fun ok s' => if ok = true then
        wpAny (model prog w) A (eval elt (compEnvC scope cl C env)) (CompEnd h₀ L m { s with heap := h, toks := tk } I oI C oC D (lst ys) S (fun y news' => Inv (i + 1) (ys ++ [y]) news')) E' s'
        else CompEnd h₀ L m { s with heap := h, toks := tk } I oI C oC D (lst ys) S (fun _ news' => Inv (i + 1) ys news') Value.none s') E' { s with heap := h, toks := tk })
    (fin : ∀ ys news, Inv n ys news → Fin ys news) : CompRestT prog w A h₀ L m env ct elt x scope cl s S P Fin n 0 [] news := by
  have go : ∀ k i ys news, i + k = n → Inv i ys news → CompRestT prog w A h₀ L m env ct elt x scope cl s S P Fin k i ys news := by
    intro k
    induction k with
    | zero => intro i ys news hi hI; rw [Nat.add_zero] at hi; subst hi; exact CompRestT.zero (fin ys news hI)
    | succ k ih =>
      intro i ys news hi hI
      refine CompRestT.succ ?_
      intro v I oI C oC D m₂ h tk E' hP hC hx F N off ne
      refine wpAny_mono (step i ys news (by omega) hI v I oI C oC D m₂ h tk E' hP hC hx F N off ne) (fun ok s' q => ?_) fun _ _ e => e
      cases ok with
      | true =>
        simp only [if_true] at q ⊢
        exact wpAny_mono q (fun y s₂ r => compEnd_mono r fun news' z => ih (i + 1) _ _ (by omega) z) fun _ _ e => e
      | false =>
        simp only [Bool.false_eq_true, if_false] at q ⊢
        exact compEnd_mono q fun news' z => ih (i + 1) _ _ (by omega) z
  exact go n 0 [] news (by omega) h0
theorem restU_inv (n : Nat) (Inv : Nat → List Value → List (Addr × Obj) → Prop) {news : List (Addr × Obj)} (h0 : Inv 0 [] news)
    (step : ∀ i ys news, i < n → Inv i ys news → ∀ v I oI C oC D m₂ h tk (E' : Value → Shared → Prop), P i v → NsObj oC m₂ → m₂ x = some v → Fr h₀ L h m → News h₀ L h ((I, oI) :: (C, oC) :: (D, lst ys) :: news) → Off3 I C D news → ((@Ne Nat I C) ∧ (@Ne Nat I D) ∧ (@Ne Nat C D)) →
        wpAny (model prog w) A (eval elt (compEnvC scope cl C env)) (CompEnd h₀ L m { s with heap := h, toks := tk } I oI C oC D (lst ys) S (fun y news' => Inv (i + 1) (ys ++ [y]) news')) E' { s with heap := h, toks := tk })
    (fin : ∀ ys news, Inv n ys news → Fin ys news) : CompRest prog w A h₀ L m env elt x scope cl s S P Fin n 0 [] news := by
  have go : ∀ k i ys news, i + k = n → Inv i ys news → CompRest prog w A h₀ L m env elt x scope cl s S P Fin k i ys news := by
    intro k
    induction k with
    | zero => intro i ys news hi hI; rw [Nat.add_zero] at hi; subst hi; exact CompRest.zero (fin ys news hI)
    | succ k ih =>
      intro i ys news hi hI
      refine CompRest.succ ?_
      intro v I oI C oC D m₂ h tk E' hP hC hx F N off ne
      exact wpAny_mono (step i ys news (by omega) hI v I oI C oC D m₂ h tk E' hP hC hx F N off ne) (fun y s₂ r => compEnd_mono r fun news' z => ih (i + 1) _ _ (by omega) z) fun _ _ e => e
  exact go n 0 [] news (by omega) h0
end
end
section
set_option maxRecDepth 100000
open PySem PySem.W PySem.Calls PyProof.Rows
open PySem.StrLaws PySem.Builtin PySem.Builtin.Str
noncomputable def scanF (p z : List Nat) : Nat → List Nat → List Nat
  | 0, l => l
  | _ + 1, [] => []
  | f + 1, a :: r => if p.isPrefixOf (a :: r) = true then z ++ scanF p z f ((a :: r).drop p.length) else a :: scanF p z f r
theorem scanF_fuel (p z : List Nat) (hp : 1 ≤ p.length) : ∀ (f g : Nat) (l : List Nat), l.length ≤ f → l.length ≤ g → scanF p z f l = scanF p z g l
  | 0, 0, _, _, _ => rfl
  | 0, g + 1, l, hf, _ => by
    have : l = [] := List.eq_nil_of_length_eq_zero (by omega)
    subst this; rfl
  | f + 1, 0, l, _, hg => by
    have : l = [] := List.eq_nil_of_length_eq_zero (by omega)
    subst this; rfl
  | f + 1, g + 1, [], _, _ => rfl
  | f + 1, g + 1, a :: r, hf, hg => by
    simp only [List.length_cons] at hf hg
    rw [scanF, scanF, scanF_fuel p z hp f g r (by omega) (by omega), scanF_fuel p z hp f g ((a :: r).drop p.length) (by rw [List.length_drop, List.length_cons]; omega) (by rw [List.length_drop, List.length_cons]; omega)]
noncomputable def scan (p z l : List Nat) : List Nat := scanF p z l.length l
section
variable {p z : List Nat} (hp : 1 ≤ p.length)
include hp
theorem scan_no {a : Nat} {r : List Nat} (h : p.isPrefixOf (a :: r) = false) : scan p z (a :: r) = a :: scan p z r := by
  unfold scan
  rw [List.length_cons, scanF, if_neg (by rw [h]; exact Bool.false_ne_true)]
theorem scan_yes (l : List Nat) : scan p z (p ++ l) = z ++ scan p z l := by
  obtain ⟨a, r, rfl⟩ : ∃ a r, p = a :: r := by
    cases p with
    | nil => simp at hp
    | cons a r => exact ⟨a, r, rfl⟩
  unfold scan
  rw [List.cons_append, List.length_cons, scanF, if_pos (by rw [← List.cons_append, List.isPrefixOf_iff_prefix]; exact List.prefix_append _ _)]
  have e : (a :: (r ++ l)).drop (a :: r).length = l := by
    rw [← List.cons_append, List.drop_left]
  rw [e, scanF_fuel (a :: r) z hp _ l.length l (by rw [List.length_append]; omega) (Nat.le_refl _)]
theorem scan_skip : ∀ (b l : List Nat), (∀ k, k < b.length → p.isPrefixOf ((b ++ l).drop k) = false) → scan p z (b ++ l) = b ++ scan p z l
  | [], _, _ => rfl
  | a :: b, l, h => by
    have h0 := h 0 (by simp)
    rw [List.drop_zero, List.cons_append] at h0
    rw [List.cons_append, scan_no hp h0, scan_skip b l fun k hk => ?_, List.cons_append]
    have := h (k + 1) (by simpa using hk)
    simpa using this
theorem scan_blocks {α : Type} (e : α → List Nat) (l : List α) (hb : ∀ c, e c ≠ p → ∀ s : List Nat, ∀ k, k < (e c).length → p.isPrefixOf ((e c ++ s).drop k) = false) :
    scan p z (l.flatMap e) = l.flatMap fun c => if e c = p then z else e c := by
  induction l with
  | nil => rfl
  | cons c l ih =>
    rw [List.flatMap_cons, List.flatMap_cons, ← ih]
    by_cases h : e c = p
    · rw [if_pos h, h, scan_yes hp]
    · rw [if_neg h, scan_skip hp _ _ (hb c h _)]
theorem scanF_length : ∀ (f : Nat) (l : List Nat), l.length ≤ f → (scanF p z f l).length ≤ l.length * (z.length + 1)
  | 0, l, h => by
    have : l = [] := List.eq_nil_of_length_eq_zero (by omega)
    subst this; exact Nat.zero_le _
  | f + 1, [], _ => Nat.zero_le _
  | f + 1, a :: r, h => by
    rw [List.length_cons] at h
    rw [scanF]
    split
    · rw [List.length_append]
      have h1 := scanF_length f ((a :: r).drop p.length) (by rw [List.length_drop, List.length_cons]; omega)
      rw [List.length_drop, List.length_cons] at h1
      have h2 : (r.length + 1 - p.length) * (z.length + 1) ≤ r.length * (z.length + 1) := Nat.mul_le_mul_right _ (by omega)
      rw [List.length_cons, Nat.add_mul]
      omega
    · rw [List.length_cons, List.length_cons, Nat.add_mul]
      have h1 := scanF_length f r (by omega)
      omega
theorem scan_length (l : List Nat) : (scan p z l).length ≤ l.length * (z.length + 1) := scanF_length hp _ _ (Nat.le_refl _)
end
theorem at_iff (x y : Str) (k : Nat) (hk : k ≤ x.length) : At x y x.length k ↔ y.cps.toList.isPrefixOf (x.cps.toList.drop k) = true := by
  unfold At
  rw [subAt_eq, List.isPrefixOf_iff_prefix]
  have hl : y.length = y.cps.toList.length := by simp [Str.length]
  have hx : x.length = x.cps.toList.length := by simp [Str.length]
  constructor
  · rintro ⟨_, h⟩
    have := eq_of_beq h
    rw [← this]
    exact List.take_prefix _ _
  · intro h
    refine ⟨?_, ?_⟩
    · have := h.length_le
      rw [List.length_drop] at this
      omega
    · rw [beq_iff_eq, hl]
      exact (List.prefix_iff_eq_take.mp h).symm
theorem glue_scan (x y z : Str) (hw : 1 ≤ y.length) : ∀ (cuts : List Nat) (a f : Nat), a ≤ x.length → ChainG x y x.length a cuts f → (∀ k, f ≤ k → ¬ At x y x.length k) →
    (Str.join z (partsFrom x y.length a cuts)).cps.toList = scan y.cps.toList z.cps.toList (x.cps.toList.drop a)
  | [], a, f, ha, hc, hn => by
    have hw' : 1 ≤ y.cps.toList.length := by simpa [Str.length] using hw
    have e : f = a := hc
    subst e
    show (strSub x f x.length).cps.toList = _
    rw [strSub_toList]
    have hx : x.length = x.cps.toList.length := by simp [Str.length]
    have e1 : (x.cps.toList.drop f).take (x.length - f) = x.cps.toList.drop f := List.take_of_length_le (by rw [List.length_drop]; omega)
    rw [e1]
    have h := scan_skip (p := y.cps.toList) (z := z.cps.toList) hw' (x.cps.toList.drop f) [] fun k hk => by
      rw [List.append_nil, List.drop_drop]
      rw [List.length_drop] at hk
      have := hn (f + k) (by omega)
      rw [at_iff x y (f + k) (by omega)] at this
      exact Bool.not_eq_true _ ▸ this
    rw [List.append_nil] at h
    rw [h]
    show _ = _ ++ []
    rw [List.append_nil]
  | c :: r, a, f, ha, hc, hn => by
    have hw' : 1 ≤ y.cps.toList.length := by simpa [Str.length] using hw
    obtain ⟨h1, h2, h3, h4⟩ := hc
    have hx : x.length = x.cps.toList.length := by simp [Str.length]
    have hy : y.length = y.cps.toList.length := by simp [Str.length]
    have hcl : c + y.length ≤ x.length := h2.1
    have ih := glue_scan x y z hw r (c + y.length) f hcl h4 hn
    obtain ⟨p, q, e⟩ := partsFrom_ne x y.length (c + y.length) r
    show (Str.join z (strSub x a c :: partsFrom x y.length (c + y.length) r)).cps.toList = _
    rw [e] at ih ⊢
    show (strSub x a c ++ z ++ Str.join z (p :: q)).cps.toList = _
    rw [Str.cps_append, Str.cps_append, Array.toList_append, Array.toList_append, ih, strSub_toList]
    have hpre : y.cps.toList <+: x.cps.toList.drop c := List.isPrefixOf_iff_prefix.mp ((at_iff x y c (by omega)).mp h2)
    obtain ⟨t, ht⟩ := hpre
    have et : t = x.cps.toList.drop (c + y.length) := by
      rw [← List.drop_drop, ← ht, hy, List.drop_left]
    have e2 : x.cps.toList.drop a = (x.cps.toList.drop a).take (c - a) ++ (y.cps.toList ++ x.cps.toList.drop (c + y.length)) := by
      rw [← et, ht]
      have : x.cps.toList.drop c = (x.cps.toList.drop a).drop (c - a) := by rw [List.drop_drop]; congr 1; omega
      rw [this, List.take_append_drop]
    conv => rhs; rw [e2]
    rw [scan_skip (p := y.cps.toList) (z := z.cps.toList) hw', scan_yes hw', List.append_assoc]
    intro k hk
    rw [← e2, List.drop_drop]
    rw [List.length_take, List.length_drop] at hk
    have := h3 (a + k) (by omega) (by omega)
    rw [at_iff x y (a + k) (by omega)] at this
    exact Bool.not_eq_true _ ▸ this
theorem replace_scan (x y z : Str) (hw : 1 ≤ y.length) : (Txt.replace x y z).cps.toList = scan y.cps.toList z.cps.toList x.cps.toList := by
  obtain ⟨f, h1, h2⟩ := occ_tight x y hw
  have h := glue_scan x y z hw _ 0 f (Nat.zero_le _) h1 h2
  rw [List.drop_zero] at h
  rw [← h]
  unfold Txt.replace
  have hy0 : (y.length == 0) = false := by simp; omega
  rw [hy0, Bool.false_and, Bool.or_false]
  cases he : (occurrences x y 0 x.length (x.length + 1)).isEmpty
  · rw [if_neg Bool.false_ne_true, glued_eq_join, partsBetween_eq]
  · rw [if_pos rfl]
    have e0 : occurrences x y 0 x.length (x.length + 1) = [] := List.isEmpty_iff.mp he
    rw [e0]
    show _ = (strSub x 0 x.length).cps.toList
    rw [sub_whole]
theorem replace_len (x y z : Str) (hw : 1 ≤ y.length) : (Txt.replace x y z).length ≤ x.length * (z.length + 1) := by
  have h := scan_length (p := y.cps.toList) (z := z.cps.toList) (by simpa [Str.length] using hw) x.cps.toList
  rw [← replace_scan x y z hw] at h
  simpa [Str.length] using h
noncomputable def esc (x : Str) : Str := Txt.replace (Txt.replace (Txt.replace x (Str.ofString "&") (Str.ofString "&amp;")) (Str.ofString ">") (Str.ofString "&gt;")) (Str.ofString "<") (Str.ofString "&lt;")
noncomputable def unesc (x : Str) : Str := Txt.replace (Txt.replace (Txt.replace x (Str.ofString "&lt;") (Str.ofString "<")) (Str.ofString "&gt;") (Str.ofString ">")) (Str.ofString "&amp;") (Str.ofString "&")
theorem of_amp : Str.ofString "&" = ⟨#[38]⟩ := by decide +kernel
theorem of_gt : Str.ofString ">" = ⟨#[62]⟩ := by decide +kernel
theorem of_lt : Str.ofString "<" = ⟨#[60]⟩ := by decide +kernel
theorem of_eamp : Str.ofString "&amp;" = ⟨#[38, 97, 109, 112, 59]⟩ := by decide +kernel
theorem of_egt : Str.ofString "&gt;" = ⟨#[38, 103, 116, 59]⟩ := by decide +kernel
theorem of_elt : Str.ofString "&lt;" = ⟨#[38, 108, 116, 59]⟩ := by decide +kernel
theorem esc_len1 (x : Str) : (Txt.replace x (Str.ofString "&") (Str.ofString "&amp;")).length ≤ 6 * x.length := by
  have h := replace_len x (Str.ofString "&") (Str.ofString "&amp;") (by decide)
  have e : (Str.ofString "&amp;").length = 5 := by decide
  rw [e] at h; omega
theorem esc_len2 (x : Str) : (Txt.replace x (Str.ofString ">") (Str.ofString "&gt;")).length ≤ 5 * x.length := by
  have h := replace_len x (Str.ofString ">") (Str.ofString "&gt;") (by decide)
  have e : (Str.ofString "&gt;").length = 4 := by decide
  rw [e] at h; omega
theorem esc_len3 (x : Str) : (Txt.replace x (Str.ofString "<") (Str.ofString "&lt;")).length ≤ 5 * x.length := by
  have h := replace_len x (Str.ofString "<") (Str.ofString "&lt;") (by decide)
  have e : (Str.ofString "&lt;").length = 4 := by decide
  rw [e] at h; omega
theorem une_len1 (x : Str) : (Txt.replace x (Str.ofString "&lt;") (Str.ofString "<")).length ≤ 2 * x.length := by
  have h := replace_len x (Str.ofString "&lt;") (Str.ofString "<") (by decide)
  have e : (Str.ofString "<").length = 1 := by decide
  rw [e] at h; omega
theorem une_len2 (x : Str) : (Txt.replace x (Str.ofString "&gt;") (Str.ofString ">")).length ≤ 2 * x.length := by
  have h := replace_len x (Str.ofString "&gt;") (Str.ofString ">") (by decide)
  have e : (Str.ofString ">").length = 1 := by decide
  rw [e] at h; omega
noncomputable def enc (c : Nat) : List Nat := if c = 38 then [38, 97, 109, 112, 59] else if c = 62 then [38, 103, 116, 59] else if c = 60 then [38, 108, 116, 59] else [c]
theorem scan_one (c : Nat) (z l : List Nat) : scan [c] z l = l.flatMap fun a => if a = c then z else [a] := by
  have h := scan_blocks (p := [c]) (z := z) (by simp) (fun a => [a]) l (by
    intro a ha s k hk
    have : k = 0 := by simpa using hk
    subst this
    simp only [ne_eq, List.cons.injEq, and_true] at ha
    simp [List.isPrefixOf, Ne.symm ha])
  have e : (l.flatMap fun a => [a]) = l := by simp
  rw [e] at h
  rw [h]
  simp
theorem esc_eq (x : Str) : (esc x).cps.toList = x.cps.toList.flatMap enc := by
  unfold esc
  rw [replace_scan _ _ _ (by decide), replace_scan _ _ _ (by decide), replace_scan _ _ _ (by decide), of_amp, of_gt, of_lt, of_eamp, of_egt, of_elt]
  simp only [scan_one, List.flatMap_assoc]
  congr 1
  funext c
  unfold enc
  by_cases h1 : c = 38
  · subst h1; decide
  · by_cases h2 : c = 62
    · subst h2; decide
    · by_cases h3 : c = 60
      · subst h3; decide
      · simp [h1, h2, h3]
theorem scan_ent (p : List Nat) (q : Nat) (r : List Nat) (hp : p = 38 :: q :: r) (z : List Nat) (e : Nat → List Nat) (l : List Nat)
    (h : ∀ c, e c = p ∨ (∃ a b, e c = 38 :: a :: b ∧ a ≠ q ∧ 38 ∉ (a :: b)) ∨ (38 ∉ e c)) : scan p z (l.flatMap e) = l.flatMap fun c => if e c = p then z else e c := by
  refine scan_blocks (by rw [hp]; simp) e l fun c hc s k hk => ?_
  have no38 : ∀ (b s : List Nat) (k : Nat), 38 ∉ b → k < b.length → p.isPrefixOf ((b ++ s).drop k) = false := by
    intro b s k hb hk
    rw [List.drop_append_of_le_length (Nat.le_of_lt hk)]
    obtain ⟨a, t, e1⟩ : ∃ a t, b.drop k = a :: t := by
      cases e2 : b.drop k with
      | nil => have := congrArg List.length e2; rw [List.length_drop] at this; simp at this; omega
      | cons a t => exact ⟨a, t, rfl⟩
    have ha : a ≠ 38 := fun q => hb (by rw [← q]; exact List.mem_of_mem_drop (e1 ▸ List.mem_cons_self ..))
    rw [e1, hp, List.cons_append]
    simp [List.isPrefixOf, Ne.symm ha]
  rcases h c with h | ⟨a, b, h1, h2, h3⟩ | h
  · exact absurd h hc
  · cases k with
    | zero =>
      rw [List.drop_zero, h1, hp]
      simp [List.isPrefixOf, Ne.symm h2]
    | succ k =>
      have := no38 (a :: b) s k h3 (by rw [h1] at hk; simpa using hk)
      rw [h1, List.cons_append, List.drop_succ_cons]
      exact this
  · exact no38 _ _ _ h hk
theorem unesc_esc (x : Str) : unesc (esc x) = x := by
  apply PySem.Str.ext'
  apply Array.toList_inj.mp
  unfold unesc
  rw [replace_scan _ _ _ (by decide), replace_scan _ _ _ (by decide), replace_scan _ _ _ (by decide), of_amp, of_gt, of_lt, of_eamp, of_egt, of_elt, esc_eq]
  show scan [38, 97, 109, 112, 59] [38] (scan [38, 103, 116, 59] [62] (scan [38, 108, 116, 59] [60] (x.cps.toList.flatMap enc))) = _
  have cs : ∀ c : Nat, c = 38 ∨ c = 62 ∨ c = 60 ∨ (c ≠ 38 ∧ c ≠ 62 ∧ c ≠ 60) := fun c => by omega
  rw [scan_ent _ 108 [116, 59] rfl]
  rotate_left
  · intro c
    rcases cs c with rfl | rfl | rfl | ⟨h1, h2, h3⟩
    · exact .inr (.inl ⟨97, _, rfl, by decide, by decide⟩)
    · exact .inr (.inl ⟨103, _, rfl, by decide, by decide⟩)
    · exact .inl rfl
    · exact .inr (.inr (by simp [enc, h1, h2, h3, Ne.symm h1]))
  rw [scan_ent _ 103 [116, 59] rfl]
  rotate_left
  · intro c
    rcases cs c with rfl | rfl | rfl | ⟨h1, h2, h3⟩
    · exact .inr (.inl ⟨97, _, rfl, by decide, by decide⟩)
    · exact .inl rfl
    · exact .inr (.inr (by decide))
    · exact .inr (.inr (by simp [enc, h1, h2, h3, Ne.symm h1]))
  rw [scan_ent _ 97 [109, 112, 59] rfl]
  rotate_left
  · intro c
    rcases cs c with rfl | rfl | rfl | ⟨h1, h2, h3⟩
    · exact .inl rfl
    · exact .inr (.inr (by decide))
    · exact .inr (.inr (by decide))
    · exact .inr (.inr (by simp [enc, h1, h2, h3, Ne.symm h1]))
  conv => rhs; rw [← List.flatMap_singleton' x.cps.toList]
  congr 1
  funext c
  rcases cs c with rfl | rfl | rfl | ⟨h1, h2, h3⟩
  · decide
  · decide
  · decide
  · simp [enc, h1, h2, h3]
end
section
set_option maxRecDepth 100000
set_option maxHeartbeats 4000000
open PySem PySem.W PySem.Calls PyProof.Rows
structure TPO (lt : Value → Value → Bool) : Prop where
  asymm : ∀ a b, lt a b = true → lt b a = false
  trans : ∀ a b c, lt b a = false → lt c b = false → lt c a = false
theorem TPO.flip {lt : Value → Value → Bool} (h : TPO lt) : TPO (fun a b => lt b a) :=
  ⟨fun a b q => h.asymm b a q, fun a b c q r => h.trans c b a r q⟩
theorem TPO.refl {lt : Value → Value → Bool} (h : TPO lt) (a : Value) : lt a a = false := by
  cases q : lt a a with
  | false => rfl
  | true => have := h.asymm a a q; rw [q] at this; cases this
theorem tpo_ltV : TPO ltV where
  asymm a b h := by
    unfold ltV at *
    simp only [decide_eq_true_eq, decide_eq_false_iff_not] at *
    exact fun q => List.lt_irrefl _ (List.lt_trans h q)
  trans a b c h1 h2 := by
    unfold ltV at *
    simp only [decide_eq_false_iff_not, List.not_lt] at *
    exact List.le_trans h1 h2
theorem getD_set {vs : List Value} {i j : Nat} {x : Value} (hi : i < vs.length) : (vs.set i x).getD j .none = if i = j then x else vs.getD j .none := by
  rw [List.getD_eq_getElem?_getD, List.getD_eq_getElem?_getD, List.getElem?_set]
  split
  · subst_vars; simp [hi]
  · rfl
theorem getD_set_ne {vs : List Value} {i j : Nat} {x : Value} (h : i ≠ j) : (vs.set i x).getD j .none = vs.getD j .none := by
  rw [List.getD_eq_getElem?_getD, List.getD_eq_getElem?_getD, List.getElem?_set, if_neg h]
noncomputable def HeapFrom (lt : Value → Value → Bool) (st : Nat) (vs : List Value) : Prop :=
  ∀ k, 1 ≤ k → k < vs.length → st ≤ (k - 1) / 2 → lt (vs.getD k .none) (vs.getD ((k - 1) / 2) .none) = false
inductive Anc (st : Nat) : Nat → Prop
  | refl : Anc st st
  | step {p : Nat} : st < p → Anc st ((p - 1) / 2) → Anc st p
theorem Anc.le {st p : Nat} (h : Anc st p) : st ≤ p := by
  cases h with
  | refl => exact Nat.le_refl _
  | step h _ => exact Nat.le_of_lt h
theorem Anc.up {st p : Nat} (h : Anc st p) (hp : st < p) : Anc st ((p - 1) / 2) := by
  cases h with
  | refl => omega
  | step _ q => exact q
theorem Anc.child {st p c : Nat} (h : Anc st p) (hc : (c - 1) / 2 = p) (h1 : 1 ≤ c) : Anc st c := by
  refine .step ?_ (hc ▸ h)
  have := h.le
  omega
theorem Anc.zero : ∀ p, Anc 0 p := by
  intro p
  induction p using Nat.strongRecOn with
  | _ p ih =>
    by_cases h : p = 0
    · subst h; exact .refl
    · exact .step (by omega) (ih _ (by omega))
theorem perm_swap {vs : List Value} {i j : Nat} {x : Value} (hi : i < vs.length) (hj : j < vs.length) (hij : i ≠ j) : ((vs.set i (vs.getD j .none)).set j x).Perm (vs.set i x) := by
  have h := List.set_set_perm (as := vs.set i x) (i := i) (j := j) (by simpa using hi) (by simpa using hj)
  have e1 : (vs.set i x)[j]'(by simpa using hj) = vs.getD j .none := by
    rw [List.getElem_set, if_neg hij, List.getD_eq_getElem?_getD, List.getElem?_eq_getElem hj]; rfl
  have e2 : (vs.set i x)[i]'(by simpa using hi) = x := by simp
  rw [e1, e2, List.set_set] at h
  exact h
section
variable {lt : Value → Value → Bool} (O : TPO lt)
include O
theorem sdown_spec (x : Value) (st : Nat) : ∀ (f pos : Nat) (vs : List Value), pos ≤ f → pos < vs.length → Anc st pos →
    (∀ k, 1 ≤ k → k < vs.length → st ≤ (k - 1) / 2 → k ≠ pos → (k - 1) / 2 ≠ pos → lt (vs.getD k .none) (vs.getD ((k - 1) / 2) .none) = false) →
    (∀ k, 1 ≤ k → k < vs.length → (k - 1) / 2 = pos → lt (vs.getD k .none) x = false) →
    (st < pos → ∀ k, 1 ≤ k → k < vs.length → (k - 1) / 2 = pos → lt (vs.getD k .none) (vs.getD ((pos - 1) / 2) .none) = false) →
    HeapFrom lt st (sdown lt x st f pos vs) ∧ (sdown lt x st f pos vs).Perm (vs.set pos x) := by
  have stop : ∀ (pos : Nat) (vs : List Value), pos < vs.length → Anc st pos →
      (∀ k, 1 ≤ k → k < vs.length → st ≤ (k - 1) / 2 → k ≠ pos → (k - 1) / 2 ≠ pos → lt (vs.getD k .none) (vs.getD ((k - 1) / 2) .none) = false) →
      (∀ k, 1 ≤ k → k < vs.length → (k - 1) / 2 = pos → lt (vs.getD k .none) x = false) → (st < pos → lt x (vs.getD ((pos - 1) / 2) .none) = false) → HeapFrom lt st (vs.set pos x) := by
    intro pos vs hp hA h1 h2 hs k hk1 hk2 hk3
    rw [List.length_set] at hk2
    have hle := hA.le
    by_cases e : k = pos
    · subst e
      have hlt : st < k := by omega
      rw [getD_set hp, if_pos rfl, getD_set_ne (by omega)]
      exact hs hlt
    · rw [getD_set_ne (Ne.symm e)]
      by_cases e2 : (k - 1) / 2 = pos
      · rw [e2, getD_set hp, if_pos rfl]
        exact h2 k hk1 hk2 e2
      · rw [getD_set_ne (Ne.symm e2)]
        exact h1 k hk1 hk2 hk3 e e2
  intro f
  induction f with
  | zero =>
    intro pos vs hf hp hA h1 h2 h3
    have : pos = 0 := by omega
    subst this
    have := hA.le
    exact ⟨stop 0 vs hp hA h1 h2 fun q => absurd q (Nat.not_lt_zero _), List.Perm.refl _⟩
  | succ f ih =>
    intro pos vs hf hp hA h1 h2 h3
    rw [sdown]
    by_cases hlt : st < pos
    · rw [if_pos hlt]
      cases hl : lt x (vs.getD ((pos - 1) / 2) .none) with
      | false =>
        rw [if_neg Bool.false_ne_true]
        exact ⟨stop pos vs hp hA h1 h2 fun _ => hl, List.Perm.refl _⟩
      | true =>
        rw [if_pos rfl]
        have hA' := hA.up hlt
        have hle := hA'.le
        have hpp : (pos - 1) / 2 ≠ pos := by omega
        have hp' : (pos - 1) / 2 < vs.length := by omega
        have key := ih ((pos - 1) / 2) (vs.set pos (vs.getD ((pos - 1) / 2) .none)) (by omega) (by rw [List.length_set]; exact hp') hA' ?_ ?_ ?_
        · exact ⟨key.1, key.2.trans (perm_swap hp hp' (Ne.symm hpp))⟩
        · intro k hk1 hk2 hk3 hk4 hk5
          rw [List.length_set] at hk2
          have hk6 : k ≠ pos := fun q => hk5 (by rw [q])
          rw [getD_set_ne (Ne.symm hk6)]
          by_cases e : (k - 1) / 2 = pos
          · rw [e, getD_set hp, if_pos rfl]
            exact h3 hlt k hk1 hk2 e
          · rw [getD_set_ne (Ne.symm e)]
            exact h1 k hk1 hk2 hk3 hk6 e
        · intro k hk1 hk2 hk3
          rw [List.length_set] at hk2
          by_cases e : k = pos
          · rw [e, getD_set hp, if_pos rfl]
            exact O.asymm _ _ hl
          · rw [getD_set_ne (Ne.symm e)]
            have h4 := h1 k hk1 hk2 (by omega) e (by omega)
            rw [hk3] at h4
            exact O.trans _ _ _ (O.asymm _ _ hl) h4
        · intro hlt2 k hk1 hk2 hk3
          rw [List.length_set] at hk2
          rw [getD_set_ne (i := pos) (j := ((pos - 1) / 2 - 1) / 2) (by omega)]
          have hle2 := (hA'.up hlt2).le
          have h5 := h1 ((pos - 1) / 2) (by omega) hp' hle2 hpp (by omega)
          by_cases e : k = pos
          · rw [e, getD_set hp, if_pos rfl]
            exact h5
          · rw [getD_set_ne (Ne.symm e)]
            have h4 := h1 k hk1 hk2 (by omega) e (by omega)
            rw [hk3] at h4
            exact O.trans _ _ _ h5 h4
    · rw [if_neg hlt]
      exact ⟨stop pos vs hp hA h1 h2 fun q => absurd q hlt, List.Perm.refl _⟩
theorem shole_spec (x : Value) (st : Nat) : ∀ (f pos : Nat) (vs : List Value), vs.length ≤ f + pos → pos < vs.length → Anc st pos →
    (∀ k, 1 ≤ k → k < vs.length → st ≤ (k - 1) / 2 → k ≠ pos → (k - 1) / 2 ≠ pos → lt (vs.getD k .none) (vs.getD ((k - 1) / 2) .none) = false) →
    (st < pos → ∀ k, 1 ≤ k → k < vs.length → (k - 1) / 2 = pos → lt (vs.getD k .none) (vs.getD ((pos - 1) / 2) .none) = false) →
    (shole lt f pos vs).1 < (shole lt f pos vs).2.length ∧ Anc st (shole lt f pos vs).1 ∧ (shole lt f pos vs).2.length ≤ 2 * (shole lt f pos vs).1 + 1 ∧ ((shole lt f pos vs).2.set (shole lt f pos vs).1 x).Perm (vs.set pos x) ∧
    ∀ k, 1 ≤ k → k < (shole lt f pos vs).2.length → st ≤ (k - 1) / 2 → k ≠ (shole lt f pos vs).1 → (k - 1) / 2 ≠ (shole lt f pos vs).1 → lt ((shole lt f pos vs).2.getD k .none) ((shole lt f pos vs).2.getD ((k - 1) / 2) .none) = false := by
  intro f
  induction f with
  | zero => intro pos vs hf hp; omega
  | succ f ih =>
    intro pos vs hf hp hA h1 h3
    rw [shole]
    by_cases hc : 2 * pos + 1 < vs.length
    · rw [if_pos hc]
      have hge := spick_ge lt vs (2 * pos + 1)
      have hcl := spick_lt lt vs (2 * pos + 1) hc
      have hpar : (spick lt vs (2 * pos + 1) - 1) / 2 = pos := by unfold spick; split <;> omega
      have hmin : ∀ k, 1 ≤ k → k < vs.length → (k - 1) / 2 = pos → lt (vs.getD k .none) (vs.getD (spick lt vs (2 * pos + 1)) .none) = false := by
        intro k hk1 hk2 hk3
        have hk : k = 2 * pos + 1 ∨ k = 2 * pos + 1 + 1 := by omega
        unfold spick
        split
        · rename_i hq
          rcases hk with rfl | rfl
          · exact hq.2
          · exact O.refl _
        · rename_i hq
          rcases hk with rfl | rfl
          · exact O.refl _
          · cases hl : lt (vs.getD (2 * pos + 1) .none) (vs.getD (2 * pos + 1 + 1) .none) with
            | true => exact O.asymm _ _ hl
            | false => exact absurd ⟨hk2, hl⟩ hq
      generalize spick lt vs (2 * pos + 1) = c at hge hcl hpar hmin ⊢
      have hA' : Anc st c := hA.child hpar (by omega)
      have hlen : (vs.set pos (vs.getD c .none)).length = vs.length := List.length_set ..
      have key := ih c (vs.set pos (vs.getD c .none)) (by rw [hlen]; omega) (by rw [hlen]; exact hcl) hA' ?_ ?_
      · obtain ⟨k1, k2, k3, k4, k5⟩ := key
        exact ⟨k1, k2, k3, k4.trans (perm_swap hp hcl (by omega)), k5⟩
      · intro k hk1 hk2 hk3 hk4 hk5
        rw [hlen] at hk2
        by_cases e : k = pos
        · have hle := hA.le
          rw [e, getD_set hp, if_pos rfl, getD_set_ne (by omega)]
          have := h3 (by omega) c (by omega) hcl hpar
          rw [e] at hk3
          exact this
        · rw [getD_set_ne (Ne.symm e)]
          by_cases e2 : (k - 1) / 2 = pos
          · rw [e2, getD_set hp, if_pos rfl]
            exact hmin k hk1 hk2 e2
          · rw [getD_set_ne (Ne.symm e2)]
            exact h1 k hk1 hk2 hk3 e e2
      · intro _ k hk1 hk2 hk3
        rw [hlen] at hk2
        rw [hpar, getD_set_ne (j := k) (by omega), getD_set hp, if_pos rfl]
        have := hA'.le
        have h4 := h1 k hk1 hk2 (by omega) (by omega) (by omega)
        rw [hk3] at h4
        exact h4
    · rw [if_neg hc]
      exact ⟨hp, hA, by show vs.length ≤ 2 * pos + 1; omega, List.Perm.refl _, h1⟩
theorem sup_spec {st : Nat} {vs : List Value} (hp : st < vs.length) (h : HeapFrom lt (st + 1) vs) : HeapFrom lt st (sup lt st vs) ∧ (sup lt st vs).Perm vs := by
  obtain ⟨k1, k2, k3, k4, k5⟩ := shole_spec O (vs.getD st .none) st vs.length st vs (by omega) hp .refl
    (fun k hk1 hk2 hk3 hk4 hk5 => h k hk1 hk2 (by omega)) (fun q => absurd q (Nat.lt_irrefl _))
  unfold sup
  generalize shole lt vs.length st vs = r at k1 k2 k3 k4 k5 ⊢
  obtain ⟨p, vs1⟩ := r
  dsimp only at k1 k2 k3 k4 k5 ⊢
  have key := sdown_spec O (vs.getD st .none) st p p (vs1.set p (vs.getD st .none)) (Nat.le_refl _) (by rw [List.length_set]; exact k1) k2 ?_ ?_ ?_
  · refine ⟨key.1, key.2.trans ?_⟩
    rw [List.set_set]
    refine k4.trans ?_
    have e : vs.set st (vs.getD st .none) = vs := by
      rw [List.getD_eq_getElem?_getD, List.getElem?_eq_getElem hp]
      exact List.set_getElem_self hp
    rw [e]
  · intro k hk1 hk2 hk3 hk4 hk5
    rw [List.length_set] at hk2
    rw [getD_set_ne (Ne.symm hk4), getD_set_ne (Ne.symm hk5)]
    exact k5 k hk1 hk2 hk3 hk4 hk5
  · intro k hk1 hk2 hk3
    rw [List.length_set] at hk2
    omega
  · intro _ k hk1 hk2 hk3
    rw [List.length_set] at hk2
    omega
theorem heap_min {vs : List Value} (h : HeapFrom lt 0 vs) : ∀ k, k < vs.length → lt (vs.getD k .none) (vs.getD 0 .none) = false := by
  intro k
  induction k using Nat.strongRecOn with
  | _ k ih =>
    intro hk
    by_cases e : k = 0
    · subst e; exact O.refl _
    · exact O.trans _ _ _ (ih ((k - 1) / 2) (by omega) (by omega)) (h k (by omega) hk (Nat.zero_le _))
theorem push_spec {vs : List Value} {x : Value} (h : HeapFrom lt 0 vs) : HeapFrom lt 0 (sdown lt x 0 vs.length vs.length (vs ++ [x])) ∧ (sdown lt x 0 vs.length vs.length (vs ++ [x])).Perm (vs ++ [x]) := by
  have hl : (vs ++ [x]).length = vs.length + 1 := by simp
  have hg : ∀ k, k < vs.length → (vs ++ [x]).getD k .none = vs.getD k .none := fun k hk => by
    rw [List.getD_eq_getElem?_getD, List.getD_eq_getElem?_getD, List.getElem?_append_left hk]
  have key := sdown_spec O x 0 vs.length vs.length (vs ++ [x]) (Nat.le_refl _) (by omega) (.zero _) ?_ ?_ ?_
  · refine ⟨key.1, key.2.trans ?_⟩
    have e : (vs ++ [x]).set vs.length x = vs ++ [x] := by simp
    rw [e]
  · intro k hk1 hk2 hk3 hk4 hk5
    rw [hg k (by omega), hg ((k - 1) / 2) (by omega)]
    exact h k hk1 (by omega) hk3
  · intro k hk1 hk2 hk3; omega
  · intro _ k hk1 hk2 hk3; omega
theorem pop_set_perm {vs : List Value} (h1 : 2 ≤ vs.length) : (vs.getD 0 .none :: vs.dropLast.set 0 (vs.getD (vs.length - 1) .none)).Perm vs := by
  obtain ⟨a, r, rfl⟩ : ∃ a r, vs = a :: r := by
    cases vs with
    | nil => simp at h1
    | cons a r => exact ⟨a, r, rfl⟩
  have hr : r ≠ [] := by rintro rfl; simp at h1
  rw [List.dropLast_cons_of_ne_nil hr]
  show (a :: (a :: r.dropLast).set 0 _).Perm _
  rw [List.set_cons_zero]
  have e : (a :: r).getD ((a :: r).length - 1) .none = r.getLast hr := by
    rw [List.length_cons, Nat.add_sub_cancel, List.getD_eq_getElem?_getD]
    have : (a :: r)[r.length]? = some (r.getLast hr) := by
      rw [← List.getLast_cons hr (a := a), List.getLast_eq_getElem, List.getElem?_eq_getElem (by simp)]
      simp
    rw [this]; rfl
  rw [e]
  refine List.Perm.cons a ?_
  have := List.dropLast_concat_getLast hr
  conv => rhs; rw [← this]
  exact (List.perm_append_comm (l₁ := [r.getLast hr]) (l₂ := r.dropLast))
theorem set0_from1 {vs : List Value} {x : Value} (h : HeapFrom lt 0 vs) : HeapFrom lt 1 (vs.set 0 x) := by
  intro k hk1 hk2 hk3
  rw [List.length_set] at hk2
  rw [getD_set_ne (by omega), getD_set_ne (by omega)]
  exact h k hk1 hk2 (Nat.zero_le _)
theorem dropLast_heap {vs : List Value} (h : HeapFrom lt 0 vs) : HeapFrom lt 0 vs.dropLast := by
  intro k hk1 hk2 hk3
  rw [List.length_dropLast] at hk2
  have e : ∀ j, j < vs.length - 1 → vs.dropLast.getD j .none = vs.getD j .none := fun j hj => by
    rw [List.getD_eq_getElem?_getD, List.getD_eq_getElem?_getD, List.getElem?_dropLast, if_pos hj]
  rw [e k hk2, e _ (by omega)]
  exact h k hk1 (by omega) (Nat.zero_le _)
theorem replace_spec {vs : List Value} {x : Value} (h0 : 0 < vs.length) (h : HeapFrom lt 0 vs) : HeapFrom lt 0 (sup lt 0 (vs.set 0 x)) ∧ (sup lt 0 (vs.set 0 x)).Perm (vs.set 0 x) :=
  sup_spec O (by rw [List.length_set]; exact h0) (set0_from1 O h)
theorem hify_spec : ∀ (i : Nat) (vs : List Value), i ≤ vs.length → HeapFrom lt i vs → HeapFrom lt 0 (hify lt i vs) ∧ (hify lt i vs).Perm vs
  | 0, vs, _, h => ⟨h, List.Perm.refl _⟩
  | i + 1, vs, hi, h => by
    have k := sup_spec O (st := i) (vs := vs) hi h
    have k2 := hify_spec i (sup lt i vs) (by rw [sup_length]; omega) k.1
    exact ⟨k2.1, k2.2.trans k.2⟩
theorem hpop_spec {vs : List Value} (h0 : 0 < vs.length) (h : HeapFrom lt 0 vs) : HeapFrom lt 0 (hpop lt vs) ∧ (vs.getD 0 .none :: hpop lt vs).Perm vs := by
  unfold hpop
  by_cases h1 : vs.length = 1
  · rw [if_pos h1]
    refine ⟨fun k _ hk => absurd hk (Nat.not_lt_zero _), ?_⟩
    obtain ⟨a, rfl⟩ := List.length_eq_one_iff.mp h1
    exact List.Perm.refl _
  · rw [if_neg h1]
    have k := replace_spec O (vs := vs.dropLast) (x := vs.getD (vs.length - 1) .none) (by rw [List.length_dropLast]; omega) (dropLast_heap O h)
    exact ⟨k.1, (List.Perm.cons _ k.2).trans (pop_set_perm O (by omega))⟩
theorem half_heap (vs : List Value) : HeapFrom lt (vs.length / 2) vs := fun k h1 h2 h3 => by omega
end
theorem heaped_iff {lt : Value → Value → Bool} {vs : List Value} : heapedB lt vs = true ↔ HeapFrom lt 0 vs := by
  unfold heapedB HeapFrom
  rw [List.all_eq_true]
  constructor
  · intro h k h1 h2 _
    have := h k (by rw [List.mem_range'_1]; omega)
    simpa using this
  · intro h k hk
    rw [List.mem_range'_1] at hk
    have := h k hk.1 (by omega) (Nat.zero_le _)
    simpa using this
theorem hpop_length (lt : Value → Value → Bool) (vs : List Value) (h0 : 0 < vs.length) : (hpop lt vs).length = vs.length - 1 := by
  unfold hpop
  split
  · rename_i h; rw [h]; rfl
  · rw [sup_length, List.length_set, List.length_dropLast]
end
section
set_option maxRecDepth 100000
set_option maxHeartbeats 4000000
open PySem PySem.W PySem.Calls PyProof.Rows
theorem esc_length (x : Str) : (esc x).length ≤ 5 * x.length := by
  have h := congrArg List.length (esc_eq x)
  have e : ∀ l : List Nat, (l.flatMap enc).length ≤ 5 * l.length := by
    intro l
    induction l with
    | nil => simp
    | cons c l ih =>
      rw [List.flatMap_cons, List.length_append, List.length_cons]
      have : (enc c).length ≤ 5 := by unfold enc; split <;> (try split) <;> (try split) <;> simp
      omega
  have h2 := e x.cps.toList
  rw [← h] at h2
  simpa [Str.length] using h2
noncomputable def slt (a b : Str) : Bool := decide (a.cps.toList < b.cps.toList)
theorem ltV_slt (a b : Value) : ltV a b = slt (strOf a) (strOf b) := rfl
noncomputable def PushInv (ts : List Str) (hs : List Value) : Prop := (∀ v ∈ hs, IsS v) ∧ HeapFrom ltV 0 hs ∧ (hs.map strOf).Perm (ts.map esc)
theorem pushInv_nil : PushInv [] [] := ⟨by simp, fun k _ h => absurd h (Nat.not_lt_zero _), List.Perm.refl _⟩
theorem pushInv_step {ts : List Str} {hs : List Value} {x : Str} {t : Tok} (h : PushInv ts hs) : PushInv (ts ++ [x]) (sdown ltV (.str (esc x) t) 0 hs.length hs.length (hs ++ [.str (esc x) t])) := by
  obtain ⟨h1, h2, h3⟩ := h
  have k := push_spec tpo_ltV (x := .str (esc x) t) h2
  refine ⟨fun v hv => ?_, k.1, ?_⟩
  · have := k.2.mem_iff.mp hv
    rcases List.mem_append.mp this with q | q
    · exact h1 v q
    · rw [List.mem_singleton.mp q]; exact ⟨_, _, rfl⟩
  · refine (k.2.map strOf).trans ?_
    rw [List.map_append, List.map_append]
    exact h3.append (List.Perm.refl _)
noncomputable def PopInv (ts : List Str) (es : List Str) (hs : List Value) : Prop :=
  (∀ v ∈ hs, IsS v) ∧ HeapFrom ltV 0 hs ∧ (es ++ hs.map strOf).Perm (ts.map esc) ∧ es.Pairwise (fun a b => slt b a = false) ∧ ∀ e ∈ es, ∀ v ∈ hs, slt (strOf v) e = false
theorem popInv_of {ts : List Str} {hs : List Value} (h : PushInv ts hs) : PopInv ts [] hs := ⟨h.1, h.2.1, h.2.2, .nil, by simp⟩
theorem getD_mem {vs : List Value} {i : Nat} (h : i < vs.length) : vs.getD i .none ∈ vs := by
  rw [List.getD_eq_getElem?_getD, List.getElem?_eq_getElem h]
  exact List.getElem_mem h
theorem popInv_step {ts es : List Str} {hs : List Value} (h : PopInv ts es hs) (h0 : 0 < hs.length) : PopInv ts (es ++ [strOf (hs.getD 0 .none)]) (hpop ltV hs) := by
  obtain ⟨h1, h2, h3, h4, h5⟩ := h
  obtain ⟨k1, k2⟩ := hpop_spec tpo_ltV h0 h2
  have sub : ∀ v ∈ hpop ltV hs, v ∈ hs := fun v hv => k2.mem_iff.mp (List.mem_cons_of_mem _ hv)
  refine ⟨fun v hv => h1 v (sub v hv), k1, ?_, ?_, ?_⟩
  · refine List.Perm.trans ?_ h3
    rw [List.append_assoc]
    exact (List.Perm.refl es).append (k2.map strOf)
  · rw [List.pairwise_append]
    refine ⟨h4, List.pairwise_singleton _ _, fun a ha b hb => ?_⟩
    rw [List.mem_singleton.mp hb]
    exact h5 a ha _ (getD_mem h0)
  · intro e he v hv
    rcases List.mem_append.mp he with he | he
    · exact h5 e he v (sub v hv)
    · rw [List.mem_singleton.mp he]
      obtain ⟨i, hi, rfl⟩ := List.mem_iff_getElem.mp (sub v hv)
      have := heap_min tpo_ltV h2 i hi
      rw [ltV_slt, List.getD_eq_getElem?_getD, List.getElem?_eq_getElem hi] at this
      exact this
theorem popInv_len {ts es : List Str} {hs : List Value} {B : Nat} (h : PopInv ts es hs) (hB : ∀ x ∈ ts, x.length ≤ B) : ∀ v ∈ hs, (strOf v).length ≤ 5 * B := by
  intro v hv
  have : strOf v ∈ ts.map esc := h.2.2.1.mem_iff.mp (List.mem_append_right _ (List.mem_map_of_mem hv))
  obtain ⟨x, hx, e⟩ := List.mem_map.mp this
  rw [← e]
  have := esc_length x
  have := hB x hx
  omega
theorem popInv_end {ts es : List Str} {ys : List Value} (h : PopInv ts es []) (hy : ys.map strOf = es.map unesc) : (ys.map strOf).Perm ts ∧ (ys.map strOf).Pairwise (fun a b => slt (esc b) (esc a) = false) := by
  obtain ⟨_, _, h3, h4, _⟩ := h
  rw [List.map_nil, List.append_nil] at h3
  have e1 : (ts.map esc).map unesc = ts := by
    rw [List.map_map]
    conv => rhs; rw [← List.map_id ts]
    exact List.map_congr_left fun x _ => unesc_esc x
  refine ⟨?_, ?_⟩
  · rw [hy, ← e1]
    exact h3.map unesc
  · rw [hy, List.pairwise_map]
    refine h4.imp_of_mem fun ha hb q => ?_
    have inv : ∀ {e : Str}, e ∈ es → esc (unesc e) = e := fun {e} he => by
      obtain ⟨x, _, rfl⟩ := List.mem_map.mp (h3.mem_iff.mp he)
      rw [unesc_esc]
    rw [inv ha, inv hb]
    exact q
theorem popInv_cnt {ts es : List Str} {hs : List Value} (h : PopInv ts es hs) : es.length + hs.length = ts.length := by
  have := h.2.2.1.length_eq
  simpa using this
end
section
set_option maxRecDepth 100000
set_option maxHeartbeats 4000000
open PySem PySem.W PySem.Calls PyProof.Rows
noncomputable def kGood {α : Type} (n : Nat) (lt : Nat → Nat → Bool) (R : α → Prop) : KasT α → Prop
  | .ret a => R a
  | .ask i j k => i < n ∧ j < n ∧ kGood n lt R (k (lt i j))
theorem kGood_mono {α : Type} {n : Nat} {lt : Nat → Nat → Bool} {R R' : α → Prop} (hr : ∀ a, R a → R' a) : ∀ (t : KasT α), kGood n lt R t → kGood n lt R' t
  | .ret a, h => hr a h
  | .ask i j k, h => ⟨h.1, h.2.1, kGood_mono hr (k (lt i j)) h.2.2⟩
theorem kGood_bind {α β : Type} {n : Nat} {lt : Nat → Nat → Bool} {R : β → Prop} {f : α → KasT β} : ∀ (t : KasT α), kGood n lt (fun a => kGood n lt R (f a)) t → kGood n lt R (t.bind f)
  | .ret _, h => h
  | .ask i j k, h => ⟨h.1, h.2.1, kGood_bind (k (lt i j)) h.2.2⟩
theorem kasWp_good {α : Type} {cmp : Nat → Nat → (Bool → Shared → Prop) → Shared → Prop} {n : Nat} {lt : Nat → Nat → Bool} {R : α → Prop} {Q : α → Shared → Prop} (I : Shared → Prop)
    (hc : ∀ i j C s, i < n → j < n → I s → (∀ s', I s' → C (lt i j) s') → cmp i j C s) : ∀ (t : KasT α) (s : Shared), kGood n lt R t → I s → (∀ a s', R a → I s' → Q a s') → t.kasWp cmp Q s
  | .ret a, s, h, hi, hq => hq a s h hi
  | .ask i j k, s, h, hi, hq => hc i j _ s h.1 h.2.1 hi fun s' hi' => kasWp_good I hc (k (lt i j)) s' h.2.2 hi' hq
noncomputable def PermN (n : Nat) (p : Array Nat) : Prop := p.toList.Perm (List.range n)
theorem PermN.size {n : Nat} {p : Array Nat} (h : PermN n p) : p.size = n := by
  have := h.length_eq
  simpa using this
theorem PermN.lt {n : Nat} {p : Array Nat} (h : PermN n p) {i : Nat} (hi : i < n) : p.getD i 0 < n := by
  have hs := h.size
  have : p[i]'(by omega) ∈ p.toList := by simp
  have := h.mem_iff.mp this
  rw [List.mem_range] at this
  simpa [Array.getD, hs, hi] using this
theorem getD_q (p : Array Nat) (i : Nat) : p.getD i 0 = (p[i]?).getD 0 := by
  simp [Array.getD]
  by_cases h : i < p.size <;> simp [h]
theorem rev_getD {p : Array Nat} {i j : Nat} (hj : j ≤ p.size) (k : Nat) : (kas_rev p i j).getD k 0 = if i ≤ k ∧ k < j then p.getD (i + j - 1 - k) 0 else p.getD k 0 := by
  rw [getD_q, kas_rev, getElem?_mirror_all hj]
  split <;> rw [getD_q]
theorem bub_getD {p : Array Nat} {k d : Nat} (hk : k < p.size) (hd : d ≤ k) (x : Nat) : (bubble p k d).getD x 0 = if x = k - d then p.getD k 0 else if k - d < x ∧ x ≤ k then p.getD (x - 1) 0 else p.getD x 0 := by
  rw [getD_q, getElem?_bubble hk d hd, getD_q p k, getD_q p (x - 1), getD_q p x]
  by_cases h1 : x = k - d
  · rw [if_pos h1, if_pos h1]
  · rw [if_neg h1, if_neg h1]
    by_cases h2 : k - d < x ∧ x ≤ k
    · rw [if_pos h2, if_pos h2]
    · rw [if_neg h2, if_neg h2]
theorem PermN.rev {n : Nat} {p : Array Nat} (h : PermN n p) (i j : Nat) : PermN n (kas_rev p i j) := (Array.perm_iff_toList_perm.mp (mirror_perm p i j _)).trans h
theorem PermN.bub {n : Nat} {p : Array Nat} (h : PermN n p) (i j : Nat) : PermN n (bubble p i j) := (Array.perm_iff_toList_perm.mp (bubble_perm p i j)).trans h
structure NPO (n : Nat) (lt : Nat → Nat → Bool) : Prop where
  asymm : ∀ a b, a < n → b < n → lt a b = true → lt b a = false
  trans : ∀ a b c, a < n → b < n → c < n → lt b a = false → lt c b = false → lt c a = false
theorem NPO.refl {n : Nat} {lt : Nat → Nat → Bool} (h : NPO n lt) (a : Nat) (ha : a < n) : lt a a = false := by
  cases q : lt a a with
  | false => rfl
  | true => have := h.asymm a a ha ha q; rw [q] at this; cases this
section
variable {n : Nat} {lt : Nat → Nat → Bool} (O : NPO n lt)
noncomputable def SortedTo (lt : Nat → Nat → Bool) (p : Array Nat) (m : Nat) : Prop := ∀ i j, i < j → j < m → lt (p.getD j 0) (p.getD i 0) = false
noncomputable def DescTo (lt : Nat → Nat → Bool) (p : Array Nat) (m : Nat) : Prop := ∀ i j, i < j → j < m → lt (p.getD i 0) (p.getD j 0) = false
noncomputable def EqRun (lt : Nat → Nat → Bool) (p : Array Nat) (a b : Nat) : Prop := ∀ i j, a ≤ i → i < b → a ≤ j → j < b → lt (p.getD i 0) (p.getD j 0) = false
include O
theorem sorted_ext {p : Array Nat} {m : Nat} (hp : PermN n p) (hm : 1 ≤ m) (hn : m < n) (h : SortedTo lt p m) (hl : lt (p.getD m 0) (p.getD (m - 1) 0) = false) : SortedTo lt p (m + 1) := by
  intro i j hij hj
  by_cases hjm : j < m
  · exact h i j hij hjm
  · have : j = m := by omega
    subst this
    by_cases hi : i = j - 1
    · rw [hi]; exact hl
    · exact O.trans _ _ _ (hp.lt (by omega)) (hp.lt (by omega)) (hp.lt (by omega)) (h i (j - 1) (by omega) (by omega)) hl
theorem desc_ext {p : Array Nat} {m : Nat} (hp : PermN n p) (hm : 1 ≤ m) (hn : m < n) (h : DescTo lt p m) (hl : lt (p.getD (m - 1) 0) (p.getD m 0) = false) : DescTo lt p (m + 1) := by
  intro i j hij hj
  by_cases hjm : j < m
  · exact h i j hij hjm
  · have : j = m := by omega
    subst this
    by_cases hi : i = j - 1
    · rw [hi]; exact hl
    · exact O.trans _ _ _ (hp.lt (by omega)) (hp.lt (by omega)) (hp.lt (by omega)) hl (h i (j - 1) (by omega) (by omega))
theorem eq_ext {p : Array Nat} {a m : Nat} (hp : PermN n p) (ha : a < m) (hn : m < n) (h : EqRun lt p a m) (h1 : lt (p.getD (m - 1) 0) (p.getD m 0) = false) (h2 : lt (p.getD m 0) (p.getD (m - 1) 0) = false) : EqRun lt p a (m + 1) := by
  intro i j hi hi' hj hj'
  have up : ∀ k, a ≤ k → k ≤ m → lt (p.getD k 0) (p.getD (m - 1) 0) = false ∧ lt (p.getD (m - 1) 0) (p.getD k 0) = false := by
    intro k hk hk'
    by_cases hkm : k = m
    · subst hkm; exact ⟨h2, h1⟩
    · exact ⟨h k (m - 1) hk (by omega) (by omega) (by omega), h (m - 1) k (by omega) (by omega) hk (by omega)⟩
  exact O.trans _ _ _ (hp.lt (by omega)) (hp.lt (i := m - 1) (by omega)) (hp.lt (by omega)) (up j hj (by omega)).2 (up i hi (by omega)).1
theorem desc_rev_eq {p : Array Nat} {a m : Nat} (hp : PermN n p) (hm : m ≤ n) (h : DescTo lt p m) (he : EqRun lt p a m) : DescTo lt (kas_rev p a m) m := by
  have hs := hp.size
  intro i j hij hj
  rw [rev_getD (by omega), rev_getD (by omega)]
  by_cases hi : a ≤ i
  · rw [if_pos ⟨hi, by omega⟩, if_pos ⟨by omega, hj⟩]
    exact he _ _ (by omega) (by omega) (by omega) (by omega)
  · rw [if_neg (by omega)]
    split
    · exact h _ _ (by omega) (by omega)
    · exact h _ _ hij hj
theorem asc_good {p : Array Nat} (hp : PermN n p) : ∀ (f m : Nat), 1 ≤ m → m + f ≤ n → SortedTo lt p m → kGood n lt (fun r => m ≤ r ∧ r ≤ m + f ∧ SortedTo lt p r ∧ (r < m + f → lt (p.getD r 0) (p.getD (r - 1) 0) = true)) (kas_asc p f m)
  | 0, m, _, _, h => ⟨Nat.le_refl _, Nat.le_refl _, h, fun q => absurd q (Nat.lt_irrefl _)⟩
  | f + 1, m, h1, hn, h => by
    refine ⟨hp.lt (by omega), hp.lt (by omega), ?_⟩
    cases q : lt (p.getD m 0) (p.getD (m - 1) 0) with
    | true => exact ⟨Nat.le_refl _, by omega, h, fun _ => q⟩
    | false =>
      refine kGood_mono (fun r hr => ?_) _ (asc_good hp f (m + 1) (by omega) (by omega) (sorted_ext O hp h1 (by omega) h q))
      exact ⟨by omega, by omega, hr.2.2.1, fun hlt => hr.2.2.2 (by omega)⟩
theorem desc_good : ∀ (f : Nat) (p : Array Nat) (m q : Nat), PermN n p → q + 1 ≤ m → m + f ≤ n → DescTo lt p m → EqRun lt p (m - (q + 1)) m →
    kGood n lt (fun r => PermN n r.1 ∧ m ≤ r.2.1 ∧ r.2.1 ≤ m + f ∧ r.2.2 + 1 ≤ r.2.1 ∧ DescTo lt r.1 r.2.1 ∧ EqRun lt r.1 (r.2.1 - (r.2.2 + 1)) r.2.1) (kas_desc f p m q)
  | 0, p, m, q, hp, hq, hn, h, he => ⟨hp, Nat.le_refl _, Nat.le_refl _, hq, h, he⟩
  | f + 1, p, m, q, hp, hq, hn, h, he => by
    have hs := hp.size
    refine ⟨hp.lt (by omega), hp.lt (by omega), ?_⟩
    have one : ∀ (p : Array Nat), PermN n p → EqRun lt p (m + 1 - (0 + 1)) (m + 1) := by
      intro p hp i j hi hi' hj hj'
      have : i = m := by omega
      have : j = m := by omega
      subst i; subst j
      exact O.refl _ (hp.lt (by omega))
    cases q1 : lt (p.getD m 0) (p.getD (m - 1) 0) with
    | true =>
      have hl := O.asymm _ _ (hp.lt (by omega)) (hp.lt (by omega)) q1
      (try dsimp only)
      rw [if_pos rfl]
      split
      · have hp' := hp.rev (m - (q + 1)) m
        refine kGood_mono (fun r hr => ⟨hr.1, by omega, by omega, hr.2.2.2⟩) _ (desc_good f _ (m + 1) 0 hp' (by omega) (by omega) (desc_ext O hp' (by omega) (by omega) (desc_rev_eq O hp (by omega) h he) ?_) (one _ hp'))
        rw [rev_getD (by omega), rev_getD (by omega), if_pos (by omega), if_neg (by omega)]
        exact O.trans _ _ _ (hp.lt (by omega)) (hp.lt (i := m - 1) (by omega)) (hp.lt (by omega)) hl (he _ _ (by omega) (by omega) (by omega) (by omega))
      · exact kGood_mono (fun r hr => ⟨hr.1, by omega, by omega, hr.2.2.2⟩) _ (desc_good f _ (m + 1) 0 hp (by omega) (by omega) (desc_ext O hp (by omega) (by omega) h hl) (one _ hp))
    | false =>
      (try dsimp only)
      rw [if_neg Bool.false_ne_true]
      refine ⟨hp.lt (by omega), hp.lt (by omega), ?_⟩
      cases q2 : lt (p.getD (m - 1) 0) (p.getD m 0) with
      | true => exact ⟨hp, Nat.le_refl _, by dsimp only; omega, hq, h, he⟩
      | false =>
        (try dsimp only)
        rw [if_neg Bool.false_ne_true]
        have e : m + 1 - (q + 1 + 1) = m - (q + 1) := by omega
        refine kGood_mono (fun r hr => ⟨hr.1, by omega, by omega, hr.2.2.2⟩) _ (desc_good f p (m + 1) (q + 1) hp (by omega) (by omega) (desc_ext O hp (by omega) (by omega) h q2) ?_)
        rw [e]
        exact eq_ext O hp (by omega) (by omega) he q2 q1
omit O in
theorem sorted_of_desc {p : Array Nat} {m : Nat} (hm : m ≤ p.size) (h : DescTo lt p m) : SortedTo lt (kas_rev p 0 m) m := by
  intro i j hij hj
  rw [rev_getD hm, rev_getD hm, if_pos (by omega), if_pos (by omega)]
  exact h _ _ (by omega) (by omega)
theorem tail3_good {p : Array Nat} {m : Nat} (hp : PermN n p) (h1 : 1 ≤ m) (hm : m ≤ n) (h : DescTo lt p m) : kGood n lt (fun r => PermN n r.2 ∧ 1 ≤ r.1 ∧ r.1 ≤ n ∧ SortedTo lt r.2 r.1) (kas_tail3 m n p) := by
  have hs := hp.size
  refine kGood_bind _ (kGood_mono (fun r hr => ?_) _ (asc_good O (hp.rev 0 m) (n - m) m h1 (by omega) (sorted_of_desc (by omega) h)))
  exact ⟨hp.rev 0 m, by dsimp only; omega, by dsimp only; omega, hr.2.2.1⟩
theorem descPart_good {p : Array Nat} {m : Nat} (hp : PermN n p) (hm : m < n) (h : DescTo lt p (m + 1)) : kGood n lt (fun r => PermN n r.2 ∧ 1 ≤ r.1 ∧ r.1 ≤ n ∧ SortedTo lt r.2 r.1) (kas_descPart m n p) := by
  refine kGood_bind _ (kGood_mono (fun r hr => ?_) _ (desc_good O (n - (m + 1)) p (m + 1) 0 hp (by omega) (by omega) h ?_))
  · obtain ⟨h1, h2, h3, h4, h5, h6⟩ := hr
    split
    · exact tail3_good O (h1.rev _ _) (by omega) (by omega) (desc_rev_eq O h1 (by omega) h5 h6)
    · exact tail3_good O h1 (by omega) (by omega) h5
  · intro i j hi hi' hj hj'
    have : i = m := by omega
    have : j = m := by omega
    subst i; subst j
    exact O.refl _ (hp.lt (by omega))
theorem eq_of_sorted {p : Array Nat} {m : Nat} (hp : PermN n p) (h1 : 1 ≤ m) (hm : m ≤ n) (h : SortedTo lt p m) (hl : lt (p.getD 0 0) (p.getD (m - 1) 0) = false) : EqRun lt p 0 m := by
  have le : ∀ i j, i ≤ j → j < m → lt (p.getD j 0) (p.getD i 0) = false := by
    intro i j hij hj
    by_cases e : i = j
    · subst e; exact O.refl _ (hp.lt (by omega))
    · exact h i j (by omega) hj
  intro i j _ hi _ hj
  have a := le 0 i (by omega) hi
  have b := le j (m - 1) (by omega) (by omega)
  exact O.trans _ _ _ (hp.lt (by omega)) (hp.lt (i := 0) (by omega)) (hp.lt (by omega)) (O.trans _ _ _ (hp.lt (by omega)) (hp.lt (i := m - 1) (by omega)) (hp.lt (by omega)) b hl) a
theorem count_good {p : Array Nat} (hp : PermN n p) (h1 : 1 ≤ n) : kGood n lt (fun r => PermN n r.2 ∧ 1 ≤ r.1 ∧ r.1 ≤ n ∧ SortedTo lt r.2 r.1) (kas_count n p) := by
  have hs := hp.size
  refine kGood_bind _ (kGood_mono (fun m hm => ?_) _ (asc_good O hp (n - 1) 1 (Nat.le_refl _) (by omega) fun i j hij hj => by omega))
  obtain ⟨a1, a2, a3, a4⟩ := hm
  split
  · exact ⟨hp, a1, by dsimp only; omega, a3⟩
  · rename_i hne
    have hne' : m ≠ n := by simpa using hne
    have hl := a4 (by omega)
    have hl' := O.asymm _ _ (hp.lt (by omega)) (hp.lt (by omega)) hl
    split
    · refine ⟨hp.lt (by omega), hp.lt (by omega), ?_⟩
      cases q : lt (p.getD 0 0) (p.getD (m - 1) 0) with
      | true => exact ⟨hp, a1, by dsimp only; omega, a3⟩
      | false =>
        (try dsimp only)
        rw [if_neg Bool.false_ne_true]
        have he := eq_of_sorted O hp a1 (by omega) a3 q
        have hd : DescTo lt p m := fun i j hij hj => he i j (by omega) (by omega) (by omega) hj
        refine descPart_good O (hp.rev 0 m) (by omega) (desc_ext O (hp.rev 0 m) a1 (by omega) (desc_rev_eq O hp (by omega) hd he) ?_)
        rw [rev_getD (by omega), rev_getD (by omega), if_pos (by omega), if_neg (by omega)]
        exact O.trans _ _ _ (hp.lt (by omega)) (hp.lt (i := m - 1) (by omega)) (hp.lt (by omega)) hl' (he _ _ (by omega) (by omega) (by omega) (by omega))
    · refine descPart_good O hp (by omega) (desc_ext O hp a1 (by omega) (fun i j hij hj => by omega) hl')
theorem place_good {p : Array Nat} {k : Nat} (hp : PermN n p) (hk : k < n) (hso : SortedTo lt p k) : ∀ (f l r : Nat), r - l ≤ f → l ≤ r → r ≤ k → (∀ i, i < l → lt (p.getD k 0) (p.getD i 0) = false) → (∀ i, r ≤ i → i < k → lt (p.getD k 0) (p.getD i 0) = true) →
    kGood n lt (fun l => l ≤ k ∧ (∀ i, i < l → lt (p.getD k 0) (p.getD i 0) = false) ∧ ∀ i, l ≤ i → i < k → lt (p.getD k 0) (p.getD i 0) = true) (kas_place p k f l r)
  | 0, l, r, hf, hlr, hrk, h1, h2 => ⟨by omega, h1, fun i hi hk => h2 i (by omega) hk⟩
  | f + 1, l, r, hf, hlr, hrk, h1, h2 => by
    unfold kas_place
    split
    · exact ⟨by omega, h1, fun i hi hk => h2 i (by omega) hk⟩
    · rename_i hlt
      refine ⟨hp.lt hk, hp.lt (by omega), ?_⟩
      cases q : lt (p.getD k 0) (p.getD ((l + r) / 2) 0) with
      | true =>
        (try dsimp only)
        rw [if_pos rfl]
        refine place_good hp hk hso f l _ (by omega) (by omega) (by omega) h1 fun i hi hik => ?_
        by_cases e : i = (l + r) / 2
        · rw [e]; exact q
        · cases q2 : lt (p.getD k 0) (p.getD i 0) with
          | true => rfl
          | false =>
            have := O.trans _ _ _ (hp.lt (by omega)) (hp.lt (i := i) (by omega)) (hp.lt hk) (hso ((l + r) / 2) i (by omega) hik) q2
            rw [q] at this; cases this
      | false =>
        (try dsimp only)
        rw [if_neg Bool.false_ne_true]
        refine place_good hp hk hso f _ r (by omega) (by omega) hrk (fun i hi => ?_) h2
        by_cases e : i = (l + r) / 2
        · rw [e]; exact q
        · exact O.trans _ _ _ (hp.lt (by omega)) (hp.lt (i := (l + r) / 2) (by omega)) (hp.lt hk) (hso i ((l + r) / 2) (by omega) (by omega)) q
theorem bub_sorted {p : Array Nat} {k l : Nat} (hp : PermN n p) (hk : k < n) (hso : SortedTo lt p k) (hl : l ≤ k) (h1 : ∀ i, i < l → lt (p.getD k 0) (p.getD i 0) = false) (h2 : ∀ i, l ≤ i → i < k → lt (p.getD k 0) (p.getD i 0) = true) : SortedTo lt (bubble p k (k - l)) (k + 1) := by
  have hs := hp.size
  have e : k - (k - l) = l := by omega
  intro i j hij hj
  rw [bub_getD (by omega) (by omega), bub_getD (by omega) (by omega), e]
  by_cases hjl : j = l
  · rw [if_pos hjl, if_neg (by omega), if_neg (by omega)]
    exact h1 i (by omega)
  · rw [if_neg hjl]
    by_cases hil : i = l
    · rw [if_pos hil, if_pos (by omega)]
      exact O.asymm _ _ (hp.lt hk) (hp.lt (by omega)) (h2 (j - 1) (by omega) (by omega))
    · rw [if_neg hil]
      by_cases c1 : l < j ∧ j ≤ k
      · rw [if_pos c1]
        split
        · exact hso _ _ (by omega) (by omega)
        · exact hso _ _ (by omega) (by omega)
      · rw [if_neg c1, if_neg (by omega)]
        exact hso _ _ hij (by omega)
theorem bin_good : ∀ (f : Nat) (p : Array Nat) (k : Nat), PermN n p → k + f ≤ n → SortedTo lt p k → kGood n lt (fun r => PermN n r ∧ SortedTo lt r (k + f)) (kas_bin f p k)
  | 0, p, k, hp, hk, h => ⟨hp, h⟩
  | f + 1, p, k, hp, hk, h => by
    refine kGood_bind _ (kGood_mono (fun l hl => ?_) _ (place_good O hp (by omega) h k 0 k (by omega) (by omega) (by omega) (fun i hi => by omega) (fun i hi hi' => by omega)))
    refine kGood_mono (fun r hr => ⟨hr.1, ?_⟩) _ (bin_good f _ (k + 1) (hp.bub _ _) (by omega) (bub_sorted O hp (by omega) h hl.1 hl.2.1 hl.2.2))
    rw [show k + (f + 1) = k + 1 + f by omega]
    exact hr.2
theorem sort_good (h1 : 1 ≤ n) : kGood n lt (fun r => PermN n r ∧ SortedTo lt r n) (kas_sort n) := by
  refine kGood_bind _ (kGood_mono (fun r hr => ?_) _ (count_good O (p := List.toArray (List.range n)) (List.Perm.refl _) h1))
  obtain ⟨a, b, c, d⟩ := hr
  split
  · have e : max r.1 1 = r.1 := by omega
    rw [e]
    refine kGood_mono (fun r' hr' => ⟨hr'.1, ?_⟩) _ (bin_good O (n - r.1) r.2 r.1 a (by omega) d)
    rw [show n = r.1 + (n - r.1) by omega]
    exact hr'.2
  · have : r.1 = n := by omega
    exact ⟨a, this ▸ d⟩
end
/-- what a sorted permutation of the places means for the items themselves -/
theorem sorted_out {lt : Value → Value → Bool} {vs : List Value} {p : Array Nat} (hp : PermN vs.length p) (hs : SortedTo (fun i j => lt (vs.getD i .none) (vs.getD j .none)) p vs.length) :
    (p.toList.map fun i => vs.getD i Value.none).Perm vs ∧ (p.toList.map fun i => vs.getD i Value.none).Pairwise fun a b => lt b a = false := by
  have hsz := hp.size
  constructor
  · have h1 := hp.map fun i => vs.getD i Value.none
    refine h1.trans ?_
    have : (List.range vs.length).map (fun i => vs.getD i Value.none) = vs := by
      refine List.ext_getElem (by simp) fun i h1 h2 => ?_
      simp [List.getD_eq_getElem?_getD, h2]
    rw [this]
  · rw [List.pairwise_map, List.pairwise_iff_getElem]
    intro i j hi hj hij
    have hi' : i < p.size := by simpa using hi
    have hj' : j < p.size := by simpa using hj
    have := hs i j hij (by omega)
    simpa [Array.getD, hi', hj'] using this
end
section
set_option maxRecDepth 100000
set_option maxHeartbeats 4000000
open PySem PySem.W PySem.Calls PyProof.Rows
theorem c_siftdown {w : World} {mean : ExcName → Option Value} {mg mb : Str → Option Value} :
   ∀ (dp un : Nat) (gd : Option (List Code)) (cn : Str) (cs : Scope) (a : Addr) (ccd : Value) (cl : List (Str × Addr)) (outer : List Env) (A₀ : Around) (base h₀ : Heap) (L : Addr) (m : Str → Option Value) (rest : List (Addr × Obj)) (s : Shared) (P : Value → Prop) (lt : Value → Value → Bool) (l : Addr) (n : Nat) (vs : List Value) (st : Int) (stt : Tok) (pos : Int) (post : Tok)
    (Q E : Value → Shared → Prop),
    Below A₀ base outer h₀ → Fr h₀ L s.heap m → (hd.heap_39 w.params).In h₀ → News h₀ L s.heap ((l, listOf vs.toArray n) :: rest) →
    Top hd.view_39 (looseW hd.view_39 [Str.ofString "nsmallest", Str.ofString "escape", Str.ofString "unescape"]) mean mg mb h₀ → cs.kind = .function →
    CmpSpec PySem.Challenge.rw_ij0043_01.row.prog w rest P lt →
    (∀ p ∈ rest, p.1 ≠ l) → (∀ v ∈ vs, P v) → vs.length ≤ 64 → 0 ≤ st → 0 ≤ pos → pos < vs.length → dp + 2 < recursionLimit → un + 400 < cLine →
    (∀ h' tk', Fr h₀ L h' m → News h₀ L h' ((l, listOf (sdown lt (vs.getD pos.toNat .none) st.toNat pos.toNat pos.toNat vs).toArray n) :: rest) → Q .none { s with heap := h', toks := tk' }) →
    wpAny (model PySem.Challenge.rw_ij0043_01.row.prog w) (ktrTop dp un gd cn cs L a ccd cl outer) (call (.ref 49) [.ref l, .int st stt, .int pos post]) Q E s := by
  w_top off
  k_fill
  intro dp un gd cn cs a ccd cl outer A₀ base h₀ L m rest s P lt l n vs st stt pos post Q E B F X N T hk hcmp hr hS h64 h0 h1 h2 hdp hun hret
  refine wpAny_call ?_
  refine' code_def (binds := [(Str.ofString "heap", .ref l), (Str.ofString "startpos", .int st stt), (Str.ofString "pos", .int pos post)]) B F X N T rfl rfl hk ?k6 ?k7 ?k8 ?k9 ?kB ?_ ?c2 ?c3 ?c4 ?c5
  case k6 => k_is
  case k7 => k_is
  case k8 => ktr_room
  case k9 => exact BindsTo.of_eq rfl
  case kB => exact locs rfl
  case c2 => exact rfl
  case c3 => exact rfl
  case c4 => exact rfl
  case c5 => decide
  intro g' L' h' FG' F' N' B' X' T'
  (try dsimp only)
  k_fold
  have hx : P (vs.getD pos.toNat .none) := p_getD hS (by omega)
  k_with_none
  k_with "call builtin:len" => (k_here; (with_reducible show wpAny _ _ (call (Value.builtin "len") [Value.ref _]) _ _ _); k_dflt (refine g_len (by k_asm) (by k_mem) (by omega) ?_; k_whole); intro _ _)
  k_with "subscriptTail" => (k_here; (with_reducible show wpAny _ _ (subscriptTail _ _ (Value.ref _) (Value.int _ _)) _ _ _); k_dflt (refine g_sub (by k_asm) (by k_mem) (by omega) (by omega) (by omega) ?_ (by with_unfolding_all rfl); k_whole))
  k_with "binaryOp RShift int int" => (k_here; (refine g_shr1 (by omega) ?_); intro _ _)
  k_with "setItem ref int" => (k_here; (try dsimp only); k_dflt (refine g_set (by k_asm) (by k_asm) (by exact Upd.head (by assumption)) (by omega) (by omega) (by omega) ?_; k_whole); intro h9q F9q N9q; (try k_sweep))
  k_with "compareOp Lt" => (
    rename News _ _ _ _ => lN
    refine hcmp _ _ _ _ _ _ (by first | assumption | exact p_getD (by assumption) (by omega)) (by first | assumption | exact p_getD (by assumption) (by omega)) (fun p hp => (lN p (.tail _ hp)).1) (by ktr_units) ?_
    intro _)
  k_with "exec While Compare cons nil" => (
    rename Fr _ _ _ _ => lF
    rename News _ _ _ _ => lN
    refine ksw_while (σ := List Value × Int × Tok) (fun c => (l, listOf c.1.toArray n) :: rest) (fun c => [(Str.ofString "pos", .int c.2.1 c.2.2)]) (fun _ => True) [Str.ofString "parentpos", Str.ofString "parent"]
      (fun c => (∀ v ∈ c.1, P v) ∧ c.1.length = vs.length ∧ 0 ≤ c.2.1 ∧ c.2.1 < vs.length ∧ sdown lt (vs.getD pos.toNat .none) st.toNat c.2.1.toNat c.2.1.toNat c.1 = sdown lt (vs.getD pos.toNat .none) st.toNat pos.toNat pos.toNat vs) (fun c => c.2.1.toNat) (vs, pos, post) lF lN trivial ?kk ⟨hS, rfl, h1, h2, rfl⟩ ?_ ?_
    case kk => (intro p hp; simp only [List.mem_singleton] at hp; subst hp; rfl)
    rotate_left
    · passes_own
    clear lF lN
    intro c u h tk hFa hP Fw Nw
    obtain ⟨vs1, p1, t1⟩ := c
    obtain ⟨hS1, hl1, hp0, hp1, hR⟩ := hP
    (try dsimp only [kstB] at Fw)
    (try dsimp only at Nw hS1 hl1 hp0 hp1 hR)
    (try k_fold))
  k_with "KswEnd" => (
    rename Fr _ _ _ _ => lF
    rename News _ _ _ _ => lN
    have hlt : st < p1 := by omega
    rename lt _ _ = true => hlv
    refine' ksw_end (vs1.set p1.toNat (vs1.getD ((p1 - 1) / 2).toNat .none), (p1 - 1) / 2, ?tk) lF lN (fun _ h => h) trivial ?kk ?kr ⟨?a, ?b, ?c, ?d, ?e⟩ ?mu
    case kk => (intro p hp; simp only [List.mem_singleton] at hp; subst hp; rfl)
    case kr => ksw_same
    case a => exact p_set hS1 (p_getD hS1 (by omega))
    case b => simpa using hl1
    case c => (dsimp only; omega)
    case d => (dsimp only; omega)
    case e =>
      (dsimp only
       rw [← hR]
       have e1 : ((p1 - 1) / 2).toNat = (p1.toNat - 1) / 2 := by omega
       rw [e1] at hlv ⊢
       exact (sdown_go (lt := lt) (by omega) hlv).symm)
    case mu => (dsimp only; omega))
  k_steps
  all_goals (rename Fr _ _ _ _ => lF; rename News _ _ _ _ => lN)
  all_goals first
    | (rename lt _ _ = false => hlv
       refine hret _ _ lF ?_
       rw [← hR]
       refine (sdown_stop fun hlt => ?_).symm ▸ lN
       have e1 : ((p1 - 1) / 2).toNat = (p1.toNat - 1) / 2 := by omega
       rw [e1] at hlv
       exact hlv)
    | (refine hret _ _ lF ?_
       rw [← hR]
       refine (sdown_stop fun hlt => ?_).symm ▸ lN
       exfalso; omega)
theorem c_siftdown_max {w : World} {mean : ExcName → Option Value} {mg mb : Str → Option Value} :
   ∀ (dp un : Nat) (gd : Option (List Code)) (cn : Str) (cs : Scope) (a : Addr) (ccd : Value) (cl : List (Str × Addr)) (outer : List Env) (A₀ : Around) (base h₀ : Heap) (L : Addr) (m : Str → Option Value) (rest : List (Addr × Obj)) (s : Shared) (P : Value → Prop) (lt : Value → Value → Bool) (l : Addr) (n : Nat) (vs : List Value) (st : Int) (stt : Tok) (pos : Int) (post : Tok)
    (Q E : Value → Shared → Prop),
    Below A₀ base outer h₀ → Fr h₀ L s.heap m → (hd.heap_39 w.params).In h₀ → News h₀ L s.heap ((l, listOf vs.toArray n) :: rest) →
    Top hd.view_39 (looseW hd.view_39 [Str.ofString "nsmallest", Str.ofString "escape", Str.ofString "unescape"]) mean mg mb h₀ → cs.kind = .function →
    CmpSpec PySem.Challenge.rw_ij0043_01.row.prog w rest P lt →
    (∀ p ∈ rest, p.1 ≠ l) → (∀ v ∈ vs, P v) → vs.length ≤ 64 → 0 ≤ st → 0 ≤ pos → pos < vs.length → dp + 2 < recursionLimit → un + 400 < cLine →
    (∀ h' tk', Fr h₀ L h' m → News h₀ L h' ((l, listOf (sdown (fun a b => lt b a) (vs.getD pos.toNat .none) st.toNat pos.toNat pos.toNat vs).toArray n) :: rest) → Q .none { s with heap := h', toks := tk' }) →
    wpAny (model PySem.Challenge.rw_ij0043_01.row.prog w) (ktrTop dp un gd cn cs L a ccd cl outer) (call (.ref 63) [.ref l, .int st stt, .int pos post]) Q E s := by
  w_top off
  k_fill
  intro dp un gd cn cs a ccd cl outer A₀ base h₀ L m rest s P lt l n vs st stt pos post Q E B F X N T hk hcmp hr hS h64 h0 h1 h2 hdp hun hret
  refine wpAny_call ?_
  refine' code_def (binds := [(Str.ofString "heap", .ref l), (Str.ofString "startpos", .int st stt), (Str.ofString "pos", .int pos post)]) B F X N T rfl rfl hk ?k6 ?k7 ?k8 ?k9 ?kB ?_ ?c2 ?c3 ?c4 ?c5
  case k6 => k_is
  case k7 => k_is
  case k8 => ktr_room
  case k9 => exact BindsTo.of_eq rfl
  case kB => exact locs rfl
  case c2 => exact rfl
  case c3 => exact rfl
  case c4 => exact rfl
  case c5 => decide
  intro g' L' h' FG' F' N' B' X' T'
  (try dsimp only)
  k_fold
  have hx : P (vs.getD pos.toNat .none) := p_getD hS (by omega)
  k_with_none
  k_with "call builtin:len" => (k_here; (with_reducible show wpAny _ _ (call (Value.builtin "len") [Value.ref _]) _ _ _); k_dflt (refine g_len (by k_asm) (by k_mem) (by omega) ?_; k_whole); intro _ _)
  k_with "subscriptTail" => (k_here; (with_reducible show wpAny _ _ (subscriptTail _ _ (Value.ref _) (Value.int _ _)) _ _ _); k_dflt (refine g_sub (by k_asm) (by k_mem) (by omega) (by omega) (by omega) ?_ (by with_unfolding_all rfl); k_whole))
  k_with "binaryOp RShift int int" => (k_here; (refine g_shr1 (by omega) ?_); intro _ _)
  k_with "setItem ref int" => (k_here; (try dsimp only); k_dflt (refine g_set (by k_asm) (by k_asm) (by exact Upd.head (by assumption)) (by omega) (by omega) (by omega) ?_; k_whole); intro h9q F9q N9q; (try k_sweep))
  k_with "compareOp Lt" => (
    rename News _ _ _ _ => lN
    refine hcmp _ _ _ _ _ _ (by first | assumption | exact p_getD (by assumption) (by omega)) (by first | assumption | exact p_getD (by assumption) (by omega)) (fun p hp => (lN p (.tail _ hp)).1) (by ktr_units) ?_
    intro _)
  k_with "exec While Compare cons nil" => (
    rename Fr _ _ _ _ => lF
    rename News _ _ _ _ => lN
    refine ksw_while (σ := List Value × Int × Tok) (fun c => (l, listOf c.1.toArray n) :: rest) (fun c => [(Str.ofString "pos", .int c.2.1 c.2.2)]) (fun _ => True) [Str.ofString "parentpos", Str.ofString "parent"]
      (fun c => (∀ v ∈ c.1, P v) ∧ c.1.length = vs.length ∧ 0 ≤ c.2.1 ∧ c.2.1 < vs.length ∧ sdown (fun a b => lt b a) (vs.getD pos.toNat .none) st.toNat c.2.1.toNat c.2.1.toNat c.1 = sdown (fun a b => lt b a) (vs.getD pos.toNat .none) st.toNat pos.toNat pos.toNat vs) (fun c => c.2.1.toNat) (vs, pos, post) lF lN trivial ?kk ⟨hS, rfl, h1, h2, rfl⟩ ?_ ?_
    case kk => (intro p hp; simp only [List.mem_singleton] at hp; subst hp; rfl)
    rotate_left
    · passes_own
    clear lF lN
    intro c u h tk hFa hP Fw Nw
    obtain ⟨vs1, p1, t1⟩ := c
    obtain ⟨hS1, hl1, hp0, hp1, hR⟩ := hP
    (try dsimp only [kstB] at Fw)
    (try dsimp only at Nw hS1 hl1 hp0 hp1 hR)
    (try k_fold))
  k_with "KswEnd" => (
    rename Fr _ _ _ _ => lF
    rename News _ _ _ _ => lN
    have hlt : st < p1 := by omega
    rename lt _ _ = true => hlv
    refine' ksw_end (vs1.set p1.toNat (vs1.getD ((p1 - 1) / 2).toNat .none), (p1 - 1) / 2, ?tk) lF lN (fun _ h => h) trivial ?kk ?kr ⟨?a, ?b, ?c, ?d, ?e⟩ ?mu
    case kk => (intro p hp; simp only [List.mem_singleton] at hp; subst hp; rfl)
    case kr => ksw_same
    case a => exact p_set hS1 (p_getD hS1 (by omega))
    case b => simpa using hl1
    case c => (dsimp only; omega)
    case d => (dsimp only; omega)
    case e =>
      (dsimp only
       rw [← hR]
       have e1 : ((p1 - 1) / 2).toNat = (p1.toNat - 1) / 2 := by omega
       rw [e1] at hlv ⊢
       exact (sdown_go (lt := (fun a b => lt b a)) (by omega) hlv).symm)
    case mu => (dsimp only; omega))
  k_steps
  all_goals (rename Fr _ _ _ _ => lF; rename News _ _ _ _ => lN)
  all_goals first
    | (rename lt _ _ = false => hlv
       refine hret _ _ lF ?_
       rw [← hR]
       refine (sdown_stop fun hlt => ?_).symm ▸ lN
       have e1 : ((p1 - 1) / 2).toNat = (p1.toNat - 1) / 2 := by omega
       rw [e1] at hlv
       exact hlv)
    | (refine hret _ _ lF ?_
       rw [← hR]
       refine (sdown_stop fun hlt => ?_).symm ▸ lN
       exfalso; omega)
end
section
set_option maxRecDepth 100000
set_option maxHeartbeats 4000000
open PySem PySem.W PySem.Calls PyProof.Rows
theorem c_siftup {w : World} {mean : ExcName → Option Value} {mg mb : Str → Option Value} :
   ∀ (dp un : Nat) (gd : Option (List Code)) (cn : Str) (cs : Scope) (a : Addr) (ccd : Value) (cl : List (Str × Addr)) (outer : List Env) (A₀ : Around) (base h₀ : Heap) (L : Addr) (m : Str → Option Value) (rest : List (Addr × Obj)) (s : Shared) (P : Value → Prop) (lt : Value → Value → Bool) (l : Addr) (n : Nat) (vs : List Value) (pos : Int) (post : Tok)
    (Q E : Value → Shared → Prop),
    Below A₀ base outer h₀ → Fr h₀ L s.heap m → (hd.heap_39 w.params).In h₀ → News h₀ L s.heap ((l, listOf vs.toArray n) :: rest) →
    Top hd.view_39 (looseW hd.view_39 [Str.ofString "nsmallest", Str.ofString "escape", Str.ofString "unescape"]) mean mg mb h₀ → cs.kind = .function →
    CmpSpec PySem.Challenge.rw_ij0043_01.row.prog w rest P lt →
    (∀ p ∈ rest, p.1 ≠ l) → (∀ v ∈ vs, P v) → vs.length ≤ 64 → 0 ≤ pos → pos < vs.length → dp + 4 < recursionLimit → un + 500 < cLine →
    (∀ h' tk', Fr h₀ L h' m → News h₀ L h' ((l, listOf (sup lt pos.toNat vs).toArray n) :: rest) → Q .none { s with heap := h', toks := tk' }) →
    wpAny (model PySem.Challenge.rw_ij0043_01.row.prog w) (ktrTop dp un gd cn cs L a ccd cl outer) (call (.ref 56) [.ref l, .int pos post]) Q E s := by
  w_top off
  k_fill
  intro dp un gd cn cs a ccd cl outer A₀ base h₀ L m rest s P lt l n vs pos post Q E B F X N T hk hcmp hr hS h64 h1 h2 hdp hun hret
  refine wpAny_call ?_
  refine' code_def (binds := [(Str.ofString "heap", .ref l), (Str.ofString "pos", .int pos post)]) B F X N T rfl rfl hk ?k6 ?k7 ?k8 ?k9 ?kB ?_ ?c2 ?c3 ?c4 ?c5
  case k6 => k_is
  case k7 => k_is
  case k8 => ktr_room
  case k9 => exact BindsTo.of_eq rfl
  case kB => exact locs rfl
  case c2 => exact rfl
  case c3 => exact rfl
  case c4 => exact rfl
  case c5 => decide
  intro g' L' h' FG' F' N' B' X' T'
  (try dsimp only)
  k_fold
  have hx : P (vs.getD pos.toNat .none) := p_getD hS (by omega)
  k_with_none
  k_with "call builtin:len" => (k_here; (with_reducible show wpAny _ _ (call (Value.builtin "len") [Value.ref _]) _ _ _); k_dflt (refine g_len (by k_asm) (by k_mem) (by omega) ?_; k_whole); intro _ _)
  k_with "subscriptTail" => (k_here; (with_reducible show wpAny _ _ (subscriptTail _ _ (Value.ref _) (Value.int _ _)) _ _ _); k_dflt (refine g_sub (by k_asm) (by k_mem) (by omega) (by omega) (by omega) ?_ (by with_unfolding_all rfl); k_whole))
  k_with "binaryOp RShift int int" => (k_here; (refine g_shr1 (by omega) ?_); intro _ _)
  k_with "setItem ref int" => (k_here; (try dsimp only); k_dflt (refine g_set (by k_asm) (by k_asm) (by exact Upd.head (by assumption)) (by omega) (by omega) (by omega) ?_; k_whole); intro h9q F9q N9q; (try k_sweep))
  k_with "compareOp Lt" => (
    rename News _ _ _ _ => lN
    refine hcmp _ _ _ _ _ _ (by first | assumption | exact p_getD (by assumption) (by omega)) (by first | assumption | exact p_getD (by assumption) (by omega)) (fun p hp => (lN p (.tail _ hp)).1) (by ktr_units) ?_
    intro _)
  k_with "exec While Compare cons nil" => (
    rename Fr _ _ _ _ => lF
    rename News _ _ _ _ => lN
    refine' ksw_while (σ := List Value × (Int × Tok) × Tok) (fun c => (l, listOf c.1.toArray n) :: rest) (fun c => [(Str.ofString "pos", .int c.2.1.1 c.2.1.2), (Str.ofString "childpos", .int (2 * c.2.1.1 + 1) c.2.2)]) (fun _ => True) [Str.ofString "rightpos"]
      (fun c => (∀ v ∈ c.1, P v) ∧ c.1.length = vs.length ∧ 0 ≤ c.2.1.1 ∧ c.2.1.1 < vs.length ∧ shole lt vs.length c.2.1.1.toNat c.1 = shole lt vs.length pos.toNat vs) (fun c => vs.length - c.2.1.1.toNat) (vs, (pos, post), ?tk0) lF lN trivial ?kk ⟨hS, rfl, h1, h2, rfl⟩ ?_ ?_
    case kk => (intro p hp; simp only [List.mem_cons, List.mem_nil_iff, or_false] at hp; rcases hp with rfl | rfl <;> rfl)
    rotate_left
    · passes_own
    clear lF lN
    intro c u h tk hFa hP Fw Nw
    obtain ⟨vs1, ⟨p1, t1⟩, t2⟩ := c
    obtain ⟨hS1, hl1, hp0, hp1, hR⟩ := hP
    (try dsimp only [kstB] at Fw)
    (try dsimp only at Nw hS1 hl1 hp0 hp1 hR)
    (try k_fold))
  k_with "KswEnd" => (
    rename Fr _ _ _ _ => lF
    rename News _ _ _ _ => lN
    have hb : 2 * p1 + 1 < vs.length := by omega
    have e1 : (2 * p1 + 1).toNat = 2 * p1.toNat + 1 := by omega
    have e2 : (2 * p1 + 1 + 1).toNat = 2 * p1.toNat + 2 := by omega
    first
    | (rename lt _ _ = false => hlv
       have hb2 : 2 * p1 + 1 + 1 < vs.length := by omega
       rw [e1, e2] at hlv
       have hs := (shole_right (lt := lt) hl1 (by omega) hlv).symm
       rw [← e2, hR] at hs
       exact ksw_end (vs1.set p1.toNat (vs1.getD (2 * p1 + 1 + 1).toNat .none), (2 * p1 + 1 + 1, _), _) lF lN (fun _ h => h) trivial (by intro p hp; simp only [List.mem_cons, List.mem_nil_iff, or_false] at hp; rcases hp with rfl | rfl <;> rfl) (by ksw_same) ⟨p_set hS1 (p_getD hS1 (by omega)), by simpa using hl1, by dsimp only; omega, by dsimp only; omega, hs⟩ (by dsimp only; omega))
    | (have hs := (shole_left (lt := lt) (pos := p1.toNat) hl1 (by omega) fun hq => by
         first
           | (rename lt _ _ = true => hlv
              rw [e1, e2] at hlv
              exact hlv)
           | (exfalso; omega)).symm
       rw [← e1, hR] at hs
       exact ksw_end (vs1.set p1.toNat (vs1.getD (2 * p1 + 1).toNat .none), (2 * p1 + 1, _), _) lF lN (fun _ h => h) trivial (by intro p hp; simp only [List.mem_cons, List.mem_nil_iff, or_false] at hp; rcases hp with rfl | rfl <;> rfl) (by ksw_same) ⟨p_set hS1 (p_getD hS1 (by omega)), by simpa using hl1, by dsimp only; omega, by dsimp only; omega, hs⟩ (by dsimp only; omega)))
  k_with "call ref" => (
    rename Fr _ _ _ _ => lF
    rename News _ _ _ _ => lN
    refine c_siftdown _ _ _ _ _ _ _ _ _ _ _ _ _ _ rest _ P lt l n (vs1.set p1.toNat (vs.getD pos.toNat .none)) pos _ p1 _ _ _ B' lF X' lN T' (by rfl) hcmp hr (p_set hS1 hx) (by rw [List.length_set]; omega) h1 hp0 (by rw [List.length_set]; omega) (by ktr_room) (by ktr_units) ?_
    intro h' tk' F' N')
  k_steps
  rename Fr _ _ _ _ => lF
  rename News _ _ _ _ => lN
  refine hret _ _ lF ?_
  rw [getD_set_self (by omega)] at lN
  rw [sup_of (hR.symm.trans (shole_stop _ (by omega)))]
  exact lN
theorem c_siftup_max {w : World} {mean : ExcName → Option Value} {mg mb : Str → Option Value} :
   ∀ (dp un : Nat) (gd : Option (List Code)) (cn : Str) (cs : Scope) (a : Addr) (ccd : Value) (cl : List (Str × Addr)) (outer : List Env) (A₀ : Around) (base h₀ : Heap) (L : Addr) (m : Str → Option Value) (rest : List (Addr × Obj)) (s : Shared) (P : Value → Prop) (lt : Value → Value → Bool) (l : Addr) (n : Nat) (vs : List Value) (pos : Int) (post : Tok)
    (Q E : Value → Shared → Prop),
    Below A₀ base outer h₀ → Fr h₀ L s.heap m → (hd.heap_39 w.params).In h₀ → News h₀ L s.heap ((l, listOf vs.toArray n) :: rest) →
    Top hd.view_39 (looseW hd.view_39 [Str.ofString "nsmallest", Str.ofString "escape", Str.ofString "unescape"]) mean mg mb h₀ → cs.kind = .function →
    CmpSpec PySem.Challenge.rw_ij0043_01.row.prog w rest P lt →
    (∀ p ∈ rest, p.1 ≠ l) → (∀ v ∈ vs, P v) → vs.length ≤ 64 → 0 ≤ pos → pos < vs.length → dp + 4 < recursionLimit → un + 500 < cLine →
    (∀ h' tk', Fr h₀ L h' m → News h₀ L h' ((l, listOf (sup (fun a b => lt b a) pos.toNat vs).toArray n) :: rest) → Q .none { s with heap := h', toks := tk' }) →
    wpAny (model PySem.Challenge.rw_ij0043_01.row.prog w) (ktrTop dp un gd cn cs L a ccd cl outer) (call (.ref 70) [.ref l, .int pos post]) Q E s := by
  w_top off
  k_fill
  intro dp un gd cn cs a ccd cl outer A₀ base h₀ L m rest s P lt l n vs pos post Q E B F X N T hk hcmp hr hS h64 h1 h2 hdp hun hret
  refine wpAny_call ?_
  refine' code_def (binds := [(Str.ofString "heap", .ref l), (Str.ofString "pos", .int pos post)]) B F X N T rfl rfl hk ?k6 ?k7 ?k8 ?k9 ?kB ?_ ?c2 ?c3 ?c4 ?c5
  case k6 => k_is
  case k7 => k_is
  case k8 => ktr_room
  case k9 => exact BindsTo.of_eq rfl
  case kB => exact locs rfl
  case c2 => exact rfl
  case c3 => exact rfl
  case c4 => exact rfl
  case c5 => decide
  intro g' L' h' FG' F' N' B' X' T'
  (try dsimp only)
  k_fold
  have hx : P (vs.getD pos.toNat .none) := p_getD hS (by omega)
  k_with_none
  k_with "call builtin:len" => (k_here; (with_reducible show wpAny _ _ (call (Value.builtin "len") [Value.ref _]) _ _ _); k_dflt (refine g_len (by k_asm) (by k_mem) (by omega) ?_; k_whole); intro _ _)
  k_with "subscriptTail" => (k_here; (with_reducible show wpAny _ _ (subscriptTail _ _ (Value.ref _) (Value.int _ _)) _ _ _); k_dflt (refine g_sub (by k_asm) (by k_mem) (by omega) (by omega) (by omega) ?_ (by with_unfolding_all rfl); k_whole))
  k_with "binaryOp RShift int int" => (k_here; (refine g_shr1 (by omega) ?_); intro _ _)
  k_with "setItem ref int" => (k_here; (try dsimp only); k_dflt (refine g_set (by k_asm) (by k_asm) (by exact Upd.head (by assumption)) (by omega) (by omega) (by omega) ?_; k_whole); intro h9q F9q N9q; (try k_sweep))
  k_with "compareOp Lt" => (
    rename News _ _ _ _ => lN
    refine hcmp _ _ _ _ _ _ (by first | assumption | exact p_getD (by assumption) (by omega)) (by first | assumption | exact p_getD (by assumption) (by omega)) (fun p hp => (lN p (.tail _ hp)).1) (by ktr_units) ?_
    intro _)
  k_with "exec While Compare cons nil" => (
    rename Fr _ _ _ _ => lF
    rename News _ _ _ _ => lN
    refine' ksw_while (σ := List Value × (Int × Tok) × Tok) (fun c => (l, listOf c.1.toArray n) :: rest) (fun c => [(Str.ofString "pos", .int c.2.1.1 c.2.1.2), (Str.ofString "childpos", .int (2 * c.2.1.1 + 1) c.2.2)]) (fun _ => True) [Str.ofString "rightpos"]
      (fun c => (∀ v ∈ c.1, P v) ∧ c.1.length = vs.length ∧ 0 ≤ c.2.1.1 ∧ c.2.1.1 < vs.length ∧ shole (fun a b => lt b a) vs.length c.2.1.1.toNat c.1 = shole (fun a b => lt b a) vs.length pos.toNat vs) (fun c => vs.length - c.2.1.1.toNat) (vs, (pos, post), ?tk0) lF lN trivial ?kk ⟨hS, rfl, h1, h2, rfl⟩ ?_ ?_
    case kk => (intro p hp; simp only [List.mem_cons, List.mem_nil_iff, or_false] at hp; rcases hp with rfl | rfl <;> rfl)
    rotate_left
    · passes_own
    clear lF lN
    intro c u h tk hFa hP Fw Nw
    obtain ⟨vs1, ⟨p1, t1⟩, t2⟩ := c
    obtain ⟨hS1, hl1, hp0, hp1, hR⟩ := hP
    (try dsimp only [kstB] at Fw)
    (try dsimp only at Nw hS1 hl1 hp0 hp1 hR)
    (try k_fold))
  k_with "KswEnd" => (
    rename Fr _ _ _ _ => lF
    rename News _ _ _ _ => lN
    have hb : 2 * p1 + 1 < vs.length := by omega
    have e1 : (2 * p1 + 1).toNat = 2 * p1.toNat + 1 := by omega
    have e2 : (2 * p1 + 1 + 1).toNat = 2 * p1.toNat + 2 := by omega
    first
    | (rename lt _ _ = false => hlv
       have hb2 : 2 * p1 + 1 + 1 < vs.length := by omega
       rw [e1, e2] at hlv
       have hs := (shole_right (lt := (fun a b => lt b a)) hl1 (by omega) hlv).symm
       rw [← e2, hR] at hs
       exact ksw_end (vs1.set p1.toNat (vs1.getD (2 * p1 + 1 + 1).toNat .none), (2 * p1 + 1 + 1, _), _) lF lN (fun _ h => h) trivial (by intro p hp; simp only [List.mem_cons, List.mem_nil_iff, or_false] at hp; rcases hp with rfl | rfl <;> rfl) (by ksw_same) ⟨p_set hS1 (p_getD hS1 (by omega)), by simpa using hl1, by dsimp only; omega, by dsimp only; omega, hs⟩ (by dsimp only; omega))
    | (have hs := (shole_left (lt := (fun a b => lt b a)) (pos := p1.toNat) hl1 (by omega) fun hq => by
         first
           | (rename lt _ _ = true => hlv
              rw [e1, e2] at hlv
              exact hlv)
           | (exfalso; omega)).symm
       rw [← e1, hR] at hs
       exact ksw_end (vs1.set p1.toNat (vs1.getD (2 * p1 + 1).toNat .none), (2 * p1 + 1, _), _) lF lN (fun _ h => h) trivial (by intro p hp; simp only [List.mem_cons, List.mem_nil_iff, or_false] at hp; rcases hp with rfl | rfl <;> rfl) (by ksw_same) ⟨p_set hS1 (p_getD hS1 (by omega)), by simpa using hl1, by dsimp only; omega, by dsimp only; omega, hs⟩ (by dsimp only; omega)))
  k_with "call ref" => (
    rename Fr _ _ _ _ => lF
    rename News _ _ _ _ => lN
    refine c_siftdown_max _ _ _ _ _ _ _ _ _ _ _ _ _ _ rest _ P lt l n (vs1.set p1.toNat (vs.getD pos.toNat .none)) pos _ p1 _ _ _ B' lF X' lN T' (by rfl) hcmp hr (p_set hS1 hx) (by rw [List.length_set]; omega) h1 hp0 (by rw [List.length_set]; omega) (by ktr_room) (by ktr_units) ?_
    intro h' tk' F' N')
  k_steps
  rename Fr _ _ _ _ => lF
  rename News _ _ _ _ => lN
  refine hret _ _ lF ?_
  rw [getD_set_self (by omega)] at lN
  rw [sup_of (hR.symm.trans (shole_stop _ (by omega)))]
  exact lN
end
section
set_option maxRecDepth 100000
set_option maxHeartbeats 4000000
open PySem PySem.W PySem.Calls PyProof.Rows
theorem c_heappush {w : World} {mean : ExcName → Option Value} {mg mb : Str → Option Value} :
   ∀ (dp un : Nat) (gd : Option (List Code)) (cn : Str) (cs : Scope) (a : Addr) (ccd : Value) (cl : List (Str × Addr)) (outer : List Env) (A₀ : Around) (base h₀ : Heap) (L : Addr) (m : Str → Option Value) (rest : List (Addr × Obj)) (s : Shared) (P : Value → Prop) (lt : Value → Value → Bool) (l : Addr) (n : Nat) (vs : List Value) (x : Value)
    (Q E : Value → Shared → Prop),
    Below A₀ base outer h₀ → Fr h₀ L s.heap m → (hd.heap_39 w.params).In h₀ → News h₀ L s.heap ((l, listOf vs.toArray n) :: rest) →
    Top hd.view_39 (looseW hd.view_39 [Str.ofString "nsmallest", Str.ofString "escape", Str.ofString "unescape"]) mean mg mb h₀ → cs.kind = .function →
    CmpSpec PySem.Challenge.rw_ij0043_01.row.prog w rest P lt → (∀ p ∈ rest, p.1 ≠ l) → (∀ v ∈ vs, P v) → P x → vs.length ≤ 60 → dp + 6 < recursionLimit → un + 600 < cLine →
    (∀ h' tk', Fr h₀ L h' m → News h₀ L h' ((l, listOf (sdown lt x 0 vs.length vs.length (vs ++ [x])).toArray (n + 1)) :: rest) → Q (.none) { s with heap := h', toks := tk' }) →
    wpAny (model PySem.Challenge.rw_ij0043_01.row.prog w) (ktrTop dp un gd cn cs L a ccd cl outer) (call (.ref 21) [.ref l, x]) Q E s := by
  w_top off
  k_fill
  intro dp un gd cn cs a ccd cl outer A₀ base h₀ L m rest s P lt l n vs x Q E B F X N T hk hcmp hr hS hx h64 hdp hun hret
  refine wpAny_call ?_
  refine' code_def (binds := [(Str.ofString "heap", .ref l), (Str.ofString "item", x)]) B F X N T rfl rfl hk ?k6 ?k7 ?k8 ?k9 ?kB ?_ ?c2 ?c3 ?c4 ?c5
  case k6 => k_is
  case k7 => k_is
  case k8 => ktr_room
  case k9 => exact BindsTo.of_eq rfl
  case kB => exact locs rfl
  case c2 => exact rfl
  case c3 => exact rfl
  case c4 => exact rfl
  case c5 => decide
  intro g' L' h' FG' F' N' B' X' T'
  (try dsimp only)
  k_fold
  k_with_none
  k_with "call builtin:len" => (k_here; (with_reducible show wpAny _ _ (call (Value.builtin "len") [Value.ref _]) _ _ _); k_dflt (refine g_len (by k_asm) (by k_mem) (by first | omega | (simp only [List.length_append, List.length_cons, List.length_nil, List.length_set, List.length_dropLast, List.size_toArray] at *; omega)) ?_; k_whole); intro _ _)
  k_with "subscriptTail" => (k_here; (with_reducible show wpAny _ _ (subscriptTail _ _ (Value.ref _) (Value.int _ _)) _ _ _); k_dflt (refine g_sub (by k_asm) (by k_mem) (by first | omega | (simp only [List.length_append, List.length_cons, List.length_nil, List.length_set, List.length_dropLast, List.size_toArray] at *; omega)) (by first | omega | (simp only [List.length_append, List.length_cons, List.length_nil, List.length_set, List.length_dropLast, List.size_toArray] at *; omega)) (by first | omega | (simp only [List.length_append, List.length_cons, List.length_nil, List.length_set, List.length_dropLast, List.size_toArray] at *; omega)) ?_ (by with_unfolding_all rfl); k_whole))
  k_with "binaryOp RShift int int" => (k_here; (refine g_shr1 (by first | omega | (simp only [List.length_append, List.length_cons, List.length_nil, List.length_set, List.length_dropLast, List.size_toArray] at *; omega)) ?_); intro _ _)
  k_with "setItem ref int" => (k_here; (try dsimp only); k_dflt (refine g_set (by k_asm) (by k_asm) (by exact Upd.head (by assumption)) (by first | omega | (simp only [List.length_append, List.length_cons, List.length_nil, List.length_set, List.length_dropLast, List.size_toArray] at *; omega)) (by first | omega | (simp only [List.length_append, List.length_cons, List.length_nil, List.length_set, List.length_dropLast, List.size_toArray] at *; omega)) (by first | omega | (simp only [List.length_append, List.length_cons, List.length_nil, List.length_set, List.length_dropLast, List.size_toArray] at *; omega)) ?_; k_whole); intro h9q F9q N9q; (try k_sweep))
  k_with "call builtin:list.append" => (k_here; (with_reducible show wpAny _ _ (call (Value.builtin _) [Value.ref _, _]) _ _ _); k_dflt (refine g_app (by k_asm) (by k_asm) (by exact Upd.head (by assumption)) (by first | omega | (simp only [List.length_append, List.length_cons, List.length_nil, List.length_set, List.length_dropLast, List.size_toArray] at *; omega)) ?_; k_whole); intro h9q F9q N9q; (try k_sweep))
  k_with "call builtin:list.pop" => (k_here; (with_reducible show wpAny _ _ (call (Value.builtin _) [Value.ref _]) _ _ _); k_dflt (refine g_pop (by k_asm) (by k_asm) (by exact Upd.head (by assumption)) (by first | omega | (simp only [List.length_append, List.length_cons, List.length_nil, List.length_set, List.length_dropLast, List.size_toArray] at *; omega)) (by first | omega | (simp only [List.length_append, List.length_cons, List.length_nil, List.length_set, List.length_dropLast, List.size_toArray] at *; omega)) ?_; k_whole); intro h9q F9q N9q; (try k_sweep))
  k_with "truthy ref" => (k_here; (with_reducible show wpAny _ _ (truthy (Value.ref _)) _ _ _); k_dflt (refine g_truthy (by k_asm) (by k_mem) (by first | omega | (simp only [List.length_append, List.length_cons, List.length_nil, List.length_set, List.length_dropLast, List.size_toArray] at *; omega)) ?_; k_whole); intro _)
  have hS' : ∀ v ∈ vs ++ [x], P v := by
    intro v hv
    rcases List.mem_append.mp hv with hv | hv
    · exact hS v hv
    · rw [List.mem_singleton.mp hv]; exact hx
  have hlen : (vs ++ [x]).length = vs.length + 1 := by simp
  have hlast : (vs ++ [x]).getD vs.length .none = x := by simp [List.getD_eq_getElem?_getD]
  have htn : (((vs ++ [x]).length : Int) - 1).toNat = vs.length := by omega
  k_with "call ref" => (
    rename Fr _ _ _ _ => lF
    rename News _ _ _ _ => lN
    refine c_siftdown _ _ _ _ _ _ _ _ _ _ _ _ _ _ rest _ P lt l (n + 1) (vs ++ [x]) 0 _ (((vs ++ [x]).length : Int) - 1) _ _ _ B' lF X' lN T' (by rfl) hcmp hr hS' (by omega) (by omega) (by omega) (by omega) (by ktr_room) (by ktr_units) ?_
    rw [htn, hlast]
    intro h' tk' F' N')
  k_steps
  rename Fr _ _ _ _ => lF
  rename News _ _ _ _ => lN
  exact hret _ _ lF lN
theorem c_heappop {w : World} {mean : ExcName → Option Value} {mg mb : Str → Option Value} :
   ∀ (dp un : Nat) (gd : Option (List Code)) (cn : Str) (cs : Scope) (a : Addr) (ccd : Value) (cl : List (Str × Addr)) (outer : List Env) (A₀ : Around) (base h₀ : Heap) (L : Addr) (m : Str → Option Value) (rest : List (Addr × Obj)) (s : Shared) (P : Value → Prop) (lt : Value → Value → Bool) (l : Addr) (n : Nat) (vs : List Value)
    (Q E : Value → Shared → Prop),
    Below A₀ base outer h₀ → Fr h₀ L s.heap m → (hd.heap_39 w.params).In h₀ → News h₀ L s.heap ((l, listOf vs.toArray n) :: rest) →
    Top hd.view_39 (looseW hd.view_39 [Str.ofString "nsmallest", Str.ofString "escape", Str.ofString "unescape"]) mean mg mb h₀ → cs.kind = .function →
    CmpSpec PySem.Challenge.rw_ij0043_01.row.prog w rest P lt → (∀ p ∈ rest, p.1 ≠ l) → (∀ v ∈ vs, P v) → 0 < vs.length → vs.length ≤ 60 → dp + 6 < recursionLimit → un + 600 < cLine →
    (∀ h' tk', Fr h₀ L h' m → News h₀ L h' ((l, listOf (hpop lt vs).toArray (n + 1)) :: rest) → Q (vs.getD 0 .none) { s with heap := h', toks := tk' }) →
    wpAny (model PySem.Challenge.rw_ij0043_01.row.prog w) (ktrTop dp un gd cn cs L a ccd cl outer) (call (.ref 28) [.ref l]) Q E s := by
  w_top off
  k_fill
  intro dp un gd cn cs a ccd cl outer A₀ base h₀ L m rest s P lt l n vs Q E B F X N T hk hcmp hr hS h0 h64 hdp hun hret
  refine wpAny_call ?_
  refine' code_def (binds := [(Str.ofString "heap", .ref l)]) B F X N T rfl rfl hk ?k6 ?k7 ?k8 ?k9 ?kB ?_ ?c2 ?c3 ?c4 ?c5
  case k6 => k_is
  case k7 => k_is
  case k8 => ktr_room
  case k9 => exact BindsTo.of_eq rfl
  case kB => exact locs rfl
  case c2 => exact rfl
  case c3 => exact rfl
  case c4 => exact rfl
  case c5 => decide
  intro g' L' h' FG' F' N' B' X' T'
  (try dsimp only)
  k_fold
  k_with_none
  k_with "call builtin:len" => (k_here; (with_reducible show wpAny _ _ (call (Value.builtin "len") [Value.ref _]) _ _ _); k_dflt (refine g_len (by k_asm) (by k_mem) (by first | omega | (simp only [List.length_append, List.length_cons, List.length_nil, List.length_set, List.length_dropLast, List.size_toArray] at *; omega)) ?_; k_whole); intro _ _)
  k_with "subscriptTail" => (k_here; (with_reducible show wpAny _ _ (subscriptTail _ _ (Value.ref _) (Value.int _ _)) _ _ _); k_dflt (refine g_sub (by k_asm) (by k_mem) (by first | omega | (simp only [List.length_append, List.length_cons, List.length_nil, List.length_set, List.length_dropLast, List.size_toArray] at *; omega)) (by first | omega | (simp only [List.length_append, List.length_cons, List.length_nil, List.length_set, List.length_dropLast, List.size_toArray] at *; omega)) (by first | omega | (simp only [List.length_append, List.length_cons, List.length_nil, List.length_set, List.length_dropLast, List.size_toArray] at *; omega)) ?_ (by with_unfolding_all rfl); k_whole))
  k_with "binaryOp RShift int int" => (k_here; (refine g_shr1 (by first | omega | (simp only [List.length_append, List.length_cons, List.length_nil, List.length_set, List.length_dropLast, List.size_toArray] at *; omega)) ?_); intro _ _)
  k_with "setItem ref int" => (k_here; (try dsimp only); k_dflt (refine g_set (by k_asm) (by k_asm) (by exact Upd.head (by assumption)) (by first | omega | (simp only [List.length_append, List.length_cons, List.length_nil, List.length_set, List.length_dropLast, List.size_toArray] at *; omega)) (by first | omega | (simp only [List.length_append, List.length_cons, List.length_nil, List.length_set, List.length_dropLast, List.size_toArray] at *; omega)) (by first | omega | (simp only [List.length_append, List.length_cons, List.length_nil, List.length_set, List.length_dropLast, List.size_toArray] at *; omega)) ?_; k_whole); intro h9q F9q N9q; (try k_sweep))
  k_with "call builtin:list.append" => (k_here; (with_reducible show wpAny _ _ (call (Value.builtin _) [Value.ref _, _]) _ _ _); k_dflt (refine g_app (by k_asm) (by k_asm) (by exact Upd.head (by assumption)) (by first | omega | (simp only [List.length_append, List.length_cons, List.length_nil, List.length_set, List.length_dropLast, List.size_toArray] at *; omega)) ?_; k_whole); intro h9q F9q N9q; (try k_sweep))
  k_with "call builtin:list.pop" => (k_here; (with_reducible show wpAny _ _ (call (Value.builtin _) [Value.ref _]) _ _ _); k_dflt (refine g_pop (by k_asm) (by k_asm) (by exact Upd.head (by assumption)) (by first | omega | (simp only [List.length_append, List.length_cons, List.length_nil, List.length_set, List.length_dropLast, List.size_toArray] at *; omega)) (by first | omega | (simp only [List.length_append, List.length_cons, List.length_nil, List.length_set, List.length_dropLast, List.size_toArray] at *; omega)) ?_; k_whole); intro h9q F9q N9q; (try k_sweep))
  k_with "truthy ref" => (k_here; (with_reducible show wpAny _ _ (truthy (Value.ref _)) _ _ _); k_dflt (refine g_truthy (by k_asm) (by k_mem) (by first | omega | (simp only [List.length_append, List.length_cons, List.length_nil, List.length_set, List.length_dropLast, List.size_toArray] at *; omega)) ?_; k_whole); intro _)
  have hlen : vs.dropLast.length = vs.length - 1 := List.length_dropLast
  have hlst : P (vs.getD (vs.length - 1) .none) := p_getD hS (by omega)
  have hS' : ∀ v ∈ vs.dropLast, P v := fun v hv => hS v (List.dropLast_subset vs hv)
  k_with "call ref" => (
    rename Fr _ _ _ _ => lF
    rename News _ _ _ _ => lN
    refine c_siftup _ _ _ _ _ _ _ _ _ _ _ _ _ _ rest _ P lt l (n + 1) (vs.dropLast.set (0 : Int).toNat (vs.getD (vs.length - 1) .none)) 0 _ _ _ B' lF X' lN T' (by rfl) hcmp hr (p_set hS' hlst) (by rw [List.length_set]; omega) (by omega) (by rw [List.length_set]; omega) (by ktr_room) (by ktr_units) ?_
    intro h' tk' F' N')
  k_steps
  all_goals (rename Fr _ _ _ _ => lF; rename News _ _ _ _ => lN)
  all_goals first
    | (have h1 : vs.length = 1 := by omega
       have e1 : vs.dropLast = [] := List.eq_nil_of_length_eq_zero (by omega)
       rw [h1]
       refine hret _ _ lF ?_
       unfold hpop
       rw [if_pos h1]
       rw [e1] at lN
       exact lN)
    | (have h1 : ¬ vs.length = 1 := by omega
       have e0 : vs.dropLast.getD (0 : Int).toNat .none = vs.getD 0 .none := by
         simp only [List.getD_eq_getElem?_getD, Int.toNat_zero]
         rw [List.getElem?_dropLast, if_pos (by omega)]
       rw [e0]
       refine hret _ _ lF ?_
       unfold hpop
       rw [if_neg h1]
       exact lN)
end
section
set_option maxRecDepth 100000
set_option maxHeartbeats 4000000
open PySem PySem.W PySem.Calls PyProof.Rows
theorem c_heapreplace_max {w : World} {mean : ExcName → Option Value} {mg mb : Str → Option Value} :
   ∀ (dp un : Nat) (gd : Option (List Code)) (cn : Str) (cs : Scope) (a : Addr) (ccd : Value) (cl : List (Str × Addr)) (outer : List Env) (A₀ : Around) (base h₀ : Heap) (L : Addr) (m : Str → Option Value) (rest : List (Addr × Obj)) (s : Shared) (P : Value → Prop) (lt : Value → Value → Bool) (l : Addr) (n : Nat) (vs : List Value) (x : Value)
    (Q E : Value → Shared → Prop),
    Below A₀ base outer h₀ → Fr h₀ L s.heap m → (hd.heap_39 w.params).In h₀ → News h₀ L s.heap ((l, listOf vs.toArray n) :: rest) →
    Top hd.view_39 (looseW hd.view_39 [Str.ofString "nsmallest", Str.ofString "escape", Str.ofString "unescape"]) mean mg mb h₀ → cs.kind = .function →
    CmpSpec PySem.Challenge.rw_ij0043_01.row.prog w rest P lt → (∀ p ∈ rest, p.1 ≠ l) → (∀ v ∈ vs, P v) → P x → 0 < vs.length → vs.length ≤ 60 → dp + 6 < recursionLimit → un + 600 < cLine →
    (∀ h' tk', Fr h₀ L h' m → News h₀ L h' ((l, listOf (sup (fun a b => lt b a) 0 (vs.set 0 x)).toArray n) :: rest) → Q (vs.getD 0 .none) { s with heap := h', toks := tk' }) →
    wpAny (model PySem.Challenge.rw_ij0043_01.row.prog w) (ktrTop dp un gd cn cs L a ccd cl outer) (call (.ref 35) [.ref l, x]) Q E s := by
  w_top off
  k_fill
  intro dp un gd cn cs a ccd cl outer A₀ base h₀ L m rest s P lt l n vs x Q E B F X N T hk hcmp hr hS hx h0 h64 hdp hun hret
  refine wpAny_call ?_
  refine' code_def (binds := [(Str.ofString "heap", .ref l), (Str.ofString "item", x)]) B F X N T rfl rfl hk ?k6 ?k7 ?k8 ?k9 ?kB ?_ ?c2 ?c3 ?c4 ?c5
  case k6 => k_is
  case k7 => k_is
  case k8 => ktr_room
  case k9 => exact BindsTo.of_eq rfl
  case kB => exact locs rfl
  case c2 => exact rfl
  case c3 => exact rfl
  case c4 => exact rfl
  case c5 => decide
  intro g' L' h' FG' F' N' B' X' T'
  (try dsimp only)
  k_fold
  k_with_none
  k_with "call builtin:len" => (k_here; (with_reducible show wpAny _ _ (call (Value.builtin "len") [Value.ref _]) _ _ _); k_dflt (refine g_len (by k_asm) (by k_mem) (by first | omega | (simp only [List.length_append, List.length_cons, List.length_nil, List.length_set, List.length_dropLast, List.size_toArray] at *; omega)) ?_; k_whole); intro _ _)
  k_with "subscriptTail" => (k_here; (with_reducible show wpAny _ _ (subscriptTail _ _ (Value.ref _) (Value.int _ _)) _ _ _); k_dflt (refine g_sub (by k_asm) (by k_mem) (by first | omega | (simp only [List.length_append, List.length_cons, List.length_nil, List.length_set, List.length_dropLast, List.size_toArray] at *; omega)) (by first | omega | (simp only [List.length_append, List.length_cons, List.length_nil, List.length_set, List.length_dropLast, List.size_toArray] at *; omega)) (by first | omega | (simp only [List.length_append, List.length_cons, List.length_nil, List.length_set, List.length_dropLast, List.size_toArray] at *; omega)) ?_ (by with_unfolding_all rfl); k_whole))
  k_with "binaryOp RShift int int" => (k_here; (refine g_shr1 (by first | omega | (simp only [List.length_append, List.length_cons, List.length_nil, List.length_set, List.length_dropLast, List.size_toArray] at *; omega)) ?_); intro _ _)
  k_with "setItem ref int" => (k_here; (try dsimp only); k_dflt (refine g_set (by k_asm) (by k_asm) (by exact Upd.head (by assumption)) (by first | omega | (simp only [List.length_append, List.length_cons, List.length_nil, List.length_set, List.length_dropLast, List.size_toArray] at *; omega)) (by first | omega | (simp only [List.length_append, List.length_cons, List.length_nil, List.length_set, List.length_dropLast, List.size_toArray] at *; omega)) (by first | omega | (simp only [List.length_append, List.length_cons, List.length_nil, List.length_set, List.length_dropLast, List.size_toArray] at *; omega)) ?_; k_whole); intro h9q F9q N9q; (try k_sweep))
  k_with "call builtin:list.append" => (k_here; (with_reducible show wpAny _ _ (call (Value.builtin _) [Value.ref _, _]) _ _ _); k_dflt (refine g_app (by k_asm) (by k_asm) (by exact Upd.head (by assumption)) (by first | omega | (simp only [List.length_append, List.length_cons, List.length_nil, List.length_set, List.length_dropLast, List.size_toArray] at *; omega)) ?_; k_whole); intro h9q F9q N9q; (try k_sweep))
  k_with "call builtin:list.pop" => (k_here; (with_reducible show wpAny _ _ (call (Value.builtin _) [Value.ref _]) _ _ _); k_dflt (refine g_pop (by k_asm) (by k_asm) (by exact Upd.head (by assumption)) (by first | omega | (simp only [List.length_append, List.length_cons, List.length_nil, List.length_set, List.length_dropLast, List.size_toArray] at *; omega)) (by first | omega | (simp only [List.length_append, List.length_cons, List.length_nil, List.length_set, List.length_dropLast, List.size_toArray] at *; omega)) ?_; k_whole); intro h9q F9q N9q; (try k_sweep))
  k_with "truthy ref" => (k_here; (with_reducible show wpAny _ _ (truthy (Value.ref _)) _ _ _); k_dflt (refine g_truthy (by k_asm) (by k_mem) (by first | omega | (simp only [List.length_append, List.length_cons, List.length_nil, List.length_set, List.length_dropLast, List.size_toArray] at *; omega)) ?_; k_whole); intro _)
  k_with "binaryOp FloorDiv int int" => (k_here; (refine g_fdiv2 ?_); intro _ _)
  k_with "call ref" => (
    rename Fr _ _ _ _ => lF
    rename News _ _ _ _ => lN
    refine c_siftup_max _ _ _ _ _ _ _ _ _ _ _ _ _ _ rest _ P lt l n (vs.set (0 : Int).toNat x) 0 _ _ _ B' lF X' lN T' (by rfl) hcmp hr (p_set hS hx) (by rw [List.length_set]; omega) (by omega) (by rw [List.length_set]; omega) (by ktr_room) (by ktr_units) ?_
    intro h' tk' F' N')
  k_steps
  rename Fr _ _ _ _ => lF
  rename News _ _ _ _ => lN
  exact hret _ _ lF lN
theorem c_heapify_max {w : World} {mean : ExcName → Option Value} {mg mb : Str → Option Value} :
   ∀ (dp un : Nat) (gd : Option (List Code)) (cn : Str) (cs : Scope) (a : Addr) (ccd : Value) (cl : List (Str × Addr)) (outer : List Env) (A₀ : Around) (base h₀ : Heap) (L : Addr) (m : Str → Option Value) (rest : List (Addr × Obj)) (s : Shared) (P : Value → Prop) (lt : Value → Value → Bool) (l : Addr) (n : Nat) (vs : List Value)
    (Q E : Value → Shared → Prop),
    Below A₀ base outer h₀ → Fr h₀ L s.heap m → (hd.heap_39 w.params).In h₀ → News h₀ L s.heap ((l, listOf vs.toArray n) :: rest) →
    Top hd.view_39 (looseW hd.view_39 [Str.ofString "nsmallest", Str.ofString "escape", Str.ofString "unescape"]) mean mg mb h₀ → cs.kind = .function →
    CmpSpec PySem.Challenge.rw_ij0043_01.row.prog w rest P lt → (∀ p ∈ rest, p.1 ≠ l) → (∀ v ∈ vs, P v) → vs.length ≤ 60 → dp + 6 < recursionLimit → un + 600 < cLine →
    (∀ h' tk', Fr h₀ L h' m → News h₀ L h' ((l, listOf (hify (fun a b => lt b a) (vs.length / 2) vs).toArray n) :: rest) → Q (.none) { s with heap := h', toks := tk' }) →
    wpAny (model PySem.Challenge.rw_ij0043_01.row.prog w) (ktrTop dp un gd cn cs L a ccd cl outer) (call (.ref 42) [.ref l]) Q E s := by
  w_top off
  k_fill
  intro dp un gd cn cs a ccd cl outer A₀ base h₀ L m rest s P lt l n vs Q E B F X N T hk hcmp hr hS h64 hdp hun hret
  refine wpAny_call ?_
  refine' code_def (binds := [(Str.ofString "x", .ref l)]) B F X N T rfl rfl hk ?k6 ?k7 ?k8 ?k9 ?kB ?_ ?c2 ?c3 ?c4 ?c5
  case k6 => k_is
  case k7 => k_is
  case k8 => ktr_room
  case k9 => exact BindsTo.of_eq rfl
  case kB => exact locs rfl
  case c2 => exact rfl
  case c3 => exact rfl
  case c4 => exact rfl
  case c5 => decide
  intro g' L' h' FG' F' N' B' X' T'
  (try dsimp only)
  k_fold
  k_with_none
  k_with "call builtin:len" => (k_here; (with_reducible show wpAny _ _ (call (Value.builtin "len") [Value.ref _]) _ _ _); k_dflt (refine g_len (by k_asm) (by k_mem) (by first | omega | (simp only [List.length_append, List.length_cons, List.length_nil, List.length_set, List.length_dropLast, List.size_toArray] at *; omega)) ?_; k_whole); intro _ _)
  k_with "subscriptTail" => (k_here; (with_reducible show wpAny _ _ (subscriptTail _ _ (Value.ref _) (Value.int _ _)) _ _ _); k_dflt (refine g_sub (by k_asm) (by k_mem) (by first | omega | (simp only [List.length_append, List.length_cons, List.length_nil, List.length_set, List.length_dropLast, List.size_toArray] at *; omega)) (by first | omega | (simp only [List.length_append, List.length_cons, List.length_nil, List.length_set, List.length_dropLast, List.size_toArray] at *; omega)) (by first | omega | (simp only [List.length_append, List.length_cons, List.length_nil, List.length_set, List.length_dropLast, List.size_toArray] at *; omega)) ?_ (by with_unfolding_all rfl); k_whole))
  k_with "binaryOp RShift int int" => (k_here; (refine g_shr1 (by first | omega | (simp only [List.length_append, List.length_cons, List.length_nil, List.length_set, List.length_dropLast, List.size_toArray] at *; omega)) ?_); intro _ _)
  k_with "setItem ref int" => (k_here; (try dsimp only); k_dflt (refine g_set (by k_asm) (by k_asm) (by exact Upd.head (by assumption)) (by first | omega | (simp only [List.length_append, List.length_cons, List.length_nil, List.length_set, List.length_dropLast, List.size_toArray] at *; omega)) (by first | omega | (simp only [List.length_append, List.length_cons, List.length_nil, List.length_set, List.length_dropLast, List.size_toArray] at *; omega)) (by first | omega | (simp only [List.length_append, List.length_cons, List.length_nil, List.length_set, List.length_dropLast, List.size_toArray] at *; omega)) ?_; k_whole); intro h9q F9q N9q; (try k_sweep))
  k_with "call builtin:list.append" => (k_here; (with_reducible show wpAny _ _ (call (Value.builtin _) [Value.ref _, _]) _ _ _); k_dflt (refine g_app (by k_asm) (by k_asm) (by exact Upd.head (by assumption)) (by first | omega | (simp only [List.length_append, List.length_cons, List.length_nil, List.length_set, List.length_dropLast, List.size_toArray] at *; omega)) ?_; k_whole); intro h9q F9q N9q; (try k_sweep))
  k_with "call builtin:list.pop" => (k_here; (with_reducible show wpAny _ _ (call (Value.builtin _) [Value.ref _]) _ _ _); k_dflt (refine g_pop (by k_asm) (by k_asm) (by exact Upd.head (by assumption)) (by first | omega | (simp only [List.length_append, List.length_cons, List.length_nil, List.length_set, List.length_dropLast, List.size_toArray] at *; omega)) (by first | omega | (simp only [List.length_append, List.length_cons, List.length_nil, List.length_set, List.length_dropLast, List.size_toArray] at *; omega)) ?_; k_whole); intro h9q F9q N9q; (try k_sweep))
  k_with "truthy ref" => (k_here; (with_reducible show wpAny _ _ (truthy (Value.ref _)) _ _ _); k_dflt (refine g_truthy (by k_asm) (by k_mem) (by first | omega | (simp only [List.length_append, List.length_cons, List.length_nil, List.length_set, List.length_dropLast, List.size_toArray] at *; omega)) ?_; k_whole); intro _)
  k_with "binaryOp FloorDiv int int" => (k_here; (refine g_fdiv2 ?_); intro _ _)
  k_with "call type:reversed" => (
    rename Fr _ _ _ _ => lF
    rename News _ _ _ _ => lN
    rename IsRange _ _ _ _ _ _ _ _ => lR
    refine g_reversed lF lN lR (by omega) (by omega) ?_
    intro D hD FD ND ltD)
  k_with "pyIter ref" => (
    have hb0 : (0 : Int) ≤ (vs.length : Int) / 2 := by omega
    have hbn : (((vs.length / 2 : Nat) : Int)) = (vs.length : Int) / 2 := by omega
    have hD0 := ND _ (List.mem_cons_self ..)
    have hDl : ∀ p ∈ ((l, listOf vs.toArray n) :: rest : List (Addr × Obj)), p.1 < D := fun p hp => ltD p (by first | exact hp | exact List.mem_cons_of_mem _ hp)
    refine wpAny_pyIter_rangeiter hD0.1 ?_
    refine' g_for (σ := List Value) (I := D) (fun c => (l, listOf c.toArray n) :: rest) (fun _ => []) [] (fun i c => (∀ v ∈ c, P v) ∧ c.length = vs.length ∧ hify (fun a b => lt b a) (vs.length / 2 - i) c = hify (fun a b => lt b a) (vs.length / 2) vs) vs
      (Walks.range (by rfl) D ((vs.length : Int) / 2 - 1) (-1) (vs.length / 2)) (fun hq => hD0.2.1 (List.mem_singleton.mp hq).symm) (by intro b hb; rw [List.mem_singleton.mp hb]; exact hD0.2.2) (by intro p hp hq; have := hDl p hp; rw [List.mem_singleton.mp hq] at this; exact Nat.lt_irrefl _ this)
      (by rw [hbn]; simpa using hD0.1) FD (fun p hp => ND p (List.mem_cons_of_mem _ (by first | exact hp | exact List.mem_cons_of_mem _ hp))) (by intro p hp; cases hp) ⟨hS, rfl, rfl⟩ ?gturn1 ?gdone1
    case' gturn1 =>
      intro c i v u h tk own hi hv hP hnw hown hcov hst Fw Nw
      obtain ⟨hS1, hl1, hR⟩ := hP
      obtain ⟨tv, rfl⟩ := hv
      have ei : ((vs.length : Int) / 2 - 1 + (i : Int) * (-1)).toNat = vs.length / 2 - i - 1 := by omega
      have hown' : ∀ p ∈ own, p.1 ≠ l := by
        intro p hp hq
        have h1 := hown p hp
        have h2 := hDl (l, listOf vs.toArray n) (List.mem_cons_self ..)
        rw [List.mem_singleton.mp h1] at hq
        rw [hq] at h2
        exact Nat.lt_irrefl _ h2
      (try dsimp only [kstB] at Fw)
      (try dsimp only at Nw hS1 hl1)
      (try k_fold)
    case' gdone1 =>
      intro c u h tk hP Fw Nw
      obtain ⟨hS1, hl1, hR⟩ := hP
      (try dsimp only [kstB] at Fw)
      (try dsimp only at Nw hS1 hl1)
      (try k_fold))
  k_with "call ref" => (
    rename Fr _ _ _ _ => lF
    rename News _ _ _ _ => lN
    have hlt : vs.length / 2 - i - 1 < c.length := by omega
    refine c_siftup_max _ _ _ _ _ _ _ _ _ _ _ _ _ _ (rest ++ own) _ P lt l n c ((vs.length : Int) / 2 - 1 + (i : Int) * (-1)) _ _ _ B' lF X' lN T' (by rfl) (hcmp.more fun p hp => List.mem_append_left _ hp) (by intro p hp; rcases List.mem_append.mp hp with hp | hp; exact hr p hp; exact hown' p hp) hS1 (by omega) (by omega) (by omega) (by ktr_room) (by ktr_units) ?_
    rw [ei]
    intro h' tk' F' N')
  k_with "GEnd" => (
    rename Fr _ _ _ _ => lF
    rename News _ _ _ _ => lN
    have hlt : vs.length / 2 - i - 1 < c.length := by omega
    refine g_end (sup (fun a b => lt b a) (vs.length / 2 - i - 1) c) lF lN (fun p hp => by rcases List.mem_cons.mp hp with rfl | hp; exact List.mem_cons_self ..; exact List.mem_cons_of_mem _ (List.mem_append_left _ hp)) (fun p hp => List.mem_cons_of_mem _ (List.mem_append_right _ hp)) (fun p hp => by rcases List.mem_cons.mp hp with rfl | hp; exact hnw (l, listOf c.toArray n) (List.mem_cons_self ..); exact hnw p (List.mem_cons_of_mem _ hp)) (by intro p hp; cases hp) (by intro z h1 h2 h3; simp [h1]) ⟨sup_all hS1 hlt, by rw [sup_length]; exact hl1, ?_⟩
    rw [← hR]
    obtain ⟨k, hk⟩ : ∃ k, vs.length / 2 - i = k + 1 := ⟨vs.length / 2 - i - 1, by omega⟩
    rw [show vs.length / 2 - (i + 1) = k by omega, hk]
    rfl)
  k_with "GPost" => (dsimp only [GPost])
  k_steps
  rename Fr _ _ _ _ => lF
  rename News _ _ _ _ => lN
  refine hret _ _ lF ?_
  rw [← hR, Nat.sub_self]
  exact lN
end
section
set_option maxRecDepth 100000
set_option maxHeartbeats 4000000
open PySem PySem.W PySem.Calls PyProof.Rows
theorem c_escape {w : World} {mean : ExcName → Option Value} {mg mb : Str → Option Value} :
   ∀ (dp un : Nat) (gd : Option (List Code)) (cn : Str) (cs : Scope) (a : Addr) (ccd : Value) (cl : List (Str × Addr)) (outer : List Env) (A₀ : Around) (base h₀ : Heap) (L : Addr) (m : Str → Option Value) (rest : List (Addr × Obj)) (s : Shared) (x : Str) (t : Tok)
    (Q E : Value → Shared → Prop),
    Below A₀ base outer h₀ → Fr h₀ L s.heap m → (hd.heap_39 w.params).In h₀ → News h₀ L s.heap (rest) →
    Top hd.view_39 (looseW hd.view_39 [Str.ofString "nsmallest", Str.ofString "escape", Str.ofString "unescape"]) mean mg mb h₀ → cs.kind = .function →
    x.length ≤ 1000 → dp + 6 < recursionLimit → un + 600 < cLine →
    (∀ h' tk' t', Fr h₀ L h' m → News h₀ L h' (rest) → Q (.str (esc x) t') { s with heap := h', toks := tk' }) →
    wpAny (model PySem.Challenge.rw_ij0043_01.row.prog w) (ktrTop dp un gd cn cs L a ccd cl outer) (call (.ref 92) [.str x t]) Q E s := by
  w_top off
  k_fill
  intro dp un gd cn cs a ccd cl outer A₀ base h₀ L m rest s x t Q E B F X N T hk hx hdp hun hret
  refine wpAny_call ?_
  refine' code_def (binds := [(Str.ofString "data", .str x t), (Str.ofString "entities", .ref 84)]) B F X N T rfl rfl hk ?k6 ?k7 ?k8 ?k9 ?kB ?_ ?c2 ?c3 ?c4 ?c5
  case k6 => k_is
  case k7 => k_is
  case k8 => ktr_room
  case k9 => exact binds_K (by k_in) rfl (by k_is) rfl rfl rfl
  case kB => exact locs rfl
  case c2 => exact rfl
  case c3 => exact rfl
  case c4 => exact rfl
  case c5 => decide
  intro g' L' h' FG' F' N' B' X' T'
  (try dsimp only)
  k_fold
  k_with_none
  k_with "call builtin:len" => (k_here; (with_reducible show wpAny _ _ (call (Value.builtin "len") [Value.ref _]) _ _ _); k_dflt (refine g_len (by k_asm) (by k_mem) (by first | omega | (simp only [List.length_append, List.length_cons, List.length_nil, List.length_set, List.length_dropLast, List.size_toArray] at *; omega)) ?_; k_whole); intro _ _)
  k_with "subscriptTail" => (k_here; (with_reducible show wpAny _ _ (subscriptTail _ _ (Value.ref _) (Value.int _ _)) _ _ _); k_dflt (refine g_sub (by k_asm) (by k_mem) (by first | omega | (simp only [List.length_append, List.length_cons, List.length_nil, List.length_set, List.length_dropLast, List.size_toArray] at *; omega)) (by first | omega | (simp only [List.length_append, List.length_cons, List.length_nil, List.length_set, List.length_dropLast, List.size_toArray] at *; omega)) (by first | omega | (simp only [List.length_append, List.length_cons, List.length_nil, List.length_set, List.length_dropLast, List.size_toArray] at *; omega)) ?_ (by with_unfolding_all rfl); k_whole))
  k_with "binaryOp RShift int int" => (k_here; (refine g_shr1 (by first | omega | (simp only [List.length_append, List.length_cons, List.length_nil, List.length_set, List.length_dropLast, List.size_toArray] at *; omega)) ?_); intro _ _)
  k_with "setItem ref int" => (k_here; (try dsimp only); k_dflt (refine g_set (by k_asm) (by k_asm) (by exact Upd.head (by assumption)) (by first | omega | (simp only [List.length_append, List.length_cons, List.length_nil, List.length_set, List.length_dropLast, List.size_toArray] at *; omega)) (by first | omega | (simp only [List.length_append, List.length_cons, List.length_nil, List.length_set, List.length_dropLast, List.size_toArray] at *; omega)) (by first | omega | (simp only [List.length_append, List.length_cons, List.length_nil, List.length_set, List.length_dropLast, List.size_toArray] at *; omega)) ?_; k_whole); intro h9q F9q N9q; (try k_sweep))
  k_with "call builtin:list.append" => (k_here; (with_reducible show wpAny _ _ (call (Value.builtin _) [Value.ref _, _]) _ _ _); k_dflt (refine g_app (by k_asm) (by k_asm) (by exact Upd.head (by assumption)) (by first | omega | (simp only [List.length_append, List.length_cons, List.length_nil, List.length_set, List.length_dropLast, List.size_toArray] at *; omega)) ?_; k_whole); intro h9q F9q N9q; (try k_sweep))
  k_with "call builtin:list.pop" => (k_here; (with_reducible show wpAny _ _ (call (Value.builtin _) [Value.ref _]) _ _ _); k_dflt (refine g_pop (by k_asm) (by k_asm) (by exact Upd.head (by assumption)) (by first | omega | (simp only [List.length_append, List.length_cons, List.length_nil, List.length_set, List.length_dropLast, List.size_toArray] at *; omega)) (by first | omega | (simp only [List.length_append, List.length_cons, List.length_nil, List.length_set, List.length_dropLast, List.size_toArray] at *; omega)) ?_; k_whole); intro h9q F9q N9q; (try k_sweep))
  k_with "truthy ref" => (k_here; (with_reducible show wpAny _ _ (truthy (Value.ref _)) _ _ _); k_dflt (refine g_truthy (by k_asm) (by k_mem) (by first | omega | (simp only [List.length_append, List.length_cons, List.length_nil, List.length_set, List.length_dropLast, List.size_toArray] at *; omega)) ?_; k_whole); intro _)
  k_with "execs cons" => (k_here; refine execs_cons_toks (by first | assumption | (dsimp only; omega) | (simp only [List.length_cons]; omega)) ?_)
  have l1 := esc_len1 x
  have l2 := esc_len2 (Txt.replace x (Str.ofString "&") (Str.ofString "&amp;"))
  have l3 := esc_len3 (Txt.replace (Txt.replace x (Str.ofString "&") (Str.ofString "&amp;")) (Str.ofString ">") (Str.ofString "&gt;"))
  k_with "call builtin:str.replace" => (
    refine SC.replaceW (by (try dsimp only at *); exact Nat.ne_of_gt (by first | omega | (simp only [List.length_cons]; omega))) (by (try dsimp only at *); exact Nat.ne_of_gt (by first | omega | (simp only [List.length_cons]; omega))) (by exact Nat.ne_of_lt (Nat.lt_succ_self _)) (by decide) (by omega) (by decide) ?_
    intro _ _)
  k_with "truthy ref" => (
    rename Fr _ _ _ _ => lF
    refine g_truthyK lF X' (by k_is) (by decide) ?_
    intro _)
  k_steps
  rename Fr _ _ _ _ => lF
  rename News _ _ _ _ => lN
  exact hret _ _ _ lF lN
theorem c_unescape {w : World} {mean : ExcName → Option Value} {mg mb : Str → Option Value} :
   ∀ (dp un : Nat) (gd : Option (List Code)) (cn : Str) (cs : Scope) (a : Addr) (ccd : Value) (cl : List (Str × Addr)) (outer : List Env) (A₀ : Around) (base h₀ : Heap) (L : Addr) (m : Str → Option Value) (rest : List (Addr × Obj)) (s : Shared) (x : Str) (t : Tok)
    (Q E : Value → Shared → Prop),
    Below A₀ base outer h₀ → Fr h₀ L s.heap m → (hd.heap_39 w.params).In h₀ → News h₀ L s.heap (rest) →
    Top hd.view_39 (looseW hd.view_39 [Str.ofString "nsmallest", Str.ofString "escape", Str.ofString "unescape"]) mean mg mb h₀ → cs.kind = .function →
    x.length ≤ 1000 → dp + 6 < recursionLimit → un + 600 < cLine →
    (∀ h' tk' t', Fr h₀ L h' m → News h₀ L h' (rest) → Q (.str (unesc x) t') { s with heap := h', toks := tk' }) →
    wpAny (model PySem.Challenge.rw_ij0043_01.row.prog w) (ktrTop dp un gd cn cs L a ccd cl outer) (call (.ref 101) [.str x t]) Q E s := by
  w_top off
  k_fill
  intro dp un gd cn cs a ccd cl outer A₀ base h₀ L m rest s x t Q E B F X N T hk hx hdp hun hret
  refine wpAny_call ?_
  refine' code_def (binds := [(Str.ofString "data", .str x t), (Str.ofString "entities", .ref 93)]) B F X N T rfl rfl hk ?k6 ?k7 ?k8 ?k9 ?kB ?_ ?c2 ?c3 ?c4 ?c5
  case k6 => k_is
  case k7 => k_is
  case k8 => ktr_room
  case k9 => exact binds_K (by k_in) rfl (by k_is) rfl rfl rfl
  case kB => exact locs rfl
  case c2 => exact rfl
  case c3 => exact rfl
  case c4 => exact rfl
  case c5 => decide
  intro g' L' h' FG' F' N' B' X' T'
  (try dsimp only)
  k_fold
  k_with_none
  k_with "call builtin:len" => (k_here; (with_reducible show wpAny _ _ (call (Value.builtin "len") [Value.ref _]) _ _ _); k_dflt (refine g_len (by k_asm) (by k_mem) (by first | omega | (simp only [List.length_append, List.length_cons, List.length_nil, List.length_set, List.length_dropLast, List.size_toArray] at *; omega)) ?_; k_whole); intro _ _)
  k_with "subscriptTail" => (k_here; (with_reducible show wpAny _ _ (subscriptTail _ _ (Value.ref _) (Value.int _ _)) _ _ _); k_dflt (refine g_sub (by k_asm) (by k_mem) (by first | omega | (simp only [List.length_append, List.length_cons, List.length_nil, List.length_set, List.length_dropLast, List.size_toArray] at *; omega)) (by first | omega | (simp only [List.length_append, List.length_cons, List.length_nil, List.length_set, List.length_dropLast, List.size_toArray] at *; omega)) (by first | omega | (simp only [List.length_append, List.length_cons, List.length_nil, List.length_set, List.length_dropLast, List.size_toArray] at *; omega)) ?_ (by with_unfolding_all rfl); k_whole))
  k_with "binaryOp RShift int int" => (k_here; (refine g_shr1 (by first | omega | (simp only [List.length_append, List.length_cons, List.length_nil, List.length_set, List.length_dropLast, List.size_toArray] at *; omega)) ?_); intro _ _)
  k_with "setItem ref int" => (k_here; (try dsimp only); k_dflt (refine g_set (by k_asm) (by k_asm) (by exact Upd.head (by assumption)) (by first | omega | (simp only [List.length_append, List.length_cons, List.length_nil, List.length_set, List.length_dropLast, List.size_toArray] at *; omega)) (by first | omega | (simp only [List.length_append, List.length_cons, List.length_nil, List.length_set, List.length_dropLast, List.size_toArray] at *; omega)) (by first | omega | (simp only [List.length_append, List.length_cons, List.length_nil, List.length_set, List.length_dropLast, List.size_toArray] at *; omega)) ?_; k_whole); intro h9q F9q N9q; (try k_sweep))
  k_with "call builtin:list.append" => (k_here; (with_reducible show wpAny _ _ (call (Value.builtin _) [Value.ref _, _]) _ _ _); k_dflt (refine g_app (by k_asm) (by k_asm) (by exact Upd.head (by assumption)) (by first | omega | (simp only [List.length_append, List.length_cons, List.length_nil, List.length_set, List.length_dropLast, List.size_toArray] at *; omega)) ?_; k_whole); intro h9q F9q N9q; (try k_sweep))
  k_with "call builtin:list.pop" => (k_here; (with_reducible show wpAny _ _ (call (Value.builtin _) [Value.ref _]) _ _ _); k_dflt (refine g_pop (by k_asm) (by k_asm) (by exact Upd.head (by assumption)) (by first | omega | (simp only [List.length_append, List.length_cons, List.length_nil, List.length_set, List.length_dropLast, List.size_toArray] at *; omega)) (by first | omega | (simp only [List.length_append, List.length_cons, List.length_nil, List.length_set, List.length_dropLast, List.size_toArray] at *; omega)) ?_; k_whole); intro h9q F9q N9q; (try k_sweep))
  k_with "truthy ref" => (k_here; (with_reducible show wpAny _ _ (truthy (Value.ref _)) _ _ _); k_dflt (refine g_truthy (by k_asm) (by k_mem) (by first | omega | (simp only [List.length_append, List.length_cons, List.length_nil, List.length_set, List.length_dropLast, List.size_toArray] at *; omega)) ?_; k_whole); intro _)
  k_with "execs cons" => (k_here; refine execs_cons_toks (by first | assumption | (dsimp only; omega) | (simp only [List.length_cons]; omega)) ?_)
  have l1 := une_len1 x
  have l2 := une_len2 (Txt.replace x (Str.ofString "&lt;") (Str.ofString "<"))
  k_with "call builtin:str.replace" => (
    refine SC.replaceW (by (try dsimp only at *); exact Nat.ne_of_gt (by first | omega | (simp only [List.length_cons]; omega))) (by (try dsimp only at *); exact Nat.ne_of_gt (by first | omega | (simp only [List.length_cons]; omega))) (by exact Nat.ne_of_lt (Nat.lt_succ_self _)) (by decide) (by omega) (by decide) ?_
    intro _ _)
  k_with "truthy ref" => (
    rename Fr _ _ _ _ => lF
    refine g_truthyK lF X' (by k_is) (by decide) ?_
    intro _)
  k_steps
  rename Fr _ _ _ _ => lF
  rename News _ _ _ _ => lN
  exact hret _ _ _ lF lN
end
section
set_option maxRecDepth 100000
set_option maxHeartbeats 4000000
open PySem PySem.W PySem.Calls PyProof.Rows
theorem c_heaped {w : World} {mean : ExcName → Option Value} {mg mb : Str → Option Value} :
   ∀ (dp un : Nat) (gd : Option (List Code)) (cn : Str) (cs : Scope) (a : Addr) (ccd : Value) (cl : List (Str × Addr)) (outer : List Env) (A₀ : Around) (base h₀ : Heap) (L : Addr) (m : Str → Option Value) (rest : List (Addr × Obj)) (s : Shared) (P : Value → Prop) (lt : Value → Value → Bool) (l : Addr) (n : Nat) (vs : List Value)
    (Q E : Value → Shared → Prop),
    Below A₀ base outer h₀ → Fr h₀ L s.heap m → (hd.heap_39 w.params).In h₀ → News h₀ L s.heap ((l, listOf vs.toArray n) :: rest) →
    Top hd.view_39 (looseW hd.view_39 [Str.ofString "nsmallest", Str.ofString "escape", Str.ofString "unescape"]) mean mg mb h₀ → cs.kind = .function →
    CmpSpec PySem.Challenge.rw_ij0043_01.row.prog w rest P lt → (∀ p ∈ rest, p.1 ≠ l) → (∀ v ∈ vs, P v) → vs.length ≤ 60 → dp + 6 < recursionLimit → un + 600 < cLine →
    (∀ h' tk', Fr h₀ L h' m → News h₀ L h' ((l, listOf vs.toArray n) :: rest) → Q (.bool (heapedB lt vs)) { s with heap := h', toks := tk' }) →
    wpAny (model PySem.Challenge.rw_ij0043_01.row.prog w) (ktrTop dp un gd cn cs L a ccd cl outer) (call (.ref 116) [.ref l]) Q E s := by
  w_top off
  k_fill
  intro dp un gd cn cs a ccd cl outer A₀ base h₀ L m rest s P lt l n vs Q E B F X N T hk hcmp hr hS h64 hdp hun hret
  refine wpAny_call ?_
  refine' code_defC (binds := [(Str.ofString "heap", .ref l)]) B F X N T rfl rfl hk ?k6 ?k7 ?k8 ?k9 ?kB ?kD ?_ ?c2 ?c3 ?c4
  case k6 => k_is
  case k7 => k_is
  case k8 => ktr_room
  case k9 => exact BindsTo.of_eq rfl
  case kB => exact rfl
  case kD => decide +kernel
  case c2 => exact rfl
  case c3 => exact rfl
  case c4 => exact rfl
  intro g' L' h' tk' cells' FG' F' N' Y' B' X' T' l1
  obtain ⟨o1, hE1, d1⟩ := CellsAre.one Y'
  subst hE1
  (try simp only [List.cons_append, List.nil_append] at N')
  (try dsimp only)
  show wpAny _ _ _ _ _ _
  k_fold
  k_with_none
  k_with "call builtin:len" => (k_here; (with_reducible show wpAny _ _ (call (Value.builtin "len") [Value.ref _]) _ _ _); k_dflt (refine g_len (by k_asm) (by k_mem) (by first | omega | (simp only [List.length_append, List.length_cons, List.length_nil, List.length_set, List.length_dropLast, List.size_toArray] at *; omega)) ?_; k_whole); intro _ _)
  k_with "subscriptTail" => (k_here; (with_reducible show wpAny _ _ (subscriptTail _ _ (Value.ref _) (Value.int _ _)) _ _ _); k_dflt (refine g_sub (by k_asm) (by k_mem) (by first | omega | (simp only [List.length_append, List.length_cons, List.length_nil, List.length_set, List.length_dropLast, List.size_toArray] at *; omega)) (by first | omega | (simp only [List.length_append, List.length_cons, List.length_nil, List.length_set, List.length_dropLast, List.size_toArray] at *; omega)) (by first | omega | (simp only [List.length_append, List.length_cons, List.length_nil, List.length_set, List.length_dropLast, List.size_toArray] at *; omega)) ?_ (by with_unfolding_all rfl); k_whole))
  k_with "binaryOp RShift int int" => (k_here; (refine g_shr1 (by first | omega | (simp only [List.length_append, List.length_cons, List.length_nil, List.length_set, List.length_dropLast, List.size_toArray] at *; omega)) ?_); intro _ _)
  k_with "setItem ref int" => (k_here; (try dsimp only); k_dflt (refine g_set (by k_asm) (by k_asm) (by exact Upd.head (by assumption)) (by first | omega | (simp only [List.length_append, List.length_cons, List.length_nil, List.length_set, List.length_dropLast, List.size_toArray] at *; omega)) (by first | omega | (simp only [List.length_append, List.length_cons, List.length_nil, List.length_set, List.length_dropLast, List.size_toArray] at *; omega)) (by first | omega | (simp only [List.length_append, List.length_cons, List.length_nil, List.length_set, List.length_dropLast, List.size_toArray] at *; omega)) ?_; k_whole); intro h9q F9q N9q; (try k_sweep))
  k_with "call builtin:list.append" => (k_here; (with_reducible show wpAny _ _ (call (Value.builtin _) [Value.ref _, _]) _ _ _); k_dflt (refine g_app (by k_asm) (by k_asm) (by exact Upd.head (by assumption)) (by first | omega | (simp only [List.length_append, List.length_cons, List.length_nil, List.length_set, List.length_dropLast, List.size_toArray] at *; omega)) ?_; k_whole); intro h9q F9q N9q; (try k_sweep))
  k_with "call builtin:list.pop" => (k_here; (with_reducible show wpAny _ _ (call (Value.builtin _) [Value.ref _]) _ _ _); k_dflt (refine g_pop (by k_asm) (by k_asm) (by exact Upd.head (by assumption)) (by first | omega | (simp only [List.length_append, List.length_cons, List.length_nil, List.length_set, List.length_dropLast, List.size_toArray] at *; omega)) (by first | omega | (simp only [List.length_append, List.length_cons, List.length_nil, List.length_set, List.length_dropLast, List.size_toArray] at *; omega)) ?_; k_whole); intro h9q F9q N9q; (try k_sweep))
  k_with "truthy ref" => (k_here; (with_reducible show wpAny _ _ (truthy (Value.ref _)) _ _ _); k_dflt (refine g_truthy (by k_asm) (by k_mem) (by first | omega | (simp only [List.length_append, List.length_cons, List.length_nil, List.length_set, List.length_dropLast, List.size_toArray] at *; omega)) ?_; k_whole); intro _)
  k_with "binaryOp FloorDiv int int" => (k_here; (refine g_fdiv2 ?_); intro _ _)
  k_with "compareOp Lt" => (
    rename News _ _ _ _ => lN
    refine hcmp _ _ _ _ _ _ (by first | assumption | exact p_getD (by assumption) (by omega)) (by first | assumption | exact p_getD (by assumption) (by omega)) (fun p hp => (lN p (by simp [hp])).1) (by ktr_units) ?_
    intro _)
  k_with "CompSrcT" => (
    rename Fr _ _ _ _ => lF
    rename News _ _ _ _ => lN
    rename IsRange _ _ _ _ _ _ _ _ => lR
    refine LCt.CompSrcT.range (n := ((vs.length : Int) - 1).toNat) (by rfl) lF lN lR (small_one (by omega) (by omega) (by omega) (by omega)) (rangeSize_nat _ _) (by rw [sizeLine_eq]; omega) ?_
    intro g
    refine' restT_inv _ (fun i ys news => news = ((L' + 1, o1) :: (l, listOf vs.toArray n) :: rest) ∧ ∃ ns, IntsAre ys ns ∧ decide (ns = []) = (List.range' 1 i).all fun k => !lt (vs.getD k .none) (vs.getD ((k - 1) / 2) .none)) ⟨rfl, [], .nil, rfl⟩ ?gstep ?gfin
    case' gstep =>
      intro i ys news hi hI v I oI C oC D m₂ h tk E' hP hC hx FF NN off ne
      obtain ⟨rfl, ns, hns, hall⟩ := hI
      obtain ⟨t9, rfl⟩ := hP
      (try dsimp only)
      (try k_fold)
    case' gfin =>
      intro ys news hI
      obtain ⟨rfl, ns, hns, hall⟩ := hI)
  k_with "CompEnd" => (
    rename Fr _ _ _ _ => lF
    rename News _ _ _ _ => lN
    have e1 : (1 + (i : Int)).toNat = i + 1 := by omega
    have e2 : ((1 + (i : Int) - 1) / 2).toNat = (i + 1 - 1) / 2 := by omega
    first
    | (rename lt _ _ = true => hlv
       rw [e1, e2] at hlv
       refine LCg.CompEnd.intro lF lN _ (fun _ h => h) off trivial ⟨rfl, ns ++ [1 + (i : Int)], ksk_snoc hns, ?_⟩
       rw [List.range'_concat, List.all_append, ← hall]
       simp [hlv, Nat.add_comm 1 i])
    | (rename lt _ _ = false => hlv
       rw [e1, e2] at hlv
       refine LCg.CompEnd.intro lF lN _ (fun _ h => h) off trivial ⟨rfl, ns, hns, ?_⟩
       rw [List.range'_concat, List.all_append, ← hall]
       simp [hlv, Nat.add_comm 1 i]))
  k_steps
  rename Fr _ _ _ _ => lF
  rename News _ _ _ _ => lN
  have en : ((vs.length : Int) - 1).toNat = vs.length - 1 := by omega
  have e : decide (ns = []) = heapedB lt vs := by rw [hall, en]; rfl
  rw [e]
  exact hret _ _ lF fun p hp => lN p (by first | exact hp | (simp only [List.mem_cons] at hp ⊢; rcases hp with hp | hp <;> first | with_reducible (first | exact Or.inl hp | exact hp | exact Or.inr (Or.inl hp) | exact Or.inr (hp) | exact Or.inr (Or.inr (Or.inl hp)) | exact Or.inr (Or.inr (hp)) | exact Or.inr (Or.inr (Or.inr (Or.inl hp))) | exact Or.inr (Or.inr (Or.inr (hp))) | exact Or.inr (Or.inr (Or.inr (Or.inr (Or.inl hp)))) | exact Or.inr (Or.inr (Or.inr (Or.inr (hp)))) | exact Or.inr (Or.inr (Or.inr (Or.inr (Or.inr (Or.inl hp))))) | exact Or.inr (Or.inr (Or.inr (Or.inr (Or.inr (hp))))) | exact Or.inr (Or.inr (Or.inr (Or.inr (Or.inr (Or.inr (Or.inl hp)))))) | exact Or.inr (Or.inr (Or.inr (Or.inr (Or.inr (Or.inr (hp)))))) | exact Or.inr (Or.inr (Or.inr (Or.inr (Or.inr (Or.inr (Or.inr (Or.inl hp))))))) | exact Or.inr (Or.inr (Or.inr (Or.inr (Or.inr (Or.inr (Or.inr (hp))))))) | exact Or.inr (Or.inr (Or.inr (Or.inr (Or.inr (Or.inr (Or.inr (Or.inr (Or.inl hp)))))))) | exact Or.inr (Or.inr (Or.inr (Or.inr (Or.inr (Or.inr (Or.inr (Or.inr (hp)))))))) | exact Or.inr (Or.inr (Or.inr (Or.inr (Or.inr (Or.inr (Or.inr (Or.inr (Or.inr (Or.inl hp))))))))) | exact Or.inr (Or.inr (Or.inr (Or.inr (Or.inr (Or.inr (Or.inr (Or.inr (Or.inr (hp))))))))) | exact Or.inl (Or.inr hp) | exact Or.inl (Or.inl hp) | exact Or.inl (Or.inl (Or.inr hp)) | exact Or.inl (Or.inl (Or.inl hp)) | exact Or.inl (Or.inr (Or.inl hp)) | exact Or.inr (Or.inl (Or.inr hp)) | exact Or.inr (Or.inl (Or.inl hp)) | exact Or.inr (Or.inl (Or.inl (Or.inr hp))) | exact Or.inr (Or.inl (Or.inl (Or.inl hp))) | exact Or.inr (Or.inl (Or.inr (Or.inl hp))) | exact Or.inr (Or.inr (Or.inl (Or.inr hp))) | exact Or.inr (Or.inr (Or.inl (Or.inl hp))) | exact Or.inr (Or.inr (Or.inl (Or.inl (Or.inr hp)))) | exact Or.inr (Or.inr (Or.inl (Or.inl (Or.inl hp)))) | exact Or.inr (Or.inr (Or.inl (Or.inr (Or.inl hp)))) | exact Or.inr (Or.inr (Or.inr (Or.inl (Or.inr hp)))) | exact Or.inr (Or.inr (Or.inr (Or.inl (Or.inl hp)))) | exact Or.inr (Or.inr (Or.inr (Or.inl (Or.inl (Or.inr hp))))) | exact Or.inr (Or.inr (Or.inr (Or.inl (Or.inl (Or.inl hp))))) | exact Or.inr (Or.inr (Or.inr (Or.inl (Or.inr (Or.inl hp))))) | exact Or.inr (Or.inr (Or.inr (Or.inr (Or.inl (Or.inr hp))))) | exact Or.inr (Or.inr (Or.inr (Or.inr (Or.inl (Or.inl hp))))) | exact Or.inr (Or.inr (Or.inr (Or.inr (Or.inl (Or.inl (Or.inr hp)))))) | exact Or.inr (Or.inr (Or.inr (Or.inr (Or.inl (Or.inl (Or.inl hp)))))) | exact Or.inr (Or.inr (Or.inr (Or.inr (Or.inl (Or.inr (Or.inl hp)))))) | exact Or.inr (Or.inr (Or.inr (Or.inr (Or.inr (Or.inl (Or.inr hp)))))) | exact Or.inr (Or.inr (Or.inr (Or.inr (Or.inr (Or.inl (Or.inl hp)))))) | exact Or.inr (Or.inr (Or.inr (Or.inr (Or.inr (Or.inl (Or.inl (Or.inr hp))))))) | exact Or.inr (Or.inr (Or.inr (Or.inr (Or.inr (Or.inl (Or.inl (Or.inl hp))))))) | exact Or.inr (Or.inr (Or.inr (Or.inr (Or.inr (Or.inl (Or.inr (Or.inl hp))))))) | exact Or.inr (Or.inr (Or.inr (Or.inr (Or.inr (Or.inr (Or.inl (Or.inr hp))))))) | exact Or.inr (Or.inr (Or.inr (Or.inr (Or.inr (Or.inr (Or.inl (Or.inl hp))))))) | exact Or.inr (Or.inr (Or.inr (Or.inr (Or.inr (Or.inr (Or.inl (Or.inl (Or.inr hp)))))))) | exact Or.inr (Or.inr (Or.inr (Or.inr (Or.inr (Or.inr (Or.inl (Or.inl (Or.inl hp)))))))) | exact Or.inr (Or.inr (Or.inr (Or.inr (Or.inr (Or.inr (Or.inl (Or.inr (Or.inl hp)))))))) | exact Or.inr (Or.inr (Or.inr (Or.inr (Or.inr (Or.inr (Or.inr (Or.inl (Or.inr hp)))))))) | exact Or.inr (Or.inr (Or.inr (Or.inr (Or.inr (Or.inr (Or.inr (Or.inl (Or.inl hp)))))))) | exact Or.inr (Or.inr (Or.inr (Or.inr (Or.inr (Or.inr (Or.inr (Or.inl (Or.inl (Or.inr hp))))))))) | exact Or.inr (Or.inr (Or.inr (Or.inr (Or.inr (Or.inr (Or.inr (Or.inl (Or.inl (Or.inl hp))))))))) | exact Or.inr (Or.inr (Or.inr (Or.inr (Or.inr (Or.inr (Or.inr (Or.inl (Or.inr (Or.inl hp)))))))))) | simp [hp]))
end
section
set_option maxRecDepth 100000
set_option maxHeartbeats 4000000
open PySem PySem.W PySem.Calls PyProof.Rows PyProof.Rows.LCg
section
variable {prog : Program} {w : World} {A : Around} {E : Value → Shared → Prop} {s : Shared} {h₀ : Heap} {L : Addr} {m : Str → Option Value} {env : Env}
noncomputable def CompSrcS (prog : Program) (w : World) (A : Around) (h₀ : Heap) (L : Addr) (m : Str → Option Value) (env : Env) (elt : Expr) (x : Str) (scope : Scope) (cl : List (Str × Addr)) (Fin : Shared → List Value → List (Addr × Obj) → Prop) (xv : Value) (s₁ : Shared) : Prop :=
  ∃ tx t news, xv = .str tx t ∧ A.handled = none ∧ Fr h₀ L s₁.heap m ∧ News h₀ L s₁.heap news ∧ tx.cps.size ≤ sizeLine ∧
    ∀ s₂ : Shared, (∃ h, s₂ = { s₁ with heap := h }) → CompRest prog w A h₀ L m env elt x scope cl s₂ (fun _ => True) (SignAt tx) (Fin s₂) tx.cps.size 0 [] news
theorem CompSrcS.intro {elt : Expr} {x : Str} {scope : Scope} {cl : List (Str × Addr)} {Fin : Shared → List Value → List (Addr × Obj) → Prop} {tx : Str} {t : Tok} {news : List (Addr × Obj)} {s₁ : Shared}
    (hh : A.handled = none) (F : Fr h₀ L s₁.heap m) (N : News h₀ L s₁.heap news) (hsz : tx.cps.size ≤ sizeLine)
    (h : ∀ g, CompRest prog w A h₀ L m env elt x scope cl { s₁ with heap := g } (fun _ => True) (SignAt tx) (Fin { s₁ with heap := g }) tx.cps.size 0 [] news) :
    CompSrcS prog w A h₀ L m env elt x scope cl Fin (.str tx t) s₁ := ⟨tx, t, news, rfl, hh, F, N, hsz, fun _ ⟨g, e⟩ => e ▸ h g⟩
theorem str_st {I : Addr} {cls : String} {x : Str} {t : Tok} : ∀ i (h h' : Heap) (o : Obj) (nw : List (Addr × Obj)), h.IsStrIter I cls x t i → h.get? I = some o → h'.get? I = some o → (∀ b o, h₀.get? b = some o → h'.get? b = some o) → News h₀ L h' nw → True → h'.IsStrIter I cls x t i :=
  fun i h h' o nw st e e' _ _ _ => by
    obtain ⟨o', q, r⟩ := st
    rw [e] at q; cases q
    exact ⟨o, e', r⟩
theorem ListComp_S {elt iter : Expr} {x : Str} {px : Pos} {scope : Scope} {cl : List (Str × Addr)} {pos : Pos} {Q : Value → Shared → Prop} (F₀ : Fr h₀ L s.heap m)
    (hclos : closureFor scope env = pure cl) (hcell : ∀ y ∈ scope.names, y.2 ≠ .cell) (hkind : scope.kind = .function)
    (hnames : ∀ y ∈ scope.names, y.2 = .local → scope.names.lookup y.1 = some .local) (hx : scope.names.lookup x = some .local)
    (h : wpAny (model prog w) A (eval iter env) (CompSrcS prog w A h₀ L m env elt x scope cl (fun s₂ => FinE h₀ L m s₂ Q)) E s)
    (hs : ∀ x, foldedSetIterable iter env x = pure x := by intro _; rfl) :
    wpAny (model prog w) A (eval (.ListComp elt [⟨.Name x px, iter, [], 0⟩] scope pos) env) Q E s := by
  rw [eval_ListComp]
  refine wpAny_comprehension_free (use := none) rfl hs hclos hkind hnames (wpAny_mono h (fun xv s₁ h₁ => ?_) fun _ _ e => e)
  obtain ⟨tx, t, news, rfl, hh, F, N, hsz, R⟩ := h₁
  cases ha : tx.cps.all (· < 128)
  · refine wpAny_pyIter_wide ha ?_
    refine block_U (Walks.strWide hh s₁.heap.objs.size tx t) hsz (fun i h st => by obtain ⟨o, e, _⟩ := st; exact ⟨o, e⟩) str_st hcell hkind hx ⟨_, Heap.get?_push_size _ rfl, rfl, rfl⟩ (fun b hb => ?_)
      (F.keeps fun _ _ e => Heap.get?_push_of_some _ e) (N.grown fun _ _ e => Heap.get?_push_of_some _ e) (Nat.ne_of_lt F.ns.lt) (next_is_new F) (fun p hp => Nat.ne_of_lt (Heap.lt_size (N p hp).1)) trivial (R _ ⟨_, rfl⟩) ?_
    · rw [List.mem_singleton.mp hb]
      show s₁.heap.objs.size < (s₁.heap.push _).objs.size
      rw [Heap.size_push]; exact Nat.lt_succ_self _
    · intro D C h tk m' ys news' F' N' o1 hn hC₀ hD₀ hCL hDL hCD offC fin
      refine ⟨m', hn, fun h'' hs'' => fin D h'' tk (F'.change hs'' hCL hC₀) (fun p hp => ?_) o1⟩
      refine ⟨hs''.extBut _ _ ?_ (N' p hp).1, (N' p hp).2⟩
      rcases List.mem_cons.mp hp with rfl | hp
      · exact Ne.symm hCD
      · exact offC p hp
  · refine wpAny_pyIter_ascii ha ?_
    refine block_U (Walks.strAscii hh s₁.heap.objs.size tx t) hsz (fun i h st => by obtain ⟨o, e, _⟩ := st; exact ⟨o, e⟩) str_st hcell hkind hx ⟨_, Heap.get?_push_size _ rfl, rfl, rfl⟩ (fun b hb => ?_)
      (F.keeps fun _ _ e => Heap.get?_push_of_some _ e) (N.grown fun _ _ e => Heap.get?_push_of_some _ e) (Nat.ne_of_lt F.ns.lt) (next_is_new F) (fun p hp => Nat.ne_of_lt (Heap.lt_size (N p hp).1)) trivial (R _ ⟨_, rfl⟩) ?_
    · rw [List.mem_singleton.mp hb]
      show s₁.heap.objs.size < (s₁.heap.push _).objs.size
      rw [Heap.size_push]; exact Nat.lt_succ_self _
    · intro D C h tk m' ys news' F' N' o1 hn hC₀ hD₀ hCL hDL hCD offC fin
      refine ⟨m', hn, fun h'' hs'' => fin D h'' tk (F'.change hs'' hCL hC₀) (fun p hp => ?_) o1⟩
      refine ⟨hs''.extBut _ _ ?_ (N' p hp).1, (N' p hp).2⟩
      rcases List.mem_cons.mp hp with rfl | hp
      · exact Ne.symm hCD
      · exact offC p hp
end
end
section
set_option maxRecDepth 100000
set_option maxHeartbeats 4000000
open PySem PySem.W PySem.Calls PyProof.Rows
open PyProof.Rows.LCg
noncomputable def rk (c : Nat) : Nat × Nat := if c = 38 then (38, 0) else if c = 62 then (38, 1) else if c = 60 then (38, 2) else (c, 0)
noncomputable abbrev tupI (a b : Int) (t u : Tok) : Obj := seqObj "tuple" #[.int a t, .int b u] 0
inductive RankL (news : List (Addr × Obj)) : List Nat → List Value → Prop
  | nil : RankL news [] []
  | snoc {cs : List Nat} {ys : List Value} {c : Nat} {a : Addr} {t u : Tok} : RankL news cs ys → (a, tupI (rk c).1 (rk c).2 t u) ∈ news → RankL news (cs ++ [c]) (ys ++ [.ref a])
theorem RankL.more {n₁ n₂ : List (Addr × Obj)} (h : ∀ p ∈ n₁, p ∈ n₂) {cs : List Nat} {ys : List Value} (r : RankL n₁ cs ys) : RankL n₂ cs ys := by
  induction r with
  | nil => exact .nil
  | snoc _ m ih => exact .snoc ih (h _ m)
theorem rank_get {r1 r2 r3 dd : Value} {t1 t2 t3 : Tok} (c : Nat) : (valueAt (strPairs [(.str (Str.ofString "&") t1, r1), (.str (Str.ofString ">") t2, r2), (.str (Str.ofString "<") t3, r3)]) (⟨#[c]⟩ : Str)).getD dd = if c = 38 then r1 else if c = 62 then r2 else if c = 60 then r3 else dd := by
  have e1 : (Str.ofString "&" = (⟨#[c]⟩ : Str)) ↔ c = 38 := by
    rw [show Str.ofString "&" = ⟨#[38]⟩ by rfl, Str.mk.injEq]; simp [eq_comm]
  have e2 : (Str.ofString ">" = (⟨#[c]⟩ : Str)) ↔ c = 62 := by
    rw [show Str.ofString ">" = ⟨#[62]⟩ by rfl, Str.mk.injEq]; simp [eq_comm]
  have e3 : (Str.ofString "<" = (⟨#[c]⟩ : Str)) ↔ c = 60 := by
    rw [show Str.ofString "<" = ⟨#[60]⟩ by rfl, Str.mk.injEq]; simp [eq_comm]
  simp only [strPairs, valueAt, List.find?_cons, List.find?_nil]
  by_cases h1 : c = 38
  · rw [if_pos h1, decide_eq_true (e1.mpr h1)]; rfl
  · rw [if_neg h1, decide_eq_false (fun q => h1 (e1.mp q))]
    by_cases h2 : c = 62
    · rw [if_pos h2, decide_eq_true (e2.mpr h2)]; rfl
    · rw [if_neg h2, decide_eq_false (fun q => h2 (e2.mp q))]
      by_cases h3 : c = 60
      · rw [if_pos h3, decide_eq_true (e3.mpr h3)]; rfl
      · rw [if_neg h3, decide_eq_false (fun q => h3 (e3.mp q))]; rfl
theorem rank_get2 {w : World} {A : Around} {E : Value → Shared → Prop} {s : Shared} {h₀ : Heap} {L d : Addr} {news : List (Addr × Obj)} {o : Obj} {r1 r2 r3 dd : Value} {t1 t2 t3 u : Tok} {c : Nat} {Q : Value → Shared → Prop} (N : News h₀ L s.heap news) (hp : (d, o) ∈ news)
    (hd : o.IsDictOf (PySem.strKind PySem.Challenge.rw_ij0043_01.row.prog w) (strPairs [(.str (Str.ofString "&") t1, r1), (.str (Str.ofString ">") t2, r2), (.str (Str.ofString "<") t3, r3)])) (lo : (d == sysModules) = false)
    (h1 : c = 38 → Q r1 { s with toks := s.toks + 1 }) (h2 : c = 62 → Q r2 { s with toks := s.toks + 1 }) (h3 : c = 60 → Q r3 { s with toks := s.toks + 1 }) (h4 : (c ≠ 38 ∧ c ≠ 62 ∧ c ≠ 60) → Q dd { s with toks := s.toks + 1 }) :
    wpAny (model PySem.Challenge.rw_ij0043_01.row.prog w) A (call (.builtin "dict.get") [.ref d, .str ⟨#[c]⟩ u, dd]) Q E s := by
  refine kdg_get2 (knd := PySem.strKind _ _) N hp hd lo (strKind_is _ _ _ _) _ rfl ?_
  rw [rank_get]
  by_cases q1 : c = 38
  · rw [if_pos q1]; exact h1 q1
  · rw [if_neg q1]
    by_cases q2 : c = 62
    · rw [if_pos q2]; exact h2 q2
    · rw [if_neg q2]
      by_cases q3 : c = 60
      · rw [if_pos q3]; exact h3 q3
      · rw [if_neg q3]; exact h4 ⟨q1, q2, q3⟩
theorem rank_end {h₀ : Heap} {L I C D : Addr} {m : Str → Option Value} {s₁ : Shared} {oI oC oD : Obj} {S : List (Addr × Obj) → Prop} {rest : Value → List (Addr × Obj) → Prop} {y : Value} {h' : Heap} {tk : Nat} {t4 t3 t2 t1 dd : Addr × Obj} {news : List (Addr × Obj)}
    (F : Fr h₀ L h' m) (N : News h₀ L h' (t4 :: t3 :: t2 :: t1 :: dd :: (I, oI) :: (C, oC) :: (D, oD) :: news)) (off : Off3 I C D (t4 :: t3 :: t2 :: t1 :: news)) (hS : S (t4 :: t3 :: t2 :: t1 :: news)) (r : rest y (t4 :: t3 :: t2 :: t1 :: news)) :
    CompEnd h₀ L m s₁ I oI C oC D oD S rest y { s₁ with heap := h', toks := tk } :=
  CompEnd.intro F N _ (fun p hp => by
    simp only [List.mem_cons] at hp ⊢
    rcases hp with hp | hp | hp | hp | hp | hp | hp | hp <;> first | with_reducible (first | exact Or.inl hp | exact hp | exact Or.inr (Or.inl hp) | exact Or.inr (hp) | exact Or.inr (Or.inr (Or.inl hp)) | exact Or.inr (Or.inr (hp)) | exact Or.inr (Or.inr (Or.inr (Or.inl hp))) | exact Or.inr (Or.inr (Or.inr (hp))) | exact Or.inr (Or.inr (Or.inr (Or.inr (Or.inl hp)))) | exact Or.inr (Or.inr (Or.inr (Or.inr (hp)))) | exact Or.inr (Or.inr (Or.inr (Or.inr (Or.inr (Or.inl hp))))) | exact Or.inr (Or.inr (Or.inr (Or.inr (Or.inr (hp))))) | exact Or.inr (Or.inr (Or.inr (Or.inr (Or.inr (Or.inr (Or.inl hp)))))) | exact Or.inr (Or.inr (Or.inr (Or.inr (Or.inr (Or.inr (hp)))))) | exact Or.inr (Or.inr (Or.inr (Or.inr (Or.inr (Or.inr (Or.inr (Or.inl hp))))))) | exact Or.inr (Or.inr (Or.inr (Or.inr (Or.inr (Or.inr (Or.inr (hp))))))) | exact Or.inr (Or.inr (Or.inr (Or.inr (Or.inr (Or.inr (Or.inr (Or.inr (Or.inl hp)))))))) | exact Or.inr (Or.inr (Or.inr (Or.inr (Or.inr (Or.inr (Or.inr (Or.inr (hp)))))))) | exact Or.inr (Or.inr (Or.inr (Or.inr (Or.inr (Or.inr (Or.inr (Or.inr (Or.inr (Or.inl hp))))))))) | exact Or.inr (Or.inr (Or.inr (Or.inr (Or.inr (Or.inr (Or.inr (Or.inr (Or.inr (hp))))))))) | exact Or.inl (Or.inr hp) | exact Or.inl (Or.inl hp) | exact Or.inl (Or.inl (Or.inr hp)) | exact Or.inl (Or.inl (Or.inl hp)) | exact Or.inl (Or.inr (Or.inl hp)) | exact Or.inr (Or.inl (Or.inr hp)) | exact Or.inr (Or.inl (Or.inl hp)) | exact Or.inr (Or.inl (Or.inl (Or.inr hp))) | exact Or.inr (Or.inl (Or.inl (Or.inl hp))) | exact Or.inr (Or.inl (Or.inr (Or.inl hp))) | exact Or.inr (Or.inr (Or.inl (Or.inr hp))) | exact Or.inr (Or.inr (Or.inl (Or.inl hp))) | exact Or.inr (Or.inr (Or.inl (Or.inl (Or.inr hp)))) | exact Or.inr (Or.inr (Or.inl (Or.inl (Or.inl hp)))) | exact Or.inr (Or.inr (Or.inl (Or.inr (Or.inl hp)))) | exact Or.inr (Or.inr (Or.inr (Or.inl (Or.inr hp)))) | exact Or.inr (Or.inr (Or.inr (Or.inl (Or.inl hp)))) | exact Or.inr (Or.inr (Or.inr (Or.inl (Or.inl (Or.inr hp))))) | exact Or.inr (Or.inr (Or.inr (Or.inl (Or.inl (Or.inl hp))))) | exact Or.inr (Or.inr (Or.inr (Or.inl (Or.inr (Or.inl hp))))) | exact Or.inr (Or.inr (Or.inr (Or.inr (Or.inl (Or.inr hp))))) | exact Or.inr (Or.inr (Or.inr (Or.inr (Or.inl (Or.inl hp))))) | exact Or.inr (Or.inr (Or.inr (Or.inr (Or.inl (Or.inl (Or.inr hp)))))) | exact Or.inr (Or.inr (Or.inr (Or.inr (Or.inl (Or.inl (Or.inl hp)))))) | exact Or.inr (Or.inr (Or.inr (Or.inr (Or.inl (Or.inr (Or.inl hp)))))) | exact Or.inr (Or.inr (Or.inr (Or.inr (Or.inr (Or.inl (Or.inr hp)))))) | exact Or.inr (Or.inr (Or.inr (Or.inr (Or.inr (Or.inl (Or.inl hp)))))) | exact Or.inr (Or.inr (Or.inr (Or.inr (Or.inr (Or.inl (Or.inl (Or.inr hp))))))) | exact Or.inr (Or.inr (Or.inr (Or.inr (Or.inr (Or.inl (Or.inl (Or.inl hp))))))) | exact Or.inr (Or.inr (Or.inr (Or.inr (Or.inr (Or.inl (Or.inr (Or.inl hp))))))) | exact Or.inr (Or.inr (Or.inr (Or.inr (Or.inr (Or.inr (Or.inl (Or.inr hp))))))) | exact Or.inr (Or.inr (Or.inr (Or.inr (Or.inr (Or.inr (Or.inl (Or.inl hp))))))) | exact Or.inr (Or.inr (Or.inr (Or.inr (Or.inr (Or.inr (Or.inl (Or.inl (Or.inr hp)))))))) | exact Or.inr (Or.inr (Or.inr (Or.inr (Or.inr (Or.inr (Or.inl (Or.inl (Or.inl hp)))))))) | exact Or.inr (Or.inr (Or.inr (Or.inr (Or.inr (Or.inr (Or.inl (Or.inr (Or.inl hp)))))))) | exact Or.inr (Or.inr (Or.inr (Or.inr (Or.inr (Or.inr (Or.inr (Or.inl (Or.inr hp)))))))) | exact Or.inr (Or.inr (Or.inr (Or.inr (Or.inr (Or.inr (Or.inr (Or.inl (Or.inl hp)))))))) | exact Or.inr (Or.inr (Or.inr (Or.inr (Or.inr (Or.inr (Or.inr (Or.inl (Or.inl (Or.inr hp))))))))) | exact Or.inr (Or.inr (Or.inr (Or.inr (Or.inr (Or.inr (Or.inr (Or.inl (Or.inl (Or.inl hp))))))))) | exact Or.inr (Or.inr (Or.inr (Or.inr (Or.inr (Or.inr (Or.inr (Or.inl (Or.inr (Or.inl hp)))))))))) | simp [hp]) off hS r
theorem c_rank {w : World} {mean : ExcName → Option Value} {mg mb : Str → Option Value} :
   ∀ (dp un : Nat) (gd : Option (List Code)) (cn : Str) (cs : Scope) (a : Addr) (ccd : Value) (cl : List (Str × Addr)) (outer : List Env) (A₀ : Around) (base h₀ : Heap) (L : Addr) (m : Str → Option Value) (rest : List (Addr × Obj)) (s : Shared) (x : Str) (t : Tok)
    (Q E : Value → Shared → Prop),
    Below A₀ base outer h₀ → Fr h₀ L s.heap m → (hd.heap_39 w.params).In h₀ → News h₀ L s.heap (rest) →
    Top hd.view_39 (looseW hd.view_39 [Str.ofString "nsmallest", Str.ofString "escape", Str.ofString "unescape"]) mean mg mb h₀ → cs.kind = .function →
    x.length ≤ 1000 → dp + 6 < recursionLimit → un + 600 < cLine →
    (∀ h' tk' (D : Addr) (ys : List Value) (news9 : List (Addr × Obj)), Fr h₀ L h' m → News h₀ L h' ((D, lst ys) :: news9) → (∀ p ∈ rest, p ∈ news9) → Off1 D news9 → RankL news9 x.cps.toList ys → Q (.ref D) { s with heap := h', toks := tk' }) →
    wpAny (model PySem.Challenge.rw_ij0043_01.row.prog w) (ktrTop dp un gd cn cs L a ccd cl outer) (call (.ref 111) [.str x t]) Q E s := by
  w_top off
  k_fill
  intro dp un gd cn cs a ccd cl outer A₀ base h₀ L m rest s x t Q E B F X N T hk hx hdp hun hret
  refine wpAny_call ?_
  refine' code_def (binds := [(Str.ofString "text", .str x t)]) B F X N T rfl rfl hk ?k6 ?k7 ?k8 ?k9 ?kB ?_ ?c2 ?c3 ?c4 ?c5
  case k6 => k_is
  case k7 => k_is
  case k8 => ktr_room
  case k9 => exact BindsTo.of_eq rfl
  case kB => exact locs rfl
  case c2 => exact rfl
  case c3 => exact rfl
  case c4 => exact rfl
  case c5 => decide
  intro g' L' h' FG' F' N' B' X' T'
  (try dsimp only)
  k_fold
  k_with_none
  k_with "call builtin:len" => (k_here; (with_reducible show wpAny _ _ (call (Value.builtin "len") [Value.ref _]) _ _ _); k_dflt (refine g_len (by k_asm) (by k_mem) (by first | omega | (simp only [List.length_append, List.length_cons, List.length_nil, List.length_set, List.length_dropLast, List.size_toArray] at *; omega)) ?_; k_whole); intro _ _)
  k_with "subscriptTail" => (k_here; (with_reducible show wpAny _ _ (subscriptTail _ _ (Value.ref _) (Value.int _ _)) _ _ _); k_dflt (refine g_sub (by k_asm) (by k_mem) (by first | omega | (simp only [List.length_append, List.length_cons, List.length_nil, List.length_set, List.length_dropLast, List.size_toArray] at *; omega)) (by first | omega | (simp only [List.length_append, List.length_cons, List.length_nil, List.length_set, List.length_dropLast, List.size_toArray] at *; omega)) (by first | omega | (simp only [List.length_append, List.length_cons, List.length_nil, List.length_set, List.length_dropLast, List.size_toArray] at *; omega)) ?_ (by with_unfolding_all rfl); k_whole))
  k_with "binaryOp RShift int int" => (k_here; (refine g_shr1 (by first | omega | (simp only [List.length_append, List.length_cons, List.length_nil, List.length_set, List.length_dropLast, List.size_toArray] at *; omega)) ?_); intro _ _)
  k_with "setItem ref int" => (k_here; (try dsimp only); k_dflt (refine g_set (by k_asm) (by k_asm) (by exact Upd.head (by assumption)) (by first | omega | (simp only [List.length_append, List.length_cons, List.length_nil, List.length_set, List.length_dropLast, List.size_toArray] at *; omega)) (by first | omega | (simp only [List.length_append, List.length_cons, List.length_nil, List.length_set, List.length_dropLast, List.size_toArray] at *; omega)) (by first | omega | (simp only [List.length_append, List.length_cons, List.length_nil, List.length_set, List.length_dropLast, List.size_toArray] at *; omega)) ?_; k_whole); intro h9q F9q N9q; (try k_sweep))
  k_with "call builtin:list.append" => (k_here; (with_reducible show wpAny _ _ (call (Value.builtin _) [Value.ref _, _]) _ _ _); k_dflt (refine g_app (by k_asm) (by k_asm) (by exact Upd.head (by assumption)) (by first | omega | (simp only [List.length_append, List.length_cons, List.length_nil, List.length_set, List.length_dropLast, List.size_toArray] at *; omega)) ?_; k_whole); intro h9q F9q N9q; (try k_sweep))
  k_with "call builtin:list.pop" => (k_here; (with_reducible show wpAny _ _ (call (Value.builtin _) [Value.ref _]) _ _ _); k_dflt (refine g_pop (by k_asm) (by k_asm) (by exact Upd.head (by assumption)) (by first | omega | (simp only [List.length_append, List.length_cons, List.length_nil, List.length_set, List.length_dropLast, List.size_toArray] at *; omega)) (by first | omega | (simp only [List.length_append, List.length_cons, List.length_nil, List.length_set, List.length_dropLast, List.size_toArray] at *; omega)) ?_; k_whole); intro h9q F9q N9q; (try k_sweep))
  k_with "truthy ref" => (k_here; (with_reducible show wpAny _ _ (truthy (Value.ref _)) _ _ _); k_dflt (refine g_truthy (by k_asm) (by k_mem) (by first | omega | (simp only [List.length_append, List.length_cons, List.length_nil, List.length_set, List.length_dropLast, List.size_toArray] at *; omega)) ?_; k_whole); intro _)
  k_with "exec For Name Name cons nil" => (k_here; (rename Fr _ _ _ _ => lF'); k_dflt (with_unfolding_all refine For_invVF lF' (by exact rfl) (by exact rfl) ?_; k_whole))
  k_with "eval ListComp" => (k_here; k_dflt (refine ListComp_S (F₀ := by k_asm) (by with_unfolding_all rfl) (by decide) (by rfl) (by decide) (by rfl) ?_))
  k_with "eval Dict" => (k_here; k_dflt (refine' kdn_str ?q ?F ?N ?b ?a ?l ?e ?n ?_; (case q => rfl); (case F => k_asm); (case N => first | k_asm | exact News.nil); (case b => exact Top.nolimit (by k_asm)); (case a => rfl); (case l => rfl); (case e => exact List.cons_ne_nil _ _); (case n => exact Nat.le_of_ble_eq_true rfl)); intro d' h9q o' F9q N9q l1 lo' hd'; (try k_lt l1))
  k_with "CompSrcS" => (
    rename Fr _ _ _ _ => lF
    rename News _ _ _ _ => lN
    refine CompSrcS.intro (by rfl) lF lN (by rw [sizeLine_eq]; simp only [Str.length] at hx; omega) ?_
    intro g
    refine' restU_inv _ (fun i ys news => (∀ p ∈ rest, p ∈ news) ∧ RankL news (x.cps.toList.take i) ys) ⟨fun p hp => hp, .nil⟩ ?gstep ?gfin
    case' gstep =>
      intro i ys news hi hI v I oI C oC D m₂ h tk E' hP hC hx2 FF NN off ne
      obtain ⟨hr9, hRk⟩ := hI
      obtain ⟨c, uc, hc, rfl⟩ := hP
      (try dsimp only)
      (try k_fold)
    case' gfin =>
      intro ys news hI
      obtain ⟨hr9, hRk⟩ := hI)
  k_with "call builtin:dict.get" => (
    refine' rank_get2 (by k_asm) (by k_mem) (by k_asm) (by k_asm) ?_ ?_ ?_ ?_
    all_goals intro hcc)
  k_with "CompEnd" => (
    rename Fr _ _ _ _ => lF
    rename News _ _ _ _ => lN
    have etk : x.cps.toList.take (i + 1) = x.cps.toList.take i ++ [c] := by
      have e1 : x.cps.toList[i]? = some c := by simpa using hc
      rw [List.take_add_one, e1]; rfl
    refine rank_end lF lN ?_ trivial ⟨fun p hp => List.mem_cons_of_mem _ (List.mem_cons_of_mem _ (List.mem_cons_of_mem _ (List.mem_cons_of_mem _ (hr9 p hp)))), ?_⟩
    · exact ⟨⟨by omega, by omega, by omega⟩, ⟨by omega, by omega, by omega⟩, ⟨by omega, by omega, by omega⟩, ⟨by omega, by omega, by omega⟩, off⟩
    · rw [etk]
      exact RankL.snoc (hRk.more fun p hp => List.mem_cons_of_mem _ (List.mem_cons_of_mem _ (List.mem_cons_of_mem _ (List.mem_cons_of_mem _ hp)))) (by
        first
        | (rw [hcc]; first | exact .head _ | exact .tail _ (.head _) | exact .tail _ (.tail _ (.head _)) | exact .tail _ (.tail _ (.tail _ (.head _))))
        | (rw [rk, if_neg hcc.1, if_neg hcc.2.1, if_neg hcc.2.2]; exact .head _)))
  k_steps
  rename Fr _ _ _ _ => lF
  rename News _ _ _ _ => lN
  rename Off1 _ _ => lO
  have etk : x.cps.toList.take x.cps.size = x.cps.toList := List.take_of_length_le (by rw [Array.length_toList]; exact Nat.le_refl _)
  rw [etk] at hRk
  exact hret _ _ _ _ _ lF lN hr9 lO hRk
end
section
set_option maxRecDepth 100000
set_option maxHeartbeats 4000000
open PySem PySem.W PySem.Calls PyProof.Rows
noncomputable def pLt (p q : Nat × Nat) : Bool := if p.1 = q.1 then decide (p.2 < q.2) else decide (p.1 < q.1)
noncomputable def rankLt : List Nat → List Nat → Bool
  | [], [] => false
  | [], _ :: _ => true
  | _ :: _, [] => false
  | a :: x, b :: y => if rk a = rk b then rankLt x y else pLt (rk a) (rk b)
theorem rk_cases (c : Nat) : (c = 38 ∧ rk c = (38, 0) ∧ enc c = [38, 97, 109, 112, 59]) ∨ (c = 62 ∧ rk c = (38, 1) ∧ enc c = [38, 103, 116, 59]) ∨ (c = 60 ∧ rk c = (38, 2) ∧ enc c = [38, 108, 116, 59]) ∨ (c ≠ 38 ∧ c ≠ 62 ∧ c ≠ 60 ∧ rk c = (c, 0) ∧ enc c = [c]) := by
  unfold rk enc
  by_cases h1 : c = 38
  · subst h1; left; exact ⟨rfl, rfl, rfl⟩
  · by_cases h2 : c = 62
    · subst h2; right; left; exact ⟨rfl, rfl, rfl⟩
    · by_cases h3 : c = 60
      · subst h3; right; right; left; exact ⟨rfl, rfl, rfl⟩
      · right; right; right
        rw [if_neg h1, if_neg h1, if_neg h2, if_neg h2, if_neg h3, if_neg h3]
        exact ⟨h1, h2, h3, rfl, rfl⟩
theorem rk_inj {a b : Nat} (h : rk a = rk b) : a = b := by
  rcases rk_cases a with ⟨ha, ra, _⟩ | ⟨ha, ra, _⟩ | ⟨ha, ra, _⟩ | ⟨a1, a2, a3, ra, _⟩ <;> rcases rk_cases b with ⟨hb, rb, _⟩ | ⟨hb, rb, _⟩ | ⟨hb, rb, _⟩ | ⟨b1, b2, b3, rb, _⟩ <;>
    (rw [ra, rb] at h; simp only [Prod.mk.injEq] at h; omega)
theorem app_lt (p s t : List Nat) : (p ++ s < p ++ t) ↔ s < t := by
  induction p with
  | nil => rfl
  | cons a p ih => rw [List.cons_append, List.cons_append, List.cons_lt_cons_iff]; simp [ih]
theorem enc_lt {a b : Nat} (h : rk a ≠ rk b) (s t : List Nat) : decide (enc a ++ s < enc b ++ t) = pLt (rk a) (rk b) := by
  unfold pLt
  rcases rk_cases a with ⟨ha, ra, ea⟩ | ⟨ha, ra, ea⟩ | ⟨ha, ra, ea⟩ | ⟨a1, a2, a3, ra, ea⟩ <;> rcases rk_cases b with ⟨hb, rb, eb⟩ | ⟨hb, rb, eb⟩ | ⟨hb, rb, eb⟩ | ⟨b1, b2, b3, rb, eb⟩ <;>
    rw [ra, rb] at h ⊢ <;> rw [ea, eb] <;> simp only [List.cons_append, List.nil_append, List.cons_lt_cons_iff] <;> (try (exact absurd rfl h)) <;> (try (simp; done))
  · have : (38 : Nat) ≠ b := fun e => b1 e.symm
    simp [this]
  · have : (38 : Nat) ≠ b := fun e => b1 e.symm
    simp [this]
  · have : (38 : Nat) ≠ b := fun e => b1 e.symm
    simp [this]
  · simp [a1]
  · simp [a1]
  · simp [a1]
  · have : a ≠ b := fun e => h (by rw [e])
    simp [this]
theorem enc_ne (c : Nat) : ∃ d l, enc c = d :: l := by
  rcases rk_cases c with ⟨_, _, e⟩ | ⟨_, _, e⟩ | ⟨_, _, e⟩ | ⟨_, _, _, _, e⟩ <;> exact ⟨_, _, e⟩
theorem rank_enc : ∀ (x y : List Nat), rankLt x y = decide (x.flatMap enc < y.flatMap enc)
  | [], [] => by simp [rankLt]
  | [], b :: y => by
    obtain ⟨d, l, e⟩ := enc_ne b
    simp [rankLt, List.flatMap_cons, e]
  | a :: x, [] => by simp [rankLt]
  | a :: x, b :: y => by
    rw [rankLt, List.flatMap_cons, List.flatMap_cons]
    by_cases h : rk a = rk b
    · rw [if_pos h, rank_enc x y]
      have := rk_inj h
      subst this
      exact decide_eq_decide.mpr (app_lt _ _ _).symm
    · rw [if_neg h, enc_lt h]
noncomputable def rankV (a b : Value) : Bool := rankLt (strOf a).cps.toList (strOf b).cps.toList
theorem rankV_eq (a b : Value) : rankV a b = slt (esc (strOf a)) (esc (strOf b)) := by
  unfold rankV slt
  rw [rank_enc, esc_eq, esc_eq]
noncomputable def escV (a b : Value) : Bool := slt (esc (strOf a)) (esc (strOf b))
theorem tpo_escV : TPO escV where
  asymm a b h := tpo_ltV.asymm (.str (esc (strOf a)) 0) (.str (esc (strOf b)) 0) h
  trans a b c h1 h2 := tpo_ltV.trans (.str (esc (strOf a)) 0) (.str (esc (strOf b)) 0) (.str (esc (strOf c)) 0) h1 h2
theorem rankV_escV : rankV = escV := by funext a b; exact rankV_eq a b
theorem esc_inj {x y : Str} (h : esc x = esc y) : x = y := by
  have := congrArg unesc h
  rwa [unesc_esc, unesc_esc] at this
theorem slt_tri {x y : Str} (h1 : slt x y = false) (h2 : slt y x = false) : x = y := by
  unfold slt at h1 h2
  simp only [decide_eq_false_iff_not] at h1 h2
  have := List.le_antisymm (List.not_lt.mp h2) (List.not_lt.mp h1)
  apply PySem.Str.ext'
  exact Array.toList_inj.mp this
/-- two sorted lists of the same texts are the same list -/
theorem sorted_uniq : ∀ {xs ys : List Str}, xs.Perm ys → xs.Pairwise (fun a b => slt (esc b) (esc a) = false) → ys.Pairwise (fun a b => slt (esc b) (esc a) = false) → xs = ys := by
  intro xs
  induction xs with
  | nil => intro ys hp _ _; exact hp.nil_eq
  | cons x xs ih =>
    intro ys hp h1 h2
    cases ys with
    | nil => exact absurd hp.length_eq (by simp)
    | cons y ys =>
      rw [List.pairwise_cons] at h1 h2
      have e : x = y := by
        have hx : x ∈ y :: ys := hp.mem_iff.mp (List.mem_cons_self ..)
        have hy : y ∈ x :: xs := hp.mem_iff.mpr (List.mem_cons_self ..)
        rcases List.mem_cons.mp hx with e | hx
        · exact e
        · rcases List.mem_cons.mp hy with e | hy
          · exact e.symm
          · exact esc_inj (slt_tri (h2.1 x hx) (h1.1 y hy))
      subst e
      rw [ih (List.Perm.cons_inv hp) h1.2 h2.2]
end
section
set_option maxRecDepth 100000
set_option maxHeartbeats 4000000
open PySem PySem.W PySem.Calls PyProof.Rows
theorem c_popped {w : World} {mean : ExcName → Option Value} {mg mb : Str → Option Value} :
   ∀ (dp un : Nat) (gd : Option (List Code)) (cn : Str) (cs : Scope) (a : Addr) (ccd : Value) (cl : List (Str × Addr)) (outer : List Env) (A₀ : Around) (base h₀ : Heap) (L : Addr) (m : Str → Option Value) (rest : List (Addr × Obj)) (s : Shared) (tl : Addr) (n0 : Nat) (ts : List Value)
    (Q E : Value → Shared → Prop),
    Below A₀ base outer h₀ → Fr h₀ L s.heap m → (hd.heap_39 w.params).In h₀ → News h₀ L s.heap ((tl, listOf ts.toArray n0) :: rest) →
    Top hd.view_39 (looseW hd.view_39 [Str.ofString "nsmallest", Str.ofString "escape", Str.ofString "unescape"]) mean mg mb h₀ → cs.kind = .function →
    (∀ p ∈ rest, p.1 ≠ tl) → (∀ v ∈ ts, IsS v) → (∀ v ∈ ts, (strOf v).length ≤ 100) → ts.length ≤ 50 → dp + 12 < recursionLimit → un + 1200 < cLine →
    (∀ h' tk' (D : Addr) (ys : List Value) (k9 : Nat), Fr h₀ L h' m → News h₀ L h' ((D, listOf ys.toArray k9) :: (tl, listOf ts.toArray n0) :: rest) → (∀ p ∈ ((tl, listOf ts.toArray n0) :: rest : List (Addr × Obj)), p.1 < D) → (∀ v ∈ ys, IsS v) → (ys.map strOf).Perm (ts.map strOf) → (ys.map strOf).Pairwise (fun a b => slt (esc b) (esc a) = false) → Q (.ref D) { s with heap := h', toks := tk' }) →
    wpAny (model PySem.Challenge.rw_ij0043_01.row.prog w) (ktrTop dp un gd cn cs L a ccd cl outer) (call (.ref 123) [.ref tl]) Q E s := by
  w_top off
  k_fill
  intro dp un gd cn cs a ccd cl outer A₀ base h₀ L m rest s tl n0 ts Q E B F X N T hk hr hS hL h60 hdp hun hret
  refine wpAny_call ?_
  refine' code_def (binds := [(Str.ofString "texts", .ref tl)]) B F X N T rfl rfl hk ?k6 ?k7 ?k8 ?k9 ?kB ?_ ?c2 ?c3 ?c4 ?c5
  case k6 => k_is
  case k7 => k_is
  case k8 => ktr_room
  case k9 => exact BindsTo.of_eq rfl
  case kB => exact locs rfl
  case c2 => exact rfl
  case c3 => exact rfl
  case c4 => exact rfl
  case c5 => decide
  intro g' L' h' FG' F' N' B' X' T'
  (try dsimp only)
  k_fold
  k_with_none
  k_with "call builtin:len" => (k_here; (with_reducible show wpAny _ _ (call (Value.builtin "len") [Value.ref _]) _ _ _); k_dflt (refine g_len (by k_asm) (by k_mem) (by first | omega | (simp only [List.length_append, List.length_cons, List.length_nil, List.length_set, List.length_dropLast, List.size_toArray] at *; omega)) ?_; k_whole); intro _ _)
  k_with "subscriptTail" => (k_here; (with_reducible show wpAny _ _ (subscriptTail _ _ (Value.ref _) (Value.int _ _)) _ _ _); k_dflt (refine g_sub (by k_asm) (by k_mem) (by first | omega | (simp only [List.length_append, List.length_cons, List.length_nil, List.length_set, List.length_dropLast, List.size_toArray] at *; omega)) (by first | omega | (simp only [List.length_append, List.length_cons, List.length_nil, List.length_set, List.length_dropLast, List.size_toArray] at *; omega)) (by first | omega | (simp only [List.length_append, List.length_cons, List.length_nil, List.length_set, List.length_dropLast, List.size_toArray] at *; omega)) ?_ (by with_unfolding_all rfl); k_whole))
  k_with "binaryOp RShift int int" => (k_here; (refine g_shr1 (by first | omega | (simp only [List.length_append, List.length_cons, List.length_nil, List.length_set, List.length_dropLast, List.size_toArray] at *; omega)) ?_); intro _ _)
  k_with "setItem ref int" => (k_here; (try dsimp only); k_dflt (refine g_set (by k_asm) (by k_asm) (by exact Upd.head (by assumption)) (by first | omega | (simp only [List.length_append, List.length_cons, List.length_nil, List.length_set, List.length_dropLast, List.size_toArray] at *; omega)) (by first | omega | (simp only [List.length_append, List.length_cons, List.length_nil, List.length_set, List.length_dropLast, List.size_toArray] at *; omega)) (by first | omega | (simp only [List.length_append, List.length_cons, List.length_nil, List.length_set, List.length_dropLast, List.size_toArray] at *; omega)) ?_; k_whole); intro h9q F9q N9q; (try k_sweep))
  k_with "call builtin:list.append" => (k_here; (with_reducible show wpAny _ _ (call (Value.builtin _) [Value.ref _, _]) _ _ _); k_dflt (refine g_app (by k_asm) (by k_asm) (by exact Upd.head (by assumption)) (by first | omega | (simp only [List.length_append, List.length_cons, List.length_nil, List.length_set, List.length_dropLast, List.size_toArray] at *; omega)) ?_; k_whole); intro h9q F9q N9q; (try k_sweep))
  k_with "call builtin:list.pop" => (k_here; (with_reducible show wpAny _ _ (call (Value.builtin _) [Value.ref _]) _ _ _); k_dflt (refine g_pop (by k_asm) (by k_asm) (by exact Upd.head (by assumption)) (by first | omega | (simp only [List.length_append, List.length_cons, List.length_nil, List.length_set, List.length_dropLast, List.size_toArray] at *; omega)) (by first | omega | (simp only [List.length_append, List.length_cons, List.length_nil, List.length_set, List.length_dropLast, List.size_toArray] at *; omega)) ?_; k_whole); intro h9q F9q N9q; (try k_sweep))
  k_with "truthy ref" => (k_here; (with_reducible show wpAny _ _ (truthy (Value.ref _)) _ _ _); k_dflt (refine g_truthy (by k_asm) (by k_mem) (by first | omega | (simp only [List.length_append, List.length_cons, List.length_nil, List.length_set, List.length_dropLast, List.size_toArray] at *; omega)) ?_; k_whole); intro _)
  k_with "exec For Name Name cons nil" => (k_here; (rename Fr _ _ _ _ => lF'); k_dflt (with_unfolding_all refine For_invVF lF' (by exact rfl) (by exact rfl) ?_; k_whole))
  have hTL : ∀ x ∈ ts.map strOf, x.length ≤ 100 := by
    intro x hx
    obtain ⟨v, hv, rfl⟩ := List.mem_map.mp hx
    exact hL v hv
  k_with "newList" => (
    rename Fr _ _ _ _ => lF
    rename News _ _ _ _ => lN
    first
    | (have := ltH
       refine newList_K lF lN ?_
       intro U hU FU NU ltU)
    | (refine newList_K lF lN ?_
       intro H hH FH NH ltH))
  k_with "pyIter ref" => (
    rename Fr _ _ _ _ => lF
    rename News _ _ _ _ => lN
    have hl : Heap.IsList _ tl ts.toArray := PySem.IsL.isList (n := n0) (lN (tl, listOf ts.toArray n0) (by first | k_mem | simp)).1
    have htl := (lN (tl, listOf ts.toArray n0) (by first | k_mem | simp)).2
    refine wpAny_pyIter_list (by exact hl) ?_
    have hlt : ∀ p ∈ ((H, listOf ([] : List Value).toArray 0) :: (tl, listOf ts.toArray n0) :: rest : List (Addr × Obj)), p.1 < _ := fun p hp => Heap.lt_size (lN p hp).1
    refine' g_for (σ := List Value × Nat) (fun c => (H, listOf c.1.toArray c.2) :: (tl, listOf ts.toArray n0) :: rest) (fun _ => []) [] (fun i c => c.1.length = i ∧ PushInv ((ts.take i).map strOf) c.1) ([], 0)
      (Walks.list (by rfl) _ tl (Nat.ne_of_lt (hlt (tl, listOf ts.toArray n0) (by first | k_mem | simp))) ts.toArray) ?gf1 ?gf2 ?gf3 ⟨⟨_, Heap.get?_push_size _ rfl, rfl, rfl⟩, hl.push _⟩ (lF.push _) (fun p hp => ⟨Heap.get?_push_of_some _ (lN p hp).1, (lN p hp).2⟩) (by intro p hp; cases hp) ⟨rfl, by simpa using pushInv_nil⟩ ?gturn1 ?gdone1
    case gf1 =>
      intro hm
      rcases List.mem_cons.mp hm with e | hm
      · exact absurd lF.ns.lt (e ▸ Nat.lt_irrefl _)
      · exact htl.1 (List.mem_singleton.mp hm).symm
    case gf2 =>
      intro b hb
      rw [List.mem_singleton.mp hb]
      exact next_is_new lF
    case gf3 =>
      intro p hp hq
      have := hlt p hp
      rw [List.mem_singleton.mp hq] at this
      exact Nat.lt_irrefl _ this
    case' gturn1 =>
      intro c i v u h tk own hi hv hP hnw hown hcov hst Fw Nw
      obtain ⟨hs, nh⟩ := c
      have hvm : v ∈ ts := by
        have := Array.mem_of_getElem? hv
        simpa using this
      have hip : i < ts.length := by simpa using hi
      have etk : ((ts.take (i + 1)).map strOf) = (ts.take i).map strOf ++ [strOf v] := by
        have e1 : ts[i]? = some v := by simpa using hv
        rw [List.take_add_one, e1]
        simp
      obtain ⟨x, tx, rfl⟩ := hS v hvm
      have hx100 : x.length ≤ 100 := hL _ hvm
      have hH1 : ∀ p ∈ ((tl, listOf ts.toArray n0) :: rest ++ own : List (Addr × Obj)), p.1 ≠ H := by
        intro p hp
        rcases List.mem_append.mp hp with hp | hp
        · exact Nat.ne_of_lt (ltH p (by first | exact hp | exact List.mem_cons_of_mem _ hp))
        · intro hq
          have h1 := hown p hp
          have h2 := hnw (H, listOf hs.toArray nh) (by first | k_mem | simp)
          simp only [List.mem_cons, List.not_mem_nil, or_false] at h1 h2
          rcases h1 with h1 | h1
          · exact h2 (hq ▸ h1)
          · have := ltH (tl, listOf ts.toArray n0) (by first | k_mem | simp)
            rw [h1] at hq
            simp only [hq] at this
            exact Nat.lt_irrefl _ this
      (try dsimp only [kstB] at Fw)
      (try dsimp only at Nw hP)
      obtain ⟨hl1, hPI⟩ := hP
      (try k_fold)
    case' gdone1 =>
      intro c u h tk hP Fw Nw
      obtain ⟨hs, nh⟩ := c
      (try dsimp only [kstB] at Fw)
      (try dsimp only at Nw hP)
      obtain ⟨hl1, hPI⟩ := hP
      (try k_fold))
  k_with "call ref" => (
    rename Fr _ _ _ _ => lF
    rename News _ _ _ _ => lN
    refine c_escape _ _ _ _ _ _ _ _ _ _ _ _ _ _ ((H, listOf hs.toArray nh) :: (tl, listOf ts.toArray n0) :: rest ++ own) _ x tx _ _ B' lF X' lN T' (by rfl) (by omega) (by ktr_room) (by ktr_units) ?_
    intro h' tk' te F' N')
  k_with "call ref" => (
    rename Fr _ _ _ _ => lF
    rename News _ _ _ _ => lN
    refine c_heappush _ _ _ _ _ _ _ _ _ _ _ _ _ _ ((tl, listOf ts.toArray n0) :: rest ++ own) _ IsS ltV H nh hs (.str (esc x) te) _ _ B' lF X' lN T' (by rfl) cmpSpec_str hH1 hPI.1 ⟨_, _, rfl⟩ (by omega) (by ktr_room) (by ktr_units) ?_
    intro h' tk' F' N')
  k_with "call ref" => (
    rename Fr _ _ _ _ => lF
    rename News _ _ _ _ => lN
    have hQ := pushInv_step (x := x) (t := te) hPI
    refine c_heaped _ _ _ _ _ _ _ _ _ _ _ _ _ _ ((tl, listOf ts.toArray n0) :: rest ++ own) _ IsS ltV H (nh + 1) (sdown ltV (.str (esc x) te) 0 hs.length hs.length (hs ++ [.str (esc x) te])) _ _ B' lF X' lN T' (by rfl) cmpSpec_str hH1 hQ.1 (by rw [sdown_length, List.length_append, List.length_singleton]; omega) (by ktr_room) (by ktr_units) ?_
    rw [heaped_iff.mpr hQ.2.1]
    intro h' tk' F' N')
  k_with "GEnd" => (
    rename Fr _ _ _ _ => lF
    rename News _ _ _ _ => lN
    refine g_end (sdown ltV (.str (esc x) te) 0 hs.length hs.length (hs ++ [.str (esc x) te]), nh + 1) lF lN (fun p hp => by rcases List.mem_cons.mp hp with rfl | hp; exact List.mem_cons_self ..; exact List.mem_cons_of_mem _ (List.mem_append_left _ hp)) (fun p hp => List.mem_cons_of_mem _ (List.mem_append_right _ hp)) (fun p hp => by rcases List.mem_cons.mp hp with rfl | hp; exact hnw (H, listOf hs.toArray nh) (List.mem_cons_self ..); exact hnw p (List.mem_cons_of_mem _ hp)) (by intro p hp; cases hp) (by intro z h1 h2 h3; simp [h1]) ⟨?_, ?_⟩
    · dsimp only; rw [sdown_length, List.length_append, List.length_singleton]; omega
    · rw [etk]; exact pushInv_step hPI)
  k_with "GPost" => (dsimp only [GPost])
  k_with "call builtin:list.append" => (
    rename Fr _ _ _ _ => lF
    rename News _ _ _ _ => lN
    refine' g_app lF lN (Upd.head (by intro p hp; rcases List.mem_cons.mp hp with rfl | hp; exact Nat.ne_of_lt hHU; exact hUr p hp)) (by omega) ?_
    intro h' F' N')
  k_with "exec While Name cons nil" => (
    rename Fr _ _ _ _ => lF
    rename News _ _ _ _ => lN
    have hfull : ts.take ts.toArray.size = ts := by simp
    rw [hfull] at hPI
    have hH1 : ∀ p ∈ ((tl, listOf ts.toArray n0) :: rest : List (Addr × Obj)), p.1 ≠ H := fun p hp => Nat.ne_of_lt (ltH p (by first | exact hp | exact List.mem_cons_of_mem _ hp))
    have hUr : ∀ p ∈ ((tl, listOf ts.toArray n0) :: rest : List (Addr × Obj)), p.1 ≠ U := fun p hp => Nat.ne_of_lt (ltU p (by first | exact List.mem_cons_of_mem _ hp | (simp only [List.mem_cons] at hp ⊢; rcases hp with hp | hp <;> first | with_reducible (first | exact Or.inl hp | exact hp | exact Or.inr (Or.inl hp) | exact Or.inr (hp) | exact Or.inr (Or.inr (Or.inl hp)) | exact Or.inr (Or.inr (hp)) | exact Or.inr (Or.inr (Or.inr (Or.inl hp))) | exact Or.inr (Or.inr (Or.inr (hp))) | exact Or.inr (Or.inr (Or.inr (Or.inr (Or.inl hp)))) | exact Or.inr (Or.inr (Or.inr (Or.inr (hp)))) | exact Or.inr (Or.inr (Or.inr (Or.inr (Or.inr (Or.inl hp))))) | exact Or.inr (Or.inr (Or.inr (Or.inr (Or.inr (hp))))) | exact Or.inr (Or.inr (Or.inr (Or.inr (Or.inr (Or.inr (Or.inl hp)))))) | exact Or.inr (Or.inr (Or.inr (Or.inr (Or.inr (Or.inr (hp)))))) | exact Or.inr (Or.inr (Or.inr (Or.inr (Or.inr (Or.inr (Or.inr (Or.inl hp))))))) | exact Or.inr (Or.inr (Or.inr (Or.inr (Or.inr (Or.inr (Or.inr (hp))))))) | exact Or.inr (Or.inr (Or.inr (Or.inr (Or.inr (Or.inr (Or.inr (Or.inr (Or.inl hp)))))))) | exact Or.inr (Or.inr (Or.inr (Or.inr (Or.inr (Or.inr (Or.inr (Or.inr (hp)))))))) | exact Or.inr (Or.inr (Or.inr (Or.inr (Or.inr (Or.inr (Or.inr (Or.inr (Or.inr (Or.inl hp))))))))) | exact Or.inr (Or.inr (Or.inr (Or.inr (Or.inr (Or.inr (Or.inr (Or.inr (Or.inr (hp))))))))) | exact Or.inl (Or.inr hp) | exact Or.inl (Or.inl hp) | exact Or.inl (Or.inl (Or.inr hp)) | exact Or.inl (Or.inl (Or.inl hp)) | exact Or.inl (Or.inr (Or.inl hp)) | exact Or.inr (Or.inl (Or.inr hp)) | exact Or.inr (Or.inl (Or.inl hp)) | exact Or.inr (Or.inl (Or.inl (Or.inr hp))) | exact Or.inr (Or.inl (Or.inl (Or.inl hp))) | exact Or.inr (Or.inl (Or.inr (Or.inl hp))) | exact Or.inr (Or.inr (Or.inl (Or.inr hp))) | exact Or.inr (Or.inr (Or.inl (Or.inl hp))) | exact Or.inr (Or.inr (Or.inl (Or.inl (Or.inr hp)))) | exact Or.inr (Or.inr (Or.inl (Or.inl (Or.inl hp)))) | exact Or.inr (Or.inr (Or.inl (Or.inr (Or.inl hp)))) | exact Or.inr (Or.inr (Or.inr (Or.inl (Or.inr hp)))) | exact Or.inr (Or.inr (Or.inr (Or.inl (Or.inl hp)))) | exact Or.inr (Or.inr (Or.inr (Or.inl (Or.inl (Or.inr hp))))) | exact Or.inr (Or.inr (Or.inr (Or.inl (Or.inl (Or.inl hp))))) | exact Or.inr (Or.inr (Or.inr (Or.inl (Or.inr (Or.inl hp))))) | exact Or.inr (Or.inr (Or.inr (Or.inr (Or.inl (Or.inr hp))))) | exact Or.inr (Or.inr (Or.inr (Or.inr (Or.inl (Or.inl hp))))) | exact Or.inr (Or.inr (Or.inr (Or.inr (Or.inl (Or.inl (Or.inr hp)))))) | exact Or.inr (Or.inr (Or.inr (Or.inr (Or.inl (Or.inl (Or.inl hp)))))) | exact Or.inr (Or.inr (Or.inr (Or.inr (Or.inl (Or.inr (Or.inl hp)))))) | exact Or.inr (Or.inr (Or.inr (Or.inr (Or.inr (Or.inl (Or.inr hp)))))) | exact Or.inr (Or.inr (Or.inr (Or.inr (Or.inr (Or.inl (Or.inl hp)))))) | exact Or.inr (Or.inr (Or.inr (Or.inr (Or.inr (Or.inl (Or.inl (Or.inr hp))))))) | exact Or.inr (Or.inr (Or.inr (Or.inr (Or.inr (Or.inl (Or.inl (Or.inl hp))))))) | exact Or.inr (Or.inr (Or.inr (Or.inr (Or.inr (Or.inl (Or.inr (Or.inl hp))))))) | exact Or.inr (Or.inr (Or.inr (Or.inr (Or.inr (Or.inr (Or.inl (Or.inr hp))))))) | exact Or.inr (Or.inr (Or.inr (Or.inr (Or.inr (Or.inr (Or.inl (Or.inl hp))))))) | exact Or.inr (Or.inr (Or.inr (Or.inr (Or.inr (Or.inr (Or.inl (Or.inl (Or.inr hp)))))))) | exact Or.inr (Or.inr (Or.inr (Or.inr (Or.inr (Or.inr (Or.inl (Or.inl (Or.inl hp)))))))) | exact Or.inr (Or.inr (Or.inr (Or.inr (Or.inr (Or.inr (Or.inl (Or.inr (Or.inl hp)))))))) | exact Or.inr (Or.inr (Or.inr (Or.inr (Or.inr (Or.inr (Or.inr (Or.inl (Or.inr hp)))))))) | exact Or.inr (Or.inr (Or.inr (Or.inr (Or.inr (Or.inr (Or.inr (Or.inl (Or.inl hp)))))))) | exact Or.inr (Or.inr (Or.inr (Or.inr (Or.inr (Or.inr (Or.inr (Or.inl (Or.inl (Or.inr hp))))))))) | exact Or.inr (Or.inr (Or.inr (Or.inr (Or.inr (Or.inr (Or.inr (Or.inl (Or.inl (Or.inl hp))))))))) | exact Or.inr (Or.inr (Or.inr (Or.inr (Or.inr (Or.inr (Or.inr (Or.inl (Or.inr (Or.inl hp)))))))))) | simp [hp])))
    have hHU : H < U := ltU (H, listOf hs.toArray nh) (by first | k_mem | simp)
    refine ksw_while (σ := List Value × Nat × List Value × Nat) (fun c => (U, listOf c.2.2.1.toArray c.2.2.2) :: (H, listOf c.1.toArray c.2.1) :: (tl, listOf ts.toArray n0) :: rest) (fun _ => []) (fun _ => True) []
      (fun c => (∀ v ∈ c.2.2.1, IsS v) ∧ ∃ es, PopInv (ts.map strOf) es c.1 ∧ c.2.2.1.map strOf = es.map unesc) (fun c => c.1.length) (hs, nh, [], 0) lF lN trivial (by intro p hp; cases hp) ⟨by simp, [], popInv_of hPI, rfl⟩ ?_ ?_
    rotate_left
    · passes_own
    clear lF lN
    intro c u h tk hFa hP Fw Nw
    obtain ⟨hs1, nh1, ys1, ny1⟩ := c
    obtain ⟨hY, es, hPI1, hes⟩ := hP
    have hcnt := popInv_cnt hPI1
    rw [List.length_map] at hcnt
    have hylen : ys1.length = es.length := by
      have := congrArg List.length hes
      simpa using this
    (try dsimp only [kstB] at Fw)
    (try dsimp only at Nw hY hPI1 hes hylen hcnt)
    (try k_fold))
  k_with "call ref" => (
    rename Fr _ _ _ _ => lF
    rename News _ _ _ _ => lN
    have h0 : 0 < hs1.length := by omega
    have lN' : News _ _ _ ((H, listOf hs1.toArray nh1) :: (U, listOf ys1.toArray ny1) :: (tl, listOf ts.toArray n0) :: rest) := fun p hp => lN p (by simp only [List.mem_cons] at hp ⊢; rcases hp with hp | hp | hp <;> first | with_reducible (first | exact Or.inl hp | exact hp | exact Or.inr (Or.inl hp) | exact Or.inr (hp) | exact Or.inr (Or.inr (Or.inl hp)) | exact Or.inr (Or.inr (hp)) | exact Or.inr (Or.inr (Or.inr (Or.inl hp))) | exact Or.inr (Or.inr (Or.inr (hp))) | exact Or.inr (Or.inr (Or.inr (Or.inr (Or.inl hp)))) | exact Or.inr (Or.inr (Or.inr (Or.inr (hp)))) | exact Or.inr (Or.inr (Or.inr (Or.inr (Or.inr (Or.inl hp))))) | exact Or.inr (Or.inr (Or.inr (Or.inr (Or.inr (hp))))) | exact Or.inr (Or.inr (Or.inr (Or.inr (Or.inr (Or.inr (Or.inl hp)))))) | exact Or.inr (Or.inr (Or.inr (Or.inr (Or.inr (Or.inr (hp)))))) | exact Or.inr (Or.inr (Or.inr (Or.inr (Or.inr (Or.inr (Or.inr (Or.inl hp))))))) | exact Or.inr (Or.inr (Or.inr (Or.inr (Or.inr (Or.inr (Or.inr (hp))))))) | exact Or.inr (Or.inr (Or.inr (Or.inr (Or.inr (Or.inr (Or.inr (Or.inr (Or.inl hp)))))))) | exact Or.inr (Or.inr (Or.inr (Or.inr (Or.inr (Or.inr (Or.inr (Or.inr (hp)))))))) | exact Or.inr (Or.inr (Or.inr (Or.inr (Or.inr (Or.inr (Or.inr (Or.inr (Or.inr (Or.inl hp))))))))) | exact Or.inr (Or.inr (Or.inr (Or.inr (Or.inr (Or.inr (Or.inr (Or.inr (Or.inr (hp))))))))) | exact Or.inl (Or.inr hp) | exact Or.inl (Or.inl hp) | exact Or.inl (Or.inl (Or.inr hp)) | exact Or.inl (Or.inl (Or.inl hp)) | exact Or.inl (Or.inr (Or.inl hp)) | exact Or.inr (Or.inl (Or.inr hp)) | exact Or.inr (Or.inl (Or.inl hp)) | exact Or.inr (Or.inl (Or.inl (Or.inr hp))) | exact Or.inr (Or.inl (Or.inl (Or.inl hp))) | exact Or.inr (Or.inl (Or.inr (Or.inl hp))) | exact Or.inr (Or.inr (Or.inl (Or.inr hp))) | exact Or.inr (Or.inr (Or.inl (Or.inl hp))) | exact Or.inr (Or.inr (Or.inl (Or.inl (Or.inr hp)))) | exact Or.inr (Or.inr (Or.inl (Or.inl (Or.inl hp)))) | exact Or.inr (Or.inr (Or.inl (Or.inr (Or.inl hp)))) | exact Or.inr (Or.inr (Or.inr (Or.inl (Or.inr hp)))) | exact Or.inr (Or.inr (Or.inr (Or.inl (Or.inl hp)))) | exact Or.inr (Or.inr (Or.inr (Or.inl (Or.inl (Or.inr hp))))) | exact Or.inr (Or.inr (Or.inr (Or.inl (Or.inl (Or.inl hp))))) | exact Or.inr (Or.inr (Or.inr (Or.inl (Or.inr (Or.inl hp))))) | exact Or.inr (Or.inr (Or.inr (Or.inr (Or.inl (Or.inr hp))))) | exact Or.inr (Or.inr (Or.inr (Or.inr (Or.inl (Or.inl hp))))) | exact Or.inr (Or.inr (Or.inr (Or.inr (Or.inl (Or.inl (Or.inr hp)))))) | exact Or.inr (Or.inr (Or.inr (Or.inr (Or.inl (Or.inl (Or.inl hp)))))) | exact Or.inr (Or.inr (Or.inr (Or.inr (Or.inl (Or.inr (Or.inl hp)))))) | exact Or.inr (Or.inr (Or.inr (Or.inr (Or.inr (Or.inl (Or.inr hp)))))) | exact Or.inr (Or.inr (Or.inr (Or.inr (Or.inr (Or.inl (Or.inl hp)))))) | exact Or.inr (Or.inr (Or.inr (Or.inr (Or.inr (Or.inl (Or.inl (Or.inr hp))))))) | exact Or.inr (Or.inr (Or.inr (Or.inr (Or.inr (Or.inl (Or.inl (Or.inl hp))))))) | exact Or.inr (Or.inr (Or.inr (Or.inr (Or.inr (Or.inl (Or.inr (Or.inl hp))))))) | exact Or.inr (Or.inr (Or.inr (Or.inr (Or.inr (Or.inr (Or.inl (Or.inr hp))))))) | exact Or.inr (Or.inr (Or.inr (Or.inr (Or.inr (Or.inr (Or.inl (Or.inl hp))))))) | exact Or.inr (Or.inr (Or.inr (Or.inr (Or.inr (Or.inr (Or.inl (Or.inl (Or.inr hp)))))))) | exact Or.inr (Or.inr (Or.inr (Or.inr (Or.inr (Or.inr (Or.inl (Or.inl (Or.inl hp)))))))) | exact Or.inr (Or.inr (Or.inr (Or.inr (Or.inr (Or.inr (Or.inl (Or.inr (Or.inl hp)))))))) | exact Or.inr (Or.inr (Or.inr (Or.inr (Or.inr (Or.inr (Or.inr (Or.inl (Or.inr hp)))))))) | exact Or.inr (Or.inr (Or.inr (Or.inr (Or.inr (Or.inr (Or.inr (Or.inl (Or.inl hp)))))))) | exact Or.inr (Or.inr (Or.inr (Or.inr (Or.inr (Or.inr (Or.inr (Or.inl (Or.inl (Or.inr hp))))))))) | exact Or.inr (Or.inr (Or.inr (Or.inr (Or.inr (Or.inr (Or.inr (Or.inl (Or.inl (Or.inl hp))))))))) | exact Or.inr (Or.inr (Or.inr (Or.inr (Or.inr (Or.inr (Or.inr (Or.inl (Or.inr (Or.inl hp)))))))))) | simp [hp])
    have hHr : ∀ p ∈ ((U, listOf ys1.toArray ny1) :: (tl, listOf ts.toArray n0) :: rest : List (Addr × Obj)), p.1 ≠ H := by
      intro p hp
      rcases List.mem_cons.mp hp with rfl | hp
      · exact Nat.ne_of_gt hHU
      · exact hH1 p hp
    refine c_heappop _ _ _ _ _ _ _ _ _ _ _ _ _ _ ((U, listOf ys1.toArray ny1) :: (tl, listOf ts.toArray n0) :: rest) _ IsS ltV H nh1 hs1 _ _ B' lF X' lN' T' (by rfl) cmpSpec_str hHr hPI1.1 h0 (by omega) (by ktr_room) (by ktr_units) ?_
    intro h' tk' F' N'
    replace N' : News _ _ _ ((U, listOf ys1.toArray ny1) :: (H, listOf (hpop ltV hs1).toArray (nh1 + 1)) :: (tl, listOf ts.toArray n0) :: rest) := fun p hp => N' p (by simp only [List.mem_cons] at hp ⊢; rcases hp with hp | hp | hp <;> first | with_reducible (first | exact Or.inl hp | exact hp | exact Or.inr (Or.inl hp) | exact Or.inr (hp) | exact Or.inr (Or.inr (Or.inl hp)) | exact Or.inr (Or.inr (hp)) | exact Or.inr (Or.inr (Or.inr (Or.inl hp))) | exact Or.inr (Or.inr (Or.inr (hp))) | exact Or.inr (Or.inr (Or.inr (Or.inr (Or.inl hp)))) | exact Or.inr (Or.inr (Or.inr (Or.inr (hp)))) | exact Or.inr (Or.inr (Or.inr (Or.inr (Or.inr (Or.inl hp))))) | exact Or.inr (Or.inr (Or.inr (Or.inr (Or.inr (hp))))) | exact Or.inr (Or.inr (Or.inr (Or.inr (Or.inr (Or.inr (Or.inl hp)))))) | exact Or.inr (Or.inr (Or.inr (Or.inr (Or.inr (Or.inr (hp)))))) | exact Or.inr (Or.inr (Or.inr (Or.inr (Or.inr (Or.inr (Or.inr (Or.inl hp))))))) | exact Or.inr (Or.inr (Or.inr (Or.inr (Or.inr (Or.inr (Or.inr (hp))))))) | exact Or.inr (Or.inr (Or.inr (Or.inr (Or.inr (Or.inr (Or.inr (Or.inr (Or.inl hp)))))))) | exact Or.inr (Or.inr (Or.inr (Or.inr (Or.inr (Or.inr (Or.inr (Or.inr (hp)))))))) | exact Or.inr (Or.inr (Or.inr (Or.inr (Or.inr (Or.inr (Or.inr (Or.inr (Or.inr (Or.inl hp))))))))) | exact Or.inr (Or.inr (Or.inr (Or.inr (Or.inr (Or.inr (Or.inr (Or.inr (Or.inr (hp))))))))) | exact Or.inl (Or.inr hp) | exact Or.inl (Or.inl hp) | exact Or.inl (Or.inl (Or.inr hp)) | exact Or.inl (Or.inl (Or.inl hp)) | exact Or.inl (Or.inr (Or.inl hp)) | exact Or.inr (Or.inl (Or.inr hp)) | exact Or.inr (Or.inl (Or.inl hp)) | exact Or.inr (Or.inl (Or.inl (Or.inr hp))) | exact Or.inr (Or.inl (Or.inl (Or.inl hp))) | exact Or.inr (Or.inl (Or.inr (Or.inl hp))) | exact Or.inr (Or.inr (Or.inl (Or.inr hp))) | exact Or.inr (Or.inr (Or.inl (Or.inl hp))) | exact Or.inr (Or.inr (Or.inl (Or.inl (Or.inr hp)))) | exact Or.inr (Or.inr (Or.inl (Or.inl (Or.inl hp)))) | exact Or.inr (Or.inr (Or.inl (Or.inr (Or.inl hp)))) | exact Or.inr (Or.inr (Or.inr (Or.inl (Or.inr hp)))) | exact Or.inr (Or.inr (Or.inr (Or.inl (Or.inl hp)))) | exact Or.inr (Or.inr (Or.inr (Or.inl (Or.inl (Or.inr hp))))) | exact Or.inr (Or.inr (Or.inr (Or.inl (Or.inl (Or.inl hp))))) | exact Or.inr (Or.inr (Or.inr (Or.inl (Or.inr (Or.inl hp))))) | exact Or.inr (Or.inr (Or.inr (Or.inr (Or.inl (Or.inr hp))))) | exact Or.inr (Or.inr (Or.inr (Or.inr (Or.inl (Or.inl hp))))) | exact Or.inr (Or.inr (Or.inr (Or.inr (Or.inl (Or.inl (Or.inr hp)))))) | exact Or.inr (Or.inr (Or.inr (Or.inr (Or.inl (Or.inl (Or.inl hp)))))) | exact Or.inr (Or.inr (Or.inr (Or.inr (Or.inl (Or.inr (Or.inl hp)))))) | exact Or.inr (Or.inr (Or.inr (Or.inr (Or.inr (Or.inl (Or.inr hp)))))) | exact Or.inr (Or.inr (Or.inr (Or.inr (Or.inr (Or.inl (Or.inl hp)))))) | exact Or.inr (Or.inr (Or.inr (Or.inr (Or.inr (Or.inl (Or.inl (Or.inr hp))))))) | exact Or.inr (Or.inr (Or.inr (Or.inr (Or.inr (Or.inl (Or.inl (Or.inl hp))))))) | exact Or.inr (Or.inr (Or.inr (Or.inr (Or.inr (Or.inl (Or.inr (Or.inl hp))))))) | exact Or.inr (Or.inr (Or.inr (Or.inr (Or.inr (Or.inr (Or.inl (Or.inr hp))))))) | exact Or.inr (Or.inr (Or.inr (Or.inr (Or.inr (Or.inr (Or.inl (Or.inl hp))))))) | exact Or.inr (Or.inr (Or.inr (Or.inr (Or.inr (Or.inr (Or.inl (Or.inl (Or.inr hp)))))))) | exact Or.inr (Or.inr (Or.inr (Or.inr (Or.inr (Or.inr (Or.inl (Or.inl (Or.inl hp)))))))) | exact Or.inr (Or.inr (Or.inr (Or.inr (Or.inr (Or.inr (Or.inl (Or.inr (Or.inl hp)))))))) | exact Or.inr (Or.inr (Or.inr (Or.inr (Or.inr (Or.inr (Or.inr (Or.inl (Or.inr hp)))))))) | exact Or.inr (Or.inr (Or.inr (Or.inr (Or.inr (Or.inr (Or.inr (Or.inl (Or.inl hp)))))))) | exact Or.inr (Or.inr (Or.inr (Or.inr (Or.inr (Or.inr (Or.inr (Or.inl (Or.inl (Or.inr hp))))))))) | exact Or.inr (Or.inr (Or.inr (Or.inr (Or.inr (Or.inr (Or.inr (Or.inl (Or.inl (Or.inl hp))))))))) | exact Or.inr (Or.inr (Or.inr (Or.inr (Or.inr (Or.inr (Or.inr (Or.inl (Or.inr (Or.inl hp)))))))))) | simp [hp])
    have hel := popInv_len hPI1 hTL _ (getD_mem h0)
    have hPI2 := popInv_step hPI1 h0
    obtain ⟨xe, te, hxe⟩ := hPI1.1 _ (getD_mem h0)
    rw [hxe]
    rw [hxe] at hel hPI2
    clear lN' lN lF)
  k_with "call ref" => (
    rename Fr _ _ _ _ => lF
    rename News _ _ _ _ => lN
    refine c_unescape _ _ _ _ _ _ _ _ _ _ _ _ _ _ _ _ xe te _ _ B' lF X' lN T' (by rfl) (by simp only [strOf] at hel; omega) (by ktr_room) (by ktr_units) ?_
    intro h' tk' tu F' N')
  k_with "call ref" => (
    rename Fr _ _ _ _ => lF
    rename News _ _ _ _ => lN
    have lN' : News _ _ _ ((H, listOf (hpop ltV hs1).toArray (nh1 + 1)) :: (U, listOf (ys1 ++ [Value.str (unesc xe) tu]).toArray (ny1 + 1)) :: (tl, listOf ts.toArray n0) :: rest) := fun p hp => lN p (by simp only [List.mem_cons] at hp ⊢; rcases hp with hp | hp | hp <;> first | with_reducible (first | exact Or.inl hp | exact hp | exact Or.inr (Or.inl hp) | exact Or.inr (hp) | exact Or.inr (Or.inr (Or.inl hp)) | exact Or.inr (Or.inr (hp)) | exact Or.inr (Or.inr (Or.inr (Or.inl hp))) | exact Or.inr (Or.inr (Or.inr (hp))) | exact Or.inr (Or.inr (Or.inr (Or.inr (Or.inl hp)))) | exact Or.inr (Or.inr (Or.inr (Or.inr (hp)))) | exact Or.inr (Or.inr (Or.inr (Or.inr (Or.inr (Or.inl hp))))) | exact Or.inr (Or.inr (Or.inr (Or.inr (Or.inr (hp))))) | exact Or.inr (Or.inr (Or.inr (Or.inr (Or.inr (Or.inr (Or.inl hp)))))) | exact Or.inr (Or.inr (Or.inr (Or.inr (Or.inr (Or.inr (hp)))))) | exact Or.inr (Or.inr (Or.inr (Or.inr (Or.inr (Or.inr (Or.inr (Or.inl hp))))))) | exact Or.inr (Or.inr (Or.inr (Or.inr (Or.inr (Or.inr (Or.inr (hp))))))) | exact Or.inr (Or.inr (Or.inr (Or.inr (Or.inr (Or.inr (Or.inr (Or.inr (Or.inl hp)))))))) | exact Or.inr (Or.inr (Or.inr (Or.inr (Or.inr (Or.inr (Or.inr (Or.inr (hp)))))))) | exact Or.inr (Or.inr (Or.inr (Or.inr (Or.inr (Or.inr (Or.inr (Or.inr (Or.inr (Or.inl hp))))))))) | exact Or.inr (Or.inr (Or.inr (Or.inr (Or.inr (Or.inr (Or.inr (Or.inr (Or.inr (hp))))))))) | exact Or.inl (Or.inr hp) | exact Or.inl (Or.inl hp) | exact Or.inl (Or.inl (Or.inr hp)) | exact Or.inl (Or.inl (Or.inl hp)) | exact Or.inl (Or.inr (Or.inl hp)) | exact Or.inr (Or.inl (Or.inr hp)) | exact Or.inr (Or.inl (Or.inl hp)) | exact Or.inr (Or.inl (Or.inl (Or.inr hp))) | exact Or.inr (Or.inl (Or.inl (Or.inl hp))) | exact Or.inr (Or.inl (Or.inr (Or.inl hp))) | exact Or.inr (Or.inr (Or.inl (Or.inr hp))) | exact Or.inr (Or.inr (Or.inl (Or.inl hp))) | exact Or.inr (Or.inr (Or.inl (Or.inl (Or.inr hp)))) | exact Or.inr (Or.inr (Or.inl (Or.inl (Or.inl hp)))) | exact Or.inr (Or.inr (Or.inl (Or.inr (Or.inl hp)))) | exact Or.inr (Or.inr (Or.inr (Or.inl (Or.inr hp)))) | exact Or.inr (Or.inr (Or.inr (Or.inl (Or.inl hp)))) | exact Or.inr (Or.inr (Or.inr (Or.inl (Or.inl (Or.inr hp))))) | exact Or.inr (Or.inr (Or.inr (Or.inl (Or.inl (Or.inl hp))))) | exact Or.inr (Or.inr (Or.inr (Or.inl (Or.inr (Or.inl hp))))) | exact Or.inr (Or.inr (Or.inr (Or.inr (Or.inl (Or.inr hp))))) | exact Or.inr (Or.inr (Or.inr (Or.inr (Or.inl (Or.inl hp))))) | exact Or.inr (Or.inr (Or.inr (Or.inr (Or.inl (Or.inl (Or.inr hp)))))) | exact Or.inr (Or.inr (Or.inr (Or.inr (Or.inl (Or.inl (Or.inl hp)))))) | exact Or.inr (Or.inr (Or.inr (Or.inr (Or.inl (Or.inr (Or.inl hp)))))) | exact Or.inr (Or.inr (Or.inr (Or.inr (Or.inr (Or.inl (Or.inr hp)))))) | exact Or.inr (Or.inr (Or.inr (Or.inr (Or.inr (Or.inl (Or.inl hp)))))) | exact Or.inr (Or.inr (Or.inr (Or.inr (Or.inr (Or.inl (Or.inl (Or.inr hp))))))) | exact Or.inr (Or.inr (Or.inr (Or.inr (Or.inr (Or.inl (Or.inl (Or.inl hp))))))) | exact Or.inr (Or.inr (Or.inr (Or.inr (Or.inr (Or.inl (Or.inr (Or.inl hp))))))) | exact Or.inr (Or.inr (Or.inr (Or.inr (Or.inr (Or.inr (Or.inl (Or.inr hp))))))) | exact Or.inr (Or.inr (Or.inr (Or.inr (Or.inr (Or.inr (Or.inl (Or.inl hp))))))) | exact Or.inr (Or.inr (Or.inr (Or.inr (Or.inr (Or.inr (Or.inl (Or.inl (Or.inr hp)))))))) | exact Or.inr (Or.inr (Or.inr (Or.inr (Or.inr (Or.inr (Or.inl (Or.inl (Or.inl hp)))))))) | exact Or.inr (Or.inr (Or.inr (Or.inr (Or.inr (Or.inr (Or.inl (Or.inr (Or.inl hp)))))))) | exact Or.inr (Or.inr (Or.inr (Or.inr (Or.inr (Or.inr (Or.inr (Or.inl (Or.inr hp)))))))) | exact Or.inr (Or.inr (Or.inr (Or.inr (Or.inr (Or.inr (Or.inr (Or.inl (Or.inl hp)))))))) | exact Or.inr (Or.inr (Or.inr (Or.inr (Or.inr (Or.inr (Or.inr (Or.inl (Or.inl (Or.inr hp))))))))) | exact Or.inr (Or.inr (Or.inr (Or.inr (Or.inr (Or.inr (Or.inr (Or.inl (Or.inl (Or.inl hp))))))))) | exact Or.inr (Or.inr (Or.inr (Or.inr (Or.inr (Or.inr (Or.inr (Or.inl (Or.inr (Or.inl hp)))))))))) | simp [hp])
    have hHr' : ∀ p ∈ ((U, listOf (ys1 ++ [Value.str (unesc xe) tu]).toArray (ny1 + 1)) :: (tl, listOf ts.toArray n0) :: rest : List (Addr × Obj)), p.1 ≠ H := by
      intro p hp
      rcases List.mem_cons.mp hp with rfl | hp
      · exact Nat.ne_of_gt hHU
      · exact hH1 p hp
    refine c_heaped _ _ _ _ _ _ _ _ _ _ _ _ _ _ ((U, listOf (ys1 ++ [Value.str (unesc xe) tu]).toArray (ny1 + 1)) :: (tl, listOf ts.toArray n0) :: rest) _ IsS ltV H (nh1 + 1) (hpop ltV hs1) _ _ B' lF X' lN' T' (by rfl) cmpSpec_str hHr' hPI2.1 (by rw [hpop_length ltV hs1 h0]; omega) (by ktr_room) (by ktr_units) ?_
    rw [heaped_iff.mpr hPI2.2.1]
    intro h' tk' F' N'
    replace N' : News _ _ _ ((U, listOf (ys1 ++ [Value.str (unesc xe) tu]).toArray (ny1 + 1)) :: (H, listOf (hpop ltV hs1).toArray (nh1 + 1)) :: (tl, listOf ts.toArray n0) :: rest) := fun p hp => N' p (by simp only [List.mem_cons] at hp ⊢; rcases hp with hp | hp | hp <;> first | with_reducible (first | exact Or.inl hp | exact hp | exact Or.inr (Or.inl hp) | exact Or.inr (hp) | exact Or.inr (Or.inr (Or.inl hp)) | exact Or.inr (Or.inr (hp)) | exact Or.inr (Or.inr (Or.inr (Or.inl hp))) | exact Or.inr (Or.inr (Or.inr (hp))) | exact Or.inr (Or.inr (Or.inr (Or.inr (Or.inl hp)))) | exact Or.inr (Or.inr (Or.inr (Or.inr (hp)))) | exact Or.inr (Or.inr (Or.inr (Or.inr (Or.inr (Or.inl hp))))) | exact Or.inr (Or.inr (Or.inr (Or.inr (Or.inr (hp))))) | exact Or.inr (Or.inr (Or.inr (Or.inr (Or.inr (Or.inr (Or.inl hp)))))) | exact Or.inr (Or.inr (Or.inr (Or.inr (Or.inr (Or.inr (hp)))))) | exact Or.inr (Or.inr (Or.inr (Or.inr (Or.inr (Or.inr (Or.inr (Or.inl hp))))))) | exact Or.inr (Or.inr (Or.inr (Or.inr (Or.inr (Or.inr (Or.inr (hp))))))) | exact Or.inr (Or.inr (Or.inr (Or.inr (Or.inr (Or.inr (Or.inr (Or.inr (Or.inl hp)))))))) | exact Or.inr (Or.inr (Or.inr (Or.inr (Or.inr (Or.inr (Or.inr (Or.inr (hp)))))))) | exact Or.inr (Or.inr (Or.inr (Or.inr (Or.inr (Or.inr (Or.inr (Or.inr (Or.inr (Or.inl hp))))))))) | exact Or.inr (Or.inr (Or.inr (Or.inr (Or.inr (Or.inr (Or.inr (Or.inr (Or.inr (hp))))))))) | exact Or.inl (Or.inr hp) | exact Or.inl (Or.inl hp) | exact Or.inl (Or.inl (Or.inr hp)) | exact Or.inl (Or.inl (Or.inl hp)) | exact Or.inl (Or.inr (Or.inl hp)) | exact Or.inr (Or.inl (Or.inr hp)) | exact Or.inr (Or.inl (Or.inl hp)) | exact Or.inr (Or.inl (Or.inl (Or.inr hp))) | exact Or.inr (Or.inl (Or.inl (Or.inl hp))) | exact Or.inr (Or.inl (Or.inr (Or.inl hp))) | exact Or.inr (Or.inr (Or.inl (Or.inr hp))) | exact Or.inr (Or.inr (Or.inl (Or.inl hp))) | exact Or.inr (Or.inr (Or.inl (Or.inl (Or.inr hp)))) | exact Or.inr (Or.inr (Or.inl (Or.inl (Or.inl hp)))) | exact Or.inr (Or.inr (Or.inl (Or.inr (Or.inl hp)))) | exact Or.inr (Or.inr (Or.inr (Or.inl (Or.inr hp)))) | exact Or.inr (Or.inr (Or.inr (Or.inl (Or.inl hp)))) | exact Or.inr (Or.inr (Or.inr (Or.inl (Or.inl (Or.inr hp))))) | exact Or.inr (Or.inr (Or.inr (Or.inl (Or.inl (Or.inl hp))))) | exact Or.inr (Or.inr (Or.inr (Or.inl (Or.inr (Or.inl hp))))) | exact Or.inr (Or.inr (Or.inr (Or.inr (Or.inl (Or.inr hp))))) | exact Or.inr (Or.inr (Or.inr (Or.inr (Or.inl (Or.inl hp))))) | exact Or.inr (Or.inr (Or.inr (Or.inr (Or.inl (Or.inl (Or.inr hp)))))) | exact Or.inr (Or.inr (Or.inr (Or.inr (Or.inl (Or.inl (Or.inl hp)))))) | exact Or.inr (Or.inr (Or.inr (Or.inr (Or.inl (Or.inr (Or.inl hp)))))) | exact Or.inr (Or.inr (Or.inr (Or.inr (Or.inr (Or.inl (Or.inr hp)))))) | exact Or.inr (Or.inr (Or.inr (Or.inr (Or.inr (Or.inl (Or.inl hp)))))) | exact Or.inr (Or.inr (Or.inr (Or.inr (Or.inr (Or.inl (Or.inl (Or.inr hp))))))) | exact Or.inr (Or.inr (Or.inr (Or.inr (Or.inr (Or.inl (Or.inl (Or.inl hp))))))) | exact Or.inr (Or.inr (Or.inr (Or.inr (Or.inr (Or.inl (Or.inr (Or.inl hp))))))) | exact Or.inr (Or.inr (Or.inr (Or.inr (Or.inr (Or.inr (Or.inl (Or.inr hp))))))) | exact Or.inr (Or.inr (Or.inr (Or.inr (Or.inr (Or.inr (Or.inl (Or.inl hp))))))) | exact Or.inr (Or.inr (Or.inr (Or.inr (Or.inr (Or.inr (Or.inl (Or.inl (Or.inr hp)))))))) | exact Or.inr (Or.inr (Or.inr (Or.inr (Or.inr (Or.inr (Or.inl (Or.inl (Or.inl hp)))))))) | exact Or.inr (Or.inr (Or.inr (Or.inr (Or.inr (Or.inr (Or.inl (Or.inr (Or.inl hp)))))))) | exact Or.inr (Or.inr (Or.inr (Or.inr (Or.inr (Or.inr (Or.inr (Or.inl (Or.inr hp)))))))) | exact Or.inr (Or.inr (Or.inr (Or.inr (Or.inr (Or.inr (Or.inr (Or.inl (Or.inl hp)))))))) | exact Or.inr (Or.inr (Or.inr (Or.inr (Or.inr (Or.inr (Or.inr (Or.inl (Or.inl (Or.inr hp))))))))) | exact Or.inr (Or.inr (Or.inr (Or.inr (Or.inr (Or.inr (Or.inr (Or.inl (Or.inl (Or.inl hp))))))))) | exact Or.inr (Or.inr (Or.inr (Or.inr (Or.inr (Or.inr (Or.inr (Or.inl (Or.inr (Or.inl hp)))))))))) | simp [hp])
    clear lN' lN lF)
  k_with "KswEnd" => (
    rename Fr _ _ _ _ => lF
    rename News _ _ _ _ => lN
    refine' ksw_end (hpop ltV hs1, nh1 + 1, ys1 ++ [.str (unesc xe) tu], ny1 + 1) lF lN (fun _ h => h) trivial ?kk ?kr ?kp ?mu
    case kk => (intro p hp; cases hp)
    case' kp => refine' ⟨?ka, _, hPI2, ?kc⟩
    case kr => ksw_same
    case ka =>
      intro v hv
      rcases List.mem_append.mp hv with hv | hv
      · exact hY v hv
      · rw [List.mem_singleton.mp hv]; exact ⟨_, _, rfl⟩
    case kc => simp [hes, strOf]
    case mu => (dsimp only; rw [hpop_length ltV hs1 h0]; omega))
  k_steps
  rename Fr _ _ _ _ => lF
  rename News _ _ _ _ => lN
  have h00 : hs1 = [] := by
    cases hs1 with
    | nil => rfl
    | cons a b => exact absurd (Nat.succ_pos _) (by assumption)
  subst h00
  have hend := popInv_end hPI1 hes
  exact hret _ _ U ys1 ny1 lF (fun p hp => lN p (by simp only [List.mem_cons] at hp ⊢; rcases hp with hp | hp | hp <;> first | with_reducible (first | exact Or.inl hp | exact hp | exact Or.inr (Or.inl hp) | exact Or.inr (hp) | exact Or.inr (Or.inr (Or.inl hp)) | exact Or.inr (Or.inr (hp)) | exact Or.inr (Or.inr (Or.inr (Or.inl hp))) | exact Or.inr (Or.inr (Or.inr (hp))) | exact Or.inr (Or.inr (Or.inr (Or.inr (Or.inl hp)))) | exact Or.inr (Or.inr (Or.inr (Or.inr (hp)))) | exact Or.inr (Or.inr (Or.inr (Or.inr (Or.inr (Or.inl hp))))) | exact Or.inr (Or.inr (Or.inr (Or.inr (Or.inr (hp))))) | exact Or.inr (Or.inr (Or.inr (Or.inr (Or.inr (Or.inr (Or.inl hp)))))) | exact Or.inr (Or.inr (Or.inr (Or.inr (Or.inr (Or.inr (hp)))))) | exact Or.inr (Or.inr (Or.inr (Or.inr (Or.inr (Or.inr (Or.inr (Or.inl hp))))))) | exact Or.inr (Or.inr (Or.inr (Or.inr (Or.inr (Or.inr (Or.inr (hp))))))) | exact Or.inr (Or.inr (Or.inr (Or.inr (Or.inr (Or.inr (Or.inr (Or.inr (Or.inl hp)))))))) | exact Or.inr (Or.inr (Or.inr (Or.inr (Or.inr (Or.inr (Or.inr (Or.inr (hp)))))))) | exact Or.inr (Or.inr (Or.inr (Or.inr (Or.inr (Or.inr (Or.inr (Or.inr (Or.inr (Or.inl hp))))))))) | exact Or.inr (Or.inr (Or.inr (Or.inr (Or.inr (Or.inr (Or.inr (Or.inr (Or.inr (hp))))))))) | exact Or.inl (Or.inr hp) | exact Or.inl (Or.inl hp) | exact Or.inl (Or.inl (Or.inr hp)) | exact Or.inl (Or.inl (Or.inl hp)) | exact Or.inl (Or.inr (Or.inl hp)) | exact Or.inr (Or.inl (Or.inr hp)) | exact Or.inr (Or.inl (Or.inl hp)) | exact Or.inr (Or.inl (Or.inl (Or.inr hp))) | exact Or.inr (Or.inl (Or.inl (Or.inl hp))) | exact Or.inr (Or.inl (Or.inr (Or.inl hp))) | exact Or.inr (Or.inr (Or.inl (Or.inr hp))) | exact Or.inr (Or.inr (Or.inl (Or.inl hp))) | exact Or.inr (Or.inr (Or.inl (Or.inl (Or.inr hp)))) | exact Or.inr (Or.inr (Or.inl (Or.inl (Or.inl hp)))) | exact Or.inr (Or.inr (Or.inl (Or.inr (Or.inl hp)))) | exact Or.inr (Or.inr (Or.inr (Or.inl (Or.inr hp)))) | exact Or.inr (Or.inr (Or.inr (Or.inl (Or.inl hp)))) | exact Or.inr (Or.inr (Or.inr (Or.inl (Or.inl (Or.inr hp))))) | exact Or.inr (Or.inr (Or.inr (Or.inl (Or.inl (Or.inl hp))))) | exact Or.inr (Or.inr (Or.inr (Or.inl (Or.inr (Or.inl hp))))) | exact Or.inr (Or.inr (Or.inr (Or.inr (Or.inl (Or.inr hp))))) | exact Or.inr (Or.inr (Or.inr (Or.inr (Or.inl (Or.inl hp))))) | exact Or.inr (Or.inr (Or.inr (Or.inr (Or.inl (Or.inl (Or.inr hp)))))) | exact Or.inr (Or.inr (Or.inr (Or.inr (Or.inl (Or.inl (Or.inl hp)))))) | exact Or.inr (Or.inr (Or.inr (Or.inr (Or.inl (Or.inr (Or.inl hp)))))) | exact Or.inr (Or.inr (Or.inr (Or.inr (Or.inr (Or.inl (Or.inr hp)))))) | exact Or.inr (Or.inr (Or.inr (Or.inr (Or.inr (Or.inl (Or.inl hp)))))) | exact Or.inr (Or.inr (Or.inr (Or.inr (Or.inr (Or.inl (Or.inl (Or.inr hp))))))) | exact Or.inr (Or.inr (Or.inr (Or.inr (Or.inr (Or.inl (Or.inl (Or.inl hp))))))) | exact Or.inr (Or.inr (Or.inr (Or.inr (Or.inr (Or.inl (Or.inr (Or.inl hp))))))) | exact Or.inr (Or.inr (Or.inr (Or.inr (Or.inr (Or.inr (Or.inl (Or.inr hp))))))) | exact Or.inr (Or.inr (Or.inr (Or.inr (Or.inr (Or.inr (Or.inl (Or.inl hp))))))) | exact Or.inr (Or.inr (Or.inr (Or.inr (Or.inr (Or.inr (Or.inl (Or.inl (Or.inr hp)))))))) | exact Or.inr (Or.inr (Or.inr (Or.inr (Or.inr (Or.inr (Or.inl (Or.inl (Or.inl hp)))))))) | exact Or.inr (Or.inr (Or.inr (Or.inr (Or.inr (Or.inr (Or.inl (Or.inr (Or.inl hp)))))))) | exact Or.inr (Or.inr (Or.inr (Or.inr (Or.inr (Or.inr (Or.inr (Or.inl (Or.inr hp)))))))) | exact Or.inr (Or.inr (Or.inr (Or.inr (Or.inr (Or.inr (Or.inr (Or.inl (Or.inl hp)))))))) | exact Or.inr (Or.inr (Or.inr (Or.inr (Or.inr (Or.inr (Or.inr (Or.inl (Or.inl (Or.inr hp))))))))) | exact Or.inr (Or.inr (Or.inr (Or.inr (Or.inr (Or.inr (Or.inr (Or.inl (Or.inl (Or.inl hp))))))))) | exact Or.inr (Or.inr (Or.inr (Or.inr (Or.inr (Or.inr (Or.inr (Or.inl (Or.inr (Or.inl hp)))))))))) | simp [hp])) (fun p hp => ltU p (by first | exact List.mem_cons_of_mem _ hp | (simp only [List.mem_cons] at hp ⊢; rcases hp with hp | hp <;> first | with_reducible (first | exact Or.inl hp | exact hp | exact Or.inr (Or.inl hp) | exact Or.inr (hp) | exact Or.inr (Or.inr (Or.inl hp)) | exact Or.inr (Or.inr (hp)) | exact Or.inr (Or.inr (Or.inr (Or.inl hp))) | exact Or.inr (Or.inr (Or.inr (hp))) | exact Or.inr (Or.inr (Or.inr (Or.inr (Or.inl hp)))) | exact Or.inr (Or.inr (Or.inr (Or.inr (hp)))) | exact Or.inr (Or.inr (Or.inr (Or.inr (Or.inr (Or.inl hp))))) | exact Or.inr (Or.inr (Or.inr (Or.inr (Or.inr (hp))))) | exact Or.inr (Or.inr (Or.inr (Or.inr (Or.inr (Or.inr (Or.inl hp)))))) | exact Or.inr (Or.inr (Or.inr (Or.inr (Or.inr (Or.inr (hp)))))) | exact Or.inr (Or.inr (Or.inr (Or.inr (Or.inr (Or.inr (Or.inr (Or.inl hp))))))) | exact Or.inr (Or.inr (Or.inr (Or.inr (Or.inr (Or.inr (Or.inr (hp))))))) | exact Or.inr (Or.inr (Or.inr (Or.inr (Or.inr (Or.inr (Or.inr (Or.inr (Or.inl hp)))))))) | exact Or.inr (Or.inr (Or.inr (Or.inr (Or.inr (Or.inr (Or.inr (Or.inr (hp)))))))) | exact Or.inr (Or.inr (Or.inr (Or.inr (Or.inr (Or.inr (Or.inr (Or.inr (Or.inr (Or.inl hp))))))))) | exact Or.inr (Or.inr (Or.inr (Or.inr (Or.inr (Or.inr (Or.inr (Or.inr (Or.inr (hp))))))))) | exact Or.inl (Or.inr hp) | exact Or.inl (Or.inl hp) | exact Or.inl (Or.inl (Or.inr hp)) | exact Or.inl (Or.inl (Or.inl hp)) | exact Or.inl (Or.inr (Or.inl hp)) | exact Or.inr (Or.inl (Or.inr hp)) | exact Or.inr (Or.inl (Or.inl hp)) | exact Or.inr (Or.inl (Or.inl (Or.inr hp))) | exact Or.inr (Or.inl (Or.inl (Or.inl hp))) | exact Or.inr (Or.inl (Or.inr (Or.inl hp))) | exact Or.inr (Or.inr (Or.inl (Or.inr hp))) | exact Or.inr (Or.inr (Or.inl (Or.inl hp))) | exact Or.inr (Or.inr (Or.inl (Or.inl (Or.inr hp)))) | exact Or.inr (Or.inr (Or.inl (Or.inl (Or.inl hp)))) | exact Or.inr (Or.inr (Or.inl (Or.inr (Or.inl hp)))) | exact Or.inr (Or.inr (Or.inr (Or.inl (Or.inr hp)))) | exact Or.inr (Or.inr (Or.inr (Or.inl (Or.inl hp)))) | exact Or.inr (Or.inr (Or.inr (Or.inl (Or.inl (Or.inr hp))))) | exact Or.inr (Or.inr (Or.inr (Or.inl (Or.inl (Or.inl hp))))) | exact Or.inr (Or.inr (Or.inr (Or.inl (Or.inr (Or.inl hp))))) | exact Or.inr (Or.inr (Or.inr (Or.inr (Or.inl (Or.inr hp))))) | exact Or.inr (Or.inr (Or.inr (Or.inr (Or.inl (Or.inl hp))))) | exact Or.inr (Or.inr (Or.inr (Or.inr (Or.inl (Or.inl (Or.inr hp)))))) | exact Or.inr (Or.inr (Or.inr (Or.inr (Or.inl (Or.inl (Or.inl hp)))))) | exact Or.inr (Or.inr (Or.inr (Or.inr (Or.inl (Or.inr (Or.inl hp)))))) | exact Or.inr (Or.inr (Or.inr (Or.inr (Or.inr (Or.inl (Or.inr hp)))))) | exact Or.inr (Or.inr (Or.inr (Or.inr (Or.inr (Or.inl (Or.inl hp)))))) | exact Or.inr (Or.inr (Or.inr (Or.inr (Or.inr (Or.inl (Or.inl (Or.inr hp))))))) | exact Or.inr (Or.inr (Or.inr (Or.inr (Or.inr (Or.inl (Or.inl (Or.inl hp))))))) | exact Or.inr (Or.inr (Or.inr (Or.inr (Or.inr (Or.inl (Or.inr (Or.inl hp))))))) | exact Or.inr (Or.inr (Or.inr (Or.inr (Or.inr (Or.inr (Or.inl (Or.inr hp))))))) | exact Or.inr (Or.inr (Or.inr (Or.inr (Or.inr (Or.inr (Or.inl (Or.inl hp))))))) | exact Or.inr (Or.inr (Or.inr (Or.inr (Or.inr (Or.inr (Or.inl (Or.inl (Or.inr hp)))))))) | exact Or.inr (Or.inr (Or.inr (Or.inr (Or.inr (Or.inr (Or.inl (Or.inl (Or.inl hp)))))))) | exact Or.inr (Or.inr (Or.inr (Or.inr (Or.inr (Or.inr (Or.inl (Or.inr (Or.inl hp)))))))) | exact Or.inr (Or.inr (Or.inr (Or.inr (Or.inr (Or.inr (Or.inr (Or.inl (Or.inr hp)))))))) | exact Or.inr (Or.inr (Or.inr (Or.inr (Or.inr (Or.inr (Or.inr (Or.inl (Or.inl hp)))))))) | exact Or.inr (Or.inr (Or.inr (Or.inr (Or.inr (Or.inr (Or.inr (Or.inl (Or.inl (Or.inr hp))))))))) | exact Or.inr (Or.inr (Or.inr (Or.inr (Or.inr (Or.inr (Or.inr (Or.inl (Or.inl (Or.inl hp))))))))) | exact Or.inr (Or.inr (Or.inr (Or.inr (Or.inr (Or.inr (Or.inr (Or.inl (Or.inr (Or.inl hp)))))))))) | simp [hp]))) hY hend.1 hend.2
end
section
set_option maxRecDepth 100000
set_option maxHeartbeats 4000000
open PySem PySem.W PySem.Calls PyProof.Rows
open AutoSeq1 (wpAny_loadPart')
open MeetsSeq MeetsSeq2 MeetsSeq3 SeqRoads2
section
variable {prog : Program} {w : World} {A : Around} {E : Value → Shared → Prop} {s : Shared}
/-- what a lexical comparison of the pairs tells, item by item, none of which changes the state -/
noncomputable def LexG (prog : Program) (w : World) (A : Around) (s : Shared) (fin : Bool) : List (Value × Value) → Bool → Prop
  | [], r => r = fin
  | (p, q) :: rest, r => ∃ e : Bool, (∀ (E : Value → Shared → Prop) (Q : Bool → Shared → Prop), Q e s → wpAny (model prog w) A (eqBool p q) Q E s) ∧
      if e = true then LexG prog w A s fin rest r else ∀ (E : Value → Shared → Prop) (Q : Value → Shared → Prop), Q (.bool r) s → wpAny (model prog w) A (richCompare .Lt p q) Q E s
theorem tuple_lt_tree {a b : Addr} {oa ob : Obj} {xs ys : Array Value} {na nb : Nat} {r : Bool} {P : PySem.Fin → Shared → Prop} (hoa : s.heap.get? a = some oa) (hda : oa.data = .seq xs na) (hob : s.heap.get? b = some ob) (hcb : ob.cls = .type "tuple") (hdb : ob.data = .seq ys nb)
    (hl : LexG prog w A s (decide (xs.size < ys.size)) (xs.toList.zip ys.toList) r) (h : P (.done (.ret (.bool r))) s) :
    wpAny (model prog w) A (Builtin.«tuple.__lt__» ⟨[.ref a, .ref b], []⟩) P E s := by
  have hTb : s.TypeIs (.ref b) "tuple" := ⟨ob, hob, hcb⟩
  show wpAny _ _ (isInstance (.ref b) (.type "tuple") >>= _) _ _ s
  refine wpAny_bind (wpAny_isInstance hTb isSubtype_tuple_tuple ?_)
  simp only [Bool.not_true, Bool.false_eq_true, if_false]
  refine wpAny_bind (wpAny_tupleItemsOf hoa hda ?_)
  refine wpAny_bind (wpAny_tupleItemsOf hob hdb ?_)
  refine wpAny_bind ?_
  refine wpAny_forIn_list _
    (fun rest r' s' => r'.1 = none ∧ s' = s ∧ LexG prog w A s (decide (xs.size < ys.size)) rest r)
    _ ?_ ?_ _ _ ⟨rfl, rfl, hl⟩
  · rintro ⟨u, v⟩ rest r' s' ⟨hr, rfl, e, he, hrest⟩
    refine wpAny_bind (he _ _ ?_)
    cases e with
    | true =>
      simp only [Bool.not_true, Bool.false_eq_true, if_false, if_true] at hrest ⊢
      exact wpAny_pure ⟨rfl, rfl, hrest⟩
    | false =>
      simp only [Bool.not_false, if_true, Bool.false_eq_true, if_false] at hrest ⊢
      refine wpAny_bind (wpAny_rule ?_)
      refine wpAny_bind (hrest _ _ ?_)
      first
      | exact wpAny_pure (wpAny_pure h)
      | exact wpAny_bind (wpAny_pure (wpAny_pure (wpAny_pure h)))
      | exact wpAny_bind (wpAny_pure (wpAny_pure h))
  · rintro ⟨r1, r2⟩ s' ⟨hr, rfl, hrest⟩
    simp only at hr
    subst hr
    refine wpAny_pure ?_
    have hrest' : r = decide (xs.size < ys.size) := hrest
    show P (.done (.ret (.bool (decide (xs.size < ys.size))))) s'
    rw [← hrest']; exact h
theorem list_lt_loop (l b : Addr) (items items2 : Array Value) (n n2 : Nat) (dd dd2 : Option Addr) (sl sl2 : Array (Option Value)) (r : Bool) (k : Nat) :
    ∀ i : Nat, items.size - i = k → MeetsIn prog w (Builtin.«list.__eq__.loop» ⟨[.ref l, .ref b, rawInt i, rawInt 0], []⟩)
      (fun A R s => s.heap.get? l = some { cls := .type "list", dict := dd, data := .seq items n, slots := sl } ∧ s.heap.get? b = some { cls := .type "list", dict := dd2, data := .seq items2 n2, slots := sl2 } ∧
        LexG prog w A.in1 s (decide (items.size < items2.size)) ((items.toList.drop i).zip (items2.toList.drop i)) r ∧
        R (.ok (.ret (.bool r))) s) := by
  induction k with
  | zero =>
    intro i hk A R s h
    obtain ⟨hp, g, d, tk, os⟩ := s; obtain ⟨hl, hb, he, h⟩ := h
    wp_walk using wpAny_loadPart' hl, wpAny_loadPart' hb
    have hi1 : items[((i : Nat) : Int).toNat]? = none := by simp; omega
    have hd : items.toList.drop i = [] := by simp; omega
    rw [hd] at he
    have he' : r = decide (items.size < items2.size) := by simpa [LexG] using he
    rw [hi1]
    wp_walk using wpAny_loadPart' hl, wpAny_loadPart' hb
    show R (.ok (.ret (.bool (decide (items.size < items2.size))))) _
    rw [← he']
    exact h
  | succ k ih =>
    intro i hk A R s h
    obtain ⟨hp, g, d, tk, os⟩ := s; obtain ⟨hl, hb, he, h⟩ := h
    wp_walk using wpAny_loadPart' hl, wpAny_loadPart' hb
    have hlt : i < items.size := by omega
    have hi1 : items[((i : Nat) : Int).toNat]? = some items[i] := by simp [hlt]
    by_cases hlt2 : i < items2.size
    · have hi2 : items2[((i : Nat) : Int).toNat]? = some items2[i] := by simp [hlt2]
      have hd : items.toList.drop i = items[i] :: items.toList.drop (i + 1) := by simp [List.drop_eq_getElem_cons, hlt]
      have hd2 : items2.toList.drop i = items2[i] :: items2.toList.drop (i + 1) := by simp [List.drop_eq_getElem_cons, hlt2]
      have hc : ((i : Int) + 1) = ((i + 1 : Nat) : Int) := by push_cast; rfl
      rw [hd, hd2, List.zip_cons_cons] at he
      obtain ⟨e, he1, he2⟩ := he
      rw [hi1, hi2]
      refine wpAny_bind (he1 _ _ ?_)
      cases e with
      | true =>
        simp only [if_true] at he2
        wp_walk
        rw [hc]
        exact ⟨plainId_quiet MeetsSeq3.plain_eq_loop _, codeAny_builtin MeetsSeq3.entry_eq_loop (by
          rw [Around.under_plainId MeetsSeq3.plain_eq_loop _]
          exact ih (i + 1) (by omega) A R _ ⟨hl, hb, he2, h⟩)⟩
      | false =>
        simp only [Bool.false_eq_true, if_false] at he2
        wp_walk using wpAny_loadPart' hl, wpAny_loadPart' hb
        rw [hi1, hi2]
        refine wpAny_bind (he2 _ _ ?_)
        wp_walk
        exact h
    · have hi2 : items2[((i : Nat) : Int).toNat]? = none := by simp; omega
      have hd2 : items2.toList.drop i = [] := by simp; omega
      rw [hd2, List.zip_nil_right] at he
      have he' : r = decide (items.size < items2.size) := he
      rw [hi1, hi2]
      wp_walk using wpAny_loadPart' hl, wpAny_loadPart' hb
      show R (.ok (.ret (.bool (decide (items.size < items2.size))))) _
      rw [← he']
      exact h
theorem list_lt_meets (l b : Addr) (items items2 : Array Value) (n n2 : Nat) (dd dd2 : Option Addr) (sl sl2 : Array (Option Value)) (r : Bool) :
    MeetsIn prog w (Builtin.«list.__lt__» ⟨[.ref l, .ref b], []⟩)
      (fun A R s => s.heap.get? l = some { cls := .type "list", dict := dd, data := .seq items n, slots := sl } ∧ s.heap.get? b = some { cls := .type "list", dict := dd2, data := .seq items2 n2, slots := sl2 } ∧
        LexG prog w A.in1 s (decide (items.size < items2.size)) (items.toList.zip items2.toList) r ∧
        R (.ok (.ret (.bool r))) s) := by
  intro A R s h
  obtain ⟨hp, g, d, tk, os⟩ := s; obtain ⟨hl, hb, he, h⟩ := h
  have f3 := AutoSeq1.sub_list_list
  wp_walk using wpAny_loadPart' hl, wpAny_loadPart' hb
  exact ⟨plainId_quiet MeetsSeq3.plain_eq_loop _, codeAny_builtin MeetsSeq3.entry_eq_loop (by
    rw [Around.under_plainId MeetsSeq3.plain_eq_loop _]
    exact list_lt_loop l b items items2 n n2 dd dd2 sl sl2 r _ 0 rfl A R _ ⟨hl, hb, by simpa using he, h⟩)⟩
end
end
section
set_option maxRecDepth 100000
set_option maxHeartbeats 4000000
open PySem PySem.W PySem.Calls PyProof.Rows
section
variable {prog : Program} {w : World} {A : Around} {E : Value → Shared → Prop} {s : Shared} {h₀ : Heap} {L : Addr} {m : Str → Option Value} {news : List (Addr × Obj)}
theorem rc_lt_tuple {a b : Addr} {oa ob : Obj} {xs ys : Array Value} {na nb : Nat} {r : Bool} {Q : Value → Shared → Prop} (hu : A.units < cLine) (hoa : s.heap.get? a = some oa) (hca : oa.cls = .type "tuple") (hda : oa.data = .seq xs na) (hob : s.heap.get? b = some ob) (hcb : ob.cls = .type "tuple") (hdb : ob.data = .seq ys nb)
    (hl : LexG prog w A.in1 s (decide (xs.size < ys.size)) (xs.toList.zip ys.toList) r) (h : Q (.bool r) s) :
    wpAny (model prog w) A (richCompare .Lt (.ref a) (.ref b)) Q E s := by
  have hTa : s.TypeIs (.ref a) "tuple" := ⟨oa, hoa, hca⟩
  have hTb : s.TypeIs (.ref b) "tuple" := ⟨ob, hob, hcb⟩
  exact wpAny_richCompare_same_room (op := .Lt) hTa hTb F.slot_tuple_lt
    (wpAny_call_entry F.slot_tuple_lt hTa F.entry_tuple_lt (tuple_lt_tree hoa hda hob hcb hdb hl ⟨_, rfl, (fun e => nomatch e), h⟩) (F.args_tuple_lt_2 _ _)) hu
theorem oneLt_list {a b : Addr} {xs ys : Array Value} {na nb : Nat} {r : Bool} {Q : Bool → Shared → Prop} (hu : A.units < cLine) (hoa : s.heap.get? a = some (listOf xs na)) (hob : s.heap.get? b = some (listOf ys nb))
    (hl : LexG prog w A.in1 s (decide (xs.size < ys.size)) (xs.toList.zip ys.toList) r) (h : Q r s) :
    wpAny (model prog w) A (oneLt' true (.ref a) (.ref b)) Q E s := by
  have hTa : s.TypeIs (.ref a) "list" := ⟨_, hoa, rfl⟩
  rw [oneLt'_eq]
  simp only [if_true]
  refine wpAny_bind (wpAny_cRoomFor hu ?_)
  refine wpAny_bind (wpAny_callSpecialIfBound?_slot hTa F.slot_list_lt (call_meetsIn F.slot_list_lt hTa F.entry_list_lt (F.args_list_lt_2 _ _) (list_lt_meets a b xs ys na nb none none #[] #[] r) ⟨hoa, hob, hl, ?_⟩))
  exact wpAny_truthy_bool h
theorem typeOf_list {h : Heap} {a : Addr} {xs : Array Value} {n : Nat} (hoa : h.get? a = some (listOf xs n)) : Looks (model prog w) h (typeOf (.ref a)) (.type "list") := (Looks.ld hoa).andThen .now
theorem g_sortedKey {l kq : Addr} {vs : List Value} {Q : Value → Shared → Prop} (F : Fr h₀ L s.heap m) (N : News h₀ L s.heap news) (hl : s.heap.IsList l vs.toArray) (h2 : 2 ≤ vs.length) (h64 : vs.length < 64)
    (KeyOk : List (Addr × Obj) → Value → Value → Prop) (mono : ∀ S S' v k, (∀ p ∈ S, p ∈ S') → KeyOk S v k → KeyOk S' v k)
    (T : Value) (hT1 : (T != Value.type "tuple") = true) (hT2 : (T == T) = true) (hT : ∀ S h v k, News h₀ L h S → KeyOk S v k → Looks (model prog w) h (typeOf k) T)
    (lt : Value → Value → Bool) (O : TPO lt)
    (turn : ∀ v, v ∈ vs → ∀ (kS : Addr) (okS : Obj) (S : List (Addr × Obj)) (h : Heap) (tk : Nat) (Q' : Value → Shared → Prop), Fr h₀ L h m → News h₀ L h ((kS, okS) :: S) → okS.cls = .type "list" → (∀ p ∈ S, p.1 ≠ kS) → (∀ p ∈ news, p ∈ S) →
      (∀ S' k h' tk', Fr h₀ L h' m → News h₀ L h' ((kS, okS) :: S') → (∀ p ∈ S', p.1 ≠ kS) → (∀ p ∈ S, p ∈ S') → KeyOk S' v k → Q' k { s with heap := h', toks := tk' }) →
      wpAny (model prog w) A.in1.in1 (call (.ref kq) [v]) Q' (fun _ _ => False) { s with heap := h, toks := tk })
    (cmp : ∀ v₁ v₂ k₁ k₂ S (s' : Shared) (Q' : Bool → Shared → Prop), v₁ ∈ vs → v₂ ∈ vs → News h₀ L s'.heap S → KeyOk S v₁ k₁ → KeyOk S v₂ k₂ → (∀ tk, Q' (lt v₁ v₂) { s' with toks := tk }) → wpAny (model prog w) A.in1.in1 (keyLt' oneType' k₁ k₂) Q' (fun _ _ => False) s')
    (done : ∀ D c out h' tk', Fr h₀ L h' m → News h₀ L h' ((D, listOf (List.toArray out) c) :: news) → (∀ q ∈ news, q.1 < D) → out.Perm vs → out.Pairwise (fun a b => lt b a = false) → Q (.ref D) { s with heap := h', toks := tk' }) :
    wpAny (model prog w) A (call (.builtin "sorted") [.ref l] [(Str.ofString "key", .ref kq)]) Q E s := by
  refine kat_sortedK (b := false) F N hl h2 h64 (ksk_s1 _ _) (fun _ => ksk_l1 _ _) (fun _ => ksk_t1 _ _) fun D kS e1 h' F' N' hDk hlt => ?_
  have go : ∀ (r ks done : List Value) (e : Nat) (S : List (Addr × Obj)) (h : Heap) (tk : Nat), vs = done ++ r → ks.length = done.length → Fr h₀ L h m → News h₀ L h ((kS, seqObj "list" (List.toArray ks) e) :: S) → (∀ p ∈ S, p.1 ≠ kS) → (D, seqObj "list" #[] e1) ∈ S → (∀ p ∈ news, p ∈ S) →
      (∀ i, i < ks.length → KeyOk S (done.getD i .none) (ks.getD i .none)) →
      KatKeys prog w A.in1.in1 h₀ L m kS (.ref kq) (fun ks e s' => wpAny (model prog w) A.in1.in1 (keyKind' (List.toArray ks)) (fun κ s'' => (kas_sort vs.length).kasWp (kas_ask prog w A.in1.in1 κ (katRev false ks)) (fun p s3 => KatFin h₀ L m kS D ks e e1 (katRev false (p.toList.map fun i => (katRev false vs).getD i Value.none)) (fun s4 => Q (.ref D) s4) s3) s'') (fun _ _ => False) s') r ks e { s with heap := h, toks := tk } := by
    intro r
    induction r with
    | nil =>
      intro ks dn e S h tk hvs hlen F₁ N₁ hne hD hn hk
      rw [List.append_nil] at hvs
      subst hvs
      refine KatKeys.nil ?_
      have N₂ : News h₀ L h S := fun p hp => N₁ p (List.mem_cons_of_mem _ hp)
      refine kas_kind (T := T) (by omega) (fun v hv => ?_) hT1 hT2 ?_
      · obtain ⟨i, hi, rfl⟩ := List.mem_iff_getElem.mp hv
        have := hT S h _ _ N₂ (hk i hi)
        rwa [List.getD_eq_getElem?_getD (l := ks), List.getElem?_eq_getElem hi] at this
      · refine kasWp_good (n := vs.length) (lt := fun i j => lt (vs.getD i .none) (vs.getD j .none)) (fun s' => ∃ tk, s' = { s with heap := h, toks := tk }) (fun i j C s' hi hj hI hC => ?_) _ _
          (sort_good ⟨fun a b _ _ q => O.asymm _ _ q, fun a b c _ _ _ q q' => O.trans _ _ _ q q'⟩ (by omega)) ⟨tk, rfl⟩ (fun p s' hp hI => ?_)
        · obtain ⟨tk', rfl⟩ := hI
          show wpAny _ _ (keyLt' oneType' (ks.getD i .none) (ks.getD j .none)) _ _ _
          have m1 : ∀ i, i < vs.length → vs.getD i .none ∈ vs := fun i hi => by
            rw [List.getD_eq_getElem?_getD, List.getElem?_eq_getElem hi]; exact List.getElem_mem hi
          exact cmp _ _ _ _ S _ _ (m1 i hi) (m1 j hj) N₂ (hk i (by omega)) (hk j (by omega)) fun tk => hC _ ⟨tk, rfl⟩
        · obtain ⟨tk', rfl⟩ := hI
          have hso := sorted_out (lt := lt) hp.1 hp.2
          refine KatFin.intro F₁ N₁ (UpdF.head hne) fun h3 c F₃ N₃ => KasFin.intro F₃ (news := (D, seqObj "list" #[] e1) :: news) (fun p hp => ?_) (UpdF.head fun p hp => Nat.ne_of_lt (hlt p hp)) fun h4 c' F₄ N₄ => done D c' _ h4 tk' F₄ N₄ hlt hso.1 hso.2
          refine N₃ p (List.mem_cons_of_mem _ ?_)
          rcases List.mem_cons.mp hp with rfl | hp
          · exact hD
          · exact hn p hp
    | cons v r ih =>
      intro ks dn e S h tk hvs hlen F₁ N₁ hne hD hn hk
      refine KatKeys.cons (turn v (by rw [hvs]; simp) kS _ S h tk _ F₁ N₁ rfl hne hn fun S' k h₁ tk' F₂ N₂ hne' hsub hok => ?_)
      refine KatBack.intro F₂ N₂ (UpdF.head hne') fun h₃ c F₃ N₃ => ?_
      refine ih (ks ++ [k]) (dn ++ [v]) c S' h₃ tk' (by rw [hvs]; simp) (by simp [hlen]) F₃ N₃ hne' (hsub _ hD) (fun p hp => hsub p (hn p hp)) fun i hi => ?_
      rw [List.length_append, List.length_singleton] at hi
      by_cases hik : i < ks.length
      · have := mono _ _ _ _ hsub (hk i hik)
        rw [List.getD_eq_getElem?_getD, List.getD_eq_getElem?_getD, List.getElem?_append_left (by omega), List.getElem?_append_left hik, ← List.getD_eq_getElem?_getD, ← List.getD_eq_getElem?_getD]
        exact this
      · have e1 : i = ks.length := by omega
        subst e1
        rw [List.getD_eq_getElem?_getD, List.getD_eq_getElem?_getD, hlen, List.getElem?_concat_length, ← hlen, List.getElem?_concat_length]
        exact hok
  refine go vs [] [] 0 ((D, seqObj "list" #[] e1) :: news) h' s.toks rfl rfl F' N' (fun p hp => ?_) (List.mem_cons_self ..) (fun p hp => List.mem_cons_of_mem _ hp) (fun i hi => absurd hi (Nat.not_lt_zero _))
  rcases List.mem_cons.mp hp with rfl | hp
  · exact Nat.ne_of_lt hDk
  · exact Nat.ne_of_lt (Nat.lt_trans (hlt p hp) hDk)
end
end
section
set_option maxRecDepth 100000
set_option maxHeartbeats 4000000
open PySem PySem.W PySem.Calls PyProof.Rows
open PyProof.Rows.LCg
inductive RankC (news : List (Addr × Obj)) : List Nat → List Value → Prop
  | nil : RankC news [] []
  | cons {cs : List Nat} {ys : List Value} {c : Nat} {a : Addr} {t u : Tok} : (a, tupI (rk c).1 (rk c).2 t u) ∈ news → RankC news cs ys → RankC news (c :: cs) (.ref a :: ys)
theorem RankC.snoc {news : List (Addr × Obj)} {cs : List Nat} {ys : List Value} {c : Nat} {a : Addr} {t u : Tok} (r : RankC news cs ys) (hm : (a, tupI (rk c).1 (rk c).2 t u) ∈ news) : RankC news (cs ++ [c]) (ys ++ [.ref a]) := by
  induction r with
  | nil => exact .cons hm .nil
  | cons m _ ih => exact .cons m ih
theorem RankL.toC {news : List (Addr × Obj)} {cs : List Nat} {ys : List Value} (r : RankL news cs ys) : RankC news cs ys := by
  induction r with
  | nil => exact .nil
  | snoc _ m ih => exact ih.snoc m
theorem RankL.filt {h₀ h : Heap} {L kS : Addr} {okS : Obj} {news : List (Addr × Obj)} {cs : List Nat} {ys : List Value} (N : News h₀ L h news) (hk : (kS, okS) ∈ news) (hc : okS.cls = .type "list") (r : RankL news cs ys) : RankL (news.filter fun p => decide (p.1 ≠ kS)) cs ys := by
  induction r with
  | nil => exact .nil
  | @snoc cs ys c a t u _ m ih =>
    refine .snoc ih (t := t) (u := u) (List.mem_filter.mpr ⟨m, decide_eq_true ?_⟩)
    intro e
    have h1 := (N _ m).1
    have h2 := (N _ hk).1
    simp only at h1 h2 e
    rw [e, h2] at h1
    have h3 := congrArg Obj.cls (Option.some.inj h1)
    rw [hc] at h3
    exact absurd h3 (by first | k_mem | simp)
section
variable {prog : Program} {w : World} {A : Around} {s : Shared} {h₀ : Heap} {L : Addr} {news : List (Addr × Obj)}
theorem lexG_ints {a1 a2 b1 b2 : Nat} {t t2 u u2 : Tok} : LexG prog w A s false [(.int (a1 : Int) t, .int (b1 : Int) u), (.int (a2 : Int) t2, .int (b2 : Int) u2)] (pLt (a1, a2) (b1, b2)) := by
  refine ⟨((a1 : Int) == b1), fun E Q h => wpAny_eqBool_int h, ?_⟩
  unfold pLt
  by_cases h1 : a1 = b1
  · rw [if_pos (by simp [h1])]
    refine ⟨((a2 : Int) == b2), fun E Q h => wpAny_eqBool_int h, ?_⟩
    dsimp only
    rw [if_pos h1]
    by_cases h2 : a2 = b2
    · rw [if_pos (by simp [h2])]
      show _ = false
      simp [h2]
    · rw [if_neg (by simp; omega)]
      intro E Q h
      refine wpAny_lt_int ?_
      have : decide ((a2 : Int) < b2) = decide (a2 < b2) := by simp
      rw [this]; exact h
  · rw [if_neg (by simp; omega)]
    dsimp only
    rw [if_neg h1]
    intro E Q h
    refine wpAny_lt_int ?_
    have : decide ((a1 : Int) < b1) = decide (a1 < b1) := by simp
    rw [this]; exact h
theorem tupKey {a : Addr} {x y : Nat} {t u : Tok} (N : News h₀ L s.heap news) (hm : (a, tupI x y t u) ∈ news) : IsTupleKey (PySem.intKind prog w) s.heap [(x : Int), (y : Int)] a :=
  ⟨_, _, _, (N _ hm).1, rfl, rfl, .cons (intKind_is _ _ _ _) (.cons (intKind_is _ _ _ _) .nil)⟩
theorem lexG_rank (hu : A.units < cLine) (N : News h₀ L s.heap news) : ∀ {cs ds : List Nat} {ys zs : List Value}, RankC news cs ys → RankC news ds zs → LexG prog w A s (decide (ys.length < zs.length)) (ys.zip zs) (rankLt cs ds) := by
  intro cs ds ys zs h1
  induction h1 generalizing ds zs with
  | nil =>
    intro h2
    cases h2 with
    | nil => rfl
    | cons _ _ => show _ = _; simp [rankLt]
  | @cons cs ys c a t u m _ ih =>
    intro h2
    cases h2 with
    | nil => show _ = _; simp [rankLt]
    | @cons ds zs d b t' u' m' h2 =>
      refine ⟨decide ([((rk c).1 : Int), ((rk c).2 : Int)] = [((rk d).1 : Int), ((rk d).2 : Int)]), fun E Q h => wpAny_eqBool_tuple hu (tupKey N m) (tupKey N m') h, ?_⟩
      rw [rankLt]
      by_cases hk : rk c = rk d
      · rw [if_pos (by simp [hk]), if_pos hk]
        have e : decide ((Value.ref a :: ys).length < (Value.ref b :: zs).length) = decide (ys.length < zs.length) := by simp
        rw [e]
        exact ih h2
      · have hk' : ¬ ((rk c).1 = (rk d).1 ∧ (rk c).2 = (rk d).2) := fun q => hk (Prod.ext q.1 q.2)
        rw [if_neg (by simp; omega), if_neg hk]
        intro E Q h
        exact rc_lt_tuple hu (N _ m).1 rfl rfl (N _ m').1 rfl rfl (lexG_ints (a1 := (rk c).1) (a2 := (rk c).2) (b1 := (rk d).1) (b2 := (rk d).2)) h
end
noncomputable def KeyR (S : List (Addr × Obj)) (v k : Value) : Prop := ∃ a ys, k = .ref a ∧ (a, lst ys) ∈ S ∧ RankL S (strOf v).cps.toList ys
theorem c_sortRank {w : World} {mean : ExcName → Option Value} {mg mb : Str → Option Value} :
   ∀ (dp un : Nat) (gd : Option (List Code)) (cn : Str) (cs : Scope) (a : Addr) (ccd : Value) (cl : List (Str × Addr)) (outer : List Env) (A₀ : Around) (base h₀ : Heap) (L : Addr) (m : Str → Option Value) (rest : List (Addr × Obj)) (s : Shared) (l : Addr) (n : Nat) (vs : List Value)
    (Q E : Value → Shared → Prop),
    Below A₀ base outer h₀ → Fr h₀ L s.heap m → (hd.heap_39 w.params).In h₀ → News h₀ L s.heap ((l, listOf vs.toArray n) :: rest) →
    Top hd.view_39 (looseW hd.view_39 [Str.ofString "nsmallest", Str.ofString "escape", Str.ofString "unescape"]) mean mg mb h₀ → cs.kind = .function →
    (∀ v ∈ vs, IsS v) → (∀ v ∈ vs, (strOf v).length ≤ 1000) → 2 ≤ vs.length → vs.length < 64 → dp + 10 < recursionLimit → un + 900 < cLine →
    (∀ h' tk' (D : Addr) (out : List Value) (c9 : Nat), Fr h₀ L h' m → News h₀ L h' ((D, listOf out.toArray c9) :: (l, listOf vs.toArray n) :: rest) → (∀ p ∈ ((l, listOf vs.toArray n) :: rest : List (Addr × Obj)), p.1 < D) → out.Perm vs → out.Pairwise (fun a b => rankV b a = false) → Q (.ref D) { s with heap := h', toks := tk' }) →
    wpAny (model PySem.Challenge.rw_ij0043_01.row.prog w) (ktrTop dp un gd cn cs L a ccd cl outer) (call (.builtin "sorted") [.ref l] [(Str.ofString "key", .ref 111)]) Q E s := by
  w_top off
  k_fill
  k_with_none
  k_with "call builtin:len" => (k_here; (with_reducible show wpAny _ _ (call (Value.builtin "len") [Value.ref _]) _ _ _); k_dflt (refine g_len (by k_asm) (by k_mem) (by first | omega | (simp only [List.length_append, List.length_cons, List.length_nil, List.length_set, List.length_dropLast, List.size_toArray] at *; omega)) ?_; k_whole); intro _ _)
  k_with "subscriptTail" => (k_here; (with_reducible show wpAny _ _ (subscriptTail _ _ (Value.ref _) (Value.int _ _)) _ _ _); k_dflt (refine g_sub (by k_asm) (by k_mem) (by first | omega | (simp only [List.length_append, List.length_cons, List.length_nil, List.length_set, List.length_dropLast, List.size_toArray] at *; omega)) (by first | omega | (simp only [List.length_append, List.length_cons, List.length_nil, List.length_set, List.length_dropLast, List.size_toArray] at *; omega)) (by first | omega | (simp only [List.length_append, List.length_cons, List.length_nil, List.length_set, List.length_dropLast, List.size_toArray] at *; omega)) ?_ (by with_unfolding_all rfl); k_whole))
  k_with "binaryOp RShift int int" => (k_here; (refine g_shr1 (by first | omega | (simp only [List.length_append, List.length_cons, List.length_nil, List.length_set, List.length_dropLast, List.size_toArray] at *; omega)) ?_); intro _ _)
  k_with "setItem ref int" => (k_here; (try dsimp only); k_dflt (refine g_set (by k_asm) (by k_asm) (by exact Upd.head (by assumption)) (by first | omega | (simp only [List.length_append, List.length_cons, List.length_nil, List.length_set, List.length_dropLast, List.size_toArray] at *; omega)) (by first | omega | (simp only [List.length_append, List.length_cons, List.length_nil, List.length_set, List.length_dropLast, List.size_toArray] at *; omega)) (by first | omega | (simp only [List.length_append, List.length_cons, List.length_nil, List.length_set, List.length_dropLast, List.size_toArray] at *; omega)) ?_; k_whole); intro h9q F9q N9q; (try k_sweep))
  k_with "call builtin:list.append" => (k_here; (with_reducible show wpAny _ _ (call (Value.builtin _) [Value.ref _, _]) _ _ _); k_dflt (refine g_app (by k_asm) (by k_asm) (by exact Upd.head (by assumption)) (by first | omega | (simp only [List.length_append, List.length_cons, List.length_nil, List.length_set, List.length_dropLast, List.size_toArray] at *; omega)) ?_; k_whole); intro h9q F9q N9q; (try k_sweep))
  k_with "call builtin:list.pop" => (k_here; (with_reducible show wpAny _ _ (call (Value.builtin _) [Value.ref _]) _ _ _); k_dflt (refine g_pop (by k_asm) (by k_asm) (by exact Upd.head (by assumption)) (by first | omega | (simp only [List.length_append, List.length_cons, List.length_nil, List.length_set, List.length_dropLast, List.size_toArray] at *; omega)) (by first | omega | (simp only [List.length_append, List.length_cons, List.length_nil, List.length_set, List.length_dropLast, List.size_toArray] at *; omega)) ?_; k_whole); intro h9q F9q N9q; (try k_sweep))
  k_with "truthy ref" => (k_here; (with_reducible show wpAny _ _ (truthy (Value.ref _)) _ _ _); k_dflt (refine g_truthy (by k_asm) (by k_mem) (by first | omega | (simp only [List.length_append, List.length_cons, List.length_nil, List.length_set, List.length_dropLast, List.size_toArray] at *; omega)) ?_; k_whole); intro _)
  k_with "exec For Name Name cons nil" => (k_here; (rename Fr _ _ _ _ => lF'); k_dflt (with_unfolding_all refine For_invVF lF' (by exact rfl) (by exact rfl) ?_; k_whole))
  intro dp un gd cn cs a ccd cl outer A₀ base h₀ L m rest s l n vs Q E B F X N T hk hS hL h2 h64 hdp hun hret
  have hl : s.heap.IsList l vs.toArray := PySem.IsL.isList (n := n) (N (l, listOf vs.toArray n) (by first | k_mem | simp)).1
  refine g_sortedKey F N hl h2 h64 KeyR ?_ (.type "list") (by rfl) (by rfl) ?_ rankV (rankV_escV ▸ tpo_escV) ?_ ?_ ?_
  · rintro S S' v k hs ⟨a, ys, e, hm, r⟩
    exact ⟨a, ys, e, hs _ hm, r.more hs⟩
  · rintro S h v k NS ⟨a, ys, rfl, hm, r⟩
    exact typeOf_list (NS _ hm).1
  · intro v hv kS okS S h tk Q' F₁ N₁ hcl hne hsub hq
    obtain ⟨x, t, rfl⟩ := hS v hv
    refine c_rank _ _ _ _ _ _ _ _ _ _ _ _ _ _ ((kS, okS) :: S) { s with heap := h, toks := tk } x t _ _ B F₁ X N₁ T hk (hL _ hv) (by ktr_room) (by ktr_units) ?_
    intro h' tk' D ys news9 F' N' hr9 hO hR
    have N9 : News h₀ L h' news9 := fun p hp => N' p (List.mem_cons_of_mem _ hp)
    have hDk : D ≠ kS := by
      have hm := hr9 (kS, okS) (List.mem_cons_self ..)
      have : ∀ {l : List (Addr × Obj)}, Off1 D l → ∀ p ∈ l, p.1 ≠ D := by
        intro l
        induction l with
        | nil => intro _ p hp; cases hp
        | cons q r ih =>
          intro ho p hp
          rcases List.mem_cons.mp hp with rfl | hp
          · exact ho.1
          · exact ih ho.2 p hp
      exact (this hO _ hm).symm
    refine hq (((D, lst ys) :: news9).filter fun p => decide (p.1 ≠ kS)) (.ref D) h' tk' F' (fun p hp => ?_) (fun p hp => of_decide_eq_true (List.mem_filter.mp hp).2) (fun p hp => ?_) ⟨D, ys, rfl, ?_, ?_⟩
    · rcases List.mem_cons.mp hp with rfl | hp
      · exact N9 _ (hr9 _ (List.mem_cons_self ..))
      · exact N' p (List.mem_filter.mp hp).1
    · exact List.mem_filter.mpr ⟨List.mem_cons_of_mem _ (hr9 _ (List.mem_cons_of_mem _ hp)), decide_eq_true (hne p hp)⟩
    · exact List.mem_filter.mpr ⟨List.mem_cons_self .., decide_eq_true hDk⟩
    · refine (hR.filt N9 (hr9 _ (List.mem_cons_self ..)) hcl).more fun p hp => ?_
      have := List.mem_filter.mp hp
      exact List.mem_filter.mpr ⟨List.mem_cons_of_mem _ this.1, this.2⟩
  · rintro v₁ v₂ k₁ k₂ S s' Q' hv₁ hv₂ NS ⟨a9, ys, rfl, hm, r⟩ ⟨b9, zs, rfl, hm', r'⟩ hq
    rw [keyLt'_oneType]
    refine oneLt_list (by ktr_units) (NS _ hm).1 (NS _ hm').1 (r := rankV v₁ v₂) ?_ ?_
    · have := lexG_rank (prog := PySem.Challenge.rw_ij0043_01.row.prog) (w := w) (A := (ktrTop dp un gd cn cs L a ccd cl outer).in1.in1.in1) (by ktr_units) NS r.toC r'.toC
      rw [List.size_toArray, List.size_toArray]
      exact this
    · exact hq s'.toks
  · intro D c out h' tk' F' N' hlt hp hw
    exact hret h' tk' D out c F' N' hlt hp hw
theorem c_sortEsc {w : World} {mean : ExcName → Option Value} {mg mb : Str → Option Value} :
   ∀ (dp un : Nat) (gd : Option (List Code)) (cn : Str) (cs : Scope) (a : Addr) (ccd : Value) (cl : List (Str × Addr)) (outer : List Env) (A₀ : Around) (base h₀ : Heap) (L : Addr) (m : Str → Option Value) (rest : List (Addr × Obj)) (s : Shared) (l : Addr) (n : Nat) (vs : List Value)
    (Q E : Value → Shared → Prop),
    Below A₀ base outer h₀ → Fr h₀ L s.heap m → (hd.heap_39 w.params).In h₀ → News h₀ L s.heap ((l, listOf vs.toArray n) :: rest) →
    Top hd.view_39 (looseW hd.view_39 [Str.ofString "nsmallest", Str.ofString "escape", Str.ofString "unescape"]) mean mg mb h₀ → cs.kind = .function →
    (∀ v ∈ vs, IsS v) → (∀ v ∈ vs, (strOf v).length ≤ 1000) → 2 ≤ vs.length → vs.length < 64 → dp + 10 < recursionLimit → un + 900 < cLine →
    (∀ h' tk' (D : Addr) (out : List Value) (c9 : Nat), Fr h₀ L h' m → News h₀ L h' ((D, listOf out.toArray c9) :: (l, listOf vs.toArray n) :: rest) → (∀ p ∈ ((l, listOf vs.toArray n) :: rest : List (Addr × Obj)), p.1 < D) → out.Perm vs → out.Pairwise (fun a b => escV b a = false) → Q (.ref D) { s with heap := h', toks := tk' }) →
    wpAny (model PySem.Challenge.rw_ij0043_01.row.prog w) (ktrTop dp un gd cn cs L a ccd cl outer) (call (.builtin "sorted") [.ref l] [(Str.ofString "key", .ref 92)]) Q E s := by
  w_top off
  k_fill
  k_with_none
  k_with "call builtin:len" => (k_here; (with_reducible show wpAny _ _ (call (Value.builtin "len") [Value.ref _]) _ _ _); k_dflt (refine g_len (by k_asm) (by k_mem) (by first | omega | (simp only [List.length_append, List.length_cons, List.length_nil, List.length_set, List.length_dropLast, List.size_toArray] at *; omega)) ?_; k_whole); intro _ _)
  k_with "subscriptTail" => (k_here; (with_reducible show wpAny _ _ (subscriptTail _ _ (Value.ref _) (Value.int _ _)) _ _ _); k_dflt (refine g_sub (by k_asm) (by k_mem) (by first | omega | (simp only [List.length_append, List.length_cons, List.length_nil, List.length_set, List.length_dropLast, List.size_toArray] at *; omega)) (by first | omega | (simp only [List.length_append, List.length_cons, List.length_nil, List.length_set, List.length_dropLast, List.size_toArray] at *; omega)) (by first | omega | (simp only [List.length_append, List.length_cons, List.length_nil, List.length_set, List.length_dropLast, List.size_toArray] at *; omega)) ?_ (by with_unfolding_all rfl); k_whole))
  k_with "binaryOp RShift int int" => (k_here; (refine g_shr1 (by first | omega | (simp only [List.length_append, List.length_cons, List.length_nil, List.length_set, List.length_dropLast, List.size_toArray] at *; omega)) ?_); intro _ _)
  k_with "setItem ref int" => (k_here; (try dsimp only); k_dflt (refine g_set (by k_asm) (by k_asm) (by exact Upd.head (by assumption)) (by first | omega | (simp only [List.length_append, List.length_cons, List.length_nil, List.length_set, List.length_dropLast, List.size_toArray] at *; omega)) (by first | omega | (simp only [List.length_append, List.length_cons, List.length_nil, List.length_set, List.length_dropLast, List.size_toArray] at *; omega)) (by first | omega | (simp only [List.length_append, List.length_cons, List.length_nil, List.length_set, List.length_dropLast, List.size_toArray] at *; omega)) ?_; k_whole); intro h9q F9q N9q; (try k_sweep))
  k_with "call builtin:list.append" => (k_here; (with_reducible show wpAny _ _ (call (Value.builtin _) [Value.ref _, _]) _ _ _); k_dflt (refine g_app (by k_asm) (by k_asm) (by exact Upd.head (by assumption)) (by first | omega | (simp only [List.length_append, List.length_cons, List.length_nil, List.length_set, List.length_dropLast, List.size_toArray] at *; omega)) ?_; k_whole); intro h9q F9q N9q; (try k_sweep))
  k_with "call builtin:list.pop" => (k_here; (with_reducible show wpAny _ _ (call (Value.builtin _) [Value.ref _]) _ _ _); k_dflt (refine g_pop (by k_asm) (by k_asm) (by exact Upd.head (by assumption)) (by first | omega | (simp only [List.length_append, List.length_cons, List.length_nil, List.length_set, List.length_dropLast, List.size_toArray] at *; omega)) (by first | omega | (simp only [List.length_append, List.length_cons, List.length_nil, List.length_set, List.length_dropLast, List.size_toArray] at *; omega)) ?_; k_whole); intro h9q F9q N9q; (try k_sweep))
  k_with "truthy ref" => (k_here; (with_reducible show wpAny _ _ (truthy (Value.ref _)) _ _ _); k_dflt (refine g_truthy (by k_asm) (by k_mem) (by first | omega | (simp only [List.length_append, List.length_cons, List.length_nil, List.length_set, List.length_dropLast, List.size_toArray] at *; omega)) ?_; k_whole); intro _)
  k_with "exec For Name Name cons nil" => (k_here; (rename Fr _ _ _ _ => lF'); k_dflt (with_unfolding_all refine For_invVF lF' (by exact rfl) (by exact rfl) ?_; k_whole))
  intro dp un gd cn cs a ccd cl outer A₀ base h₀ L m rest s l n vs Q E B F X N T hk hS hL h2 h64 hdp hun hret
  have hl : s.heap.IsList l vs.toArray := PySem.IsL.isList (n := n) (N (l, listOf vs.toArray n) (by first | k_mem | simp)).1
  refine g_sortedKey F N hl h2 h64 (fun _ v k => ∃ t, k = .str (esc (strOf v)) t) ?_ (.type "str") (by rfl) (by rfl) ?_ escV tpo_escV ?_ ?_ ?_
  · rintro S S' v k hs h
    exact h
  · rintro S h v k NS ⟨t, rfl⟩
    exact Looks.of_pure rfl
  · intro v hv kS okS S h tk Q' F₁ N₁ hcl hne hsub hq
    obtain ⟨x, t, rfl⟩ := hS v hv
    refine c_escape _ _ _ _ _ _ _ _ _ _ _ _ _ _ ((kS, okS) :: S) { s with heap := h, toks := tk } x t _ _ B F₁ X N₁ T hk (hL _ hv) (by ktr_room) (by ktr_units) ?_
    intro h' tk' t' F' N'
    exact hq S _ h' tk' F' N' hne (fun _ h => h) ⟨_, rfl⟩
  · rintro v₁ v₂ k₁ k₂ S s' Q' hv₁ hv₂ NS ⟨t, rfl⟩ ⟨t', rfl⟩ hq
    exact kas_lt_str (hq s'.toks)
  · intro D c out h' tk' F' N' hlt hp hw
    exact hret h' tk' D out c F' N' hlt hp hw
end
section
set_option maxRecDepth 100000
set_option maxHeartbeats 4000000
open PySem PySem.W PySem.Calls PyProof.Rows
theorem ob_mro : mroOf (.type "object") = pure [.type "object"] := by rw [mroOf_type]; kernel_rfl
theorem ob_new : typeLookup (.type "object") "__new__" = pure (some (.builtin "object.__new__")) := by rw [typeLookup_type, builtinLookup_eq_fast]; kernel_rfl
theorem ob_init : Slot "object" "__init__" "object.__init__" :=
  .of (owner := "object") (n := "__init__") (by rw [typeLookup_type, builtinLookup_eq_fast]; kernel_rfl) (by decide +kernel) (by decide +kernel) (by decide +kernel)
    (by first | exact .inl (by decide +kernel) | exact .inr (by decide +kernel)) (by rw [isSubtype_type]; kernel_rfl)
theorem ob_called : TypeCalled "object" "object.__new__" "object.__init__" :=
  ⟨by decide +kernel, by decide +kernel, ⟨_, _, ob_mro⟩, madeBy_type ob_mro ob_new (by decide +kernel), by decide +kernel, by rw [isSubtype_type]; kernel_rfl, ob_init⟩
theorem ob_typeCall : checkTypeCall "object" ⟨[], []⟩ = pure () := by kernel_rfl
theorem ob_newCall : checkBuiltinCall "object.__new__" ⟨[.type "object"], []⟩ = pure () := by kernel_rfl
theorem ob_initOk (a : Value) : argsOk "object.__init__" ⟨[a], []⟩ := by unfold argsOk; kernel_rfl
theorem ob_new_meets (prog : Program) (w : World) : MeetsIn prog w (Builtin.«object.__new__» ⟨[.type "object"], []⟩) (fun _ R s => R (.ok (.ret (.ref s.heap.objs.size))) { s with heap := s.heap.push { cls := .type "object", data := .plain } }) :=
  .of_wp fun A R s h => by
    have hd : typeHasDict (.type "object") = false := by kernel_rfl
    have hr : diesByItsTypesDel "object" = false := by kernel_rfl
    have hm : Bind.madeHere "object.__new__" (.type "object") = pure () := by first | rfl | kernel_rfl
    obtain ⟨hp, g, d, tk, os⟩ := s
    show wpAny _ _ _ _ _ _
    unfold Builtin.«object.__new__»
    wp_walk
    exact ⟨_, rfl, h⟩
noncomputable abbrev litObj (l : Addr) (i : Nat) : Obj := { cls := .type "list_iterator", data := .fields #[.ref l, .int (i : Int) 0] }
noncomputable abbrev objObj : Obj := { cls := .type "object", data := .plain }
section
variable {prog : Program} {w : World} {A : Around} {E : Value → Shared → Prop} {s : Shared} {h₀ : Heap} {L : Addr} {m : Str → Option Value} {news : List (Addr × Obj)}
theorem g_object {Q : Value → Shared → Prop} (F : Fr h₀ L s.heap m) (N : News h₀ L s.heap news)
    (h : ∀ D h', Fr h₀ L h' m → News h₀ L h' ((D, objObj) :: news) → (∀ p ∈ news, p.1 < D) → Q (.ref D) { s with heap := h' }) : wpAny (model prog w) A (call (.type "object") []) Q E s := by
  refine callType_meetsIn (Q₁ := fun obj s₁ => obj = .ref s.heap.objs.size ∧ s₁ = { s with heap := s.heap.push objObj }) ob_called ob_typeCall ob_newCall PySem.F.entry_object_new PySem.F.entry_object_init (ob_new_meets prog w) ⟨rfl, rfl⟩ ?_
  rintro obj s₁ ⟨rfl, rfl⟩
  refine ⟨⟨_, Heap.get?_push_size _ rfl, rfl⟩, ob_initOk _, (fun _ R s => R (.ok (.ret .none)) s), Meets.of_wp fun prog w A R s hq => wpAny_pure ⟨_, rfl, hq⟩, rfl, ?_⟩
  exact h _ _ (F.push _) (N.push F _) fun p hp => Heap.lt_size (N p hp).1
theorem g_iter {l : Addr} {vs : List Value} {n : Nat} {Q : Value → Shared → Prop} (F : Fr h₀ L s.heap m) (N : News h₀ L s.heap news) (hm : (l, listOf vs.toArray n) ∈ news)
    (h : ∀ I h', Fr h₀ L h' m → News h₀ L h' ((I, litObj l 0) :: news) → (∀ p ∈ news, p.1 < I) → Q (.ref I) { s with heap := h' }) : wpAny (model prog w) A (call (.builtin "iter") [.ref l]) Q E s := by
  have hl : s.heap.IsList l vs.toArray := PySem.IsL.isList (n := n) (N _ hm).1
  refine call_function_entry (by decide +kernel) (by decide +kernel) kdk_entry_iter (kdk_args_iter _) ?_
  unfold Builtin.«iter»
  refine wpAny_bind (m := someArgs "iter" 1 2 _) (wpAny_of_eq (a := [Value.ref l]) (by first | rfl | kernel_rfl!) ?_)
  show wpAny _ _ (pyIter (.ref l) >>= _) _ _ _
  refine wpAny_bind (wpAny_pyIter_list hl ?_)
  exact wpAny_pure ⟨_, rfl, h _ _ (F.push _) (News.push F N _ rfl) (fun q hq => Heap.lt_size (N q hq).1)⟩
theorem gmin_args (a d v : Value) : argsOk "min" ⟨[a], [(Str.ofString "default", d), (Str.ofString "key", v)]⟩ := by unfold argsOk; kernel_rfl
variable {l q I S : Addr} {vs : List Value} {R : Result → Shared → Prop} {d : Value}
noncomputable def GKey (h₀ : Heap) (L : Addr) (m : Str → Option Value) (need : List (Addr × Obj)) (KOk : Nat → Value → Prop) (i : Nat) (s₁ : Shared) (v : Value) (s₂ : Shared) : Prop :=
  ∃ h' tk, s₂ = { s₁ with heap := h', toks := tk } ∧ KOk i v ∧ Fr h₀ L h' m ∧ News h₀ L h' need
theorem gmin_loop (KOk : Nat → Value → Prop) (lt : Nat → Nat → Bool) (O1 : ∀ a b, lt a b = true → lt b a = false) (O2 : ∀ a b c, lt b a = false → lt c b = false → lt c a = false)
    (hcmp : CmpOf prog w A.in1 .Lt KOk lt) (hh : A.handled = none) (hl : ∀ h, Fr h₀ L h m → News h₀ L h news → h.IsList l vs.toArray) (hlI : l ≠ I) (hSI : S ≠ I) (hnS : ∀ p ∈ news, p.1 ≠ S) (hnI : ∀ p ∈ news, p.1 ≠ I)
    (turn : ∀ (i : Nat) (v : Value), vs[i]? = some v → ∀ (h : Heap) (tk : Nat) (own : List (Addr × Obj)), Fr h₀ L h m → News h₀ L h (news ++ own) →
      wpAny (model prog w) A.in1 (call (.ref q) [v]) (GKey h₀ L m (news ++ own) KOk i { s with heap := h, toks := tk }) (fun _ _ => False) { s with heap := h, toks := tk })
    (hR : ∀ i v h' tk', vs[i]? = some v → (∀ j, j < vs.length → lt j i = false) → Fr h₀ L h' m → News h₀ L h' news → R (.ok (.ret v)) { s with heap := h', toks := tk' }) :
    ∀ (r j i : Nat) (h : Heap) (tk : Nat) (vb kb : Value) (c : Nat) (oI : Obj), vs.length - (j + 1) = r → j + 1 ≤ vs.length → Fr h₀ L h m →
      News h₀ L h (news ++ [(S, seqObj "list" #[vb, kb] c), (I, oI)]) → KOk i kb → h.IsListIter I l (j + 1) → vs[i]? = some vb → i ≤ j → (∀ j', j' ≤ j → lt j' i = false) →
      codeAny (model prog w) A (.builtin "min.loop" ⟨[.ref I, .ref q, .ref S], [("default", d)]⟩) R { s with heap := h, toks := tk } := by
  have hname : (toString "min" ++ toString ".loop" : String) = "min.loop" := by decide
  have W := Walks.list (prog := prog) (w := w) (A := A.in1) hh I l hlI vs.toArray
  have hsz : vs.toArray.size = vs.length := List.size_toArray ..
  have refl : ∀ a, lt a a = false := fun a => by
    cases q : lt a a with
    | false => rfl
    | true => have := O1 a a q; rw [q] at this; cases this
  intro r
  induction r with
  | zero =>
    intro j i h tk vb kb c oI hr hj F N hkb hit hvb hij hbest
    have hin : j + 1 = vs.length := by omega
    have nS := N (S, seqObj "list" #[vb, kb] c) (List.mem_append_right _ (.head _))
    have nI := N (I, oI) (List.mem_append_right _ (.tail _ (.head _)))
    have Nn : News h₀ L h news := fun p hp => N p (List.mem_append_left _ hp)
    refine codeAny_builtin PySem.F.entry_min_loop ?_
    rw [Around.under_plainId PySem.F.plain_min_loop _]
    show wpAny _ A.in1 (seqItems? (.ref S) >>= _) _ _ _
    refine wpAny_bind (wpAny_seqItems nS.1 rfl ?_)
    show wpAny _ A.in1 (tryCatch (pyNext (.ref I)) _ >>= _) _ _ _
    refine wpAny_bind (wpAny_tryCatch (W.done _ _ _ ⟨by rw [hsz, ← hin]; exact hit, hl h F Nn⟩ fun h' tk' hk' => ?_))
    have F1 := kmk_fr F hk' nI.2.1 nI.2.2
    have N1 := kmk_news Nn hk' hnI
    have hS' := hk' S _ (by simpa using hSI) nS.1
    have s1 := Heap.SameBut.update h' S (Obj.mapSeq fun _ => (#[] : Array Value))
    show wpAny _ A.in1 (updateSeq S (fun _ => #[]) >>= _) _ _ _
    refine wpAny_bind ?_
    refine wpAny_updateSeq hS' rfl (wpAny_bind (wpAny_letGo (wpAny_pure ?_)))
    exact hR i vb _ _ hvb (fun j' hj' => hbest j' (by omega)) (ksk_fr F1 s1 nS.2.1 nS.2.2) (ksk_news N1 s1 hnS)
  | succ r ih =>
    intro j i h tk vb kb c oI hr hj F N hkb hit hvb hij hbest
    have hlt : j + 1 < vs.length := by omega
    have nS := N (S, seqObj "list" #[vb, kb] c) (List.mem_append_right _ (.head _))
    have nI := N (I, oI) (List.mem_append_right _ (.tail _ (.head _)))
    have Nn : News h₀ L h news := fun p hp => N p (List.mem_append_left _ hp)
    refine codeAny_builtin PySem.F.entry_min_loop ?_
    rw [Around.under_plainId PySem.F.plain_min_loop _]
    show wpAny _ A.in1 (seqItems? (.ref S) >>= _) _ _ _
    refine wpAny_bind (wpAny_seqItems nS.1 rfl ?_)
    show wpAny _ A.in1 (tryCatch (pyNext (.ref I)) _ >>= _) _ _ _
    refine wpAny_bind (wpAny_tryCatch (W.item (j + 1) _ _ _ (by rw [hsz]; exact hlt) ⟨hit, hl h F Nn⟩ fun v h' tk' hP hst' hk' => ?_))
    have hv : vs[j + 1]? = some v := by simpa using hP
    obtain ⟨oI', hoI', hoc, hod⟩ := id hst'.1
    have F1 := kmk_fr F hk' nI.2.1 nI.2.2
    have N1 : News h₀ L h' (news ++ [(S, seqObj "list" #[vb, kb] c), (I, oI')]) := fun p hp => by
      rcases List.mem_append.mp hp with hp | hp
      · exact kmk_news Nn hk' hnI p hp
      · rcases List.mem_cons.mp hp with rfl | hp
        · exact ⟨hk' S _ (by simpa using hSI) nS.1, nS.2⟩
        · rw [List.mem_singleton.mp hp]
          exact ⟨hoI', nI.2⟩
    show wpAny _ A.in1 (tryCatch (holding [v] (call (.ref q) [v])) _ >>= _) _ _ _
    refine wpAny_bind (wpAny_tryCatch (wpAny_holding (wpAny_mono (turn (j + 1) v hv h' tk' _ F1 N1) (fun x s'' he => ?_) fun _ _ hF => hF.elim)))
    obtain ⟨h2, tk2, rfl, hkx, F2, N2⟩ := he
    have nS2 := N2 (S, seqObj "list" #[vb, kb] c) (List.mem_append_right _ (.head _))
    have nI2 := N2 (I, oI') (List.mem_append_right _ (.tail _ (.head _)))
    have hit2 : h2.IsListIter I l (j + 1 + 1) := ⟨oI', nI2.1, hoc, hod⟩
    show wpAny _ A.in1 (tryCatch (holding [v, x] (richCompare .Lt x kb >>= _)) _ >>= _) _ _ _
    refine wpAny_bind (wpAny_tryCatch (wpAny_holding (wpAny_bind (hcmp (j + 1) i _ _ _ _ _ hkx hkb ?_))))
    refine wpAny_bind (wpAny_holding (wpAny_truthy_bool ?_))
    refine wpAny_bind (wpAny_letGo (wpAny_pure ?_))
    cases hb' : lt (j + 1) i with
    | true =>
      have s1 := Heap.SameBut.update h2 S (Obj.mapSeq fun _ => #[v, x])
      obtain ⟨c2, hc2⟩ : ∃ c2, (h2.update S (Obj.mapSeq fun _ => #[v, x])).get? S = some (seqObj "list" #[v, x] c2) := ⟨_, get?_update_seq nS2.1 fun _ => #[v, x]⟩
      simp only [if_true]
      refine wpAny_bind ?_
      refine wpAny_updateSeq nS2.1 rfl (wpAny_bind (wpAny_letGo ?_))
      rw [hname]
      refine wpAny_pure ⟨plainId_quiet PySem.F.plain_min_loop _, ih (j + 1) (j + 1) _ _ v x c2 oI' (by omega) hlt (ksk_fr F2 s1 nS2.2.1 nS2.2.2) (fun p hp => ?_) hkx ⟨oI', (s1.2 I hSI.symm).trans nI2.1, hoc, hod⟩ hv (Nat.le_refl _) fun j' hj' => ?_⟩
      · rcases List.mem_append.mp hp with hp | hp
        · exact ksk_news (fun p hp => N2 p (List.mem_append_left _ hp)) s1 hnS p hp
        · rcases List.mem_cons.mp hp with rfl | hp
          · exact ⟨hc2, nS2.2⟩
          · rw [List.mem_singleton.mp hp]
            exact ⟨(s1.2 I hSI.symm).trans nI2.1, nI2.2⟩
      · by_cases e : j' = j + 1
        · subst e
          exact refl _
        · exact O2 _ _ _ (O1 _ _ hb') (hbest j' (by omega))
    | false =>
      simp only [Bool.false_eq_true, if_false]
      refine wpAny_bind (wpAny_letGo ?_)
      rw [hname]
      refine wpAny_pure ⟨plainId_quiet PySem.F.plain_min_loop _, ih (j + 1) i _ _ vb kb c oI' (by omega) hlt F2 N2 hkb hit2 hvb (by omega) fun j' hj' => ?_⟩
      by_cases e : j' = j + 1
      · subst e
        exact hb'
      · exact hbest j' (by omega)
theorem g_min {n : Nat} {Q : Value → Shared → Prop} (KOk : Nat → Value → Prop) (lt : Nat → Nat → Bool) (O1 : ∀ a b, lt a b = true → lt b a = false) (O2 : ∀ a b c, lt b a = false → lt c b = false → lt c a = false)
    (hcmp : CmpOf prog w A.in1 .Lt KOk lt) (hh : A.handled = none) (F : Fr h₀ L s.heap m) (N : News h₀ L s.heap ((I, litObj l 0) :: news)) (hm : (l, listOf vs.toArray n) ∈ news) (hnI : ∀ p ∈ news, p.1 ≠ I) (hne : 0 < vs.length)
    (turn : ∀ (i : Nat) (v : Value), vs[i]? = some v → ∀ (h : Heap) (tk : Nat) (own : List (Addr × Obj)), Fr h₀ L h m → News h₀ L h (news ++ own) →
      wpAny (model prog w) A.in1 (call (.ref q) [v]) (GKey h₀ L m (news ++ own) KOk i { s with heap := h, toks := tk }) (fun _ _ => False) { s with heap := h, toks := tk })
    (hQ : ∀ i v h' tk', vs[i]? = some v → (∀ j, j < vs.length → lt j i = false) → Fr h₀ L h' m → News h₀ L h' news → Q v { s with heap := h', toks := tk' }) :
    wpAny (model prog w) A (call (.builtin "min") [.ref I] [(Str.ofString "default", d), (Str.ofString "key", .ref q)]) Q E s := by
  have hname : (toString "min" ++ toString ".loop" : String) = "min.loop" := by decide
  have hl : ∀ h, Fr h₀ L h m → News h₀ L h news → h.IsList l vs.toArray := fun h _ N' => PySem.IsL.isList (n := n) (N' _ hm).1
  have Nn : News h₀ L s.heap news := fun p hp => N p (List.mem_cons_of_mem _ hp)
  have nI := N (I, litObj l 0) (List.mem_cons_self ..)
  have hIlt : I < s.heap.objs.size := Heap.lt_size nI.1
  have hL : L < s.heap.objs.size := F.ns.lt
  have hlI : l ≠ I := hnI _ hm
  have hsz : vs.toArray.size = vs.length := List.size_toArray ..
  refine kmk_tree PySem.F.kind_min PySem.F.plain_min PySem.F.entry_min (gmin_args _ _ _) ?_
  show wpAny _ A.in1 (Builtin.Builtins.bindParams "min" ["key", "default"] 0 ⟨[], [(Str.ofString "default", d), (Str.ofString "key", .ref q)]⟩ >>= _) _ _ s
  refine wpAny_bind (wpAny_of_eq (show Builtin.Builtins.bindParams "min" ["key", "default"] 0 ⟨[], [(Str.ofString "default", d), (Str.ofString "key", .ref q)]⟩ = pure [some (.ref q), some d] from rfl) ?_)
  refine wpAny_bind (wpAny_pure ?_)
  have W := Walks.list (prog := prog) (w := w) (A := A.in1) hh I l hlI vs.toArray
  refine wpAny_bind (W.self 0 _ _ _ ⟨⟨_, nI.1, rfl, rfl⟩, hl _ F Nn⟩ ?_)
  refine wpAny_bind (wpAny_newList ?_ (Nat.zero_le _))
  rw [hname]
  have hSI : s.heap.objs.size ≠ I := Nat.ne_of_gt hIlt
  have hnS : ∀ p ∈ news, p.1 ≠ s.heap.objs.size := fun p hp => Nat.ne_of_lt (Heap.lt_size (Nn p hp).1)
  refine wpAny_pure ⟨plainId_quiet PySem.F.plain_min_loop _, ?_⟩
  have fresh : ∀ b, L < b → h₀.get? b = none := fun b hb => Heap.get?_none_of_le (Nat.le_trans F.above (Nat.le_of_lt hb))
  have FH : Fr h₀ L (s.heap.push (seqObj "list" #[] 0)) m := F.push _
  have NH : News h₀ L (s.heap.push (seqObj "list" #[] 0)) news := Nn.grown fun b x e => Heap.get?_push_of_some _ e
  have gI : (s.heap.push (seqObj "list" #[] 0)).get? I = some (litObj l 0) := Heap.get?_push_of_some _ nI.1
  have gS : (s.heap.push (seqObj "list" #[] 0)).get? s.heap.objs.size = some (seqObj "list" #[] 0) := Heap.get?_push_size _ rfl
  have aS : s.heap.objs.size ≠ L := Nat.ne_of_gt hL
  have zS : h₀.get? s.heap.objs.size = none := fresh _ hL
  refine codeAny_builtin PySem.F.entry_min_loop ?_
  rw [Around.under_plainId PySem.F.plain_min_loop _]
  show wpAny _ A.in1 (seqItems? (.ref _) >>= _) _ _ _
  refine wpAny_bind (wpAny_seqItems gS rfl ?_)
  show wpAny _ A.in1 (tryCatch (pyNext (.ref I)) _ >>= _) _ _ _
  refine wpAny_bind (wpAny_tryCatch (W.item 0 _ _ _ (by rw [hsz]; exact hne) ⟨⟨_, gI, rfl, rfl⟩, hl _ FH NH⟩ fun v h' tk' hP hst' hk' => ?_))
  have hv : vs[0]? = some v := by simpa using hP
  obtain ⟨oI', hoI', hoc, hod⟩ := id hst'.1
  have F1 := kmk_fr FH hk' nI.2.1 nI.2.2
  have N1 : News h₀ L h' (news ++ [(s.heap.objs.size, seqObj "list" #[] 0), (I, oI')]) := fun p hp => by
    rcases List.mem_append.mp hp with hp | hp
    · exact kmk_news NH hk' hnI p hp
    · rcases List.mem_cons.mp hp with rfl | hp
      · exact ⟨hk' _ _ (by simpa using hSI) gS, aS, zS⟩
      · rw [List.mem_singleton.mp hp]
        exact ⟨hoI', nI.2⟩
  show wpAny _ A.in1 (tryCatch (holding [v] (call (.ref q) [v])) _ >>= _) _ _ _
  refine wpAny_bind (wpAny_tryCatch (wpAny_holding (wpAny_mono (turn 0 v hv h' tk' _ F1 N1) (fun x s'' he => ?_) fun _ _ hF => hF.elim)))
  obtain ⟨h2, tk2, rfl, hkx, F2, N2⟩ := he
  have nS2 := N2 (s.heap.objs.size, seqObj "list" #[] 0) (List.mem_append_right _ (.head _))
  have nI2 := N2 (I, oI') (List.mem_append_right _ (.tail _ (.head _)))
  have s1 := Heap.SameBut.update h2 s.heap.objs.size (Obj.mapSeq fun _ => #[v, x])
  obtain ⟨c2, hc2⟩ : ∃ c2, (h2.update s.heap.objs.size (Obj.mapSeq fun _ => #[v, x])).get? s.heap.objs.size = some (seqObj "list" #[v, x] c2) := ⟨_, get?_update_seq nS2.1 fun _ => #[v, x]⟩
  show wpAny _ A.in1 (updateSeq s.heap.objs.size (fun _ => #[v, x]) >>= _) _ _ _
  refine wpAny_bind ?_
  refine wpAny_updateSeq nS2.1 rfl ?_
  rw [hname]
  refine wpAny_pure ⟨plainId_quiet PySem.F.plain_min_loop _, gmin_loop KOk lt O1 O2 hcmp hh hl hlI hSI hnS hnI turn hQ _ 0 0 _ _ v x c2 oI' rfl hne (ksk_fr F2 s1 nS2.2.1 nS2.2.2) (fun p hp => ?_) hkx ⟨oI', (s1.2 _ hSI.symm).trans nI2.1, hoc, hod⟩ hv (Nat.le_refl _) fun j' hj' => ?_⟩
  · rcases List.mem_append.mp hp with hp | hp
    · exact ksk_news (fun p hp => N2 p (List.mem_append_left _ hp)) s1 hnS p hp
    · rcases List.mem_cons.mp hp with rfl | hp
      · exact ⟨hc2, nS2.2⟩
      · rw [List.mem_singleton.mp hp]
        exact ⟨(s1.2 _ hSI.symm).trans nI2.1, nI2.2⟩
  · have e : j' = 0 := by omega
    subst e
    cases q : lt 0 0 with
    | false => rfl
    | true => have := O1 0 0 q; rw [q] at this; cases this
end
end
section
set_option maxRecDepth 100000
set_option maxHeartbeats 4000000
open PySem PySem.W PySem.Calls PyProof.Rows PyProof.Rows.LCg
noncomputable def upd (m : Str → Option Value) : List (Str × Pos) → List Value → Str → Option Value
  | x :: ns, v :: vs => upd (fun y => if y = x.1 then some v else m y) ns vs
  | _, _ => m
noncomputable abbrev nameT (x : Str × Pos) : PySem.Expr := .Name x.1 x.2
theorem each_len (ns : List (Str × Pos)) (env : Env) : (assignEach (ns.map nameT) env).length = ns.length := by
  induction ns with
  | nil => rfl
  | cons x ns ih => show (_ :: assignEach (ns.map nameT) env).length = _; simp [ih]
theorem each_star (ns : List (Str × Pos)) (env : Env) : (assignEach (ns.map nameT) env).findIdx? (·.1) = none := by
  induction ns with
  | nil => rfl
  | cons x ns ih =>
    show ((false, assign (nameT x) env) :: assignEach (ns.map nameT) env).findIdx? (·.1) = none
    rw [List.findIdx?_cons]
    simp [ih]
noncomputable def ownOf (h₀ h : Heap) (fp : List Addr) : List (Addr × Obj) := fp.filterMap fun b => if (h₀.get? b).isNone then (h.get? b).map fun o => (b, o) else none
theorem ownOf_mem {h₀ h : Heap} {fp : List Addr} {p : Addr × Obj} : p ∈ ownOf h₀ h fp ↔ p.1 ∈ fp ∧ h₀.get? p.1 = none ∧ h.get? p.1 = some p.2 := by
  unfold ownOf
  rw [List.mem_filterMap]
  constructor
  · rintro ⟨b, hb, e⟩
    by_cases hn : (h₀.get? b).isNone
    · rw [if_pos hn] at e
      cases hg : h.get? b with
      | none => rw [hg] at e; cases e
      | some o =>
        rw [hg] at e
        have e' := Option.some.inj e
        subst e'
        exact ⟨hb, Option.isNone_iff_eq_none.mp hn, hg⟩
    · rw [if_neg hn] at e; cases e
  · rintro ⟨h1, h2, h3⟩
    refine ⟨p.1, h1, ?_⟩
    rw [if_pos (by rw [h2]; rfl), h3]
    rfl
section
variable {prog : Program} {w : World} {A : Around} {E : Value → Shared → Prop} {s : Shared} {h₀ : Heap} {L : Addr} {m : Str → Option Value} {env : Env}
theorem assign_names {scope : Scope} {cl : List (Str × Addr)} {C : Addr} (hkind : scope.kind = .function) : ∀ (ns : List (Str × Pos)) (vals : List Value) (m' : Str → Option Value) (s : Shared) (Q : Unit → Shared → Prop), ns.length = vals.length → s.heap.Ns C m' → (∀ x ∈ ns, scope.names.lookup x.1 = some .local) →
    (∀ h' tk, h'.Ns C (upd m' ns vals) → Heap.SameBut C s.heap h' → Q () { s with heap := h', toks := tk }) → wpAny (model prog w) A (assignInOrder ((assignEach (ns.map nameT) (compEnvC scope cl C env)).map (·.2)) vals) Q E s
  | [], [], m', s, Q, _, hn, _, h => assignInOrder_nil (h s.heap s.toks hn ⟨rfl, fun _ _ => rfl⟩)
  | [], _ :: _, _, _, _, hl, _, _, _ => by simp at hl
  | _ :: _, [], _, _, _, hl, _, _, _ => by simp at hl
  | x :: ns, v :: vs, m', s, Q, hl, hn, hx, h => by
    show wpAny _ _ (assignInOrder (assign (nameT x) (compEnvC scope cl C env) :: (assignEach (ns.map nameT) (compEnvC scope cl C env)).map (·.2)) (v :: vs)) Q E s
    refine assignInOrder_cons (wpAny_assign_Name (wpAny_storeName_local (lookup_relabel_local (hx x (List.mem_cons_self ..))) hn (fun h₆ hn₆ hs₆ => ?_) (by simp [compEnvC, relabel, hkind])))
    exact assign_names hkind ns vs _ _ Q (by simpa using hl) hn₆ (fun y hy => hx y (List.mem_cons_of_mem _ hy)) fun h' tk' hn' hs' => h h' tk' hn' ⟨hs'.1.trans hs₆.1, fun b hb => (hs'.2 b hb).trans (hs₆.2 b hb)⟩
noncomputable def ZEnd (h₀ : Heap) (L : Addr) (m : Str → Option Value) (s₁ : Shared) (C : Addr) (oC : Obj) (D : Addr) (oD : Obj) (own : List (Addr × Obj)) (wr : List Addr) (Nx : Value → List (Addr × Obj) → Prop) (y : Value) (s₂ : Shared) : Prop :=
  ∃ h' tk news', s₂ = { s₁ with heap := h', toks := tk } ∧ Fr h₀ L h' m ∧ News h₀ L h' ((C, oC) :: (D, oD) :: own ++ news') ∧ (∀ p ∈ news', p.1 ≠ C ∧ p.1 ≠ D ∧ p.1 ∉ wr) ∧ Nx y news'
theorem block_Z {elt iter : PySem.Expr} {ns : List (Str × Pos)} {tp : Pos} {kt : Nat} {scope : Scope} {cl : List (Str × Addr)} {pos : Pos} {s₂ : Shared} {I : Addr} {fp wr : List Addr} {n : Nat} {Pt : Nat → Array Value → Prop} {St : Nat → Heap → Prop} {Mid : Nat → Addr → Heap → Prop} {news : List (Addr × Obj)}
    {RR : Value → Addr → Result → Shared → Prop} (Inv : Nat → List Value → List (Addr × Obj) → Prop)
    (W : WalksU prog w A I fp wr n Pt St Mid) (hsz : n ≤ sizeLine) (hPl : ∀ i vals, Pt i vals → vals.size = ns.length)
    (hcell : ∀ y ∈ scope.names, y.2 ≠ .cell) (hkind : scope.kind = .function) (hx : ∀ x ∈ ns, scope.names.lookup x.1 = some .local) (hh : A.handled = none) (hst : St 0 s₂.heap) (hfp : ∀ b ∈ fp, b < s₂.heap.objs.size)
    (F : Fr h₀ L s₂.heap m) (N : News h₀ L s₂.heap news) (hLw : L ∉ fp) (hw₀ : ∀ b ∈ wr, h₀.get? b = none) (off : ∀ p ∈ news, p.1 ∉ wr) (hlive : ∀ i h, St i h → ∀ b ∈ wr, ∃ o, h.get? b = some o) (hI0 : Inv 0 [] news)
    (turn : ∀ i ys news vals own C oC D m₁ h tk (E' : Value → Shared → Prop), i < n → Inv i ys news → Pt i vals → NsObj oC (upd m₁ ns vals.toList) → Fr h₀ L h m → News h₀ L h ((C, oC) :: (D, lst ys) :: own ++ news) → (∀ p ∈ news, p.1 ≠ C ∧ p.1 ≠ D ∧ p.1 ∉ wr) → (∀ p ∈ own, p.1 ∈ fp ∧ p.1 ≠ C ∧ p.1 ≠ D) → (∀ b ∈ wr, ∃ o, (b, o) ∈ own) → (@Ne Nat C D) → (C ∉ wr) → (D ∉ wr) →
      wpAny (model prog w) A (eval elt (compEnvC scope cl C env)) (ZEnd h₀ L m { s₂ with heap := h, toks := tk } C oC D (lst ys) own wr (fun y news' => Inv (i + 1) (ys ++ [y]) news')) E' { s₂ with heap := h, toks := tk })
    (End : Heap → Prop) (hdone : ∀ (s : Shared) (Q : Option Value → Shared → Prop) (E : Value → Shared → Prop), St n s.heap → (∀ h' tk, (∀ b o, b ∉ wr → s.heap.get? b = some o → h'.get? b = some o) → End h' → Q none { s with heap := h', toks := tk }) → wpAny (model prog w) A (pyNext (.ref I)) Q E s)
    (hRR : ∀ D C h tk m' ys news', s₂.heap.objs.size ≤ D → Fr h₀ L h m → News h₀ L h ((D, lst ys) :: news') → (∀ p ∈ news', p.1 ≠ D ∧ p.1 ≠ C ∧ p.1 ∉ wr) → h.Ns C m' → h₀.get? C = none → h₀.get? D = none → C ≠ L → D ≠ L → C ≠ D → C ∉ fp → D ∉ fp → Inv n ys news' → End h → RR (.ref D) C (.ok .next) { s₂ with heap := h, toks := tk }) :
    wpAny (model prog w) A (newList []) (fun acc s₃ => wpAny (model prog w) A (newFunctionEnv scope env.globals cl [] env.qual none .none (some env)) (fun cenv s₄ =>
      codeAny (model prog w) A (.compStart (.ListComp elt [⟨.Tuple (ns.map nameT) kt tp, iter, [], 0⟩] scope pos) 0 (.ref I) acc { cenv with scope := relabel scope env }) (RR acc cenv.locals) s₄) E s₃) E s₂ := by
  refine wpAny_newObj_type (wpAny_newFunctionEnv hcell (by intro y hy; simp at hy) (fun h₁ hns₁ hsb₁ => ?_) hkind)
  dsimp only at hns₁ hsb₁ ⊢
  generalize hH2 : s₂.heap.push { cls := .type "list", dict := none, data := .seq ([] : List Value).toArray } = H2 at hns₁ hsb₁ ⊢
  have hC : H2.objs.size = s₂.heap.objs.size + 1 := by rw [← hH2, Heap.size_push]
  have hDC : s₂.heap.objs.size ≠ H2.objs.size := by rw [hC]; exact Nat.ne_of_lt (Nat.lt_succ_self _)
  have below : ∀ b, b < s₂.heap.objs.size → b ≠ H2.objs.size ∧ b ≠ s₂.heap.objs.size := fun b hb => ⟨by rw [hC]; exact Nat.ne_of_lt (Nat.lt_succ_of_lt hb), Nat.ne_of_lt hb⟩
  have hDf : s₂.heap.objs.size ∉ fp := fun hm => Nat.lt_irrefl _ (hfp _ hm)
  have hCf : H2.objs.size ∉ fp := fun hm => by have := hfp _ hm; rw [hC] at this; exact Nat.lt_irrefl _ (Nat.lt_of_succ_lt this)
  have hDw : s₂.heap.objs.size ∉ wr := fun hm => hDf (W.sub _ hm)
  have hCw : H2.objs.size ∉ wr := fun hm => hCf (W.sub _ hm)
  have hLw' : L ∉ wr := fun hm => hLw (W.sub _ hm)
  have old : ∀ b o, s₂.heap.get? b = some o → h₁.get? b = some o := fun b o e => hsb₁.extBut b o (below b (Heap.lt_size e)).1 (Heap.get?_push_of_some _ (hH2 ▸ Heap.get?_push_of_some _ e))
  have hacc : h₁.get? s₂.heap.objs.size = some (lst []) := hsb₁.extBut _ _ hDC (Heap.get?_push_of_some _ (hH2 ▸ Heap.get?_push_size _ rfl))
  have hst₁ : St 0 h₁ := W.frame _ _ _ hst fun b _ o e => old b o e
  have fresh : ∀ a, s₂.heap.objs.size ≤ a → s₂.heap.get? a = none := fun a ha => by
    cases e : s₂.heap.get? a with
    | none => rfl
    | some o' => exact absurd (Heap.lt_size e) (Nat.not_lt.mpr ha)
  have fresh₀ : ∀ a, s₂.heap.objs.size ≤ a → h₀.get? a = none := fun a ha => by
    cases e : h₀.get? a with
    | none => rfl
    | some o' => have := F.keep a o' e; rw [fresh a ha] at this; cases this
  have hD₀ : h₀.get? s₂.heap.objs.size = none := fresh₀ _ (Nat.le_refl _)
  have hC₀ : h₀.get? H2.objs.size = none := fresh₀ _ (by rw [hC]; exact Nat.le_succ _)
  have hLlt : L < s₂.heap.objs.size := F.ns.lt
  have hDL : s₂.heap.objs.size ≠ L := Ne.symm (below L hLlt).2
  have hCL : H2.objs.size ≠ L := Ne.symm (below L hLlt).1
  have off₀ : ∀ p ∈ news, p.1 ≠ H2.objs.size ∧ p.1 ≠ s₂.heap.objs.size ∧ p.1 ∉ wr := fun p hp => ⟨(below _ (Heap.lt_size (N p hp).1)).1, (below _ (Heap.lt_size (N p hp).1)).2, off p hp⟩
  have loop : ∀ s₃ : Shared, s₃ = { s₂ with heap := h₁, toks := s₂.toks + ([] : List (Str × Value)).length } →
      codeAny (model prog w) A (.compLoop (.ListComp elt [⟨.Tuple (ns.map nameT) kt tp, iter, [], 0⟩] scope pos) 0 (.ref I) (.ref s₂.heap.objs.size) (compEnvC scope cl H2.objs.size env))
        (RR (.ref s₂.heap.objs.size) H2.objs.size) s₃ := by
    rintro s₃ rfl
    refine LCp.codeAny_compLoop_pair
      (fun k s' => ∃ h' tk i ys m' news', s' = { s₂ with heap := h', toks := tk } ∧ i ≤ n ∧ k = n + 1 - i ∧ ys.length = i ∧ St i h' ∧ Fr h₀ L h' m ∧ h'.Ns H2.objs.size m' ∧ News h₀ L h' ((s₂.heap.objs.size, lst ys) :: news') ∧
        (∀ p ∈ news', p.1 ≠ H2.objs.size ∧ p.1 ≠ s₂.heap.objs.size ∧ p.1 ∉ wr) ∧ Inv i ys news') ?_ (n + 1)
      ⟨h₁, _, 0, [], _, news, rfl, Nat.zero_le _, rfl, rfl, hst₁, F.keeps old, hns₁, fun p hp => ?_, off₀, hI0⟩
    · rintro k s' ⟨h', tk, i, ys, m', news', rfl, hi, rfl, hyl, hst', F', hn', N', off', hInv⟩
      by_cases hlt : i < n
      · refine W.item i _ _ _ hlt hst' fun T vals h₂ tk₂ hPv hT hMid hk₂ => ?_
        refine W.go _ _ _ i T _ _ _ hMid fun h₃ hst₃ hk₃ => ?_
        have keep : ∀ b o, b ∉ wr → h'.get? b = some o → h₃.get? b = some o := fun b o hb e => hk₃ b o hb (hk₂ b o hb e)
        have ht : IsTup h₃ T vals := by
          obtain ⟨oT, e1, e2, nT, e3⟩ := hT
          exact ⟨oT, hk₃ T oT (W.apart _ _ _ hMid) e1, e2, nT, e3⟩
        have hlen := hPl i vals hPv
        refine assign_Tuple_tuple hh ht (by rw [each_len]; exact hlen.symm) (each_star _ _) fun h₅ he => ?_
        have he' : ∀ b o, h₃.get? b = some o → h₅.get? b = some o := fun b o e => he b o (Nat.ne_of_lt (Heap.lt_size e)) e
        refine assign_names hkind ns vals.toList m' _ _ (by rw [Array.length_toList]; exact hlen.symm) ((hn'.at' fun o e => keep _ o hCw e).at' fun o e => he' _ o e) hx fun h₆ tk₆ hn₆ hs₆ => ?_
        have old6 : ∀ b o, b ≠ H2.objs.size → h₃.get? b = some o → h₆.get? b = some o := fun b o hb e => hs₆.extBut b o hb (he' b o e)
        have hst₆ : St (i + 1) h₆ := W.frame _ _ _ hst₃ fun b hb o e => old6 b o (fun q => hCf (by rw [← q]; exact hb)) e
        obtain ⟨oC, heC, hoC⟩ := ns_obj hn₆
        have F₃ : Fr h₀ L h₃ m := ⟨F'.ns.at' fun o e => keep L o hLw' e, fun b o e => keep b o (fun hb => by rw [hw₀ b hb] at e; cases e) (F'.keep b o e), F'.above⟩
        have F₆ : Fr h₀ L h₆ m := (F₃.keeps he').change hs₆ hCL hC₀
        have N₆ : News h₀ L h₆ ((H2.objs.size, oC) :: (s₂.heap.objs.size, lst ys) :: ownOf h₀ h₆ fp ++ news') := fun p hp => by
          rcases List.mem_append.mp hp with hp | hp
          · rcases List.mem_cons.mp hp with rfl | hp
            · exact ⟨heC, hCL, hC₀⟩
            · rcases List.mem_cons.mp hp with rfl | hp
              · exact ⟨old6 _ _ hDC (keep _ _ hDw (N' _ (List.mem_cons_self ..)).1), hDL, hD₀⟩
              · obtain ⟨q1, q2, q3⟩ := ownOf_mem.mp hp
                exact ⟨q3, fun e => hLw (e ▸ q1), q2⟩
          · have z := N' p (List.mem_cons_of_mem _ hp)
            exact ⟨old6 _ _ (off' p hp).1 (keep _ _ (off' p hp).2.2 z.1), z.2⟩
        refine wpAny_mono (turn i ys news' vals (ownOf h₀ h₆ fp) H2.objs.size oC s₂.heap.objs.size m' h₆ _ _ hlt hInv hPv hoC F₆ N₆ off' (fun p hp => ⟨(ownOf_mem.mp hp).1, fun e => hCf (e ▸ (ownOf_mem.mp hp).1), fun e => hDf (e ▸ (ownOf_mem.mp hp).1)⟩) (fun b hb => by obtain ⟨o, ho⟩ := hlive _ _ hst₆ b hb; exact ⟨o, ownOf_mem.mpr ⟨W.sub b hb, hw₀ b hb, ho⟩⟩) (Ne.symm hDC) hCw hDw) (fun y s₄ h₄ => ?_) fun _ _ e => e
        obtain ⟨h₄, tk₄, news₄, rfl, F₄, N₄, off₄, hInv₄⟩ := h₄
        have zC := (N₄ (H2.objs.size, oC) (List.mem_append_left _ (List.mem_cons_self ..))).1
        have zD := (N₄ (s₂.heap.objs.size, lst ys) (List.mem_append_left _ (List.mem_cons_of_mem _ (List.mem_cons_self ..)))).1
        have N₄' : News h₀ L h₄ news₄ := fun p hp => N₄ p (List.mem_append_right _ hp)
        have hst₄ : St (i + 1) h₄ := W.frame _ _ _ hst₆ fun b hb o e => by
          cases q : h₀.get? b with
          | none => exact (N₄ (b, o) (List.mem_append_left _ (List.mem_cons_of_mem _ (List.mem_cons_of_mem _ (ownOf_mem.mpr ⟨hb, q, e⟩))))).1
          | some o' =>
            have e1 := F₆.keep b o' q
            rw [e] at e1
            cases e1
            exact F₄.keep b _ q
        refine append_at (hsz := by show ys.toArray.size ≤ sizeLine; rw [List.size_toArray, hyl]; exact Nat.le_trans hi hsz) zD fun h₅ hs₅ hD₅ => ?_
        refine ⟨n + 1 - (i + 1), by omega, h₅, tk₄, i + 1, ys ++ [y], _, news₄, rfl, hlt, rfl, by rw [List.length_append, List.length_singleton, hyl], W.frame _ _ _ hst₄ fun b hb o e => hs₅.extBut b o (fun q => hDf (q ▸ hb)) e, F₄.change hs₅ hDL hD₀,
          (hoC.ns zC).sameBut hs₅ (Ne.symm hDC), fun p hp => ?_, off₄, hInv₄⟩
        rcases List.mem_cons.mp hp with rfl | hp
        · exact ⟨hD₅.trans (congrArg some (lst_snoc ys y)), hDL, hD₀⟩
        · exact ⟨hs₅.extBut _ _ (off₄ p hp).2.1 (N₄' p hp).1, (N₄' p hp).2⟩
      · obtain rfl : i = n := Nat.le_antisymm hi (Nat.not_lt.mp hlt)
        refine hdone _ _ _ hst' fun h₂ tk₂ hk₂ hend => ?_
        refine hRR _ _ h₂ tk₂ m' ys news' (Nat.le_refl _) ⟨F'.ns.at' fun o e => hk₂ L o hLw' e, fun b o e => hk₂ b o (fun hb => by rw [hw₀ b hb] at e; cases e) (F'.keep b o e), F'.above⟩ (fun p hp => ?_) (fun p hp => ⟨(off' p hp).2.1, (off' p hp).1, (off' p hp).2.2⟩) (hn'.at' fun o e => hk₂ _ o hCw e) hC₀ hD₀ hCL hDL (Ne.symm hDC) hCf hDf hInv hend
        have z := N' p hp
        refine ⟨hk₂ _ _ ?_ z.1, z.2⟩
        rcases List.mem_cons.mp hp with rfl | hp
        · exact hDw
        · exact (off' p hp).2.2
    · rcases List.mem_cons.mp hp with rfl | hp
      · exact ⟨hacc, hDL, hD₀⟩
      · exact ⟨old _ _ (N p hp).1, (N p hp).2⟩
  exact codeAny_compStart_list (loop _ rfl) (W.self 0 _ _ _ hst₁ (loop _ rfl))
noncomputable abbrev SrcZB (prog : Program) (w : World) (A : Around) (h₀ : Heap) (L : Addr) (m : Str → Option Value) (env : Env) (elt : PySem.Expr) (ns : List (Str × Pos)) (scope : Scope) (cl : List (Str × Addr)) (Fin : Shared → Value → List Value → List (Addr × Obj) → (Heap → Prop) → List Addr → Prop) (it : Value) (s₂ : Shared) : Prop :=
  ∃ (I : Addr) (fp wr : List Addr) (n : Nat) (Pt : Nat → Array Value → Prop) (St : Nat → Heap → Prop) (Mid : Nat → Addr → Heap → Prop) (news : List (Addr × Obj)) (Inv : Nat → List Value → List (Addr × Obj) → Prop) (End : Heap → Prop),
    it = .ref I ∧ A.handled = none ∧ WalksU prog w A I fp wr n Pt St Mid ∧ n ≤ sizeLine ∧ (∀ i vals, Pt i vals → vals.size = ns.length) ∧ St 0 s₂.heap ∧ (∀ b ∈ fp, b < s₂.heap.objs.size) ∧ Fr h₀ L s₂.heap m ∧ News h₀ L s₂.heap news ∧ L ∉ fp ∧ (∀ b ∈ wr, h₀.get? b = none) ∧ (∀ p ∈ news, p.1 ∉ wr) ∧ (∀ i h, St i h → ∀ b ∈ wr, ∃ o, h.get? b = some o) ∧ Inv 0 [] news ∧
    (∀ i ys news vals own C oC D m₁ h tk (E' : Value → Shared → Prop), i < n → Inv i ys news → Pt i vals → NsObj oC (upd m₁ ns vals.toList) → Fr h₀ L h m → News h₀ L h ((C, oC) :: (D, lst ys) :: own ++ news) → (∀ p ∈ news, p.1 ≠ C ∧ p.1 ≠ D ∧ p.1 ∉ wr) → (∀ p ∈ own, p.1 ∈ fp ∧ p.1 ≠ C ∧ p.1 ≠ D) → (∀ b ∈ wr, ∃ o, (b, o) ∈ own) → (@Ne Nat C D) → (C ∉ wr) → (D ∉ wr) →
      wpAny (model prog w) A (eval elt (compEnvC scope cl C env)) (ZEnd h₀ L m { s₂ with heap := h, toks := tk } C oC D (lst ys) own wr (fun y news' => Inv (i + 1) (ys ++ [y]) news')) E' { s₂ with heap := h, toks := tk }) ∧
    (∀ (s : Shared) (Q : Option Value → Shared → Prop) (E : Value → Shared → Prop), St n s.heap → (∀ h' tk, (∀ b o, b ∉ wr → s.heap.get? b = some o → h'.get? b = some o) → End h' → Q none { s with heap := h', toks := tk }) → wpAny (model prog w) A (pyNext (.ref I)) Q E s) ∧
    (∀ h h', End h → (∀ b ∈ fp, ∀ o, h.get? b = some o → h'.get? b = some o) → End h') ∧
    (∀ ys news', Inv n ys news' → ∀ D, s₂.heap.objs.size ≤ D → (∀ p ∈ news', p.1 ≠ D ∧ p.1 ∉ wr) → D ∉ fp → Fin s₂ (.ref D) ys news' End fp)
noncomputable def SrcZ (prog : Program) (w : World) (A : Around) (h₀ : Heap) (L : Addr) (m : Str → Option Value) (env : Env) (elt : PySem.Expr) (ns : List (Str × Pos)) (scope : Scope) (cl : List (Str × Addr)) (E : Value → Shared → Prop) (Fin : Shared → Value → List Value → List (Addr × Obj) → (Heap → Prop) → List Addr → Prop) (xv : Value) (s₁ : Shared) : Prop :=
  wpAny (model prog w) A (pyIter xv) (SrcZB prog w A h₀ L m env elt ns scope cl Fin) E s₁
theorem block_ZB {elt iter : PySem.Expr} {ns : List (Str × Pos)} {tp : Pos} {kt : Nat} {scope : Scope} {cl : List (Str × Addr)} {pos : Pos} {s₂ : Shared} {it : Value} {Fin : Shared → Value → List Value → List (Addr × Obj) → (Heap → Prop) → List Addr → Prop} {RR : Value → Addr → Result → Shared → Prop}
    (h₂ : SrcZB prog w A h₀ L m env elt ns scope cl Fin it s₂) (hcell : ∀ y ∈ scope.names, y.2 ≠ .cell) (hkind : scope.kind = .function) (hx : ∀ x ∈ ns, scope.names.lookup x.1 = some .local)
    (hRR : ∀ (fp : List Addr) (End : Heap → Prop) D C h tk m' ys news', Fr h₀ L h m → News h₀ L h ((D, lst ys) :: news') → (∀ p ∈ news', p.1 ≠ C) → h.Ns C m' → h₀.get? C = none → C ≠ L → C ≠ D → C ∉ fp → L ∉ fp → Fin s₂ (.ref D) ys news' End fp → End h → (∀ h h', End h → (∀ b ∈ fp, ∀ o, h.get? b = some o → h'.get? b = some o) → End h') → RR (.ref D) C (.ok .next) { s₂ with heap := h, toks := tk }) :
    wpAny (model prog w) A (newList []) (fun acc s₃ => wpAny (model prog w) A (newFunctionEnv scope env.globals cl [] env.qual none .none (some env)) (fun cenv s₄ =>
      codeAny (model prog w) A (.compStart (.ListComp elt [⟨.Tuple (ns.map nameT) kt tp, iter, [], 0⟩] scope pos) 0 it acc { cenv with scope := relabel scope env }) (RR acc cenv.locals) s₄) E s₃) E s₂ := by
  obtain ⟨I, fp, wr, n, Pt, St, Mid, news, Inv, End, rfl, hh, W, hsz, hPl, hst, hfp, F, N, hLw, hw₀, off, hlive, hI0, turn, hdone, hEf, hfin⟩ := h₂
  refine block_Z Inv W hsz hPl hcell hkind hx hh hst hfp F N hLw hw₀ off hlive hI0 turn End hdone ?_
  intro D C h' tk m' ys news' hDs F' N' off' hn hC₀ hD₀ hCL hDL hCD hCf hDf hInv hend
  exact hRR fp End D C h' tk m' ys news' F' N' (fun p hp => (off' p hp).2.1) hn hC₀ hCL hCD hCf hLw (hfin ys news' hInv D hDs (fun p hp => ⟨(off' p hp).1, (off' p hp).2.2⟩) hDf) hend hEf
noncomputable def FinZA (h₀ : Heap) (L : Addr) (m : Str → Option Value) (y : Str) (Q : Flow → Shared → Prop) (s : Shared) (d : Value) (ys : List Value) (news : List (Addr × Obj)) (End : Heap → Prop) (fp : List Addr) : Prop :=
  ∀ D h tk, d = .ref D → Fr h₀ L h (fun z => if z = y then some (.ref D) else m z) → News h₀ L h ((D, lst ys) :: news) → End h → Q .next { s with heap := h, toks := tk }
noncomputable def FinZE (h₀ : Heap) (L : Addr) (m : Str → Option Value) (Q : Value → Shared → Prop) (s : Shared) (d : Value) (ys : List Value) (news : List (Addr × Obj)) (End : Heap → Prop) (fp : List Addr) : Prop :=
  ∀ D h tk, d = .ref D → Fr h₀ L h m → News h₀ L h ((D, lst ys) :: news) → End h → Q (.ref D) { s with heap := h, toks := tk }
theorem ListComp_Z {elt iter : PySem.Expr} {ns : List (Str × Pos)} {tp : Pos} {kt : Nat} {scope : Scope} {cl : List (Str × Addr)} {pos : Pos} {Q : Value → Shared → Prop} (F₀ : Fr h₀ L s.heap m)
    (hclos : closureFor scope env = pure cl) (hcell : ∀ y ∈ scope.names, y.2 ≠ .cell) (hkind : scope.kind = .function)
    (hnames : ∀ y ∈ scope.names, y.2 = .local → scope.names.lookup y.1 = some .local) (hx : ∀ x ∈ ns, scope.names.lookup x.1 = some .local)
    (h : wpAny (model prog w) A (eval iter env) (SrcZ prog w A h₀ L m env elt ns scope cl E (fun s₂ => FinZE h₀ L m Q s₂)) E s)
    (hs : ∀ x, foldedSetIterable iter env x = pure x := by intro _; rfl) :
    wpAny (model prog w) A (eval (.ListComp elt [⟨.Tuple (ns.map nameT) kt tp, iter, [], 0⟩] scope pos) env) Q E s := by
  rw [eval_ListComp]
  refine wpAny_comprehension_free (use := none) rfl hs hclos hkind hnames (wpAny_mono h (fun xv s₁ h₁ => wpAny_mono h₁ (fun it s₂ h₂ => block_ZB h₂ hcell hkind hx ?_) fun _ _ e => e) fun _ _ e => e)
  intro fp End D C h' tk m' ys news' F' N' off' hn hC₀ hCL hCD hCf hLw hfin hend hEf
  refine ⟨m', hn, fun h'' hs'' => hfin D h'' tk rfl (F'.change hs'' hCL hC₀) (fun p hp => ?_) (hEf _ _ hend fun b hb o e => hs''.extBut b o (fun q => hCf (q ▸ hb)) e)⟩
  refine ⟨hs''.extBut _ _ ?_ (N' p hp).1, (N' p hp).2⟩
  rcases List.mem_cons.mp hp with rfl | hp
  · exact Ne.symm hCD
  · exact off' p hp
theorem Assign_ListComp_Z {elt iter : PySem.Expr} {ns : List (Str × Pos)} {y : Str} {tp py : Pos} {kt : Nat} {scope : Scope} {cl : List (Str × Addr)} {pos spos : Pos} {Q : Flow → Shared → Prop} (F₀ : Fr h₀ L s.heap m) (hLe : env.locals = L)
    (hsw : swapsWith (.ListComp elt [⟨.Tuple (ns.map nameT) kt tp, iter, [], 0⟩] scope pos) (some (.Name y py)) spos.line env = pure true)
    (hclos : closureFor scope env = pure cl) (hcell : ∀ z ∈ scope.names, z.2 ≠ .cell) (hkind : scope.kind = .function)
    (hnames : ∀ z ∈ scope.names, z.2 = .local → scope.names.lookup z.1 = some .local) (hx : ∀ x ∈ ns, scope.names.lookup x.1 = some .local)
    (hy : env.kindOf y = some .local) (hp : (env.scope.kind == .class || (env.scope.kind == .module && env.locals != env.globals)) = false)
    (h : wpAny (model prog w) A (eval iter env) (SrcZ prog w A h₀ L m env elt ns scope cl E (fun s₂ => FinZA h₀ L m y Q s₂)) E s)
    (hs : ∀ x, foldedSetIterable iter env x = pure x := by intro _; rfl) :
    wpAny (model prog w) A (exec (.Assign [.Name y py] (.ListComp elt [⟨.Tuple (ns.map nameT) kt tp, iter, [], 0⟩] scope pos) spos) env) Q E s := by
  subst hLe
  rw [exec_Assign_Name_used _ _ _ _ hsw]
  refine wpAny_bind (wpAny_standAt (wpAny_bind ?_))
  show wpAny _ A (do let _ ← comprehension (.ListComp elt [⟨.Tuple (ns.map nameT) kt tp, iter, [], 0⟩] scope pos) scope env _ (newList []) false (eval iter env) (some (assign (.Name y py) env))) _ _ s
  refine wpAny_bind (wpAny_mono (wpAny_comprehension_free (use := some (assign (.Name y py) env)) (Q := fun _ s' => Q .next s') rfl hs hclos hkind hnames
    (wpAny_mono h (fun xv s₁ h₁ => wpAny_mono h₁ (fun it s₂ h₂ => block_ZB h₂ hcell hkind hx ?_) fun _ _ e => e) fun _ _ e => e)) (fun _ s' hq => wpAny_pure (wpAny_pure hq)) fun _ _ e => e)
  intro fp End D C h' tk m' ys news' F' N' off' hn hC₀ hCL hCD hCf hLw hfin hend hEf
  show wpAny _ A (assign (.Name y py) env (.ref D)) _ _ _
  refine wpAny_assign_Name (wpAny_storeName_local hy F'.ns (fun h₂ hn₂ hs₂ => ?_) hp)
  have hL₀ : h₀.get? env.locals = none := Heap.get?_none_of_le F'.above
  have F₂ : Fr h₀ env.locals h₂ (fun z => if z = y then some (.ref D) else m z) := ⟨hn₂, fun b o e => hs₂.extBut b o (fun q => by rw [q, hL₀] at e; cases e) (F'.keep b o e), F'.above⟩
  refine ⟨m', hn.sameBut hs₂ hCL, fun h'' hs'' => hfin D h'' _ rfl (F₂.change hs'' hCL hC₀) (fun p hp => ?_) (hEf _ _ hend fun b hb o e => hs''.extBut b o (fun q => hCf (q ▸ hb)) (hs₂.extBut b o (fun q => hLw (q ▸ hb)) e))⟩
  have z : h₂.get? p.1 = some p.2 := hs₂.extBut _ _ (N' p hp).2.1 (N' p hp).1
  refine ⟨hs''.extBut _ _ ?_ z, (N' p hp).2⟩
  rcases List.mem_cons.mp hp with rfl | hp
  · exact Ne.symm hCD
  · exact off' p hp
end
end
section
set_option maxRecDepth 100000
set_option maxHeartbeats 4000000
open PySem PySem.W PySem.Calls PyProof.Rows
section
variable {prog : Program} {w : World} {A : Around} {E : Value → Shared → Prop} {s : Shared}
theorem nextOf_range_item {it : Addr} {x left step : Int} {Q : Value → Shared → Prop} (hit : IsRangeIter s.heap it x left step) (hleft : 0 < left)
    (hQ : ∀ h', IsRangeIter h' it (x + step) (left - 1) step → Heap.SameBut it s.heap h' → Q (.int x s.toks) { s with heap := h', toks := s.toks + 1 }) :
    wpAny (model prog w) A (Builtin.SmallTypes.nextOf (.ref it)) Q E s := by
  have hT : s.TypeIs (.ref it) "range_iterator" := ⟨_, hit, rfl⟩
  unfold Builtin.SmallTypes.nextOf
  refine wpAny_bind (wpAny_callSpecial?_slot (name := Str.ofString "__next__") hT F.slot_range_iterator_next
    (call_meets F.slot_range_iterator_next hT F.entry_range_iterator_next (F.args_range_iterator_next_1 _) (AutoRange.range_iterator___next___range_iterator_1 it x left step (by omega)) ⟨hit, ?_⟩))
  exact wpAny_pure (hQ _ (Heap.get?_update_self _ (Heap.get?_update_self _ hit rfl) rfl) ((Heap.SameBut.update ..).trans (Heap.SameBut.update ..)))
theorem nextOf_range_end {it : Addr} {x left step : Int} {Q : Value → Shared → Prop} (hh : A.handled = none) (hit : IsRangeIter s.heap it x left step) (hleft : left ≤ 0)
    (hE : ∀ h' e, Heap.ExtBut it s.heap h' → (∃ o, h'.get? e = some o ∧ o.cls = .type "StopIteration") → E (.ref e) { s with heap := h' }) :
    wpAny (model prog w) A (Builtin.SmallTypes.nextOf (.ref it)) Q E s := by
  have hT : s.TypeIs (.ref it) "range_iterator" := ⟨_, hit, rfl⟩
  unfold Builtin.SmallTypes.nextOf
  refine wpAny_bind (wpAny_callSpecial?_slot (name := Str.ofString "__next__") hT F.slot_range_iterator_next
    (wpAny_call_entry F.slot_range_iterator_next hT F.entry_range_iterator_next ?_ (F.args_range_iterator_next_1 _)))
  show wpAny _ _ (field (.ref it) 0 >>= _) _ _ s
  refine wpAny_bind (wpAny_field hit rfl (x := rawInt x) rfl ?_)
  show wpAny _ _ (field (.ref it) 1 >>= _) _ _ s
  refine wpAny_bind (wpAny_field hit rfl (x := rawInt left) rfl ?_)
  show wpAny _ _ (field (.ref it) 2 >>= _) _ _ s
  refine wpAny_bind (wpAny_field hit rfl (x := rawInt step) rfl ?_)
  show wpAny _ _ (if left ≤ 0 then _ else _) _ _ s
  rw [if_pos hleft]
  refine wpAny_bind (wpAny_rule ?_)
  refine wpAny_bind ?_
  show wpAny _ _ (newExc (.type "StopIteration") [] >>= _) _ _ _
  refine wpAny_bind ?_
  simp only [newExc, newTuple]
  refine wpAny_bind (wpAny_newObj_type ?_ (by size_fits))
  refine wpAny_bind (m := firstArgMember _ _) (wpAny_of_eq (a := Value.none) (by first | rfl | (simp only [firstArgMember]; rfl)) ?_)
  refine wpAny_newObj_type ?_ (by size_fits)
  simp only [raiseNew]
  refine wpAny_bind (wpAny_handled ?_)
  first | rw [show A.in1.handled = none from hh] | rw [hh]
  refine wpAny_bind (wpAny_pure (wpAny_throw ?_))
  exact hE _ _ (((Heap.ExtBut.refl _ _).push _).push _) ⟨_, Heap.get?_push_size _ rfl, rfl⟩
structure ZApart (z TI TO i1 i2 l2 : Addr) : Prop where
  TIz : TI ≠ z
  TOz : TO ≠ z
  i1z : i1 ≠ z
  i2z : i2 ≠ z
  TITO : TI ≠ TO
  TIi1 : TI ≠ i1
  TIi2 : TI ≠ i2
  TOi1 : TO ≠ i1
  TOi2 : TO ≠ i2
  i12 : i1 ≠ i2
  l2z : l2 ≠ z
  l2TO : l2 ≠ TO
  l2i1 : l2 ≠ i1
  l2i2 : l2 ≠ i2
theorem zr_next_item {z TI TO i1 i2 l2 : Addr} {k2 : Nat} {x left : Int} {ys : Array Value} {y a b : Value} {Q : Value → Shared → Prop} (D : ZApart z TI TO i1 i2 l2)
    (hz : IsZip s.heap z TI TO .none) (hTI : IsPair s.heap TI (.ref i1) (.ref i2)) (hTO : IsPair s.heap TO a b)
    (h1 : IsRangeIter s.heap i1 x left 1) (hleft : 0 < left) (h2 : s.heap.IsListIter i2 l2 k2) (hl2 : s.heap.IsList l2 ys) (hy : ys[k2]? = some y)
    (hQ : ∀ h' tk t, IsZip h' z TI TO (rawInt s.heap.objs.size) → IsPair h' TO (.int x t) y → IsRangeIter h' i1 (x + 1) (left - 1) 1 → h'.IsListIter i2 l2 (k2 + 1) → IsPair h' s.heap.objs.size (.int x t) y → h'.objs.size = s.heap.objs.size + 1 →
      (∀ c o, c ≠ z → c ≠ TO → c ≠ i1 → c ≠ i2 → s.heap.get? c = some o → h'.get? c = some o) → Q (.ref s.heap.objs.size) { s with heap := h', toks := tk }) :
    wpAny (model prog w) A (Builtin.«zip.__next__» ⟨[.ref z], []⟩) (fun fin s' => ∃ v, fin = .done (.ret v) ∧ Q v s') E s := by
  show wpAny _ _ (field (.ref z) 2 >>= _) _ _ _
  refine wpAny_bind (wpAny_field hz rfl (x := .bool false) rfl ?_)
  show wpAny _ _ (field (.ref z) 3 >>= _) _ _ _
  refine wpAny_bind (wpAny_field hz rfl (x := .ref TI) rfl ?_)
  refine wpAny_bind (wpAny_seqItems hTI rfl ?_)
  show wpAny _ _ (Builtin.SmallTypes.ownedTupleIsFree (.ref z) >>= _) _ _ _
  refine wpAny_bind ?_
  unfold Builtin.SmallTypes.ownedTupleIsFree
  refine wpAny_bind (wpAny_field hz rfl (x := .none) rfl (wpAny_pure ?_))
  simp only [if_true]
  refine wpAny_bind (wpAny_rule ?_)
  refine wpAny_bind (wpAny_field hz rfl (x := .ref TO) rfl ?_)
  refine wpAny_bind (wpAny_setField_rec hz (by simp) fun h₁ hz₁ hs₁ => ?_)
  replace hz₁ : IsZip h₁ z TI TO .ellipsis := hz₁
  refine wpAny_bind ?_
  simp only [List.zipIdx_cons, List.zipIdx_nil, List.forIn_cons, List.forIn_nil]
  refine wpAny_bind (wpAny_bind (wpAny_onRaise ?_))
  show wpAny _ _ (Builtin.SmallTypes.nextOf (.ref i1) >>= _) _ _ _
  refine wpAny_bind (nextOf_range_item (hs₁.extBut _ _ D.i1z h1) hleft fun h₂ h1₂ hs₂ => wpAny_pure ?_)
  have hTO₂ : IsPair h₂ TO a b := hs₂.extBut _ _ D.TOi1 (hs₁.extBut _ _ D.TOz hTO)
  refine wpAny_bind (wpAny_seqItems hTO₂ rfl ?_)
  refine wpAny_bind (wpAny_updateSeq_pair hTO₂ fun h₃ hTO₃ hs₃ => ?_)
  replace hTO₃ : IsPair h₃ TO (.int x s.toks) b := hTO₃
  refine wpAny_bind (wpAny_letGo (wpAny_pure ?_))
  refine wpAny_bind (wpAny_bind (wpAny_onRaise ?_))
  show wpAny _ _ (Builtin.SmallTypes.nextOf (.ref i2) >>= _) _ _ _
  refine wpAny_bind (wpAny_nextOf_list_item (((h2.extBut hs₁.extBut D.i2z).extBut hs₂.extBut D.i12.symm).extBut hs₃.extBut D.TOi2.symm)
    (((hl2.extBut hs₁.extBut D.l2z).extBut hs₂.extBut D.l2i1).extBut hs₃.extBut D.l2TO) hy fun h₄ h2₄ hs₄ => wpAny_pure ?_)
  have hTO₄ : IsPair h₄ TO (.int x s.toks) b := hs₄.extBut _ _ D.TOi2 hTO₃
  refine wpAny_bind (wpAny_seqItems hTO₄ rfl ?_)
  refine wpAny_bind (wpAny_updateSeq_pair hTO₄ fun h₅ hTO₅ hs₅ => ?_)
  replace hTO₅ : IsPair h₅ TO (.int x s.toks) y := hTO₅
  refine wpAny_bind (wpAny_letGo (wpAny_pure (wpAny_pure ?_)))
  refine wpAny_bind (wpAny_seqItems hTO₅ rfl ?_)
  refine wpAny_bind (wpAny_newTuple ?_)
  have hsz : h₅.objs.size = s.heap.objs.size := by rw [hs₅.1, hs₄.1, hs₃.1, hs₂.1, hs₁.1]
  have hz₅ : IsZip h₅ z TI TO .ellipsis := hs₅.extBut _ _ D.TOz.symm (hs₄.extBut _ _ D.i2z.symm (hs₃.extBut _ _ D.TOz.symm (hs₂.extBut _ _ D.i1z.symm hz₁)))
  have hk₅ : ∀ c o, c ≠ z → c ≠ TO → c ≠ i1 → c ≠ i2 → s.heap.get? c = some o → h₅.get? c = some o := fun c o c1 c2 c3 c4 e =>
    hs₅.extBut _ _ c2 (hs₄.extBut _ _ c4 (hs₃.extBut _ _ c2 (hs₂.extBut _ _ c3 (hs₁.extBut _ _ c1 e))))
  have h1₅ : IsRangeIter h₅ i1 (x + 1) (left - 1) 1 := hs₅.extBut _ _ D.TOi1.symm (hs₄.extBut _ _ D.i12 (hs₃.extBut _ _ D.TOi1.symm h1₂))
  have h2₅ : h₅.IsListIter i2 l2 (k2 + 1) := h2₄.extBut hs₅.extBut D.TOi2.symm
  have hzlt : z < h₅.objs.size := Heap.lt_size hz₅
  show wpAny _ _ (Builtin.SmallTypes.ownedTupleHandOut (.ref z) (.ref h₅.objs.size) >>= _) _ _ _
  refine wpAny_bind ?_
  unfold Builtin.SmallTypes.ownedTupleHandOut
  have hz₆ : IsZip (h₅.push { cls := .type "tuple", data := .seq #[.int x s.toks, y] }) z TI TO .ellipsis := Heap.get?_push_of_some _ hz₅
  refine wpAny_bind (wpAny_setField_rec hz₆ (by simp) fun h₇ hz₇ hs₇ => ?_)
  replace hz₇ : IsZip h₇ z TI TO (rawInt h₅.objs.size) := hz₇
  refine wpAny_setField_rec hz₇ (by simp) fun h₈ hz₈ hs₈ => ?_
  replace hz₈ : IsZip h₈ z TI TO (rawInt h₅.objs.size) := hz₈
  have up : ∀ c o, c ≠ z → h₅.get? c = some o → h₈.get? c = some o := fun c o c1 e => hs₈.extBut _ _ c1 (hs₇.extBut _ _ c1 (Heap.get?_push_of_some _ e))
  have hT₈ : IsPair h₈ h₅.objs.size (.int x s.toks) y := hs₈.extBut _ _ (Nat.ne_of_gt hzlt) (hs₇.extBut _ _ (Nat.ne_of_gt hzlt) (Heap.get?_push_size _ rfl))
  have hz8 : h₈.objs.size = h₅.objs.size + 1 := by rw [hs₈.1, hs₇.1, Heap.size_push]
  rw [hsz] at hz₈ hT₈ hz8
  refine wpAny_pure ⟨_, rfl, ?_⟩
  show Q (.ref h₅.objs.size) _
  rw [hsz]
  exact hQ h₈ _ _ hz₈ (up _ _ D.TOz hTO₅) (up _ _ D.i1z h1₅) (h2₅.at fun o e => up _ o D.i2z e) hT₈ hz8 fun c o c1 c2 c3 c4 e => up c o c1 (hk₅ c o c1 c2 c3 c4 e)
theorem zr_next_end {z TI TO i1 i2 : Addr} {x left : Int} {a b : Value} {Q : PySem.Fin → Shared → Prop} (hh : A.handled = none) (i1z : i1 ≠ z)
    (hz : IsZip s.heap z TI TO .none) (hTI : IsPair s.heap TI (.ref i1) (.ref i2))
    (h1 : IsRangeIter s.heap i1 x left 1) (hleft : left ≤ 0)
    (hE : ∀ h' e, (∀ c o, c ≠ z → c ≠ TO → c ≠ i1 → s.heap.get? c = some o → h'.get? c = some o) → (∃ o, h'.get? e = some o ∧ o.cls = .type "StopIteration") → E (.ref e) { s with heap := h' }) :
    wpAny (model prog w) A (Builtin.«zip.__next__» ⟨[.ref z], []⟩) Q E s := by
  show wpAny _ _ (field (.ref z) 2 >>= _) _ _ _
  refine wpAny_bind (wpAny_field hz rfl (x := .bool false) rfl ?_)
  show wpAny _ _ (field (.ref z) 3 >>= _) _ _ _
  refine wpAny_bind (wpAny_field hz rfl (x := .ref TI) rfl ?_)
  refine wpAny_bind (wpAny_seqItems hTI rfl ?_)
  show wpAny _ _ (Builtin.SmallTypes.ownedTupleIsFree (.ref z) >>= _) _ _ _
  refine wpAny_bind ?_
  unfold Builtin.SmallTypes.ownedTupleIsFree
  refine wpAny_bind (wpAny_field hz rfl (x := .none) rfl (wpAny_pure ?_))
  simp only [if_true]
  refine wpAny_bind (wpAny_rule ?_)
  refine wpAny_bind (wpAny_field hz rfl (x := .ref TO) rfl ?_)
  refine wpAny_bind (wpAny_setField_rec hz (by simp) fun h₁ hz₁ hs₁ => ?_)
  replace hz₁ : IsZip h₁ z TI TO .ellipsis := hz₁
  refine wpAny_bind ?_
  simp only [List.zipIdx_cons, List.zipIdx_nil, List.forIn_cons, List.forIn_nil]
  refine wpAny_bind (wpAny_bind (wpAny_onRaise ?_))
  show wpAny _ _ (Builtin.SmallTypes.nextOf (.ref i1) >>= _) _ _ _
  refine wpAny_bind (nextOf_range_end hh (hs₁.extBut _ _ i1z h1) hleft fun h₂ e hs₂ he => ?_)
  obtain ⟨oe, hoe, hce⟩ := he
  have hz₂ : IsZip h₂ z TI TO .ellipsis := hs₂ _ _ i1z.symm hz₁
  have hez : e ≠ z := fun x => by subst x; rw [hz₂] at hoe; cases hoe; simp at hce
  refine wpAny_setField_rec hz₂ (by simp) fun h₃ _ hs₃ => hE h₃ e (fun c o c1 _ c3 x => hs₃.extBut _ _ c1 (hs₂ _ _ c3 (hs₁.extBut _ _ c1 x))) ⟨oe, hs₃.extBut _ _ hez hoe, hce⟩
/-- the walk of zip(range(n), it), of which 'it' has n items left at least -/
theorem walks_zr (hh : A.handled = none) (z TI TO i1 i2 l2 : Addr) (D : ZApart z TI TO i1 i2 l2) (n : Nat) (ys : Array Value) (hn : n ≤ ys.size) :
    WalksU prog w A z [z, TI, TO, i1, i2, l2] [z, TO, i1, i2] n
      (fun i vals => ∃ t y, ys[i]? = some y ∧ vals = #[.int (i : Int) t, y])
      (fun i h => IsZip h z TI TO .none ∧ IsPair h TI (.ref i1) (.ref i2) ∧ (∃ a b, IsPair h TO a b) ∧ IsRangeIter h i1 (i : Int) ((n : Int) - i) 1 ∧ h.IsListIter i2 l2 i ∧ h.IsList l2 ys)
      (fun i T h => IsZip h z TI TO (rawInt T) ∧ IsPair h TI (.ref i1) (.ref i2) ∧ (∃ a b, IsPair h TO a b) ∧ IsRangeIter h i1 ((i + 1 : Nat) : Int) ((n : Int) - (i + 1 : Nat)) 1 ∧ h.IsListIter i2 l2 (i + 1) ∧ h.IsList l2 ys ∧
        T ≠ z ∧ T ≠ TO ∧ T ≠ i1 ∧ T ≠ i2) where
  sub := fun c hc => by simp at hc ⊢; rcases hc with rfl | rfl | rfl | rfl <;> simp
  frame := fun i h h' hst hk => by
    obtain ⟨hz, hTI, ⟨a, b, hTO⟩, h1, h2, hl2⟩ := hst
    exact ⟨hk z (by simp) _ hz, hk TI (by simp) _ hTI, ⟨a, b, hk TO (by simp) _ hTO⟩, hk i1 (by simp) _ h1, h2.at fun o e => hk i2 (by simp) o e, hl2.at fun o e => hk l2 (by simp) o e⟩
  item := fun i s Q E hi hst hQ => by
    obtain ⟨hz, hTI, ⟨a, b, hTO⟩, h1, h2, hl2⟩ := hst
    have hiy : i < ys.size := Nat.lt_of_lt_of_le hi hn
    have hT : s.TypeIs (.ref z) "zip" := ⟨_, hz, rfl⟩
    unfold pyNext
    refine wpAny_bind (wpAny_attempt (wpAny_callSpecial?_slot (name := Str.ofString "__next__") hT F.slot_zip_next
      (wpAny_call_entry F.slot_zip_next hT F.entry_zip_next
        (zr_next_item D hz hTI hTO h1 (by omega) h2 hl2 (Array.getElem?_eq_getElem hiy) fun h' tk t a1 a2 a3 a4 a5 a6 hk => wpAny_pure ?_) (F.args_zip_next_1 _))))
    have lt : ∀ {c o}, s.heap.get? c = some o → s.heap.objs.size ≠ c := fun e => Nat.ne_of_gt (Heap.lt_size e)
    refine hQ s.heap.objs.size #[.int (i : Int) t, ys[i]] h' tk ⟨_, _, Array.getElem?_eq_getElem hiy, rfl⟩ ⟨_, a5, rfl, _, rfl⟩
      ⟨a1, hk _ _ D.TIz D.TITO D.TIi1 D.TIi2 hTI, ⟨_, _, a2⟩, ?_, a4, hl2.at fun o e => hk _ o D.l2z D.l2TO D.l2i1 D.l2i2 e,
        lt hz, lt hTO, lt h1, (by obtain ⟨_, e, _⟩ := h2; exact lt e)⟩
      fun c o hc e => hk c o (fun x => hc (by simp [x])) (fun x => hc (by simp [x])) (fun x => hc (by simp [x])) (fun x => hc (by simp [x])) e
    have e2 : (n : Int) - ((i + 1 : Nat) : Int) = (n : Int) - (i : Int) - 1 := by omega
    rw [e2]
    exact a3
  go := fun elts k pos i T s Q E hm hQ => by
    obtain ⟨hz, hTI, ⟨a, b, hTO⟩, h1, h2, hl2, _⟩ := hm
    refine wpAny_letOwnedTupleGo_zip hz fun h' hz' hs' => hQ h' ⟨hz', hs'.extBut _ _ D.TIz hTI, ⟨a, b, hs'.extBut _ _ D.TOz hTO⟩, hs'.extBut _ _ D.i1z h1, h2.extBut hs'.extBut D.i2z,
      hl2.extBut hs'.extBut D.l2z⟩ fun c o hc e => hs'.extBut _ _ (fun x => hc (by simp [x])) e
  apart := fun i T h hm hT => by
    obtain ⟨_, _, _, _, _, _, t1, t2, t3, t4⟩ := hm
    simp at hT
    rcases hT with rfl | rfl | rfl | rfl
    · exact t1 rfl
    · exact t2 rfl
    · exact t3 rfl
    · exact t4 rfl
  done := fun s Q E hst hQ => by
    obtain ⟨hz, hTI, ⟨a, b, hTO⟩, h1, h2, hl2⟩ := hst
    have hT : s.TypeIs (.ref z) "zip" := ⟨_, hz, rfl⟩
    unfold pyNext
    refine wpAny_bind (wpAny_attempt (wpAny_callSpecial?_slot (name := Str.ofString "__next__") hT F.slot_zip_next
      (wpAny_call_entry F.slot_zip_next hT F.entry_zip_next (zr_next_end (a := a) (b := b) hh D.i1z hz hTI h1 (by omega) fun h' e hk he => ?_) (F.args_zip_next_1 _))))
    obtain ⟨o, ho, hc⟩ := he
    refine wpAny_bind (wpAny_isInstance (T := "StopIteration") (b := true) ⟨o, ho, hc⟩ isSubtype_stop ?_)
    exact wpAny_pure (hQ h' s.toks fun c o hc e => hk c o (fun x => hc (by simp [x])) (fun x => hc (by simp [x])) (fun x => hc (by simp [x])) e)
  self := fun i s Q E hst hQ => wpAny_pyIter_zip hst.1 hQ
noncomputable abbrev ritO (x left : Int) : Obj := { cls := .type "range_iterator", data := .fields #[rawInt x, rawInt left, rawInt 1] }
noncomputable abbrev zr1 (h : Heap) (n : Nat) : Heap := h.push (ritO 0 n)
noncomputable abbrev zr2 (h : Heap) (n : Nat) (I : Addr) : Heap := (zr1 h n).push { cls := .type "tuple", data := .seq #[.ref h.objs.size, .ref I] }
noncomputable abbrev zr3 (h : Heap) (n : Nat) (I : Addr) : Heap := (zr2 h n I).push { cls := .type "tuple", data := .seq #[.none, .none] }
noncomputable abbrev zr4 (h : Heap) (n : Nat) (I : Addr) : Heap := (zr3 h n I).push { cls := .type "zip", data := .fields #[.none, .bool false, .bool false, .ref (zr1 h n).objs.size, .ref (zr2 h n I).objs.size] }
theorem meets_zr_new (r I l : Addr) (n k : Nat) (t u v : Tok) (hn : n ≤ 1000) :
    Meets (Builtin.«zip.__new__» ⟨[.type "zip", .ref r, .ref I], []⟩) (fun _ R s => IsRange s.heap r 0 n 1 t u v ∧ s.heap.IsListIter I l k ∧
      R (.ok (.ret (.ref (zr3 s.heap n I).objs.size))) { s with heap := zr4 s.heap n I }) :=
  .of_wp fun prog w A R s h => by
    obtain ⟨hp, g, d, tk, os⟩ := s; obtain ⟨hr, hI, h⟩ := h
    have hsub := sub_zip
    have hsm : Builtin.Range.small 0 (n : Int) 1 = true := small_one (by omega) (by omega) (by omega) (by omega)
    have hsz : Builtin.Range.rangeSize 0 (n : Int) 1 = (n : Int) := by rw [rangeSize_nat]; simp
    have hR1 : IsRange (Shared.heap ⟨hp, g, d, tk, os⟩) r 0 n 1 t u v := hr
    have up : (hp.push (ritO 0 n)).IsListIter I l k := hI.at fun o e => Heap.get?_push_of_some _ e
    have hI2 : Heap.IsListIter (Shared.heap ⟨hp.push { cls := .type "range_iterator", data := .fields #[rawInt 0, rawInt (Builtin.Range.rangeSize 0 (n : Int) 1), rawInt 1] }, g, d, tk, os⟩) I l k := by rw [hsz]; exact up
    wp_walk using wpAny_pyIter_range hR1 hsm, wpAny_pyIter_listiter hI2
    rw [hsz]
    exact ⟨_, rfl, h⟩
theorem g_zip {h₀ : Heap} {L : Addr} {m : Str → Option Value} {news : List (Addr × Obj)} {r I l : Addr} {n k : Nat} {vs : List Value} {t u v : Tok} {Q : Value → Shared → Prop} (F : Fr h₀ L s.heap m) (N : News h₀ L s.heap news) (hr : IsRange s.heap r 0 n 1 t u v) (hn : n ≤ 1000)
    {oI : Obj} (hI : (I, oI) ∈ news) (hoc : oI.cls = .type "list_iterator") (hod : oI.data = .fields #[.ref l, .int ((0 : Nat) : Int) 0]) (hl : (l, listOf vs.toArray k) ∈ news) (hlI : l ≠ I)
    (h : ∀ z TI TO i1 h', ZApart z TI TO i1 I l → IsZip h' z TI TO .none → IsPair h' TI (.ref i1) (.ref I) → IsPair h' TO .none .none → IsRangeIter h' i1 0 n 1 → Fr h₀ L h' m → News h₀ L h' news →
      (∀ b ∈ [z, TI, TO, i1], (∀ p ∈ news, p.1 < b) ∧ L < b ∧ h₀.get? b = none ∧ b < h'.objs.size) → Q (.ref z) { s with heap := h' }) :
    wpAny (model prog w) A (call (.type "zip") [.ref r, .ref I]) Q E s := by
  have hit : s.heap.IsListIter I l 0 := ⟨oI, (N _ hI).1, hoc, hod⟩
  refine callType_new PySem.F.called_zip (by decide) (PySem.F.typeCall_zip_2 _ _) (PySem.F.newCall_zip_2 _ _) (fun obj => PySem.F.args_object_init_3 obj _ _) PySem.F.entry_zip_new
    (meets_zr_new r I l n 0 t u v hn) ⟨hr, hit, ?_⟩
  have z1 : (zr1 s.heap n).objs.size = s.heap.objs.size + 1 := Heap.size_push ..
  have z2 : (zr2 s.heap n I).objs.size = s.heap.objs.size + 2 := by rw [Heap.size_push, z1]
  have z3 : (zr3 s.heap n I).objs.size = s.heap.objs.size + 3 := by rw [Heap.size_push, z2]
  have z4 : (zr4 s.heap n I).objs.size = s.heap.objs.size + 4 := by rw [Heap.size_push, z3]
  have g4 : (zr4 s.heap n I).get? (zr3 s.heap n I).objs.size = some _ := Heap.get?_push_size _ rfl
  have g3 : (zr4 s.heap n I).get? (zr2 s.heap n I).objs.size = some _ := Heap.get?_push_of_some _ (Heap.get?_push_size _ rfl)
  have g2 : (zr4 s.heap n I).get? (zr1 s.heap n).objs.size = some _ := Heap.get?_push_of_some _ (Heap.get?_push_of_some _ (Heap.get?_push_size _ rfl))
  have g1 : (zr4 s.heap n I).get? s.heap.objs.size = some _ := Heap.get?_push_of_some _ (Heap.get?_push_of_some _ (Heap.get?_push_of_some _ (Heap.get?_push_size _ rfl)))
  have up : ∀ b o, s.heap.get? b = some o → (zr4 s.heap n I).get? b = some o := fun b o e => Heap.get?_push_of_some _ (Heap.get?_push_of_some _ (Heap.get?_push_of_some _ (Heap.get?_push_of_some _ e)))
  show _ ∧ _
  have sz : ∀ p ∈ news, p.1 < s.heap.objs.size := fun p hp => Heap.lt_size (N p hp).1
  have hIlt := sz _ hI
  have hllt := sz _ hl
  have hLlt : L < s.heap.objs.size := F.ns.lt
  simp only at hIlt hllt
  refine ⟨⟨_, g4, rfl⟩, h (zr3 s.heap n I).objs.size (zr1 s.heap n).objs.size (zr2 s.heap n I).objs.size s.heap.objs.size (zr4 s.heap n I) ?_ g4 g2 g3 g1 (F.keeps up) (N.grown up) ?_⟩
  · rw [z1, z2, z3]
    exact ⟨Nat.ne_of_lt (Nat.add_lt_add_left (by decide) _), Nat.ne_of_lt (Nat.add_lt_add_left (by decide) _), Nat.ne_of_lt (Nat.lt_add_of_pos_right (by decide)), Nat.ne_of_lt (Nat.lt_of_lt_of_le hIlt (Nat.le_add_right _ _)), Nat.ne_of_lt (Nat.add_lt_add_left (by decide) _), Nat.ne_of_gt (Nat.lt_add_of_pos_right (by decide)),
      Nat.ne_of_gt (Nat.lt_of_lt_of_le hIlt (Nat.le_add_right _ _)), Nat.ne_of_gt (Nat.lt_add_of_pos_right (by decide)), Nat.ne_of_gt (Nat.lt_of_lt_of_le hIlt (Nat.le_add_right _ _)), Nat.ne_of_gt hIlt, Nat.ne_of_lt (Nat.lt_of_lt_of_le hllt (Nat.le_add_right _ _)), Nat.ne_of_lt (Nat.lt_of_lt_of_le hllt (Nat.le_add_right _ _)), Nat.ne_of_lt hllt, hlI⟩
  · intro b hb
    have key : s.heap.objs.size ≤ b ∧ b < s.heap.objs.size + 4 := by
      rw [z1, z2, z3] at hb
      simp only [List.mem_cons, List.not_mem_nil, or_false] at hb
      rcases hb with e | e | e | e <;> (rw [e]; constructor)
      · exact Nat.le_add_right _ _
      · exact Nat.add_lt_add_left (by decide) _
      · exact Nat.le_add_right _ _
      · exact Nat.add_lt_add_left (by decide) _
      · exact Nat.le_add_right _ _
      · exact Nat.add_lt_add_left (by decide) _
      · exact Nat.le_refl _
      · exact Nat.lt_add_of_pos_right (by decide)
    refine ⟨fun p hp => Nat.lt_of_lt_of_le (sz p hp) key.1, Nat.lt_of_lt_of_le hLlt key.1, ?_, by rw [z4]; exact key.2⟩
    exact Heap.get?_none_of_le (Nat.le_trans F.above (Nat.le_trans (Nat.le_of_lt hLlt) key.1))
end
end
section
set_option maxRecDepth 100000
set_option maxHeartbeats 4000000
open PySem PySem.W PySem.Calls PyProof.Rows
noncomputable abbrev triO (e : Str) (o : Nat) (t1 t2 t3 : Tok) : Obj := seqObj "tuple" #[.str (esc e) t1, .int (o : Int) t2, .str e t3] 0
noncomputable def TriAt (S : List (Addr × Obj)) (v : Value) (d : Nat × Str) : Prop := ∃ a t1 t2 t3, v = .ref a ∧ (a, triO d.2 d.1 t1 t2 t3) ∈ S
noncomputable def Func (S : List (Addr × Obj)) : Prop := ∀ a o o', (a, o) ∈ S → (a, o') ∈ S → o = o'
theorem News.func {h₀ h : Heap} {L : Addr} {S : List (Addr × Obj)} (N : News h₀ L h S) : Func S := fun a o o' h1 h2 => by
  have e1 := (N _ h1).1
  have e2 := (N _ h2).1
  exact Option.some.inj (e1.symm.trans e2)
theorem TriAt.inj {S : List (Addr × Obj)} (hf : Func S) {v : Value} {d d' : Nat × Str} (h : TriAt S v d) (h' : TriAt S v d') : d = d' := by
  obtain ⟨a, t1, t2, t3, rfl, hm⟩ := h
  obtain ⟨a', t1', t2', t3', e, hm'⟩ := h'
  cases e
  have := hf _ _ _ hm hm'
  simp only [triO, seqObj, Obj.mk.injEq, Data.seq.injEq] at this
  obtain ⟨_, _, hd, _⟩ := this
  obtain ⟨hd, _⟩ := hd
  have hl := congrArg Array.toList hd
  simp only [List.cons.injEq, Value.str.injEq, Value.int.injEq] at hl
  obtain ⟨_, ⟨ho, _⟩, ⟨he, _⟩, _⟩ := hl
  exact Prod.ext (by exact_mod_cast ho) he
theorem TriAt.more {S S' : List (Addr × Obj)} (h : ∀ p ∈ S, p ∈ S') {v : Value} {d : Nat × Str} (t : TriAt S v d) : TriAt S' v d :=
  let ⟨a, t1, t2, t3, e, hm⟩ := t; ⟨a, t1, t2, t3, e, h _ hm⟩
open Classical in
noncomputable def dec (S : List (Addr × Obj)) (v : Value) : Nat × Str := if h : ∃ d, TriAt S v d then Classical.choose h else (0, ⟨#[]⟩)
theorem dec_eq {S : List (Addr × Obj)} (hf : Func S) {v : Value} {d : Nat × Str} (h : TriAt S v d) : dec S v = d := by
  unfold dec
  have hex : ∃ d, TriAt S v d := ⟨d, h⟩
  rw [dif_pos hex]
  exact (Classical.choose_spec hex).inj hf h
noncomputable def triLt (p q : Nat × Str) : Bool := if esc p.2 = esc q.2 then decide (p.1 < q.1) else slt (esc p.2) (esc q.2)
noncomputable def triV (S : List (Addr × Obj)) (a b : Value) : Bool := triLt (dec S a) (dec S b)
theorem slt_asymm {x y : Str} (h : slt x y = true) : slt y x = false := tpo_ltV.asymm (.str x 0) (.str y 0) h
theorem slt_trans {x y z : Str} (h1 : slt y x = false) (h2 : slt z y = false) : slt z x = false := tpo_ltV.trans (.str x 0) (.str y 0) (.str z 0) h1 h2
theorem slt_irrefl (x : Str) : slt x x = false := tpo_ltV.refl (.str x 0)
theorem triLt_false {p q : Nat × Str} (h : triLt p q = false) : slt (esc p.2) (esc q.2) = false ∧ (esc p.2 = esc q.2 → q.1 ≤ p.1) := by
  unfold triLt at h
  by_cases e : esc p.2 = esc q.2
  · rw [if_pos e] at h
    refine ⟨by rw [e]; exact slt_irrefl _, fun _ => ?_⟩
    simpa using h
  · rw [if_neg e] at h
    exact ⟨h, fun q => absurd q e⟩
theorem tpo_triV (S : List (Addr × Obj)) : TPO (triV S) where
  asymm a b h := by
    unfold triV triLt at h ⊢
    by_cases e : esc (dec S a).2 = esc (dec S b).2
    · rw [if_pos e] at h
      rw [if_pos e.symm]
      simp only [decide_eq_true_eq, decide_eq_false_iff_not] at h ⊢
      omega
    · rw [if_neg e] at h
      rw [if_neg (fun q => e q.symm)]
      exact slt_asymm h
  trans a b c h1 h2 := by
    unfold triV at h1 h2 ⊢
    have k1 := triLt_false h1
    have k2 := triLt_false h2
    have k3 := slt_trans k1.1 k2.1
    unfold triLt
    by_cases e : esc (dec S c).2 = esc (dec S a).2
    · rw [if_pos e]
      have e1 : esc (dec S b).2 = esc (dec S a).2 := slt_tri k1.1 (by rw [← e]; exact k2.1)
      have := k1.2 e1
      have := k2.2 (e.trans e1.symm)
      simp only [decide_eq_false_iff_not]
      omega
    · rw [if_neg e]; exact k3
section
variable {prog : Program} {w : World} {A : Around} {s : Shared}
theorem lexG_tri {p q : Nat × Str} {t1 t2 t3 u1 u2 u3 : Tok} : LexG prog w A s false [(.str (esc p.2) t1, .str (esc q.2) u1), (.int (p.1 : Int) t2, .int (q.1 : Int) u2), (.str p.2 t3, .str q.2 u3)] (triLt p q) := by
  refine ⟨decide (esc p.2 = esc q.2), fun E Q h => wpAny_eqBool_str h, ?_⟩
  unfold triLt
  by_cases h1 : esc p.2 = esc q.2
  · rw [if_pos (decide_eq_true h1), if_pos h1]
    refine ⟨((p.1 : Int) == q.1), fun E Q h => wpAny_eqBool_int h, ?_⟩
    by_cases h2 : p.1 = q.1
    · rw [if_pos (by simp [h2])]
      refine ⟨decide (p.2 = q.2), fun E Q h => wpAny_eqBool_str h, ?_⟩
      rw [if_pos (decide_eq_true (esc_inj h1))]
      show _ = false
      simp [h2]
    · rw [if_neg (by simp; omega)]
      intro E Q h
      refine wpAny_lt_int ?_
      have : decide ((p.1 : Int) < q.1) = decide (p.1 < q.1) := by simp
      rw [this]; exact h
  · rw [if_neg (by rw [decide_eq_false h1]; exact Bool.false_ne_true), if_neg h1]
    intro E Q h
    exact PyProof.Rows.lt_str h
theorem cmpSpec_tri {S : List (Addr × Obj)} (hf : Func S) : CmpSpec prog w S (fun v => ∃ d, TriAt S v d) (triV S) := by
  intro A s' Q E a b ha hb hr hu hq
  obtain ⟨p, hp⟩ := ha
  obtain ⟨q, hq'⟩ := hb
  unfold triV at hq
  rw [dec_eq hf hp, dec_eq hf hq'] at hq
  obtain ⟨x, t1, t2, t3, rfl, hm⟩ := hp
  obtain ⟨y, u1, u2, u3, rfl, hm'⟩ := hq'
  exact rc_lt_tuple (by omega) (hr _ hm) rfl rfl (hr _ hm') rfl rfl lexG_tri (hq s'.toks)
theorem katLex_tri {E : Value → Shared → Prop} {Q : Bool → Shared → Prop} {S : List (Addr × Obj)} {a b : Value} {p q : Nat × Str} (hr : ∀ p ∈ S, s.heap.get? p.1 = some p.2) (hp : TriAt S a p) (hq' : TriAt S b q) (hq : Q (triLt p q) s) : wpAny (model prog w) A (keyLt' (tuples' true) a b) Q E s := by
  obtain ⟨x, t1, t2, t3, rfl, hm⟩ := hp
  obtain ⟨y, u1, u2, u3, rfl, hm'⟩ := hq'
  refine kat_lt (hr _ hm) rfl (hr _ hm') rfl ?_
  show KatLex prog w A true false Q [(.str (esc p.2) t1, .str (esc q.2) u1), (.int (p.1 : Int) t2, .int (q.1 : Int) u2), (.str p.2 t3, .str q.2 u3)] 0 s
  unfold triLt at hq
  refine kat_cons (wpAny_eqBool_str ?_)
  by_cases h1 : esc p.2 = esc q.2
  · rw [decide_eq_true h1]
    rw [if_pos h1] at hq
    refine kat_yes (kat_cons (wpAny_eqBool_int ?_))
    by_cases h2 : p.1 = q.1
    · rw [show ((p.1 : Int) == (q.1 : Int)) = true by simp [h2]]
      refine kat_yes (kat_cons (wpAny_eqBool_str ?_))
      rw [decide_eq_true (esc_inj h1)]
      refine kat_yes (kat_nil ?_)
      have : decide (p.1 < q.1) = false := by simp [h2]
      rw [this] at hq
      exact hq
    · rw [show ((p.1 : Int) == (q.1 : Int)) = false by simp; omega]
      refine kat_no (kat_one _ _ (wpAny_lt_int ?_))
      show Q _ s
      have : decide ((p.1 : Int) < q.1) = decide (p.1 < q.1) := by simp
      rw [this]; exact hq
  · rw [decide_eq_false h1]
    rw [if_neg h1] at hq
    exact kat_no (oneLt_str hq)
end
end
section
set_option maxRecDepth 100000
set_option maxHeartbeats 4000000
open PySem PySem.W PySem.Calls PyProof.Rows
theorem heapFrom_congr {lt lt' : Value → Value → Bool} {st : Nat} {vs : List Value} (h : ∀ a ∈ vs, ∀ b ∈ vs, lt a b = lt' a b) (hf : HeapFrom lt st vs) : HeapFrom lt' st vs := by
  intro k h1 h2 h3
  rw [← h _ (getD_mem h2) _ (getD_mem (by omega))]
  exact hf k h1 h2 h3
noncomputable def elemOf (S : List (Addr × Obj)) (v : Value) : Str := (dec S v).2
noncomputable def NInv (S : List (Addr × Obj)) (ts : List Str) (i n : Nat) (hs : List Value) : Prop :=
  (∀ v ∈ hs, ∃ d, TriAt S v d) ∧ HeapFrom (fun a b => triV S b a) 0 hs ∧ hs.length = n ∧ ∃ Dl : List Str, ((hs.map (elemOf S)) ++ Dl).Perm (ts.take i) ∧ ∀ d ∈ Dl, ∀ v ∈ hs, slt (esc d) (esc (elemOf S v)) = false
noncomputable def CInv (S : List (Addr × Obj)) (ts : List Str) (i : Nat) (ys : List Value) : Prop := ys.length = i ∧ ∀ j, j < i → TriAt S (ys.getD j .none) (j, ts.getD j ⟨#[]⟩)
theorem dec_more {S S' : List (Addr × Obj)} (hf' : Func S') (h : ∀ p ∈ S, p ∈ S') {v : Value} (hv : ∃ d, TriAt S v d) : dec S' v = dec S v := by
  obtain ⟨d, hd⟩ := hv
  have hf : Func S := fun a o o' h1 h2 => hf' a o o' (h _ h1) (h _ h2)
  rw [dec_eq hf' (hd.more h), dec_eq hf hd]
theorem cInv_elems {S : List (Addr × Obj)} (hf : Func S) {ts : List Str} {i : Nat} {ys : List Value} (h : CInv S ts i ys) (hi : i ≤ ts.length) : ys.map (elemOf S) = ts.take i := by
  obtain ⟨h1, h2⟩ := h
  refine List.ext_getElem (by simp; omega) fun j hj1 hj2 => ?_
  have hj : j < i := by simp at hj1; omega
  have := dec_eq hf (h2 j hj)
  simp only [List.getElem_map, List.getElem_take]
  unfold elemOf
  have e1 : ys[j]'(by simp at hj1; omega) = ys.getD j .none := by rw [List.getD_eq_getElem?_getD, List.getElem?_eq_getElem (by omega)]; rfl
  have e2 : ts[j]'(by omega) = ts.getD j ⟨#[]⟩ := by rw [List.getD_eq_getElem?_getD, List.getElem?_eq_getElem (by omega)]; rfl
  rw [e1, e2, this]
theorem nInv_init {S : List (Addr × Obj)} (hf : Func S) {ts : List Str} {n : Nat} {ys : List Value} (h : CInv S ts n ys) (hn : n ≤ ts.length) : NInv S ts n n (hify (fun a b => triV S b a) (ys.length / 2) ys) := by
  have hh : HeapFrom (fun a b => triV S b a) (ys.length / 2) ys := half_heap (tpo_triV S).flip ys
  obtain ⟨k1, k2⟩ := hify_spec (tpo_triV S).flip (ys.length / 2) ys (Nat.div_le_self _ _) hh
  refine ⟨fun v hv => ?_, k1, by rw [k2.length_eq]; exact h.1, [], ?_, by simp⟩
  · have := k2.mem_iff.mp hv
    obtain ⟨j, hj, rfl⟩ := List.mem_iff_getElem.mp this
    have := h.2 j (by rw [← h.1]; exact hj)
    rw [List.getD_eq_getElem?_getD, List.getElem?_eq_getElem hj] at this
    exact ⟨_, this⟩
  · rw [List.append_nil, ← cInv_elems hf h hn]
    exact k2.map _
theorem nInv_root {S : List (Addr × Obj)} {ts : List Str} {i n : Nat} {hs : List Value} (h : NInv S ts i n hs) (v : Value) (hv : v ∈ hs) : slt (esc (elemOf S (hs.getD 0 .none))) (esc (elemOf S v)) = false := by
  obtain ⟨k, hk, rfl⟩ := List.mem_iff_getElem.mp hv
  have := heap_min (tpo_triV S).flip h.2.1 k hk
  have e : hs.getD k .none = hs[k] := by rw [List.getD_eq_getElem?_getD, List.getElem?_eq_getElem hk]; rfl
  rw [e] at this
  exact (triLt_false this).1
theorem take_snoc {ts : List Str} {i : Nat} {x : Str} (hx : ts[i]? = some x) : ts.take (i + 1) = ts.take i ++ [x] := by
  rw [List.take_add_one, hx]; rfl
theorem nInv_keep {S : List (Addr × Obj)} {ts : List Str} {i n : Nat} {hs : List Value} {x : Str} (h : NInv S ts i n hs) (hx : ts[i]? = some x) (hl : slt (esc x) (esc (elemOf S (hs.getD 0 .none))) = false) : NInv S ts (i + 1) n hs := by
  have hr := nInv_root h
  obtain ⟨h1, h2, h3, Dl, h4, h5⟩ := h
  refine ⟨h1, h2, h3, Dl ++ [x], ?_, ?_⟩
  · rw [take_snoc hx, ← List.append_assoc]
    exact h4.append (List.Perm.refl _)
  · intro d hd v hv
    rcases List.mem_append.mp hd with hd | hd
    · exact h5 d hd v hv
    · rw [List.mem_singleton.mp hd]
      exact slt_trans (hr v hv) hl
theorem set0_perm {vs : List Value} {x : Value} (h0 : 0 < vs.length) : (vs.getD 0 .none :: vs.set 0 x).Perm (x :: vs) := by
  cases vs with
  | nil => simp at h0
  | cons a l =>
    show (a :: x :: l).Perm (x :: a :: l)
    exact List.Perm.swap _ _ _
theorem nInv_step {S S' : List (Addr × Obj)} (hf' : Func S') (hs' : ∀ p ∈ S, p ∈ S') {ts : List Str} {i n : Nat} {hs : List Value} {x : Str} {v : Value} {o : Nat} (h : NInv S ts i n hs) (h0 : 0 < n) (hx : ts[i]? = some x) (hv : TriAt S' v (o, x))
    (hl : slt (esc x) (esc (elemOf S (hs.getD 0 .none))) = true) : NInv S' ts (i + 1) n (sup (fun a b => triV S' b a) 0 (hs.set 0 v)) := by
  have hr := nInv_root h
  obtain ⟨h1, h2, h3, Dl, h4, h5⟩ := h
  have hd : ∀ u ∈ hs, dec S' u = dec S u := fun u hu => dec_more hf' hs' (h1 u hu)
  have he : ∀ u ∈ hs, elemOf S' u = elemOf S u := fun u hu => congrArg Prod.snd (hd u hu)
  have h2' : HeapFrom (fun a b => triV S' b a) 0 hs := heapFrom_congr (fun a ha b hb => by unfold triV; rw [hd a ha, hd b hb]) h2
  have h0' : 0 < hs.length := by omega
  obtain ⟨k1, k2⟩ := replace_spec (tpo_triV S').flip h0' h2' (x := v)
  have mem : ∀ u ∈ sup (fun a b => triV S' b a) 0 (hs.set 0 v), u = v ∨ u ∈ hs := by
    intro u hu
    have := (List.mem_or_eq_of_mem_set (k2.mem_iff.mp hu))
    exact this.symm
  refine ⟨fun u hu => ?_, k1, by rw [k2.length_eq, List.length_set]; exact h3, elemOf S (hs.getD 0 .none) :: Dl, ?_, ?_⟩
  · rcases mem u hu with rfl | hu
    · exact ⟨_, hv⟩
    · obtain ⟨d, hd⟩ := h1 u hu
      exact ⟨d, hd.more hs'⟩
  · have q1 : ((hs.getD 0 .none :: sup (fun a b => triV S' b a) 0 (hs.set 0 v)).map (elemOf S')).Perm ((v :: hs).map (elemOf S')) := ((k2.cons _).trans (set0_perm h0')).map _
    have q2 : (v :: hs).map (elemOf S') = x :: hs.map (elemOf S) := by
      rw [List.map_cons]
      congr 1
      · unfold elemOf; rw [dec_eq hf' hv]
      · exact List.map_congr_left he
    rw [q2, List.map_cons, he _ (getD_mem h0')] at q1
    rw [take_snoc hx]
    have q3 : (x :: (hs.map (elemOf S) ++ Dl)).Perm (ts.take i ++ [x]) := (List.perm_append_comm (l₁ := [x])).trans (h4.append (List.Perm.refl _))
    refine List.Perm.trans ?_ q3
    refine (List.perm_middle).trans ?_
    exact (q1.append (List.Perm.refl Dl))
  · intro d hd u hu
    have hx0 : ∀ d', slt (esc d') (esc (elemOf S (hs.getD 0 .none))) = false → slt (esc d') (esc x) = false := fun d' q => slt_trans (slt_asymm hl) q
    rcases mem u hu with rfl | hu
    · have e : elemOf S' u = x := by unfold elemOf; rw [dec_eq hf' hv]
      rw [e]
      rcases List.mem_cons.mp hd with rfl | hd
      · exact slt_asymm hl
      · exact hx0 d (h5 d hd _ (getD_mem h0'))
    · rw [he u hu]
      rcases List.mem_cons.mp hd with rfl | hd
      · exact hr u hu
      · exact h5 d hd u hu
theorem sorted_take {ts : List Str} {L Dl so : List Str} (hp : (L ++ Dl).Perm ts) (hL : L.Pairwise (fun a b => slt (esc b) (esc a) = false)) (hd : ∀ d ∈ Dl, ∀ k ∈ L, slt (esc d) (esc k) = false) (hso : so.Perm ts) (hs : so.Pairwise (fun a b => slt (esc b) (esc a) = false)) : L = so.take L.length := by
  let le : Str → Str → Bool := fun a b => !slt (esc b) (esc a)
  have hm := List.pairwise_mergeSort (le := le) (fun a b c h1 h2 => by simp only [le, Bool.not_eq_true'] at *; exact slt_trans h1 h2) (fun a b => by
    simp only [le, Bool.or_eq_true, Bool.not_eq_true']
    cases q : slt (esc b) (esc a) with
    | false => exact .inl rfl
    | true => exact .inr (slt_asymm q)) Dl
  have hmp := List.mergeSort_perm Dl le
  have e : L ++ Dl.mergeSort le = so := by
    refine sorted_uniq ((((List.Perm.refl L).append hmp).trans hp).trans hso.symm) ?_ hs
    rw [List.pairwise_append]
    refine ⟨hL, hm.imp fun h => by simpa [le] using h, fun a ha b hb => hd b (hmp.mem_iff.mp hb) a ha⟩
  rw [← e, List.take_left]
theorem nInv_end {S : List (Addr × Obj)} {ts : List Str} {n : Nat} {hs out : List Value} (h : NInv S ts ts.length n hs) (hp : out.Perm hs) (hw : out.Pairwise (fun a b => triV S b a = false)) {so : List Str} (hso : so.Perm ts) (hs' : so.Pairwise (fun a b => slt (esc b) (esc a) = false)) :
    out.map (elemOf S) = so.take n := by
  obtain ⟨h1, h2, h3, Dl, h4, h5⟩ := h
  rw [List.take_length] at h4
  have hl : (out.map (elemOf S)).length = n := by rw [List.length_map, hp.length_eq, h3]
  rw [← hl]
  refine sorted_take (ts := ts) (Dl := Dl) (((hp.map _).append (List.Perm.refl Dl)).trans h4) ?_ ?_ hso hs'
  · rw [List.pairwise_map]
    exact hw.imp fun h => (triLt_false h).1
  · intro d hd k hk
    obtain ⟨v, hv, rfl⟩ := List.mem_map.mp hk
    exact h5 d hd v (hp.mem_iff.mp hv)
theorem min_take {ts so : List Str} {x : Str} (hx : x ∈ ts) (hm : ∀ y ∈ ts, slt (esc y) (esc x) = false) (hso : so.Perm ts) (hs : so.Pairwise (fun a b => slt (esc b) (esc a) = false)) : [x] = so.take 1 := by
  obtain ⟨s1, s2, rfl⟩ := List.append_of_mem hx
  refine sorted_take (L := [x]) (Dl := s1 ++ s2) (ts := s1 ++ x :: s2) (by rw [List.singleton_append]; exact List.perm_middle.symm) (List.pairwise_singleton _ _) (fun d hd k hk => ?_) hso hs
  rw [List.mem_singleton.mp hk]
  refine hm d ?_
  rcases List.mem_append.mp hd with h | h <;> simp [h]
theorem esc_uniq {out ts : List Value} {so : List Str} (hp : out.Perm ts) (hw : out.Pairwise (fun a b => escV b a = false)) (hso : so.Perm (ts.map strOf)) (hs : so.Pairwise (fun a b => slt (esc b) (esc a) = false)) : out.map strOf = so :=
  sorted_uniq ((hp.map strOf).trans hso.symm) (by rw [List.pairwise_map]; exact hw) hs
end
section
set_option maxRecDepth 100000
set_option maxHeartbeats 4000000
open PySem PySem.W PySem.Calls PyProof.Rows PyProof.Rows.LCg
section
variable {prog : Program} {w : World} {A : Around} {E : Value → Shared → Prop} {s : Shared} {h₀ : Heap} {L D : Addr} {m : Str → Option Value} {news : List (Addr × Obj)}
theorem katTups_tri {S : List (Addr × Obj)} {h : Heap} (hr : ∀ p ∈ S, h.get? p.1 = some p.2) : ∀ {vs : List Value}, (∀ v ∈ vs, ∃ d, TriAt S v d) → ∃ fs, KatTups h vs fs ∧ fs.length = vs.length ∧ ∀ f ∈ fs, IsS f
  | [], _ => ⟨[], trivial, rfl, by simp⟩
  | v :: vs, hv => by
    obtain ⟨fs, h1, h2, h3⟩ := katTups_tri hr (vs := vs) fun u hu => hv u (List.mem_cons_of_mem _ hu)
    obtain ⟨d, a, t1, t2, t3, rfl, hm⟩ := hv _ (List.mem_cons_self ..)
    refine ⟨.str (esc d.2) t1 :: fs, KatTups.cons (hr _ hm) rfl rfl rfl h1, by simp [h2], ?_⟩
    intro f hf
    rcases List.mem_cons.mp hf with rfl | hf
    · exact ⟨_, _, rfl⟩
    · exact h3 f hf
theorem g_sortTri {S : List (Addr × Obj)} {vs : List Value} {n : Nat} {Q : Value → Shared → Prop} (F : Fr h₀ L s.heap m) (N : News h₀ L s.heap ((D, listOf vs.toArray n) :: news)) (hD : ∀ p ∈ news, p.1 ≠ D) (hS : ∀ p ∈ S, p ∈ news) (hv : ∀ v ∈ vs, ∃ d, TriAt S v d) (h2 : 2 ≤ vs.length) (h64 : vs.length < 64)
    (h : ∀ out c h' tk, Fr h₀ L h' m → News h₀ L h' ((D, listOf (List.toArray out) c) :: news) → out.Perm vs → out.Pairwise (fun a b => triV S b a = false) → Q .none { s with heap := h', toks := tk }) :
    wpAny (model prog w) A (call (.builtin "list.sort") [.ref D]) Q E s := by
  refine kat_lsort F N (UpdF.head hD) (vs := vs) rfl h2 h64 fun e1 h' F' N' => ?_
  have N₂ : News h₀ L h' news := fun p hp => N' p (List.mem_cons_of_mem _ hp)
  have hr : ∀ p ∈ S, h'.get? p.1 = some p.2 := fun p hp => (N₂ p (hS p hp)).1
  have hf : Func S := fun a o o' q1 q2 => (News.func N₂) a o o' (hS _ q1) (hS _ q2)
  obtain ⟨fs, t1, t2, t3⟩ := katTups_tri hr hv
  refine kat_kind (T := .type "str") t1 (by omega) (fun f hf => ?_) (by rfl) ?_
  · obtain ⟨x, t, rfl⟩ := t3 f hf
    exact Looks.of_pure rfl
  · refine kasWp_good (n := vs.length) (lt := fun i j => triV S (vs.getD i .none) (vs.getD j .none)) (fun s' => ∃ tk, s' = { s with heap := h', toks := tk }) (fun i j C s' hi hj hI hC => ?_) _ _
      (sort_good ⟨fun a b _ _ q => (tpo_triV S).asymm _ _ q, fun a b c _ _ _ q q' => (tpo_triV S).trans _ _ _ q q'⟩ (by omega)) ⟨s.toks, rfl⟩ (fun p s' hp hI => ?_)
    · obtain ⟨tk', rfl⟩ := hI
      obtain ⟨d1, hd1⟩ := hv _ (getD_mem hi)
      obtain ⟨d2, hd2⟩ := hv _ (getD_mem hj)
      show wpAny _ _ (keyLt' (tuples' true) (vs.getD i .none) (vs.getD j .none)) _ _ _
      refine katLex_tri (S := S) (by exact hr) hd1 hd2 ?_
      have := hC { s with heap := h', toks := tk' } ⟨tk', rfl⟩
      unfold triV at this
      rw [dec_eq hf hd1, dec_eq hf hd2] at this
      exact this
    · obtain ⟨tk', rfl⟩ := hI
      have hso := sorted_out (lt := triV S) hp.1 hp.2
      exact KasFin.intro F' N' (UpdF.head hD) fun h4 c' F₄ N₄ => h _ c' h4 tk' F₄ N₄ hso.1 hso.2
theorem slicePick_upto (vs : List Value) (n : Nat) : slicePick vs.toArray none (some (n : Int)) none = (vs.take n).toArray := by
  have e : sliceBounds none (some (n : Int)) none vs.toArray.size = (((0 : Nat) : Int), ((min n vs.toArray.size : Nat) : Int), 1) := by
    simp only [sliceBounds, Option.getD_none, show (1 : Int) > 0 by decide, if_true, if_neg (show ¬ ((n : Int) < 0) by omega)]
    congr 1
    congr 1
    omega
  rw [kmk_pick_nat _ e]
  show ((vs.drop 0).take (min n vs.toArray.size - 0)).toArray = _
  rw [List.drop_zero, Nat.sub_zero, List.size_toArray, kmk_take_min]
theorem g_upto {l : Addr} {value slice : PySem.Expr} {vs : List Value} {k n : Nat} {t : Tok} {Q : Value → Shared → Prop} (F : Fr h₀ L s.heap m) (N : News h₀ L s.heap news) (hm : (l, listOf vs.toArray k) ∈ news) (hz : vs.length ≤ 1000)
    (h : ∀ D h', Fr h₀ L h' m → News h₀ L h' ((D, listOf (vs.take n).toArray 0) :: news) → (∀ p ∈ news, p.1 < D) → Q (.ref D) { s with heap := h' })
    (hs : subscripted slice false (.ref l) (.ref s.heap.objs.size) = operate [.ref s.heap.objs.size, .ref l] (getItem (.ref l) (.ref s.heap.objs.size))) (ht : ∀ r, letTemporaryGo value (.ref l) r = pure ()) :
    wpAny (model prog w) A (subscriptTail value slice (.ref l) (.ref s.heap.objs.size)) Q E { s with heap := s.heap.push { cls := .type "slice", data := .fields #[.none, .int (n : Int) t, .none] } } := by
  refine kmk_slice F N (PySem.IsL.isList (n := k) (N _ hm).1) .none (.int _ _) (fun D h' F' N' l1 => h D h' F' ?_ l1) hs ht (by rw [List.size_toArray, sizeLine_eq]; omega)
  rw [slicePick_upto] at N'
  exact N'
noncomputable def TEnd (h₀ : Heap) (L : Addr) (m : Str → Option Value) (s₁ : Shared) (all : List (Addr × Obj)) (e : Str) (y : Value) (s₂ : Shared) : Prop := ∃ h' tk t, y = .str e t ∧ s₂ = { s₁ with heap := h', toks := tk } ∧ Fr h₀ L h' m ∧ News h₀ L h' all
theorem walks_tri (hh : A.handled = none) (J D9 : Addr) (hDJ : D9 ≠ J) (out : List Value) (S : List (Addr × Obj)) (hSJ : ∀ p ∈ S, p.1 ≠ J) (hv : ∀ v ∈ out, ∃ d, TriAt S v d) :
    WalksU prog w A J (J :: D9 :: S.map (·.1)) [J] out.length
      (fun j vals => ∃ (a : Addr) (d : Nat × Str) (t1 t2 t3 : Tok), out[j]? = some (.ref a) ∧ (a, triO d.2 d.1 t1 t2 t3) ∈ S ∧ vals = #[.str (esc d.2) t1, .int (d.1 : Int) t2, .str d.2 t3])
      (fun j h => h.IsListIter J D9 j ∧ h.IsList D9 out.toArray ∧ ∀ p ∈ S, h.get? p.1 = some p.2)
      (fun j T h => T ≠ J ∧ h.IsListIter J D9 (j + 1) ∧ h.IsList D9 out.toArray ∧ ∀ p ∈ S, h.get? p.1 = some p.2) where
  sub := fun b hb => by simp at hb; simp [hb]
  frame := fun _ _ _ st hk => ⟨st.1.at fun o e => hk J (by first | k_mem | simp) o e, st.2.1.at fun o e => hk D9 (by first | k_mem | simp) o e,
    fun p hp => hk p.1 (List.mem_cons_of_mem _ (List.mem_cons_of_mem _ (List.mem_map_of_mem hp))) _ (st.2.2 p hp)⟩
  item := fun i s Q E hi st hQ => by
    obtain ⟨d, a, t1, t2, t3, hva, hm⟩ := hv _ (getD_mem hi)
    have hx : out[i]? = some (.ref a) := by
      rw [List.getD_eq_getElem?_getD, List.getElem?_eq_getElem hi] at hva
      rw [List.getElem?_eq_getElem hi]
      exact congrArg some hva
    refine wpAny_pyNext_list_item st.1 st.2.1 (x := .ref a) (by simpa using hx) fun h' hit' hs' => ?_
    have keep : ∀ p ∈ S, h'.get? p.1 = some p.2 := fun p hp => hs'.extBut _ _ (hSJ p hp) (st.2.2 p hp)
    exact hQ a _ h' s.toks ⟨a, d, t1, t2, t3, hx, hm, rfl⟩ ⟨_, keep _ hm, rfl, 0, rfl⟩ ⟨hSJ _ hm, hit', st.2.1.extBut hs'.extBut hDJ, keep⟩ fun b o hb e => hs'.extBut b o (fun h => hb (by simp [h])) e
  go := fun _ _ _ _ _ s Q _ hm hQ => wpAny_letOwnedTupleGo_listiter hm.2.1 (hQ s.heap hm.2 fun _ _ _ e => e)
  apart := fun j T _ hm hmem => by
    rcases List.mem_cons.mp hmem with e | e
    · exact hm.1 e
    · cases e
  done := fun s Q E st hQ => wpAny_pyNext_list_end hh st.1 st.2.1 (by first | k_mem | simp) fun h' he' => hQ h' s.toks fun b o hb e => he' b o (fun h => hb (by simp [h])) e
  self := fun _ _ _ _ st hQ => wpAny_pyIter_listiter st.1 hQ
theorem srcZ_tri {env : Env} {elt : PySem.Expr} {ns : List (Str × Pos)} {scope : Scope} {cl : List (Str × Addr)} {Fin : Shared → Value → List Value → List (Addr × Obj) → (Heap → Prop) → List Addr → Prop} {s₁ : Shared} {D9 : Addr} {out : List Value} {c9 : Nat} {S base : List (Addr × Obj)}
    (hh : A.handled = none) (F : Fr h₀ L s₁.heap m) (N : News h₀ L s₁.heap ((D9, listOf out.toArray c9) :: base)) (hSb : ∀ p ∈ S, p ∈ base) (hlen : out.length ≤ 1000) (hns : ns.length = 3) (hv : ∀ v ∈ out, ∃ d, TriAt S v d)
    (turn : ∀ ys (d : Nat × Str) t1 t2 t3 own C oC D m₁ h tk (E' : Value → Shared → Prop), NsObj oC (upd m₁ ns [.str (esc d.2) t1, .int (d.1 : Int) t2, .str d.2 t3]) → Fr h₀ L h m → News h₀ L h ((C, oC) :: (D, lst ys) :: own ++ ((D9, listOf out.toArray c9) :: base)) →
      wpAny (model prog w) A (eval elt (compEnvC scope cl C env)) (TEnd h₀ L m { s₁ with heap := h, toks := tk } ((C, oC) :: (D, lst ys) :: own ++ ((D9, listOf out.toArray c9) :: base)) d.2) E' { s₁ with heap := h, toks := tk })
    (fin : ∀ g ys D End fp, (∀ v ∈ ys, IsS v) → ys.map strOf = out.map (elemOf S) → (∀ p ∈ (D9, listOf out.toArray c9) :: base, p.1 < D) → Fin { s₁ with heap := g } (.ref D) ys ((D9, listOf out.toArray c9) :: base) End fp) :
    SrcZ prog w A h₀ L m env elt ns scope cl E Fin (.ref D9) s₁ := by
  have hl : s₁.heap.IsList D9 out.toArray := PySem.IsL.isList (n := c9) (N _ (List.mem_cons_self ..)).1
  have lt : ∀ p ∈ (D9, listOf out.toArray c9) :: base, p.1 < s₁.heap.objs.size := fun p hp => Heap.lt_size (N p hp).1
  have hf : Func S := fun a o o' q1 q2 => News.func N a o o' (List.mem_cons_of_mem _ (hSb _ q1)) (List.mem_cons_of_mem _ (hSb _ q2))
  have up : ∀ b o, s₁.heap.get? b = some o → (s₁.heap.push { cls := .type "list_iterator", data := .fields #[.ref D9, .int 0 0] }).get? b = some o := fun b o e => Heap.get?_push_of_some _ e
  refine wpAny_pyIter_list hl ?_
  refine ⟨s₁.heap.objs.size, s₁.heap.objs.size :: D9 :: S.map (·.1), [s₁.heap.objs.size], out.length, _, _, _, (D9, listOf out.toArray c9) :: base,
    fun i ys news => news = (D9, listOf out.toArray c9) :: base ∧ (∀ v ∈ ys, IsS v) ∧ ys.map strOf = (out.take i).map (elemOf S), fun _ => True, rfl, hh,
    walks_tri hh s₁.heap.objs.size D9 (Nat.ne_of_lt (lt _ (List.mem_cons_self ..))) out S (fun p hp => Nat.ne_of_lt (lt p (List.mem_cons_of_mem _ (hSb p hp)))) hv, by rw [sizeLine_eq]; omega, ?_, ?_, ?_, F.push _, N.grown up, ?_, ?_, ?_, ?_, ⟨rfl, by simp, rfl⟩, ?_, ?_, fun _ _ _ _ => trivial, ?_⟩
  · rintro i vals ⟨a, d, t1, t2, t3, _, _, rfl⟩
    rw [hns]; rfl
  · exact ⟨⟨_, Heap.get?_push_size _ rfl, rfl, rfl⟩, hl.push _, fun p hp => up _ _ (N p (List.mem_cons_of_mem _ (hSb p hp))).1⟩
  · intro b hb
    rw [Heap.size_push]
    rcases List.mem_cons.mp hb with rfl | hb
    · exact Nat.lt_succ_self _
    · rcases List.mem_cons.mp hb with rfl | hb
      · exact Nat.lt_succ_of_lt (lt _ (List.mem_cons_self ..))
      · obtain ⟨p, hp, rfl⟩ := List.mem_map.mp hb
        exact Nat.lt_succ_of_lt (lt p (List.mem_cons_of_mem _ (hSb p hp)))
  · intro hb
    rcases List.mem_cons.mp hb with e | hb
    · exact Nat.lt_irrefl _ (e ▸ F.ns.lt)
    · rcases List.mem_cons.mp hb with e | hb
      · exact (N _ (List.mem_cons_self ..)).2.1 e.symm
      · obtain ⟨p, hp, e⟩ := List.mem_map.mp hb
        exact (N p (List.mem_cons_of_mem _ (hSb p hp))).2.1 e
  · intro b hb
    rw [List.mem_singleton.mp hb]
    exact next_is_new F
  · intro p hp hb
    exact Nat.lt_irrefl _ ((List.mem_singleton.mp hb) ▸ lt p hp)
  · rintro i h ⟨⟨o, ho, _⟩, _⟩ b hb
    rw [List.mem_singleton.mp hb]
    exact ⟨o, ho⟩
  · rintro i ys news vals own C oC D m₁ h tk E' hi ⟨rfl, hy, hy2⟩ ⟨a, d, t1, t2, t3, hx, hm, rfl⟩ hC FF NN off hown hwo hCD hCw hDw
    refine wpAny_mono (turn ys d t1 t2 t3 own C oC D m₁ h tk E' hC FF NN) (fun y s₂ q => ?_) fun _ _ e => e
    obtain ⟨h', tk', t, rfl, rfl, F', N'⟩ := q
    refine ⟨h', tk', _, rfl, F', N', off, rfl, fun v hv => ?_, ?_⟩
    · rcases List.mem_append.mp hv with hv | hv
      · exact hy v hv
      · rw [List.mem_singleton.mp hv]; exact ⟨_, _, rfl⟩
    · have e : elemOf S (.ref a) = d.2 := by unfold elemOf; rw [dec_eq hf (d := d) ⟨a, t1, t2, t3, rfl, hm⟩]
      rw [List.map_append, hy2, List.take_add_one, hx, List.map_append]
      show _ ++ [d.2] = _ ++ [elemOf S (.ref a)]
      rw [e]
  · intro s Q E st hQ
    exact (walks_tri hh s₁.heap.objs.size D9 (Nat.ne_of_lt (lt _ (List.mem_cons_self ..))) out S (fun p hp => Nat.ne_of_lt (lt p (List.mem_cons_of_mem _ (hSb p hp)))) hv).done s Q E st fun h' tk hk => hQ h' tk hk trivial
  · rintro ys news' ⟨rfl, hy, hy2⟩ D hDs hoff hDf
    rw [List.take_length] at hy2
    exact fin _ ys D _ _ hy hy2 fun p hp => Nat.lt_of_lt_of_le (lt p hp) (Nat.le_trans (by rw [Heap.size_push]; exact Nat.le_succ _) hDs)
end
end
section
set_option maxRecDepth 100000
set_option maxHeartbeats 4000000
open PySem PySem.W PySem.Calls PyProof.Rows
open PyProof.Rows.LCg
theorem cInv_snoc {S S' : List (Addr × Obj)} {ts : List Str} {i : Nat} {ys : List Value} {v : Value} {x : Str} (h : CInv S ts i ys) (hs : ∀ p ∈ S, p ∈ S') (hx : ts[i]? = some x) (hv : TriAt S' v (i, x)) : CInv S' ts (i + 1) (ys ++ [v]) := by
  obtain ⟨h1, h2⟩ := h
  refine ⟨by rw [List.length_append, h1]; rfl, fun j hj => ?_⟩
  by_cases hji : j < i
  · rw [List.getD_eq_getElem?_getD, List.getElem?_append_left (by omega), ← List.getD_eq_getElem?_getD]
    exact (h2 j hji).more hs
  · have : j = i := by omega
    subst this
    rw [List.getD_eq_getElem?_getD, ← h1, List.getElem?_concat_length, h1, List.getD_eq_getElem?_getD, hx]
    exact hv
theorem allLt_mem {d : Nat} : ∀ {l : List (Addr × Obj)}, AllLt d l → ∀ p ∈ l, p.1 < d
  | [], _, _, h => nomatch h
  | _ :: _, x, p, h => by
    rcases List.mem_cons.mp h with rfl | h
    · exact x.1
    · exact allLt_mem x.2 p h
theorem zr_done {prog : Program} {w : World} {A : Around} {E : Value → Shared → Prop} {s : Shared} {z TI TO i1 I l : Addr} {n : Nat} {Q : Option Value → Shared → Prop} (hh : A.handled = none) (D : ZApart z TI TO i1 I l)
    (hz : IsZip s.heap z TI TO .none) (hTI : IsPair s.heap TI (.ref i1) (.ref I)) (h1 : IsRangeIter s.heap i1 (n : Int) ((n : Int) - n) 1) (h2 : s.heap.IsListIter I l n)
    (hQ : ∀ h' tk, (∀ b o, b ∉ [z, TO, i1, I] → s.heap.get? b = some o → h'.get? b = some o) → h'.IsListIter I l n → Q none { s with heap := h', toks := tk }) : wpAny (model prog w) A (pyNext (.ref z)) Q E s := by
  have hT : s.TypeIs (.ref z) "zip" := ⟨_, hz, rfl⟩
  unfold pyNext
  refine wpAny_bind (wpAny_attempt (wpAny_callSpecial?_slot (name := Str.ofString "__next__") hT F.slot_zip_next
    (wpAny_call_entry F.slot_zip_next hT F.entry_zip_next (zr_next_end (a := .none) (b := .none) hh D.i1z hz hTI h1 (by omega) fun h' e hk he => ?_) (F.args_zip_next_1 _))))
  obtain ⟨o, ho, hc⟩ := he
  refine wpAny_bind (wpAny_isInstance (T := "StopIteration") (b := true) ⟨o, ho, hc⟩ isSubtype_stop ?_)
  exact wpAny_pure (hQ h' s.toks (fun c o hc e => hk c o (fun x => hc (by simp [x])) (fun x => hc (by simp [x])) (fun x => hc (by simp [x])) e) (h2.at fun o e => hk I o D.i2z D.TOi2.symm D.i12.symm e))
theorem zend_tri {h₀ : Heap} {L C D T : Addr} {m : Str → Option Value} {s₁ : Shared} {oC oD : Obj} {own S rest : List (Addr × Obj)} {c1 c2 : Addr × Obj} {wr : List Addr} {Nx : Value → List (Addr × Obj) → Prop} {h' : Heap} {tk : Nat} {x : Str} {i : Nat} {t1 t2 t3 : Tok}
    (F : Fr h₀ L h' m) (N : News h₀ L h' ((T, triO x i t1 t2 t3) :: (C, oC) :: (D, oD) :: c1 :: c2 :: (S ++ rest ++ own))) (lt : ∀ p ∈ ((C, oC) :: (D, oD) :: c1 :: c2 :: (S ++ rest ++ own) : List (Addr × Obj)), p.1 < T) (off : ∀ p ∈ c1 :: c2 :: (S ++ rest), p.1 ≠ C ∧ p.1 ≠ D ∧ p.1 ∉ wr) (hwo : ∀ b ∈ wr, ∃ o, (b, o) ∈ own)
    (r : Nx (.ref T) (c1 :: c2 :: (((T, triO x i t1 t2 t3) :: S) ++ rest))) : ZEnd h₀ L m s₁ C oC D oD own wr Nx (.ref T) { s₁ with heap := h', toks := tk } := by
  refine ⟨h', tk, _, rfl, F, fun p hp => N p ?_, fun p hp => ?_, r⟩
  · simp only [List.mem_cons, List.mem_append, List.cons_append] at hp ⊢
    rcases hp with hp | hp | hp | hp | hp | hp | hp | hp <;> first | with_reducible (first | exact Or.inl hp | exact hp | exact Or.inr (Or.inl hp) | exact Or.inr (hp) | exact Or.inr (Or.inr (Or.inl hp)) | exact Or.inr (Or.inr (hp)) | exact Or.inr (Or.inr (Or.inr (Or.inl hp))) | exact Or.inr (Or.inr (Or.inr (hp))) | exact Or.inr (Or.inr (Or.inr (Or.inr (Or.inl hp)))) | exact Or.inr (Or.inr (Or.inr (Or.inr (hp)))) | exact Or.inr (Or.inr (Or.inr (Or.inr (Or.inr (Or.inl hp))))) | exact Or.inr (Or.inr (Or.inr (Or.inr (Or.inr (hp))))) | exact Or.inr (Or.inr (Or.inr (Or.inr (Or.inr (Or.inr (Or.inl hp)))))) | exact Or.inr (Or.inr (Or.inr (Or.inr (Or.inr (Or.inr (hp)))))) | exact Or.inr (Or.inr (Or.inr (Or.inr (Or.inr (Or.inr (Or.inr (Or.inl hp))))))) | exact Or.inr (Or.inr (Or.inr (Or.inr (Or.inr (Or.inr (Or.inr (hp))))))) | exact Or.inr (Or.inr (Or.inr (Or.inr (Or.inr (Or.inr (Or.inr (Or.inr (Or.inl hp)))))))) | exact Or.inr (Or.inr (Or.inr (Or.inr (Or.inr (Or.inr (Or.inr (Or.inr (hp)))))))) | exact Or.inr (Or.inr (Or.inr (Or.inr (Or.inr (Or.inr (Or.inr (Or.inr (Or.inr (Or.inl hp))))))))) | exact Or.inr (Or.inr (Or.inr (Or.inr (Or.inr (Or.inr (Or.inr (Or.inr (Or.inr (hp))))))))) | exact Or.inl (Or.inr hp) | exact Or.inl (Or.inl hp) | exact Or.inl (Or.inl (Or.inr hp)) | exact Or.inl (Or.inl (Or.inl hp)) | exact Or.inl (Or.inr (Or.inl hp)) | exact Or.inr (Or.inl (Or.inr hp)) | exact Or.inr (Or.inl (Or.inl hp)) | exact Or.inr (Or.inl (Or.inl (Or.inr hp))) | exact Or.inr (Or.inl (Or.inl (Or.inl hp))) | exact Or.inr (Or.inl (Or.inr (Or.inl hp))) | exact Or.inr (Or.inr (Or.inl (Or.inr hp))) | exact Or.inr (Or.inr (Or.inl (Or.inl hp))) | exact Or.inr (Or.inr (Or.inl (Or.inl (Or.inr hp)))) | exact Or.inr (Or.inr (Or.inl (Or.inl (Or.inl hp)))) | exact Or.inr (Or.inr (Or.inl (Or.inr (Or.inl hp)))) | exact Or.inr (Or.inr (Or.inr (Or.inl (Or.inr hp)))) | exact Or.inr (Or.inr (Or.inr (Or.inl (Or.inl hp)))) | exact Or.inr (Or.inr (Or.inr (Or.inl (Or.inl (Or.inr hp))))) | exact Or.inr (Or.inr (Or.inr (Or.inl (Or.inl (Or.inl hp))))) | exact Or.inr (Or.inr (Or.inr (Or.inl (Or.inr (Or.inl hp))))) | exact Or.inr (Or.inr (Or.inr (Or.inr (Or.inl (Or.inr hp))))) | exact Or.inr (Or.inr (Or.inr (Or.inr (Or.inl (Or.inl hp))))) | exact Or.inr (Or.inr (Or.inr (Or.inr (Or.inl (Or.inl (Or.inr hp)))))) | exact Or.inr (Or.inr (Or.inr (Or.inr (Or.inl (Or.inl (Or.inl hp)))))) | exact Or.inr (Or.inr (Or.inr (Or.inr (Or.inl (Or.inr (Or.inl hp)))))) | exact Or.inr (Or.inr (Or.inr (Or.inr (Or.inr (Or.inl (Or.inr hp)))))) | exact Or.inr (Or.inr (Or.inr (Or.inr (Or.inr (Or.inl (Or.inl hp)))))) | exact Or.inr (Or.inr (Or.inr (Or.inr (Or.inr (Or.inl (Or.inl (Or.inr hp))))))) | exact Or.inr (Or.inr (Or.inr (Or.inr (Or.inr (Or.inl (Or.inl (Or.inl hp))))))) | exact Or.inr (Or.inr (Or.inr (Or.inr (Or.inr (Or.inl (Or.inr (Or.inl hp))))))) | exact Or.inr (Or.inr (Or.inr (Or.inr (Or.inr (Or.inr (Or.inl (Or.inr hp))))))) | exact Or.inr (Or.inr (Or.inr (Or.inr (Or.inr (Or.inr (Or.inl (Or.inl hp))))))) | exact Or.inr (Or.inr (Or.inr (Or.inr (Or.inr (Or.inr (Or.inl (Or.inl (Or.inr hp)))))))) | exact Or.inr (Or.inr (Or.inr (Or.inr (Or.inr (Or.inr (Or.inl (Or.inl (Or.inl hp)))))))) | exact Or.inr (Or.inr (Or.inr (Or.inr (Or.inr (Or.inr (Or.inl (Or.inr (Or.inl hp)))))))) | exact Or.inr (Or.inr (Or.inr (Or.inr (Or.inr (Or.inr (Or.inr (Or.inl (Or.inr hp)))))))) | exact Or.inr (Or.inr (Or.inr (Or.inr (Or.inr (Or.inr (Or.inr (Or.inl (Or.inl hp)))))))) | exact Or.inr (Or.inr (Or.inr (Or.inr (Or.inr (Or.inr (Or.inr (Or.inl (Or.inl (Or.inr hp))))))))) | exact Or.inr (Or.inr (Or.inr (Or.inr (Or.inr (Or.inr (Or.inr (Or.inl (Or.inl (Or.inl hp))))))))) | exact Or.inr (Or.inr (Or.inr (Or.inr (Or.inr (Or.inr (Or.inr (Or.inl (Or.inr (Or.inl hp)))))))))) | simp [hp]
  · have hp' : p = (T, triO x i t1 t2 t3) ∨ p ∈ c1 :: c2 :: (S ++ rest) := by
      simp only [List.mem_cons, List.mem_append, List.cons_append] at hp ⊢
      rcases hp with hp | hp | hp | hp | hp <;> first | with_reducible (first | exact Or.inl hp | exact hp | exact Or.inr (Or.inl hp) | exact Or.inr (hp) | exact Or.inr (Or.inr (Or.inl hp)) | exact Or.inr (Or.inr (hp)) | exact Or.inr (Or.inr (Or.inr (Or.inl hp))) | exact Or.inr (Or.inr (Or.inr (hp))) | exact Or.inr (Or.inr (Or.inr (Or.inr (Or.inl hp)))) | exact Or.inr (Or.inr (Or.inr (Or.inr (hp)))) | exact Or.inr (Or.inr (Or.inr (Or.inr (Or.inr (Or.inl hp))))) | exact Or.inr (Or.inr (Or.inr (Or.inr (Or.inr (hp))))) | exact Or.inr (Or.inr (Or.inr (Or.inr (Or.inr (Or.inr (Or.inl hp)))))) | exact Or.inr (Or.inr (Or.inr (Or.inr (Or.inr (Or.inr (hp)))))) | exact Or.inr (Or.inr (Or.inr (Or.inr (Or.inr (Or.inr (Or.inr (Or.inl hp))))))) | exact Or.inr (Or.inr (Or.inr (Or.inr (Or.inr (Or.inr (Or.inr (hp))))))) | exact Or.inr (Or.inr (Or.inr (Or.inr (Or.inr (Or.inr (Or.inr (Or.inr (Or.inl hp)))))))) | exact Or.inr (Or.inr (Or.inr (Or.inr (Or.inr (Or.inr (Or.inr (Or.inr (hp)))))))) | exact Or.inr (Or.inr (Or.inr (Or.inr (Or.inr (Or.inr (Or.inr (Or.inr (Or.inr (Or.inl hp))))))))) | exact Or.inr (Or.inr (Or.inr (Or.inr (Or.inr (Or.inr (Or.inr (Or.inr (Or.inr (hp))))))))) | exact Or.inl (Or.inr hp) | exact Or.inl (Or.inl hp) | exact Or.inl (Or.inl (Or.inr hp)) | exact Or.inl (Or.inl (Or.inl hp)) | exact Or.inl (Or.inr (Or.inl hp)) | exact Or.inr (Or.inl (Or.inr hp)) | exact Or.inr (Or.inl (Or.inl hp)) | exact Or.inr (Or.inl (Or.inl (Or.inr hp))) | exact Or.inr (Or.inl (Or.inl (Or.inl hp))) | exact Or.inr (Or.inl (Or.inr (Or.inl hp))) | exact Or.inr (Or.inr (Or.inl (Or.inr hp))) | exact Or.inr (Or.inr (Or.inl (Or.inl hp))) | exact Or.inr (Or.inr (Or.inl (Or.inl (Or.inr hp)))) | exact Or.inr (Or.inr (Or.inl (Or.inl (Or.inl hp)))) | exact Or.inr (Or.inr (Or.inl (Or.inr (Or.inl hp)))) | exact Or.inr (Or.inr (Or.inr (Or.inl (Or.inr hp)))) | exact Or.inr (Or.inr (Or.inr (Or.inl (Or.inl hp)))) | exact Or.inr (Or.inr (Or.inr (Or.inl (Or.inl (Or.inr hp))))) | exact Or.inr (Or.inr (Or.inr (Or.inl (Or.inl (Or.inl hp))))) | exact Or.inr (Or.inr (Or.inr (Or.inl (Or.inr (Or.inl hp))))) | exact Or.inr (Or.inr (Or.inr (Or.inr (Or.inl (Or.inr hp))))) | exact Or.inr (Or.inr (Or.inr (Or.inr (Or.inl (Or.inl hp))))) | exact Or.inr (Or.inr (Or.inr (Or.inr (Or.inl (Or.inl (Or.inr hp)))))) | exact Or.inr (Or.inr (Or.inr (Or.inr (Or.inl (Or.inl (Or.inl hp)))))) | exact Or.inr (Or.inr (Or.inr (Or.inr (Or.inl (Or.inr (Or.inl hp)))))) | exact Or.inr (Or.inr (Or.inr (Or.inr (Or.inr (Or.inl (Or.inr hp)))))) | exact Or.inr (Or.inr (Or.inr (Or.inr (Or.inr (Or.inl (Or.inl hp)))))) | exact Or.inr (Or.inr (Or.inr (Or.inr (Or.inr (Or.inl (Or.inl (Or.inr hp))))))) | exact Or.inr (Or.inr (Or.inr (Or.inr (Or.inr (Or.inl (Or.inl (Or.inl hp))))))) | exact Or.inr (Or.inr (Or.inr (Or.inr (Or.inr (Or.inl (Or.inr (Or.inl hp))))))) | exact Or.inr (Or.inr (Or.inr (Or.inr (Or.inr (Or.inr (Or.inl (Or.inr hp))))))) | exact Or.inr (Or.inr (Or.inr (Or.inr (Or.inr (Or.inr (Or.inl (Or.inl hp))))))) | exact Or.inr (Or.inr (Or.inr (Or.inr (Or.inr (Or.inr (Or.inl (Or.inl (Or.inr hp)))))))) | exact Or.inr (Or.inr (Or.inr (Or.inr (Or.inr (Or.inr (Or.inl (Or.inl (Or.inl hp)))))))) | exact Or.inr (Or.inr (Or.inr (Or.inr (Or.inr (Or.inr (Or.inl (Or.inr (Or.inl hp)))))))) | exact Or.inr (Or.inr (Or.inr (Or.inr (Or.inr (Or.inr (Or.inr (Or.inl (Or.inr hp)))))))) | exact Or.inr (Or.inr (Or.inr (Or.inr (Or.inr (Or.inr (Or.inr (Or.inl (Or.inl hp)))))))) | exact Or.inr (Or.inr (Or.inr (Or.inr (Or.inr (Or.inr (Or.inr (Or.inl (Or.inl (Or.inr hp))))))))) | exact Or.inr (Or.inr (Or.inr (Or.inr (Or.inr (Or.inr (Or.inr (Or.inl (Or.inl (Or.inl hp))))))))) | exact Or.inr (Or.inr (Or.inr (Or.inr (Or.inr (Or.inr (Or.inr (Or.inl (Or.inr (Or.inl hp)))))))))) | simp [hp]
    rcases hp' with rfl | hp'
    · refine ⟨Nat.ne_of_gt (lt (C, oC) (by first | k_mem | simp)), Nat.ne_of_gt (lt (D, oD) (by first | k_mem | simp)), fun hb => ?_⟩
      obtain ⟨o, ho⟩ := hwo _ hb
      exact Nat.lt_irrefl _ (lt _ (List.mem_cons_of_mem _ (List.mem_cons_of_mem _ (List.mem_cons_of_mem _ (List.mem_cons_of_mem _ (List.mem_append_right _ ho))))))
    · exact off p hp'
theorem walks_from {prog : Program} {w : World} {A : Around} (hh : A.handled = none) (I l : Addr) (hne : l ≠ I) (its : Array Value) (k : Nat) (hk : k ≤ its.size) :
    Walks prog w A I [I, l] [I] (its.size - k) (fun i v => its[k + i]? = some v) (fun i h => h.IsListIter I l (k + i) ∧ h.IsList l its) :=
  let W := Walks.list (prog := prog) (w := w) (A := A) hh I l hne its
  { sub := W.sub
    frame := fun i h h' st hk => W.frame (k + i) h h' st hk
    item := fun i s Q E hi st hQ => W.item (k + i) s Q E (by omega) st hQ
    done := fun s Q E st hQ => W.done s Q E (by have e : k + (its.size - k) = its.size := by omega
                                                rw [e] at st; exact st) hQ
    self := fun i s Q E st hQ => W.self (k + i) s Q E st hQ }
theorem ord_eq {v : Option Value} {o : Nat} {t : Tok} (h : v = some (.int ((o : Int) + 1) t)) : v = some (.int ((o + 1 : Nat) : Int) t) := h
theorem c_nsmall {w : World} {mean : ExcName → Option Value} {mg mb : Str → Option Value} :
   ∀ (dp un : Nat) (gd : Option (List Code)) (cn : Str) (cs : Scope) (a : Addr) (ccd : Value) (cl : List (Str × Addr)) (outer : List Env) (A₀ : Around) (base h₀ : Heap) (L : Addr) (m : Str → Option Value) (rest : List (Addr × Obj)) (s : Shared) (l : Addr) (n0 : Nat) (ts : List Value) (n : Nat) (tn : Tok)
    (Q E : Value → Shared → Prop),
    Below A₀ base outer h₀ → Fr h₀ L s.heap m → (hd.heap_39 w.params).In h₀ → News h₀ L s.heap ((l, listOf ts.toArray n0) :: rest) →
    Top hd.view_39 (looseW hd.view_39 [Str.ofString "nsmallest", Str.ofString "escape", Str.ofString "unescape"]) mean mg mb h₀ → cs.kind = .function →
    (∀ p ∈ rest, p.1 ≠ l) → (∀ v ∈ ts, IsS v) → (∀ v ∈ ts, (strOf v).length ≤ 100) → 2 ≤ ts.length → ts.length ≤ 50 → n ≤ 50 → dp + 14 < recursionLimit → un + 1500 < cLine →
    (∀ h' tk' (D : Addr) (ys : List Value) (k9 : Nat), Fr h₀ L h' m → News h₀ L h' ((D, listOf ys.toArray k9) :: (l, listOf ts.toArray n0) :: rest) → (∀ p ∈ ((l, listOf ts.toArray n0) :: rest : List (Addr × Obj)), p.1 < D) → (∀ so : List Str, so.Perm (ts.map strOf) → so.Pairwise (fun a b => slt (esc b) (esc a) = false) → (∀ v ∈ ys, IsS v) ∧ ys.map strOf = so.take n) → Q (.ref D) { s with heap := h', toks := tk' }) →
    wpAny (model PySem.Challenge.rw_ij0043_01.row.prog w) (ktrTop dp un gd cn cs L a ccd cl outer) (call (.ref 76) [.int n tn, .ref l] [(Str.ofString "key", .ref 92)]) Q E s := by
  w_top off
  k_fill
  intro dp un gd cn cs a ccd cl outer A₀ base h₀ L m rest s l n0 ts n tn Q E B F X N T hk hr hS hL h2 h50 hn hdp hun hret
  refine wpAny_call ?_
  refine' code_defC (binds := [(Str.ofString "n", .int n tn), (Str.ofString "iterable", .ref l), (Str.ofString "key", .ref 92)]) B F X N T rfl rfl hk ?k6 ?k7 ?k8 ?k9 ?kB ?kD ?_ ?c2 ?c3 ?c4
  case k6 => k_is
  case k7 => k_is
  case k8 => ktr_room
  case k9 => exact binds_K (by k_in) rfl (by k_is) rfl rfl rfl
  case kB => exact rfl
  case kD => decide +kernel
  case c2 => exact rfl
  case c3 => exact rfl
  case c4 => exact rfl
  intro g' L' h' tk' cells' FG' F' N' Y' B' X' T' l1
  obtain ⟨o1, hE1, d1⟩ := CellsAre.one Y'
  subst hE1
  (try simp only [List.cons_append, List.nil_append] at N')
  (try dsimp only)
  show wpAny _ _ _ _ _ _
  k_fold
  k_with_none
  k_with "call builtin:len" => (k_here; (with_reducible show wpAny _ _ (call (Value.builtin "len") [Value.ref _]) _ _ _); k_dflt (refine g_len (by k_asm) (by k_mem) (by first | omega | (simp only [List.length_append, List.length_cons, List.length_nil, List.length_set, List.length_dropLast, List.size_toArray] at *; omega)) ?_; k_whole); intro _ _)
  k_with "subscriptTail" => (k_here; (with_reducible show wpAny _ _ (subscriptTail _ _ (Value.ref _) (Value.int _ _)) _ _ _); k_dflt (refine g_sub (by k_asm) (by k_mem) (by first | omega | (simp only [List.length_append, List.length_cons, List.length_nil, List.length_set, List.length_dropLast, List.size_toArray] at *; omega)) (by first | omega | (simp only [List.length_append, List.length_cons, List.length_nil, List.length_set, List.length_dropLast, List.size_toArray] at *; omega)) (by first | omega | (simp only [List.length_append, List.length_cons, List.length_nil, List.length_set, List.length_dropLast, List.size_toArray] at *; omega)) ?_ (by with_unfolding_all rfl); k_whole))
  k_with "binaryOp RShift int int" => (k_here; (refine g_shr1 (by first | omega | (simp only [List.length_append, List.length_cons, List.length_nil, List.length_set, List.length_dropLast, List.size_toArray] at *; omega)) ?_); intro _ _)
  k_with "setItem ref int" => (k_here; (try dsimp only); k_dflt (refine g_set (by k_asm) (by k_asm) (by exact Upd.head (by assumption)) (by first | omega | (simp only [List.length_append, List.length_cons, List.length_nil, List.length_set, List.length_dropLast, List.size_toArray] at *; omega)) (by first | omega | (simp only [List.length_append, List.length_cons, List.length_nil, List.length_set, List.length_dropLast, List.size_toArray] at *; omega)) (by first | omega | (simp only [List.length_append, List.length_cons, List.length_nil, List.length_set, List.length_dropLast, List.size_toArray] at *; omega)) ?_; k_whole); intro h9q F9q N9q; (try k_sweep))
  k_with "call builtin:list.append" => (k_here; (with_reducible show wpAny _ _ (call (Value.builtin _) [Value.ref _, _]) _ _ _); k_dflt (refine g_app (by k_asm) (by k_asm) (by exact Upd.head (by assumption)) (by first | omega | (simp only [List.length_append, List.length_cons, List.length_nil, List.length_set, List.length_dropLast, List.size_toArray] at *; omega)) ?_; k_whole); intro h9q F9q N9q; (try k_sweep))
  k_with "call builtin:list.pop" => (k_here; (with_reducible show wpAny _ _ (call (Value.builtin _) [Value.ref _]) _ _ _); k_dflt (refine g_pop (by k_asm) (by k_asm) (by exact Upd.head (by assumption)) (by first | omega | (simp only [List.length_append, List.length_cons, List.length_nil, List.length_set, List.length_dropLast, List.size_toArray] at *; omega)) (by first | omega | (simp only [List.length_append, List.length_cons, List.length_nil, List.length_set, List.length_dropLast, List.size_toArray] at *; omega)) ?_; k_whole); intro h9q F9q N9q; (try k_sweep))
  k_with "truthy ref" => (k_here; (with_reducible show wpAny _ _ (truthy (Value.ref _)) _ _ _); k_dflt (refine g_truthy (by k_asm) (by k_mem) (by first | omega | (simp only [List.length_append, List.length_cons, List.length_nil, List.length_set, List.length_dropLast, List.size_toArray] at *; omega)) ?_; k_whole); intro _)
  k_with "exec For Name Name cons nil" => (k_here; (rename Fr _ _ _ _ => lF'); k_dflt (with_unfolding_all refine For_invVF lF' (by exact rfl) (by exact rfl) ?_; k_whole))
  k_with "exec Try" => (k_here; k_dflt (refine wpAny_Try_except ?_))
  k_with "exec Assign cons ListComp" => (k_here; k_dflt (refine Assign_ListComp_Z (ns := [(_, _), (_, _)]) (F₀ := by k_asm) (by rfl) (by with_unfolding_all rfl) (by with_unfolding_all rfl) (by decide) (by rfl) (by decide) (by decide) (by rfl) (by rfl) ?_))
  k_with "eval ListComp" => (k_here; k_dflt (refine ListComp_Z (ns := [(_, _), (_, _), (_, _)]) (F₀ := by k_asm) (by with_unfolding_all rfl) (by decide) (by rfl) (by decide) (by decide) ?_))
  k_with "newTuple" => (
    rename Fr _ _ _ _ => lF
    rename News _ _ _ _ => lN
    refine kup_newTuple lF lN ?_ (by rw [sizeLine_eq]; simp only [List.length_cons, List.length_nil]; omega)
    intro T9 hT9 FT9 NT9 ltT9)
  k_with "call builtin:iter" => (
    rename Fr _ _ _ _ => lF
    rename News _ _ _ _ => lN
    refine g_iter (vs := ts) (n := n0) lF lN (by first | k_mem | simp) ?_
    intro I hI FI NI ltI)
  k_with "call type:object" => (
    rename Fr _ _ _ _ => lF
    rename News _ _ _ _ => lN
    refine g_object lF lN ?_
    intro O hO FO NO ltO)
  k_with "call builtin:sorted" => (
    rename Fr _ _ _ _ => lF
    rename News _ _ _ _ => lN
    refine c_sortEsc _ _ _ _ _ _ _ _ _ _ _ _ _ _ ((L' + 1, o1) :: rest) _ l n0 ts _ _ B' lF X' (fun p hp => lN p (by simp only [List.mem_cons] at hp ⊢; rcases hp with hp | hp | hp <;> first | with_reducible (first | exact Or.inl hp | exact hp | exact Or.inr (Or.inl hp) | exact Or.inr (hp) | exact Or.inr (Or.inr (Or.inl hp)) | exact Or.inr (Or.inr (hp)) | exact Or.inr (Or.inr (Or.inr (Or.inl hp))) | exact Or.inr (Or.inr (Or.inr (hp))) | exact Or.inr (Or.inr (Or.inr (Or.inr (Or.inl hp)))) | exact Or.inr (Or.inr (Or.inr (Or.inr (hp)))) | exact Or.inr (Or.inr (Or.inr (Or.inr (Or.inr (Or.inl hp))))) | exact Or.inr (Or.inr (Or.inr (Or.inr (Or.inr (hp))))) | exact Or.inr (Or.inr (Or.inr (Or.inr (Or.inr (Or.inr (Or.inl hp)))))) | exact Or.inr (Or.inr (Or.inr (Or.inr (Or.inr (Or.inr (hp)))))) | exact Or.inr (Or.inr (Or.inr (Or.inr (Or.inr (Or.inr (Or.inr (Or.inl hp))))))) | exact Or.inr (Or.inr (Or.inr (Or.inr (Or.inr (Or.inr (Or.inr (hp))))))) | exact Or.inr (Or.inr (Or.inr (Or.inr (Or.inr (Or.inr (Or.inr (Or.inr (Or.inl hp)))))))) | exact Or.inr (Or.inr (Or.inr (Or.inr (Or.inr (Or.inr (Or.inr (Or.inr (hp)))))))) | exact Or.inr (Or.inr (Or.inr (Or.inr (Or.inr (Or.inr (Or.inr (Or.inr (Or.inr (Or.inl hp))))))))) | exact Or.inr (Or.inr (Or.inr (Or.inr (Or.inr (Or.inr (Or.inr (Or.inr (Or.inr (hp))))))))) | exact Or.inl (Or.inr hp) | exact Or.inl (Or.inl hp) | exact Or.inl (Or.inl (Or.inr hp)) | exact Or.inl (Or.inl (Or.inl hp)) | exact Or.inl (Or.inr (Or.inl hp)) | exact Or.inr (Or.inl (Or.inr hp)) | exact Or.inr (Or.inl (Or.inl hp)) | exact Or.inr (Or.inl (Or.inl (Or.inr hp))) | exact Or.inr (Or.inl (Or.inl (Or.inl hp))) | exact Or.inr (Or.inl (Or.inr (Or.inl hp))) | exact Or.inr (Or.inr (Or.inl (Or.inr hp))) | exact Or.inr (Or.inr (Or.inl (Or.inl hp))) | exact Or.inr (Or.inr (Or.inl (Or.inl (Or.inr hp)))) | exact Or.inr (Or.inr (Or.inl (Or.inl (Or.inl hp)))) | exact Or.inr (Or.inr (Or.inl (Or.inr (Or.inl hp)))) | exact Or.inr (Or.inr (Or.inr (Or.inl (Or.inr hp)))) | exact Or.inr (Or.inr (Or.inr (Or.inl (Or.inl hp)))) | exact Or.inr (Or.inr (Or.inr (Or.inl (Or.inl (Or.inr hp))))) | exact Or.inr (Or.inr (Or.inr (Or.inl (Or.inl (Or.inl hp))))) | exact Or.inr (Or.inr (Or.inr (Or.inl (Or.inr (Or.inl hp))))) | exact Or.inr (Or.inr (Or.inr (Or.inr (Or.inl (Or.inr hp))))) | exact Or.inr (Or.inr (Or.inr (Or.inr (Or.inl (Or.inl hp))))) | exact Or.inr (Or.inr (Or.inr (Or.inr (Or.inl (Or.inl (Or.inr hp)))))) | exact Or.inr (Or.inr (Or.inr (Or.inr (Or.inl (Or.inl (Or.inl hp)))))) | exact Or.inr (Or.inr (Or.inr (Or.inr (Or.inl (Or.inr (Or.inl hp)))))) | exact Or.inr (Or.inr (Or.inr (Or.inr (Or.inr (Or.inl (Or.inr hp)))))) | exact Or.inr (Or.inr (Or.inr (Or.inr (Or.inr (Or.inl (Or.inl hp)))))) | exact Or.inr (Or.inr (Or.inr (Or.inr (Or.inr (Or.inl (Or.inl (Or.inr hp))))))) | exact Or.inr (Or.inr (Or.inr (Or.inr (Or.inr (Or.inl (Or.inl (Or.inl hp))))))) | exact Or.inr (Or.inr (Or.inr (Or.inr (Or.inr (Or.inl (Or.inr (Or.inl hp))))))) | exact Or.inr (Or.inr (Or.inr (Or.inr (Or.inr (Or.inr (Or.inl (Or.inr hp))))))) | exact Or.inr (Or.inr (Or.inr (Or.inr (Or.inr (Or.inr (Or.inl (Or.inl hp))))))) | exact Or.inr (Or.inr (Or.inr (Or.inr (Or.inr (Or.inr (Or.inl (Or.inl (Or.inr hp)))))))) | exact Or.inr (Or.inr (Or.inr (Or.inr (Or.inr (Or.inr (Or.inl (Or.inl (Or.inl hp)))))))) | exact Or.inr (Or.inr (Or.inr (Or.inr (Or.inr (Or.inr (Or.inl (Or.inr (Or.inl hp)))))))) | exact Or.inr (Or.inr (Or.inr (Or.inr (Or.inr (Or.inr (Or.inr (Or.inl (Or.inr hp)))))))) | exact Or.inr (Or.inr (Or.inr (Or.inr (Or.inr (Or.inr (Or.inr (Or.inl (Or.inl hp)))))))) | exact Or.inr (Or.inr (Or.inr (Or.inr (Or.inr (Or.inr (Or.inr (Or.inl (Or.inl (Or.inr hp))))))))) | exact Or.inr (Or.inr (Or.inr (Or.inr (Or.inr (Or.inr (Or.inr (Or.inl (Or.inl (Or.inl hp))))))))) | exact Or.inr (Or.inr (Or.inr (Or.inr (Or.inr (Or.inr (Or.inr (Or.inl (Or.inr (Or.inl hp)))))))))) | simp [hp])) T' (by rfl) hS (fun v hv => Nat.le_trans (hL v hv) (by decide)) h2 (by omega) (by ktr_room) (by ktr_units) ?_
    intro h' tk' D out c9 F' N' ltD hperm hpw)
  k_with "call type:zip" => (
    rename Fr _ _ _ _ => lF
    rename News _ _ _ _ => lN
    rename IsRange _ _ _ _ _ _ _ _ => lR
    have hlI : l ≠ I := Nat.ne_of_lt (ltI (l, listOf ts.toArray n0) (by first | k_mem | simp))
    refine g_zip (I := I) (l := l) (n := n) (vs := ts) (k := n0) lF lN lR (by omega) (oI := litObj l 0) (by first | k_mem | simp) rfl rfl (by first | k_mem | simp) hlI ?_
    intro z TI TO i1 hz9 DZ hz hTI hTO hri FZ NZ hfr)
  k_with "SrcZ" => (
    rename Fr _ _ _ _ => lF
    have hnl : n < ts.length := by omega
    have hlist : Heap.IsList _ l ts.toArray := PySem.IsL.isList (n := n0) (NZ (l, listOf ts.toArray n0) (by first | k_mem | simp)).1
    have hItI := (NZ (I, litObj l 0) (by first | k_mem | simp))
    have hcell := (NZ (L' + 1, o1) (by first | k_mem | simp))
    refine wpAny_pyIter_zip hz ?_
    refine ⟨z, [z, TI, TO, i1, I, l], [z, TO, i1, I], n, _, _, _, (L' + 1, o1) :: (l, listOf ts.toArray n0) :: rest,
      fun i ys news => ∃ S, news = (L' + 1, o1) :: (l, listOf ts.toArray n0) :: (S ++ rest) ∧ CInv S (ts.map strOf) i ys, fun h => h.IsListIter I l n, rfl, rfl, walks_zr (by rfl) z TI TO i1 I l DZ n ts.toArray (by rw [List.size_toArray]; omega), by rw [sizeLine_eq]; omega, ?hPl, ?hst, ?hfp, lF, (fun p hp => NZ p (by simp only [List.mem_cons] at hp ⊢; rcases hp with hp | hp | hp <;> first | with_reducible (first | exact Or.inl hp | exact hp | exact Or.inr (Or.inl hp) | exact Or.inr (hp) | exact Or.inr (Or.inr (Or.inl hp)) | exact Or.inr (Or.inr (hp)) | exact Or.inr (Or.inr (Or.inr (Or.inl hp))) | exact Or.inr (Or.inr (Or.inr (hp))) | exact Or.inr (Or.inr (Or.inr (Or.inr (Or.inl hp)))) | exact Or.inr (Or.inr (Or.inr (Or.inr (hp)))) | exact Or.inr (Or.inr (Or.inr (Or.inr (Or.inr (Or.inl hp))))) | exact Or.inr (Or.inr (Or.inr (Or.inr (Or.inr (hp))))) | exact Or.inr (Or.inr (Or.inr (Or.inr (Or.inr (Or.inr (Or.inl hp)))))) | exact Or.inr (Or.inr (Or.inr (Or.inr (Or.inr (Or.inr (hp)))))) | exact Or.inr (Or.inr (Or.inr (Or.inr (Or.inr (Or.inr (Or.inr (Or.inl hp))))))) | exact Or.inr (Or.inr (Or.inr (Or.inr (Or.inr (Or.inr (Or.inr (hp))))))) | exact Or.inr (Or.inr (Or.inr (Or.inr (Or.inr (Or.inr (Or.inr (Or.inr (Or.inl hp)))))))) | exact Or.inr (Or.inr (Or.inr (Or.inr (Or.inr (Or.inr (Or.inr (Or.inr (hp)))))))) | exact Or.inr (Or.inr (Or.inr (Or.inr (Or.inr (Or.inr (Or.inr (Or.inr (Or.inr (Or.inl hp))))))))) | exact Or.inr (Or.inr (Or.inr (Or.inr (Or.inr (Or.inr (Or.inr (Or.inr (Or.inr (hp))))))))) | exact Or.inl (Or.inr hp) | exact Or.inl (Or.inl hp) | exact Or.inl (Or.inl (Or.inr hp)) | exact Or.inl (Or.inl (Or.inl hp)) | exact Or.inl (Or.inr (Or.inl hp)) | exact Or.inr (Or.inl (Or.inr hp)) | exact Or.inr (Or.inl (Or.inl hp)) | exact Or.inr (Or.inl (Or.inl (Or.inr hp))) | exact Or.inr (Or.inl (Or.inl (Or.inl hp))) | exact Or.inr (Or.inl (Or.inr (Or.inl hp))) | exact Or.inr (Or.inr (Or.inl (Or.inr hp))) | exact Or.inr (Or.inr (Or.inl (Or.inl hp))) | exact Or.inr (Or.inr (Or.inl (Or.inl (Or.inr hp)))) | exact Or.inr (Or.inr (Or.inl (Or.inl (Or.inl hp)))) | exact Or.inr (Or.inr (Or.inl (Or.inr (Or.inl hp)))) | exact Or.inr (Or.inr (Or.inr (Or.inl (Or.inr hp)))) | exact Or.inr (Or.inr (Or.inr (Or.inl (Or.inl hp)))) | exact Or.inr (Or.inr (Or.inr (Or.inl (Or.inl (Or.inr hp))))) | exact Or.inr (Or.inr (Or.inr (Or.inl (Or.inl (Or.inl hp))))) | exact Or.inr (Or.inr (Or.inr (Or.inl (Or.inr (Or.inl hp))))) | exact Or.inr (Or.inr (Or.inr (Or.inr (Or.inl (Or.inr hp))))) | exact Or.inr (Or.inr (Or.inr (Or.inr (Or.inl (Or.inl hp))))) | exact Or.inr (Or.inr (Or.inr (Or.inr (Or.inl (Or.inl (Or.inr hp)))))) | exact Or.inr (Or.inr (Or.inr (Or.inr (Or.inl (Or.inl (Or.inl hp)))))) | exact Or.inr (Or.inr (Or.inr (Or.inr (Or.inl (Or.inr (Or.inl hp)))))) | exact Or.inr (Or.inr (Or.inr (Or.inr (Or.inr (Or.inl (Or.inr hp)))))) | exact Or.inr (Or.inr (Or.inr (Or.inr (Or.inr (Or.inl (Or.inl hp)))))) | exact Or.inr (Or.inr (Or.inr (Or.inr (Or.inr (Or.inl (Or.inl (Or.inr hp))))))) | exact Or.inr (Or.inr (Or.inr (Or.inr (Or.inr (Or.inl (Or.inl (Or.inl hp))))))) | exact Or.inr (Or.inr (Or.inr (Or.inr (Or.inr (Or.inl (Or.inr (Or.inl hp))))))) | exact Or.inr (Or.inr (Or.inr (Or.inr (Or.inr (Or.inr (Or.inl (Or.inr hp))))))) | exact Or.inr (Or.inr (Or.inr (Or.inr (Or.inr (Or.inr (Or.inl (Or.inl hp))))))) | exact Or.inr (Or.inr (Or.inr (Or.inr (Or.inr (Or.inr (Or.inl (Or.inl (Or.inr hp)))))))) | exact Or.inr (Or.inr (Or.inr (Or.inr (Or.inr (Or.inr (Or.inl (Or.inl (Or.inl hp)))))))) | exact Or.inr (Or.inr (Or.inr (Or.inr (Or.inr (Or.inr (Or.inl (Or.inr (Or.inl hp)))))))) | exact Or.inr (Or.inr (Or.inr (Or.inr (Or.inr (Or.inr (Or.inr (Or.inl (Or.inr hp)))))))) | exact Or.inr (Or.inr (Or.inr (Or.inr (Or.inr (Or.inr (Or.inr (Or.inl (Or.inl hp)))))))) | exact Or.inr (Or.inr (Or.inr (Or.inr (Or.inr (Or.inr (Or.inr (Or.inl (Or.inl (Or.inr hp))))))))) | exact Or.inr (Or.inr (Or.inr (Or.inr (Or.inr (Or.inr (Or.inr (Or.inl (Or.inl (Or.inl hp))))))))) | exact Or.inr (Or.inr (Or.inr (Or.inr (Or.inr (Or.inr (Or.inr (Or.inl (Or.inr (Or.inl hp)))))))))) | simp [hp])), ?hLf, ?hw0, ?hoff, ?hlive, ⟨[], rfl, rfl, fun j hj => absurd hj (Nat.not_lt_zero _)⟩, ?turn1, ?done1, ?hEf, ?fin1⟩
    case hPl => (rintro i vals ⟨t, y, _, rfl⟩; rfl)
    case hst => exact ⟨hz, hTI, ⟨_, _, hTO⟩, by simpa using hri, ⟨_, hItI.1, rfl, rfl⟩, hlist⟩
    case hfp =>
      intro b hb
      simp only [List.mem_cons, List.not_mem_nil, or_false] at hb
      rcases hb with rfl | rfl | rfl | rfl | rfl | rfl
      · exact (hfr _ (by first | k_mem | simp)).2.2.2
      · exact (hfr _ (by first | k_mem | simp)).2.2.2
      · exact (hfr _ (by first | k_mem | simp)).2.2.2
      · exact (hfr _ (by first | k_mem | simp)).2.2.2
      · exact Heap.lt_size hItI.1
      · obtain ⟨_, e, _⟩ := hlist; exact Heap.lt_size e
    case hLf =>
      intro hb
      simp only [List.mem_cons, List.not_mem_nil, or_false] at hb
      rcases hb with e | e | e | e | e | e
      · exact Nat.lt_irrefl _ (e ▸ (hfr z (by first | k_mem | simp)).2.1)
      · exact Nat.lt_irrefl _ (e ▸ (hfr TI (by first | k_mem | simp)).2.1)
      · exact Nat.lt_irrefl _ (e ▸ (hfr TO (by first | k_mem | simp)).2.1)
      · exact Nat.lt_irrefl _ (e ▸ (hfr i1 (by first | k_mem | simp)).2.1)
      · exact hItI.2.1 e.symm
      · exact (NZ (l, listOf ts.toArray n0) (by first | k_mem | simp)).2.1 e.symm
    case hw0 =>
      intro b hb
      simp only [List.mem_cons, List.not_mem_nil, or_false] at hb
      rcases hb with rfl | rfl | rfl | rfl
      · exact (hfr _ (by first | k_mem | simp)).2.2.1
      · exact (hfr _ (by first | k_mem | simp)).2.2.1
      · exact (hfr _ (by first | k_mem | simp)).2.2.1
      · exact hItI.2.2
    case hoff =>
      intro p hp hb
      have hp' : p ∈ (L' + 1, o1) :: (l, listOf ts.toArray n0) :: rest := hp
      simp only [List.mem_cons, List.not_mem_nil, or_false] at hb
      have hpI : p.1 < I := ltI p (by simp only [List.mem_cons] at hp' ⊢; rcases hp' with hp | hp | hp <;> first | with_reducible (first | exact Or.inl hp | exact hp | exact Or.inr (Or.inl hp) | exact Or.inr (hp) | exact Or.inr (Or.inr (Or.inl hp)) | exact Or.inr (Or.inr (hp)) | exact Or.inr (Or.inr (Or.inr (Or.inl hp))) | exact Or.inr (Or.inr (Or.inr (hp))) | exact Or.inr (Or.inr (Or.inr (Or.inr (Or.inl hp)))) | exact Or.inr (Or.inr (Or.inr (Or.inr (hp)))) | exact Or.inr (Or.inr (Or.inr (Or.inr (Or.inr (Or.inl hp))))) | exact Or.inr (Or.inr (Or.inr (Or.inr (Or.inr (hp))))) | exact Or.inr (Or.inr (Or.inr (Or.inr (Or.inr (Or.inr (Or.inl hp)))))) | exact Or.inr (Or.inr (Or.inr (Or.inr (Or.inr (Or.inr (hp)))))) | exact Or.inr (Or.inr (Or.inr (Or.inr (Or.inr (Or.inr (Or.inr (Or.inl hp))))))) | exact Or.inr (Or.inr (Or.inr (Or.inr (Or.inr (Or.inr (Or.inr (hp))))))) | exact Or.inr (Or.inr (Or.inr (Or.inr (Or.inr (Or.inr (Or.inr (Or.inr (Or.inl hp)))))))) | exact Or.inr (Or.inr (Or.inr (Or.inr (Or.inr (Or.inr (Or.inr (Or.inr (hp)))))))) | exact Or.inr (Or.inr (Or.inr (Or.inr (Or.inr (Or.inr (Or.inr (Or.inr (Or.inr (Or.inl hp))))))))) | exact Or.inr (Or.inr (Or.inr (Or.inr (Or.inr (Or.inr (Or.inr (Or.inr (Or.inr (hp))))))))) | exact Or.inl (Or.inr hp) | exact Or.inl (Or.inl hp) | exact Or.inl (Or.inl (Or.inr hp)) | exact Or.inl (Or.inl (Or.inl hp)) | exact Or.inl (Or.inr (Or.inl hp)) | exact Or.inr (Or.inl (Or.inr hp)) | exact Or.inr (Or.inl (Or.inl hp)) | exact Or.inr (Or.inl (Or.inl (Or.inr hp))) | exact Or.inr (Or.inl (Or.inl (Or.inl hp))) | exact Or.inr (Or.inl (Or.inr (Or.inl hp))) | exact Or.inr (Or.inr (Or.inl (Or.inr hp))) | exact Or.inr (Or.inr (Or.inl (Or.inl hp))) | exact Or.inr (Or.inr (Or.inl (Or.inl (Or.inr hp)))) | exact Or.inr (Or.inr (Or.inl (Or.inl (Or.inl hp)))) | exact Or.inr (Or.inr (Or.inl (Or.inr (Or.inl hp)))) | exact Or.inr (Or.inr (Or.inr (Or.inl (Or.inr hp)))) | exact Or.inr (Or.inr (Or.inr (Or.inl (Or.inl hp)))) | exact Or.inr (Or.inr (Or.inr (Or.inl (Or.inl (Or.inr hp))))) | exact Or.inr (Or.inr (Or.inr (Or.inl (Or.inl (Or.inl hp))))) | exact Or.inr (Or.inr (Or.inr (Or.inl (Or.inr (Or.inl hp))))) | exact Or.inr (Or.inr (Or.inr (Or.inr (Or.inl (Or.inr hp))))) | exact Or.inr (Or.inr (Or.inr (Or.inr (Or.inl (Or.inl hp))))) | exact Or.inr (Or.inr (Or.inr (Or.inr (Or.inl (Or.inl (Or.inr hp)))))) | exact Or.inr (Or.inr (Or.inr (Or.inr (Or.inl (Or.inl (Or.inl hp)))))) | exact Or.inr (Or.inr (Or.inr (Or.inr (Or.inl (Or.inr (Or.inl hp)))))) | exact Or.inr (Or.inr (Or.inr (Or.inr (Or.inr (Or.inl (Or.inr hp)))))) | exact Or.inr (Or.inr (Or.inr (Or.inr (Or.inr (Or.inl (Or.inl hp)))))) | exact Or.inr (Or.inr (Or.inr (Or.inr (Or.inr (Or.inl (Or.inl (Or.inr hp))))))) | exact Or.inr (Or.inr (Or.inr (Or.inr (Or.inr (Or.inl (Or.inl (Or.inl hp))))))) | exact Or.inr (Or.inr (Or.inr (Or.inr (Or.inr (Or.inl (Or.inr (Or.inl hp))))))) | exact Or.inr (Or.inr (Or.inr (Or.inr (Or.inr (Or.inr (Or.inl (Or.inr hp))))))) | exact Or.inr (Or.inr (Or.inr (Or.inr (Or.inr (Or.inr (Or.inl (Or.inl hp))))))) | exact Or.inr (Or.inr (Or.inr (Or.inr (Or.inr (Or.inr (Or.inl (Or.inl (Or.inr hp)))))))) | exact Or.inr (Or.inr (Or.inr (Or.inr (Or.inr (Or.inr (Or.inl (Or.inl (Or.inl hp)))))))) | exact Or.inr (Or.inr (Or.inr (Or.inr (Or.inr (Or.inr (Or.inl (Or.inr (Or.inl hp)))))))) | exact Or.inr (Or.inr (Or.inr (Or.inr (Or.inr (Or.inr (Or.inr (Or.inl (Or.inr hp)))))))) | exact Or.inr (Or.inr (Or.inr (Or.inr (Or.inr (Or.inr (Or.inr (Or.inl (Or.inl hp)))))))) | exact Or.inr (Or.inr (Or.inr (Or.inr (Or.inr (Or.inr (Or.inr (Or.inl (Or.inl (Or.inr hp))))))))) | exact Or.inr (Or.inr (Or.inr (Or.inr (Or.inr (Or.inr (Or.inr (Or.inl (Or.inl (Or.inl hp))))))))) | exact Or.inr (Or.inr (Or.inr (Or.inr (Or.inr (Or.inr (Or.inr (Or.inl (Or.inr (Or.inl hp)))))))))) | simp [hp])
      have hpN := fun b hb => (hfr b hb).1 p (by simp only [List.mem_cons] at hp' ⊢; rcases hp' with hp | hp | hp <;> first | with_reducible (first | exact Or.inl hp | exact hp | exact Or.inr (Or.inl hp) | exact Or.inr (hp) | exact Or.inr (Or.inr (Or.inl hp)) | exact Or.inr (Or.inr (hp)) | exact Or.inr (Or.inr (Or.inr (Or.inl hp))) | exact Or.inr (Or.inr (Or.inr (hp))) | exact Or.inr (Or.inr (Or.inr (Or.inr (Or.inl hp)))) | exact Or.inr (Or.inr (Or.inr (Or.inr (hp)))) | exact Or.inr (Or.inr (Or.inr (Or.inr (Or.inr (Or.inl hp))))) | exact Or.inr (Or.inr (Or.inr (Or.inr (Or.inr (hp))))) | exact Or.inr (Or.inr (Or.inr (Or.inr (Or.inr (Or.inr (Or.inl hp)))))) | exact Or.inr (Or.inr (Or.inr (Or.inr (Or.inr (Or.inr (hp)))))) | exact Or.inr (Or.inr (Or.inr (Or.inr (Or.inr (Or.inr (Or.inr (Or.inl hp))))))) | exact Or.inr (Or.inr (Or.inr (Or.inr (Or.inr (Or.inr (Or.inr (hp))))))) | exact Or.inr (Or.inr (Or.inr (Or.inr (Or.inr (Or.inr (Or.inr (Or.inr (Or.inl hp)))))))) | exact Or.inr (Or.inr (Or.inr (Or.inr (Or.inr (Or.inr (Or.inr (Or.inr (hp)))))))) | exact Or.inr (Or.inr (Or.inr (Or.inr (Or.inr (Or.inr (Or.inr (Or.inr (Or.inr (Or.inl hp))))))))) | exact Or.inr (Or.inr (Or.inr (Or.inr (Or.inr (Or.inr (Or.inr (Or.inr (Or.inr (hp))))))))) | exact Or.inl (Or.inr hp) | exact Or.inl (Or.inl hp) | exact Or.inl (Or.inl (Or.inr hp)) | exact Or.inl (Or.inl (Or.inl hp)) | exact Or.inl (Or.inr (Or.inl hp)) | exact Or.inr (Or.inl (Or.inr hp)) | exact Or.inr (Or.inl (Or.inl hp)) | exact Or.inr (Or.inl (Or.inl (Or.inr hp))) | exact Or.inr (Or.inl (Or.inl (Or.inl hp))) | exact Or.inr (Or.inl (Or.inr (Or.inl hp))) | exact Or.inr (Or.inr (Or.inl (Or.inr hp))) | exact Or.inr (Or.inr (Or.inl (Or.inl hp))) | exact Or.inr (Or.inr (Or.inl (Or.inl (Or.inr hp)))) | exact Or.inr (Or.inr (Or.inl (Or.inl (Or.inl hp)))) | exact Or.inr (Or.inr (Or.inl (Or.inr (Or.inl hp)))) | exact Or.inr (Or.inr (Or.inr (Or.inl (Or.inr hp)))) | exact Or.inr (Or.inr (Or.inr (Or.inl (Or.inl hp)))) | exact Or.inr (Or.inr (Or.inr (Or.inl (Or.inl (Or.inr hp))))) | exact Or.inr (Or.inr (Or.inr (Or.inl (Or.inl (Or.inl hp))))) | exact Or.inr (Or.inr (Or.inr (Or.inl (Or.inr (Or.inl hp))))) | exact Or.inr (Or.inr (Or.inr (Or.inr (Or.inl (Or.inr hp))))) | exact Or.inr (Or.inr (Or.inr (Or.inr (Or.inl (Or.inl hp))))) | exact Or.inr (Or.inr (Or.inr (Or.inr (Or.inl (Or.inl (Or.inr hp)))))) | exact Or.inr (Or.inr (Or.inr (Or.inr (Or.inl (Or.inl (Or.inl hp)))))) | exact Or.inr (Or.inr (Or.inr (Or.inr (Or.inl (Or.inr (Or.inl hp)))))) | exact Or.inr (Or.inr (Or.inr (Or.inr (Or.inr (Or.inl (Or.inr hp)))))) | exact Or.inr (Or.inr (Or.inr (Or.inr (Or.inr (Or.inl (Or.inl hp)))))) | exact Or.inr (Or.inr (Or.inr (Or.inr (Or.inr (Or.inl (Or.inl (Or.inr hp))))))) | exact Or.inr (Or.inr (Or.inr (Or.inr (Or.inr (Or.inl (Or.inl (Or.inl hp))))))) | exact Or.inr (Or.inr (Or.inr (Or.inr (Or.inr (Or.inl (Or.inr (Or.inl hp))))))) | exact Or.inr (Or.inr (Or.inr (Or.inr (Or.inr (Or.inr (Or.inl (Or.inr hp))))))) | exact Or.inr (Or.inr (Or.inr (Or.inr (Or.inr (Or.inr (Or.inl (Or.inl hp))))))) | exact Or.inr (Or.inr (Or.inr (Or.inr (Or.inr (Or.inr (Or.inl (Or.inl (Or.inr hp)))))))) | exact Or.inr (Or.inr (Or.inr (Or.inr (Or.inr (Or.inr (Or.inl (Or.inl (Or.inl hp)))))))) | exact Or.inr (Or.inr (Or.inr (Or.inr (Or.inr (Or.inr (Or.inl (Or.inr (Or.inl hp)))))))) | exact Or.inr (Or.inr (Or.inr (Or.inr (Or.inr (Or.inr (Or.inr (Or.inl (Or.inr hp)))))))) | exact Or.inr (Or.inr (Or.inr (Or.inr (Or.inr (Or.inr (Or.inr (Or.inl (Or.inl hp)))))))) | exact Or.inr (Or.inr (Or.inr (Or.inr (Or.inr (Or.inr (Or.inr (Or.inl (Or.inl (Or.inr hp))))))))) | exact Or.inr (Or.inr (Or.inr (Or.inr (Or.inr (Or.inr (Or.inr (Or.inl (Or.inl (Or.inl hp))))))))) | exact Or.inr (Or.inr (Or.inr (Or.inr (Or.inr (Or.inr (Or.inr (Or.inl (Or.inr (Or.inl hp)))))))))) | simp [hp])
      rcases hb with e | e | e | e
      · exact Nat.lt_irrefl _ (e ▸ hpN z (by first | k_mem | simp))
      · exact Nat.lt_irrefl _ (e ▸ hpN TO (by first | k_mem | simp))
      · exact Nat.lt_irrefl _ (e ▸ hpN i1 (by first | k_mem | simp))
      · exact Nat.lt_irrefl _ (e ▸ hpI)
    case hlive =>
      rintro i h ⟨a1, a2, ⟨a, b, a3⟩, a4, ⟨oi, a5, _⟩, a6⟩ b hb
      simp only [List.mem_cons, List.not_mem_nil, or_false] at hb
      rcases hb with rfl | rfl | rfl | rfl
      · exact ⟨_, a1⟩
      · exact ⟨_, a3⟩
      · exact ⟨_, a4⟩
      · exact ⟨_, a5⟩
    case done1 =>
      rintro s Q E ⟨a1, a2, ⟨a, b, a3⟩, a4, a5, a6⟩ hQ
      exact zr_done (by rfl) DZ a1 a2 a4 a5 hQ
    case hEf =>
      intro h h' he hk
      exact he.at fun o e => hk I (by first | k_mem | simp) o e
    case' turn1 =>
      intro i ys news vals own C oC D m₁ h tk E' hi hInv hP hC FF NN off hown hwo hCD hCw hDw
      obtain ⟨S, rfl, hCI⟩ := hInv
      obtain ⟨ti, y, hy, rfl⟩ := hP
      have hym : y ∈ ts := by simpa using Array.mem_of_getElem? hy
      obtain ⟨x, tx, rfl⟩ := hS y hym
      have hx100 : x.length ≤ 100 := hL _ hym
      have hxi : (ts.map strOf)[i]? = some x := by
        rw [List.getElem?_map]
        have : ts[i]? = some (.str x tx) := by simpa using hy
        rw [this]; rfl
      generalize hm₂ : upd m₁ _ _ = m₂ at hC
      have hx1 : m₂ (Str.ofString "i") = some (.int (i : Int) ti) := by rw [← hm₂]; rfl
      have hx2 : m₂ (Str.ofString "elem") = some (.str x tx) := by rw [← hm₂]; rfl
      clear hm₂
      have lN9 : News _ _ h ((C, oC) :: (D, lst ys) :: (L' + 1, o1) :: (l, listOf ts.toArray n0) :: (S ++ rest ++ own)) := fun p hp => NN p (by
        simp only [List.mem_cons, List.mem_append] at hp ⊢
        rcases hp with hp | hp | hp | hp | ((hp | hp) | hp) <;> first | with_reducible (first | exact Or.inl hp | exact hp | exact Or.inr (Or.inl hp) | exact Or.inr (hp) | exact Or.inr (Or.inr (Or.inl hp)) | exact Or.inr (Or.inr (hp)) | exact Or.inr (Or.inr (Or.inr (Or.inl hp))) | exact Or.inr (Or.inr (Or.inr (hp))) | exact Or.inr (Or.inr (Or.inr (Or.inr (Or.inl hp)))) | exact Or.inr (Or.inr (Or.inr (Or.inr (hp)))) | exact Or.inr (Or.inr (Or.inr (Or.inr (Or.inr (Or.inl hp))))) | exact Or.inr (Or.inr (Or.inr (Or.inr (Or.inr (hp))))) | exact Or.inr (Or.inr (Or.inr (Or.inr (Or.inr (Or.inr (Or.inl hp)))))) | exact Or.inr (Or.inr (Or.inr (Or.inr (Or.inr (Or.inr (hp)))))) | exact Or.inr (Or.inr (Or.inr (Or.inr (Or.inr (Or.inr (Or.inr (Or.inl hp))))))) | exact Or.inr (Or.inr (Or.inr (Or.inr (Or.inr (Or.inr (Or.inr (hp))))))) | exact Or.inr (Or.inr (Or.inr (Or.inr (Or.inr (Or.inr (Or.inr (Or.inr (Or.inl hp)))))))) | exact Or.inr (Or.inr (Or.inr (Or.inr (Or.inr (Or.inr (Or.inr (Or.inr (hp)))))))) | exact Or.inr (Or.inr (Or.inr (Or.inr (Or.inr (Or.inr (Or.inr (Or.inr (Or.inr (Or.inl hp))))))))) | exact Or.inr (Or.inr (Or.inr (Or.inr (Or.inr (Or.inr (Or.inr (Or.inr (Or.inr (hp))))))))) | exact Or.inl (Or.inr hp) | exact Or.inl (Or.inl hp) | exact Or.inl (Or.inl (Or.inr hp)) | exact Or.inl (Or.inl (Or.inl hp)) | exact Or.inl (Or.inr (Or.inl hp)) | exact Or.inr (Or.inl (Or.inr hp)) | exact Or.inr (Or.inl (Or.inl hp)) | exact Or.inr (Or.inl (Or.inl (Or.inr hp))) | exact Or.inr (Or.inl (Or.inl (Or.inl hp))) | exact Or.inr (Or.inl (Or.inr (Or.inl hp))) | exact Or.inr (Or.inr (Or.inl (Or.inr hp))) | exact Or.inr (Or.inr (Or.inl (Or.inl hp))) | exact Or.inr (Or.inr (Or.inl (Or.inl (Or.inr hp)))) | exact Or.inr (Or.inr (Or.inl (Or.inl (Or.inl hp)))) | exact Or.inr (Or.inr (Or.inl (Or.inr (Or.inl hp)))) | exact Or.inr (Or.inr (Or.inr (Or.inl (Or.inr hp)))) | exact Or.inr (Or.inr (Or.inr (Or.inl (Or.inl hp)))) | exact Or.inr (Or.inr (Or.inr (Or.inl (Or.inl (Or.inr hp))))) | exact Or.inr (Or.inr (Or.inr (Or.inl (Or.inl (Or.inl hp))))) | exact Or.inr (Or.inr (Or.inr (Or.inl (Or.inr (Or.inl hp))))) | exact Or.inr (Or.inr (Or.inr (Or.inr (Or.inl (Or.inr hp))))) | exact Or.inr (Or.inr (Or.inr (Or.inr (Or.inl (Or.inl hp))))) | exact Or.inr (Or.inr (Or.inr (Or.inr (Or.inl (Or.inl (Or.inr hp)))))) | exact Or.inr (Or.inr (Or.inr (Or.inr (Or.inl (Or.inl (Or.inl hp)))))) | exact Or.inr (Or.inr (Or.inr (Or.inr (Or.inl (Or.inr (Or.inl hp)))))) | exact Or.inr (Or.inr (Or.inr (Or.inr (Or.inr (Or.inl (Or.inr hp)))))) | exact Or.inr (Or.inr (Or.inr (Or.inr (Or.inr (Or.inl (Or.inl hp)))))) | exact Or.inr (Or.inr (Or.inr (Or.inr (Or.inr (Or.inl (Or.inl (Or.inr hp))))))) | exact Or.inr (Or.inr (Or.inr (Or.inr (Or.inr (Or.inl (Or.inl (Or.inl hp))))))) | exact Or.inr (Or.inr (Or.inr (Or.inr (Or.inr (Or.inl (Or.inr (Or.inl hp))))))) | exact Or.inr (Or.inr (Or.inr (Or.inr (Or.inr (Or.inr (Or.inl (Or.inr hp))))))) | exact Or.inr (Or.inr (Or.inr (Or.inr (Or.inr (Or.inr (Or.inl (Or.inl hp))))))) | exact Or.inr (Or.inr (Or.inr (Or.inr (Or.inr (Or.inr (Or.inl (Or.inl (Or.inr hp)))))))) | exact Or.inr (Or.inr (Or.inr (Or.inr (Or.inr (Or.inr (Or.inl (Or.inl (Or.inl hp)))))))) | exact Or.inr (Or.inr (Or.inr (Or.inr (Or.inr (Or.inr (Or.inl (Or.inr (Or.inl hp)))))))) | exact Or.inr (Or.inr (Or.inr (Or.inr (Or.inr (Or.inr (Or.inr (Or.inl (Or.inr hp)))))))) | exact Or.inr (Or.inr (Or.inr (Or.inr (Or.inr (Or.inr (Or.inr (Or.inl (Or.inl hp)))))))) | exact Or.inr (Or.inr (Or.inr (Or.inr (Or.inr (Or.inr (Or.inr (Or.inl (Or.inl (Or.inr hp))))))))) | exact Or.inr (Or.inr (Or.inr (Or.inr (Or.inr (Or.inr (Or.inr (Or.inl (Or.inl (Or.inl hp))))))))) | exact Or.inr (Or.inr (Or.inr (Or.inr (Or.inr (Or.inr (Or.inr (Or.inl (Or.inr (Or.inl hp)))))))))) | simp [hp])
      clear NN
      (try dsimp only)
      (try k_fold)
    case' fin1 =>
      intro ys news' hInv D9 hD9s hoff hDf D8 h9 tk9 e9 F9 N9 hend
      have ltD9 : ∀ p ∈ ((l, listOf ts.toArray n0) :: rest : List (Addr × Obj)), p.1 < D9 := fun p hp => Nat.lt_of_lt_of_le (Heap.lt_size (NZ p (by simp only [List.mem_cons] at hp ⊢; rcases hp with hp | hp <;> first | with_reducible (first | exact Or.inl hp | exact hp | exact Or.inr (Or.inl hp) | exact Or.inr (hp) | exact Or.inr (Or.inr (Or.inl hp)) | exact Or.inr (Or.inr (hp)) | exact Or.inr (Or.inr (Or.inr (Or.inl hp))) | exact Or.inr (Or.inr (Or.inr (hp))) | exact Or.inr (Or.inr (Or.inr (Or.inr (Or.inl hp)))) | exact Or.inr (Or.inr (Or.inr (Or.inr (hp)))) | exact Or.inr (Or.inr (Or.inr (Or.inr (Or.inr (Or.inl hp))))) | exact Or.inr (Or.inr (Or.inr (Or.inr (Or.inr (hp))))) | exact Or.inr (Or.inr (Or.inr (Or.inr (Or.inr (Or.inr (Or.inl hp)))))) | exact Or.inr (Or.inr (Or.inr (Or.inr (Or.inr (Or.inr (hp)))))) | exact Or.inr (Or.inr (Or.inr (Or.inr (Or.inr (Or.inr (Or.inr (Or.inl hp))))))) | exact Or.inr (Or.inr (Or.inr (Or.inr (Or.inr (Or.inr (Or.inr (hp))))))) | exact Or.inr (Or.inr (Or.inr (Or.inr (Or.inr (Or.inr (Or.inr (Or.inr (Or.inl hp)))))))) | exact Or.inr (Or.inr (Or.inr (Or.inr (Or.inr (Or.inr (Or.inr (Or.inr (hp)))))))) | exact Or.inr (Or.inr (Or.inr (Or.inr (Or.inr (Or.inr (Or.inr (Or.inr (Or.inr (Or.inl hp))))))))) | exact Or.inr (Or.inr (Or.inr (Or.inr (Or.inr (Or.inr (Or.inr (Or.inr (Or.inr (hp))))))))) | exact Or.inl (Or.inr hp) | exact Or.inl (Or.inl hp) | exact Or.inl (Or.inl (Or.inr hp)) | exact Or.inl (Or.inl (Or.inl hp)) | exact Or.inl (Or.inr (Or.inl hp)) | exact Or.inr (Or.inl (Or.inr hp)) | exact Or.inr (Or.inl (Or.inl hp)) | exact Or.inr (Or.inl (Or.inl (Or.inr hp))) | exact Or.inr (Or.inl (Or.inl (Or.inl hp))) | exact Or.inr (Or.inl (Or.inr (Or.inl hp))) | exact Or.inr (Or.inr (Or.inl (Or.inr hp))) | exact Or.inr (Or.inr (Or.inl (Or.inl hp))) | exact Or.inr (Or.inr (Or.inl (Or.inl (Or.inr hp)))) | exact Or.inr (Or.inr (Or.inl (Or.inl (Or.inl hp)))) | exact Or.inr (Or.inr (Or.inl (Or.inr (Or.inl hp)))) | exact Or.inr (Or.inr (Or.inr (Or.inl (Or.inr hp)))) | exact Or.inr (Or.inr (Or.inr (Or.inl (Or.inl hp)))) | exact Or.inr (Or.inr (Or.inr (Or.inl (Or.inl (Or.inr hp))))) | exact Or.inr (Or.inr (Or.inr (Or.inl (Or.inl (Or.inl hp))))) | exact Or.inr (Or.inr (Or.inr (Or.inl (Or.inr (Or.inl hp))))) | exact Or.inr (Or.inr (Or.inr (Or.inr (Or.inl (Or.inr hp))))) | exact Or.inr (Or.inr (Or.inr (Or.inr (Or.inl (Or.inl hp))))) | exact Or.inr (Or.inr (Or.inr (Or.inr (Or.inl (Or.inl (Or.inr hp)))))) | exact Or.inr (Or.inr (Or.inr (Or.inr (Or.inl (Or.inl (Or.inl hp)))))) | exact Or.inr (Or.inr (Or.inr (Or.inr (Or.inl (Or.inr (Or.inl hp)))))) | exact Or.inr (Or.inr (Or.inr (Or.inr (Or.inr (Or.inl (Or.inr hp)))))) | exact Or.inr (Or.inr (Or.inr (Or.inr (Or.inr (Or.inl (Or.inl hp)))))) | exact Or.inr (Or.inr (Or.inr (Or.inr (Or.inr (Or.inl (Or.inl (Or.inr hp))))))) | exact Or.inr (Or.inr (Or.inr (Or.inr (Or.inr (Or.inl (Or.inl (Or.inl hp))))))) | exact Or.inr (Or.inr (Or.inr (Or.inr (Or.inr (Or.inl (Or.inr (Or.inl hp))))))) | exact Or.inr (Or.inr (Or.inr (Or.inr (Or.inr (Or.inr (Or.inl (Or.inr hp))))))) | exact Or.inr (Or.inr (Or.inr (Or.inr (Or.inr (Or.inr (Or.inl (Or.inl hp))))))) | exact Or.inr (Or.inr (Or.inr (Or.inr (Or.inr (Or.inr (Or.inl (Or.inl (Or.inr hp)))))))) | exact Or.inr (Or.inr (Or.inr (Or.inr (Or.inr (Or.inr (Or.inl (Or.inl (Or.inl hp)))))))) | exact Or.inr (Or.inr (Or.inr (Or.inr (Or.inr (Or.inr (Or.inl (Or.inr (Or.inl hp)))))))) | exact Or.inr (Or.inr (Or.inr (Or.inr (Or.inr (Or.inr (Or.inr (Or.inl (Or.inr hp)))))))) | exact Or.inr (Or.inr (Or.inr (Or.inr (Or.inr (Or.inr (Or.inr (Or.inl (Or.inl hp)))))))) | exact Or.inr (Or.inr (Or.inr (Or.inr (Or.inr (Or.inr (Or.inr (Or.inl (Or.inl (Or.inr hp))))))))) | exact Or.inr (Or.inr (Or.inr (Or.inr (Or.inr (Or.inr (Or.inr (Or.inl (Or.inl (Or.inl hp))))))))) | exact Or.inr (Or.inr (Or.inr (Or.inr (Or.inr (Or.inr (Or.inr (Or.inl (Or.inr (Or.inl hp)))))))))) | simp [hp])).1) hD9s
      cases e9
      obtain ⟨S, rfl, hCI⟩ := hInv
      obtain ⟨oI, hoI, hoc, hod⟩ := hend
      have hysl : ys.length = n := hCI.1
      have lN9 : News _ _ h9 ((D9, listOf ys.toArray n) :: (I, oI) :: (L' + 1, o1) :: (l, listOf ts.toArray n0) :: (S ++ rest)) := fun p hp => by
        rcases List.mem_cons.mp hp with rfl | hp
        · have := N9 (D9, lst ys) (List.mem_cons_self ..)
          rw [← hysl]; exact this
        · rcases List.mem_cons.mp hp with rfl | hp
          · exact ⟨hoI, hItI.2⟩
          · exact N9 p (List.mem_cons_of_mem _ hp)
      clear N9
      (try dsimp only)
      (try k_fold))
  k_with "call ref" => (
    rename Fr _ _ _ _ => lF
    rename News _ _ _ _ => lN
    refine c_escape _ _ _ _ _ _ _ _ _ _ _ _ _ _ ((C, oC) :: (D, lst ys) :: (L' + 1, o1) :: (l, listOf ts.toArray n0) :: (S ++ rest ++ own)) _ x tx _ _ B' lF X' lN T' (by rfl) (by omega) (by ktr_room) (by ktr_units) ?_
    intro h' tk' te F' N')
  k_with "ZEnd" => (
    rename Fr _ _ _ _ => lF
    rename News _ _ _ _ => lN
    refine zend_tri lF lN ltT9 off hwo ⟨_, rfl, cInv_snoc hCI (fun p hp => List.mem_cons_of_mem _ hp) hxi ⟨_, _, _, _, rfl, List.mem_cons_self ..⟩⟩)
  k_with "call ref" => (
    rename Fr _ _ _ _ => lF
    rename News _ _ _ _ => lN
    have hSN : ∀ p ∈ S, p ∈ ((I, oI) :: (L' + 1, o1) :: (l, listOf ts.toArray n0) :: (S ++ rest) : List (Addr × Obj)) := fun p hp => by simp [hp]
    have hFu : Func S := fun a o o' q1 q2 => News.func lN a o o' (List.mem_cons_of_mem _ (hSN _ q1)) (List.mem_cons_of_mem _ (hSN _ q2))
    have hne9 : ∀ p ∈ ((I, oI) :: (L' + 1, o1) :: (l, listOf ts.toArray n0) :: (S ++ rest) : List (Addr × Obj)), p.1 ≠ D9 := by
      intro p hp
      rcases List.mem_cons.mp hp with rfl | hp
      · exact fun e => hDf (by simp [← e])
      · exact (hoff p hp).1
    have hP9 : ∀ v ∈ ys, ∃ d, TriAt S v d := by
      intro v hv
      obtain ⟨j, hj, rfl⟩ := List.mem_iff_getElem.mp hv
      have := hCI.2 j (by omega)
      rw [List.getD_eq_getElem?_getD, List.getElem?_eq_getElem hj] at this
      exact ⟨_, this⟩
    have hNI := nInv_init hFu hCI (by rw [List.length_map]; omega)
    refine c_heapify_max _ _ _ _ _ _ _ _ _ _ _ _ _ _ ((I, oI) :: (L' + 1, o1) :: (l, listOf ts.toArray n0) :: (S ++ rest)) _ (fun v => ∃ d, TriAt S v d) (triV S) D9 n ys _ _ B' lF X' lN T' (by rfl) ((cmpSpec_tri hFu).more hSN) hne9 hP9 (by omega) (by ktr_room) (by ktr_units) ?_
    generalize hify (fun a b => triV S b a) (ys.length / 2) ys = hs at hNI
    have hn0 : 0 < n := by omega
    obtain ⟨d0, hd0⟩ := hNI.1 _ (getD_mem (vs := hs) (i := 0) (by rw [hNI.2.2.1]; exact hn0))
    have hel0 : elemOf S (hs.getD 0 .none) = d0.2 := by unfold elemOf; rw [dec_eq hFu hd0]
    obtain ⟨a0, ta, tb, tc, ha0, hm0⟩ := hd0
    have hhsl : hs.length = n := hNI.2.2.1
    intro h' tk' F' N')
  k_with "subscriptTail" => (
    rename News _ _ _ _ => lN
    show wpAny _ _ (subscriptTail _ _ (hs.getD 0 .none) _) _ _ _
    rw [ha0]
    refine item_tuple (j := 0) ⟨_, (lN (a0, triO d0.2 d0.1 ta tb tc) (by simp [hm0])).1, rfl, 0, rfl⟩ (by decide) (by decide) (by rfl) (by rfl) ?_)
  k_with "pyIter ref" => (
    rename Fr _ _ _ _ => lF
    rename News _ _ _ _ => lN
    have hIlN := lN (I, oI) (by first | k_mem | simp)
    have hllN := lN (l, listOf ts.toArray n0) (by first | k_mem | simp)
    have hlist9 : Heap.IsList _ l ts.toArray := PySem.IsL.isList (n := n0) hllN.1
    have hlI9 : l ≠ I := Nat.ne_of_lt (ltI (l, listOf ts.toArray n0) (by first | k_mem | simp))
    have hsz9 : ts.toArray.size = ts.length := List.size_toArray ..
    refine wpAny_pyIter_listiter ⟨oI, hIlN.1, hoc, hod⟩ ?_
    refine' g_for (σ := List Value × Nat × List (Addr × Obj) × Nat × Tok × Str × Tok) (fun c => (D9, listOf c.1.toArray c.2.1) :: (L' + 1, o1) :: (l, listOf ts.toArray n0) :: (c.2.2.1 ++ rest))
      (fun c => [(Str.ofString "top", .str c.2.2.2.2.2.1 c.2.2.2.2.2.2), (Str.ofString "order", .int (c.2.2.2.1 : Int) c.2.2.2.2.1)]) [Str.ofString "k", Str.ofString "_order", Str.ofString "_elem"]
      (fun i c => NInv c.2.2.1 (ts.map strOf) (n + i) n c.1 ∧ c.2.2.2.2.2.1 = esc (elemOf c.2.2.1 (c.1.getD 0 .none)) ∧ ∀ p ∈ ((L' + 1, o1) :: (l, listOf ts.toArray n0) :: (c.2.2.1 ++ rest) : List (Addr × Obj)), p.1 ≠ D9) (hs, n, S, n, tn, esc d0.2, ta)
      (walks_from (by rfl) I l hlI9 ts.toArray n (by omega)) ?gf1 ?gf2 ?gf3 ⟨⟨oI, hIlN.1, hoc, hod⟩, hlist9⟩ lF (fun p hp => lN p (by
        have hp' : p ∈ (D9, listOf hs.toArray n) :: (L' + 1, o1) :: (l, listOf ts.toArray n0) :: (S ++ rest) := hp
        simp only [List.mem_cons, List.mem_append] at hp' ⊢
        rcases hp' with hp | hp | hp | hp | hp <;> first | with_reducible (first | exact Or.inl hp | exact hp | exact Or.inr (Or.inl hp) | exact Or.inr (hp) | exact Or.inr (Or.inr (Or.inl hp)) | exact Or.inr (Or.inr (hp)) | exact Or.inr (Or.inr (Or.inr (Or.inl hp))) | exact Or.inr (Or.inr (Or.inr (hp))) | exact Or.inr (Or.inr (Or.inr (Or.inr (Or.inl hp)))) | exact Or.inr (Or.inr (Or.inr (Or.inr (hp)))) | exact Or.inr (Or.inr (Or.inr (Or.inr (Or.inr (Or.inl hp))))) | exact Or.inr (Or.inr (Or.inr (Or.inr (Or.inr (hp))))) | exact Or.inr (Or.inr (Or.inr (Or.inr (Or.inr (Or.inr (Or.inl hp)))))) | exact Or.inr (Or.inr (Or.inr (Or.inr (Or.inr (Or.inr (hp)))))) | exact Or.inr (Or.inr (Or.inr (Or.inr (Or.inr (Or.inr (Or.inr (Or.inl hp))))))) | exact Or.inr (Or.inr (Or.inr (Or.inr (Or.inr (Or.inr (Or.inr (hp))))))) | exact Or.inr (Or.inr (Or.inr (Or.inr (Or.inr (Or.inr (Or.inr (Or.inr (Or.inl hp)))))))) | exact Or.inr (Or.inr (Or.inr (Or.inr (Or.inr (Or.inr (Or.inr (Or.inr (hp)))))))) | exact Or.inr (Or.inr (Or.inr (Or.inr (Or.inr (Or.inr (Or.inr (Or.inr (Or.inr (Or.inl hp))))))))) | exact Or.inr (Or.inr (Or.inr (Or.inr (Or.inr (Or.inr (Or.inr (Or.inr (Or.inr (hp))))))))) | exact Or.inl (Or.inr hp) | exact Or.inl (Or.inl hp) | exact Or.inl (Or.inl (Or.inr hp)) | exact Or.inl (Or.inl (Or.inl hp)) | exact Or.inl (Or.inr (Or.inl hp)) | exact Or.inr (Or.inl (Or.inr hp)) | exact Or.inr (Or.inl (Or.inl hp)) | exact Or.inr (Or.inl (Or.inl (Or.inr hp))) | exact Or.inr (Or.inl (Or.inl (Or.inl hp))) | exact Or.inr (Or.inl (Or.inr (Or.inl hp))) | exact Or.inr (Or.inr (Or.inl (Or.inr hp))) | exact Or.inr (Or.inr (Or.inl (Or.inl hp))) | exact Or.inr (Or.inr (Or.inl (Or.inl (Or.inr hp)))) | exact Or.inr (Or.inr (Or.inl (Or.inl (Or.inl hp)))) | exact Or.inr (Or.inr (Or.inl (Or.inr (Or.inl hp)))) | exact Or.inr (Or.inr (Or.inr (Or.inl (Or.inr hp)))) | exact Or.inr (Or.inr (Or.inr (Or.inl (Or.inl hp)))) | exact Or.inr (Or.inr (Or.inr (Or.inl (Or.inl (Or.inr hp))))) | exact Or.inr (Or.inr (Or.inr (Or.inl (Or.inl (Or.inl hp))))) | exact Or.inr (Or.inr (Or.inr (Or.inl (Or.inr (Or.inl hp))))) | exact Or.inr (Or.inr (Or.inr (Or.inr (Or.inl (Or.inr hp))))) | exact Or.inr (Or.inr (Or.inr (Or.inr (Or.inl (Or.inl hp))))) | exact Or.inr (Or.inr (Or.inr (Or.inr (Or.inl (Or.inl (Or.inr hp)))))) | exact Or.inr (Or.inr (Or.inr (Or.inr (Or.inl (Or.inl (Or.inl hp)))))) | exact Or.inr (Or.inr (Or.inr (Or.inr (Or.inl (Or.inr (Or.inl hp)))))) | exact Or.inr (Or.inr (Or.inr (Or.inr (Or.inr (Or.inl (Or.inr hp)))))) | exact Or.inr (Or.inr (Or.inr (Or.inr (Or.inr (Or.inl (Or.inl hp)))))) | exact Or.inr (Or.inr (Or.inr (Or.inr (Or.inr (Or.inl (Or.inl (Or.inr hp))))))) | exact Or.inr (Or.inr (Or.inr (Or.inr (Or.inr (Or.inl (Or.inl (Or.inl hp))))))) | exact Or.inr (Or.inr (Or.inr (Or.inr (Or.inr (Or.inl (Or.inr (Or.inl hp))))))) | exact Or.inr (Or.inr (Or.inr (Or.inr (Or.inr (Or.inr (Or.inl (Or.inr hp))))))) | exact Or.inr (Or.inr (Or.inr (Or.inr (Or.inr (Or.inr (Or.inl (Or.inl hp))))))) | exact Or.inr (Or.inr (Or.inr (Or.inr (Or.inr (Or.inr (Or.inl (Or.inl (Or.inr hp)))))))) | exact Or.inr (Or.inr (Or.inr (Or.inr (Or.inr (Or.inr (Or.inl (Or.inl (Or.inl hp)))))))) | exact Or.inr (Or.inr (Or.inr (Or.inr (Or.inr (Or.inr (Or.inl (Or.inr (Or.inl hp)))))))) | exact Or.inr (Or.inr (Or.inr (Or.inr (Or.inr (Or.inr (Or.inr (Or.inl (Or.inr hp)))))))) | exact Or.inr (Or.inr (Or.inr (Or.inr (Or.inr (Or.inr (Or.inr (Or.inl (Or.inl hp)))))))) | exact Or.inr (Or.inr (Or.inr (Or.inr (Or.inr (Or.inr (Or.inr (Or.inl (Or.inl (Or.inr hp))))))))) | exact Or.inr (Or.inr (Or.inr (Or.inr (Or.inr (Or.inr (Or.inr (Or.inl (Or.inl (Or.inl hp))))))))) | exact Or.inr (Or.inr (Or.inr (Or.inr (Or.inr (Or.inr (Or.inr (Or.inl (Or.inr (Or.inl hp)))))))))) | simp [hp])) ?gf4 ⟨hNI, by rw [hel0], fun p hp => (hoff p hp).1⟩ ?gturn1 ?gdone1
    case gf1 =>
      intro hm
      rcases List.mem_cons.mp hm with e | hm
      · exact hIlN.2.1 e.symm
      · exact hllN.2.1 (List.mem_singleton.mp hm).symm
    case gf2 =>
      intro b hb
      rw [List.mem_singleton.mp hb]
      exact hIlN.2.2
    case gf3 =>
      intro p hp hq
      have hp' : p ∈ (D9, listOf hs.toArray n) :: (L' + 1, o1) :: (l, listOf ts.toArray n0) :: (S ++ rest) := hp
      rw [List.mem_singleton] at hq
      rcases List.mem_cons.mp hp' with rfl | hp'
      · exact hDf (by simp [← hq])
      · exact (hoff p hp').2 (by simp [hq])
    case gf4 =>
      intro p hp
      simp only [List.mem_cons, List.not_mem_nil, or_false] at hp
      rcases hp with rfl | rfl <;> rfl
    case' gturn1 =>
      intro c i v u h tk own hi hv hP hnw hown hcov hst Fw Nw
      obtain ⟨hs1, ep1, S1, or1, to1, x1, tt1⟩ := c
      obtain ⟨hNI1, hx1, hDn1⟩ := hP
      have hvm : v ∈ ts := by simpa using Array.mem_of_getElem? hv
      obtain ⟨y, ty, rfl⟩ := hS v hvm
      have hy100 : y.length ≤ 100 := hL _ hvm
      have hyi : (ts.map strOf)[n + i]? = some y := by
        rw [List.getElem?_map]
        have : ts[n + i]? = some (.str y ty) := by simpa using hv
        rw [this]; rfl
      have lN9 : News _ _ h ((D9, listOf hs1.toArray ep1) :: (L' + 1, o1) :: (l, listOf ts.toArray n0) :: (S1 ++ rest ++ own)) := fun p hp => Nw p (by
        simp only [List.mem_cons, List.mem_append] at hp ⊢
        rcases hp with hp | hp | hp | ((hp | hp) | hp) <;> first | with_reducible (first | exact Or.inl hp | exact hp | exact Or.inr (Or.inl hp) | exact Or.inr (hp) | exact Or.inr (Or.inr (Or.inl hp)) | exact Or.inr (Or.inr (hp)) | exact Or.inr (Or.inr (Or.inr (Or.inl hp))) | exact Or.inr (Or.inr (Or.inr (hp))) | exact Or.inr (Or.inr (Or.inr (Or.inr (Or.inl hp)))) | exact Or.inr (Or.inr (Or.inr (Or.inr (hp)))) | exact Or.inr (Or.inr (Or.inr (Or.inr (Or.inr (Or.inl hp))))) | exact Or.inr (Or.inr (Or.inr (Or.inr (Or.inr (hp))))) | exact Or.inr (Or.inr (Or.inr (Or.inr (Or.inr (Or.inr (Or.inl hp)))))) | exact Or.inr (Or.inr (Or.inr (Or.inr (Or.inr (Or.inr (hp)))))) | exact Or.inr (Or.inr (Or.inr (Or.inr (Or.inr (Or.inr (Or.inr (Or.inl hp))))))) | exact Or.inr (Or.inr (Or.inr (Or.inr (Or.inr (Or.inr (Or.inr (hp))))))) | exact Or.inr (Or.inr (Or.inr (Or.inr (Or.inr (Or.inr (Or.inr (Or.inr (Or.inl hp)))))))) | exact Or.inr (Or.inr (Or.inr (Or.inr (Or.inr (Or.inr (Or.inr (Or.inr (hp)))))))) | exact Or.inr (Or.inr (Or.inr (Or.inr (Or.inr (Or.inr (Or.inr (Or.inr (Or.inr (Or.inl hp))))))))) | exact Or.inr (Or.inr (Or.inr (Or.inr (Or.inr (Or.inr (Or.inr (Or.inr (Or.inr (hp))))))))) | exact Or.inl (Or.inr hp) | exact Or.inl (Or.inl hp) | exact Or.inl (Or.inl (Or.inr hp)) | exact Or.inl (Or.inl (Or.inl hp)) | exact Or.inl (Or.inr (Or.inl hp)) | exact Or.inr (Or.inl (Or.inr hp)) | exact Or.inr (Or.inl (Or.inl hp)) | exact Or.inr (Or.inl (Or.inl (Or.inr hp))) | exact Or.inr (Or.inl (Or.inl (Or.inl hp))) | exact Or.inr (Or.inl (Or.inr (Or.inl hp))) | exact Or.inr (Or.inr (Or.inl (Or.inr hp))) | exact Or.inr (Or.inr (Or.inl (Or.inl hp))) | exact Or.inr (Or.inr (Or.inl (Or.inl (Or.inr hp)))) | exact Or.inr (Or.inr (Or.inl (Or.inl (Or.inl hp)))) | exact Or.inr (Or.inr (Or.inl (Or.inr (Or.inl hp)))) | exact Or.inr (Or.inr (Or.inr (Or.inl (Or.inr hp)))) | exact Or.inr (Or.inr (Or.inr (Or.inl (Or.inl hp)))) | exact Or.inr (Or.inr (Or.inr (Or.inl (Or.inl (Or.inr hp))))) | exact Or.inr (Or.inr (Or.inr (Or.inl (Or.inl (Or.inl hp))))) | exact Or.inr (Or.inr (Or.inr (Or.inl (Or.inr (Or.inl hp))))) | exact Or.inr (Or.inr (Or.inr (Or.inr (Or.inl (Or.inr hp))))) | exact Or.inr (Or.inr (Or.inr (Or.inr (Or.inl (Or.inl hp))))) | exact Or.inr (Or.inr (Or.inr (Or.inr (Or.inl (Or.inl (Or.inr hp)))))) | exact Or.inr (Or.inr (Or.inr (Or.inr (Or.inl (Or.inl (Or.inl hp)))))) | exact Or.inr (Or.inr (Or.inr (Or.inr (Or.inl (Or.inr (Or.inl hp)))))) | exact Or.inr (Or.inr (Or.inr (Or.inr (Or.inr (Or.inl (Or.inr hp)))))) | exact Or.inr (Or.inr (Or.inr (Or.inr (Or.inr (Or.inl (Or.inl hp)))))) | exact Or.inr (Or.inr (Or.inr (Or.inr (Or.inr (Or.inl (Or.inl (Or.inr hp))))))) | exact Or.inr (Or.inr (Or.inr (Or.inr (Or.inr (Or.inl (Or.inl (Or.inl hp))))))) | exact Or.inr (Or.inr (Or.inr (Or.inr (Or.inr (Or.inl (Or.inr (Or.inl hp))))))) | exact Or.inr (Or.inr (Or.inr (Or.inr (Or.inr (Or.inr (Or.inl (Or.inr hp))))))) | exact Or.inr (Or.inr (Or.inr (Or.inr (Or.inr (Or.inr (Or.inl (Or.inl hp))))))) | exact Or.inr (Or.inr (Or.inr (Or.inr (Or.inr (Or.inr (Or.inl (Or.inl (Or.inr hp)))))))) | exact Or.inr (Or.inr (Or.inr (Or.inr (Or.inr (Or.inr (Or.inl (Or.inl (Or.inl hp)))))))) | exact Or.inr (Or.inr (Or.inr (Or.inr (Or.inr (Or.inr (Or.inl (Or.inr (Or.inl hp)))))))) | exact Or.inr (Or.inr (Or.inr (Or.inr (Or.inr (Or.inr (Or.inr (Or.inl (Or.inr hp)))))))) | exact Or.inr (Or.inr (Or.inr (Or.inr (Or.inr (Or.inr (Or.inr (Or.inl (Or.inl hp)))))))) | exact Or.inr (Or.inr (Or.inr (Or.inr (Or.inr (Or.inr (Or.inr (Or.inl (Or.inl (Or.inr hp))))))))) | exact Or.inr (Or.inr (Or.inr (Or.inr (Or.inr (Or.inr (Or.inr (Or.inl (Or.inl (Or.inl hp))))))))) | exact Or.inr (Or.inr (Or.inr (Or.inr (Or.inr (Or.inr (Or.inr (Or.inl (Or.inr (Or.inl hp)))))))))) | simp [hp])
      clear Nw
      (try dsimp only [kstB] at Fw)
      (try dsimp only at hNI1 hx1 hDn1)
      obtain ⟨oI9, hoI9, _⟩ := hst.1
      have hIown := hcov I (by first | k_mem | simp) hIlN.2.2 oI9 hoI9
      (try k_fold)
    case' gdone1 =>
      intro c u h tk hP Fw Nw
      obtain ⟨hs1, ep1, S1, or1, to1, x1, tt1⟩ := c
      obtain ⟨hNI1, hx1, hDn1⟩ := hP
      (try dsimp only [kstB] at Fw)
      (try dsimp only at Nw hNI1 hx1 hDn1)
      (try k_fold))
  k_with "GPost" => (dsimp only [GPost])
  k_with "call ref" => (
    rename Fr _ _ _ _ => lF
    rename News _ _ _ _ => lN
    refine c_escape _ _ _ _ _ _ _ _ _ _ _ _ _ _ ((D9, listOf hs1.toArray ep1) :: (L' + 1, o1) :: (l, listOf ts.toArray n0) :: (S1 ++ rest ++ own)) _ y ty _ _ B' lF X' lN T' (by rfl) (by omega) (by ktr_room) (by ktr_units) ?_
    intro h' tk' te F' N')
  k_with "call ref" => (
    rename Fr _ _ _ _ => lF
    rename News _ _ _ _ => lN
    have hlt9 : slt (esc y) (esc (elemOf S1 (hs1.getD 0 .none))) = true := by
      rw [← hx1]
      exact decide_eq_true (by assumption)
    have hFu9 : Func ((T9, triO y or1 te to1 ty) :: S1) := fun a o o' q1 q2 => News.func lN a o o' (by simp only [List.mem_cons, List.mem_append] at q1 ⊢; rcases q1 with q | q <;> first | with_reducible (first | exact Or.inl q | exact q | exact Or.inr (Or.inl q) | exact Or.inr (q) | exact Or.inr (Or.inr (Or.inl q)) | exact Or.inr (Or.inr (q)) | exact Or.inr (Or.inr (Or.inr (Or.inl q))) | exact Or.inr (Or.inr (Or.inr (q))) | exact Or.inr (Or.inr (Or.inr (Or.inr (Or.inl q)))) | exact Or.inr (Or.inr (Or.inr (Or.inr (q)))) | exact Or.inr (Or.inr (Or.inr (Or.inr (Or.inr (Or.inl q))))) | exact Or.inr (Or.inr (Or.inr (Or.inr (Or.inr (q))))) | exact Or.inr (Or.inr (Or.inr (Or.inr (Or.inr (Or.inr (Or.inl q)))))) | exact Or.inr (Or.inr (Or.inr (Or.inr (Or.inr (Or.inr (q)))))) | exact Or.inr (Or.inr (Or.inr (Or.inr (Or.inr (Or.inr (Or.inr (Or.inl q))))))) | exact Or.inr (Or.inr (Or.inr (Or.inr (Or.inr (Or.inr (Or.inr (q))))))) | exact Or.inr (Or.inr (Or.inr (Or.inr (Or.inr (Or.inr (Or.inr (Or.inr (Or.inl q)))))))) | exact Or.inr (Or.inr (Or.inr (Or.inr (Or.inr (Or.inr (Or.inr (Or.inr (q)))))))) | exact Or.inr (Or.inr (Or.inr (Or.inr (Or.inr (Or.inr (Or.inr (Or.inr (Or.inr (Or.inl q))))))))) | exact Or.inr (Or.inr (Or.inr (Or.inr (Or.inr (Or.inr (Or.inr (Or.inr (Or.inr (q))))))))) | exact Or.inl (Or.inr q) | exact Or.inl (Or.inl q) | exact Or.inl (Or.inl (Or.inr q)) | exact Or.inl (Or.inl (Or.inl q)) | exact Or.inl (Or.inr (Or.inl q)) | exact Or.inr (Or.inl (Or.inr q)) | exact Or.inr (Or.inl (Or.inl q)) | exact Or.inr (Or.inl (Or.inl (Or.inr q))) | exact Or.inr (Or.inl (Or.inl (Or.inl q))) | exact Or.inr (Or.inl (Or.inr (Or.inl q))) | exact Or.inr (Or.inr (Or.inl (Or.inr q))) | exact Or.inr (Or.inr (Or.inl (Or.inl q))) | exact Or.inr (Or.inr (Or.inl (Or.inl (Or.inr q)))) | exact Or.inr (Or.inr (Or.inl (Or.inl (Or.inl q)))) | exact Or.inr (Or.inr (Or.inl (Or.inr (Or.inl q)))) | exact Or.inr (Or.inr (Or.inr (Or.inl (Or.inr q)))) | exact Or.inr (Or.inr (Or.inr (Or.inl (Or.inl q)))) | exact Or.inr (Or.inr (Or.inr (Or.inl (Or.inl (Or.inr q))))) | exact Or.inr (Or.inr (Or.inr (Or.inl (Or.inl (Or.inl q))))) | exact Or.inr (Or.inr (Or.inr (Or.inl (Or.inr (Or.inl q))))) | exact Or.inr (Or.inr (Or.inr (Or.inr (Or.inl (Or.inr q))))) | exact Or.inr (Or.inr (Or.inr (Or.inr (Or.inl (Or.inl q))))) | exact Or.inr (Or.inr (Or.inr (Or.inr (Or.inl (Or.inl (Or.inr q)))))) | exact Or.inr (Or.inr (Or.inr (Or.inr (Or.inl (Or.inl (Or.inl q)))))) | exact Or.inr (Or.inr (Or.inr (Or.inr (Or.inl (Or.inr (Or.inl q)))))) | exact Or.inr (Or.inr (Or.inr (Or.inr (Or.inr (Or.inl (Or.inr q)))))) | exact Or.inr (Or.inr (Or.inr (Or.inr (Or.inr (Or.inl (Or.inl q)))))) | exact Or.inr (Or.inr (Or.inr (Or.inr (Or.inr (Or.inl (Or.inl (Or.inr q))))))) | exact Or.inr (Or.inr (Or.inr (Or.inr (Or.inr (Or.inl (Or.inl (Or.inl q))))))) | exact Or.inr (Or.inr (Or.inr (Or.inr (Or.inr (Or.inl (Or.inr (Or.inl q))))))) | exact Or.inr (Or.inr (Or.inr (Or.inr (Or.inr (Or.inr (Or.inl (Or.inr q))))))) | exact Or.inr (Or.inr (Or.inr (Or.inr (Or.inr (Or.inr (Or.inl (Or.inl q))))))) | exact Or.inr (Or.inr (Or.inr (Or.inr (Or.inr (Or.inr (Or.inl (Or.inl (Or.inr q)))))))) | exact Or.inr (Or.inr (Or.inr (Or.inr (Or.inr (Or.inr (Or.inl (Or.inl (Or.inl q)))))))) | exact Or.inr (Or.inr (Or.inr (Or.inr (Or.inr (Or.inr (Or.inl (Or.inr (Or.inl q)))))))) | exact Or.inr (Or.inr (Or.inr (Or.inr (Or.inr (Or.inr (Or.inr (Or.inl (Or.inr q)))))))) | exact Or.inr (Or.inr (Or.inr (Or.inr (Or.inr (Or.inr (Or.inr (Or.inl (Or.inl q)))))))) | exact Or.inr (Or.inr (Or.inr (Or.inr (Or.inr (Or.inr (Or.inr (Or.inl (Or.inl (Or.inr q))))))))) | exact Or.inr (Or.inr (Or.inr (Or.inr (Or.inr (Or.inr (Or.inr (Or.inl (Or.inl (Or.inl q))))))))) | exact Or.inr (Or.inr (Or.inr (Or.inr (Or.inr (Or.inr (Or.inr (Or.inl (Or.inr (Or.inl q)))))))))) | simp [q]) (by simp only [List.mem_cons, List.mem_append] at q2 ⊢; rcases q2 with q | q <;> first | with_reducible (first | exact Or.inl q | exact q | exact Or.inr (Or.inl q) | exact Or.inr (q) | exact Or.inr (Or.inr (Or.inl q)) | exact Or.inr (Or.inr (q)) | exact Or.inr (Or.inr (Or.inr (Or.inl q))) | exact Or.inr (Or.inr (Or.inr (q))) | exact Or.inr (Or.inr (Or.inr (Or.inr (Or.inl q)))) | exact Or.inr (Or.inr (Or.inr (Or.inr (q)))) | exact Or.inr (Or.inr (Or.inr (Or.inr (Or.inr (Or.inl q))))) | exact Or.inr (Or.inr (Or.inr (Or.inr (Or.inr (q))))) | exact Or.inr (Or.inr (Or.inr (Or.inr (Or.inr (Or.inr (Or.inl q)))))) | exact Or.inr (Or.inr (Or.inr (Or.inr (Or.inr (Or.inr (q)))))) | exact Or.inr (Or.inr (Or.inr (Or.inr (Or.inr (Or.inr (Or.inr (Or.inl q))))))) | exact Or.inr (Or.inr (Or.inr (Or.inr (Or.inr (Or.inr (Or.inr (q))))))) | exact Or.inr (Or.inr (Or.inr (Or.inr (Or.inr (Or.inr (Or.inr (Or.inr (Or.inl q)))))))) | exact Or.inr (Or.inr (Or.inr (Or.inr (Or.inr (Or.inr (Or.inr (Or.inr (q)))))))) | exact Or.inr (Or.inr (Or.inr (Or.inr (Or.inr (Or.inr (Or.inr (Or.inr (Or.inr (Or.inl q))))))))) | exact Or.inr (Or.inr (Or.inr (Or.inr (Or.inr (Or.inr (Or.inr (Or.inr (Or.inr (q))))))))) | exact Or.inl (Or.inr q) | exact Or.inl (Or.inl q) | exact Or.inl (Or.inl (Or.inr q)) | exact Or.inl (Or.inl (Or.inl q)) | exact Or.inl (Or.inr (Or.inl q)) | exact Or.inr (Or.inl (Or.inr q)) | exact Or.inr (Or.inl (Or.inl q)) | exact Or.inr (Or.inl (Or.inl (Or.inr q))) | exact Or.inr (Or.inl (Or.inl (Or.inl q))) | exact Or.inr (Or.inl (Or.inr (Or.inl q))) | exact Or.inr (Or.inr (Or.inl (Or.inr q))) | exact Or.inr (Or.inr (Or.inl (Or.inl q))) | exact Or.inr (Or.inr (Or.inl (Or.inl (Or.inr q)))) | exact Or.inr (Or.inr (Or.inl (Or.inl (Or.inl q)))) | exact Or.inr (Or.inr (Or.inl (Or.inr (Or.inl q)))) | exact Or.inr (Or.inr (Or.inr (Or.inl (Or.inr q)))) | exact Or.inr (Or.inr (Or.inr (Or.inl (Or.inl q)))) | exact Or.inr (Or.inr (Or.inr (Or.inl (Or.inl (Or.inr q))))) | exact Or.inr (Or.inr (Or.inr (Or.inl (Or.inl (Or.inl q))))) | exact Or.inr (Or.inr (Or.inr (Or.inl (Or.inr (Or.inl q))))) | exact Or.inr (Or.inr (Or.inr (Or.inr (Or.inl (Or.inr q))))) | exact Or.inr (Or.inr (Or.inr (Or.inr (Or.inl (Or.inl q))))) | exact Or.inr (Or.inr (Or.inr (Or.inr (Or.inl (Or.inl (Or.inr q)))))) | exact Or.inr (Or.inr (Or.inr (Or.inr (Or.inl (Or.inl (Or.inl q)))))) | exact Or.inr (Or.inr (Or.inr (Or.inr (Or.inl (Or.inr (Or.inl q)))))) | exact Or.inr (Or.inr (Or.inr (Or.inr (Or.inr (Or.inl (Or.inr q)))))) | exact Or.inr (Or.inr (Or.inr (Or.inr (Or.inr (Or.inl (Or.inl q)))))) | exact Or.inr (Or.inr (Or.inr (Or.inr (Or.inr (Or.inl (Or.inl (Or.inr q))))))) | exact Or.inr (Or.inr (Or.inr (Or.inr (Or.inr (Or.inl (Or.inl (Or.inl q))))))) | exact Or.inr (Or.inr (Or.inr (Or.inr (Or.inr (Or.inl (Or.inr (Or.inl q))))))) | exact Or.inr (Or.inr (Or.inr (Or.inr (Or.inr (Or.inr (Or.inl (Or.inr q))))))) | exact Or.inr (Or.inr (Or.inr (Or.inr (Or.inr (Or.inr (Or.inl (Or.inl q))))))) | exact Or.inr (Or.inr (Or.inr (Or.inr (Or.inr (Or.inr (Or.inl (Or.inl (Or.inr q)))))))) | exact Or.inr (Or.inr (Or.inr (Or.inr (Or.inr (Or.inr (Or.inl (Or.inl (Or.inl q)))))))) | exact Or.inr (Or.inr (Or.inr (Or.inr (Or.inr (Or.inr (Or.inl (Or.inr (Or.inl q)))))))) | exact Or.inr (Or.inr (Or.inr (Or.inr (Or.inr (Or.inr (Or.inr (Or.inl (Or.inr q)))))))) | exact Or.inr (Or.inr (Or.inr (Or.inr (Or.inr (Or.inr (Or.inr (Or.inl (Or.inl q)))))))) | exact Or.inr (Or.inr (Or.inr (Or.inr (Or.inr (Or.inr (Or.inr (Or.inl (Or.inl (Or.inr q))))))))) | exact Or.inr (Or.inr (Or.inr (Or.inr (Or.inr (Or.inr (Or.inr (Or.inl (Or.inl (Or.inl q))))))))) | exact Or.inr (Or.inr (Or.inr (Or.inr (Or.inr (Or.inr (Or.inr (Or.inl (Or.inr (Or.inl q)))))))))) | simp [q])
    have lN' : News _ _ _ ((D9, listOf hs1.toArray ep1) :: (T9, triO y or1 te to1 ty) :: (L' + 1, o1) :: (l, listOf ts.toArray n0) :: (S1 ++ rest ++ own)) := fun p hp => lN p (by simp only [List.mem_cons] at hp ⊢; rcases hp with hp | hp | hp | hp | hp <;> first | with_reducible (first | exact Or.inl hp | exact hp | exact Or.inr (Or.inl hp) | exact Or.inr (hp) | exact Or.inr (Or.inr (Or.inl hp)) | exact Or.inr (Or.inr (hp)) | exact Or.inr (Or.inr (Or.inr (Or.inl hp))) | exact Or.inr (Or.inr (Or.inr (hp))) | exact Or.inr (Or.inr (Or.inr (Or.inr (Or.inl hp)))) | exact Or.inr (Or.inr (Or.inr (Or.inr (hp)))) | exact Or.inr (Or.inr (Or.inr (Or.inr (Or.inr (Or.inl hp))))) | exact Or.inr (Or.inr (Or.inr (Or.inr (Or.inr (hp))))) | exact Or.inr (Or.inr (Or.inr (Or.inr (Or.inr (Or.inr (Or.inl hp)))))) | exact Or.inr (Or.inr (Or.inr (Or.inr (Or.inr (Or.inr (hp)))))) | exact Or.inr (Or.inr (Or.inr (Or.inr (Or.inr (Or.inr (Or.inr (Or.inl hp))))))) | exact Or.inr (Or.inr (Or.inr (Or.inr (Or.inr (Or.inr (Or.inr (hp))))))) | exact Or.inr (Or.inr (Or.inr (Or.inr (Or.inr (Or.inr (Or.inr (Or.inr (Or.inl hp)))))))) | exact Or.inr (Or.inr (Or.inr (Or.inr (Or.inr (Or.inr (Or.inr (Or.inr (hp)))))))) | exact Or.inr (Or.inr (Or.inr (Or.inr (Or.inr (Or.inr (Or.inr (Or.inr (Or.inr (Or.inl hp))))))))) | exact Or.inr (Or.inr (Or.inr (Or.inr (Or.inr (Or.inr (Or.inr (Or.inr (Or.inr (hp))))))))) | exact Or.inl (Or.inr hp) | exact Or.inl (Or.inl hp) | exact Or.inl (Or.inl (Or.inr hp)) | exact Or.inl (Or.inl (Or.inl hp)) | exact Or.inl (Or.inr (Or.inl hp)) | exact Or.inr (Or.inl (Or.inr hp)) | exact Or.inr (Or.inl (Or.inl hp)) | exact Or.inr (Or.inl (Or.inl (Or.inr hp))) | exact Or.inr (Or.inl (Or.inl (Or.inl hp))) | exact Or.inr (Or.inl (Or.inr (Or.inl hp))) | exact Or.inr (Or.inr (Or.inl (Or.inr hp))) | exact Or.inr (Or.inr (Or.inl (Or.inl hp))) | exact Or.inr (Or.inr (Or.inl (Or.inl (Or.inr hp)))) | exact Or.inr (Or.inr (Or.inl (Or.inl (Or.inl hp)))) | exact Or.inr (Or.inr (Or.inl (Or.inr (Or.inl hp)))) | exact Or.inr (Or.inr (Or.inr (Or.inl (Or.inr hp)))) | exact Or.inr (Or.inr (Or.inr (Or.inl (Or.inl hp)))) | exact Or.inr (Or.inr (Or.inr (Or.inl (Or.inl (Or.inr hp))))) | exact Or.inr (Or.inr (Or.inr (Or.inl (Or.inl (Or.inl hp))))) | exact Or.inr (Or.inr (Or.inr (Or.inl (Or.inr (Or.inl hp))))) | exact Or.inr (Or.inr (Or.inr (Or.inr (Or.inl (Or.inr hp))))) | exact Or.inr (Or.inr (Or.inr (Or.inr (Or.inl (Or.inl hp))))) | exact Or.inr (Or.inr (Or.inr (Or.inr (Or.inl (Or.inl (Or.inr hp)))))) | exact Or.inr (Or.inr (Or.inr (Or.inr (Or.inl (Or.inl (Or.inl hp)))))) | exact Or.inr (Or.inr (Or.inr (Or.inr (Or.inl (Or.inr (Or.inl hp)))))) | exact Or.inr (Or.inr (Or.inr (Or.inr (Or.inr (Or.inl (Or.inr hp)))))) | exact Or.inr (Or.inr (Or.inr (Or.inr (Or.inr (Or.inl (Or.inl hp)))))) | exact Or.inr (Or.inr (Or.inr (Or.inr (Or.inr (Or.inl (Or.inl (Or.inr hp))))))) | exact Or.inr (Or.inr (Or.inr (Or.inr (Or.inr (Or.inl (Or.inl (Or.inl hp))))))) | exact Or.inr (Or.inr (Or.inr (Or.inr (Or.inr (Or.inl (Or.inr (Or.inl hp))))))) | exact Or.inr (Or.inr (Or.inr (Or.inr (Or.inr (Or.inr (Or.inl (Or.inr hp))))))) | exact Or.inr (Or.inr (Or.inr (Or.inr (Or.inr (Or.inr (Or.inl (Or.inl hp))))))) | exact Or.inr (Or.inr (Or.inr (Or.inr (Or.inr (Or.inr (Or.inl (Or.inl (Or.inr hp)))))))) | exact Or.inr (Or.inr (Or.inr (Or.inr (Or.inr (Or.inr (Or.inl (Or.inl (Or.inl hp)))))))) | exact Or.inr (Or.inr (Or.inr (Or.inr (Or.inr (Or.inr (Or.inl (Or.inr (Or.inl hp)))))))) | exact Or.inr (Or.inr (Or.inr (Or.inr (Or.inr (Or.inr (Or.inr (Or.inl (Or.inr hp)))))))) | exact Or.inr (Or.inr (Or.inr (Or.inr (Or.inr (Or.inr (Or.inr (Or.inl (Or.inl hp)))))))) | exact Or.inr (Or.inr (Or.inr (Or.inr (Or.inr (Or.inr (Or.inr (Or.inl (Or.inl (Or.inr hp))))))))) | exact Or.inr (Or.inr (Or.inr (Or.inr (Or.inr (Or.inr (Or.inr (Or.inl (Or.inl (Or.inl hp))))))))) | exact Or.inr (Or.inr (Or.inr (Or.inr (Or.inr (Or.inr (Or.inr (Or.inl (Or.inr (Or.inl hp)))))))))) | (simp [hp]; done) | (simp only [hp, or_true, true_or]))
    have hSN9 : ∀ p ∈ (T9, triO y or1 te to1 ty) :: S1, p ∈ ((T9, triO y or1 te to1 ty) :: (L' + 1, o1) :: (l, listOf ts.toArray n0) :: (S1 ++ rest ++ own) : List (Addr × Obj)) := fun p hp => by
      simp only [List.mem_cons, List.mem_append] at hp ⊢
      rcases hp with hp | hp <;> first | with_reducible (first | exact Or.inl hp | exact hp | exact Or.inr (Or.inl hp) | exact Or.inr (hp) | exact Or.inr (Or.inr (Or.inl hp)) | exact Or.inr (Or.inr (hp)) | exact Or.inr (Or.inr (Or.inr (Or.inl hp))) | exact Or.inr (Or.inr (Or.inr (hp))) | exact Or.inr (Or.inr (Or.inr (Or.inr (Or.inl hp)))) | exact Or.inr (Or.inr (Or.inr (Or.inr (hp)))) | exact Or.inr (Or.inr (Or.inr (Or.inr (Or.inr (Or.inl hp))))) | exact Or.inr (Or.inr (Or.inr (Or.inr (Or.inr (hp))))) | exact Or.inr (Or.inr (Or.inr (Or.inr (Or.inr (Or.inr (Or.inl hp)))))) | exact Or.inr (Or.inr (Or.inr (Or.inr (Or.inr (Or.inr (hp)))))) | exact Or.inr (Or.inr (Or.inr (Or.inr (Or.inr (Or.inr (Or.inr (Or.inl hp))))))) | exact Or.inr (Or.inr (Or.inr (Or.inr (Or.inr (Or.inr (Or.inr (hp))))))) | exact Or.inr (Or.inr (Or.inr (Or.inr (Or.inr (Or.inr (Or.inr (Or.inr (Or.inl hp)))))))) | exact Or.inr (Or.inr (Or.inr (Or.inr (Or.inr (Or.inr (Or.inr (Or.inr (hp)))))))) | exact Or.inr (Or.inr (Or.inr (Or.inr (Or.inr (Or.inr (Or.inr (Or.inr (Or.inr (Or.inl hp))))))))) | exact Or.inr (Or.inr (Or.inr (Or.inr (Or.inr (Or.inr (Or.inr (Or.inr (Or.inr (hp))))))))) | exact Or.inl (Or.inr hp) | exact Or.inl (Or.inl hp) | exact Or.inl (Or.inl (Or.inr hp)) | exact Or.inl (Or.inl (Or.inl hp)) | exact Or.inl (Or.inr (Or.inl hp)) | exact Or.inr (Or.inl (Or.inr hp)) | exact Or.inr (Or.inl (Or.inl hp)) | exact Or.inr (Or.inl (Or.inl (Or.inr hp))) | exact Or.inr (Or.inl (Or.inl (Or.inl hp))) | exact Or.inr (Or.inl (Or.inr (Or.inl hp))) | exact Or.inr (Or.inr (Or.inl (Or.inr hp))) | exact Or.inr (Or.inr (Or.inl (Or.inl hp))) | exact Or.inr (Or.inr (Or.inl (Or.inl (Or.inr hp)))) | exact Or.inr (Or.inr (Or.inl (Or.inl (Or.inl hp)))) | exact Or.inr (Or.inr (Or.inl (Or.inr (Or.inl hp)))) | exact Or.inr (Or.inr (Or.inr (Or.inl (Or.inr hp)))) | exact Or.inr (Or.inr (Or.inr (Or.inl (Or.inl hp)))) | exact Or.inr (Or.inr (Or.inr (Or.inl (Or.inl (Or.inr hp))))) | exact Or.inr (Or.inr (Or.inr (Or.inl (Or.inl (Or.inl hp))))) | exact Or.inr (Or.inr (Or.inr (Or.inl (Or.inr (Or.inl hp))))) | exact Or.inr (Or.inr (Or.inr (Or.inr (Or.inl (Or.inr hp))))) | exact Or.inr (Or.inr (Or.inr (Or.inr (Or.inl (Or.inl hp))))) | exact Or.inr (Or.inr (Or.inr (Or.inr (Or.inl (Or.inl (Or.inr hp)))))) | exact Or.inr (Or.inr (Or.inr (Or.inr (Or.inl (Or.inl (Or.inl hp)))))) | exact Or.inr (Or.inr (Or.inr (Or.inr (Or.inl (Or.inr (Or.inl hp)))))) | exact Or.inr (Or.inr (Or.inr (Or.inr (Or.inr (Or.inl (Or.inr hp)))))) | exact Or.inr (Or.inr (Or.inr (Or.inr (Or.inr (Or.inl (Or.inl hp)))))) | exact Or.inr (Or.inr (Or.inr (Or.inr (Or.inr (Or.inl (Or.inl (Or.inr hp))))))) | exact Or.inr (Or.inr (Or.inr (Or.inr (Or.inr (Or.inl (Or.inl (Or.inl hp))))))) | exact Or.inr (Or.inr (Or.inr (Or.inr (Or.inr (Or.inl (Or.inr (Or.inl hp))))))) | exact Or.inr (Or.inr (Or.inr (Or.inr (Or.inr (Or.inr (Or.inl (Or.inr hp))))))) | exact Or.inr (Or.inr (Or.inr (Or.inr (Or.inr (Or.inr (Or.inl (Or.inl hp))))))) | exact Or.inr (Or.inr (Or.inr (Or.inr (Or.inr (Or.inr (Or.inl (Or.inl (Or.inr hp)))))))) | exact Or.inr (Or.inr (Or.inr (Or.inr (Or.inr (Or.inr (Or.inl (Or.inl (Or.inl hp)))))))) | exact Or.inr (Or.inr (Or.inr (Or.inr (Or.inr (Or.inr (Or.inl (Or.inr (Or.inl hp)))))))) | exact Or.inr (Or.inr (Or.inr (Or.inr (Or.inr (Or.inr (Or.inr (Or.inl (Or.inr hp)))))))) | exact Or.inr (Or.inr (Or.inr (Or.inr (Or.inr (Or.inr (Or.inr (Or.inl (Or.inl hp)))))))) | exact Or.inr (Or.inr (Or.inr (Or.inr (Or.inr (Or.inr (Or.inr (Or.inl (Or.inl (Or.inr hp))))))))) | exact Or.inr (Or.inr (Or.inr (Or.inr (Or.inr (Or.inr (Or.inr (Or.inl (Or.inl (Or.inl hp))))))))) | exact Or.inr (Or.inr (Or.inr (Or.inr (Or.inr (Or.inr (Or.inr (Or.inl (Or.inr (Or.inl hp)))))))))) | simp [hp]
    have hT9 : TriAt ((T9, triO y or1 te to1 ty) :: S1) (.ref T9) (or1, y) := ⟨_, _, _, _, rfl, List.mem_cons_self ..⟩
    have hP9' : ∀ v ∈ hs1, ∃ d, TriAt ((T9, triO y or1 te to1 ty) :: S1) v d := fun v hv => by
      obtain ⟨d, hd⟩ := hNI1.1 v hv
      exact ⟨d, hd.more fun p hp => List.mem_cons_of_mem _ hp⟩
    have hlen9 : hs1.length = n := hNI1.2.2.1
    have hNI2 := nInv_step hFu9 (fun p hp => List.mem_cons_of_mem _ hp) hNI1 hn0 hyi hT9 hlt9
    have hIT9 : T9 ≠ I := Nat.ne_of_gt (ltT9 (I, oI9) (by simp [hIown]))
    have hDT9 : T9 ≠ D9 := Nat.ne_of_gt (ltT9 (D9, listOf hs1.toArray ep1) (by first | k_mem | simp))
    have hDne : ∀ p ∈ ((L' + 1, o1) :: (l, listOf ts.toArray n0) :: (S1 ++ rest ++ own) : List (Addr × Obj)), p.1 ≠ D9 := by
      intro p hp
      have hp' : p ∈ (L' + 1, o1) :: (l, listOf ts.toArray n0) :: (S1 ++ rest) ∨ p ∈ own := by
        simp only [List.mem_cons, List.mem_append] at hp ⊢
        rcases hp with q | q | (q | q) | q <;> first | with_reducible (first | exact Or.inl q | exact q | exact Or.inr (Or.inl q) | exact Or.inr (q) | exact Or.inr (Or.inr (Or.inl q)) | exact Or.inr (Or.inr (q)) | exact Or.inr (Or.inr (Or.inr (Or.inl q))) | exact Or.inr (Or.inr (Or.inr (q))) | exact Or.inr (Or.inr (Or.inr (Or.inr (Or.inl q)))) | exact Or.inr (Or.inr (Or.inr (Or.inr (q)))) | exact Or.inr (Or.inr (Or.inr (Or.inr (Or.inr (Or.inl q))))) | exact Or.inr (Or.inr (Or.inr (Or.inr (Or.inr (q))))) | exact Or.inr (Or.inr (Or.inr (Or.inr (Or.inr (Or.inr (Or.inl q)))))) | exact Or.inr (Or.inr (Or.inr (Or.inr (Or.inr (Or.inr (q)))))) | exact Or.inr (Or.inr (Or.inr (Or.inr (Or.inr (Or.inr (Or.inr (Or.inl q))))))) | exact Or.inr (Or.inr (Or.inr (Or.inr (Or.inr (Or.inr (Or.inr (q))))))) | exact Or.inr (Or.inr (Or.inr (Or.inr (Or.inr (Or.inr (Or.inr (Or.inr (Or.inl q)))))))) | exact Or.inr (Or.inr (Or.inr (Or.inr (Or.inr (Or.inr (Or.inr (Or.inr (q)))))))) | exact Or.inr (Or.inr (Or.inr (Or.inr (Or.inr (Or.inr (Or.inr (Or.inr (Or.inr (Or.inl q))))))))) | exact Or.inr (Or.inr (Or.inr (Or.inr (Or.inr (Or.inr (Or.inr (Or.inr (Or.inr (q))))))))) | exact Or.inl (Or.inr q) | exact Or.inl (Or.inl q) | exact Or.inl (Or.inl (Or.inr q)) | exact Or.inl (Or.inl (Or.inl q)) | exact Or.inl (Or.inr (Or.inl q)) | exact Or.inr (Or.inl (Or.inr q)) | exact Or.inr (Or.inl (Or.inl q)) | exact Or.inr (Or.inl (Or.inl (Or.inr q))) | exact Or.inr (Or.inl (Or.inl (Or.inl q))) | exact Or.inr (Or.inl (Or.inr (Or.inl q))) | exact Or.inr (Or.inr (Or.inl (Or.inr q))) | exact Or.inr (Or.inr (Or.inl (Or.inl q))) | exact Or.inr (Or.inr (Or.inl (Or.inl (Or.inr q)))) | exact Or.inr (Or.inr (Or.inl (Or.inl (Or.inl q)))) | exact Or.inr (Or.inr (Or.inl (Or.inr (Or.inl q)))) | exact Or.inr (Or.inr (Or.inr (Or.inl (Or.inr q)))) | exact Or.inr (Or.inr (Or.inr (Or.inl (Or.inl q)))) | exact Or.inr (Or.inr (Or.inr (Or.inl (Or.inl (Or.inr q))))) | exact Or.inr (Or.inr (Or.inr (Or.inl (Or.inl (Or.inl q))))) | exact Or.inr (Or.inr (Or.inr (Or.inl (Or.inr (Or.inl q))))) | exact Or.inr (Or.inr (Or.inr (Or.inr (Or.inl (Or.inr q))))) | exact Or.inr (Or.inr (Or.inr (Or.inr (Or.inl (Or.inl q))))) | exact Or.inr (Or.inr (Or.inr (Or.inr (Or.inl (Or.inl (Or.inr q)))))) | exact Or.inr (Or.inr (Or.inr (Or.inr (Or.inl (Or.inl (Or.inl q)))))) | exact Or.inr (Or.inr (Or.inr (Or.inr (Or.inl (Or.inr (Or.inl q)))))) | exact Or.inr (Or.inr (Or.inr (Or.inr (Or.inr (Or.inl (Or.inr q)))))) | exact Or.inr (Or.inr (Or.inr (Or.inr (Or.inr (Or.inl (Or.inl q)))))) | exact Or.inr (Or.inr (Or.inr (Or.inr (Or.inr (Or.inl (Or.inl (Or.inr q))))))) | exact Or.inr (Or.inr (Or.inr (Or.inr (Or.inr (Or.inl (Or.inl (Or.inl q))))))) | exact Or.inr (Or.inr (Or.inr (Or.inr (Or.inr (Or.inl (Or.inr (Or.inl q))))))) | exact Or.inr (Or.inr (Or.inr (Or.inr (Or.inr (Or.inr (Or.inl (Or.inr q))))))) | exact Or.inr (Or.inr (Or.inr (Or.inr (Or.inr (Or.inr (Or.inl (Or.inl q))))))) | exact Or.inr (Or.inr (Or.inr (Or.inr (Or.inr (Or.inr (Or.inl (Or.inl (Or.inr q)))))))) | exact Or.inr (Or.inr (Or.inr (Or.inr (Or.inr (Or.inr (Or.inl (Or.inl (Or.inl q)))))))) | exact Or.inr (Or.inr (Or.inr (Or.inr (Or.inr (Or.inr (Or.inl (Or.inr (Or.inl q)))))))) | exact Or.inr (Or.inr (Or.inr (Or.inr (Or.inr (Or.inr (Or.inr (Or.inl (Or.inr q)))))))) | exact Or.inr (Or.inr (Or.inr (Or.inr (Or.inr (Or.inr (Or.inr (Or.inl (Or.inl q)))))))) | exact Or.inr (Or.inr (Or.inr (Or.inr (Or.inr (Or.inr (Or.inr (Or.inl (Or.inl (Or.inr q))))))))) | exact Or.inr (Or.inr (Or.inr (Or.inr (Or.inr (Or.inr (Or.inr (Or.inl (Or.inl (Or.inl q))))))))) | exact Or.inr (Or.inr (Or.inr (Or.inr (Or.inr (Or.inr (Or.inr (Or.inl (Or.inr (Or.inl q)))))))))) | simp [q]
      rcases hp' with q | q
      · exact hDn1 p q
      · intro e
        have := hown p q
        simp only [List.mem_cons, List.not_mem_nil, or_false] at this
        exact hDf (by rw [← e]; rcases this with q | q <;> first | with_reducible (first | exact Or.inl q | exact q | exact Or.inr (Or.inl q) | exact Or.inr (q) | exact Or.inr (Or.inr (Or.inl q)) | exact Or.inr (Or.inr (q)) | exact Or.inr (Or.inr (Or.inr (Or.inl q))) | exact Or.inr (Or.inr (Or.inr (q))) | exact Or.inr (Or.inr (Or.inr (Or.inr (Or.inl q)))) | exact Or.inr (Or.inr (Or.inr (Or.inr (q)))) | exact Or.inr (Or.inr (Or.inr (Or.inr (Or.inr (Or.inl q))))) | exact Or.inr (Or.inr (Or.inr (Or.inr (Or.inr (q))))) | exact Or.inr (Or.inr (Or.inr (Or.inr (Or.inr (Or.inr (Or.inl q)))))) | exact Or.inr (Or.inr (Or.inr (Or.inr (Or.inr (Or.inr (q)))))) | exact Or.inr (Or.inr (Or.inr (Or.inr (Or.inr (Or.inr (Or.inr (Or.inl q))))))) | exact Or.inr (Or.inr (Or.inr (Or.inr (Or.inr (Or.inr (Or.inr (q))))))) | exact Or.inr (Or.inr (Or.inr (Or.inr (Or.inr (Or.inr (Or.inr (Or.inr (Or.inl q)))))))) | exact Or.inr (Or.inr (Or.inr (Or.inr (Or.inr (Or.inr (Or.inr (Or.inr (q)))))))) | exact Or.inr (Or.inr (Or.inr (Or.inr (Or.inr (Or.inr (Or.inr (Or.inr (Or.inr (Or.inl q))))))))) | exact Or.inr (Or.inr (Or.inr (Or.inr (Or.inr (Or.inr (Or.inr (Or.inr (Or.inr (q))))))))) | exact Or.inl (Or.inr q) | exact Or.inl (Or.inl q) | exact Or.inl (Or.inl (Or.inr q)) | exact Or.inl (Or.inl (Or.inl q)) | exact Or.inl (Or.inr (Or.inl q)) | exact Or.inr (Or.inl (Or.inr q)) | exact Or.inr (Or.inl (Or.inl q)) | exact Or.inr (Or.inl (Or.inl (Or.inr q))) | exact Or.inr (Or.inl (Or.inl (Or.inl q))) | exact Or.inr (Or.inl (Or.inr (Or.inl q))) | exact Or.inr (Or.inr (Or.inl (Or.inr q))) | exact Or.inr (Or.inr (Or.inl (Or.inl q))) | exact Or.inr (Or.inr (Or.inl (Or.inl (Or.inr q)))) | exact Or.inr (Or.inr (Or.inl (Or.inl (Or.inl q)))) | exact Or.inr (Or.inr (Or.inl (Or.inr (Or.inl q)))) | exact Or.inr (Or.inr (Or.inr (Or.inl (Or.inr q)))) | exact Or.inr (Or.inr (Or.inr (Or.inl (Or.inl q)))) | exact Or.inr (Or.inr (Or.inr (Or.inl (Or.inl (Or.inr q))))) | exact Or.inr (Or.inr (Or.inr (Or.inl (Or.inl (Or.inl q))))) | exact Or.inr (Or.inr (Or.inr (Or.inl (Or.inr (Or.inl q))))) | exact Or.inr (Or.inr (Or.inr (Or.inr (Or.inl (Or.inr q))))) | exact Or.inr (Or.inr (Or.inr (Or.inr (Or.inl (Or.inl q))))) | exact Or.inr (Or.inr (Or.inr (Or.inr (Or.inl (Or.inl (Or.inr q)))))) | exact Or.inr (Or.inr (Or.inr (Or.inr (Or.inl (Or.inl (Or.inl q)))))) | exact Or.inr (Or.inr (Or.inr (Or.inr (Or.inl (Or.inr (Or.inl q)))))) | exact Or.inr (Or.inr (Or.inr (Or.inr (Or.inr (Or.inl (Or.inr q)))))) | exact Or.inr (Or.inr (Or.inr (Or.inr (Or.inr (Or.inl (Or.inl q)))))) | exact Or.inr (Or.inr (Or.inr (Or.inr (Or.inr (Or.inl (Or.inl (Or.inr q))))))) | exact Or.inr (Or.inr (Or.inr (Or.inr (Or.inr (Or.inl (Or.inl (Or.inl q))))))) | exact Or.inr (Or.inr (Or.inr (Or.inr (Or.inr (Or.inl (Or.inr (Or.inl q))))))) | exact Or.inr (Or.inr (Or.inr (Or.inr (Or.inr (Or.inr (Or.inl (Or.inr q))))))) | exact Or.inr (Or.inr (Or.inr (Or.inr (Or.inr (Or.inr (Or.inl (Or.inl q))))))) | exact Or.inr (Or.inr (Or.inr (Or.inr (Or.inr (Or.inr (Or.inl (Or.inl (Or.inr q)))))))) | exact Or.inr (Or.inr (Or.inr (Or.inr (Or.inr (Or.inr (Or.inl (Or.inl (Or.inl q)))))))) | exact Or.inr (Or.inr (Or.inr (Or.inr (Or.inr (Or.inr (Or.inl (Or.inr (Or.inl q)))))))) | exact Or.inr (Or.inr (Or.inr (Or.inr (Or.inr (Or.inr (Or.inr (Or.inl (Or.inr q)))))))) | exact Or.inr (Or.inr (Or.inr (Or.inr (Or.inr (Or.inr (Or.inr (Or.inl (Or.inl q)))))))) | exact Or.inr (Or.inr (Or.inr (Or.inr (Or.inr (Or.inr (Or.inr (Or.inl (Or.inl (Or.inr q))))))))) | exact Or.inr (Or.inr (Or.inr (Or.inr (Or.inr (Or.inr (Or.inr (Or.inl (Or.inl (Or.inl q))))))))) | exact Or.inr (Or.inr (Or.inr (Or.inr (Or.inr (Or.inr (Or.inr (Or.inl (Or.inr (Or.inl q)))))))))) | simp [q])
    have hDl9 : ∀ p ∈ ((T9, triO y or1 te to1 ty) :: (L' + 1, o1) :: (l, listOf ts.toArray n0) :: (S1 ++ rest ++ own) : List (Addr × Obj)), p.1 ≠ D9 := by
      intro p hp
      rcases List.mem_cons.mp hp with rfl | hp
      · exact Nat.ne_of_gt (ltT9 (D9, listOf hs1.toArray ep1) (by first | k_mem | simp))
      · exact hDne p hp
    refine c_heapreplace_max _ _ _ _ _ _ _ _ _ _ _ _ _ _ ((T9, triO y or1 te to1 ty) :: (L' + 1, o1) :: (l, listOf ts.toArray n0) :: (S1 ++ rest ++ own)) _ (fun v => ∃ d, TriAt ((T9, triO y or1 te to1 ty) :: S1) v d) (triV ((T9, triO y or1 te to1 ty) :: S1)) D9 ep1 hs1 (.ref T9) _ _ B' lF X' lN' T' (by rfl) ((cmpSpec_tri hFu9).more hSN9) hDl9 hP9' ⟨_, hT9⟩ (by omega) (by omega) (by ktr_room) (by ktr_units) ?_
    generalize sup (fun a b => triV ((T9, triO y or1 te to1 ty) :: S1) b a) 0 (hs1.set 0 (.ref T9)) = hs2 at hNI2
    obtain ⟨d2, hd2⟩ := hNI2.1 _ (getD_mem (vs := hs2) (i := 0) (by rw [hNI2.2.2.1]; exact hn0))
    have hel2 : elemOf ((T9, triO y or1 te to1 ty) :: S1) (hs2.getD 0 .none) = d2.2 := by unfold elemOf; rw [dec_eq hFu9 hd2]
    obtain ⟨a2, sa, sb, sc, ha2, hm2⟩ := hd2
    have hhsl2 : hs2.length = n := hNI2.2.2.1
    clear lN' lN lF
    intro h' tk' F' N')
  k_with "assign Tuple" => (
    rename Fr _ _ _ _ => lF
    rename News _ _ _ _ => lN
    show wpAny _ _ (assign _ _ (hs2.getD 0 .none)) _ _ _
    rw [ha2]
    refine unpackN_ (items := #[.str (esc d2.2) sa, .int (d2.1 : Int) sb, .str d2.2 sc]) lF lN (News.isTup (n := 0) lN (List.mem_cons_of_mem _ (hSN9 _ hm2))) (by rfl) (by rfl) (by rfl) ?_
    intro h' F' N')
  k_with "GEnd" => (
    rename Fr _ _ _ _ => lF
    rename News _ _ _ _ => lN
    first
    | (refine' g_end (hs2, ep1, (T9, triO y or1 te to1 ty) :: S1, or1 + 1, ?to, esc d2.2, sa) lF lN ?ha ?hb ?hc ?hd ?he ⟨hNI2, ?hf, ?hg⟩
       case hd =>
         intro p hp
         simp only [List.mem_cons, List.not_mem_nil, or_false] at hp
         rcases hp with rfl | rfl
         · rfl
         · exact ord_eq (by rfl)
       case hf => (dsimp only; rw [hel2])
       case hg =>
         intro p hp
         have hp' : p ∈ (L' + 1, o1) :: (l, listOf ts.toArray n0) :: (((T9, triO y or1 te to1 ty) :: S1) ++ rest) := hp
         simp only [List.mem_cons, List.mem_append, List.cons_append] at hp'
         rcases hp' with q | q | rfl | q | q
         · exact hDn1 p (by simp [q])
         · exact hDn1 p (by simp [q])
         · exact hDT9
         · exact hDn1 p (by simp [q])
         · exact hDn1 p (by simp [q])
       case ha =>
         intro p hp
         have hp' : p ∈ (D9, listOf hs2.toArray ep1) :: (L' + 1, o1) :: (l, listOf ts.toArray n0) :: (((T9, triO y or1 te to1 ty) :: S1) ++ rest) := hp
         simp only [List.mem_cons, List.mem_append, List.cons_append] at hp' ⊢
         rcases hp' with q | q | q | q | q | q <;> first | with_reducible (first | exact Or.inl q | exact q | exact Or.inr (Or.inl q) | exact Or.inr (q) | exact Or.inr (Or.inr (Or.inl q)) | exact Or.inr (Or.inr (q)) | exact Or.inr (Or.inr (Or.inr (Or.inl q))) | exact Or.inr (Or.inr (Or.inr (q))) | exact Or.inr (Or.inr (Or.inr (Or.inr (Or.inl q)))) | exact Or.inr (Or.inr (Or.inr (Or.inr (q)))) | exact Or.inr (Or.inr (Or.inr (Or.inr (Or.inr (Or.inl q))))) | exact Or.inr (Or.inr (Or.inr (Or.inr (Or.inr (q))))) | exact Or.inr (Or.inr (Or.inr (Or.inr (Or.inr (Or.inr (Or.inl q)))))) | exact Or.inr (Or.inr (Or.inr (Or.inr (Or.inr (Or.inr (q)))))) | exact Or.inr (Or.inr (Or.inr (Or.inr (Or.inr (Or.inr (Or.inr (Or.inl q))))))) | exact Or.inr (Or.inr (Or.inr (Or.inr (Or.inr (Or.inr (Or.inr (q))))))) | exact Or.inr (Or.inr (Or.inr (Or.inr (Or.inr (Or.inr (Or.inr (Or.inr (Or.inl q)))))))) | exact Or.inr (Or.inr (Or.inr (Or.inr (Or.inr (Or.inr (Or.inr (Or.inr (q)))))))) | exact Or.inr (Or.inr (Or.inr (Or.inr (Or.inr (Or.inr (Or.inr (Or.inr (Or.inr (Or.inl q))))))))) | exact Or.inr (Or.inr (Or.inr (Or.inr (Or.inr (Or.inr (Or.inr (Or.inr (Or.inr (q))))))))) | exact Or.inl (Or.inr q) | exact Or.inl (Or.inl q) | exact Or.inl (Or.inl (Or.inr q)) | exact Or.inl (Or.inl (Or.inl q)) | exact Or.inl (Or.inr (Or.inl q)) | exact Or.inr (Or.inl (Or.inr q)) | exact Or.inr (Or.inl (Or.inl q)) | exact Or.inr (Or.inl (Or.inl (Or.inr q))) | exact Or.inr (Or.inl (Or.inl (Or.inl q))) | exact Or.inr (Or.inl (Or.inr (Or.inl q))) | exact Or.inr (Or.inr (Or.inl (Or.inr q))) | exact Or.inr (Or.inr (Or.inl (Or.inl q))) | exact Or.inr (Or.inr (Or.inl (Or.inl (Or.inr q)))) | exact Or.inr (Or.inr (Or.inl (Or.inl (Or.inl q)))) | exact Or.inr (Or.inr (Or.inl (Or.inr (Or.inl q)))) | exact Or.inr (Or.inr (Or.inr (Or.inl (Or.inr q)))) | exact Or.inr (Or.inr (Or.inr (Or.inl (Or.inl q)))) | exact Or.inr (Or.inr (Or.inr (Or.inl (Or.inl (Or.inr q))))) | exact Or.inr (Or.inr (Or.inr (Or.inl (Or.inl (Or.inl q))))) | exact Or.inr (Or.inr (Or.inr (Or.inl (Or.inr (Or.inl q))))) | exact Or.inr (Or.inr (Or.inr (Or.inr (Or.inl (Or.inr q))))) | exact Or.inr (Or.inr (Or.inr (Or.inr (Or.inl (Or.inl q))))) | exact Or.inr (Or.inr (Or.inr (Or.inr (Or.inl (Or.inl (Or.inr q)))))) | exact Or.inr (Or.inr (Or.inr (Or.inr (Or.inl (Or.inl (Or.inl q)))))) | exact Or.inr (Or.inr (Or.inr (Or.inr (Or.inl (Or.inr (Or.inl q)))))) | exact Or.inr (Or.inr (Or.inr (Or.inr (Or.inr (Or.inl (Or.inr q)))))) | exact Or.inr (Or.inr (Or.inr (Or.inr (Or.inr (Or.inl (Or.inl q)))))) | exact Or.inr (Or.inr (Or.inr (Or.inr (Or.inr (Or.inl (Or.inl (Or.inr q))))))) | exact Or.inr (Or.inr (Or.inr (Or.inr (Or.inr (Or.inl (Or.inl (Or.inl q))))))) | exact Or.inr (Or.inr (Or.inr (Or.inr (Or.inr (Or.inl (Or.inr (Or.inl q))))))) | exact Or.inr (Or.inr (Or.inr (Or.inr (Or.inr (Or.inr (Or.inl (Or.inr q))))))) | exact Or.inr (Or.inr (Or.inr (Or.inr (Or.inr (Or.inr (Or.inl (Or.inl q))))))) | exact Or.inr (Or.inr (Or.inr (Or.inr (Or.inr (Or.inr (Or.inl (Or.inl (Or.inr q)))))))) | exact Or.inr (Or.inr (Or.inr (Or.inr (Or.inr (Or.inr (Or.inl (Or.inl (Or.inl q)))))))) | exact Or.inr (Or.inr (Or.inr (Or.inr (Or.inr (Or.inr (Or.inl (Or.inr (Or.inl q)))))))) | exact Or.inr (Or.inr (Or.inr (Or.inr (Or.inr (Or.inr (Or.inr (Or.inl (Or.inr q)))))))) | exact Or.inr (Or.inr (Or.inr (Or.inr (Or.inr (Or.inr (Or.inr (Or.inl (Or.inl q)))))))) | exact Or.inr (Or.inr (Or.inr (Or.inr (Or.inr (Or.inr (Or.inr (Or.inl (Or.inl (Or.inr q))))))))) | exact Or.inr (Or.inr (Or.inr (Or.inr (Or.inr (Or.inr (Or.inr (Or.inl (Or.inl (Or.inl q))))))))) | exact Or.inr (Or.inr (Or.inr (Or.inr (Or.inr (Or.inr (Or.inr (Or.inl (Or.inr (Or.inl q)))))))))) | simp [q]
       case hb =>
         intro p hp
         simp [hp]
       case hc =>
         intro p hp
         have hp' : p ∈ (D9, listOf hs2.toArray ep1) :: (L' + 1, o1) :: (l, listOf ts.toArray n0) :: (((T9, triO y or1 te to1 ty) :: S1) ++ rest) := hp
         simp only [List.mem_cons, List.mem_append, List.cons_append] at hp'
         rcases hp' with rfl | q | q | rfl | q | q
         · exact hnw (D9, listOf hs1.toArray ep1) (List.mem_cons_self ..)
         · exact hnw p (by simp [q])
         · exact hnw p (by simp [q])
         · intro hb
           rw [List.mem_singleton] at hb
           exact hIT9 hb
         · exact hnw p (by simp [q])
         · exact hnw p (by simp [q])
       case he =>
         intro z h1 h2 h3
         simp only [List.forall_mem_cons, List.not_mem_nil, false_implies, implies_true, and_true, ne_eq] at h2
         simp only [List.contains_cons, List.contains_nil, Bool.or_false, Bool.or_eq_false_iff, beq_eq_false_iff_ne, ne_eq] at h3
         simp [h1, h2, h3])
    | (refine g_end (hs1, ep1, S1, or1, to1, x1, tt1) lF lN ?_ ?_ ?_ ?_ ?_ ⟨nInv_keep hNI1 hyi (by rw [← hx1]; exact decide_eq_false (by assumption)), hx1, hDn1⟩
       · intro p hp
         have hp' : p ∈ (D9, listOf hs1.toArray ep1) :: (L' + 1, o1) :: (l, listOf ts.toArray n0) :: (S1 ++ rest) := hp
         simp only [List.mem_cons, List.mem_append] at hp' ⊢
         rcases hp' with q | q | q | q | q <;> first | with_reducible (first | exact Or.inl q | exact q | exact Or.inr (Or.inl q) | exact Or.inr (q) | exact Or.inr (Or.inr (Or.inl q)) | exact Or.inr (Or.inr (q)) | exact Or.inr (Or.inr (Or.inr (Or.inl q))) | exact Or.inr (Or.inr (Or.inr (q))) | exact Or.inr (Or.inr (Or.inr (Or.inr (Or.inl q)))) | exact Or.inr (Or.inr (Or.inr (Or.inr (q)))) | exact Or.inr (Or.inr (Or.inr (Or.inr (Or.inr (Or.inl q))))) | exact Or.inr (Or.inr (Or.inr (Or.inr (Or.inr (q))))) | exact Or.inr (Or.inr (Or.inr (Or.inr (Or.inr (Or.inr (Or.inl q)))))) | exact Or.inr (Or.inr (Or.inr (Or.inr (Or.inr (Or.inr (q)))))) | exact Or.inr (Or.inr (Or.inr (Or.inr (Or.inr (Or.inr (Or.inr (Or.inl q))))))) | exact Or.inr (Or.inr (Or.inr (Or.inr (Or.inr (Or.inr (Or.inr (q))))))) | exact Or.inr (Or.inr (Or.inr (Or.inr (Or.inr (Or.inr (Or.inr (Or.inr (Or.inl q)))))))) | exact Or.inr (Or.inr (Or.inr (Or.inr (Or.inr (Or.inr (Or.inr (Or.inr (q)))))))) | exact Or.inr (Or.inr (Or.inr (Or.inr (Or.inr (Or.inr (Or.inr (Or.inr (Or.inr (Or.inl q))))))))) | exact Or.inr (Or.inr (Or.inr (Or.inr (Or.inr (Or.inr (Or.inr (Or.inr (Or.inr (q))))))))) | exact Or.inl (Or.inr q) | exact Or.inl (Or.inl q) | exact Or.inl (Or.inl (Or.inr q)) | exact Or.inl (Or.inl (Or.inl q)) | exact Or.inl (Or.inr (Or.inl q)) | exact Or.inr (Or.inl (Or.inr q)) | exact Or.inr (Or.inl (Or.inl q)) | exact Or.inr (Or.inl (Or.inl (Or.inr q))) | exact Or.inr (Or.inl (Or.inl (Or.inl q))) | exact Or.inr (Or.inl (Or.inr (Or.inl q))) | exact Or.inr (Or.inr (Or.inl (Or.inr q))) | exact Or.inr (Or.inr (Or.inl (Or.inl q))) | exact Or.inr (Or.inr (Or.inl (Or.inl (Or.inr q)))) | exact Or.inr (Or.inr (Or.inl (Or.inl (Or.inl q)))) | exact Or.inr (Or.inr (Or.inl (Or.inr (Or.inl q)))) | exact Or.inr (Or.inr (Or.inr (Or.inl (Or.inr q)))) | exact Or.inr (Or.inr (Or.inr (Or.inl (Or.inl q)))) | exact Or.inr (Or.inr (Or.inr (Or.inl (Or.inl (Or.inr q))))) | exact Or.inr (Or.inr (Or.inr (Or.inl (Or.inl (Or.inl q))))) | exact Or.inr (Or.inr (Or.inr (Or.inl (Or.inr (Or.inl q))))) | exact Or.inr (Or.inr (Or.inr (Or.inr (Or.inl (Or.inr q))))) | exact Or.inr (Or.inr (Or.inr (Or.inr (Or.inl (Or.inl q))))) | exact Or.inr (Or.inr (Or.inr (Or.inr (Or.inl (Or.inl (Or.inr q)))))) | exact Or.inr (Or.inr (Or.inr (Or.inr (Or.inl (Or.inl (Or.inl q)))))) | exact Or.inr (Or.inr (Or.inr (Or.inr (Or.inl (Or.inr (Or.inl q)))))) | exact Or.inr (Or.inr (Or.inr (Or.inr (Or.inr (Or.inl (Or.inr q)))))) | exact Or.inr (Or.inr (Or.inr (Or.inr (Or.inr (Or.inl (Or.inl q)))))) | exact Or.inr (Or.inr (Or.inr (Or.inr (Or.inr (Or.inl (Or.inl (Or.inr q))))))) | exact Or.inr (Or.inr (Or.inr (Or.inr (Or.inr (Or.inl (Or.inl (Or.inl q))))))) | exact Or.inr (Or.inr (Or.inr (Or.inr (Or.inr (Or.inl (Or.inr (Or.inl q))))))) | exact Or.inr (Or.inr (Or.inr (Or.inr (Or.inr (Or.inr (Or.inl (Or.inr q))))))) | exact Or.inr (Or.inr (Or.inr (Or.inr (Or.inr (Or.inr (Or.inl (Or.inl q))))))) | exact Or.inr (Or.inr (Or.inr (Or.inr (Or.inr (Or.inr (Or.inl (Or.inl (Or.inr q)))))))) | exact Or.inr (Or.inr (Or.inr (Or.inr (Or.inr (Or.inr (Or.inl (Or.inl (Or.inl q)))))))) | exact Or.inr (Or.inr (Or.inr (Or.inr (Or.inr (Or.inr (Or.inl (Or.inr (Or.inl q)))))))) | exact Or.inr (Or.inr (Or.inr (Or.inr (Or.inr (Or.inr (Or.inr (Or.inl (Or.inr q)))))))) | exact Or.inr (Or.inr (Or.inr (Or.inr (Or.inr (Or.inr (Or.inr (Or.inl (Or.inl q)))))))) | exact Or.inr (Or.inr (Or.inr (Or.inr (Or.inr (Or.inr (Or.inr (Or.inl (Or.inl (Or.inr q))))))))) | exact Or.inr (Or.inr (Or.inr (Or.inr (Or.inr (Or.inr (Or.inr (Or.inl (Or.inl (Or.inl q))))))))) | exact Or.inr (Or.inr (Or.inr (Or.inr (Or.inr (Or.inr (Or.inr (Or.inl (Or.inr (Or.inl q)))))))))) | simp [q]
       · intro p hp
         simp [hp]
       · intro p hp
         exact hnw p hp
       · intro p hp
         simp only [List.mem_cons, List.not_mem_nil, or_false] at hp
         rcases hp with rfl | rfl <;> rfl
       · intro z h1 h2 h3
         simp only [List.forall_mem_cons, List.not_mem_nil, false_implies, implies_true, and_true, ne_eq] at h2
         simp only [List.contains_cons, List.contains_nil, Bool.or_false, Bool.or_eq_false_iff, beq_eq_false_iff_ne, ne_eq] at h3
         simp [h1, h2, h3]))
  k_with "call builtin:list.sort" => (
    rename Fr _ _ _ _ => lF
    rename News _ _ _ _ => lN
    show wpAny _ _ (call (.builtin "list.sort") [.ref D9]) _ _ _
    have e9 : n + (ts.toArray.size - n) = (ts.map strOf).length := by rw [List.size_toArray, List.length_map]; omega
    rw [e9] at hNI1
    have hlen9 : hs1.length = n := hNI1.2.2.1
    refine g_sortTri (S := S1) (vs := hs1) (n := ep1) lF lN hDn1 (fun p hp => by simp [hp]) hNI1.1 (by omega) (by omega) ?_
    intro out c9 h' tk' F' N' hperm hpw)
  k_with "SrcZ" => (
    rename Fr _ _ _ _ => lF
    rename News _ _ _ _ => lN
    have hlen9 : hs1.length = n := hNI1.2.2.1
    have hv9 : ∀ v ∈ out, ∃ d, TriAt S1 v d := fun v hv => hNI1.1 v (hperm.mem_iff.mp hv)
    refine srcZ_tri (S := S1) (by rfl) lF lN (fun p hp => by simp [hp]) (by rw [hperm.length_eq]; omega) (by rfl) hv9 ?_ ?_
    · intro ys d t1 t2 t3 own C oC D m₁ h tk E' hC FF NN
      generalize hm₂ : upd m₁ _ _ = m₂ at hC
      have hx1 : m₂ (Str.ofString "elem") = some (.str d.2 t3) := by rw [← hm₂]; rfl
      clear hm₂
      (try k_fold)
      k_steps
      rename Fr _ _ _ _ => lF2
      rename News _ _ _ _ => lN2
      exact ⟨_, _, _, rfl, rfl, lF2, lN2⟩
    intro g ys D End fp hy hy2 hlt D8 h9 tk9 e9 F9 N9 hend
    cases e9
    dsimp only
    (try k_fold))
  k_with "call builtin:min" => (
    rename Fr _ _ _ _ => lF
    rename News _ _ _ _ => lN
    refine g_min (l := l) (I := I) (vs := ts) (n := n0) (news := (O, objObj) :: (L' + 1, o1) :: (l, listOf ts.toArray n0) :: rest) (fun i k => ∃ t, k = .str (esc (strOf (ts.getD i .none))) t) (fun i j => escV (ts.getD i .none) (ts.getD j .none)) (fun a b h => tpo_escV.asymm _ _ h) (fun a b c h1 h2 => tpo_escV.trans _ _ _ h1 h2) ?_ (by rfl) lF (fun p hp => lN p (by simp only [List.mem_cons] at hp ⊢; rcases hp with hp | hp | hp | hp | hp <;> first | with_reducible (first | exact Or.inl hp | exact hp | exact Or.inr (Or.inl hp) | exact Or.inr (hp) | exact Or.inr (Or.inr (Or.inl hp)) | exact Or.inr (Or.inr (hp)) | exact Or.inr (Or.inr (Or.inr (Or.inl hp))) | exact Or.inr (Or.inr (Or.inr (hp))) | exact Or.inr (Or.inr (Or.inr (Or.inr (Or.inl hp)))) | exact Or.inr (Or.inr (Or.inr (Or.inr (hp)))) | exact Or.inr (Or.inr (Or.inr (Or.inr (Or.inr (Or.inl hp))))) | exact Or.inr (Or.inr (Or.inr (Or.inr (Or.inr (hp))))) | exact Or.inr (Or.inr (Or.inr (Or.inr (Or.inr (Or.inr (Or.inl hp)))))) | exact Or.inr (Or.inr (Or.inr (Or.inr (Or.inr (Or.inr (hp)))))) | exact Or.inr (Or.inr (Or.inr (Or.inr (Or.inr (Or.inr (Or.inr (Or.inl hp))))))) | exact Or.inr (Or.inr (Or.inr (Or.inr (Or.inr (Or.inr (Or.inr (hp))))))) | exact Or.inr (Or.inr (Or.inr (Or.inr (Or.inr (Or.inr (Or.inr (Or.inr (Or.inl hp)))))))) | exact Or.inr (Or.inr (Or.inr (Or.inr (Or.inr (Or.inr (Or.inr (Or.inr (hp)))))))) | exact Or.inr (Or.inr (Or.inr (Or.inr (Or.inr (Or.inr (Or.inr (Or.inr (Or.inr (Or.inl hp))))))))) | exact Or.inr (Or.inr (Or.inr (Or.inr (Or.inr (Or.inr (Or.inr (Or.inr (Or.inr (hp))))))))) | exact Or.inl (Or.inr hp) | exact Or.inl (Or.inl hp) | exact Or.inl (Or.inl (Or.inr hp)) | exact Or.inl (Or.inl (Or.inl hp)) | exact Or.inl (Or.inr (Or.inl hp)) | exact Or.inr (Or.inl (Or.inr hp)) | exact Or.inr (Or.inl (Or.inl hp)) | exact Or.inr (Or.inl (Or.inl (Or.inr hp))) | exact Or.inr (Or.inl (Or.inl (Or.inl hp))) | exact Or.inr (Or.inl (Or.inr (Or.inl hp))) | exact Or.inr (Or.inr (Or.inl (Or.inr hp))) | exact Or.inr (Or.inr (Or.inl (Or.inl hp))) | exact Or.inr (Or.inr (Or.inl (Or.inl (Or.inr hp)))) | exact Or.inr (Or.inr (Or.inl (Or.inl (Or.inl hp)))) | exact Or.inr (Or.inr (Or.inl (Or.inr (Or.inl hp)))) | exact Or.inr (Or.inr (Or.inr (Or.inl (Or.inr hp)))) | exact Or.inr (Or.inr (Or.inr (Or.inl (Or.inl hp)))) | exact Or.inr (Or.inr (Or.inr (Or.inl (Or.inl (Or.inr hp))))) | exact Or.inr (Or.inr (Or.inr (Or.inl (Or.inl (Or.inl hp))))) | exact Or.inr (Or.inr (Or.inr (Or.inl (Or.inr (Or.inl hp))))) | exact Or.inr (Or.inr (Or.inr (Or.inr (Or.inl (Or.inr hp))))) | exact Or.inr (Or.inr (Or.inr (Or.inr (Or.inl (Or.inl hp))))) | exact Or.inr (Or.inr (Or.inr (Or.inr (Or.inl (Or.inl (Or.inr hp)))))) | exact Or.inr (Or.inr (Or.inr (Or.inr (Or.inl (Or.inl (Or.inl hp)))))) | exact Or.inr (Or.inr (Or.inr (Or.inr (Or.inl (Or.inr (Or.inl hp)))))) | exact Or.inr (Or.inr (Or.inr (Or.inr (Or.inr (Or.inl (Or.inr hp)))))) | exact Or.inr (Or.inr (Or.inr (Or.inr (Or.inr (Or.inl (Or.inl hp)))))) | exact Or.inr (Or.inr (Or.inr (Or.inr (Or.inr (Or.inl (Or.inl (Or.inr hp))))))) | exact Or.inr (Or.inr (Or.inr (Or.inr (Or.inr (Or.inl (Or.inl (Or.inl hp))))))) | exact Or.inr (Or.inr (Or.inr (Or.inr (Or.inr (Or.inl (Or.inr (Or.inl hp))))))) | exact Or.inr (Or.inr (Or.inr (Or.inr (Or.inr (Or.inr (Or.inl (Or.inr hp))))))) | exact Or.inr (Or.inr (Or.inr (Or.inr (Or.inr (Or.inr (Or.inl (Or.inl hp))))))) | exact Or.inr (Or.inr (Or.inr (Or.inr (Or.inr (Or.inr (Or.inl (Or.inl (Or.inr hp)))))))) | exact Or.inr (Or.inr (Or.inr (Or.inr (Or.inr (Or.inr (Or.inl (Or.inl (Or.inl hp)))))))) | exact Or.inr (Or.inr (Or.inr (Or.inr (Or.inr (Or.inr (Or.inl (Or.inr (Or.inl hp)))))))) | exact Or.inr (Or.inr (Or.inr (Or.inr (Or.inr (Or.inr (Or.inr (Or.inl (Or.inr hp)))))))) | exact Or.inr (Or.inr (Or.inr (Or.inr (Or.inr (Or.inr (Or.inr (Or.inl (Or.inl hp)))))))) | exact Or.inr (Or.inr (Or.inr (Or.inr (Or.inr (Or.inr (Or.inr (Or.inl (Or.inl (Or.inr hp))))))))) | exact Or.inr (Or.inr (Or.inr (Or.inr (Or.inr (Or.inr (Or.inr (Or.inl (Or.inl (Or.inl hp))))))))) | exact Or.inr (Or.inr (Or.inr (Or.inr (Or.inr (Or.inr (Or.inr (Or.inl (Or.inr (Or.inl hp)))))))))) | simp [hp])) (by first | k_mem | simp) ?_ (by omega) ?_ ?_
    · rintro i j vi vj s Q E ⟨t, rfl⟩ ⟨t', rfl⟩ h
      exact PyProof.Rows.lt_str h
    · intro p hp
      rcases List.mem_cons.mp hp with rfl | hp
      · exact Nat.ne_of_gt (ltO (I, litObj l 0) (by first | k_mem | simp))
      · exact Nat.ne_of_lt (ltI p hp)
    · intro i v hv h tk own F1 N1
      have hvm : v ∈ ts := List.mem_of_getElem? hv
      have hvg : ts.getD i .none = v := by rw [List.getD_eq_getElem?_getD, hv]; rfl
      obtain ⟨x, t, rfl⟩ := hS v hvm
      have hx100 : x.length ≤ 100 := hL _ hvm
      refine c_escape _ _ _ _ _ _ _ _ _ _ _ _ _ _ ((O, objObj) :: (L' + 1, o1) :: (l, listOf ts.toArray n0) :: rest ++ own) _ x t _ _ B' F1 X' N1 T' (by rfl) (by omega) (by ktr_room) (by ktr_units) ?_
      intro h' tk' te F2 N2
      exact ⟨h', tk', rfl, ⟨te, by rw [hvg]; rfl⟩, F2, N2⟩
    intro i v h' tk' hv hb F1 N1
    have hvm : v ∈ ts := List.mem_of_getElem? hv
    have hvg : ts.getD i .none = v := by rw [List.getD_eq_getElem?_getD, hv]; rfl
    obtain ⟨x, tx, rfl⟩ := hS v hvm
    (try k_fold))
  k_with "subscriptTail" => (
    rename Fr _ _ _ _ => lF
    rename News _ _ _ _ => lN
    refine g_upto (vs := out) (k := c9) (n := n) lF lN (by first | k_mem | simp) (by rw [hperm.length_eq]; omega) ?_ (by with_unfolding_all rfl) (by kmk_pure)
    intro D5 hD5 FD5 ND5 ltD5)
  k_with "compareOp Is" => (refine wpAny_is_other (by rfl) (by intro h; cases h) ?_)
  k_with "newList" => (
    rename Fr _ _ _ _ => lF
    rename News _ _ _ _ => lN
    refine newList_K lF lN ?_
    intro D6 hD6 FD6 ND6 ltD6)
  k_steps
  · rename Fr _ _ _ _ => lF
    rename News _ _ _ _ => lN
    have hn1 : n = 1 := by omega
    refine hret _ _ D6 [.str x tx] 0 lF (fun p hp => lN p (by simp only [List.mem_cons] at hp ⊢; rcases hp with hp | hp | hp <;> first | with_reducible (first | exact Or.inl hp | exact hp | exact Or.inr (Or.inl hp) | exact Or.inr (hp) | exact Or.inr (Or.inr (Or.inl hp)) | exact Or.inr (Or.inr (hp)) | exact Or.inr (Or.inr (Or.inr (Or.inl hp))) | exact Or.inr (Or.inr (Or.inr (hp))) | exact Or.inr (Or.inr (Or.inr (Or.inr (Or.inl hp)))) | exact Or.inr (Or.inr (Or.inr (Or.inr (hp)))) | exact Or.inr (Or.inr (Or.inr (Or.inr (Or.inr (Or.inl hp))))) | exact Or.inr (Or.inr (Or.inr (Or.inr (Or.inr (hp))))) | exact Or.inr (Or.inr (Or.inr (Or.inr (Or.inr (Or.inr (Or.inl hp)))))) | exact Or.inr (Or.inr (Or.inr (Or.inr (Or.inr (Or.inr (hp)))))) | exact Or.inr (Or.inr (Or.inr (Or.inr (Or.inr (Or.inr (Or.inr (Or.inl hp))))))) | exact Or.inr (Or.inr (Or.inr (Or.inr (Or.inr (Or.inr (Or.inr (hp))))))) | exact Or.inr (Or.inr (Or.inr (Or.inr (Or.inr (Or.inr (Or.inr (Or.inr (Or.inl hp)))))))) | exact Or.inr (Or.inr (Or.inr (Or.inr (Or.inr (Or.inr (Or.inr (Or.inr (hp)))))))) | exact Or.inr (Or.inr (Or.inr (Or.inr (Or.inr (Or.inr (Or.inr (Or.inr (Or.inr (Or.inl hp))))))))) | exact Or.inr (Or.inr (Or.inr (Or.inr (Or.inr (Or.inr (Or.inr (Or.inr (Or.inr (hp))))))))) | exact Or.inl (Or.inr hp) | exact Or.inl (Or.inl hp) | exact Or.inl (Or.inl (Or.inr hp)) | exact Or.inl (Or.inl (Or.inl hp)) | exact Or.inl (Or.inr (Or.inl hp)) | exact Or.inr (Or.inl (Or.inr hp)) | exact Or.inr (Or.inl (Or.inl hp)) | exact Or.inr (Or.inl (Or.inl (Or.inr hp))) | exact Or.inr (Or.inl (Or.inl (Or.inl hp))) | exact Or.inr (Or.inl (Or.inr (Or.inl hp))) | exact Or.inr (Or.inr (Or.inl (Or.inr hp))) | exact Or.inr (Or.inr (Or.inl (Or.inl hp))) | exact Or.inr (Or.inr (Or.inl (Or.inl (Or.inr hp)))) | exact Or.inr (Or.inr (Or.inl (Or.inl (Or.inl hp)))) | exact Or.inr (Or.inr (Or.inl (Or.inr (Or.inl hp)))) | exact Or.inr (Or.inr (Or.inr (Or.inl (Or.inr hp)))) | exact Or.inr (Or.inr (Or.inr (Or.inl (Or.inl hp)))) | exact Or.inr (Or.inr (Or.inr (Or.inl (Or.inl (Or.inr hp))))) | exact Or.inr (Or.inr (Or.inr (Or.inl (Or.inl (Or.inl hp))))) | exact Or.inr (Or.inr (Or.inr (Or.inl (Or.inr (Or.inl hp))))) | exact Or.inr (Or.inr (Or.inr (Or.inr (Or.inl (Or.inr hp))))) | exact Or.inr (Or.inr (Or.inr (Or.inr (Or.inl (Or.inl hp))))) | exact Or.inr (Or.inr (Or.inr (Or.inr (Or.inl (Or.inl (Or.inr hp)))))) | exact Or.inr (Or.inr (Or.inr (Or.inr (Or.inl (Or.inl (Or.inl hp)))))) | exact Or.inr (Or.inr (Or.inr (Or.inr (Or.inl (Or.inr (Or.inl hp)))))) | exact Or.inr (Or.inr (Or.inr (Or.inr (Or.inr (Or.inl (Or.inr hp)))))) | exact Or.inr (Or.inr (Or.inr (Or.inr (Or.inr (Or.inl (Or.inl hp)))))) | exact Or.inr (Or.inr (Or.inr (Or.inr (Or.inr (Or.inl (Or.inl (Or.inr hp))))))) | exact Or.inr (Or.inr (Or.inr (Or.inr (Or.inr (Or.inl (Or.inl (Or.inl hp))))))) | exact Or.inr (Or.inr (Or.inr (Or.inr (Or.inr (Or.inl (Or.inr (Or.inl hp))))))) | exact Or.inr (Or.inr (Or.inr (Or.inr (Or.inr (Or.inr (Or.inl (Or.inr hp))))))) | exact Or.inr (Or.inr (Or.inr (Or.inr (Or.inr (Or.inr (Or.inl (Or.inl hp))))))) | exact Or.inr (Or.inr (Or.inr (Or.inr (Or.inr (Or.inr (Or.inl (Or.inl (Or.inr hp)))))))) | exact Or.inr (Or.inr (Or.inr (Or.inr (Or.inr (Or.inr (Or.inl (Or.inl (Or.inl hp)))))))) | exact Or.inr (Or.inr (Or.inr (Or.inr (Or.inr (Or.inr (Or.inl (Or.inr (Or.inl hp)))))))) | exact Or.inr (Or.inr (Or.inr (Or.inr (Or.inr (Or.inr (Or.inr (Or.inl (Or.inr hp)))))))) | exact Or.inr (Or.inr (Or.inr (Or.inr (Or.inr (Or.inr (Or.inr (Or.inl (Or.inl hp)))))))) | exact Or.inr (Or.inr (Or.inr (Or.inr (Or.inr (Or.inr (Or.inr (Or.inl (Or.inl (Or.inr hp))))))))) | exact Or.inr (Or.inr (Or.inr (Or.inr (Or.inr (Or.inr (Or.inr (Or.inl (Or.inl (Or.inl hp))))))))) | exact Or.inr (Or.inr (Or.inr (Or.inr (Or.inr (Or.inr (Or.inr (Or.inl (Or.inr (Or.inl hp)))))))))) | simp [hp])) (fun p hp => ltD6 p (by simp only [List.mem_cons] at hp ⊢; rcases hp with hp | hp <;> first | with_reducible (first | exact Or.inl hp | exact hp | exact Or.inr (Or.inl hp) | exact Or.inr (hp) | exact Or.inr (Or.inr (Or.inl hp)) | exact Or.inr (Or.inr (hp)) | exact Or.inr (Or.inr (Or.inr (Or.inl hp))) | exact Or.inr (Or.inr (Or.inr (hp))) | exact Or.inr (Or.inr (Or.inr (Or.inr (Or.inl hp)))) | exact Or.inr (Or.inr (Or.inr (Or.inr (hp)))) | exact Or.inr (Or.inr (Or.inr (Or.inr (Or.inr (Or.inl hp))))) | exact Or.inr (Or.inr (Or.inr (Or.inr (Or.inr (hp))))) | exact Or.inr (Or.inr (Or.inr (Or.inr (Or.inr (Or.inr (Or.inl hp)))))) | exact Or.inr (Or.inr (Or.inr (Or.inr (Or.inr (Or.inr (hp)))))) | exact Or.inr (Or.inr (Or.inr (Or.inr (Or.inr (Or.inr (Or.inr (Or.inl hp))))))) | exact Or.inr (Or.inr (Or.inr (Or.inr (Or.inr (Or.inr (Or.inr (hp))))))) | exact Or.inr (Or.inr (Or.inr (Or.inr (Or.inr (Or.inr (Or.inr (Or.inr (Or.inl hp)))))))) | exact Or.inr (Or.inr (Or.inr (Or.inr (Or.inr (Or.inr (Or.inr (Or.inr (hp)))))))) | exact Or.inr (Or.inr (Or.inr (Or.inr (Or.inr (Or.inr (Or.inr (Or.inr (Or.inr (Or.inl hp))))))))) | exact Or.inr (Or.inr (Or.inr (Or.inr (Or.inr (Or.inr (Or.inr (Or.inr (Or.inr (hp))))))))) | exact Or.inl (Or.inr hp) | exact Or.inl (Or.inl hp) | exact Or.inl (Or.inl (Or.inr hp)) | exact Or.inl (Or.inl (Or.inl hp)) | exact Or.inl (Or.inr (Or.inl hp)) | exact Or.inr (Or.inl (Or.inr hp)) | exact Or.inr (Or.inl (Or.inl hp)) | exact Or.inr (Or.inl (Or.inl (Or.inr hp))) | exact Or.inr (Or.inl (Or.inl (Or.inl hp))) | exact Or.inr (Or.inl (Or.inr (Or.inl hp))) | exact Or.inr (Or.inr (Or.inl (Or.inr hp))) | exact Or.inr (Or.inr (Or.inl (Or.inl hp))) | exact Or.inr (Or.inr (Or.inl (Or.inl (Or.inr hp)))) | exact Or.inr (Or.inr (Or.inl (Or.inl (Or.inl hp)))) | exact Or.inr (Or.inr (Or.inl (Or.inr (Or.inl hp)))) | exact Or.inr (Or.inr (Or.inr (Or.inl (Or.inr hp)))) | exact Or.inr (Or.inr (Or.inr (Or.inl (Or.inl hp)))) | exact Or.inr (Or.inr (Or.inr (Or.inl (Or.inl (Or.inr hp))))) | exact Or.inr (Or.inr (Or.inr (Or.inl (Or.inl (Or.inl hp))))) | exact Or.inr (Or.inr (Or.inr (Or.inl (Or.inr (Or.inl hp))))) | exact Or.inr (Or.inr (Or.inr (Or.inr (Or.inl (Or.inr hp))))) | exact Or.inr (Or.inr (Or.inr (Or.inr (Or.inl (Or.inl hp))))) | exact Or.inr (Or.inr (Or.inr (Or.inr (Or.inl (Or.inl (Or.inr hp)))))) | exact Or.inr (Or.inr (Or.inr (Or.inr (Or.inl (Or.inl (Or.inl hp)))))) | exact Or.inr (Or.inr (Or.inr (Or.inr (Or.inl (Or.inr (Or.inl hp)))))) | exact Or.inr (Or.inr (Or.inr (Or.inr (Or.inr (Or.inl (Or.inr hp)))))) | exact Or.inr (Or.inr (Or.inr (Or.inr (Or.inr (Or.inl (Or.inl hp)))))) | exact Or.inr (Or.inr (Or.inr (Or.inr (Or.inr (Or.inl (Or.inl (Or.inr hp))))))) | exact Or.inr (Or.inr (Or.inr (Or.inr (Or.inr (Or.inl (Or.inl (Or.inl hp))))))) | exact Or.inr (Or.inr (Or.inr (Or.inr (Or.inr (Or.inl (Or.inr (Or.inl hp))))))) | exact Or.inr (Or.inr (Or.inr (Or.inr (Or.inr (Or.inr (Or.inl (Or.inr hp))))))) | exact Or.inr (Or.inr (Or.inr (Or.inr (Or.inr (Or.inr (Or.inl (Or.inl hp))))))) | exact Or.inr (Or.inr (Or.inr (Or.inr (Or.inr (Or.inr (Or.inl (Or.inl (Or.inr hp)))))))) | exact Or.inr (Or.inr (Or.inr (Or.inr (Or.inr (Or.inr (Or.inl (Or.inl (Or.inl hp)))))))) | exact Or.inr (Or.inr (Or.inr (Or.inr (Or.inr (Or.inr (Or.inl (Or.inr (Or.inl hp)))))))) | exact Or.inr (Or.inr (Or.inr (Or.inr (Or.inr (Or.inr (Or.inr (Or.inl (Or.inr hp)))))))) | exact Or.inr (Or.inr (Or.inr (Or.inr (Or.inr (Or.inr (Or.inr (Or.inl (Or.inl hp)))))))) | exact Or.inr (Or.inr (Or.inr (Or.inr (Or.inr (Or.inr (Or.inr (Or.inl (Or.inl (Or.inr hp))))))))) | exact Or.inr (Or.inr (Or.inr (Or.inr (Or.inr (Or.inr (Or.inr (Or.inl (Or.inl (Or.inl hp))))))))) | exact Or.inr (Or.inr (Or.inr (Or.inr (Or.inr (Or.inr (Or.inr (Or.inl (Or.inr (Or.inl hp)))))))))) | simp [hp])) ?_
    intro so hso hsw
    refine ⟨fun v hv => ?_, ?_⟩
    · rw [List.mem_singleton.mp hv]; exact ⟨_, _, rfl⟩
    · rw [hn1]
      refine min_take (x := x) (List.mem_map.mpr ⟨_, hvm, rfl⟩) (fun y hy => ?_) hso hsw
      obtain ⟨v, hv, rfl⟩ := List.mem_map.mp hy
      obtain ⟨j, hj, rfl⟩ := List.mem_iff_getElem.mp hv
      have := hb j hj
      rw [hvg] at this
      have e : ts.getD j .none = ts[j] := by rw [List.getD_eq_getElem?_getD, List.getElem?_eq_getElem hj]; rfl
      rw [e] at this
      exact this
  · rename Fr _ _ _ _ => lF
    rename News _ _ _ _ => lN
    refine hret _ _ D5 (out.take n) 0 lF (fun p hp => lN p (by simp only [List.mem_cons] at hp ⊢; rcases hp with hp | hp | hp <;> first | with_reducible (first | exact Or.inl hp | exact hp | exact Or.inr (Or.inl hp) | exact Or.inr (hp) | exact Or.inr (Or.inr (Or.inl hp)) | exact Or.inr (Or.inr (hp)) | exact Or.inr (Or.inr (Or.inr (Or.inl hp))) | exact Or.inr (Or.inr (Or.inr (hp))) | exact Or.inr (Or.inr (Or.inr (Or.inr (Or.inl hp)))) | exact Or.inr (Or.inr (Or.inr (Or.inr (hp)))) | exact Or.inr (Or.inr (Or.inr (Or.inr (Or.inr (Or.inl hp))))) | exact Or.inr (Or.inr (Or.inr (Or.inr (Or.inr (hp))))) | exact Or.inr (Or.inr (Or.inr (Or.inr (Or.inr (Or.inr (Or.inl hp)))))) | exact Or.inr (Or.inr (Or.inr (Or.inr (Or.inr (Or.inr (hp)))))) | exact Or.inr (Or.inr (Or.inr (Or.inr (Or.inr (Or.inr (Or.inr (Or.inl hp))))))) | exact Or.inr (Or.inr (Or.inr (Or.inr (Or.inr (Or.inr (Or.inr (hp))))))) | exact Or.inr (Or.inr (Or.inr (Or.inr (Or.inr (Or.inr (Or.inr (Or.inr (Or.inl hp)))))))) | exact Or.inr (Or.inr (Or.inr (Or.inr (Or.inr (Or.inr (Or.inr (Or.inr (hp)))))))) | exact Or.inr (Or.inr (Or.inr (Or.inr (Or.inr (Or.inr (Or.inr (Or.inr (Or.inr (Or.inl hp))))))))) | exact Or.inr (Or.inr (Or.inr (Or.inr (Or.inr (Or.inr (Or.inr (Or.inr (Or.inr (hp))))))))) | exact Or.inl (Or.inr hp) | exact Or.inl (Or.inl hp) | exact Or.inl (Or.inl (Or.inr hp)) | exact Or.inl (Or.inl (Or.inl hp)) | exact Or.inl (Or.inr (Or.inl hp)) | exact Or.inr (Or.inl (Or.inr hp)) | exact Or.inr (Or.inl (Or.inl hp)) | exact Or.inr (Or.inl (Or.inl (Or.inr hp))) | exact Or.inr (Or.inl (Or.inl (Or.inl hp))) | exact Or.inr (Or.inl (Or.inr (Or.inl hp))) | exact Or.inr (Or.inr (Or.inl (Or.inr hp))) | exact Or.inr (Or.inr (Or.inl (Or.inl hp))) | exact Or.inr (Or.inr (Or.inl (Or.inl (Or.inr hp)))) | exact Or.inr (Or.inr (Or.inl (Or.inl (Or.inl hp)))) | exact Or.inr (Or.inr (Or.inl (Or.inr (Or.inl hp)))) | exact Or.inr (Or.inr (Or.inr (Or.inl (Or.inr hp)))) | exact Or.inr (Or.inr (Or.inr (Or.inl (Or.inl hp)))) | exact Or.inr (Or.inr (Or.inr (Or.inl (Or.inl (Or.inr hp))))) | exact Or.inr (Or.inr (Or.inr (Or.inl (Or.inl (Or.inl hp))))) | exact Or.inr (Or.inr (Or.inr (Or.inl (Or.inr (Or.inl hp))))) | exact Or.inr (Or.inr (Or.inr (Or.inr (Or.inl (Or.inr hp))))) | exact Or.inr (Or.inr (Or.inr (Or.inr (Or.inl (Or.inl hp))))) | exact Or.inr (Or.inr (Or.inr (Or.inr (Or.inl (Or.inl (Or.inr hp)))))) | exact Or.inr (Or.inr (Or.inr (Or.inr (Or.inl (Or.inl (Or.inl hp)))))) | exact Or.inr (Or.inr (Or.inr (Or.inr (Or.inl (Or.inr (Or.inl hp)))))) | exact Or.inr (Or.inr (Or.inr (Or.inr (Or.inr (Or.inl (Or.inr hp)))))) | exact Or.inr (Or.inr (Or.inr (Or.inr (Or.inr (Or.inl (Or.inl hp)))))) | exact Or.inr (Or.inr (Or.inr (Or.inr (Or.inr (Or.inl (Or.inl (Or.inr hp))))))) | exact Or.inr (Or.inr (Or.inr (Or.inr (Or.inr (Or.inl (Or.inl (Or.inl hp))))))) | exact Or.inr (Or.inr (Or.inr (Or.inr (Or.inr (Or.inl (Or.inr (Or.inl hp))))))) | exact Or.inr (Or.inr (Or.inr (Or.inr (Or.inr (Or.inr (Or.inl (Or.inr hp))))))) | exact Or.inr (Or.inr (Or.inr (Or.inr (Or.inr (Or.inr (Or.inl (Or.inl hp))))))) | exact Or.inr (Or.inr (Or.inr (Or.inr (Or.inr (Or.inr (Or.inl (Or.inl (Or.inr hp)))))))) | exact Or.inr (Or.inr (Or.inr (Or.inr (Or.inr (Or.inr (Or.inl (Or.inl (Or.inl hp)))))))) | exact Or.inr (Or.inr (Or.inr (Or.inr (Or.inr (Or.inr (Or.inl (Or.inr (Or.inl hp)))))))) | exact Or.inr (Or.inr (Or.inr (Or.inr (Or.inr (Or.inr (Or.inr (Or.inl (Or.inr hp)))))))) | exact Or.inr (Or.inr (Or.inr (Or.inr (Or.inr (Or.inr (Or.inr (Or.inl (Or.inl hp)))))))) | exact Or.inr (Or.inr (Or.inr (Or.inr (Or.inr (Or.inr (Or.inr (Or.inl (Or.inl (Or.inr hp))))))))) | exact Or.inr (Or.inr (Or.inr (Or.inr (Or.inr (Or.inr (Or.inr (Or.inl (Or.inl (Or.inl hp))))))))) | exact Or.inr (Or.inr (Or.inr (Or.inr (Or.inr (Or.inr (Or.inr (Or.inl (Or.inr (Or.inl hp)))))))))) | simp [hp])) (fun p hp => ltD5 p (by simp only [List.mem_cons] at hp ⊢; rcases hp with hp | hp <;> first | with_reducible (first | exact Or.inl hp | exact hp | exact Or.inr (Or.inl hp) | exact Or.inr (hp) | exact Or.inr (Or.inr (Or.inl hp)) | exact Or.inr (Or.inr (hp)) | exact Or.inr (Or.inr (Or.inr (Or.inl hp))) | exact Or.inr (Or.inr (Or.inr (hp))) | exact Or.inr (Or.inr (Or.inr (Or.inr (Or.inl hp)))) | exact Or.inr (Or.inr (Or.inr (Or.inr (hp)))) | exact Or.inr (Or.inr (Or.inr (Or.inr (Or.inr (Or.inl hp))))) | exact Or.inr (Or.inr (Or.inr (Or.inr (Or.inr (hp))))) | exact Or.inr (Or.inr (Or.inr (Or.inr (Or.inr (Or.inr (Or.inl hp)))))) | exact Or.inr (Or.inr (Or.inr (Or.inr (Or.inr (Or.inr (hp)))))) | exact Or.inr (Or.inr (Or.inr (Or.inr (Or.inr (Or.inr (Or.inr (Or.inl hp))))))) | exact Or.inr (Or.inr (Or.inr (Or.inr (Or.inr (Or.inr (Or.inr (hp))))))) | exact Or.inr (Or.inr (Or.inr (Or.inr (Or.inr (Or.inr (Or.inr (Or.inr (Or.inl hp)))))))) | exact Or.inr (Or.inr (Or.inr (Or.inr (Or.inr (Or.inr (Or.inr (Or.inr (hp)))))))) | exact Or.inr (Or.inr (Or.inr (Or.inr (Or.inr (Or.inr (Or.inr (Or.inr (Or.inr (Or.inl hp))))))))) | exact Or.inr (Or.inr (Or.inr (Or.inr (Or.inr (Or.inr (Or.inr (Or.inr (Or.inr (hp))))))))) | exact Or.inl (Or.inr hp) | exact Or.inl (Or.inl hp) | exact Or.inl (Or.inl (Or.inr hp)) | exact Or.inl (Or.inl (Or.inl hp)) | exact Or.inl (Or.inr (Or.inl hp)) | exact Or.inr (Or.inl (Or.inr hp)) | exact Or.inr (Or.inl (Or.inl hp)) | exact Or.inr (Or.inl (Or.inl (Or.inr hp))) | exact Or.inr (Or.inl (Or.inl (Or.inl hp))) | exact Or.inr (Or.inl (Or.inr (Or.inl hp))) | exact Or.inr (Or.inr (Or.inl (Or.inr hp))) | exact Or.inr (Or.inr (Or.inl (Or.inl hp))) | exact Or.inr (Or.inr (Or.inl (Or.inl (Or.inr hp)))) | exact Or.inr (Or.inr (Or.inl (Or.inl (Or.inl hp)))) | exact Or.inr (Or.inr (Or.inl (Or.inr (Or.inl hp)))) | exact Or.inr (Or.inr (Or.inr (Or.inl (Or.inr hp)))) | exact Or.inr (Or.inr (Or.inr (Or.inl (Or.inl hp)))) | exact Or.inr (Or.inr (Or.inr (Or.inl (Or.inl (Or.inr hp))))) | exact Or.inr (Or.inr (Or.inr (Or.inl (Or.inl (Or.inl hp))))) | exact Or.inr (Or.inr (Or.inr (Or.inl (Or.inr (Or.inl hp))))) | exact Or.inr (Or.inr (Or.inr (Or.inr (Or.inl (Or.inr hp))))) | exact Or.inr (Or.inr (Or.inr (Or.inr (Or.inl (Or.inl hp))))) | exact Or.inr (Or.inr (Or.inr (Or.inr (Or.inl (Or.inl (Or.inr hp)))))) | exact Or.inr (Or.inr (Or.inr (Or.inr (Or.inl (Or.inl (Or.inl hp)))))) | exact Or.inr (Or.inr (Or.inr (Or.inr (Or.inl (Or.inr (Or.inl hp)))))) | exact Or.inr (Or.inr (Or.inr (Or.inr (Or.inr (Or.inl (Or.inr hp)))))) | exact Or.inr (Or.inr (Or.inr (Or.inr (Or.inr (Or.inl (Or.inl hp)))))) | exact Or.inr (Or.inr (Or.inr (Or.inr (Or.inr (Or.inl (Or.inl (Or.inr hp))))))) | exact Or.inr (Or.inr (Or.inr (Or.inr (Or.inr (Or.inl (Or.inl (Or.inl hp))))))) | exact Or.inr (Or.inr (Or.inr (Or.inr (Or.inr (Or.inl (Or.inr (Or.inl hp))))))) | exact Or.inr (Or.inr (Or.inr (Or.inr (Or.inr (Or.inr (Or.inl (Or.inr hp))))))) | exact Or.inr (Or.inr (Or.inr (Or.inr (Or.inr (Or.inr (Or.inl (Or.inl hp))))))) | exact Or.inr (Or.inr (Or.inr (Or.inr (Or.inr (Or.inr (Or.inl (Or.inl (Or.inr hp)))))))) | exact Or.inr (Or.inr (Or.inr (Or.inr (Or.inr (Or.inr (Or.inl (Or.inl (Or.inl hp)))))))) | exact Or.inr (Or.inr (Or.inr (Or.inr (Or.inr (Or.inr (Or.inl (Or.inr (Or.inl hp)))))))) | exact Or.inr (Or.inr (Or.inr (Or.inr (Or.inr (Or.inr (Or.inr (Or.inl (Or.inr hp)))))))) | exact Or.inr (Or.inr (Or.inr (Or.inr (Or.inr (Or.inr (Or.inr (Or.inl (Or.inl hp)))))))) | exact Or.inr (Or.inr (Or.inr (Or.inr (Or.inr (Or.inr (Or.inr (Or.inl (Or.inl (Or.inr hp))))))))) | exact Or.inr (Or.inr (Or.inr (Or.inr (Or.inr (Or.inr (Or.inr (Or.inl (Or.inl (Or.inl hp))))))))) | exact Or.inr (Or.inr (Or.inr (Or.inr (Or.inr (Or.inr (Or.inr (Or.inl (Or.inr (Or.inl hp)))))))))) | simp [hp])) ?_
    intro so hso hsw
    refine ⟨fun v hv => hS v (hperm.mem_iff.mp (List.take_subset _ _ hv)), ?_⟩
    rw [← esc_uniq hperm hpw hso hsw, List.map_take]
  · rename Fr _ _ _ _ => lF
    rename News _ _ _ _ => lN
    refine hret _ _ D ys ys.length lF (fun p hp => lN p (by simp only [List.mem_cons, List.mem_append] at hp ⊢; rcases hp with hp | hp | hp <;> first | with_reducible (first | exact Or.inl hp | exact hp | exact Or.inr (Or.inl hp) | exact Or.inr (hp) | exact Or.inr (Or.inr (Or.inl hp)) | exact Or.inr (Or.inr (hp)) | exact Or.inr (Or.inr (Or.inr (Or.inl hp))) | exact Or.inr (Or.inr (Or.inr (hp))) | exact Or.inr (Or.inr (Or.inr (Or.inr (Or.inl hp)))) | exact Or.inr (Or.inr (Or.inr (Or.inr (hp)))) | exact Or.inr (Or.inr (Or.inr (Or.inr (Or.inr (Or.inl hp))))) | exact Or.inr (Or.inr (Or.inr (Or.inr (Or.inr (hp))))) | exact Or.inr (Or.inr (Or.inr (Or.inr (Or.inr (Or.inr (Or.inl hp)))))) | exact Or.inr (Or.inr (Or.inr (Or.inr (Or.inr (Or.inr (hp)))))) | exact Or.inr (Or.inr (Or.inr (Or.inr (Or.inr (Or.inr (Or.inr (Or.inl hp))))))) | exact Or.inr (Or.inr (Or.inr (Or.inr (Or.inr (Or.inr (Or.inr (hp))))))) | exact Or.inr (Or.inr (Or.inr (Or.inr (Or.inr (Or.inr (Or.inr (Or.inr (Or.inl hp)))))))) | exact Or.inr (Or.inr (Or.inr (Or.inr (Or.inr (Or.inr (Or.inr (Or.inr (hp)))))))) | exact Or.inr (Or.inr (Or.inr (Or.inr (Or.inr (Or.inr (Or.inr (Or.inr (Or.inr (Or.inl hp))))))))) | exact Or.inr (Or.inr (Or.inr (Or.inr (Or.inr (Or.inr (Or.inr (Or.inr (Or.inr (hp))))))))) | exact Or.inl (Or.inr hp) | exact Or.inl (Or.inl hp) | exact Or.inl (Or.inl (Or.inr hp)) | exact Or.inl (Or.inl (Or.inl hp)) | exact Or.inl (Or.inr (Or.inl hp)) | exact Or.inr (Or.inl (Or.inr hp)) | exact Or.inr (Or.inl (Or.inl hp)) | exact Or.inr (Or.inl (Or.inl (Or.inr hp))) | exact Or.inr (Or.inl (Or.inl (Or.inl hp))) | exact Or.inr (Or.inl (Or.inr (Or.inl hp))) | exact Or.inr (Or.inr (Or.inl (Or.inr hp))) | exact Or.inr (Or.inr (Or.inl (Or.inl hp))) | exact Or.inr (Or.inr (Or.inl (Or.inl (Or.inr hp)))) | exact Or.inr (Or.inr (Or.inl (Or.inl (Or.inl hp)))) | exact Or.inr (Or.inr (Or.inl (Or.inr (Or.inl hp)))) | exact Or.inr (Or.inr (Or.inr (Or.inl (Or.inr hp)))) | exact Or.inr (Or.inr (Or.inr (Or.inl (Or.inl hp)))) | exact Or.inr (Or.inr (Or.inr (Or.inl (Or.inl (Or.inr hp))))) | exact Or.inr (Or.inr (Or.inr (Or.inl (Or.inl (Or.inl hp))))) | exact Or.inr (Or.inr (Or.inr (Or.inl (Or.inr (Or.inl hp))))) | exact Or.inr (Or.inr (Or.inr (Or.inr (Or.inl (Or.inr hp))))) | exact Or.inr (Or.inr (Or.inr (Or.inr (Or.inl (Or.inl hp))))) | exact Or.inr (Or.inr (Or.inr (Or.inr (Or.inl (Or.inl (Or.inr hp)))))) | exact Or.inr (Or.inr (Or.inr (Or.inr (Or.inl (Or.inl (Or.inl hp)))))) | exact Or.inr (Or.inr (Or.inr (Or.inr (Or.inl (Or.inr (Or.inl hp)))))) | exact Or.inr (Or.inr (Or.inr (Or.inr (Or.inr (Or.inl (Or.inr hp)))))) | exact Or.inr (Or.inr (Or.inr (Or.inr (Or.inr (Or.inl (Or.inl hp)))))) | exact Or.inr (Or.inr (Or.inr (Or.inr (Or.inr (Or.inl (Or.inl (Or.inr hp))))))) | exact Or.inr (Or.inr (Or.inr (Or.inr (Or.inr (Or.inl (Or.inl (Or.inl hp))))))) | exact Or.inr (Or.inr (Or.inr (Or.inr (Or.inr (Or.inl (Or.inr (Or.inl hp))))))) | exact Or.inr (Or.inr (Or.inr (Or.inr (Or.inr (Or.inr (Or.inl (Or.inr hp))))))) | exact Or.inr (Or.inr (Or.inr (Or.inr (Or.inr (Or.inr (Or.inl (Or.inl hp))))))) | exact Or.inr (Or.inr (Or.inr (Or.inr (Or.inr (Or.inr (Or.inl (Or.inl (Or.inr hp)))))))) | exact Or.inr (Or.inr (Or.inr (Or.inr (Or.inr (Or.inr (Or.inl (Or.inl (Or.inl hp)))))))) | exact Or.inr (Or.inr (Or.inr (Or.inr (Or.inr (Or.inr (Or.inl (Or.inr (Or.inl hp)))))))) | exact Or.inr (Or.inr (Or.inr (Or.inr (Or.inr (Or.inr (Or.inr (Or.inl (Or.inr hp)))))))) | exact Or.inr (Or.inr (Or.inr (Or.inr (Or.inr (Or.inr (Or.inr (Or.inl (Or.inl hp)))))))) | exact Or.inr (Or.inr (Or.inr (Or.inr (Or.inr (Or.inr (Or.inr (Or.inl (Or.inl (Or.inr hp))))))))) | exact Or.inr (Or.inr (Or.inr (Or.inr (Or.inr (Or.inr (Or.inr (Or.inl (Or.inl (Or.inl hp))))))))) | exact Or.inr (Or.inr (Or.inr (Or.inr (Or.inr (Or.inr (Or.inr (Or.inl (Or.inr (Or.inl hp)))))))))) | simp [hp])) (fun p hp => hlt p (by simp only [List.mem_cons, List.mem_append] at hp ⊢; rcases hp with hp | hp <;> first | with_reducible (first | exact Or.inl hp | exact hp | exact Or.inr (Or.inl hp) | exact Or.inr (hp) | exact Or.inr (Or.inr (Or.inl hp)) | exact Or.inr (Or.inr (hp)) | exact Or.inr (Or.inr (Or.inr (Or.inl hp))) | exact Or.inr (Or.inr (Or.inr (hp))) | exact Or.inr (Or.inr (Or.inr (Or.inr (Or.inl hp)))) | exact Or.inr (Or.inr (Or.inr (Or.inr (hp)))) | exact Or.inr (Or.inr (Or.inr (Or.inr (Or.inr (Or.inl hp))))) | exact Or.inr (Or.inr (Or.inr (Or.inr (Or.inr (hp))))) | exact Or.inr (Or.inr (Or.inr (Or.inr (Or.inr (Or.inr (Or.inl hp)))))) | exact Or.inr (Or.inr (Or.inr (Or.inr (Or.inr (Or.inr (hp)))))) | exact Or.inr (Or.inr (Or.inr (Or.inr (Or.inr (Or.inr (Or.inr (Or.inl hp))))))) | exact Or.inr (Or.inr (Or.inr (Or.inr (Or.inr (Or.inr (Or.inr (hp))))))) | exact Or.inr (Or.inr (Or.inr (Or.inr (Or.inr (Or.inr (Or.inr (Or.inr (Or.inl hp)))))))) | exact Or.inr (Or.inr (Or.inr (Or.inr (Or.inr (Or.inr (Or.inr (Or.inr (hp)))))))) | exact Or.inr (Or.inr (Or.inr (Or.inr (Or.inr (Or.inr (Or.inr (Or.inr (Or.inr (Or.inl hp))))))))) | exact Or.inr (Or.inr (Or.inr (Or.inr (Or.inr (Or.inr (Or.inr (Or.inr (Or.inr (hp))))))))) | exact Or.inl (Or.inr hp) | exact Or.inl (Or.inl hp) | exact Or.inl (Or.inl (Or.inr hp)) | exact Or.inl (Or.inl (Or.inl hp)) | exact Or.inl (Or.inr (Or.inl hp)) | exact Or.inr (Or.inl (Or.inr hp)) | exact Or.inr (Or.inl (Or.inl hp)) | exact Or.inr (Or.inl (Or.inl (Or.inr hp))) | exact Or.inr (Or.inl (Or.inl (Or.inl hp))) | exact Or.inr (Or.inl (Or.inr (Or.inl hp))) | exact Or.inr (Or.inr (Or.inl (Or.inr hp))) | exact Or.inr (Or.inr (Or.inl (Or.inl hp))) | exact Or.inr (Or.inr (Or.inl (Or.inl (Or.inr hp)))) | exact Or.inr (Or.inr (Or.inl (Or.inl (Or.inl hp)))) | exact Or.inr (Or.inr (Or.inl (Or.inr (Or.inl hp)))) | exact Or.inr (Or.inr (Or.inr (Or.inl (Or.inr hp)))) | exact Or.inr (Or.inr (Or.inr (Or.inl (Or.inl hp)))) | exact Or.inr (Or.inr (Or.inr (Or.inl (Or.inl (Or.inr hp))))) | exact Or.inr (Or.inr (Or.inr (Or.inl (Or.inl (Or.inl hp))))) | exact Or.inr (Or.inr (Or.inr (Or.inl (Or.inr (Or.inl hp))))) | exact Or.inr (Or.inr (Or.inr (Or.inr (Or.inl (Or.inr hp))))) | exact Or.inr (Or.inr (Or.inr (Or.inr (Or.inl (Or.inl hp))))) | exact Or.inr (Or.inr (Or.inr (Or.inr (Or.inl (Or.inl (Or.inr hp)))))) | exact Or.inr (Or.inr (Or.inr (Or.inr (Or.inl (Or.inl (Or.inl hp)))))) | exact Or.inr (Or.inr (Or.inr (Or.inr (Or.inl (Or.inr (Or.inl hp)))))) | exact Or.inr (Or.inr (Or.inr (Or.inr (Or.inr (Or.inl (Or.inr hp)))))) | exact Or.inr (Or.inr (Or.inr (Or.inr (Or.inr (Or.inl (Or.inl hp)))))) | exact Or.inr (Or.inr (Or.inr (Or.inr (Or.inr (Or.inl (Or.inl (Or.inr hp))))))) | exact Or.inr (Or.inr (Or.inr (Or.inr (Or.inr (Or.inl (Or.inl (Or.inl hp))))))) | exact Or.inr (Or.inr (Or.inr (Or.inr (Or.inr (Or.inl (Or.inr (Or.inl hp))))))) | exact Or.inr (Or.inr (Or.inr (Or.inr (Or.inr (Or.inr (Or.inl (Or.inr hp))))))) | exact Or.inr (Or.inr (Or.inr (Or.inr (Or.inr (Or.inr (Or.inl (Or.inl hp))))))) | exact Or.inr (Or.inr (Or.inr (Or.inr (Or.inr (Or.inr (Or.inl (Or.inl (Or.inr hp)))))))) | exact Or.inr (Or.inr (Or.inr (Or.inr (Or.inr (Or.inr (Or.inl (Or.inl (Or.inl hp)))))))) | exact Or.inr (Or.inr (Or.inr (Or.inr (Or.inr (Or.inr (Or.inl (Or.inr (Or.inl hp)))))))) | exact Or.inr (Or.inr (Or.inr (Or.inr (Or.inr (Or.inr (Or.inr (Or.inl (Or.inr hp)))))))) | exact Or.inr (Or.inr (Or.inr (Or.inr (Or.inr (Or.inr (Or.inr (Or.inl (Or.inl hp)))))))) | exact Or.inr (Or.inr (Or.inr (Or.inr (Or.inr (Or.inr (Or.inr (Or.inl (Or.inl (Or.inr hp))))))))) | exact Or.inr (Or.inr (Or.inr (Or.inr (Or.inr (Or.inr (Or.inr (Or.inl (Or.inl (Or.inl hp))))))))) | exact Or.inr (Or.inr (Or.inr (Or.inr (Or.inr (Or.inr (Or.inr (Or.inl (Or.inr (Or.inl hp)))))))))) | simp [hp])) ?_
    intro so hso hsw
    exact ⟨hy, by rw [hy2]; exact nInv_end hNI1 hperm hpw hso hsw⟩
  · rename Fr _ _ _ _ => lF
    rename News _ _ _ _ => lN
    have hn0 : n = 0 := by omega
    have hys0 : ys = [] := List.eq_nil_of_length_eq_zero (by omega)
    refine hret _ _ D9 ys n lF (fun p hp => lN p (by simp only [List.mem_cons, List.mem_append] at hp ⊢; rcases hp with hp | hp | hp <;> first | with_reducible (first | exact Or.inl hp | exact hp | exact Or.inr (Or.inl hp) | exact Or.inr (hp) | exact Or.inr (Or.inr (Or.inl hp)) | exact Or.inr (Or.inr (hp)) | exact Or.inr (Or.inr (Or.inr (Or.inl hp))) | exact Or.inr (Or.inr (Or.inr (hp))) | exact Or.inr (Or.inr (Or.inr (Or.inr (Or.inl hp)))) | exact Or.inr (Or.inr (Or.inr (Or.inr (hp)))) | exact Or.inr (Or.inr (Or.inr (Or.inr (Or.inr (Or.inl hp))))) | exact Or.inr (Or.inr (Or.inr (Or.inr (Or.inr (hp))))) | exact Or.inr (Or.inr (Or.inr (Or.inr (Or.inr (Or.inr (Or.inl hp)))))) | exact Or.inr (Or.inr (Or.inr (Or.inr (Or.inr (Or.inr (hp)))))) | exact Or.inr (Or.inr (Or.inr (Or.inr (Or.inr (Or.inr (Or.inr (Or.inl hp))))))) | exact Or.inr (Or.inr (Or.inr (Or.inr (Or.inr (Or.inr (Or.inr (hp))))))) | exact Or.inr (Or.inr (Or.inr (Or.inr (Or.inr (Or.inr (Or.inr (Or.inr (Or.inl hp)))))))) | exact Or.inr (Or.inr (Or.inr (Or.inr (Or.inr (Or.inr (Or.inr (Or.inr (hp)))))))) | exact Or.inr (Or.inr (Or.inr (Or.inr (Or.inr (Or.inr (Or.inr (Or.inr (Or.inr (Or.inl hp))))))))) | exact Or.inr (Or.inr (Or.inr (Or.inr (Or.inr (Or.inr (Or.inr (Or.inr (Or.inr (hp))))))))) | exact Or.inl (Or.inr hp) | exact Or.inl (Or.inl hp) | exact Or.inl (Or.inl (Or.inr hp)) | exact Or.inl (Or.inl (Or.inl hp)) | exact Or.inl (Or.inr (Or.inl hp)) | exact Or.inr (Or.inl (Or.inr hp)) | exact Or.inr (Or.inl (Or.inl hp)) | exact Or.inr (Or.inl (Or.inl (Or.inr hp))) | exact Or.inr (Or.inl (Or.inl (Or.inl hp))) | exact Or.inr (Or.inl (Or.inr (Or.inl hp))) | exact Or.inr (Or.inr (Or.inl (Or.inr hp))) | exact Or.inr (Or.inr (Or.inl (Or.inl hp))) | exact Or.inr (Or.inr (Or.inl (Or.inl (Or.inr hp)))) | exact Or.inr (Or.inr (Or.inl (Or.inl (Or.inl hp)))) | exact Or.inr (Or.inr (Or.inl (Or.inr (Or.inl hp)))) | exact Or.inr (Or.inr (Or.inr (Or.inl (Or.inr hp)))) | exact Or.inr (Or.inr (Or.inr (Or.inl (Or.inl hp)))) | exact Or.inr (Or.inr (Or.inr (Or.inl (Or.inl (Or.inr hp))))) | exact Or.inr (Or.inr (Or.inr (Or.inl (Or.inl (Or.inl hp))))) | exact Or.inr (Or.inr (Or.inr (Or.inl (Or.inr (Or.inl hp))))) | exact Or.inr (Or.inr (Or.inr (Or.inr (Or.inl (Or.inr hp))))) | exact Or.inr (Or.inr (Or.inr (Or.inr (Or.inl (Or.inl hp))))) | exact Or.inr (Or.inr (Or.inr (Or.inr (Or.inl (Or.inl (Or.inr hp)))))) | exact Or.inr (Or.inr (Or.inr (Or.inr (Or.inl (Or.inl (Or.inl hp)))))) | exact Or.inr (Or.inr (Or.inr (Or.inr (Or.inl (Or.inr (Or.inl hp)))))) | exact Or.inr (Or.inr (Or.inr (Or.inr (Or.inr (Or.inl (Or.inr hp)))))) | exact Or.inr (Or.inr (Or.inr (Or.inr (Or.inr (Or.inl (Or.inl hp)))))) | exact Or.inr (Or.inr (Or.inr (Or.inr (Or.inr (Or.inl (Or.inl (Or.inr hp))))))) | exact Or.inr (Or.inr (Or.inr (Or.inr (Or.inr (Or.inl (Or.inl (Or.inl hp))))))) | exact Or.inr (Or.inr (Or.inr (Or.inr (Or.inr (Or.inl (Or.inr (Or.inl hp))))))) | exact Or.inr (Or.inr (Or.inr (Or.inr (Or.inr (Or.inr (Or.inl (Or.inr hp))))))) | exact Or.inr (Or.inr (Or.inr (Or.inr (Or.inr (Or.inr (Or.inl (Or.inl hp))))))) | exact Or.inr (Or.inr (Or.inr (Or.inr (Or.inr (Or.inr (Or.inl (Or.inl (Or.inr hp)))))))) | exact Or.inr (Or.inr (Or.inr (Or.inr (Or.inr (Or.inr (Or.inl (Or.inl (Or.inl hp)))))))) | exact Or.inr (Or.inr (Or.inr (Or.inr (Or.inr (Or.inr (Or.inl (Or.inr (Or.inl hp)))))))) | exact Or.inr (Or.inr (Or.inr (Or.inr (Or.inr (Or.inr (Or.inr (Or.inl (Or.inr hp)))))))) | exact Or.inr (Or.inr (Or.inr (Or.inr (Or.inr (Or.inr (Or.inr (Or.inl (Or.inl hp)))))))) | exact Or.inr (Or.inr (Or.inr (Or.inr (Or.inr (Or.inr (Or.inr (Or.inl (Or.inl (Or.inr hp))))))))) | exact Or.inr (Or.inr (Or.inr (Or.inr (Or.inr (Or.inr (Or.inr (Or.inl (Or.inl (Or.inl hp))))))))) | exact Or.inr (Or.inr (Or.inr (Or.inr (Or.inr (Or.inr (Or.inr (Or.inl (Or.inr (Or.inl hp)))))))))) | simp [hp])) ltD9 ?_
    intro so hso hsw
    rw [hys0, hn0]
    exact ⟨by simp, by simp⟩
end
section
set_option maxRecDepth 100000
set_option maxHeartbeats 4000000
open PySem PySem.W PySem.Calls PyProof.Rows
section
variable {prog : Program} {w : World} {A : Around} {E : Value → Shared → Prop} {s : Shared} {h₀ : Heap} {L D : Addr} {m : Str → Option Value} {news : List (Addr × Obj)} {vs : List Value} {n : Nat} {t u : Tok}
theorem g_subLast {value slice : PySem.Expr} {Q : Value → Shared → Prop} {v : Value} (N : News h₀ L s.heap news) (hm : (D, listOf (vs ++ [v]).toArray n) ∈ news) (hz : vs.length ≤ 1000) (h : Q v s)
    (hs : subscripted slice false (.ref D) (.int (-1) u) = operate [.ref D, .int (-1) u] (getItem (.ref D) (.int (-1) u)) := by with_unfolding_all rfl) :
    wpAny (model prog w) A (subscriptTail value slice (.ref D) (.int (-1) u)) Q E s := by
  have hl : s.heap.IsList D (vs ++ [v]).toArray := PySem.IsL.isList (n := n) (N _ hm).1
  refine tail_any hl.typeIs slot_list_getitem.lookup (wpAny_getItem_list_neg hl (by decide) (by simp; omega) (by decide) (x := v) ?_ h) hs
  have e : ((-1 : Int) + (vs ++ [v]).toArray.size).toNat = vs.length := by simp; omega
  rw [e]
  simp
theorem strsAre_of : ∀ {vs : List Value}, (∀ v ∈ vs, IsS v) → StrsAre vs (vs.map strOf)
  | [], _ => .nil
  | v :: vs, h => by
    obtain ⟨x, t, rfl⟩ := h _ (List.mem_cons_self ..)
    exact .cons x t (strsAre_of fun u hu => h u (List.mem_cons_of_mem _ hu))
theorem sumLen_le {B : Nat} : ∀ (l : List Str), (∀ a ∈ l, a.length ≤ B) → (l.map (·.length)).sum ≤ B * l.length
  | [], _ => by simp
  | a :: l, h => by
    have h1 := h a (List.mem_cons_self ..)
    have h2 := sumLen_le l fun x hx => h x (List.mem_cons_of_mem _ hx)
    rw [List.map_cons, List.sum_cons, List.length_cons, Nat.mul_succ]
    omega
theorem glued_len (l : List Str) : (Txt.join (Str.ofString "") l).length = (l.map (·.length)).sum := by
  have z : (Str.ofString "").cps = #[] := by decide
  show (Builtin.Str.glued (Str.ofString "") l).length = _
  unfold Builtin.Str.glued
  rw [z]
  cases l with
  | nil => rfl
  | cons a r =>
    show (((r.foldl (fun acc p => acc ++ #[] ++ p.cps) a.cps) : Array Nat)).size = _
    have go : ∀ (r : List Str) (acc : Array Nat), (r.foldl (fun acc p => acc ++ #[] ++ p.cps) acc).size = acc.size + (r.map (·.length)).sum := by
      intro r
      induction r with
      | nil => intro acc; simp
      | cons b r ih =>
        intro acc
        rw [List.foldl_cons, ih, List.map_cons, List.sum_cons]
        simp [Str.length]
        omega
    rw [go, List.map_cons, List.sum_cons]
    rfl
theorem g_join {Q : Value → Shared → Prop} {B : Nat} (N : News h₀ L s.heap news) (hm : (D, listOf vs.toArray n) ∈ news) (hS : ∀ v ∈ vs, IsS v ∧ (strOf v).length ≤ B) (hB : B * vs.length ≤ 1000) (hz : vs.length ≤ 1000)
    (h : ∀ x t' k, x.length ≤ B * vs.length → Q (.str x t') { s with toks := k }) : wpAny (model prog w) A (call (.builtin "str.join") [.str (Str.ofString "") t, .ref D]) Q E s := by
  have hl : s.heap.IsList D vs.toArray := PySem.IsL.isList (n := n) (N _ hm).1
  have hb := sumLen_le (B := B) (vs.map strOf) fun a ha => by
    obtain ⟨v, hv, rfl⟩ := List.mem_map.mp ha
    exact (hS v hv).2
  rw [List.length_map] at hb
  refine join_list hl (ys := vs.map strOf) (strsAre_of fun v hv => (hS v hv).1) ?_ fun t' k => h _ t' k (by rw [glued_len]; exact hb)
  have z : (Str.ofString "").length = 0 := by decide
  rw [z, List.length_map]
  omega
end
end
section
set_option maxRecDepth 100000
set_option maxHeartbeats 4000000
open PySem PySem.W PySem.Calls PyProof.Rows
open PyProof.Rows.LCg
theorem idx10 (a : Int) : 0 ≤ a.fmod 10 ∧ a.fmod 10 < 10 := by
  rw [Int.fmod_eq_emod_of_nonneg _ (by decide)]; omega
noncomputable def allS4 : List Value → Bool
  | [] => true
  | .str x _ :: r => decide (x.length ≤ 4) && allS4 r
  | _ => false
noncomputable def IsS4 (v : Value) : Prop := IsS v ∧ (strOf v).length ≤ 4
theorem allS4_of : ∀ {vs : List Value}, allS4 vs = true → ∀ v ∈ vs, IsS4 v
  | [], _, v, hv => nomatch hv
  | .str x t :: r, h, v, hv => by
    have h' : (decide (x.length ≤ 4) && allS4 r) = true := h
    rw [Bool.and_eq_true] at h'
    rcases List.mem_cons.mp hv with rfl | hv
    · exact ⟨⟨_, _, rfl⟩, of_decide_eq_true h'.1⟩
    · exact allS4_of h'.2 v hv
theorem g_newList4 {A : Around} {M : Model} {E : Value → Shared → Prop} {s : Shared} {h₀ : Heap} {L : Addr} {m : Str → Option Value} {news : List (Addr × Obj)} {vs : List Value} {Q : Value → Shared → Prop} (F : Fr h₀ L s.heap m) (N : News h₀ L s.heap news) (hv : allS4 vs = true) (hz : vs.length ≤ 1000)
    (h : ∀ l h' us, us.length = vs.length → (∀ v ∈ us, IsS4 v) → Fr h₀ L h' m → News h₀ L h' ((l, listOf (List.toArray us) 0) :: news) → (∀ p ∈ news, p.1 < l) → Q (.ref l) { s with heap := h' }) : wpAny M A (newList vs) Q E s :=
  newList_K F N (fun l h' F' N' lt => h l h' vs rfl (allS4_of hv) F' N' lt) (by rw [sizeLine_eq]; omega)
noncomputable abbrev inn (p : Addr × List Value × Nat) : Addr × Obj := (p.1, listOf p.2.1.toArray p.2.2)
noncomputable abbrev refL (c : List (Addr × List Value × Nat)) : List Value := c.map fun p => Value.ref p.1
noncomputable def TxInv (T0 : Addr) (base : List (Addr × Obj)) (i : Nat) (c : List (Addr × List Value × Nat) × (Addr × List Value × Nat) × Nat) : Prop :=
  3 ≤ c.1.length ∧ c.1.length ≤ 6 ∧ (∀ p ∈ c.1, (∀ v ∈ p.2.1, IsS4 v) ∧ p.2.1.length ≤ 2 + i) ∧ (∀ v ∈ c.2.1.2.1, IsS4 v) ∧ c.2.1.2.1.length ≤ 2 + i ∧ (∀ p ∈ inn c.2.1 :: (c.1.map inn ++ base), p.1 ≠ T0) ∧ ∀ p ∈ c.1.map inn ++ base, p.1 ≠ c.2.1.1
theorem tx_keep {T0 : Addr} {base : List (Addr × Obj)} {i : Nat} {c : List (Addr × List Value × Nat) × (Addr × List Value × Nat) × Nat} (h : TxInv T0 base i c) : TxInv T0 base (i + 1) c := by
  obtain ⟨h1, h2, h3, h4, h5, h6, h7⟩ := h
  exact ⟨h1, h2, fun p hp => ⟨(h3 p hp).1, Nat.le_succ_of_le (h3 p hp).2⟩, h4, Nat.le_succ_of_le h5, h6, h7⟩
theorem tx_push {T0 : Addr} {base : List (Addr × Obj)} {i : Nat} {ini : List (Addr × List Value × Nat)} {la : Addr} {lv : List Value} {lk lk' ek : Nat} {x : Value} (h : TxInv T0 base i (ini, (la, lv, lk), ek)) (hx : IsS4 x) : TxInv T0 base (i + 1) (ini, (la, lv ++ [x], lk'), ek) := by
  obtain ⟨h1, h2, h3, h4, h5, h6, h7⟩ := h
  refine ⟨h1, h2, fun p hp => ⟨(h3 p hp).1, Nat.le_succ_of_le (h3 p hp).2⟩, fun v hv => ?_, ?_, fun p hp => ?_, h7⟩
  · rcases List.mem_append.mp hv with hv | hv
    · exact h4 v hv
    · rw [List.mem_singleton.mp hv]; exact hx
  · have h5' : lv.length ≤ 2 + i := h5
    show (lv ++ [x]).length ≤ 2 + (i + 1)
    rw [List.length_append, List.length_singleton]; omega
  · rcases List.mem_cons.mp hp with rfl | hp
    · exact h6 (inn (la, lv, lk)) (List.mem_cons_self ..)
    · exact h6 p (List.mem_cons_of_mem _ hp)
theorem tx_app {T0 : Addr} {base : List (Addr × Obj)} {i : Nat} {ini : List (Addr × List Value × Nat)} {la E0 : Addr} {lv ue : List Value} {lk ek k0 ek' : Nat} (h : TxInv T0 base i (ini, (la, lv, lk), ek)) (hl : ini.length ≤ 5) (hu : ∀ v ∈ ue, IsS4 v) (hul : ue.length ≤ 2) (hE : E0 ≠ T0) (hne : ∀ p ∈ inn (la, lv, lk) :: (ini.map inn ++ base), p.1 ≠ E0) :
    TxInv T0 base i (ini ++ [(la, lv, lk)], (E0, ue, k0), ek') := by
  obtain ⟨h1, h2, h3, h4, h5, h6, h7⟩ := h
  have sub : ∀ p, p ∈ (ini ++ [(la, lv, lk)]).map inn ++ base → p ∈ inn (la, lv, lk) :: (ini.map inn ++ base) := by
    intro p hp
    rw [List.map_append] at hp
    simp only [List.mem_append, List.mem_cons, List.map_cons, List.map_nil, List.not_mem_nil, or_false] at hp ⊢
    rcases hp with (hp | hp) | hp <;> first | with_reducible (first | exact Or.inl hp | exact hp | exact Or.inr (Or.inl hp) | exact Or.inr (hp) | exact Or.inr (Or.inr (Or.inl hp)) | exact Or.inr (Or.inr (hp)) | exact Or.inr (Or.inr (Or.inr (Or.inl hp))) | exact Or.inr (Or.inr (Or.inr (hp))) | exact Or.inr (Or.inr (Or.inr (Or.inr (Or.inl hp)))) | exact Or.inr (Or.inr (Or.inr (Or.inr (hp)))) | exact Or.inr (Or.inr (Or.inr (Or.inr (Or.inr (Or.inl hp))))) | exact Or.inr (Or.inr (Or.inr (Or.inr (Or.inr (hp))))) | exact Or.inr (Or.inr (Or.inr (Or.inr (Or.inr (Or.inr (Or.inl hp)))))) | exact Or.inr (Or.inr (Or.inr (Or.inr (Or.inr (Or.inr (hp)))))) | exact Or.inr (Or.inr (Or.inr (Or.inr (Or.inr (Or.inr (Or.inr (Or.inl hp))))))) | exact Or.inr (Or.inr (Or.inr (Or.inr (Or.inr (Or.inr (Or.inr (hp))))))) | exact Or.inr (Or.inr (Or.inr (Or.inr (Or.inr (Or.inr (Or.inr (Or.inr (Or.inl hp)))))))) | exact Or.inr (Or.inr (Or.inr (Or.inr (Or.inr (Or.inr (Or.inr (Or.inr (hp)))))))) | exact Or.inr (Or.inr (Or.inr (Or.inr (Or.inr (Or.inr (Or.inr (Or.inr (Or.inr (Or.inl hp))))))))) | exact Or.inr (Or.inr (Or.inr (Or.inr (Or.inr (Or.inr (Or.inr (Or.inr (Or.inr (hp))))))))) | exact Or.inl (Or.inr hp) | exact Or.inl (Or.inl hp) | exact Or.inl (Or.inl (Or.inr hp)) | exact Or.inl (Or.inl (Or.inl hp)) | exact Or.inl (Or.inr (Or.inl hp)) | exact Or.inr (Or.inl (Or.inr hp)) | exact Or.inr (Or.inl (Or.inl hp)) | exact Or.inr (Or.inl (Or.inl (Or.inr hp))) | exact Or.inr (Or.inl (Or.inl (Or.inl hp))) | exact Or.inr (Or.inl (Or.inr (Or.inl hp))) | exact Or.inr (Or.inr (Or.inl (Or.inr hp))) | exact Or.inr (Or.inr (Or.inl (Or.inl hp))) | exact Or.inr (Or.inr (Or.inl (Or.inl (Or.inr hp)))) | exact Or.inr (Or.inr (Or.inl (Or.inl (Or.inl hp)))) | exact Or.inr (Or.inr (Or.inl (Or.inr (Or.inl hp)))) | exact Or.inr (Or.inr (Or.inr (Or.inl (Or.inr hp)))) | exact Or.inr (Or.inr (Or.inr (Or.inl (Or.inl hp)))) | exact Or.inr (Or.inr (Or.inr (Or.inl (Or.inl (Or.inr hp))))) | exact Or.inr (Or.inr (Or.inr (Or.inl (Or.inl (Or.inl hp))))) | exact Or.inr (Or.inr (Or.inr (Or.inl (Or.inr (Or.inl hp))))) | exact Or.inr (Or.inr (Or.inr (Or.inr (Or.inl (Or.inr hp))))) | exact Or.inr (Or.inr (Or.inr (Or.inr (Or.inl (Or.inl hp))))) | exact Or.inr (Or.inr (Or.inr (Or.inr (Or.inl (Or.inl (Or.inr hp)))))) | exact Or.inr (Or.inr (Or.inr (Or.inr (Or.inl (Or.inl (Or.inl hp)))))) | exact Or.inr (Or.inr (Or.inr (Or.inr (Or.inl (Or.inr (Or.inl hp)))))) | exact Or.inr (Or.inr (Or.inr (Or.inr (Or.inr (Or.inl (Or.inr hp)))))) | exact Or.inr (Or.inr (Or.inr (Or.inr (Or.inr (Or.inl (Or.inl hp)))))) | exact Or.inr (Or.inr (Or.inr (Or.inr (Or.inr (Or.inl (Or.inl (Or.inr hp))))))) | exact Or.inr (Or.inr (Or.inr (Or.inr (Or.inr (Or.inl (Or.inl (Or.inl hp))))))) | exact Or.inr (Or.inr (Or.inr (Or.inr (Or.inr (Or.inl (Or.inr (Or.inl hp))))))) | exact Or.inr (Or.inr (Or.inr (Or.inr (Or.inr (Or.inr (Or.inl (Or.inr hp))))))) | exact Or.inr (Or.inr (Or.inr (Or.inr (Or.inr (Or.inr (Or.inl (Or.inl hp))))))) | exact Or.inr (Or.inr (Or.inr (Or.inr (Or.inr (Or.inr (Or.inl (Or.inl (Or.inr hp)))))))) | exact Or.inr (Or.inr (Or.inr (Or.inr (Or.inr (Or.inr (Or.inl (Or.inl (Or.inl hp)))))))) | exact Or.inr (Or.inr (Or.inr (Or.inr (Or.inr (Or.inr (Or.inl (Or.inr (Or.inl hp)))))))) | exact Or.inr (Or.inr (Or.inr (Or.inr (Or.inr (Or.inr (Or.inr (Or.inl (Or.inr hp)))))))) | exact Or.inr (Or.inr (Or.inr (Or.inr (Or.inr (Or.inr (Or.inr (Or.inl (Or.inl hp)))))))) | exact Or.inr (Or.inr (Or.inr (Or.inr (Or.inr (Or.inr (Or.inr (Or.inl (Or.inl (Or.inr hp))))))))) | exact Or.inr (Or.inr (Or.inr (Or.inr (Or.inr (Or.inr (Or.inr (Or.inl (Or.inl (Or.inl hp))))))))) | exact Or.inr (Or.inr (Or.inr (Or.inr (Or.inr (Or.inr (Or.inr (Or.inl (Or.inr (Or.inl hp)))))))))) | simp [hp]
  refine ⟨?_, ?_, fun p hp => ?_, hu, by dsimp only; omega, fun p hp => ?_, fun p hp => hne p (sub p hp)⟩
  · show 3 ≤ (ini ++ [(la, lv, lk)]).length
    have h1' : 3 ≤ ini.length := h1
    rw [List.length_append]; omega
  · show (ini ++ [(la, lv, lk)]).length ≤ 6
    rw [List.length_append, List.length_singleton]; omega
  · rcases List.mem_append.mp hp with hp | hp
    · exact h3 p hp
    · rw [List.mem_singleton.mp hp]; exact ⟨h4, h5⟩
  · rcases List.mem_cons.mp hp with rfl | hp
    · exact hE
    · exact h6 p (sub p hp)
theorem refL_snoc (ini : List (Addr × List Value × Nat)) (la : Addr) (lv : List Value) (lk : Nat) : refL (ini ++ [(la, lv, lk)]) = refL ini ++ [Value.ref la] := List.map_append ..
theorem tx_T {T0 E0 la : Addr} {ini : List (Addr × List Value × Nat)} {lv : List Value} {lk ek : Nat} {N' : List (Addr × Obj)} (h : (T0, listOf ((refL ini ++ [Value.ref la]) ++ [Value.ref E0]).toArray ek) ∈ N') : (T0, listOf (refL (ini ++ [(la, lv, lk)]) ++ [Value.ref E0]).toArray ek) ∈ N' := by
  rw [refL_snoc]; exact h
theorem tx_subA {ini : List (Addr × List Value × Nat)} {x : Addr × List Value × Nat} {T E P n : Addr × Obj} {R W N' : List (Addr × Obj)} (hT : T ∈ N') (hE : E ∈ N') (hx : inn x ∈ N') (hR : ∀ p ∈ P :: (ini.map inn ++ n :: R ++ W), p ∈ N') :
    ∀ p ∈ T :: E :: ((ini ++ [x]).map inn ++ P :: n :: R), p ∈ N' := by
  intro p hp
  rw [List.map_append] at hp
  simp only [List.map_cons, List.map_nil, List.mem_cons, List.mem_append, List.not_mem_nil, or_false] at hp
  rcases hp with rfl | rfl | (hp | rfl) | rfl | rfl | hp
  · exact hT
  · exact hE
  · exact hR p (by simp [hp])
  · exact hx
  · exact hR _ (by first | k_mem | simp)
  · exact hR _ (by first | k_mem | simp)
  · exact hR p (by simp [hp])
theorem tx_subB {T l P n : Addr × Obj} {I R W N' : List (Addr × Obj)} (hT : T ∈ N') (hx : l ∈ N') (hR : ∀ p ∈ P :: (I ++ n :: R ++ W), p ∈ N') : ∀ p ∈ T :: l :: (I ++ P :: n :: R), p ∈ N' := by
  intro p hp
  simp only [List.mem_cons, List.mem_append] at hp
  rcases hp with rfl | rfl | hp | rfl | rfl | hp
  · exact hT
  · exact hx
  · exact hR p (by simp [hp])
  · exact hR _ (by first | k_mem | simp)
  · exact hR _ (by first | k_mem | simp)
  · exact hR p (by simp [hp])
theorem tx_subC {T l P n : Addr × Obj} {I R W : List (Addr × Obj)} : ∀ p ∈ l :: (I ++ P :: n :: R), p ∈ T :: l :: P :: (I ++ n :: R ++ W) := by
  intro p hp
  simp only [List.mem_cons, List.mem_append] at hp
  rcases hp with rfl | hp | rfl | rfl | hp <;> simp_all
theorem tx_own {P n : Addr × Obj} {I R W N' : List (Addr × Obj)} (hR : ∀ p ∈ P :: (I ++ n :: R ++ W), p ∈ N') : ∀ p ∈ W, p ∈ N' := fun p hp => hR p (List.mem_cons_of_mem _ (List.mem_append_right _ hp))
theorem tx_hwA {ini : List (Addr × List Value × Nat)} {x : Addr × List Value × Nat} {T T' E P n : Addr × Obj} {R : List (Addr × Obj)} {wr : List Addr} (hnw : ∀ p ∈ T :: inn x :: (ini.map inn ++ P :: n :: R), p.1 ∉ wr) (hT : T.1 = T'.1) (hE : E.1 ∉ wr) :
    ∀ p ∈ T' :: E :: ((ini ++ [x]).map inn ++ P :: n :: R), p.1 ∉ wr := by
  intro p hp
  rw [List.map_append] at hp
  simp only [List.map_cons, List.map_nil, List.mem_cons, List.mem_append, List.not_mem_nil, or_false] at hp
  rcases hp with rfl | rfl | (hp | rfl) | rfl | rfl | hp
  · exact hT ▸ hnw T (by first | k_mem | simp)
  · exact hE
  · exact hnw p (by simp [hp])
  · exact hnw _ (by first | k_mem | simp)
  · exact hnw _ (by first | k_mem | simp)
  · exact hnw _ (by first | k_mem | simp)
  · exact hnw p (by simp [hp])
theorem tx_hwB {T T' l l' : Addr × Obj} {M : List (Addr × Obj)} {wr : List Addr} (hnw : ∀ p ∈ T :: l :: M, p.1 ∉ wr) (hT : T.1 = T'.1) (hl : l.1 = l'.1) : ∀ p ∈ T' :: l' :: M, p.1 ∉ wr := by
  intro p hp
  rcases List.mem_cons.mp hp with rfl | hp
  · exact hT ▸ hnw T (by first | k_mem | simp)
  rcases List.mem_cons.mp hp with rfl | hp
  · exact hl ▸ hnw l (by first | k_mem | simp)
  · exact hnw p (by simp [hp])
theorem ints_mem {vs : List Value} {ns : List Int} (h : IntsAre vs ns) : ∀ v ∈ vs, ∃ k t, v = .int k t := by
  induction h with
  | nil => intro v hv; cases hv
  | cons n t _ ih =>
    intro v hv
    rcases List.mem_cons.mp hv with rfl | hv
    · exact ⟨_, _, rfl⟩
    · exact ih v hv
theorem c_texts {w : World} {mean : ExcName → Option Value} {mg mb : Str → Option Value} :
   ∀ (dp un : Nat) (gd : Option (List Code)) (cn : Str) (cs : Scope) (a : Addr) (ccd : Value) (cl : List (Str × Addr)) (outer : List Env) (A₀ : Around) (base h₀ : Heap) (L : Addr) (m : Str → Option Value) (rest : List (Addr × Obj)) (s : Shared) (nl : Addr) (n0 : Nat) (vs : List Value) (ns : List Int)
    (Q E : Value → Shared → Prop),
    Below A₀ base outer h₀ → Fr h₀ L s.heap m → (hd.heap_39 w.params).In h₀ → News h₀ L s.heap ((nl, listOf vs.toArray n0) :: rest) →
    Top hd.view_39 (looseW hd.view_39 [Str.ofString "nsmallest", Str.ofString "escape", Str.ofString "unescape"]) mean mg mb h₀ → cs.kind = .function →
    (∀ p ∈ rest, p.1 ≠ nl) → IntsAre vs ns → vs.length ≤ 8 → dp + 6 < recursionLimit → un + 600 < cLine →
    (∀ h' tk' (D : Addr) (ys : List Value) (k9 : Nat), Fr h₀ L h' m → News h₀ L h' ((D, listOf ys.toArray k9) :: (nl, listOf vs.toArray n0) :: rest) → (∀ p ∈ ((nl, listOf vs.toArray n0) :: rest : List (Addr × Obj)), p.1 ≠ D) → (∀ v ∈ ys, IsS v ∧ (strOf v).length ≤ 100) → 4 ≤ ys.length → ys.length ≤ 7 → Q (.ref D) { s with heap := h', toks := tk' }) →
    wpAny (model PySem.Challenge.rw_ij0043_01.row.prog w) (ktrTop dp un gd cn cs L a ccd cl outer) (call (.ref 106) [.ref nl]) Q E s := by
  w_top off
  k_fill
  intro dp un gd cn cs a ccd cl outer A₀ base h₀ L m rest s nl n0 vs ns Q E B F X N T hk hr hI h8 hdp hun hret
  refine wpAny_call ?_
  refine' code_def (binds := [(Str.ofString "numbers", .ref nl)]) B F X N T rfl rfl hk ?k6 ?k7 ?k8 ?k9 ?kB ?_ ?c2 ?c3 ?c4 ?c5
  case k6 => k_is
  case k7 => k_is
  case k8 => ktr_room
  case k9 => exact BindsTo.of_eq rfl
  case kB => exact locs rfl
  case c2 => exact rfl
  case c3 => exact rfl
  case c4 => exact rfl
  case c5 => decide
  intro g' L' h' FG' F' N' B' X' T'
  (try dsimp only)
  k_fold
  k_with_none
  k_with "call builtin:len" => (k_here; (with_reducible show wpAny _ _ (call (Value.builtin "len") [Value.ref _]) _ _ _); k_dflt (refine g_len (by k_asm) (by k_mem) (by first | omega | (simp only [List.length_append, List.length_cons, List.length_nil, List.length_set, List.length_dropLast, List.size_toArray] at *; omega)) ?_; k_whole); intro _ _)
  k_with "binaryOp RShift int int" => (k_here; (refine g_shr1 (by first | omega | (simp only [List.length_append, List.length_cons, List.length_nil, List.length_set, List.length_dropLast, List.size_toArray] at *; omega)) ?_); intro _ _)
  k_with "setItem ref int" => (k_here; (try dsimp only); k_dflt (refine g_set (by k_asm) (by k_asm) (by exact Upd.head (by assumption)) (by first | omega | (simp only [List.length_append, List.length_cons, List.length_nil, List.length_set, List.length_dropLast, List.size_toArray] at *; omega)) (by first | omega | (simp only [List.length_append, List.length_cons, List.length_nil, List.length_set, List.length_dropLast, List.size_toArray] at *; omega)) (by first | omega | (simp only [List.length_append, List.length_cons, List.length_nil, List.length_set, List.length_dropLast, List.size_toArray] at *; omega)) ?_; k_whole); intro h9q F9q N9q; (try k_sweep))
  k_with "call builtin:list.append" => (k_here; (with_reducible show wpAny _ _ (call (Value.builtin _) [Value.ref _, _]) _ _ _); k_dflt (refine g_app (by k_asm) (by k_asm) (by exact Upd.head (by assumption)) (by first | omega | (simp only [List.length_append, List.length_cons, List.length_nil, List.length_set, List.length_dropLast, List.size_toArray] at *; omega)) ?_; k_whole); intro h9q F9q N9q; (try k_sweep))
  k_with "call builtin:list.pop" => (k_here; (with_reducible show wpAny _ _ (call (Value.builtin _) [Value.ref _]) _ _ _); k_dflt (refine g_pop (by k_asm) (by k_asm) (by exact Upd.head (by assumption)) (by first | omega | (simp only [List.length_append, List.length_cons, List.length_nil, List.length_set, List.length_dropLast, List.size_toArray] at *; omega)) (by first | omega | (simp only [List.length_append, List.length_cons, List.length_nil, List.length_set, List.length_dropLast, List.size_toArray] at *; omega)) ?_; k_whole); intro h9q F9q N9q; (try k_sweep))
  k_with "truthy ref" => (k_here; (with_reducible show wpAny _ _ (truthy (Value.ref _)) _ _ _); k_dflt (refine g_truthy (by k_asm) (by k_mem) (by first | omega | (simp only [List.length_append, List.length_cons, List.length_nil, List.length_set, List.length_dropLast, List.size_toArray] at *; omega)) ?_; k_whole); intro _)
  k_with "exec For Name Name cons nil" => (k_here; (rename Fr _ _ _ _ => lF'); k_dflt (with_unfolding_all refine For_invVF lF' (by exact rfl) (by exact rfl) ?_; k_whole))
  k_with "eval ListComp" => (k_here; k_dflt (refine LCg.ListComp_U (F₀ := by k_asm) (by with_unfolding_all rfl) (by decide) (by rfl) (by decide) (by rfl) ?_))
  k_with "newList" => (
    rename Fr _ _ _ _ => lF
    rename News _ _ _ _ => lN
    first
    | (have := ltT0
       refine g_newList4 lF lN (by rfl) (by first | k_mem | simp) ?_
       intro E0 hE0 ue lue hue FE0 NE0 ltE0)
    | (have := ltA4
       refine newList_K lF lN ?_ (by rw [sizeLine_eq]; simp only [List.length_cons, List.length_nil]; omega)
       intro T0 hT0 FT0 NT0 ltT0)
    | (have := ltA3
       refine g_newList4 lF lN (by rfl) (by first | k_mem | simp) ?_
       intro A4 hA4 u4 lu4 hu4 FA4 NA4 ltA4)
    | (have := ltA2
       refine g_newList4 lF lN (by rfl) (by first | k_mem | simp) ?_
       intro A3 hA3 u3 lu3 hu3 FA3 NA3 ltA3)
    | (have := ltA1
       refine g_newList4 lF lN (by rfl) (by first | k_mem | simp) ?_
       intro A2 hA2 u2 lu2 hu2 FA2 NA2 ltA2)
    | (have := ltP0
       refine g_newList4 lF lN (by rfl) (by first | k_mem | simp) ?_
       intro A1 hA1 u1 lu1 hu1 FA1 NA1 ltA1)
    | (refine g_newList4 lF lN (by rfl) (by first | k_mem | simp) ?_
       intro P0 hP0 u0 lu0 hu0 FP0 NP0 ltP0))
  k_with "pyIter ref" => (
    rename Fr _ _ _ _ => lF
    rename News _ _ _ _ => lN
    have hnl := lN (nl, listOf vs.toArray n0) (by first | k_mem | simp)
    have hl : Heap.IsList _ nl vs.toArray := PySem.IsL.isList (n := n0) hnl.1
    have hlt : ∀ p ∈ ((T0, listOf [Value.ref A1, Value.ref A2, Value.ref A3, Value.ref A4].toArray 0) :: (A4, listOf u4.toArray 0) :: (A3, listOf u3.toArray 0) :: (A2, listOf u2.toArray 0) :: (A1, listOf u1.toArray 0) :: (P0, listOf u0.toArray 0) :: (nl, listOf vs.toArray n0) :: rest : List (Addr × Obj)), p.1 < _ := fun p hp => Heap.lt_size (lN p hp).1
    have hlu0 : u0.length = 10 := lu0
    have hI0 := next_is_new lF
    refine wpAny_pyIter_list (by exact hl) ?_
    refine' g_for (σ := List (Addr × List Value × Nat) × (Addr × List Value × Nat) × Nat) (fun c => (T0, listOf (refL c.1 ++ [Value.ref c.2.1.1]).toArray c.2.2) :: inn c.2.1 :: (c.1.map inn ++ (P0, listOf u0.toArray 0) :: (nl, listOf vs.toArray n0) :: rest)) (fun _ => []) []
      (fun i c => TxInv T0 ((P0, listOf u0.toArray 0) :: (nl, listOf vs.toArray n0) :: rest) i c) ([(A1, u1, 0), (A2, u2, 0), (A3, u3, 0)], (A4, u4, 0), 0)
      (Walks.list (by rfl) _ nl (Nat.ne_of_lt (hlt (nl, listOf vs.toArray n0) (by first | k_mem | simp))) vs.toArray) ?gf1 ?gf2 ?gf3 ⟨⟨_, Heap.get?_push_size _ rfl, rfl, rfl⟩, hl.push _⟩ (lF.push _) (fun p hp => ⟨Heap.get?_push_of_some _ (lN p (by
        have hp' : p ∈ (T0, listOf [Value.ref A1, Value.ref A2, Value.ref A3, Value.ref A4].toArray 0) :: (A4, listOf u4.toArray 0) :: (A1, listOf u1.toArray 0) :: (A2, listOf u2.toArray 0) :: (A3, listOf u3.toArray 0) :: (P0, listOf u0.toArray 0) :: (nl, listOf vs.toArray n0) :: rest := hp
        simp only [List.mem_cons] at hp' ⊢
        rcases hp' with q | q | q | q | q | q | q | q <;> first | with_reducible (first | exact Or.inl q | exact q | exact Or.inr (Or.inl q) | exact Or.inr (q) | exact Or.inr (Or.inr (Or.inl q)) | exact Or.inr (Or.inr (q)) | exact Or.inr (Or.inr (Or.inr (Or.inl q))) | exact Or.inr (Or.inr (Or.inr (q))) | exact Or.inr (Or.inr (Or.inr (Or.inr (Or.inl q)))) | exact Or.inr (Or.inr (Or.inr (Or.inr (q)))) | exact Or.inr (Or.inr (Or.inr (Or.inr (Or.inr (Or.inl q))))) | exact Or.inr (Or.inr (Or.inr (Or.inr (Or.inr (q))))) | exact Or.inr (Or.inr (Or.inr (Or.inr (Or.inr (Or.inr (Or.inl q)))))) | exact Or.inr (Or.inr (Or.inr (Or.inr (Or.inr (Or.inr (q)))))) | exact Or.inr (Or.inr (Or.inr (Or.inr (Or.inr (Or.inr (Or.inr (Or.inl q))))))) | exact Or.inr (Or.inr (Or.inr (Or.inr (Or.inr (Or.inr (Or.inr (q))))))) | exact Or.inr (Or.inr (Or.inr (Or.inr (Or.inr (Or.inr (Or.inr (Or.inr (Or.inl q)))))))) | exact Or.inr (Or.inr (Or.inr (Or.inr (Or.inr (Or.inr (Or.inr (Or.inr (q)))))))) | exact Or.inr (Or.inr (Or.inr (Or.inr (Or.inr (Or.inr (Or.inr (Or.inr (Or.inr (Or.inl q))))))))) | exact Or.inr (Or.inr (Or.inr (Or.inr (Or.inr (Or.inr (Or.inr (Or.inr (Or.inr (q))))))))) | exact Or.inl (Or.inr q) | exact Or.inl (Or.inl q) | exact Or.inl (Or.inl (Or.inr q)) | exact Or.inl (Or.inl (Or.inl q)) | exact Or.inl (Or.inr (Or.inl q)) | exact Or.inr (Or.inl (Or.inr q)) | exact Or.inr (Or.inl (Or.inl q)) | exact Or.inr (Or.inl (Or.inl (Or.inr q))) | exact Or.inr (Or.inl (Or.inl (Or.inl q))) | exact Or.inr (Or.inl (Or.inr (Or.inl q))) | exact Or.inr (Or.inr (Or.inl (Or.inr q))) | exact Or.inr (Or.inr (Or.inl (Or.inl q))) | exact Or.inr (Or.inr (Or.inl (Or.inl (Or.inr q)))) | exact Or.inr (Or.inr (Or.inl (Or.inl (Or.inl q)))) | exact Or.inr (Or.inr (Or.inl (Or.inr (Or.inl q)))) | exact Or.inr (Or.inr (Or.inr (Or.inl (Or.inr q)))) | exact Or.inr (Or.inr (Or.inr (Or.inl (Or.inl q)))) | exact Or.inr (Or.inr (Or.inr (Or.inl (Or.inl (Or.inr q))))) | exact Or.inr (Or.inr (Or.inr (Or.inl (Or.inl (Or.inl q))))) | exact Or.inr (Or.inr (Or.inr (Or.inl (Or.inr (Or.inl q))))) | exact Or.inr (Or.inr (Or.inr (Or.inr (Or.inl (Or.inr q))))) | exact Or.inr (Or.inr (Or.inr (Or.inr (Or.inl (Or.inl q))))) | exact Or.inr (Or.inr (Or.inr (Or.inr (Or.inl (Or.inl (Or.inr q)))))) | exact Or.inr (Or.inr (Or.inr (Or.inr (Or.inl (Or.inl (Or.inl q)))))) | exact Or.inr (Or.inr (Or.inr (Or.inr (Or.inl (Or.inr (Or.inl q)))))) | exact Or.inr (Or.inr (Or.inr (Or.inr (Or.inr (Or.inl (Or.inr q)))))) | exact Or.inr (Or.inr (Or.inr (Or.inr (Or.inr (Or.inl (Or.inl q)))))) | exact Or.inr (Or.inr (Or.inr (Or.inr (Or.inr (Or.inl (Or.inl (Or.inr q))))))) | exact Or.inr (Or.inr (Or.inr (Or.inr (Or.inr (Or.inl (Or.inl (Or.inl q))))))) | exact Or.inr (Or.inr (Or.inr (Or.inr (Or.inr (Or.inl (Or.inr (Or.inl q))))))) | exact Or.inr (Or.inr (Or.inr (Or.inr (Or.inr (Or.inr (Or.inl (Or.inr q))))))) | exact Or.inr (Or.inr (Or.inr (Or.inr (Or.inr (Or.inr (Or.inl (Or.inl q))))))) | exact Or.inr (Or.inr (Or.inr (Or.inr (Or.inr (Or.inr (Or.inl (Or.inl (Or.inr q)))))))) | exact Or.inr (Or.inr (Or.inr (Or.inr (Or.inr (Or.inr (Or.inl (Or.inl (Or.inl q)))))))) | exact Or.inr (Or.inr (Or.inr (Or.inr (Or.inr (Or.inr (Or.inl (Or.inr (Or.inl q)))))))) | exact Or.inr (Or.inr (Or.inr (Or.inr (Or.inr (Or.inr (Or.inr (Or.inl (Or.inr q)))))))) | exact Or.inr (Or.inr (Or.inr (Or.inr (Or.inr (Or.inr (Or.inr (Or.inl (Or.inl q)))))))) | exact Or.inr (Or.inr (Or.inr (Or.inr (Or.inr (Or.inr (Or.inr (Or.inl (Or.inl (Or.inr q))))))))) | exact Or.inr (Or.inr (Or.inr (Or.inr (Or.inr (Or.inr (Or.inr (Or.inl (Or.inl (Or.inl q))))))))) | exact Or.inr (Or.inr (Or.inr (Or.inr (Or.inr (Or.inr (Or.inr (Or.inl (Or.inr (Or.inl q)))))))))) | simp [q])).1, (lN p (by
        have hp' : p ∈ (T0, listOf [Value.ref A1, Value.ref A2, Value.ref A3, Value.ref A4].toArray 0) :: (A4, listOf u4.toArray 0) :: (A1, listOf u1.toArray 0) :: (A2, listOf u2.toArray 0) :: (A3, listOf u3.toArray 0) :: (P0, listOf u0.toArray 0) :: (nl, listOf vs.toArray n0) :: rest := hp
        simp only [List.mem_cons] at hp' ⊢
        rcases hp' with q | q | q | q | q | q | q | q <;> first | with_reducible (first | exact Or.inl q | exact q | exact Or.inr (Or.inl q) | exact Or.inr (q) | exact Or.inr (Or.inr (Or.inl q)) | exact Or.inr (Or.inr (q)) | exact Or.inr (Or.inr (Or.inr (Or.inl q))) | exact Or.inr (Or.inr (Or.inr (q))) | exact Or.inr (Or.inr (Or.inr (Or.inr (Or.inl q)))) | exact Or.inr (Or.inr (Or.inr (Or.inr (q)))) | exact Or.inr (Or.inr (Or.inr (Or.inr (Or.inr (Or.inl q))))) | exact Or.inr (Or.inr (Or.inr (Or.inr (Or.inr (q))))) | exact Or.inr (Or.inr (Or.inr (Or.inr (Or.inr (Or.inr (Or.inl q)))))) | exact Or.inr (Or.inr (Or.inr (Or.inr (Or.inr (Or.inr (q)))))) | exact Or.inr (Or.inr (Or.inr (Or.inr (Or.inr (Or.inr (Or.inr (Or.inl q))))))) | exact Or.inr (Or.inr (Or.inr (Or.inr (Or.inr (Or.inr (Or.inr (q))))))) | exact Or.inr (Or.inr (Or.inr (Or.inr (Or.inr (Or.inr (Or.inr (Or.inr (Or.inl q)))))))) | exact Or.inr (Or.inr (Or.inr (Or.inr (Or.inr (Or.inr (Or.inr (Or.inr (q)))))))) | exact Or.inr (Or.inr (Or.inr (Or.inr (Or.inr (Or.inr (Or.inr (Or.inr (Or.inr (Or.inl q))))))))) | exact Or.inr (Or.inr (Or.inr (Or.inr (Or.inr (Or.inr (Or.inr (Or.inr (Or.inr (q))))))))) | exact Or.inl (Or.inr q) | exact Or.inl (Or.inl q) | exact Or.inl (Or.inl (Or.inr q)) | exact Or.inl (Or.inl (Or.inl q)) | exact Or.inl (Or.inr (Or.inl q)) | exact Or.inr (Or.inl (Or.inr q)) | exact Or.inr (Or.inl (Or.inl q)) | exact Or.inr (Or.inl (Or.inl (Or.inr q))) | exact Or.inr (Or.inl (Or.inl (Or.inl q))) | exact Or.inr (Or.inl (Or.inr (Or.inl q))) | exact Or.inr (Or.inr (Or.inl (Or.inr q))) | exact Or.inr (Or.inr (Or.inl (Or.inl q))) | exact Or.inr (Or.inr (Or.inl (Or.inl (Or.inr q)))) | exact Or.inr (Or.inr (Or.inl (Or.inl (Or.inl q)))) | exact Or.inr (Or.inr (Or.inl (Or.inr (Or.inl q)))) | exact Or.inr (Or.inr (Or.inr (Or.inl (Or.inr q)))) | exact Or.inr (Or.inr (Or.inr (Or.inl (Or.inl q)))) | exact Or.inr (Or.inr (Or.inr (Or.inl (Or.inl (Or.inr q))))) | exact Or.inr (Or.inr (Or.inr (Or.inl (Or.inl (Or.inl q))))) | exact Or.inr (Or.inr (Or.inr (Or.inl (Or.inr (Or.inl q))))) | exact Or.inr (Or.inr (Or.inr (Or.inr (Or.inl (Or.inr q))))) | exact Or.inr (Or.inr (Or.inr (Or.inr (Or.inl (Or.inl q))))) | exact Or.inr (Or.inr (Or.inr (Or.inr (Or.inl (Or.inl (Or.inr q)))))) | exact Or.inr (Or.inr (Or.inr (Or.inr (Or.inl (Or.inl (Or.inl q)))))) | exact Or.inr (Or.inr (Or.inr (Or.inr (Or.inl (Or.inr (Or.inl q)))))) | exact Or.inr (Or.inr (Or.inr (Or.inr (Or.inr (Or.inl (Or.inr q)))))) | exact Or.inr (Or.inr (Or.inr (Or.inr (Or.inr (Or.inl (Or.inl q)))))) | exact Or.inr (Or.inr (Or.inr (Or.inr (Or.inr (Or.inl (Or.inl (Or.inr q))))))) | exact Or.inr (Or.inr (Or.inr (Or.inr (Or.inr (Or.inl (Or.inl (Or.inl q))))))) | exact Or.inr (Or.inr (Or.inr (Or.inr (Or.inr (Or.inl (Or.inr (Or.inl q))))))) | exact Or.inr (Or.inr (Or.inr (Or.inr (Or.inr (Or.inr (Or.inl (Or.inr q))))))) | exact Or.inr (Or.inr (Or.inr (Or.inr (Or.inr (Or.inr (Or.inl (Or.inl q))))))) | exact Or.inr (Or.inr (Or.inr (Or.inr (Or.inr (Or.inr (Or.inl (Or.inl (Or.inr q)))))))) | exact Or.inr (Or.inr (Or.inr (Or.inr (Or.inr (Or.inr (Or.inl (Or.inl (Or.inl q)))))))) | exact Or.inr (Or.inr (Or.inr (Or.inr (Or.inr (Or.inr (Or.inl (Or.inr (Or.inl q)))))))) | exact Or.inr (Or.inr (Or.inr (Or.inr (Or.inr (Or.inr (Or.inr (Or.inl (Or.inr q)))))))) | exact Or.inr (Or.inr (Or.inr (Or.inr (Or.inr (Or.inr (Or.inr (Or.inl (Or.inl q)))))))) | exact Or.inr (Or.inr (Or.inr (Or.inr (Or.inr (Or.inr (Or.inr (Or.inl (Or.inl (Or.inr q))))))))) | exact Or.inr (Or.inr (Or.inr (Or.inr (Or.inr (Or.inr (Or.inr (Or.inl (Or.inl (Or.inl q))))))))) | exact Or.inr (Or.inr (Or.inr (Or.inr (Or.inr (Or.inr (Or.inr (Or.inl (Or.inr (Or.inl q)))))))))) | simp [q])).2⟩) (by intro p hp; cases hp) ?gf4 ?gturn1 ?gdone1
    case gf1 =>
      intro hm
      rcases List.mem_cons.mp hm with e | hm
      · exact absurd lF.ns.lt (e ▸ Nat.lt_irrefl _)
      · exact hnl.2.1 (List.mem_singleton.mp hm).symm
    case gf2 =>
      intro b hb
      rw [List.mem_singleton.mp hb]
      exact next_is_new lF
    case gf3 =>
      intro p hp hq
      have hp' : p ∈ (T0, listOf [Value.ref A1, Value.ref A2, Value.ref A3, Value.ref A4].toArray 0) :: (A4, listOf u4.toArray 0) :: (A1, listOf u1.toArray 0) :: (A2, listOf u2.toArray 0) :: (A3, listOf u3.toArray 0) :: (P0, listOf u0.toArray 0) :: (nl, listOf vs.toArray n0) :: rest := hp
      have := hlt p (by
        simp only [List.mem_cons] at hp' ⊢
        rcases hp' with q | q | q | q | q | q | q | q <;> first | with_reducible (first | exact Or.inl q | exact q | exact Or.inr (Or.inl q) | exact Or.inr (q) | exact Or.inr (Or.inr (Or.inl q)) | exact Or.inr (Or.inr (q)) | exact Or.inr (Or.inr (Or.inr (Or.inl q))) | exact Or.inr (Or.inr (Or.inr (q))) | exact Or.inr (Or.inr (Or.inr (Or.inr (Or.inl q)))) | exact Or.inr (Or.inr (Or.inr (Or.inr (q)))) | exact Or.inr (Or.inr (Or.inr (Or.inr (Or.inr (Or.inl q))))) | exact Or.inr (Or.inr (Or.inr (Or.inr (Or.inr (q))))) | exact Or.inr (Or.inr (Or.inr (Or.inr (Or.inr (Or.inr (Or.inl q)))))) | exact Or.inr (Or.inr (Or.inr (Or.inr (Or.inr (Or.inr (q)))))) | exact Or.inr (Or.inr (Or.inr (Or.inr (Or.inr (Or.inr (Or.inr (Or.inl q))))))) | exact Or.inr (Or.inr (Or.inr (Or.inr (Or.inr (Or.inr (Or.inr (q))))))) | exact Or.inr (Or.inr (Or.inr (Or.inr (Or.inr (Or.inr (Or.inr (Or.inr (Or.inl q)))))))) | exact Or.inr (Or.inr (Or.inr (Or.inr (Or.inr (Or.inr (Or.inr (Or.inr (q)))))))) | exact Or.inr (Or.inr (Or.inr (Or.inr (Or.inr (Or.inr (Or.inr (Or.inr (Or.inr (Or.inl q))))))))) | exact Or.inr (Or.inr (Or.inr (Or.inr (Or.inr (Or.inr (Or.inr (Or.inr (Or.inr (q))))))))) | exact Or.inl (Or.inr q) | exact Or.inl (Or.inl q) | exact Or.inl (Or.inl (Or.inr q)) | exact Or.inl (Or.inl (Or.inl q)) | exact Or.inl (Or.inr (Or.inl q)) | exact Or.inr (Or.inl (Or.inr q)) | exact Or.inr (Or.inl (Or.inl q)) | exact Or.inr (Or.inl (Or.inl (Or.inr q))) | exact Or.inr (Or.inl (Or.inl (Or.inl q))) | exact Or.inr (Or.inl (Or.inr (Or.inl q))) | exact Or.inr (Or.inr (Or.inl (Or.inr q))) | exact Or.inr (Or.inr (Or.inl (Or.inl q))) | exact Or.inr (Or.inr (Or.inl (Or.inl (Or.inr q)))) | exact Or.inr (Or.inr (Or.inl (Or.inl (Or.inl q)))) | exact Or.inr (Or.inr (Or.inl (Or.inr (Or.inl q)))) | exact Or.inr (Or.inr (Or.inr (Or.inl (Or.inr q)))) | exact Or.inr (Or.inr (Or.inr (Or.inl (Or.inl q)))) | exact Or.inr (Or.inr (Or.inr (Or.inl (Or.inl (Or.inr q))))) | exact Or.inr (Or.inr (Or.inr (Or.inl (Or.inl (Or.inl q))))) | exact Or.inr (Or.inr (Or.inr (Or.inl (Or.inr (Or.inl q))))) | exact Or.inr (Or.inr (Or.inr (Or.inr (Or.inl (Or.inr q))))) | exact Or.inr (Or.inr (Or.inr (Or.inr (Or.inl (Or.inl q))))) | exact Or.inr (Or.inr (Or.inr (Or.inr (Or.inl (Or.inl (Or.inr q)))))) | exact Or.inr (Or.inr (Or.inr (Or.inr (Or.inl (Or.inl (Or.inl q)))))) | exact Or.inr (Or.inr (Or.inr (Or.inr (Or.inl (Or.inr (Or.inl q)))))) | exact Or.inr (Or.inr (Or.inr (Or.inr (Or.inr (Or.inl (Or.inr q)))))) | exact Or.inr (Or.inr (Or.inr (Or.inr (Or.inr (Or.inl (Or.inl q)))))) | exact Or.inr (Or.inr (Or.inr (Or.inr (Or.inr (Or.inl (Or.inl (Or.inr q))))))) | exact Or.inr (Or.inr (Or.inr (Or.inr (Or.inr (Or.inl (Or.inl (Or.inl q))))))) | exact Or.inr (Or.inr (Or.inr (Or.inr (Or.inr (Or.inl (Or.inr (Or.inl q))))))) | exact Or.inr (Or.inr (Or.inr (Or.inr (Or.inr (Or.inr (Or.inl (Or.inr q))))))) | exact Or.inr (Or.inr (Or.inr (Or.inr (Or.inr (Or.inr (Or.inl (Or.inl q))))))) | exact Or.inr (Or.inr (Or.inr (Or.inr (Or.inr (Or.inr (Or.inl (Or.inl (Or.inr q)))))))) | exact Or.inr (Or.inr (Or.inr (Or.inr (Or.inr (Or.inr (Or.inl (Or.inl (Or.inl q)))))))) | exact Or.inr (Or.inr (Or.inr (Or.inr (Or.inr (Or.inr (Or.inl (Or.inr (Or.inl q)))))))) | exact Or.inr (Or.inr (Or.inr (Or.inr (Or.inr (Or.inr (Or.inr (Or.inl (Or.inr q)))))))) | exact Or.inr (Or.inr (Or.inr (Or.inr (Or.inr (Or.inr (Or.inr (Or.inl (Or.inl q)))))))) | exact Or.inr (Or.inr (Or.inr (Or.inr (Or.inr (Or.inr (Or.inr (Or.inl (Or.inl (Or.inr q))))))))) | exact Or.inr (Or.inr (Or.inr (Or.inr (Or.inr (Or.inr (Or.inr (Or.inl (Or.inl (Or.inl q))))))))) | exact Or.inr (Or.inr (Or.inr (Or.inr (Or.inr (Or.inr (Or.inr (Or.inl (Or.inr (Or.inl q)))))))))) | simp [q])
      rw [List.mem_singleton.mp hq] at this
      exact Nat.lt_irrefl _ this
    case gf4 =>
      have a4 := fun p (hp : p ∈ _) => ltA4 p hp
      refine ⟨Nat.le_of_ble_eq_true rfl, Nat.le_of_ble_eq_true rfl, ?_, hu4, by dsimp only; rw [lu4]; exact Nat.le_of_ble_eq_true rfl, ?_, ?_⟩
      · intro p hp
        simp only [List.mem_cons, List.not_mem_nil, or_false] at hp
        rcases hp with rfl | rfl | rfl
        · exact ⟨hu1, by dsimp only; rw [lu1]; exact Nat.le_of_ble_eq_true rfl⟩
        · exact ⟨hu2, by dsimp only; rw [lu2]; exact Nat.le_of_ble_eq_true rfl⟩
        · exact ⟨hu3, by dsimp only; rw [lu3]; exact Nat.le_of_ble_eq_true rfl⟩
      · intro p hp
        refine Nat.ne_of_lt (ltT0 p ?_)
        simp only [List.map_cons, List.map_nil, List.mem_cons, List.cons_append, List.nil_append, inn] at hp ⊢
        rcases hp with q | q | q | q | q | q | q <;> first | with_reducible (first | exact Or.inl q | exact q | exact Or.inr (Or.inl q) | exact Or.inr (q) | exact Or.inr (Or.inr (Or.inl q)) | exact Or.inr (Or.inr (q)) | exact Or.inr (Or.inr (Or.inr (Or.inl q))) | exact Or.inr (Or.inr (Or.inr (q))) | exact Or.inr (Or.inr (Or.inr (Or.inr (Or.inl q)))) | exact Or.inr (Or.inr (Or.inr (Or.inr (q)))) | exact Or.inr (Or.inr (Or.inr (Or.inr (Or.inr (Or.inl q))))) | exact Or.inr (Or.inr (Or.inr (Or.inr (Or.inr (q))))) | exact Or.inr (Or.inr (Or.inr (Or.inr (Or.inr (Or.inr (Or.inl q)))))) | exact Or.inr (Or.inr (Or.inr (Or.inr (Or.inr (Or.inr (q)))))) | exact Or.inr (Or.inr (Or.inr (Or.inr (Or.inr (Or.inr (Or.inr (Or.inl q))))))) | exact Or.inr (Or.inr (Or.inr (Or.inr (Or.inr (Or.inr (Or.inr (q))))))) | exact Or.inr (Or.inr (Or.inr (Or.inr (Or.inr (Or.inr (Or.inr (Or.inr (Or.inl q)))))))) | exact Or.inr (Or.inr (Or.inr (Or.inr (Or.inr (Or.inr (Or.inr (Or.inr (q)))))))) | exact Or.inr (Or.inr (Or.inr (Or.inr (Or.inr (Or.inr (Or.inr (Or.inr (Or.inr (Or.inl q))))))))) | exact Or.inr (Or.inr (Or.inr (Or.inr (Or.inr (Or.inr (Or.inr (Or.inr (Or.inr (q))))))))) | exact Or.inl (Or.inr q) | exact Or.inl (Or.inl q) | exact Or.inl (Or.inl (Or.inr q)) | exact Or.inl (Or.inl (Or.inl q)) | exact Or.inl (Or.inr (Or.inl q)) | exact Or.inr (Or.inl (Or.inr q)) | exact Or.inr (Or.inl (Or.inl q)) | exact Or.inr (Or.inl (Or.inl (Or.inr q))) | exact Or.inr (Or.inl (Or.inl (Or.inl q))) | exact Or.inr (Or.inl (Or.inr (Or.inl q))) | exact Or.inr (Or.inr (Or.inl (Or.inr q))) | exact Or.inr (Or.inr (Or.inl (Or.inl q))) | exact Or.inr (Or.inr (Or.inl (Or.inl (Or.inr q)))) | exact Or.inr (Or.inr (Or.inl (Or.inl (Or.inl q)))) | exact Or.inr (Or.inr (Or.inl (Or.inr (Or.inl q)))) | exact Or.inr (Or.inr (Or.inr (Or.inl (Or.inr q)))) | exact Or.inr (Or.inr (Or.inr (Or.inl (Or.inl q)))) | exact Or.inr (Or.inr (Or.inr (Or.inl (Or.inl (Or.inr q))))) | exact Or.inr (Or.inr (Or.inr (Or.inl (Or.inl (Or.inl q))))) | exact Or.inr (Or.inr (Or.inr (Or.inl (Or.inr (Or.inl q))))) | exact Or.inr (Or.inr (Or.inr (Or.inr (Or.inl (Or.inr q))))) | exact Or.inr (Or.inr (Or.inr (Or.inr (Or.inl (Or.inl q))))) | exact Or.inr (Or.inr (Or.inr (Or.inr (Or.inl (Or.inl (Or.inr q)))))) | exact Or.inr (Or.inr (Or.inr (Or.inr (Or.inl (Or.inl (Or.inl q)))))) | exact Or.inr (Or.inr (Or.inr (Or.inr (Or.inl (Or.inr (Or.inl q)))))) | exact Or.inr (Or.inr (Or.inr (Or.inr (Or.inr (Or.inl (Or.inr q)))))) | exact Or.inr (Or.inr (Or.inr (Or.inr (Or.inr (Or.inl (Or.inl q)))))) | exact Or.inr (Or.inr (Or.inr (Or.inr (Or.inr (Or.inl (Or.inl (Or.inr q))))))) | exact Or.inr (Or.inr (Or.inr (Or.inr (Or.inr (Or.inl (Or.inl (Or.inl q))))))) | exact Or.inr (Or.inr (Or.inr (Or.inr (Or.inr (Or.inl (Or.inr (Or.inl q))))))) | exact Or.inr (Or.inr (Or.inr (Or.inr (Or.inr (Or.inr (Or.inl (Or.inr q))))))) | exact Or.inr (Or.inr (Or.inr (Or.inr (Or.inr (Or.inr (Or.inl (Or.inl q))))))) | exact Or.inr (Or.inr (Or.inr (Or.inr (Or.inr (Or.inr (Or.inl (Or.inl (Or.inr q)))))))) | exact Or.inr (Or.inr (Or.inr (Or.inr (Or.inr (Or.inr (Or.inl (Or.inl (Or.inl q)))))))) | exact Or.inr (Or.inr (Or.inr (Or.inr (Or.inr (Or.inr (Or.inl (Or.inr (Or.inl q)))))))) | exact Or.inr (Or.inr (Or.inr (Or.inr (Or.inr (Or.inr (Or.inr (Or.inl (Or.inr q)))))))) | exact Or.inr (Or.inr (Or.inr (Or.inr (Or.inr (Or.inr (Or.inr (Or.inl (Or.inl q)))))))) | exact Or.inr (Or.inr (Or.inr (Or.inr (Or.inr (Or.inr (Or.inr (Or.inl (Or.inl (Or.inr q))))))))) | exact Or.inr (Or.inr (Or.inr (Or.inr (Or.inr (Or.inr (Or.inr (Or.inl (Or.inl (Or.inl q))))))))) | exact Or.inr (Or.inr (Or.inr (Or.inr (Or.inr (Or.inr (Or.inr (Or.inl (Or.inr (Or.inl q)))))))))) | simp [q]
      · intro p hp
        refine Nat.ne_of_lt (ltA4 p ?_)
        simp only [List.map_cons, List.map_nil, List.mem_cons, List.cons_append, List.nil_append, inn] at hp ⊢
        rcases hp with q | q | q | q | q | q <;> first | with_reducible (first | exact Or.inl q | exact q | exact Or.inr (Or.inl q) | exact Or.inr (q) | exact Or.inr (Or.inr (Or.inl q)) | exact Or.inr (Or.inr (q)) | exact Or.inr (Or.inr (Or.inr (Or.inl q))) | exact Or.inr (Or.inr (Or.inr (q))) | exact Or.inr (Or.inr (Or.inr (Or.inr (Or.inl q)))) | exact Or.inr (Or.inr (Or.inr (Or.inr (q)))) | exact Or.inr (Or.inr (Or.inr (Or.inr (Or.inr (Or.inl q))))) | exact Or.inr (Or.inr (Or.inr (Or.inr (Or.inr (q))))) | exact Or.inr (Or.inr (Or.inr (Or.inr (Or.inr (Or.inr (Or.inl q)))))) | exact Or.inr (Or.inr (Or.inr (Or.inr (Or.inr (Or.inr (q)))))) | exact Or.inr (Or.inr (Or.inr (Or.inr (Or.inr (Or.inr (Or.inr (Or.inl q))))))) | exact Or.inr (Or.inr (Or.inr (Or.inr (Or.inr (Or.inr (Or.inr (q))))))) | exact Or.inr (Or.inr (Or.inr (Or.inr (Or.inr (Or.inr (Or.inr (Or.inr (Or.inl q)))))))) | exact Or.inr (Or.inr (Or.inr (Or.inr (Or.inr (Or.inr (Or.inr (Or.inr (q)))))))) | exact Or.inr (Or.inr (Or.inr (Or.inr (Or.inr (Or.inr (Or.inr (Or.inr (Or.inr (Or.inl q))))))))) | exact Or.inr (Or.inr (Or.inr (Or.inr (Or.inr (Or.inr (Or.inr (Or.inr (Or.inr (q))))))))) | exact Or.inl (Or.inr q) | exact Or.inl (Or.inl q) | exact Or.inl (Or.inl (Or.inr q)) | exact Or.inl (Or.inl (Or.inl q)) | exact Or.inl (Or.inr (Or.inl q)) | exact Or.inr (Or.inl (Or.inr q)) | exact Or.inr (Or.inl (Or.inl q)) | exact Or.inr (Or.inl (Or.inl (Or.inr q))) | exact Or.inr (Or.inl (Or.inl (Or.inl q))) | exact Or.inr (Or.inl (Or.inr (Or.inl q))) | exact Or.inr (Or.inr (Or.inl (Or.inr q))) | exact Or.inr (Or.inr (Or.inl (Or.inl q))) | exact Or.inr (Or.inr (Or.inl (Or.inl (Or.inr q)))) | exact Or.inr (Or.inr (Or.inl (Or.inl (Or.inl q)))) | exact Or.inr (Or.inr (Or.inl (Or.inr (Or.inl q)))) | exact Or.inr (Or.inr (Or.inr (Or.inl (Or.inr q)))) | exact Or.inr (Or.inr (Or.inr (Or.inl (Or.inl q)))) | exact Or.inr (Or.inr (Or.inr (Or.inl (Or.inl (Or.inr q))))) | exact Or.inr (Or.inr (Or.inr (Or.inl (Or.inl (Or.inl q))))) | exact Or.inr (Or.inr (Or.inr (Or.inl (Or.inr (Or.inl q))))) | exact Or.inr (Or.inr (Or.inr (Or.inr (Or.inl (Or.inr q))))) | exact Or.inr (Or.inr (Or.inr (Or.inr (Or.inl (Or.inl q))))) | exact Or.inr (Or.inr (Or.inr (Or.inr (Or.inl (Or.inl (Or.inr q)))))) | exact Or.inr (Or.inr (Or.inr (Or.inr (Or.inl (Or.inl (Or.inl q)))))) | exact Or.inr (Or.inr (Or.inr (Or.inr (Or.inl (Or.inr (Or.inl q)))))) | exact Or.inr (Or.inr (Or.inr (Or.inr (Or.inr (Or.inl (Or.inr q)))))) | exact Or.inr (Or.inr (Or.inr (Or.inr (Or.inr (Or.inl (Or.inl q)))))) | exact Or.inr (Or.inr (Or.inr (Or.inr (Or.inr (Or.inl (Or.inl (Or.inr q))))))) | exact Or.inr (Or.inr (Or.inr (Or.inr (Or.inr (Or.inl (Or.inl (Or.inl q))))))) | exact Or.inr (Or.inr (Or.inr (Or.inr (Or.inr (Or.inl (Or.inr (Or.inl q))))))) | exact Or.inr (Or.inr (Or.inr (Or.inr (Or.inr (Or.inr (Or.inl (Or.inr q))))))) | exact Or.inr (Or.inr (Or.inr (Or.inr (Or.inr (Or.inr (Or.inl (Or.inl q))))))) | exact Or.inr (Or.inr (Or.inr (Or.inr (Or.inr (Or.inr (Or.inl (Or.inl (Or.inr q)))))))) | exact Or.inr (Or.inr (Or.inr (Or.inr (Or.inr (Or.inr (Or.inl (Or.inl (Or.inl q)))))))) | exact Or.inr (Or.inr (Or.inr (Or.inr (Or.inr (Or.inr (Or.inl (Or.inr (Or.inl q)))))))) | exact Or.inr (Or.inr (Or.inr (Or.inr (Or.inr (Or.inr (Or.inr (Or.inl (Or.inr q)))))))) | exact Or.inr (Or.inr (Or.inr (Or.inr (Or.inr (Or.inr (Or.inr (Or.inl (Or.inl q)))))))) | exact Or.inr (Or.inr (Or.inr (Or.inr (Or.inr (Or.inr (Or.inr (Or.inl (Or.inl (Or.inr q))))))))) | exact Or.inr (Or.inr (Or.inr (Or.inr (Or.inr (Or.inr (Or.inr (Or.inl (Or.inl (Or.inl q))))))))) | exact Or.inr (Or.inr (Or.inr (Or.inr (Or.inr (Or.inr (Or.inr (Or.inl (Or.inr (Or.inl q)))))))))) | simp [q]
    case' gturn1 =>
      intro c i v u h tk own hi hv hP hnw hown hcov hst Fw Nw
      obtain ⟨ini, ⟨la, lv, lk⟩, ek⟩ := c
      obtain ⟨xk, xt, rfl⟩ := ints_mem hI v (by simpa using Array.mem_of_getElem? hv)
      have hii : i < 8 := by have := hi; rw [List.size_toArray] at this; omega
      obtain ⟨q1, q2, q3, q4, q5, q6, q7⟩ := id hP
      have lN9 : News _ _ h ((T0, listOf (refL ini ++ [Value.ref la]).toArray ek) :: (la, listOf lv.toArray lk) :: (P0, listOf u0.toArray 0) :: (ini.map inn ++ (nl, listOf vs.toArray n0) :: rest ++ own)) := fun p hp => Nw p (by
        simp only [List.mem_cons, List.mem_append] at hp ⊢
        rcases hp with hp | hp | hp | ((hp | hp | hp) | hp) <;> first | with_reducible (first | exact Or.inl hp | exact hp | exact Or.inr (Or.inl hp) | exact Or.inr (hp) | exact Or.inr (Or.inr (Or.inl hp)) | exact Or.inr (Or.inr (hp)) | exact Or.inr (Or.inr (Or.inr (Or.inl hp))) | exact Or.inr (Or.inr (Or.inr (hp))) | exact Or.inr (Or.inr (Or.inr (Or.inr (Or.inl hp)))) | exact Or.inr (Or.inr (Or.inr (Or.inr (hp)))) | exact Or.inr (Or.inr (Or.inr (Or.inr (Or.inr (Or.inl hp))))) | exact Or.inr (Or.inr (Or.inr (Or.inr (Or.inr (hp))))) | exact Or.inr (Or.inr (Or.inr (Or.inr (Or.inr (Or.inr (Or.inl hp)))))) | exact Or.inr (Or.inr (Or.inr (Or.inr (Or.inr (Or.inr (hp)))))) | exact Or.inr (Or.inr (Or.inr (Or.inr (Or.inr (Or.inr (Or.inr (Or.inl hp))))))) | exact Or.inr (Or.inr (Or.inr (Or.inr (Or.inr (Or.inr (Or.inr (hp))))))) | exact Or.inr (Or.inr (Or.inr (Or.inr (Or.inr (Or.inr (Or.inr (Or.inr (Or.inl hp)))))))) | exact Or.inr (Or.inr (Or.inr (Or.inr (Or.inr (Or.inr (Or.inr (Or.inr (hp)))))))) | exact Or.inr (Or.inr (Or.inr (Or.inr (Or.inr (Or.inr (Or.inr (Or.inr (Or.inr (Or.inl hp))))))))) | exact Or.inr (Or.inr (Or.inr (Or.inr (Or.inr (Or.inr (Or.inr (Or.inr (Or.inr (hp))))))))) | exact Or.inl (Or.inr hp) | exact Or.inl (Or.inl hp) | exact Or.inl (Or.inl (Or.inr hp)) | exact Or.inl (Or.inl (Or.inl hp)) | exact Or.inl (Or.inr (Or.inl hp)) | exact Or.inr (Or.inl (Or.inr hp)) | exact Or.inr (Or.inl (Or.inl hp)) | exact Or.inr (Or.inl (Or.inl (Or.inr hp))) | exact Or.inr (Or.inl (Or.inl (Or.inl hp))) | exact Or.inr (Or.inl (Or.inr (Or.inl hp))) | exact Or.inr (Or.inr (Or.inl (Or.inr hp))) | exact Or.inr (Or.inr (Or.inl (Or.inl hp))) | exact Or.inr (Or.inr (Or.inl (Or.inl (Or.inr hp)))) | exact Or.inr (Or.inr (Or.inl (Or.inl (Or.inl hp)))) | exact Or.inr (Or.inr (Or.inl (Or.inr (Or.inl hp)))) | exact Or.inr (Or.inr (Or.inr (Or.inl (Or.inr hp)))) | exact Or.inr (Or.inr (Or.inr (Or.inl (Or.inl hp)))) | exact Or.inr (Or.inr (Or.inr (Or.inl (Or.inl (Or.inr hp))))) | exact Or.inr (Or.inr (Or.inr (Or.inl (Or.inl (Or.inl hp))))) | exact Or.inr (Or.inr (Or.inr (Or.inl (Or.inr (Or.inl hp))))) | exact Or.inr (Or.inr (Or.inr (Or.inr (Or.inl (Or.inr hp))))) | exact Or.inr (Or.inr (Or.inr (Or.inr (Or.inl (Or.inl hp))))) | exact Or.inr (Or.inr (Or.inr (Or.inr (Or.inl (Or.inl (Or.inr hp)))))) | exact Or.inr (Or.inr (Or.inr (Or.inr (Or.inl (Or.inl (Or.inl hp)))))) | exact Or.inr (Or.inr (Or.inr (Or.inr (Or.inl (Or.inr (Or.inl hp)))))) | exact Or.inr (Or.inr (Or.inr (Or.inr (Or.inr (Or.inl (Or.inr hp)))))) | exact Or.inr (Or.inr (Or.inr (Or.inr (Or.inr (Or.inl (Or.inl hp)))))) | exact Or.inr (Or.inr (Or.inr (Or.inr (Or.inr (Or.inl (Or.inl (Or.inr hp))))))) | exact Or.inr (Or.inr (Or.inr (Or.inr (Or.inr (Or.inl (Or.inl (Or.inl hp))))))) | exact Or.inr (Or.inr (Or.inr (Or.inr (Or.inr (Or.inl (Or.inr (Or.inl hp))))))) | exact Or.inr (Or.inr (Or.inr (Or.inr (Or.inr (Or.inr (Or.inl (Or.inr hp))))))) | exact Or.inr (Or.inr (Or.inr (Or.inr (Or.inr (Or.inr (Or.inl (Or.inl hp))))))) | exact Or.inr (Or.inr (Or.inr (Or.inr (Or.inr (Or.inr (Or.inl (Or.inl (Or.inr hp)))))))) | exact Or.inr (Or.inr (Or.inr (Or.inr (Or.inr (Or.inr (Or.inl (Or.inl (Or.inl hp)))))))) | exact Or.inr (Or.inr (Or.inr (Or.inr (Or.inr (Or.inr (Or.inl (Or.inr (Or.inl hp)))))))) | exact Or.inr (Or.inr (Or.inr (Or.inr (Or.inr (Or.inr (Or.inr (Or.inl (Or.inr hp)))))))) | exact Or.inr (Or.inr (Or.inr (Or.inr (Or.inr (Or.inr (Or.inr (Or.inl (Or.inl hp)))))))) | exact Or.inr (Or.inr (Or.inr (Or.inr (Or.inr (Or.inr (Or.inr (Or.inl (Or.inl (Or.inr hp))))))))) | exact Or.inr (Or.inr (Or.inr (Or.inr (Or.inr (Or.inr (Or.inr (Or.inl (Or.inl (Or.inl hp))))))))) | exact Or.inr (Or.inr (Or.inr (Or.inr (Or.inr (Or.inr (Or.inr (Or.inl (Or.inr (Or.inl hp)))))))))) | (simp [hp]; done) | simp only [hp, or_true, true_or])
      have hownT : ∀ p ∈ own, p.1 ≠ T0 ∧ p.1 ≠ la := by
        intro p hp
        have := hown p hp
        simp only [List.mem_cons, List.not_mem_nil, or_false] at this
        rcases this with e | e
        · constructor
          · intro e2
            exact hnw (T0, listOf (refL ini ++ [Value.ref la]).toArray ek) (List.mem_cons_self ..) (by simp [← e2, e])
          · intro e2
            exact hnw (inn (la, lv, lk)) (List.mem_cons_of_mem _ (List.mem_cons_self ..)) (by simp [← e2, e])
        · constructor
          · intro e2
            exact q6 (nl, listOf vs.toArray n0) (by first | k_mem | simp) (e ▸ e2)
          · intro e2
            exact q7 (nl, listOf vs.toArray n0) (by first | k_mem | simp) (e ▸ e2)
      have hT9 : ∀ p ∈ ((la, listOf lv.toArray lk) :: (P0, listOf u0.toArray 0) :: (ini.map inn ++ (nl, listOf vs.toArray n0) :: rest ++ own) : List (Addr × Obj)), p.1 ≠ T0 := by
        intro p hp
        have hp' : p ∈ inn (la, lv, lk) :: (ini.map inn ++ (P0, listOf u0.toArray 0) :: (nl, listOf vs.toArray n0) :: rest) ∨ p ∈ own := by
          simp only [List.mem_cons, List.mem_append] at hp ⊢
          rcases hp with hp | hp | ((hp | hp | hp) | hp) <;> first | with_reducible (first | exact Or.inl hp | exact hp | exact Or.inr (Or.inl hp) | exact Or.inr (hp) | exact Or.inr (Or.inr (Or.inl hp)) | exact Or.inr (Or.inr (hp)) | exact Or.inr (Or.inr (Or.inr (Or.inl hp))) | exact Or.inr (Or.inr (Or.inr (hp))) | exact Or.inr (Or.inr (Or.inr (Or.inr (Or.inl hp)))) | exact Or.inr (Or.inr (Or.inr (Or.inr (hp)))) | exact Or.inr (Or.inr (Or.inr (Or.inr (Or.inr (Or.inl hp))))) | exact Or.inr (Or.inr (Or.inr (Or.inr (Or.inr (hp))))) | exact Or.inr (Or.inr (Or.inr (Or.inr (Or.inr (Or.inr (Or.inl hp)))))) | exact Or.inr (Or.inr (Or.inr (Or.inr (Or.inr (Or.inr (hp)))))) | exact Or.inr (Or.inr (Or.inr (Or.inr (Or.inr (Or.inr (Or.inr (Or.inl hp))))))) | exact Or.inr (Or.inr (Or.inr (Or.inr (Or.inr (Or.inr (Or.inr (hp))))))) | exact Or.inr (Or.inr (Or.inr (Or.inr (Or.inr (Or.inr (Or.inr (Or.inr (Or.inl hp)))))))) | exact Or.inr (Or.inr (Or.inr (Or.inr (Or.inr (Or.inr (Or.inr (Or.inr (hp)))))))) | exact Or.inr (Or.inr (Or.inr (Or.inr (Or.inr (Or.inr (Or.inr (Or.inr (Or.inr (Or.inl hp))))))))) | exact Or.inr (Or.inr (Or.inr (Or.inr (Or.inr (Or.inr (Or.inr (Or.inr (Or.inr (hp))))))))) | exact Or.inl (Or.inr hp) | exact Or.inl (Or.inl hp) | exact Or.inl (Or.inl (Or.inr hp)) | exact Or.inl (Or.inl (Or.inl hp)) | exact Or.inl (Or.inr (Or.inl hp)) | exact Or.inr (Or.inl (Or.inr hp)) | exact Or.inr (Or.inl (Or.inl hp)) | exact Or.inr (Or.inl (Or.inl (Or.inr hp))) | exact Or.inr (Or.inl (Or.inl (Or.inl hp))) | exact Or.inr (Or.inl (Or.inr (Or.inl hp))) | exact Or.inr (Or.inr (Or.inl (Or.inr hp))) | exact Or.inr (Or.inr (Or.inl (Or.inl hp))) | exact Or.inr (Or.inr (Or.inl (Or.inl (Or.inr hp)))) | exact Or.inr (Or.inr (Or.inl (Or.inl (Or.inl hp)))) | exact Or.inr (Or.inr (Or.inl (Or.inr (Or.inl hp)))) | exact Or.inr (Or.inr (Or.inr (Or.inl (Or.inr hp)))) | exact Or.inr (Or.inr (Or.inr (Or.inl (Or.inl hp)))) | exact Or.inr (Or.inr (Or.inr (Or.inl (Or.inl (Or.inr hp))))) | exact Or.inr (Or.inr (Or.inr (Or.inl (Or.inl (Or.inl hp))))) | exact Or.inr (Or.inr (Or.inr (Or.inl (Or.inr (Or.inl hp))))) | exact Or.inr (Or.inr (Or.inr (Or.inr (Or.inl (Or.inr hp))))) | exact Or.inr (Or.inr (Or.inr (Or.inr (Or.inl (Or.inl hp))))) | exact Or.inr (Or.inr (Or.inr (Or.inr (Or.inl (Or.inl (Or.inr hp)))))) | exact Or.inr (Or.inr (Or.inr (Or.inr (Or.inl (Or.inl (Or.inl hp)))))) | exact Or.inr (Or.inr (Or.inr (Or.inr (Or.inl (Or.inr (Or.inl hp)))))) | exact Or.inr (Or.inr (Or.inr (Or.inr (Or.inr (Or.inl (Or.inr hp)))))) | exact Or.inr (Or.inr (Or.inr (Or.inr (Or.inr (Or.inl (Or.inl hp)))))) | exact Or.inr (Or.inr (Or.inr (Or.inr (Or.inr (Or.inl (Or.inl (Or.inr hp))))))) | exact Or.inr (Or.inr (Or.inr (Or.inr (Or.inr (Or.inl (Or.inl (Or.inl hp))))))) | exact Or.inr (Or.inr (Or.inr (Or.inr (Or.inr (Or.inl (Or.inr (Or.inl hp))))))) | exact Or.inr (Or.inr (Or.inr (Or.inr (Or.inr (Or.inr (Or.inl (Or.inr hp))))))) | exact Or.inr (Or.inr (Or.inr (Or.inr (Or.inr (Or.inr (Or.inl (Or.inl hp))))))) | exact Or.inr (Or.inr (Or.inr (Or.inr (Or.inr (Or.inr (Or.inl (Or.inl (Or.inr hp)))))))) | exact Or.inr (Or.inr (Or.inr (Or.inr (Or.inr (Or.inr (Or.inl (Or.inl (Or.inl hp)))))))) | exact Or.inr (Or.inr (Or.inr (Or.inr (Or.inr (Or.inr (Or.inl (Or.inr (Or.inl hp)))))))) | exact Or.inr (Or.inr (Or.inr (Or.inr (Or.inr (Or.inr (Or.inr (Or.inl (Or.inr hp)))))))) | exact Or.inr (Or.inr (Or.inr (Or.inr (Or.inr (Or.inr (Or.inr (Or.inl (Or.inl hp)))))))) | exact Or.inr (Or.inr (Or.inr (Or.inr (Or.inr (Or.inr (Or.inr (Or.inl (Or.inl (Or.inr hp))))))))) | exact Or.inr (Or.inr (Or.inr (Or.inr (Or.inr (Or.inr (Or.inr (Or.inl (Or.inl (Or.inl hp))))))))) | exact Or.inr (Or.inr (Or.inr (Or.inr (Or.inr (Or.inr (Or.inr (Or.inl (Or.inr (Or.inl hp)))))))))) | (simp [hp]; done) | simp only [hp, or_true, true_or]
        rcases hp' with q | q
        · exact q6 p q
        · exact (hownT p q).1
      have hL9 : ∀ p ∈ ((P0, listOf u0.toArray 0) :: (ini.map inn ++ (nl, listOf vs.toArray n0) :: rest ++ own) : List (Addr × Obj)), p.1 ≠ la := by
        intro p hp
        have hp' : p ∈ ini.map inn ++ (P0, listOf u0.toArray 0) :: (nl, listOf vs.toArray n0) :: rest ∨ p ∈ own := by
          simp only [List.mem_cons, List.mem_append] at hp ⊢
          rcases hp with hp | ((hp | hp | hp) | hp) <;> first | with_reducible (first | exact Or.inl hp | exact hp | exact Or.inr (Or.inl hp) | exact Or.inr (hp) | exact Or.inr (Or.inr (Or.inl hp)) | exact Or.inr (Or.inr (hp)) | exact Or.inr (Or.inr (Or.inr (Or.inl hp))) | exact Or.inr (Or.inr (Or.inr (hp))) | exact Or.inr (Or.inr (Or.inr (Or.inr (Or.inl hp)))) | exact Or.inr (Or.inr (Or.inr (Or.inr (hp)))) | exact Or.inr (Or.inr (Or.inr (Or.inr (Or.inr (Or.inl hp))))) | exact Or.inr (Or.inr (Or.inr (Or.inr (Or.inr (hp))))) | exact Or.inr (Or.inr (Or.inr (Or.inr (Or.inr (Or.inr (Or.inl hp)))))) | exact Or.inr (Or.inr (Or.inr (Or.inr (Or.inr (Or.inr (hp)))))) | exact Or.inr (Or.inr (Or.inr (Or.inr (Or.inr (Or.inr (Or.inr (Or.inl hp))))))) | exact Or.inr (Or.inr (Or.inr (Or.inr (Or.inr (Or.inr (Or.inr (hp))))))) | exact Or.inr (Or.inr (Or.inr (Or.inr (Or.inr (Or.inr (Or.inr (Or.inr (Or.inl hp)))))))) | exact Or.inr (Or.inr (Or.inr (Or.inr (Or.inr (Or.inr (Or.inr (Or.inr (hp)))))))) | exact Or.inr (Or.inr (Or.inr (Or.inr (Or.inr (Or.inr (Or.inr (Or.inr (Or.inr (Or.inl hp))))))))) | exact Or.inr (Or.inr (Or.inr (Or.inr (Or.inr (Or.inr (Or.inr (Or.inr (Or.inr (hp))))))))) | exact Or.inl (Or.inr hp) | exact Or.inl (Or.inl hp) | exact Or.inl (Or.inl (Or.inr hp)) | exact Or.inl (Or.inl (Or.inl hp)) | exact Or.inl (Or.inr (Or.inl hp)) | exact Or.inr (Or.inl (Or.inr hp)) | exact Or.inr (Or.inl (Or.inl hp)) | exact Or.inr (Or.inl (Or.inl (Or.inr hp))) | exact Or.inr (Or.inl (Or.inl (Or.inl hp))) | exact Or.inr (Or.inl (Or.inr (Or.inl hp))) | exact Or.inr (Or.inr (Or.inl (Or.inr hp))) | exact Or.inr (Or.inr (Or.inl (Or.inl hp))) | exact Or.inr (Or.inr (Or.inl (Or.inl (Or.inr hp)))) | exact Or.inr (Or.inr (Or.inl (Or.inl (Or.inl hp)))) | exact Or.inr (Or.inr (Or.inl (Or.inr (Or.inl hp)))) | exact Or.inr (Or.inr (Or.inr (Or.inl (Or.inr hp)))) | exact Or.inr (Or.inr (Or.inr (Or.inl (Or.inl hp)))) | exact Or.inr (Or.inr (Or.inr (Or.inl (Or.inl (Or.inr hp))))) | exact Or.inr (Or.inr (Or.inr (Or.inl (Or.inl (Or.inl hp))))) | exact Or.inr (Or.inr (Or.inr (Or.inl (Or.inr (Or.inl hp))))) | exact Or.inr (Or.inr (Or.inr (Or.inr (Or.inl (Or.inr hp))))) | exact Or.inr (Or.inr (Or.inr (Or.inr (Or.inl (Or.inl hp))))) | exact Or.inr (Or.inr (Or.inr (Or.inr (Or.inl (Or.inl (Or.inr hp)))))) | exact Or.inr (Or.inr (Or.inr (Or.inr (Or.inl (Or.inl (Or.inl hp)))))) | exact Or.inr (Or.inr (Or.inr (Or.inr (Or.inl (Or.inr (Or.inl hp)))))) | exact Or.inr (Or.inr (Or.inr (Or.inr (Or.inr (Or.inl (Or.inr hp)))))) | exact Or.inr (Or.inr (Or.inr (Or.inr (Or.inr (Or.inl (Or.inl hp)))))) | exact Or.inr (Or.inr (Or.inr (Or.inr (Or.inr (Or.inl (Or.inl (Or.inr hp))))))) | exact Or.inr (Or.inr (Or.inr (Or.inr (Or.inr (Or.inl (Or.inl (Or.inl hp))))))) | exact Or.inr (Or.inr (Or.inr (Or.inr (Or.inr (Or.inl (Or.inr (Or.inl hp))))))) | exact Or.inr (Or.inr (Or.inr (Or.inr (Or.inr (Or.inr (Or.inl (Or.inr hp))))))) | exact Or.inr (Or.inr (Or.inr (Or.inr (Or.inr (Or.inr (Or.inl (Or.inl hp))))))) | exact Or.inr (Or.inr (Or.inr (Or.inr (Or.inr (Or.inr (Or.inl (Or.inl (Or.inr hp)))))))) | exact Or.inr (Or.inr (Or.inr (Or.inr (Or.inr (Or.inr (Or.inl (Or.inl (Or.inl hp)))))))) | exact Or.inr (Or.inr (Or.inr (Or.inr (Or.inr (Or.inr (Or.inl (Or.inr (Or.inl hp)))))))) | exact Or.inr (Or.inr (Or.inr (Or.inr (Or.inr (Or.inr (Or.inr (Or.inl (Or.inr hp)))))))) | exact Or.inr (Or.inr (Or.inr (Or.inr (Or.inr (Or.inr (Or.inr (Or.inl (Or.inl hp)))))))) | exact Or.inr (Or.inr (Or.inr (Or.inr (Or.inr (Or.inr (Or.inr (Or.inl (Or.inl (Or.inr hp))))))))) | exact Or.inr (Or.inr (Or.inr (Or.inr (Or.inr (Or.inr (Or.inr (Or.inl (Or.inl (Or.inl hp))))))))) | exact Or.inr (Or.inr (Or.inr (Or.inr (Or.inr (Or.inr (Or.inr (Or.inl (Or.inr (Or.inl hp)))))))))) | (simp [hp]; done) | simp only [hp, or_true, true_or]
        rcases hp' with q | q
        · exact q7 p q
        · exact (hownT p q).2
      have hTl : T0 ≠ la := fun e => hT9 (la, listOf lv.toArray lk) (List.mem_cons_self ..) e.symm
      have hlen9 : (refL ini ++ [Value.ref la]).length = ini.length + 1 := by simp [refL]
      obtain ⟨oI9, hoI9, _⟩ := hst.1
      have hIown := hcov _ (List.mem_cons_self ..) hI0 oI9 hoI9
      clear Nw
      (try dsimp only [kstB] at Fw)
      (try dsimp only at q1 q2 q3 q4 q5)
      (try k_fold)
    case' gdone1 =>
      intro c u h tk hP Fw Nw
      obtain ⟨ini, ⟨la, lv, lk⟩, ek⟩ := c
      (try dsimp only [kstB] at Fw)
      (try dsimp only at Nw)
      (try k_fold))
  k_with "GPost" => (dsimp only [GPost])
  k_with "call builtin:list.append" => (
    rename Fr _ _ _ _ => lF
    rename News _ _ _ _ => lN
    first
    | (show wpAny _ _ (call _ [Value.ref T0, _]) _ _ _
       have lN' : News _ _ _ ((T0, listOf (refL ini ++ [Value.ref la]).toArray ek) :: (E0, listOf ue.toArray 0) :: (la, listOf lv.toArray lk) :: (P0, listOf u0.toArray 0) :: (ini.map inn ++ (nl, listOf vs.toArray n0) :: rest ++ own)) := fun p hp => lN p (by
         simp only [List.mem_cons] at hp ⊢
         rcases hp with hp | hp | hp | hp | hp <;> first | with_reducible (first | exact Or.inl hp | exact hp | exact Or.inr (Or.inl hp) | exact Or.inr (hp) | exact Or.inr (Or.inr (Or.inl hp)) | exact Or.inr (Or.inr (hp)) | exact Or.inr (Or.inr (Or.inr (Or.inl hp))) | exact Or.inr (Or.inr (Or.inr (hp))) | exact Or.inr (Or.inr (Or.inr (Or.inr (Or.inl hp)))) | exact Or.inr (Or.inr (Or.inr (Or.inr (hp)))) | exact Or.inr (Or.inr (Or.inr (Or.inr (Or.inr (Or.inl hp))))) | exact Or.inr (Or.inr (Or.inr (Or.inr (Or.inr (hp))))) | exact Or.inr (Or.inr (Or.inr (Or.inr (Or.inr (Or.inr (Or.inl hp)))))) | exact Or.inr (Or.inr (Or.inr (Or.inr (Or.inr (Or.inr (hp)))))) | exact Or.inr (Or.inr (Or.inr (Or.inr (Or.inr (Or.inr (Or.inr (Or.inl hp))))))) | exact Or.inr (Or.inr (Or.inr (Or.inr (Or.inr (Or.inr (Or.inr (hp))))))) | exact Or.inr (Or.inr (Or.inr (Or.inr (Or.inr (Or.inr (Or.inr (Or.inr (Or.inl hp)))))))) | exact Or.inr (Or.inr (Or.inr (Or.inr (Or.inr (Or.inr (Or.inr (Or.inr (hp)))))))) | exact Or.inr (Or.inr (Or.inr (Or.inr (Or.inr (Or.inr (Or.inr (Or.inr (Or.inr (Or.inl hp))))))))) | exact Or.inr (Or.inr (Or.inr (Or.inr (Or.inr (Or.inr (Or.inr (Or.inr (Or.inr (hp))))))))) | exact Or.inl (Or.inr hp) | exact Or.inl (Or.inl hp) | exact Or.inl (Or.inl (Or.inr hp)) | exact Or.inl (Or.inl (Or.inl hp)) | exact Or.inl (Or.inr (Or.inl hp)) | exact Or.inr (Or.inl (Or.inr hp)) | exact Or.inr (Or.inl (Or.inl hp)) | exact Or.inr (Or.inl (Or.inl (Or.inr hp))) | exact Or.inr (Or.inl (Or.inl (Or.inl hp))) | exact Or.inr (Or.inl (Or.inr (Or.inl hp))) | exact Or.inr (Or.inr (Or.inl (Or.inr hp))) | exact Or.inr (Or.inr (Or.inl (Or.inl hp))) | exact Or.inr (Or.inr (Or.inl (Or.inl (Or.inr hp)))) | exact Or.inr (Or.inr (Or.inl (Or.inl (Or.inl hp)))) | exact Or.inr (Or.inr (Or.inl (Or.inr (Or.inl hp)))) | exact Or.inr (Or.inr (Or.inr (Or.inl (Or.inr hp)))) | exact Or.inr (Or.inr (Or.inr (Or.inl (Or.inl hp)))) | exact Or.inr (Or.inr (Or.inr (Or.inl (Or.inl (Or.inr hp))))) | exact Or.inr (Or.inr (Or.inr (Or.inl (Or.inl (Or.inl hp))))) | exact Or.inr (Or.inr (Or.inr (Or.inl (Or.inr (Or.inl hp))))) | exact Or.inr (Or.inr (Or.inr (Or.inr (Or.inl (Or.inr hp))))) | exact Or.inr (Or.inr (Or.inr (Or.inr (Or.inl (Or.inl hp))))) | exact Or.inr (Or.inr (Or.inr (Or.inr (Or.inl (Or.inl (Or.inr hp)))))) | exact Or.inr (Or.inr (Or.inr (Or.inr (Or.inl (Or.inl (Or.inl hp)))))) | exact Or.inr (Or.inr (Or.inr (Or.inr (Or.inl (Or.inr (Or.inl hp)))))) | exact Or.inr (Or.inr (Or.inr (Or.inr (Or.inr (Or.inl (Or.inr hp)))))) | exact Or.inr (Or.inr (Or.inr (Or.inr (Or.inr (Or.inl (Or.inl hp)))))) | exact Or.inr (Or.inr (Or.inr (Or.inr (Or.inr (Or.inl (Or.inl (Or.inr hp))))))) | exact Or.inr (Or.inr (Or.inr (Or.inr (Or.inr (Or.inl (Or.inl (Or.inl hp))))))) | exact Or.inr (Or.inr (Or.inr (Or.inr (Or.inr (Or.inl (Or.inr (Or.inl hp))))))) | exact Or.inr (Or.inr (Or.inr (Or.inr (Or.inr (Or.inr (Or.inl (Or.inr hp))))))) | exact Or.inr (Or.inr (Or.inr (Or.inr (Or.inr (Or.inr (Or.inl (Or.inl hp))))))) | exact Or.inr (Or.inr (Or.inr (Or.inr (Or.inr (Or.inr (Or.inl (Or.inl (Or.inr hp)))))))) | exact Or.inr (Or.inr (Or.inr (Or.inr (Or.inr (Or.inr (Or.inl (Or.inl (Or.inl hp)))))))) | exact Or.inr (Or.inr (Or.inr (Or.inr (Or.inr (Or.inr (Or.inl (Or.inr (Or.inl hp)))))))) | exact Or.inr (Or.inr (Or.inr (Or.inr (Or.inr (Or.inr (Or.inr (Or.inl (Or.inr hp)))))))) | exact Or.inr (Or.inr (Or.inr (Or.inr (Or.inr (Or.inr (Or.inr (Or.inl (Or.inl hp)))))))) | exact Or.inr (Or.inr (Or.inr (Or.inr (Or.inr (Or.inr (Or.inr (Or.inl (Or.inl (Or.inr hp))))))))) | exact Or.inr (Or.inr (Or.inr (Or.inr (Or.inr (Or.inr (Or.inr (Or.inl (Or.inl (Or.inl hp))))))))) | exact Or.inr (Or.inr (Or.inr (Or.inr (Or.inr (Or.inr (Or.inr (Or.inl (Or.inr (Or.inl hp)))))))))) | (simp [hp]; done) | simp only [hp, or_true, true_or])
       refine g_app lF lN' (Upd.head (by
         intro p hp
         rcases List.mem_cons.mp hp with rfl | hp
         · exact Nat.ne_of_gt (ltE0 (T0, listOf (refL ini ++ [Value.ref la]).toArray ek) (by first | k_mem | simp))
         · exact hT9 p hp)) (by rw [hlen9]; omega) ?_
       intro h' F' N')
    | (have lN' : News _ _ _ ((E0, listOf ue.toArray 0) :: (T0, listOf ((refL ini ++ [Value.ref la]) ++ [Value.ref E0]).toArray (ek + 1)) :: (la, listOf lv.toArray lk) :: (P0, listOf u0.toArray 0) :: (ini.map inn ++ (nl, listOf vs.toArray n0) :: rest ++ own)) := fun p hp => lN p (by
         simp only [List.mem_cons] at hp ⊢
         rcases hp with hp | hp | hp | hp | hp <;> first | with_reducible (first | exact Or.inl hp | exact hp | exact Or.inr (Or.inl hp) | exact Or.inr (hp) | exact Or.inr (Or.inr (Or.inl hp)) | exact Or.inr (Or.inr (hp)) | exact Or.inr (Or.inr (Or.inr (Or.inl hp))) | exact Or.inr (Or.inr (Or.inr (hp))) | exact Or.inr (Or.inr (Or.inr (Or.inr (Or.inl hp)))) | exact Or.inr (Or.inr (Or.inr (Or.inr (hp)))) | exact Or.inr (Or.inr (Or.inr (Or.inr (Or.inr (Or.inl hp))))) | exact Or.inr (Or.inr (Or.inr (Or.inr (Or.inr (hp))))) | exact Or.inr (Or.inr (Or.inr (Or.inr (Or.inr (Or.inr (Or.inl hp)))))) | exact Or.inr (Or.inr (Or.inr (Or.inr (Or.inr (Or.inr (hp)))))) | exact Or.inr (Or.inr (Or.inr (Or.inr (Or.inr (Or.inr (Or.inr (Or.inl hp))))))) | exact Or.inr (Or.inr (Or.inr (Or.inr (Or.inr (Or.inr (Or.inr (hp))))))) | exact Or.inr (Or.inr (Or.inr (Or.inr (Or.inr (Or.inr (Or.inr (Or.inr (Or.inl hp)))))))) | exact Or.inr (Or.inr (Or.inr (Or.inr (Or.inr (Or.inr (Or.inr (Or.inr (hp)))))))) | exact Or.inr (Or.inr (Or.inr (Or.inr (Or.inr (Or.inr (Or.inr (Or.inr (Or.inr (Or.inl hp))))))))) | exact Or.inr (Or.inr (Or.inr (Or.inr (Or.inr (Or.inr (Or.inr (Or.inr (Or.inr (hp))))))))) | exact Or.inl (Or.inr hp) | exact Or.inl (Or.inl hp) | exact Or.inl (Or.inl (Or.inr hp)) | exact Or.inl (Or.inl (Or.inl hp)) | exact Or.inl (Or.inr (Or.inl hp)) | exact Or.inr (Or.inl (Or.inr hp)) | exact Or.inr (Or.inl (Or.inl hp)) | exact Or.inr (Or.inl (Or.inl (Or.inr hp))) | exact Or.inr (Or.inl (Or.inl (Or.inl hp))) | exact Or.inr (Or.inl (Or.inr (Or.inl hp))) | exact Or.inr (Or.inr (Or.inl (Or.inr hp))) | exact Or.inr (Or.inr (Or.inl (Or.inl hp))) | exact Or.inr (Or.inr (Or.inl (Or.inl (Or.inr hp)))) | exact Or.inr (Or.inr (Or.inl (Or.inl (Or.inl hp)))) | exact Or.inr (Or.inr (Or.inl (Or.inr (Or.inl hp)))) | exact Or.inr (Or.inr (Or.inr (Or.inl (Or.inr hp)))) | exact Or.inr (Or.inr (Or.inr (Or.inl (Or.inl hp)))) | exact Or.inr (Or.inr (Or.inr (Or.inl (Or.inl (Or.inr hp))))) | exact Or.inr (Or.inr (Or.inr (Or.inl (Or.inl (Or.inl hp))))) | exact Or.inr (Or.inr (Or.inr (Or.inl (Or.inr (Or.inl hp))))) | exact Or.inr (Or.inr (Or.inr (Or.inr (Or.inl (Or.inr hp))))) | exact Or.inr (Or.inr (Or.inr (Or.inr (Or.inl (Or.inl hp))))) | exact Or.inr (Or.inr (Or.inr (Or.inr (Or.inl (Or.inl (Or.inr hp)))))) | exact Or.inr (Or.inr (Or.inr (Or.inr (Or.inl (Or.inl (Or.inl hp)))))) | exact Or.inr (Or.inr (Or.inr (Or.inr (Or.inl (Or.inr (Or.inl hp)))))) | exact Or.inr (Or.inr (Or.inr (Or.inr (Or.inr (Or.inl (Or.inr hp)))))) | exact Or.inr (Or.inr (Or.inr (Or.inr (Or.inr (Or.inl (Or.inl hp)))))) | exact Or.inr (Or.inr (Or.inr (Or.inr (Or.inr (Or.inl (Or.inl (Or.inr hp))))))) | exact Or.inr (Or.inr (Or.inr (Or.inr (Or.inr (Or.inl (Or.inl (Or.inl hp))))))) | exact Or.inr (Or.inr (Or.inr (Or.inr (Or.inr (Or.inl (Or.inr (Or.inl hp))))))) | exact Or.inr (Or.inr (Or.inr (Or.inr (Or.inr (Or.inr (Or.inl (Or.inr hp))))))) | exact Or.inr (Or.inr (Or.inr (Or.inr (Or.inr (Or.inr (Or.inl (Or.inl hp))))))) | exact Or.inr (Or.inr (Or.inr (Or.inr (Or.inr (Or.inr (Or.inl (Or.inl (Or.inr hp)))))))) | exact Or.inr (Or.inr (Or.inr (Or.inr (Or.inr (Or.inr (Or.inl (Or.inl (Or.inl hp)))))))) | exact Or.inr (Or.inr (Or.inr (Or.inr (Or.inr (Or.inr (Or.inl (Or.inr (Or.inl hp)))))))) | exact Or.inr (Or.inr (Or.inr (Or.inr (Or.inr (Or.inr (Or.inr (Or.inl (Or.inr hp)))))))) | exact Or.inr (Or.inr (Or.inr (Or.inr (Or.inr (Or.inr (Or.inr (Or.inl (Or.inl hp)))))))) | exact Or.inr (Or.inr (Or.inr (Or.inr (Or.inr (Or.inr (Or.inr (Or.inl (Or.inl (Or.inr hp))))))))) | exact Or.inr (Or.inr (Or.inr (Or.inr (Or.inr (Or.inr (Or.inr (Or.inl (Or.inl (Or.inl hp))))))))) | exact Or.inr (Or.inr (Or.inr (Or.inr (Or.inr (Or.inr (Or.inr (Or.inl (Or.inr (Or.inl hp)))))))))) | (simp [hp]; done) | simp only [hp, or_true, true_or])
       have lue0 : ue.length = 0 := lue
       generalize hx9 : List.getD u0 _ _ = x9
       have hx4 : IsS4 x9 := by rw [← hx9]; exact hu0 _ (getD_mem (by omega))
       refine g_app lF lN' (Upd.head (by
         intro p hp
         rcases List.mem_cons.mp hp with rfl | hp
         · exact Nat.ne_of_lt (ltE0 (T0, listOf (refL ini ++ [Value.ref la]).toArray ek) (by first | k_mem | simp))
         · exact Nat.ne_of_lt (ltE0 p (List.mem_cons_of_mem _ hp)))) (by omega) ?_
       intro h' F' N')
    | (have lN' : News _ _ _ ((la, listOf lv.toArray lk) :: (T0, listOf (refL ini ++ [Value.ref la]).toArray ek) :: (P0, listOf u0.toArray 0) :: (ini.map inn ++ (nl, listOf vs.toArray n0) :: rest ++ own)) := fun p hp => lN p (by
         simp only [List.mem_cons] at hp ⊢
         rcases hp with hp | hp | hp | hp <;> first | with_reducible (first | exact Or.inl hp | exact hp | exact Or.inr (Or.inl hp) | exact Or.inr (hp) | exact Or.inr (Or.inr (Or.inl hp)) | exact Or.inr (Or.inr (hp)) | exact Or.inr (Or.inr (Or.inr (Or.inl hp))) | exact Or.inr (Or.inr (Or.inr (hp))) | exact Or.inr (Or.inr (Or.inr (Or.inr (Or.inl hp)))) | exact Or.inr (Or.inr (Or.inr (Or.inr (hp)))) | exact Or.inr (Or.inr (Or.inr (Or.inr (Or.inr (Or.inl hp))))) | exact Or.inr (Or.inr (Or.inr (Or.inr (Or.inr (hp))))) | exact Or.inr (Or.inr (Or.inr (Or.inr (Or.inr (Or.inr (Or.inl hp)))))) | exact Or.inr (Or.inr (Or.inr (Or.inr (Or.inr (Or.inr (hp)))))) | exact Or.inr (Or.inr (Or.inr (Or.inr (Or.inr (Or.inr (Or.inr (Or.inl hp))))))) | exact Or.inr (Or.inr (Or.inr (Or.inr (Or.inr (Or.inr (Or.inr (hp))))))) | exact Or.inr (Or.inr (Or.inr (Or.inr (Or.inr (Or.inr (Or.inr (Or.inr (Or.inl hp)))))))) | exact Or.inr (Or.inr (Or.inr (Or.inr (Or.inr (Or.inr (Or.inr (Or.inr (hp)))))))) | exact Or.inr (Or.inr (Or.inr (Or.inr (Or.inr (Or.inr (Or.inr (Or.inr (Or.inr (Or.inl hp))))))))) | exact Or.inr (Or.inr (Or.inr (Or.inr (Or.inr (Or.inr (Or.inr (Or.inr (Or.inr (hp))))))))) | exact Or.inl (Or.inr hp) | exact Or.inl (Or.inl hp) | exact Or.inl (Or.inl (Or.inr hp)) | exact Or.inl (Or.inl (Or.inl hp)) | exact Or.inl (Or.inr (Or.inl hp)) | exact Or.inr (Or.inl (Or.inr hp)) | exact Or.inr (Or.inl (Or.inl hp)) | exact Or.inr (Or.inl (Or.inl (Or.inr hp))) | exact Or.inr (Or.inl (Or.inl (Or.inl hp))) | exact Or.inr (Or.inl (Or.inr (Or.inl hp))) | exact Or.inr (Or.inr (Or.inl (Or.inr hp))) | exact Or.inr (Or.inr (Or.inl (Or.inl hp))) | exact Or.inr (Or.inr (Or.inl (Or.inl (Or.inr hp)))) | exact Or.inr (Or.inr (Or.inl (Or.inl (Or.inl hp)))) | exact Or.inr (Or.inr (Or.inl (Or.inr (Or.inl hp)))) | exact Or.inr (Or.inr (Or.inr (Or.inl (Or.inr hp)))) | exact Or.inr (Or.inr (Or.inr (Or.inl (Or.inl hp)))) | exact Or.inr (Or.inr (Or.inr (Or.inl (Or.inl (Or.inr hp))))) | exact Or.inr (Or.inr (Or.inr (Or.inl (Or.inl (Or.inl hp))))) | exact Or.inr (Or.inr (Or.inr (Or.inl (Or.inr (Or.inl hp))))) | exact Or.inr (Or.inr (Or.inr (Or.inr (Or.inl (Or.inr hp))))) | exact Or.inr (Or.inr (Or.inr (Or.inr (Or.inl (Or.inl hp))))) | exact Or.inr (Or.inr (Or.inr (Or.inr (Or.inl (Or.inl (Or.inr hp)))))) | exact Or.inr (Or.inr (Or.inr (Or.inr (Or.inl (Or.inl (Or.inl hp)))))) | exact Or.inr (Or.inr (Or.inr (Or.inr (Or.inl (Or.inr (Or.inl hp)))))) | exact Or.inr (Or.inr (Or.inr (Or.inr (Or.inr (Or.inl (Or.inr hp)))))) | exact Or.inr (Or.inr (Or.inr (Or.inr (Or.inr (Or.inl (Or.inl hp)))))) | exact Or.inr (Or.inr (Or.inr (Or.inr (Or.inr (Or.inl (Or.inl (Or.inr hp))))))) | exact Or.inr (Or.inr (Or.inr (Or.inr (Or.inr (Or.inl (Or.inl (Or.inl hp))))))) | exact Or.inr (Or.inr (Or.inr (Or.inr (Or.inr (Or.inl (Or.inr (Or.inl hp))))))) | exact Or.inr (Or.inr (Or.inr (Or.inr (Or.inr (Or.inr (Or.inl (Or.inr hp))))))) | exact Or.inr (Or.inr (Or.inr (Or.inr (Or.inr (Or.inr (Or.inl (Or.inl hp))))))) | exact Or.inr (Or.inr (Or.inr (Or.inr (Or.inr (Or.inr (Or.inl (Or.inl (Or.inr hp)))))))) | exact Or.inr (Or.inr (Or.inr (Or.inr (Or.inr (Or.inr (Or.inl (Or.inl (Or.inl hp)))))))) | exact Or.inr (Or.inr (Or.inr (Or.inr (Or.inr (Or.inr (Or.inl (Or.inr (Or.inl hp)))))))) | exact Or.inr (Or.inr (Or.inr (Or.inr (Or.inr (Or.inr (Or.inr (Or.inl (Or.inr hp)))))))) | exact Or.inr (Or.inr (Or.inr (Or.inr (Or.inr (Or.inr (Or.inr (Or.inl (Or.inl hp)))))))) | exact Or.inr (Or.inr (Or.inr (Or.inr (Or.inr (Or.inr (Or.inr (Or.inl (Or.inl (Or.inr hp))))))))) | exact Or.inr (Or.inr (Or.inr (Or.inr (Or.inr (Or.inr (Or.inr (Or.inl (Or.inl (Or.inl hp))))))))) | exact Or.inr (Or.inr (Or.inr (Or.inr (Or.inr (Or.inr (Or.inr (Or.inl (Or.inr (Or.inl hp)))))))))) | (simp [hp]; done) | simp only [hp, or_true, true_or])
       generalize hx9 : List.getD u0 _ _ = x9
       have hx4 : IsS4 x9 := by rw [← hx9]; exact hu0 _ (getD_mem (by omega))
       refine g_app lF lN' (Upd.head (by
         intro p hp
         rcases List.mem_cons.mp hp with rfl | hp
         · exact hTl
         · exact hL9 p hp)) (by omega) ?_
       intro h' F' N'))
  k_with "subscriptTail" => (
    rename News _ _ _ _ => lN
    first
    | (show wpAny _ _ (subscriptTail _ _ (Value.ref P0) _) _ _ _
       have hk10 := idx10 (xk.fdiv 3)
       refine g_sub (k := (xk.fdiv 3).fmod 10) (vs := u0) (n := 0) lN (by first | k_mem | simp) hk10.1 (by omega) (by omega) ?_)
    | (refine g_subLast (vs := refL ini ++ [Value.ref la]) (v := .ref E0) (n := ek + 1) lN (by first | k_mem | simp) (by rw [hlen9]; omega) ?_)
    | (refine g_subLast (vs := refL ini) (v := .ref la) (n := ek) lN (by first | k_mem | simp) (by simp only [refL, List.length_map]; omega) ?_))
  k_with "GEnd" => (
    rename Fr _ _ _ _ => lF
    rename News _ _ _ _ => lN
    first
    | exact g_end (ini ++ [(la, lv, lk)], (E0, ue ++ [x9], 0 + 1), ek + 1) lF lN (tx_subA (tx_T (by k_mem)) (by k_mem) (by k_mem) (by intro p hp; repeat (first | (with_reducible exact hp) | refine List.mem_cons_of_mem _ ?_))) (tx_own (P := (P0, listOf u0.toArray 0)) (n := (nl, listOf vs.toArray n0)) (I := ini.map inn) (R := rest) (by intro p hp; repeat (first | (with_reducible exact hp) | refine List.mem_cons_of_mem _ ?_))) (tx_hwA hnw rfl (fun hb => absurd (List.mem_singleton.mp hb) (Nat.ne_of_gt (ltE0 _ (List.mem_cons_of_mem _ (List.mem_cons_of_mem _ (List.mem_cons_of_mem _ (List.mem_append_right _ hIown)))))))) (by intro p hp; cases hp) (by intro z h1 h2 h3; simp [h1]) (tx_push (lk := 0) (tx_app hP (by omega) hue (by rw [lue]; exact Nat.zero_le _) (Nat.ne_of_gt (ltE0 (T0, listOf (refL ini ++ [Value.ref la]).toArray ek) (by k_mem))) (fun p hp => Nat.ne_of_lt (ltE0 p (tx_subC p hp)))) hx4)
    | exact g_end (ini ++ [(la, lv, lk)], (E0, ue, 0), ek + 1) lF lN (tx_subA (tx_T (by k_mem)) (by k_mem) (by k_mem) (by intro p hp; repeat (first | (with_reducible exact hp) | refine List.mem_cons_of_mem _ ?_))) (tx_own (P := (P0, listOf u0.toArray 0)) (n := (nl, listOf vs.toArray n0)) (I := ini.map inn) (R := rest) (by intro p hp; repeat (first | (with_reducible exact hp) | refine List.mem_cons_of_mem _ ?_))) (tx_hwA hnw rfl (fun hb => absurd (List.mem_singleton.mp hb) (Nat.ne_of_gt (ltE0 _ (List.mem_cons_of_mem _ (List.mem_cons_of_mem _ (List.mem_cons_of_mem _ (List.mem_append_right _ hIown)))))))) (by intro p hp; cases hp) (by intro z h1 h2 h3; simp [h1]) (tx_keep (tx_app hP (by omega) hue (by rw [lue]; exact Nat.zero_le _) (Nat.ne_of_gt (ltE0 (T0, listOf (refL ini ++ [Value.ref la]).toArray ek) (by k_mem))) (fun p hp => Nat.ne_of_lt (ltE0 p (tx_subC p hp)))))
    | exact g_end (ini, (la, lv ++ [x9], lk + 1), ek) lF lN (tx_subB (by k_mem) (by k_mem) (by intro p hp; repeat (first | (with_reducible exact hp) | refine List.mem_cons_of_mem _ ?_))) (tx_own (P := (P0, listOf u0.toArray 0)) (n := (nl, listOf vs.toArray n0)) (I := ini.map inn) (R := rest) (by intro p hp; repeat (first | (with_reducible exact hp) | refine List.mem_cons_of_mem _ ?_))) (tx_hwB hnw rfl rfl) (by intro p hp; cases hp) (by intro z h1 h2 h3; simp [h1]) (tx_push hP hx4)
    | exact g_end (ini, (la, lv, lk), ek) lF lN (tx_subB (by k_mem) (by k_mem) (by intro p hp; repeat (first | (with_reducible exact hp) | refine List.mem_cons_of_mem _ ?_))) (tx_own (P := (P0, listOf u0.toArray 0)) (n := (nl, listOf vs.toArray n0)) (I := ini.map inn) (R := rest) (by intro p hp; repeat (first | (with_reducible exact hp) | refine List.mem_cons_of_mem _ ?_))) (fun p hp => hnw p hp) (by intro p hp; cases hp) (by intro z h1 h2 h3; simp [h1]) (tx_keep hP))
  k_with "CompSrc" => (
    rename Fr _ _ _ _ => lF
    rename News _ _ _ _ => lN
    obtain ⟨q1, q2, q3, q4, q5, q6, q7⟩ := id hP
    dsimp only at q1 q2 q3 q4 q5
    have hs8 : vs.toArray.size ≤ 8 := by rw [List.size_toArray]; exact h8
    have hlenR : (refL ini ++ [Value.ref la]).length = ini.length + 1 := by simp [refL]
    have hsT : (refL ini ++ [Value.ref la]).toArray.size = ini.length + 1 := by rw [List.size_toArray, hlenR]
    have hall : ∀ v ∈ refL ini ++ [Value.ref la], ∃ (pa : Addr) (pv : List Value) (pk : Nat), v = Value.ref pa ∧ (pa, listOf pv.toArray pk) ∈ ((T0, listOf (refL ini ++ [Value.ref la]).toArray ek) :: inn (la, lv, lk) :: (ini.map inn ++ (P0, listOf u0.toArray 0) :: (nl, listOf vs.toArray n0) :: rest) : List (Addr × Obj)) ∧ (∀ v ∈ pv, IsS4 v) ∧ pv.length ≤ 10 := by
      intro v hv
      rcases List.mem_append.mp hv with hv | hv
      · obtain ⟨⟨pa, pv, pk⟩, hp, rfl⟩ := List.mem_map.mp hv
        have h3 := q3 _ hp
        exact ⟨pa, pv, pk, rfl, List.mem_cons_of_mem _ (List.mem_cons_of_mem _ (List.mem_append_left _ (List.mem_map.mpr ⟨_, hp, rfl⟩))), h3.1, Nat.le_trans h3.2 (by omega)⟩
      · rw [List.mem_singleton.mp hv]
        exact ⟨la, lv, lk, rfl, List.mem_cons_of_mem _ (List.mem_cons_self ..), q4, by omega⟩
    refine LCg.CompSrc.ledger (ax := T0) (k := ek) (its := (refL ini ++ [Value.ref la]).toArray) (by rfl) lF lN (List.mem_cons_self ..) (by rw [hsT, sizeLine_eq]; omega) ?_
    intro g
    refine' restU_inv _ (fun i ys news => news = ((T0, listOf (refL ini ++ [Value.ref la]).toArray ek) :: inn (la, lv, lk) :: (ini.map inn ++ (P0, listOf u0.toArray 0) :: (nl, listOf vs.toArray n0) :: rest)) ∧ (∀ v ∈ ys, IsS v ∧ (strOf v).length ≤ 100) ∧ ys.length = i) ⟨rfl, by simp, rfl⟩ ?gstep ?gfin
    case' gstep =>
      intro i ys news hi hInv v I oI C oC D m₂ h tk E' hPv hC hx2 FF NN off ne
      obtain ⟨rfl, hy, hyl⟩ := hInv
      obtain ⟨pa, pv, pk, rfl, hpm, hp4, hpl⟩ := hall v (by simpa using Array.mem_of_getElem? hPv)
      (try dsimp only)
      (try k_fold)
    case' gfin =>
      intro ys news hInv
      obtain ⟨rfl, hy, hyl⟩ := hInv)
  k_with "call builtin:str.join" => (
    rename News _ _ _ _ => lN
    refine g_join (D := pa) (vs := pv) (n := pk) (B := 4) lN (List.mem_cons_of_mem _ (List.mem_cons_of_mem _ (List.mem_cons_of_mem _ hpm))) hp4 (by omega) (by omega) ?_
    intro xj tj kj hxj)
  k_with "CompEnd" => (
    rename Fr _ _ _ _ => lF
    rename News _ _ _ _ => lN
    refine LCg.CompEnd.intro lF lN _ (fun _ h => h) off (.inr ⟨_, List.mem_cons_self .., rfl, _, rfl⟩) ⟨rfl, fun v hv => ?_, ?_⟩
    · rcases List.mem_append.mp hv with hv | hv
      · exact hy v hv
      · rw [List.mem_singleton.mp hv]
        exact ⟨⟨_, _, rfl⟩, Nat.le_trans hxj (by omega)⟩
    · rw [List.length_append, hyl]; rfl)
  k_steps
  rename Fr _ _ _ _ => lF
  rename News _ _ _ _ => lN
  have hO : ∀ {D : Addr} {l : List (Addr × Obj)}, Off1 D l → ∀ p ∈ l, p.1 ≠ D := by
    intro D l
    induction l with
    | nil => intro _ p hp; cases hp
    | cons q r ih =>
      intro ho p hp
      rcases List.mem_cons.mp hp with rfl | hp
      · exact ho.1
      · exact ih ho.2 p hp
  exact hret _ _ _ ys ys.length lF (fun p hp => lN p (by
    simp only [List.mem_cons, List.mem_append] at hp ⊢
    rcases hp with hp | hp | hp <;> first | with_reducible (first | exact Or.inl hp | exact hp | exact Or.inr (Or.inl hp) | exact Or.inr (hp) | exact Or.inr (Or.inr (Or.inl hp)) | exact Or.inr (Or.inr (hp)) | exact Or.inr (Or.inr (Or.inr (Or.inl hp))) | exact Or.inr (Or.inr (Or.inr (hp))) | exact Or.inr (Or.inr (Or.inr (Or.inr (Or.inl hp)))) | exact Or.inr (Or.inr (Or.inr (Or.inr (hp)))) | exact Or.inr (Or.inr (Or.inr (Or.inr (Or.inr (Or.inl hp))))) | exact Or.inr (Or.inr (Or.inr (Or.inr (Or.inr (hp))))) | exact Or.inr (Or.inr (Or.inr (Or.inr (Or.inr (Or.inr (Or.inl hp)))))) | exact Or.inr (Or.inr (Or.inr (Or.inr (Or.inr (Or.inr (hp)))))) | exact Or.inr (Or.inr (Or.inr (Or.inr (Or.inr (Or.inr (Or.inr (Or.inl hp))))))) | exact Or.inr (Or.inr (Or.inr (Or.inr (Or.inr (Or.inr (Or.inr (hp))))))) | exact Or.inr (Or.inr (Or.inr (Or.inr (Or.inr (Or.inr (Or.inr (Or.inr (Or.inl hp)))))))) | exact Or.inr (Or.inr (Or.inr (Or.inr (Or.inr (Or.inr (Or.inr (Or.inr (hp)))))))) | exact Or.inr (Or.inr (Or.inr (Or.inr (Or.inr (Or.inr (Or.inr (Or.inr (Or.inr (Or.inl hp))))))))) | exact Or.inr (Or.inr (Or.inr (Or.inr (Or.inr (Or.inr (Or.inr (Or.inr (Or.inr (hp))))))))) | exact Or.inl (Or.inr hp) | exact Or.inl (Or.inl hp) | exact Or.inl (Or.inl (Or.inr hp)) | exact Or.inl (Or.inl (Or.inl hp)) | exact Or.inl (Or.inr (Or.inl hp)) | exact Or.inr (Or.inl (Or.inr hp)) | exact Or.inr (Or.inl (Or.inl hp)) | exact Or.inr (Or.inl (Or.inl (Or.inr hp))) | exact Or.inr (Or.inl (Or.inl (Or.inl hp))) | exact Or.inr (Or.inl (Or.inr (Or.inl hp))) | exact Or.inr (Or.inr (Or.inl (Or.inr hp))) | exact Or.inr (Or.inr (Or.inl (Or.inl hp))) | exact Or.inr (Or.inr (Or.inl (Or.inl (Or.inr hp)))) | exact Or.inr (Or.inr (Or.inl (Or.inl (Or.inl hp)))) | exact Or.inr (Or.inr (Or.inl (Or.inr (Or.inl hp)))) | exact Or.inr (Or.inr (Or.inr (Or.inl (Or.inr hp)))) | exact Or.inr (Or.inr (Or.inr (Or.inl (Or.inl hp)))) | exact Or.inr (Or.inr (Or.inr (Or.inl (Or.inl (Or.inr hp))))) | exact Or.inr (Or.inr (Or.inr (Or.inl (Or.inl (Or.inl hp))))) | exact Or.inr (Or.inr (Or.inr (Or.inl (Or.inr (Or.inl hp))))) | exact Or.inr (Or.inr (Or.inr (Or.inr (Or.inl (Or.inr hp))))) | exact Or.inr (Or.inr (Or.inr (Or.inr (Or.inl (Or.inl hp))))) | exact Or.inr (Or.inr (Or.inr (Or.inr (Or.inl (Or.inl (Or.inr hp)))))) | exact Or.inr (Or.inr (Or.inr (Or.inr (Or.inl (Or.inl (Or.inl hp)))))) | exact Or.inr (Or.inr (Or.inr (Or.inr (Or.inl (Or.inr (Or.inl hp)))))) | exact Or.inr (Or.inr (Or.inr (Or.inr (Or.inr (Or.inl (Or.inr hp)))))) | exact Or.inr (Or.inr (Or.inr (Or.inr (Or.inr (Or.inl (Or.inl hp)))))) | exact Or.inr (Or.inr (Or.inr (Or.inr (Or.inr (Or.inl (Or.inl (Or.inr hp))))))) | exact Or.inr (Or.inr (Or.inr (Or.inr (Or.inr (Or.inl (Or.inl (Or.inl hp))))))) | exact Or.inr (Or.inr (Or.inr (Or.inr (Or.inr (Or.inl (Or.inr (Or.inl hp))))))) | exact Or.inr (Or.inr (Or.inr (Or.inr (Or.inr (Or.inr (Or.inl (Or.inr hp))))))) | exact Or.inr (Or.inr (Or.inr (Or.inr (Or.inr (Or.inr (Or.inl (Or.inl hp))))))) | exact Or.inr (Or.inr (Or.inr (Or.inr (Or.inr (Or.inr (Or.inl (Or.inl (Or.inr hp)))))))) | exact Or.inr (Or.inr (Or.inr (Or.inr (Or.inr (Or.inr (Or.inl (Or.inl (Or.inl hp)))))))) | exact Or.inr (Or.inr (Or.inr (Or.inr (Or.inr (Or.inr (Or.inl (Or.inr (Or.inl hp)))))))) | exact Or.inr (Or.inr (Or.inr (Or.inr (Or.inr (Or.inr (Or.inr (Or.inl (Or.inr hp)))))))) | exact Or.inr (Or.inr (Or.inr (Or.inr (Or.inr (Or.inr (Or.inr (Or.inl (Or.inl hp)))))))) | exact Or.inr (Or.inr (Or.inr (Or.inr (Or.inr (Or.inr (Or.inr (Or.inl (Or.inl (Or.inr hp))))))))) | exact Or.inr (Or.inr (Or.inr (Or.inr (Or.inr (Or.inr (Or.inr (Or.inl (Or.inl (Or.inl hp))))))))) | exact Or.inr (Or.inr (Or.inr (Or.inr (Or.inr (Or.inr (Or.inr (Or.inl (Or.inr (Or.inl hp)))))))))) | (simp [hp]; done) | simp only [hp, or_true, true_or])) (fun p hp => hO (l := (T0, listOf (refL ini ++ [Value.ref la]).toArray ek) :: inn (la, lv, lk) :: (ini.map inn ++ (P0, listOf u0.toArray 0) :: (nl, listOf vs.toArray n0) :: rest)) (by assumption) p (by
    simp only [List.mem_cons, List.mem_append] at hp ⊢
    rcases hp with hp | hp <;> first | with_reducible (first | exact Or.inl hp | exact hp | exact Or.inr (Or.inl hp) | exact Or.inr (hp) | exact Or.inr (Or.inr (Or.inl hp)) | exact Or.inr (Or.inr (hp)) | exact Or.inr (Or.inr (Or.inr (Or.inl hp))) | exact Or.inr (Or.inr (Or.inr (hp))) | exact Or.inr (Or.inr (Or.inr (Or.inr (Or.inl hp)))) | exact Or.inr (Or.inr (Or.inr (Or.inr (hp)))) | exact Or.inr (Or.inr (Or.inr (Or.inr (Or.inr (Or.inl hp))))) | exact Or.inr (Or.inr (Or.inr (Or.inr (Or.inr (hp))))) | exact Or.inr (Or.inr (Or.inr (Or.inr (Or.inr (Or.inr (Or.inl hp)))))) | exact Or.inr (Or.inr (Or.inr (Or.inr (Or.inr (Or.inr (hp)))))) | exact Or.inr (Or.inr (Or.inr (Or.inr (Or.inr (Or.inr (Or.inr (Or.inl hp))))))) | exact Or.inr (Or.inr (Or.inr (Or.inr (Or.inr (Or.inr (Or.inr (hp))))))) | exact Or.inr (Or.inr (Or.inr (Or.inr (Or.inr (Or.inr (Or.inr (Or.inr (Or.inl hp)))))))) | exact Or.inr (Or.inr (Or.inr (Or.inr (Or.inr (Or.inr (Or.inr (Or.inr (hp)))))))) | exact Or.inr (Or.inr (Or.inr (Or.inr (Or.inr (Or.inr (Or.inr (Or.inr (Or.inr (Or.inl hp))))))))) | exact Or.inr (Or.inr (Or.inr (Or.inr (Or.inr (Or.inr (Or.inr (Or.inr (Or.inr (hp))))))))) | exact Or.inl (Or.inr hp) | exact Or.inl (Or.inl hp) | exact Or.inl (Or.inl (Or.inr hp)) | exact Or.inl (Or.inl (Or.inl hp)) | exact Or.inl (Or.inr (Or.inl hp)) | exact Or.inr (Or.inl (Or.inr hp)) | exact Or.inr (Or.inl (Or.inl hp)) | exact Or.inr (Or.inl (Or.inl (Or.inr hp))) | exact Or.inr (Or.inl (Or.inl (Or.inl hp))) | exact Or.inr (Or.inl (Or.inr (Or.inl hp))) | exact Or.inr (Or.inr (Or.inl (Or.inr hp))) | exact Or.inr (Or.inr (Or.inl (Or.inl hp))) | exact Or.inr (Or.inr (Or.inl (Or.inl (Or.inr hp)))) | exact Or.inr (Or.inr (Or.inl (Or.inl (Or.inl hp)))) | exact Or.inr (Or.inr (Or.inl (Or.inr (Or.inl hp)))) | exact Or.inr (Or.inr (Or.inr (Or.inl (Or.inr hp)))) | exact Or.inr (Or.inr (Or.inr (Or.inl (Or.inl hp)))) | exact Or.inr (Or.inr (Or.inr (Or.inl (Or.inl (Or.inr hp))))) | exact Or.inr (Or.inr (Or.inr (Or.inl (Or.inl (Or.inl hp))))) | exact Or.inr (Or.inr (Or.inr (Or.inl (Or.inr (Or.inl hp))))) | exact Or.inr (Or.inr (Or.inr (Or.inr (Or.inl (Or.inr hp))))) | exact Or.inr (Or.inr (Or.inr (Or.inr (Or.inl (Or.inl hp))))) | exact Or.inr (Or.inr (Or.inr (Or.inr (Or.inl (Or.inl (Or.inr hp)))))) | exact Or.inr (Or.inr (Or.inr (Or.inr (Or.inl (Or.inl (Or.inl hp)))))) | exact Or.inr (Or.inr (Or.inr (Or.inr (Or.inl (Or.inr (Or.inl hp)))))) | exact Or.inr (Or.inr (Or.inr (Or.inr (Or.inr (Or.inl (Or.inr hp)))))) | exact Or.inr (Or.inr (Or.inr (Or.inr (Or.inr (Or.inl (Or.inl hp)))))) | exact Or.inr (Or.inr (Or.inr (Or.inr (Or.inr (Or.inl (Or.inl (Or.inr hp))))))) | exact Or.inr (Or.inr (Or.inr (Or.inr (Or.inr (Or.inl (Or.inl (Or.inl hp))))))) | exact Or.inr (Or.inr (Or.inr (Or.inr (Or.inr (Or.inl (Or.inr (Or.inl hp))))))) | exact Or.inr (Or.inr (Or.inr (Or.inr (Or.inr (Or.inr (Or.inl (Or.inr hp))))))) | exact Or.inr (Or.inr (Or.inr (Or.inr (Or.inr (Or.inr (Or.inl (Or.inl hp))))))) | exact Or.inr (Or.inr (Or.inr (Or.inr (Or.inr (Or.inr (Or.inl (Or.inl (Or.inr hp)))))))) | exact Or.inr (Or.inr (Or.inr (Or.inr (Or.inr (Or.inr (Or.inl (Or.inl (Or.inl hp)))))))) | exact Or.inr (Or.inr (Or.inr (Or.inr (Or.inr (Or.inr (Or.inl (Or.inr (Or.inl hp)))))))) | exact Or.inr (Or.inr (Or.inr (Or.inr (Or.inr (Or.inr (Or.inr (Or.inl (Or.inr hp)))))))) | exact Or.inr (Or.inr (Or.inr (Or.inr (Or.inr (Or.inr (Or.inr (Or.inl (Or.inl hp)))))))) | exact Or.inr (Or.inr (Or.inr (Or.inr (Or.inr (Or.inr (Or.inr (Or.inl (Or.inl (Or.inr hp))))))))) | exact Or.inr (Or.inr (Or.inr (Or.inr (Or.inr (Or.inr (Or.inr (Or.inl (Or.inl (Or.inl hp))))))))) | exact Or.inr (Or.inr (Or.inr (Or.inr (Or.inr (Or.inr (Or.inr (Or.inl (Or.inr (Or.inl hp)))))))))) | (simp [hp]; done) | simp only [hp, or_true, true_or])) hy (by rw [hyl]; omega) (by rw [hyl]; omega)
end
section
set_option maxRecDepth 100000
set_option maxHeartbeats 4000000
open PySem PySem.W PySem.Calls PyProof.Rows PySem.SeqAt
/-- the list at index j of ys is a list of the first j texts of so -/
noncomputable def TakeAt (S : List (Addr × Obj)) (so : List Str) (j : Nat) (v : Value) : Prop := ∃ (a : Addr) (zs : List Value) (k : Nat), v = .ref a ∧ (a, listOf zs.toArray k) ∈ S ∧ (∀ z ∈ zs, IsS z) ∧ zs.map strOf = so.take j
noncomputable def Takes (S : List (Addr × Obj)) (so : List Str) (i : Nat) (ys : List Value) : Prop := ys.length = i ∧ ∀ j, j < i → TakeAt S so j (ys.getD j .none)
theorem TakeAt.more {S S' : List (Addr × Obj)} {so : List Str} {j : Nat} {v : Value} (h : TakeAt S so j v) (hs : ∀ p ∈ S, p ∈ S') : TakeAt S' so j v := by
  obtain ⟨a, zs, k, e, hm, r⟩ := h
  exact ⟨a, zs, k, e, hs _ hm, r⟩
theorem Takes.nil {so : List Str} {S : List (Addr × Obj)} : Takes S so 0 [] := ⟨rfl, fun j hj => absurd hj (Nat.not_lt_zero _)⟩
theorem Takes.more {S S' : List (Addr × Obj)} {so : List Str} {i : Nat} {ys : List Value} (h : Takes S so i ys) (hs : ∀ p ∈ S, p ∈ S') : Takes S' so i ys := ⟨h.1, fun j hj => (h.2 j hj).more hs⟩
theorem Takes.snoc {S S' : List (Addr × Obj)} {so : List Str} {i : Nat} {ys : List Value} {v : Value} (h : Takes S so i ys) (hs : ∀ p ∈ S, p ∈ S') (hv : TakeAt S' so i v) : Takes S' so (i + 1) (ys ++ [v]) := by
  obtain ⟨h1, h2⟩ := h
  refine ⟨by rw [List.length_append, h1]; rfl, fun j hj => ?_⟩
  by_cases hji : j < i
  · rw [List.getD_eq_getElem?_getD, List.getElem?_append_left (by omega), ← List.getD_eq_getElem?_getD]
    exact (h2 j hji).more hs
  · have : j = i := by omega
    subst this
    rw [List.getD_eq_getElem?_getD, ← h1, List.getElem?_concat_length, h1]
    exact hv
section
variable {A : Around} {s : Shared}
theorem eqAt_S {x y : Value} (hx : IsS x) (hy : IsS y) (e : strOf x = strOf y) : EqAt A s x y true := by
  obtain ⟨a, t, rfl⟩ := hx
  obtain ⟨b, u, rfl⟩ := hy
  have e' : a = b := e
  subst e'
  have := EqAt.str_str (A := A) (s := s) a t a u
  rwa [beq_self_eq_true] at this
theorem eqAt_items {xs ys : List Value} (hx : ∀ v ∈ xs, IsS v) (hy : ∀ v ∈ ys, IsS v) (e : xs.map strOf = ys.map strOf) :
    ∀ j (h1 : j < xs.toArray.size) (h2 : j < ys.toArray.size), EqAt A s xs.toArray[j] ys.toArray[j] true := by
  intro j h1 h2
  have h1' : j < xs.length := by simpa using h1
  have h2' : j < ys.length := by simpa using h2
  refine eqAt_S (hx _ (by simp)) (hy _ (by simp)) ?_
  have := congrArg (fun l => l[j]?) e
  simpa [h1', h2'] using this
theorem size_of_map {xs ys : List Value} (e : xs.map strOf = ys.map strOf) : xs.toArray.size = ys.toArray.size := by
  have := congrArg List.length e
  simpa using this
theorem rc_strs {l b : Addr} {xs ys : List Value} (hl : s.heap.IsList l xs.toArray) (hb : s.heap.IsList b ys.toArray) (hu : A.units < cLine) (hx : ∀ v ∈ xs, IsS v) (hy : ∀ v ∈ ys, IsS v) (e : xs.map strOf = ys.map strOf) : RcAt A s (.ref l) (.ref b) true := by
  have := RcAt.lists (e := fun _ => true) hl hb (size_of_map e) hu (eqAt_items hx hy e)
  rwa [show ((List.range xs.toArray.size).all fun _ => true) = true from by simp] at this
theorem ne_strs {prog : Program} {w : World} {E Q : Value → Shared → Prop} {l b : Addr} {xs ys : List Value} (hl : s.heap.IsList l xs.toArray) (hb : s.heap.IsList b ys.toArray) (hu : A.units < cLine) (hx : ∀ v ∈ xs, IsS v) (hy : ∀ v ∈ ys, IsS v) (e : xs.map strOf = ys.map strOf) (h : Q (.bool false) s) :
    wpAny (model prog w) A (compareOp .NotEq (.ref l) (.ref b)) Q E s := by
  have := RcNeAt.lists (e := fun _ => true) hl hb (size_of_map e) hu (eqAt_items hx hy e)
  rw [show ((List.range xs.toArray.size).all fun _ => true) = true from by simp] at this
  exact this prog w E Q h
theorem eq_takes {prog : Program} {w : World} {E Q : Value → Shared → Prop} {h₀ : Heap} {L : Addr} {news S₁ S₂ : List (Addr × Obj)} {l b : Addr} {xs ys : List Value} {k1 k2 i : Nat} {so : List Str} (N : News h₀ L s.heap news) (hl : (l, listOf xs.toArray k1) ∈ news) (hb : (b, listOf ys.toArray k2) ∈ news)
    (h1 : Takes S₁ so i xs) (h2 : Takes S₂ so i ys) (hs1 : ∀ p ∈ S₁, p ∈ news) (hs2 : ∀ p ∈ S₂, p ∈ news) (hu : A.units + 5 < cLine) (h : Q (.bool true) s) :
    wpAny (model prog w) A (compareOp .Eq (.ref l) (.ref b)) Q E s := by
  have il : s.heap.IsList l xs.toArray := PySem.IsL.isList (n := k1) (N _ hl).1
  have ib : s.heap.IsList b ys.toArray := PySem.IsL.isList (n := k2) (N _ hb).1
  refine eq_listAt (e := fun _ => true) il ib (by simp [h1.1, h2.1]) (by omega) ?_ (by rw [show ((List.range xs.toArray.size).all fun _ => true) = true from by simp]; exact h)
  intro j q1 q2
  have q1' : j < xs.length := by simpa using q1
  have q2' : j < ys.length := by simpa using q2
  obtain ⟨a, us, ka, ea, hma, hua, ma⟩ := h1.2 j (by rw [← h1.1]; exact q1')
  obtain ⟨c, ws, kc, ec, hmc, hwc, mc⟩ := h2.2 j (by rw [← h2.1]; exact q2')
  rw [List.getD_eq_getElem?_getD, List.getElem?_eq_getElem q1'] at ea
  rw [List.getD_eq_getElem?_getD, List.getElem?_eq_getElem q2'] at ec
  have ea' : xs[j] = .ref a := ea
  have ec' : ys[j] = .ref c := ec
  have ia : s.heap.IsList a us.toArray := PySem.IsL.isList (n := ka) (N _ (hs1 _ hma)).1
  have ic : s.heap.IsList c ws.toArray := PySem.IsL.isList (n := kc) (N _ (hs2 _ hmc)).1
  simp only [List.getElem_toArray]
  rw [ea', ec']
  by_cases hac : a = c
  · subst hac
    exact EqAt.same _
  · exact EqAt.of_refs hac (rc_strs ia ic (by show A.units + 1 < cLine; omega) hua hwc (ma.trans mc.symm))
end
end
section
set_option maxRecDepth 100000
set_option maxHeartbeats 4000000
open PySem PySem.W PySem.Calls PyProof.Rows PyProof.Rows.LCg
theorem news_pull {h₀ h : Heap} {L l : Addr} {o : Obj} {all : List (Addr × Obj)} (N : News h₀ L h all) (hm : (l, o) ∈ all) :
    News h₀ L h ((l, o) :: all.filter fun p => decide (p.1 ≠ l)) ∧ (∀ p ∈ all.filter (fun p => decide (p.1 ≠ l)), p.1 ≠ l) ∧ ∀ p ∈ all, p ∈ (l, o) :: all.filter fun p => decide (p.1 ≠ l) := by
  refine ⟨fun p hp => ?_, fun p hp => ?_, fun p hp => ?_⟩
  · rcases List.mem_cons.mp hp with rfl | hp
    · exact N _ hm
    · exact N _ (List.mem_filter.mp hp).1
  · exact of_decide_eq_true (List.mem_filter.mp hp).2
  · by_cases e : p.1 = l
    · obtain ⟨a, b⟩ := p
      have e' : a = l := e
      subst e'
      have h1 := (N _ hp).1
      have h2 := (N _ hm).1
      have e2 : b = o := Option.some.inj (h1.symm.trans h2)
      rw [e2]
      exact List.mem_cons_self ..
    · exact List.mem_cons_of_mem _ (List.mem_filter.mpr ⟨hp, decide_eq_true e⟩)
theorem c_nsmallM {w : World} {mean : ExcName → Option Value} {mg mb : Str → Option Value} :
   ∀ (dp un : Nat) (gd : Option (List Code)) (cn : Str) (cs : Scope) (a : Addr) (ccd : Value) (cl : List (Str × Addr)) (outer : List Env) (A₀ : Around) (base h₀ : Heap) (L : Addr) (m : Str → Option Value) (all : List (Addr × Obj)) (s : Shared) (l : Addr) (n0 : Nat) (ts : List Value) (n : Nat) (tn : Tok)
    (Q E : Value → Shared → Prop),
    Below A₀ base outer h₀ → Fr h₀ L s.heap m → (hd.heap_39 w.params).In h₀ → News h₀ L s.heap all →
    Top hd.view_39 (looseW hd.view_39 [Str.ofString "nsmallest", Str.ofString "escape", Str.ofString "unescape"]) mean mg mb h₀ → cs.kind = .function →
    (l, listOf ts.toArray n0) ∈ all → (∀ v ∈ ts, IsS v) → (∀ v ∈ ts, (strOf v).length ≤ 100) → 2 ≤ ts.length → ts.length ≤ 50 → n ≤ 50 → dp + 14 < recursionLimit → un + 1500 < cLine →
    (∀ h' tk' (D : Addr) (ys : List Value) (k9 : Nat), Fr h₀ L h' m → News h₀ L h' ((D, listOf ys.toArray k9) :: all) → (∀ p ∈ all, p.1 < D) → (∀ so : List Str, so.Perm (ts.map strOf) → so.Pairwise (fun a b => slt (esc b) (esc a) = false) → (∀ v ∈ ys, IsS v) ∧ ys.map strOf = so.take n) → Q (.ref D) { s with heap := h', toks := tk' }) →
    wpAny (model PySem.Challenge.rw_ij0043_01.row.prog w) (ktrTop dp un gd cn cs L a ccd cl outer) (call (.ref 76) [.int n tn, .ref l] [(Str.ofString "key", .ref 92)]) Q E s := by
  intro dp un gd cn cs a ccd cl outer A₀ base h₀ L m all s l n0 ts n tn Q E B F X N T hk hm hS hL h2 h50 hn hdp hun hret
  obtain ⟨N1, hr, hall⟩ := news_pull N hm
  refine c_nsmall dp un gd cn cs a ccd cl outer A₀ base h₀ L m _ s l n0 ts n tn Q E B F X N1 T hk hr hS hL h2 h50 hn hdp hun ?_
  intro h' tk' D ys k9 F' N' lt hy
  refine hret h' tk' D ys k9 F' (fun p hp => ?_) (fun p hp => lt p (hall p hp)) hy
  rcases List.mem_cons.mp hp with rfl | hp
  · exact N' _ (List.mem_cons_self ..)
  · exact N' _ (List.mem_cons_of_mem _ (hall p hp))
noncomputable def BInv (base : List (Addr × Obj)) (so : List Str) (i : Nat) (ys : List Value) (news : List (Addr × Obj)) : Prop := ∃ S, news = base ++ S ∧ Takes S so i ys
theorem BInv.start {base : List (Addr × Obj)} {so : List Str} : BInv base so 0 [] base := ⟨[], (List.append_nil _).symm, Takes.nil⟩
theorem restU_B {prog : Program} {w : World} {A : Around} {s : Shared} {h₀ : Heap} {L : Addr} {m : Str → Option Value} {env : Env} {elt : PySem.Expr} {x : Str} {scope : Scope} {cl : List (Str × Addr)} {Fin : List Value → List (Addr × Obj) → Prop} (n : Nat) {base : List (Addr × Obj)} (so : List Str)
    (step : ∀ i ys S, i < n → Takes S so i ys → ∀ I oI C oC D m₂ h tk t (E' : Value → Shared → Prop), NsObj oC m₂ → m₂ x = some (.int (i : Int) t) → Fr h₀ L h m → News h₀ L h ((I, oI) :: (C, oC) :: (D, lst ys) :: (base ++ S)) → Off3 I C D (base ++ S) → ((@Ne Nat I C) ∧ (@Ne Nat I D) ∧ (@Ne Nat C D)) →
        wpAny (model prog w) A (eval elt (compEnvC scope cl C env)) (CompEnd h₀ L m { s with heap := h, toks := tk } I oI C oC D (lst ys) (fun _ => True) (fun y news' => BInv base so (i + 1) (ys ++ [y]) news')) E' { s with heap := h, toks := tk })
    (fin : ∀ ys S, Takes S so n ys → Fin ys (base ++ S)) : CompRest prog w A h₀ L m env elt x scope cl s (fun _ => True) (fun i v => ∃ t, v = .int (0 + (i : Int)) t) Fin n 0 [] base := by
  refine restU_inv _ (BInv base so) BInv.start ?_ ?_
  · intro i ys news hi hI v I oI C oC D m₂ h tk E' hP hC hx FF NN off ne
    obtain ⟨S, rfl, hT⟩ := hI
    obtain ⟨t9, hv9⟩ := hP
    rw [Int.zero_add] at hv9
    subst hv9
    exact step i ys S hi hT I oI C oC D m₂ h tk t9 E' hC hx FF NN off ne
  · intro ys news hI
    obtain ⟨S, rfl, hT⟩ := hI
    exact fin ys S hT
theorem take_end {h₀ h' : Heap} {L I C D D9 : Addr} {m : Str → Option Value} {s₁ : Shared} {oI oC oD : Obj} {base S all : List (Addr × Obj)} {so : List Str} {i tk k9 : Nat} {ys ys9 : List Value} (F : Fr h₀ L h' m) (N : News h₀ L h' ((D9, listOf ys9.toArray k9) :: all))
    (sub : ∀ p ∈ (I, oI) :: (C, oC) :: (D, oD) :: (base ++ S), p ∈ all) (lt : ∀ p ∈ all, p.1 < D9) (off : Off3 I C D (base ++ S)) (T : Takes S so i ys) (hy : (∀ v ∈ ys9, IsS v) ∧ ys9.map strOf = so.take i) :
    CompEnd h₀ L m s₁ I oI C oC D oD (fun _ => True) (fun y news' => BInv base so (i + 1) (ys ++ [y]) news') (.ref D9) { s₁ with heap := h', toks := tk } := by
  refine CompEnd.intro F N (base ++ ((D9, listOf ys9.toArray k9) :: S)) (fun p hp => ?_) (Off3.of fun p hp => ?_) trivial ⟨_, rfl, T.snoc (fun p hp => List.mem_cons_of_mem _ hp) ⟨D9, ys9, k9, rfl, List.mem_cons_self .., hy⟩⟩
  · have hp' : p = (D9, listOf ys9.toArray k9) ∨ p ∈ (I, oI) :: (C, oC) :: (D, oD) :: (base ++ S) := by
      simp only [List.mem_cons, List.mem_append] at hp ⊢
      rcases hp with hp | hp | hp | hp | hp | hp <;> first | with_reducible (first | exact Or.inl hp | exact hp | exact Or.inr (Or.inl hp) | exact Or.inr (hp) | exact Or.inr (Or.inr (Or.inl hp)) | exact Or.inr (Or.inr (hp)) | exact Or.inr (Or.inr (Or.inr (Or.inl hp))) | exact Or.inr (Or.inr (Or.inr (hp))) | exact Or.inr (Or.inr (Or.inr (Or.inr (Or.inl hp)))) | exact Or.inr (Or.inr (Or.inr (Or.inr (hp)))) | exact Or.inr (Or.inr (Or.inr (Or.inr (Or.inr (Or.inl hp))))) | exact Or.inr (Or.inr (Or.inr (Or.inr (Or.inr (hp))))) | exact Or.inr (Or.inr (Or.inr (Or.inr (Or.inr (Or.inr (Or.inl hp)))))) | exact Or.inr (Or.inr (Or.inr (Or.inr (Or.inr (Or.inr (hp)))))) | exact Or.inr (Or.inr (Or.inr (Or.inr (Or.inr (Or.inr (Or.inr (Or.inl hp))))))) | exact Or.inr (Or.inr (Or.inr (Or.inr (Or.inr (Or.inr (Or.inr (hp))))))) | exact Or.inr (Or.inr (Or.inr (Or.inr (Or.inr (Or.inr (Or.inr (Or.inr (Or.inl hp)))))))) | exact Or.inr (Or.inr (Or.inr (Or.inr (Or.inr (Or.inr (Or.inr (Or.inr (hp)))))))) | exact Or.inr (Or.inr (Or.inr (Or.inr (Or.inr (Or.inr (Or.inr (Or.inr (Or.inr (Or.inl hp))))))))) | exact Or.inr (Or.inr (Or.inr (Or.inr (Or.inr (Or.inr (Or.inr (Or.inr (Or.inr (hp))))))))) | exact Or.inl (Or.inr hp) | exact Or.inl (Or.inl hp) | exact Or.inl (Or.inl (Or.inr hp)) | exact Or.inl (Or.inl (Or.inl hp)) | exact Or.inl (Or.inr (Or.inl hp)) | exact Or.inr (Or.inl (Or.inr hp)) | exact Or.inr (Or.inl (Or.inl hp)) | exact Or.inr (Or.inl (Or.inl (Or.inr hp))) | exact Or.inr (Or.inl (Or.inl (Or.inl hp))) | exact Or.inr (Or.inl (Or.inr (Or.inl hp))) | exact Or.inr (Or.inr (Or.inl (Or.inr hp))) | exact Or.inr (Or.inr (Or.inl (Or.inl hp))) | exact Or.inr (Or.inr (Or.inl (Or.inl (Or.inr hp)))) | exact Or.inr (Or.inr (Or.inl (Or.inl (Or.inl hp)))) | exact Or.inr (Or.inr (Or.inl (Or.inr (Or.inl hp)))) | exact Or.inr (Or.inr (Or.inr (Or.inl (Or.inr hp)))) | exact Or.inr (Or.inr (Or.inr (Or.inl (Or.inl hp)))) | exact Or.inr (Or.inr (Or.inr (Or.inl (Or.inl (Or.inr hp))))) | exact Or.inr (Or.inr (Or.inr (Or.inl (Or.inl (Or.inl hp))))) | exact Or.inr (Or.inr (Or.inr (Or.inl (Or.inr (Or.inl hp))))) | exact Or.inr (Or.inr (Or.inr (Or.inr (Or.inl (Or.inr hp))))) | exact Or.inr (Or.inr (Or.inr (Or.inr (Or.inl (Or.inl hp))))) | exact Or.inr (Or.inr (Or.inr (Or.inr (Or.inl (Or.inl (Or.inr hp)))))) | exact Or.inr (Or.inr (Or.inr (Or.inr (Or.inl (Or.inl (Or.inl hp)))))) | exact Or.inr (Or.inr (Or.inr (Or.inr (Or.inl (Or.inr (Or.inl hp)))))) | exact Or.inr (Or.inr (Or.inr (Or.inr (Or.inr (Or.inl (Or.inr hp)))))) | exact Or.inr (Or.inr (Or.inr (Or.inr (Or.inr (Or.inl (Or.inl hp)))))) | exact Or.inr (Or.inr (Or.inr (Or.inr (Or.inr (Or.inl (Or.inl (Or.inr hp))))))) | exact Or.inr (Or.inr (Or.inr (Or.inr (Or.inr (Or.inl (Or.inl (Or.inl hp))))))) | exact Or.inr (Or.inr (Or.inr (Or.inr (Or.inr (Or.inl (Or.inr (Or.inl hp))))))) | exact Or.inr (Or.inr (Or.inr (Or.inr (Or.inr (Or.inr (Or.inl (Or.inr hp))))))) | exact Or.inr (Or.inr (Or.inr (Or.inr (Or.inr (Or.inr (Or.inl (Or.inl hp))))))) | exact Or.inr (Or.inr (Or.inr (Or.inr (Or.inr (Or.inr (Or.inl (Or.inl (Or.inr hp)))))))) | exact Or.inr (Or.inr (Or.inr (Or.inr (Or.inr (Or.inr (Or.inl (Or.inl (Or.inl hp)))))))) | exact Or.inr (Or.inr (Or.inr (Or.inr (Or.inr (Or.inr (Or.inl (Or.inr (Or.inl hp)))))))) | exact Or.inr (Or.inr (Or.inr (Or.inr (Or.inr (Or.inr (Or.inr (Or.inl (Or.inr hp)))))))) | exact Or.inr (Or.inr (Or.inr (Or.inr (Or.inr (Or.inr (Or.inr (Or.inl (Or.inl hp)))))))) | exact Or.inr (Or.inr (Or.inr (Or.inr (Or.inr (Or.inr (Or.inr (Or.inl (Or.inl (Or.inr hp))))))))) | exact Or.inr (Or.inr (Or.inr (Or.inr (Or.inr (Or.inr (Or.inr (Or.inl (Or.inl (Or.inl hp))))))))) | exact Or.inr (Or.inr (Or.inr (Or.inr (Or.inr (Or.inr (Or.inr (Or.inl (Or.inr (Or.inl hp)))))))))) | simp [hp]
    rcases hp' with rfl | hp'
    · exact List.mem_cons_self ..
    · exact List.mem_cons_of_mem _ (sub p hp')
  · have hp' : p = (D9, listOf ys9.toArray k9) ∨ p ∈ base ++ S := by
      simp only [List.mem_cons, List.mem_append] at hp ⊢
      rcases hp with hp | hp | hp <;> first | with_reducible (first | exact Or.inl hp | exact hp | exact Or.inr (Or.inl hp) | exact Or.inr (hp) | exact Or.inr (Or.inr (Or.inl hp)) | exact Or.inr (Or.inr (hp)) | exact Or.inr (Or.inr (Or.inr (Or.inl hp))) | exact Or.inr (Or.inr (Or.inr (hp))) | exact Or.inr (Or.inr (Or.inr (Or.inr (Or.inl hp)))) | exact Or.inr (Or.inr (Or.inr (Or.inr (hp)))) | exact Or.inr (Or.inr (Or.inr (Or.inr (Or.inr (Or.inl hp))))) | exact Or.inr (Or.inr (Or.inr (Or.inr (Or.inr (hp))))) | exact Or.inr (Or.inr (Or.inr (Or.inr (Or.inr (Or.inr (Or.inl hp)))))) | exact Or.inr (Or.inr (Or.inr (Or.inr (Or.inr (Or.inr (hp)))))) | exact Or.inr (Or.inr (Or.inr (Or.inr (Or.inr (Or.inr (Or.inr (Or.inl hp))))))) | exact Or.inr (Or.inr (Or.inr (Or.inr (Or.inr (Or.inr (Or.inr (hp))))))) | exact Or.inr (Or.inr (Or.inr (Or.inr (Or.inr (Or.inr (Or.inr (Or.inr (Or.inl hp)))))))) | exact Or.inr (Or.inr (Or.inr (Or.inr (Or.inr (Or.inr (Or.inr (Or.inr (hp)))))))) | exact Or.inr (Or.inr (Or.inr (Or.inr (Or.inr (Or.inr (Or.inr (Or.inr (Or.inr (Or.inl hp))))))))) | exact Or.inr (Or.inr (Or.inr (Or.inr (Or.inr (Or.inr (Or.inr (Or.inr (Or.inr (hp))))))))) | exact Or.inl (Or.inr hp) | exact Or.inl (Or.inl hp) | exact Or.inl (Or.inl (Or.inr hp)) | exact Or.inl (Or.inl (Or.inl hp)) | exact Or.inl (Or.inr (Or.inl hp)) | exact Or.inr (Or.inl (Or.inr hp)) | exact Or.inr (Or.inl (Or.inl hp)) | exact Or.inr (Or.inl (Or.inl (Or.inr hp))) | exact Or.inr (Or.inl (Or.inl (Or.inl hp))) | exact Or.inr (Or.inl (Or.inr (Or.inl hp))) | exact Or.inr (Or.inr (Or.inl (Or.inr hp))) | exact Or.inr (Or.inr (Or.inl (Or.inl hp))) | exact Or.inr (Or.inr (Or.inl (Or.inl (Or.inr hp)))) | exact Or.inr (Or.inr (Or.inl (Or.inl (Or.inl hp)))) | exact Or.inr (Or.inr (Or.inl (Or.inr (Or.inl hp)))) | exact Or.inr (Or.inr (Or.inr (Or.inl (Or.inr hp)))) | exact Or.inr (Or.inr (Or.inr (Or.inl (Or.inl hp)))) | exact Or.inr (Or.inr (Or.inr (Or.inl (Or.inl (Or.inr hp))))) | exact Or.inr (Or.inr (Or.inr (Or.inl (Or.inl (Or.inl hp))))) | exact Or.inr (Or.inr (Or.inr (Or.inl (Or.inr (Or.inl hp))))) | exact Or.inr (Or.inr (Or.inr (Or.inr (Or.inl (Or.inr hp))))) | exact Or.inr (Or.inr (Or.inr (Or.inr (Or.inl (Or.inl hp))))) | exact Or.inr (Or.inr (Or.inr (Or.inr (Or.inl (Or.inl (Or.inr hp)))))) | exact Or.inr (Or.inr (Or.inr (Or.inr (Or.inl (Or.inl (Or.inl hp)))))) | exact Or.inr (Or.inr (Or.inr (Or.inr (Or.inl (Or.inr (Or.inl hp)))))) | exact Or.inr (Or.inr (Or.inr (Or.inr (Or.inr (Or.inl (Or.inr hp)))))) | exact Or.inr (Or.inr (Or.inr (Or.inr (Or.inr (Or.inl (Or.inl hp)))))) | exact Or.inr (Or.inr (Or.inr (Or.inr (Or.inr (Or.inl (Or.inl (Or.inr hp))))))) | exact Or.inr (Or.inr (Or.inr (Or.inr (Or.inr (Or.inl (Or.inl (Or.inl hp))))))) | exact Or.inr (Or.inr (Or.inr (Or.inr (Or.inr (Or.inl (Or.inr (Or.inl hp))))))) | exact Or.inr (Or.inr (Or.inr (Or.inr (Or.inr (Or.inr (Or.inl (Or.inr hp))))))) | exact Or.inr (Or.inr (Or.inr (Or.inr (Or.inr (Or.inr (Or.inl (Or.inl hp))))))) | exact Or.inr (Or.inr (Or.inr (Or.inr (Or.inr (Or.inr (Or.inl (Or.inl (Or.inr hp)))))))) | exact Or.inr (Or.inr (Or.inr (Or.inr (Or.inr (Or.inr (Or.inl (Or.inl (Or.inl hp)))))))) | exact Or.inr (Or.inr (Or.inr (Or.inr (Or.inr (Or.inr (Or.inl (Or.inr (Or.inl hp)))))))) | exact Or.inr (Or.inr (Or.inr (Or.inr (Or.inr (Or.inr (Or.inr (Or.inl (Or.inr hp)))))))) | exact Or.inr (Or.inr (Or.inr (Or.inr (Or.inr (Or.inr (Or.inr (Or.inl (Or.inl hp)))))))) | exact Or.inr (Or.inr (Or.inr (Or.inr (Or.inr (Or.inr (Or.inr (Or.inl (Or.inl (Or.inr hp))))))))) | exact Or.inr (Or.inr (Or.inr (Or.inr (Or.inr (Or.inr (Or.inr (Or.inl (Or.inl (Or.inl hp))))))))) | exact Or.inr (Or.inr (Or.inr (Or.inr (Or.inr (Or.inr (Or.inr (Or.inl (Or.inr (Or.inl hp)))))))))) | simp [hp]
    rcases hp' with rfl | hp'
    · exact ⟨Nat.ne_of_gt (lt _ (sub (I, oI) (by first | k_mem | simp))), Nat.ne_of_gt (lt _ (sub (C, oC) (by first | k_mem | simp))), Nat.ne_of_gt (lt _ (sub (D, oD) (by first | k_mem | simp)))⟩
    · exact off.mem p hp'
theorem isS_take {so : List Str} {out : List Value} {i : Nat} (h : ∀ v ∈ out, IsS v) (e : out.map strOf = so) : (∀ v ∈ out.take i, IsS v) ∧ (out.take i).map strOf = so.take i :=
  ⟨fun v hv => h v (List.take_subset _ _ hv), by rw [List.map_take, e]⟩
end
section
set_option maxRecDepth 100000
set_option maxHeartbeats 8000000
open PySem PySem.W PySem.Calls PyProof.Rows
theorem news_swap {h₀ h : Heap} {L : Addr} {a b : Addr × Obj} {r : List (Addr × Obj)} (N : News h₀ L h (a :: b :: r)) : News h₀ L h (b :: a :: r) := fun p hp => N p (by
  simp only [List.mem_cons] at hp ⊢
  rcases hp with hp | hp | hp <;> first | with_reducible (first | exact Or.inl hp | exact hp | exact Or.inr (Or.inl hp) | exact Or.inr (hp) | exact Or.inr (Or.inr (Or.inl hp)) | exact Or.inr (Or.inr (hp)) | exact Or.inr (Or.inr (Or.inr (Or.inl hp))) | exact Or.inr (Or.inr (Or.inr (hp))) | exact Or.inr (Or.inr (Or.inr (Or.inr (Or.inl hp)))) | exact Or.inr (Or.inr (Or.inr (Or.inr (hp)))) | exact Or.inr (Or.inr (Or.inr (Or.inr (Or.inr (Or.inl hp))))) | exact Or.inr (Or.inr (Or.inr (Or.inr (Or.inr (hp))))) | exact Or.inr (Or.inr (Or.inr (Or.inr (Or.inr (Or.inr (Or.inl hp)))))) | exact Or.inr (Or.inr (Or.inr (Or.inr (Or.inr (Or.inr (hp)))))) | exact Or.inr (Or.inr (Or.inr (Or.inr (Or.inr (Or.inr (Or.inr (Or.inl hp))))))) | exact Or.inr (Or.inr (Or.inr (Or.inr (Or.inr (Or.inr (Or.inr (hp))))))) | exact Or.inr (Or.inr (Or.inr (Or.inr (Or.inr (Or.inr (Or.inr (Or.inr (Or.inl hp)))))))) | exact Or.inr (Or.inr (Or.inr (Or.inr (Or.inr (Or.inr (Or.inr (Or.inr (hp)))))))) | exact Or.inr (Or.inr (Or.inr (Or.inr (Or.inr (Or.inr (Or.inr (Or.inr (Or.inr (Or.inl hp))))))))) | exact Or.inr (Or.inr (Or.inr (Or.inr (Or.inr (Or.inr (Or.inr (Or.inr (Or.inr (hp))))))))) | exact Or.inl (Or.inr hp) | exact Or.inl (Or.inl hp) | exact Or.inl (Or.inl (Or.inr hp)) | exact Or.inl (Or.inl (Or.inl hp)) | exact Or.inl (Or.inr (Or.inl hp)) | exact Or.inr (Or.inl (Or.inr hp)) | exact Or.inr (Or.inl (Or.inl hp)) | exact Or.inr (Or.inl (Or.inl (Or.inr hp))) | exact Or.inr (Or.inl (Or.inl (Or.inl hp))) | exact Or.inr (Or.inl (Or.inr (Or.inl hp))) | exact Or.inr (Or.inr (Or.inl (Or.inr hp))) | exact Or.inr (Or.inr (Or.inl (Or.inl hp))) | exact Or.inr (Or.inr (Or.inl (Or.inl (Or.inr hp)))) | exact Or.inr (Or.inr (Or.inl (Or.inl (Or.inl hp)))) | exact Or.inr (Or.inr (Or.inl (Or.inr (Or.inl hp)))) | exact Or.inr (Or.inr (Or.inr (Or.inl (Or.inr hp)))) | exact Or.inr (Or.inr (Or.inr (Or.inl (Or.inl hp)))) | exact Or.inr (Or.inr (Or.inr (Or.inl (Or.inl (Or.inr hp))))) | exact Or.inr (Or.inr (Or.inr (Or.inl (Or.inl (Or.inl hp))))) | exact Or.inr (Or.inr (Or.inr (Or.inl (Or.inr (Or.inl hp))))) | exact Or.inr (Or.inr (Or.inr (Or.inr (Or.inl (Or.inr hp))))) | exact Or.inr (Or.inr (Or.inr (Or.inr (Or.inl (Or.inl hp))))) | exact Or.inr (Or.inr (Or.inr (Or.inr (Or.inl (Or.inl (Or.inr hp)))))) | exact Or.inr (Or.inr (Or.inr (Or.inr (Or.inl (Or.inl (Or.inl hp)))))) | exact Or.inr (Or.inr (Or.inr (Or.inr (Or.inl (Or.inr (Or.inl hp)))))) | exact Or.inr (Or.inr (Or.inr (Or.inr (Or.inr (Or.inl (Or.inr hp)))))) | exact Or.inr (Or.inr (Or.inr (Or.inr (Or.inr (Or.inl (Or.inl hp)))))) | exact Or.inr (Or.inr (Or.inr (Or.inr (Or.inr (Or.inl (Or.inl (Or.inr hp))))))) | exact Or.inr (Or.inr (Or.inr (Or.inr (Or.inr (Or.inl (Or.inl (Or.inl hp))))))) | exact Or.inr (Or.inr (Or.inr (Or.inr (Or.inr (Or.inl (Or.inr (Or.inl hp))))))) | exact Or.inr (Or.inr (Or.inr (Or.inr (Or.inr (Or.inr (Or.inl (Or.inr hp))))))) | exact Or.inr (Or.inr (Or.inr (Or.inr (Or.inr (Or.inr (Or.inl (Or.inl hp))))))) | exact Or.inr (Or.inr (Or.inr (Or.inr (Or.inr (Or.inr (Or.inl (Or.inl (Or.inr hp)))))))) | exact Or.inr (Or.inr (Or.inr (Or.inr (Or.inr (Or.inr (Or.inl (Or.inl (Or.inl hp)))))))) | exact Or.inr (Or.inr (Or.inr (Or.inr (Or.inr (Or.inr (Or.inl (Or.inr (Or.inl hp)))))))) | exact Or.inr (Or.inr (Or.inr (Or.inr (Or.inr (Or.inr (Or.inr (Or.inl (Or.inr hp)))))))) | exact Or.inr (Or.inr (Or.inr (Or.inr (Or.inr (Or.inr (Or.inr (Or.inl (Or.inl hp)))))))) | exact Or.inr (Or.inr (Or.inr (Or.inr (Or.inr (Or.inr (Or.inr (Or.inl (Or.inl (Or.inr hp))))))))) | exact Or.inr (Or.inr (Or.inr (Or.inr (Or.inr (Or.inr (Or.inr (Or.inl (Or.inl (Or.inl hp))))))))) | exact Or.inr (Or.inr (Or.inr (Or.inr (Or.inr (Or.inr (Or.inr (Or.inl (Or.inr (Or.inl hp)))))))))) | simp [hp])
theorem law_holds : PySem.Challenge.rw_ij0043_01.Holds := hd (by
  w_top off
  k_go0
  all_goals (try k_fold)
  k_with_none
  k_with "call builtin:len" => (k_here; (with_reducible show wpAny _ _ (call (Value.builtin "len") [Value.ref _]) _ _ _); k_dflt (refine g_len (by k_asm) (by k_mem) (by first | omega | (simp only [List.length_append, List.length_cons, List.length_nil, List.length_set, List.length_dropLast, List.size_toArray] at *; omega)) ?_; k_whole); intro _ _)
  k_with "subscriptTail" => (k_here; (with_reducible show wpAny _ _ (subscriptTail _ _ (Value.ref _) (Value.int _ _)) _ _ _); k_dflt (refine g_sub (by k_asm) (by k_mem) (by first | omega | (simp only [List.length_append, List.length_cons, List.length_nil, List.length_set, List.length_dropLast, List.size_toArray] at *; omega)) (by first | omega | (simp only [List.length_append, List.length_cons, List.length_nil, List.length_set, List.length_dropLast, List.size_toArray] at *; omega)) (by first | omega | (simp only [List.length_append, List.length_cons, List.length_nil, List.length_set, List.length_dropLast, List.size_toArray] at *; omega)) ?_ (by with_unfolding_all rfl); k_whole))
  k_with "binaryOp RShift int int" => (k_here; (refine g_shr1 (by first | omega | (simp only [List.length_append, List.length_cons, List.length_nil, List.length_set, List.length_dropLast, List.size_toArray] at *; omega)) ?_); intro _ _)
  k_with "setItem ref int" => (k_here; (try dsimp only); k_dflt (refine g_set (by k_asm) (by k_asm) (by exact Upd.head (by assumption)) (by first | omega | (simp only [List.length_append, List.length_cons, List.length_nil, List.length_set, List.length_dropLast, List.size_toArray] at *; omega)) (by first | omega | (simp only [List.length_append, List.length_cons, List.length_nil, List.length_set, List.length_dropLast, List.size_toArray] at *; omega)) (by first | omega | (simp only [List.length_append, List.length_cons, List.length_nil, List.length_set, List.length_dropLast, List.size_toArray] at *; omega)) ?_; k_whole); intro h9q F9q N9q; (try k_sweep))
  k_with "call builtin:list.append" => (k_here; (with_reducible show wpAny _ _ (call (Value.builtin _) [Value.ref _, _]) _ _ _); k_dflt (refine g_app (by k_asm) (by k_asm) (by exact Upd.head (by assumption)) (by first | omega | (simp only [List.length_append, List.length_cons, List.length_nil, List.length_set, List.length_dropLast, List.size_toArray] at *; omega)) ?_; k_whole); intro h9q F9q N9q; (try k_sweep))
  k_with "call builtin:list.pop" => (k_here; (with_reducible show wpAny _ _ (call (Value.builtin _) [Value.ref _]) _ _ _); k_dflt (refine g_pop (by k_asm) (by k_asm) (by exact Upd.head (by assumption)) (by first | omega | (simp only [List.length_append, List.length_cons, List.length_nil, List.length_set, List.length_dropLast, List.size_toArray] at *; omega)) (by first | omega | (simp only [List.length_append, List.length_cons, List.length_nil, List.length_set, List.length_dropLast, List.size_toArray] at *; omega)) ?_; k_whole); intro h9q F9q N9q; (try k_sweep))
  k_with "truthy ref" => (k_here; (with_reducible show wpAny _ _ (truthy (Value.ref _)) _ _ _); k_dflt (refine g_truthy (by k_asm) (by k_mem) (by first | omega | (simp only [List.length_append, List.length_cons, List.length_nil, List.length_set, List.length_dropLast, List.size_toArray] at *; omega)) ?_; k_whole); intro _)
  k_with "exec For Name Name cons nil" => (k_here; (rename Fr _ _ _ _ => lF'); k_dflt (with_unfolding_all refine For_invVF lF' (by exact rfl) (by exact rfl) ?_; k_whole))
  k_with "eval ListComp" => (k_here; k_dflt (refine LCg.ListComp_U (F₀ := by k_asm) (by with_unfolding_all rfl) (by decide) (by rfl) (by decide) (by rfl) ?_))
  k_with "call ref" => (
    (with_reducible show wpAny _ _ (call (Value.ref 106) _ _) _ _ _)
    rename Fr _ _ _ _ => lF
    rename News _ _ _ _ => lN
    rename IntsAre _ _ => lI
    rename (_ < _ ∧ _ < _) => l1
    refine c_texts _ _ _ _ _ _ _ _ _ _ _ _ _ _ _ _ _ _ _ _ _ _ (by assumption) lF (by assumption) lN (by assumption) (by rfl) ?_ lI ?_ (by ktr_room) (by ktr_units) ?_
    · intro p hp
      rcases List.mem_cons.mp hp with rfl | hp
      · exact Nat.ne_of_lt l1.1
      · rw [List.mem_singleton.mp hp]
        exact Nat.ne_of_lt l1.2
    · rw [lI.length]
      exact List.length_take_le ..
    intro h' tk' DT yT kT FT NT dT hyT h4T h7T)
  k_with "call builtin:sorted" => (
    rename Fr _ _ _ _ => lF
    rename News _ _ _ _ => lN
    refine c_sortRank _ _ _ _ _ _ _ _ _ _ _ _ _ _ _ _ DT kT yT _ _ (by assumption) lF (by assumption) lN (by assumption) (by rfl) (fun v hv => (hyT v hv).1) (fun v hv => Nat.le_trans (hyT v hv).2 (by decide)) (by omega) (by omega) (by ktr_room) (by ktr_units) ?_
    intro h' tk' DD out c9 F' N' ltDD hperm hpw
    have hol : out.length = yT.length := hperm.length_eq)
  k_with "call ref" => (
    (with_reducible show wpAny _ _ (call (Value.ref 123) _ _) _ _ _)
    rename Fr _ _ _ _ => lF
    rename News _ _ _ _ => lN
    have lN2 := news_swap (a := (DD, listOf out.toArray c9)) (b := (DT, listOf yT.toArray kT)) lN
    refine c_popped _ _ _ _ _ _ _ _ _ _ _ _ _ _ _ _ DT kT yT _ _ (by assumption) lF (by assumption) lN2 (by assumption) (by rfl) ?_ (fun v hv => (hyT v hv).1) (fun v hv => (hyT v hv).2) (by omega) (by ktr_room) (by ktr_units) ?_
    · intro p hp
      rcases List.mem_cons.mp hp with rfl | hp
      · exact Nat.ne_of_gt (ltDD (DT, listOf yT.toArray kT) (List.mem_cons_self ..))
      rcases List.mem_cons.mp hp with rfl | hp
      · exact dT _ (List.mem_cons_self ..)
      rcases List.mem_cons.mp hp with rfl | hp
      · have := dT _ (List.mem_cons_of_mem _ (List.mem_cons_self ..))
        exact this
      rw [List.mem_singleton.mp hp]
      have := dT _ (List.mem_cons_of_mem _ (List.mem_cons_of_mem _ (List.mem_cons_self ..)))
      exact this
    intro h' tk' DP zs k9 F' N' ltDP hzS hzperm hzpw)
  k_with "compareOp NotEq ref ref" => (
    rename News _ _ _ _ => lN
    have hoS : ∀ v ∈ out, IsS v := fun v hv => (hyT v (hperm.mem_iff.mp hv)).1
    have hso : (out.map strOf).Perm (yT.map strOf) := hperm.map strOf
    have hsw : (out.map strOf).Pairwise (fun a b => slt (esc b) (esc a) = false) := by
      rw [List.pairwise_map]
      exact hpw.imp fun h => (rankV_eq _ _).symm.trans h
    refine ne_strs (xs := zs) (ys := out) (PySem.IsL.isList (n := k9) (lN (DP, listOf zs.toArray k9) (List.mem_cons_self ..)).1) (PySem.IsL.isList (n := c9) (lN (DD, listOf out.toArray c9) (List.mem_cons_of_mem _ (List.mem_cons_of_mem _ (List.mem_cons_self ..)))).1) (by ktr_units) hzS hoS (sorted_uniq (hzperm.trans hso.symm) hzpw hsw) ?_)
  k_with "CompSrc" => (
    rename Fr _ _ _ _ => lF
    rename News _ _ _ _ => lN
    rename IsRange _ _ _ _ _ _ _ _ => lR
    refine LCg.CompSrc.range (n := ((out.length : Int) + 1 - 0).toNat) (by rfl) lF lN lR (small_one (by omega) (by omega) (by omega) (by omega)) (rangeSize_nat _ _) (by rw [sizeLine_eq]; omega) ?_
    intro g
    first
    | (have := hT1
       refine restU_B _ (out.map strOf) (fun i ys S hi hT I oI C oC D m₂ h tk t9 E' hC hx FF NN off ne => ?_) (fun ys2 S2 hT2 => ?_))
    | (refine restU_B _ (out.map strOf) (fun i ys S hi hT I oI C oC D m₂ h tk t9 E' hC hx FF NN off ne => ?_) (fun ys1 S1 hT1 => ?_))
    all_goals (try dsimp only)
    all_goals (try k_fold))
  k_with "call ref" => (
    (with_reducible show wpAny _ _ (call (Value.ref 76) _ _) _ _ _)
    rename Fr _ _ _ _ => lF
    rename News _ _ _ _ => lN
    refine c_nsmallM _ _ _ _ _ _ _ _ _ _ _ _ _ _ _ _ DT kT yT i _ _ _ (by assumption) lF (by assumption) lN (by assumption) (by rfl) (by first | k_mem | simp) (fun v hv => (hyT v hv).1) (fun v hv => (hyT v hv).2) (by omega) (by omega) (by omega) (by ktr_room) (by ktr_units) ?_
    intro h' tk' DN yN kN F' N' ltDN hfN)
  k_with "subscriptTail" => (
    rename Fr _ _ _ _ => lF
    rename News _ _ _ _ => lN
    refine g_upto (vs := out) (k := c9) (n := i) lF lN (by first | k_mem | simp) (by omega) ?_ (by with_unfolding_all rfl) (by kmk_pure)
    intro D5 hD5 FD5 ND5 ltD5)
  k_with "CompEnd" => (
    rename Fr _ _ _ _ => lF
    rename News _ _ _ _ => lN
    first
    | exact take_end lF lN (fun p hp => hp) ltDN off hT (hfN _ hso hsw)
    | exact take_end lF lN (fun p hp => hp) ltD5 off hT (isS_take hoS rfl))
  k_with "compareOp Eq ref ref" => (
    rename News _ _ _ _ => lN
    refine eq_takes (xs := ys1) (ys := ys2) (k1 := ys1.length) (k2 := ys2.length) lN (by first | k_mem | simp) (by first | k_mem | simp) hT1 hT2 (fun p hp => by simp [hp]) (fun p hp => by simp [hp]) (by ktr_units) ?_)
  k_steps)
end
end
end Mine
set_option maxRecDepth 100000 in
set_option maxHeartbeats 8000000 in
theorem PySem.Challenge.cw_ij0043_01_holds : PySem.Challenge.rw_ij0043_01.Holds := by
  exact Mine.law_holds
